import JvmDerived
import JvmDerived.Pilot.@@N@@Statement
import JvmDerived.Pilot.@@N@@Code
set_option linter.unusedVariables false
set_option linter.unusedSimpArgs false
namespace Jvm.RoadKit
open Sem ClassFile Op Lib Jvm.Stand Jvm.Free Jvm.LawKit
section New
variable {p : Program} {l : Launch} {e : Env} {R : Room} {s : State} {m : MethodId} {args : Array Value} {below : List Frame} {meth : Method} {c : Code} {T : State} {locs : List Loc} {cells slots : Nat}
theorem retI (X : Stand p l e R s m args below meth c T locs cells slots) (hx : p.tables.exec = Jvm.exec) {pc : Nat} {Ls : Array Slot} {z : Int32} {rest : List Value} (hret : meth.sig.returnType = some .int) (hd : decode c.code pc = .ok (.ireturn, 1)) {fs : List Frame}
    (hl : ∀ (f : JFrame) (acts : List Action), f.method = m → f.locked = none → f.entered = [] → (doReturn e (T.setTop f) acts (some (.int z))).1 = T.setFrames fs) : Steps p.tables e below (T.setTop (mkF m pc Ls (.int z :: rest))) (T.setFrames fs) := by
  have hm' : T.vm.method? m = some meth := X.method'
  have hn : narrow .int (.int z) = .int z := rfl
  show Steps p.tables e below (T.setTop { method := m, pc := pc, locals := Ls, stack := _ :: rest, locked := none }) _
  jvm_step X.here [X.here.top, hx, hd, hm', hret, hn]
  first | (intro acts; rw [hl _ acts rfl rfl rfl]) | rw [hl _ _ rfl rfl rfl]
  exact Steps.refl _
end New
end Jvm.RoadKit
namespace Jvm.OwnKit
open Sem ClassFile Op Lib Jvm.Stand Jvm.Free Jvm.LawKit Jvm.RoadKit
def b2i (b : Bool) : Int32 := if b = true then 1 else 0
theorem b2i_eq {b : Bool} (h : ¬ b = true) : b2i b = 0 := if_neg h
theorem b2i_ne {b : Bool} (h : b = true) : ¬ b2i b = 0 := by rw [b2i, if_pos h]; decide
theorem nar_b2i (b : Bool) : nar .boolean (b2i b) = b2i b := by cases b <;> decide
theorem b2i_one {b : Bool} (h : b = true) : nar .boolean (b2i b) = 1 := by rw [h]; decide
end Jvm.OwnKit
namespace Jvm.OwnKit
open Sem ClassFile Op Lib Jvm.Stand Jvm.Free Jvm.LawKit Jvm.RoadKit
section Arrays
variable {Z : State} {h h' : Heap} {a b : Addr} {ty : FieldType} {z : Int32} {G : Int32 → Value}
def AG (Z : State) (h : Heap) (a : Addr) (ty : FieldType) (z : Int32) (G : Int32 → Value) : Prop := ∃ c : Cell, Arr Z h a c ty ∧ c.slots.size = z.toNatClampNeg ∧ ¬ z < 0 ∧ ∀ j : Int32, ¬ j < 0 → j < z → c.slots[j.toNatClampNeg]? = some (G j)
def AJ (Z : State) (h : Heap) (a : Addr) (z : Int32) (f : Int32 → Int64) : Prop := AG Z h a .long z (fun i => .long (f i))
def AI (Z : State) (h : Heap) (a : Addr) (ty : FieldType) (z : Int32) (f : Int32 → Int32) : Prop := AG Z h a ty z (fun i => .int (f i))
def upA {α : Type} (f : Int32 → α) (j : Int32) (v : α) : Int32 → α := fun i => if i = j then v else f i
theorem upA_hit {α : Type} {f : Int32 → α} {j : Int32} {v : α} : upA f j v j = v := if_pos rfl
theorem upA_miss {α : Type} {f : Int32 → α} {i j : Int32} {v : α} (q : ¬ i = j) : upA f j v i = f i := if_neg q
theorem AG.lt (F : AG Z h a ty z G) : a < h.size := by obtain ⟨c, A, -⟩ := F; exact A.lt
theorem AG.ext (F : AG Z h a ty z G) (E : Ext h h') : AG Z h' a ty z G := by obtain ⟨c, A, r⟩ := F; exact ⟨c, A.ext E, r⟩
theorem AG.other (F : AG Z h b ty z G) {sl : Nat} {v : Value} (W : Wr h h' a sl v) (q : b ≠ a) : AG Z h' b ty z G := by obtain ⟨c, A, r⟩ := F; exact ⟨c, A.other W q, r⟩
theorem AG.new {k : ClassId} (A : Arr Z h a (newA k ty z) ty) (q : ¬ z < 0) : AG Z h a ty z (fun _ => defaultValue ty) :=
  ⟨_, A, sz_new _ _ _, q, fun j h1 h2 => get_new (by have w := inb_of (sz_new k ty z) ⟨h1, h2⟩; rwa [sz_new] at w)⟩
theorem AG.set (F : AG Z h a ty z G) {j : Int32} {v : Value} (W : Wr h h' a j.toNatClampNeg v) (q : ¬ j < 0 ∧ j < z) : AG Z h' a ty z (upA G j v) := by
  obtain ⟨c, A, S, M, H⟩ := F
  refine ⟨_, A.same W, by rw [sz_set]; exact S, M, fun i h1 h2 => ?_⟩
  by_cases e : i = j
  · rw [upA, if_pos e]; exact get_hit (inb_of S q) e
  · rw [upA, if_neg e, get_miss q.1 h1 e]; exact H i h1 h2
theorem AG.keep (F : AG Z h a ty z G) {ws : List Addr} (K : Keep h h' ws) (q : a ∉ ws) : AG Z h' a ty z G := by obtain ⟨c, A, r⟩ := F; exact ⟨c, ⟨K.2.1 a c A.1 q, A.2⟩, r⟩
theorem AJ.keep {f : Int32 → Int64} (F : AJ Z h a z f) {ws : List Addr} (K : Keep h h' ws) (q : a ∉ ws) : AJ Z h' a z f := AG.keep F K q
theorem AI.keep {f : Int32 → Int32} (F : AI Z h a ty z f) {ws : List Addr} (K : Keep h h' ws) (q : a ∉ ws) : AI Z h' a ty z f := AG.keep F K q
theorem AJ.lt {f : Int32 → Int64} (F : AJ Z h a z f) : a < h.size := AG.lt F
theorem AI.lt {f : Int32 → Int32} (F : AI Z h a ty z f) : a < h.size := AG.lt F
theorem AJ.ext {f : Int32 → Int64} (F : AJ Z h a z f) (E : Ext h h') : AJ Z h' a z f := AG.ext F E
theorem AI.ext {f : Int32 → Int32} (F : AI Z h a ty z f) (E : Ext h h') : AI Z h' a ty z f := AG.ext F E
theorem AJ.other {f : Int32 → Int64} (F : AJ Z h b z f) {sl : Nat} {v : Value} (W : Wr h h' a sl v) (q : b ≠ a) : AJ Z h' b z f := AG.other F W q
theorem AI.other {f : Int32 → Int32} (F : AI Z h b ty z f) {sl : Nat} {v : Value} (W : Wr h h' a sl v) (q : b ≠ a) : AI Z h' b ty z f := AG.other F W q
theorem AJ.set {f : Int32 → Int64} (F : AJ Z h a z f) {j : Int32} {v : Int64} (W : Wr h h' a j.toNatClampNeg (.long v)) (q : ¬ j < 0 ∧ j < z) : AJ Z h' a z (upA f j v) := by
  have e : (fun i => Value.long (upA f j v i)) = upA (fun i => Value.long (f i)) j (.long v) := funext fun i => by unfold upA; split <;> rfl
  unfold AJ; rw [e]; exact AG.set F W q
theorem AI.set {f : Int32 → Int32} (F : AI Z h a ty z f) {j v : Int32} (W : Wr h h' a j.toNatClampNeg (.int v)) (q : ¬ j < 0 ∧ j < z) : AI Z h' a ty z (upA f j v) := by
  have e : (fun i => Value.int (upA f j v i)) = upA (fun i => Value.int (f i)) j (.int v) := funext fun i => by unfold upA; split <;> rfl
  unfold AI; rw [e]; exact AG.set F W q
theorem AJ.congr {f g : Int32 → Int64} (F : AJ Z h a z f) (q : ∀ j : Int32, ¬ j < 0 → j < z → f j = g j) : AJ Z h a z g := by
  obtain ⟨c, A, S, M, H⟩ := F; exact ⟨c, A, S, M, fun j h1 h2 => (H j h1 h2).trans (congrArg (fun v => some (Value.long v)) (q j h1 h2))⟩
theorem AI.congr {f g : Int32 → Int32} (F : AI Z h a ty z f) (q : ∀ j : Int32, ¬ j < 0 → j < z → f j = g j) : AI Z h a ty z g := by
  obtain ⟨c, A, S, M, H⟩ := F; exact ⟨c, A, S, M, fun j h1 h2 => (H j h1 h2).trans (congrArg (fun v => some (Value.int v)) (q j h1 h2))⟩
theorem AJ.new {k : ClassId} (A : Arr Z h a (newA k .long z) .long) (q : ¬ z < 0) : AJ Z h a z (fun _ => 0) := AG.new A q
theorem AI.new {k : ClassId} (A : Arr Z h a (newA k .int z) .int) (q : ¬ z < 0) : AI Z h a .int z (fun _ => 0) := AG.new A q
theorem AI.newB {k : ClassId} (A : Arr Z h a (newA k .byte z) .byte) (q : ¬ z < 0) : AI Z h a .byte z (fun _ => 0) := AG.new A q
theorem AI.newZ {k : ClassId} (A : Arr Z h a (newA k .boolean z) .boolean) (q : ¬ z < 0) : AI Z h a .boolean z (fun _ => 0) := AG.new A q
variable {p : Program} {l : Launch} {e : Env} {R : Room} {s : State} {m : MethodId} {args : Array Value} {below : List Frame} {meth : Method} {c : Code} {T : State} {locs : List Loc} {cells slots : Nat} {g : JFrame} {rest : List Value} {j : Int32}
theorem rdJ {f : Int32 → Int64} {y : Int64} (X : Stand p l e R s m args below meth c T locs cells slots) (hx : p.tables.exec = Jvm.exec) (hZ : Z.Warmed39 s.vm) (eT : T.heap = h) (F : AJ Z h a z f) (q : ¬ j < 0 ∧ j < z) (hv : f j = y) (hg : g.method = m) (hs : g.stack = .int j :: .ref a :: rest) (hd : decode c.code g.pc = .ok (.laload, 1)) (target : State)
    (hr : Steps p.tables e below (T.setTop { g with pc := g.pc + 1, stack := .long y :: rest }) target) : Steps p.tables e below (T.setTop g) target := by
  subst hv
  obtain ⟨cl, A, S, M, H⟩ := F
  exact X.laload hx (by rw [eT]; exact A.1) (State.isArrayOf_alike hZ.alike A.2.1) A.2.2 (inb_of S q) (H j q.1 q.2) hg hs hd target hr
theorem rdI {f : Int32 → Int32} {y : Int32} (X : Stand p l e R s m args below meth c T locs cells slots) (hx : p.tables.exec = Jvm.exec) (hZ : Z.Warmed39 s.vm) (eT : T.heap = h) (F : AI Z h a .int z f) (q : ¬ j < 0 ∧ j < z) (hv : f j = y) (hg : g.method = m) (hs : g.stack = .int j :: .ref a :: rest) (hd : decode c.code g.pc = .ok (.iaload, 1)) (target : State)
    (hr : Steps p.tables e below (T.setTop { g with pc := g.pc + 1, stack := .int y :: rest }) target) : Steps p.tables e below (T.setTop g) target := by
  subst hv
  obtain ⟨cl, A, S, M, H⟩ := F
  exact X.iaload hx (by rw [eT]; exact A.1) (State.isArrayOf_alike hZ.alike A.2.1) A.2.2 (inb_of S q) (H j q.1 q.2) hg hs hd target hr
theorem rdB {f : Int32 → Int32} {y : Int32} (X : Stand p l e R s m args below meth c T locs cells slots) (hx : p.tables.exec = Jvm.exec) (hZ : Z.Warmed39 s.vm) (eT : T.heap = h) (F : AI Z h a .byte z f) (q : ¬ j < 0 ∧ j < z) (hv : f j = y) (hg : g.method = m) (hs : g.stack = .int j :: .ref a :: rest) (hd : decode c.code g.pc = .ok (.baload, 1)) (target : State)
    (hr : Steps p.tables e below (T.setTop { g with pc := g.pc + 1, stack := .int y :: rest }) target) : Steps p.tables e below (T.setTop g) target := by
  subst hv
  obtain ⟨cl, A, S, M, H⟩ := F
  exact X.baloadBytes hx (by rw [eT]; exact A.1) (State.isArrayOf_alike hZ.alike A.2.1) A.2.2 (inb_of S q) (H j q.1 q.2) hg hs hd target hr
theorem rdZ {f : Int32 → Int32} {y : Int32} (X : Stand p l e R s m args below meth c T locs cells slots) (hx : p.tables.exec = Jvm.exec) (hZ : Z.Warmed39 s.vm) (eT : T.heap = h) (F : AI Z h a .boolean z f) (q : ¬ j < 0 ∧ j < z) (hv : f j = y) (hg : g.method = m) (hs : g.stack = .int j :: .ref a :: rest) (hd : decode c.code g.pc = .ok (.baload, 1)) (target : State)
    (hr : Steps p.tables e below (T.setTop { g with pc := g.pc + 1, stack := .int y :: rest }) target) : Steps p.tables e below (T.setTop g) target := by
  subst hv
  obtain ⟨cl, A, S, M, H⟩ := F
  exact X.baloadBooleans hx (by rw [eT]; exact A.1) (State.isArrayOf_alike hZ.alike A.2.1) A.2.2 (inb_of S q) (H j q.1 q.2) hg hs hd target hr
theorem lnG (X : Stand p l e R s m args below meth c T locs cells slots) (hx : p.tables.exec = Jvm.exec) (hZ : Z.Warmed39 s.vm) (eT : T.heap = h) (F : AG Z h a ty z G) (hg : g.method = m) (hs : g.stack = .ref a :: rest) (hd : decode c.code g.pc = .ok (.arraylength, 1)) (target : State)
    (hr : Steps p.tables e below (T.setTop { g with pc := g.pc + 1, stack := .int z :: rest }) target) : Steps p.tables e below (T.setTop g) target := by
  obtain ⟨cl, A, S, M, H⟩ := F
  refine X.arraylength hx (by rw [eT]; exact A.1) (State.isArrayOf_alike hZ.alike A.2.1) hg hs hd target ?_
  rw [len_of S M]; exact hr
theorem wrJ {f : Int32 → Int64} {x : Int64} (X : Stand p l e R s m args below meth c T locs cells slots) (hx : p.tables.exec = Jvm.exec) (hZ : Z.Warmed39 s.vm) (eT : T.heap = h) (F : AJ Z h a z f) (q : ¬ j < 0 ∧ j < z) (hg : g.method = m) (hs : g.stack = .long x :: .int j :: .ref a :: rest) (hd : decode c.code g.pc = .ok (.lastore, 1)) :
    ∃ T' h', Stand p l e R s m args below meth c T' (locs ++ [⟨a, j.toNatClampNeg⟩]) cells slots ∧ T'.heap = h' ∧ Wr h h' a j.toNatClampNeg (.long x) ∧ AJ Z h' a z (upA f j x) ∧ ∀ target, Steps p.tables e below (T'.setTop { g with pc := g.pc + 1, stack := rest }) target → Steps p.tables e below (T.setTop g) target := by
  have F' := F
  obtain ⟨cl, A, S, M, H⟩ := F
  obtain ⟨T', h', X', e', W, st⟩ := stJ X hx hZ eT A (inb_of S q) hg hs hd
  exact ⟨T', h', X', e', W, AJ.set F' W q, st⟩
theorem wrI {f : Int32 → Int32} {x : Int32} (X : Stand p l e R s m args below meth c T locs cells slots) (hx : p.tables.exec = Jvm.exec) (hZ : Z.Warmed39 s.vm) (eT : T.heap = h) (F : AI Z h a .int z f) (q : ¬ j < 0 ∧ j < z) (hg : g.method = m) (hs : g.stack = .int x :: .int j :: .ref a :: rest) (hd : decode c.code g.pc = .ok (.iastore, 1)) :
    ∃ T' h', Stand p l e R s m args below meth c T' (locs ++ [⟨a, j.toNatClampNeg⟩]) cells slots ∧ T'.heap = h' ∧ Wr h h' a j.toNatClampNeg (.int x) ∧ AI Z h' a .int z (upA f j x) ∧ ∀ target, Steps p.tables e below (T'.setTop { g with pc := g.pc + 1, stack := rest }) target → Steps p.tables e below (T.setTop g) target := by
  have F' := F
  obtain ⟨cl, A, S, M, H⟩ := F
  obtain ⟨T', h', X', e', W, st⟩ := stI X hx hZ eT A (inb_of S q) hg hs hd
  exact ⟨T', h', X', e', W, AI.set F' W q, st⟩
theorem wrB {f : Int32 → Int32} {x y : Int32} (X : Stand p l e R s m args below meth c T locs cells slots) (hx : p.tables.exec = Jvm.exec) (hZ : Z.Warmed39 s.vm) (eT : T.heap = h) (F : AI Z h a .byte z f) (q : ¬ j < 0 ∧ j < z) (hn : nar .byte x = y) (hg : g.method = m) (hs : g.stack = .int x :: .int j :: .ref a :: rest) (hd : decode c.code g.pc = .ok (.bastore, 1)) :
    ∃ T' h', Stand p l e R s m args below meth c T' (locs ++ [⟨a, j.toNatClampNeg⟩]) cells slots ∧ T'.heap = h' ∧ Wr h h' a j.toNatClampNeg (.int y) ∧ AI Z h' a .byte z (upA f j y) ∧ ∀ target, Steps p.tables e below (T'.setTop { g with pc := g.pc + 1, stack := rest }) target → Steps p.tables e below (T.setTop g) target := by
  have F' := F
  obtain ⟨cl, A, S, M, H⟩ := F
  obtain ⟨T', h', X', e', W, st⟩ := stB X hx hZ eT A (inb_of S q) hg hs hd
  rw [hn] at W
  exact ⟨T', h', X', e', W, AI.set F' W q, st⟩
theorem wrZ {f : Int32 → Int32} {x y : Int32} (X : Stand p l e R s m args below meth c T locs cells slots) (hx : p.tables.exec = Jvm.exec) (hZ : Z.Warmed39 s.vm) (eT : T.heap = h) (F : AI Z h a .boolean z f) (q : ¬ j < 0 ∧ j < z) (hn : nar .boolean x = y) (hg : g.method = m) (hs : g.stack = .int x :: .int j :: .ref a :: rest) (hd : decode c.code g.pc = .ok (.bastore, 1)) :
    ∃ T' h', Stand p l e R s m args below meth c T' (locs ++ [⟨a, j.toNatClampNeg⟩]) cells slots ∧ T'.heap = h' ∧ Wr h h' a j.toNatClampNeg (.int y) ∧ AI Z h' a .boolean z (upA f j y) ∧ ∀ target, Steps p.tables e below (T'.setTop { g with pc := g.pc + 1, stack := rest }) target → Steps p.tables e below (T.setTop g) target := by
  have F' := F
  obtain ⟨cl, A, S, M, H⟩ := F
  obtain ⟨T', h', X', e', W, st⟩ := stZ X hx hZ eT A (inb_of S q) hg hs hd
  rw [hn] at W
  exact ⟨T', h', X', e', W, AI.set F' W q, st⟩
theorem nar_byte (x : Int32) : nar .byte x.toInt8.toInt32 = x.toInt8.toInt32 := by
  show x.toInt8.toInt32.toInt8.toInt32 = x.toInt8.toInt32
  rw [Int8.toInt8_toInt32]
end Arrays
end Jvm.OwnKit
namespace Jvm.Pilot.@@N@@
open Jvm Jvm.ClassFile Sem Op Lib Jvm.Free Jvm.Stand Jvm.LawKit Jvm.RoadKit Jvm.OwnKit Bundle Jvm.Pilot.@@N@@.Jvm.D
def PI (Z : State) (h : Heap) (n0 : Nat) (ia : Addr) (fb : Int32 → Int32) : Prop := AI Z h ia .byte (8 : Int32) fb ∧ n0 ≤ ia ∧ n0 ≤ h.size
theorem own_ix0 {p : Int32} (h0 : ¬ p < 0) (h1 : p < (4 : Int32)) : ¬ p < 0 ∧ p < (8 : Int32) := by
  rw [Int32.lt_iff_toInt_lt] at h0 h1
  have l0 : (0 : Int32).toInt = 0 := by decide
  have l4 : (4 : Int32).toInt = 4 := by decide
  have l8 : (8 : Int32).toInt = 8 := by decide
  have lk : (0 : Int32).toInt = 0 := by decide
  have q := c_iadd p (0 : Int32)
  have b := Int32.toInt_lt (p)
  have b' := Int32.le_toInt (p)
  simp only [Int32.lt_iff_toInt_lt]
  omega
theorem own_ix1 {p : Int32} (h0 : ¬ p < 0) (h1 : p < (4 : Int32)) : ¬ (p + (1 : Int32)) < 0 ∧ (p + (1 : Int32)) < (8 : Int32) := by
  rw [Int32.lt_iff_toInt_lt] at h0 h1
  have l0 : (0 : Int32).toInt = 0 := by decide
  have l4 : (4 : Int32).toInt = 4 := by decide
  have l8 : (8 : Int32).toInt = 8 := by decide
  have lk : (1 : Int32).toInt = 1 := by decide
  have q := c_iadd p (1 : Int32)
  have b := Int32.toInt_lt (p + (1 : Int32))
  have b' := Int32.le_toInt (p + (1 : Int32))
  simp only [Int32.lt_iff_toInt_lt]
  omega
theorem own_ix2 {p : Int32} (h0 : ¬ p < 0) (h1 : p < (4 : Int32)) : ¬ (p + (2 : Int32)) < 0 ∧ (p + (2 : Int32)) < (8 : Int32) := by
  rw [Int32.lt_iff_toInt_lt] at h0 h1
  have l0 : (0 : Int32).toInt = 0 := by decide
  have l4 : (4 : Int32).toInt = 4 := by decide
  have l8 : (8 : Int32).toInt = 8 := by decide
  have lk : (2 : Int32).toInt = 2 := by decide
  have q := c_iadd p (2 : Int32)
  have b := Int32.toInt_lt (p + (2 : Int32))
  have b' := Int32.le_toInt (p + (2 : Int32))
  simp only [Int32.lt_iff_toInt_lt]
  omega
theorem own_ix3 {p : Int32} (h0 : ¬ p < 0) (h1 : p < (4 : Int32)) : ¬ (p + (3 : Int32)) < 0 ∧ (p + (3 : Int32)) < (8 : Int32) := by
  rw [Int32.lt_iff_toInt_lt] at h0 h1
  have l0 : (0 : Int32).toInt = 0 := by decide
  have l4 : (4 : Int32).toInt = 4 := by decide
  have l8 : (8 : Int32).toInt = 8 := by decide
  have lk : (3 : Int32).toInt = 3 := by decide
  have q := c_iadd p (3 : Int32)
  have b := Int32.toInt_lt (p + (3 : Int32))
  have b' := Int32.le_toInt (p + (3 : Int32))
  simp only [Int32.lt_iff_toInt_lt]
  omega
theorem d1_0 : decode method_5_code 0 = .ok (.iload_n 2, 1) := by decide +kernel
theorem d1_1 : decode method_5_code 1 = .ok (.ifCond .ne 59, 3) := by decide +kernel
theorem d1_4 : decode method_5_code 4 = .ok (.iload_n 1, 1) := by decide +kernel
theorem d1_5 : decode method_5_code 5 = .ok (.iconst 1, 1) := by decide +kernel
theorem d1_6 : decode method_5_code 6 = .ok (.if_icmp .ne 8, 3) := by decide +kernel
theorem d1_9 : decode method_5_code 9 = .ok (.iload_n 0, 1) := by decide +kernel
theorem d1_10 : decode method_5_code 10 = .ok (.bipush 127, 2) := by decide +kernel
theorem d1_12 : decode method_5_code 12 = .ok (.iand, 1) := by decide +kernel
theorem d1_13 : decode method_5_code 13 = .ok (.ireturn, 1) := by decide +kernel
theorem d1_14 : decode method_5_code 14 = .ok (.iload_n 1, 1) := by decide +kernel
theorem d1_15 : decode method_5_code 15 = .ok (.iconst 2, 1) := by decide +kernel
theorem d1_16 : decode method_5_code 16 = .ok (.if_icmp .ne 15, 3) := by decide +kernel
theorem d1_19 : decode method_5_code 19 = .ok (.sipush 192, 3) := by decide +kernel
theorem d1_22 : decode method_5_code 22 = .ok (.iload_n 0, 1) := by decide +kernel
theorem d1_23 : decode method_5_code 23 = .ok (.bipush 6, 2) := by decide +kernel
theorem d1_25 : decode method_5_code 25 = .ok (.ishr, 1) := by decide +kernel
theorem d1_26 : decode method_5_code 26 = .ok (.bipush 31, 2) := by decide +kernel
theorem d1_28 : decode method_5_code 28 = .ok (.iand, 1) := by decide +kernel
theorem d1_29 : decode method_5_code 29 = .ok (.ior, 1) := by decide +kernel
theorem d1_30 : decode method_5_code 30 = .ok (.ireturn, 1) := by decide +kernel
theorem d1_31 : decode method_5_code 31 = .ok (.iload_n 1, 1) := by decide +kernel
theorem d1_32 : decode method_5_code 32 = .ok (.iconst 3, 1) := by decide +kernel
theorem d1_33 : decode method_5_code 33 = .ok (.if_icmp .ne 15, 3) := by decide +kernel
theorem d1_36 : decode method_5_code 36 = .ok (.sipush 224, 3) := by decide +kernel
theorem d1_39 : decode method_5_code 39 = .ok (.iload_n 0, 1) := by decide +kernel
theorem d1_40 : decode method_5_code 40 = .ok (.bipush 12, 2) := by decide +kernel
theorem d1_42 : decode method_5_code 42 = .ok (.ishr, 1) := by decide +kernel
theorem d1_43 : decode method_5_code 43 = .ok (.bipush 15, 2) := by decide +kernel
theorem d1_45 : decode method_5_code 45 = .ok (.iand, 1) := by decide +kernel
theorem d1_46 : decode method_5_code 46 = .ok (.ior, 1) := by decide +kernel
theorem d1_47 : decode method_5_code 47 = .ok (.ireturn, 1) := by decide +kernel
theorem d1_48 : decode method_5_code 48 = .ok (.sipush 240, 3) := by decide +kernel
theorem d1_51 : decode method_5_code 51 = .ok (.iload_n 0, 1) := by decide +kernel
theorem d1_52 : decode method_5_code 52 = .ok (.bipush 18, 2) := by decide +kernel
theorem d1_54 : decode method_5_code 54 = .ok (.ishr, 1) := by decide +kernel
theorem d1_55 : decode method_5_code 55 = .ok (.bipush 7, 2) := by decide +kernel
theorem d1_57 : decode method_5_code 57 = .ok (.iand, 1) := by decide +kernel
theorem d1_58 : decode method_5_code 58 = .ok (.ior, 1) := by decide +kernel
theorem d1_59 : decode method_5_code 59 = .ok (.ireturn, 1) := by decide +kernel
theorem d1_60 : decode method_5_code 60 = .ok (.bipush 6, 2) := by decide +kernel
theorem d1_62 : decode method_5_code 62 = .ok (.iload_n 1, 1) := by decide +kernel
theorem d1_63 : decode method_5_code 63 = .ok (.iconst 1, 1) := by decide +kernel
theorem d1_64 : decode method_5_code 64 = .ok (.isub, 1) := by decide +kernel
theorem d1_65 : decode method_5_code 65 = .ok (.iload_n 2, 1) := by decide +kernel
theorem d1_66 : decode method_5_code 66 = .ok (.isub, 1) := by decide +kernel
theorem d1_67 : decode method_5_code 67 = .ok (.imul, 1) := by decide +kernel
theorem d1_68 : decode method_5_code 68 = .ok (.istore_n 3, 1) := by decide +kernel
theorem d1_69 : decode method_5_code 69 = .ok (.sipush 128, 3) := by decide +kernel
theorem d1_72 : decode method_5_code 72 = .ok (.iload_n 0, 1) := by decide +kernel
theorem d1_73 : decode method_5_code 73 = .ok (.iload_n 3, 1) := by decide +kernel
theorem d1_74 : decode method_5_code 74 = .ok (.ishr, 1) := by decide +kernel
theorem d1_75 : decode method_5_code 75 = .ok (.bipush 63, 2) := by decide +kernel
theorem d1_77 : decode method_5_code 77 = .ok (.iand, 1) := by decide +kernel
theorem d1_78 : decode method_5_code 78 = .ok (.ior, 1) := by decide +kernel
theorem d1_79 : decode method_5_code 79 = .ok (.ireturn, 1) := by decide +kernel
theorem pn_1 : plainName "com/example/merkki/merkki/Utf8SequencePinLaw" = true := by first | (simp [plainName, overriddenIn]; done) | decide +kernel
theorem ef_1 (m : MethodId) (x0 : Int32) (x1 : Int32) (x2 : Int32) : entryFrame m #[(.int x0), (.int x1), (.int x2)] 4 = mkF m 0 #[.val (.int x0), .val (.int x1), .val (.int x2), .unset] [] := by first | (simp [entryFrame, mkF, argsToLocals, Value.category]; done) | rfl
def F1 (cc : Int32) (nn : Int32) (kk : Int32) : Int32 := (if kk = (0 : Int32) then (if nn = (1 : Int32) then (cc &&& (127 : Int32)) else (if nn = (2 : Int32) then ((192 : Int32) ||| ((cc >>> ((6 : Int32) &&& 31)) &&& (31 : Int32))) else (if nn = (3 : Int32) then ((224 : Int32) ||| ((cc >>> ((12 : Int32) &&& 31)) &&& (15 : Int32))) else ((240 : Int32) ||| ((cc >>> ((18 : Int32) &&& 31)) &&& (7 : Int32)))))) else ((128 : Int32) ||| ((cc >>> (((6 : Int32) * ((nn - (1 : Int32)) - kk)) &&& 31)) &&& (63 : Int32))))
def Q1 (Z : State) (cc : Int32) (nn : Int32) (kk : Int32) (h0 : Heap) (n0 : Nat) (v : Option Value) (h : Heap) (L : List Loc) : Prop := v = some (.int (F1 cc nn kk)) ∧ Fr n0 L ∧ h = h0
set_option maxRecDepth 65536 in
set_option maxHeartbeats 40000000 in
theorem rm1 (l : Launch) (Z : State) (a0 : Array Value) (hw : ∀ d ∈ tables_1, d.before a0 Z = true) (ws : List Jvm.Cond) (cc : Int32) (nn : Int32) (kk : Int32) (h0 : Heap) (n0 : Nat) (Z0 : n0 ≤ h0.size) :
    MetFree l (⟨"com/example/merkki/merkki/Utf8SequencePinLaw", "enc", "(III)I"⟩ : MethodName) (head1 (Jvm.Cond.code (⟨"com/example/merkki/merkki/Utf8SequencePinLaw", "enc", "(III)I"⟩ : MethodName) method_5_code 4 (some .int) :: ws) ({ frames := 0, cells := 0, slots := 0, locals := 0 } : Room)) (fun a U => a = #[(.int cc), (.int nn), (.int kk)] ∧ Z.Warmed39 U.vm ∧ U.heap = h0) (fun _ _ _ _ _ => True) (fun _ U o U' => ∃ v L, o = .returned v ∧ Q1 Z cc nn kk h0 n0 v U'.heap L ∧ FrameEnd U o U' L ({ frames := 0, cells := 0, slots := 0, locals := 0 } : Room).cells ({ frames := 0, cells := 0, slots := 0, locals := 0 } : Room).slots) := by
  refine MetFree.of_bodySF (plainFor_of_name pn_1) hisR ?_
  intro p e s m args below meth c s₁ Bd hml0 hP hK
  obtain ⟨rfl, hZ, hh⟩ := hP
  have hx := Bd.exec
  have hby := Bd.bytes
  have hml : c.maxLocals = 4 := hml0
  have hown : s.vm.findClass "com/example/merkki/merkki/Utf8SequencePinLaw" = some m.cls := findClass_of_methodNamed Bd.named
  have hnm := (name_of_methodNamed Bd.named Bd.method).1
  have X0 : Stand p l e ({ frames := 0, cells := 0, slots := 0, locals := 0 } : Room) s m #[(.int cc), (.int nn), (.int kk)] below meth c s₁ [] 0 0 := Stand.of_body Bd
  have e0 : s₁.heap = h0 := by rw [← hh, Bd.state]; rfl
  have N0 := Fr.nil n0
  have pre0 : ∀ t, Steps p.tables e below (s₁.setTop (mkF m 0 #[.val (.int cc), .val (.int nn), .val (.int kk), .unset] [])) t → Steps p.tables e below (s₁.setTop (entryFrame m #[(.int cc), (.int nn), (.int kk)] 4)) t := fun t k => castTop (ef_1 m cc nn kk) k
  have pre1 : ∀ t, Steps p.tables e below (s₁.setTop (mkF m 1 #[.val (.int cc), .val (.int nn), .val (.int kk), .unset] [(.int kk)])) t → Steps p.tables e below (s₁.setTop (entryFrame m #[(.int cc), (.int nn), (.int kk)] 4)) t := by
    intro t k
    refine pre0 t ?_
    show Steps p.tables e below (s₁.setTop (mkF m 0 #[.val (.int cc), .val (.int nn), .val (.int kk), .unset] [])) _
    refine XS.iloadN X0.here hx rfl (hb hby d1_0) rfl ?_
    exact k
  obtain ⟨fs, hr, hrun, hended, hW, hsame⟩ := X0.leave (v := some (.int (F1 cc nn kk))) (fun h => by rw [Bd.returns] at h; cases h) (BodyLoose.notSynchronized Bd)
  refine ⟨_, _, pre1 _ ?_, hrun, hended, _, _, rfl, ?_, ⟨_, rfl⟩, hW, hsame.mono (by decide) (by decide)⟩
  · have k : ∀ (v1 : Int32), v1 = (if kk = (0 : Int32) then (if nn = (1 : Int32) then (cc &&& (127 : Int32)) else (if nn = (2 : Int32) then ((192 : Int32) ||| ((cc >>> ((6 : Int32) &&& 31)) &&& (31 : Int32))) else (if nn = (3 : Int32) then ((224 : Int32) ||| ((cc >>> ((12 : Int32) &&& 31)) &&& (15 : Int32))) else ((240 : Int32) ||| ((cc >>> ((18 : Int32) &&& 31)) &&& (7 : Int32)))))) else ((128 : Int32) ||| ((cc >>> (((6 : Int32) * ((nn - (1 : Int32)) - kk)) &&& 31)) &&& (63 : Int32)))) → ∀ (f : JFrame) (acts : List Action), f.method = m → f.locked = none → f.entered = [] → (doReturn e (s₁.setTop f) acts (some (.int v1))).1 = s₁.setFrames fs := fun v1 hv1 => by subst hv1; exact hr
    show Steps p.tables e below (s₁.setTop (mkF m 1 #[.val (.int cc), .val (.int nn), .val (.int kk), .unset] [(.int kk)])) _
    by_cases hc2 : kk = (0 : Int32)
    · refine XS.ifNo X0.here hx rfl (hb hby d1_1) rfl ((if0 _ _).trans (teq hc2).2) ?_
      have k : ∀ (v1 : Int32), v1 = (if nn = (1 : Int32) then (cc &&& (127 : Int32)) else (if nn = (2 : Int32) then ((192 : Int32) ||| ((cc >>> ((6 : Int32) &&& 31)) &&& (31 : Int32))) else (if nn = (3 : Int32) then ((224 : Int32) ||| ((cc >>> ((12 : Int32) &&& 31)) &&& (15 : Int32))) else ((240 : Int32) ||| ((cc >>> ((18 : Int32) &&& 31)) &&& (7 : Int32)))))) → ∀ (f : JFrame) (acts : List Action), f.method = m → f.locked = none → f.entered = [] → (doReturn e (s₁.setTop f) acts (some (.int v1))).1 = s₁.setFrames fs := fun v1 hv1 => k v1 (hv1.trans (if_pos hc2).symm)
      show Steps p.tables e below (s₁.setTop (mkF m 4 #[.val (.int cc), .val (.int nn), .val (.int kk), .unset] [])) _
      refine XS.iloadN X0.here hx rfl (hb hby d1_4) rfl ?_
      show Steps p.tables e below (s₁.setTop (mkF m 5 #[.val (.int cc), .val (.int nn), .val (.int kk), .unset] [(.int nn)])) _
      refine XS.iconst X0.here hx rfl (hb hby d1_5) ?_
      show Steps p.tables e below (s₁.setTop (mkF m 6 #[.val (.int cc), .val (.int nn), .val (.int kk), .unset] [(.int (1 : Int32)), (.int nn)])) _
      by_cases hc3 : nn = (1 : Int32)
      · refine XS.icmpNo X0.here hx rfl (hb hby d1_6) rfl (teq hc3).2 ?_
        have k : ∀ (v1 : Int32), v1 = (cc &&& (127 : Int32)) → ∀ (f : JFrame) (acts : List Action), f.method = m → f.locked = none → f.entered = [] → (doReturn e (s₁.setTop f) acts (some (.int v1))).1 = s₁.setFrames fs := fun v1 hv1 => k v1 (hv1.trans (if_pos hc3).symm)
        show Steps p.tables e below (s₁.setTop (mkF m 9 #[.val (.int cc), .val (.int nn), .val (.int kk), .unset] [])) _
        refine XS.iloadN X0.here hx rfl (hb hby d1_9) rfl ?_
        show Steps p.tables e below (s₁.setTop (mkF m 10 #[.val (.int cc), .val (.int nn), .val (.int kk), .unset] [(.int cc)])) _
        refine XS.bipush X0.here hx rfl (hb hby d1_10) ?_
        show Steps p.tables e below (s₁.setTop (mkF m 12 #[.val (.int cc), .val (.int nn), .val (.int kk), .unset] [(.int (127 : Int32)), (.int cc)])) _
        refine XS.iand X0.here hx rfl (hb hby d1_12) rfl ?_
        show Steps p.tables e below (s₁.setTop (mkF m 13 #[.val (.int cc), .val (.int nn), .val (.int kk), .unset] [(.int (cc &&& (127 : Int32)))])) _
        exact retI X0 hx Bd.returns (hb hby d1_13) (k _ rfl)
      · refine XS.icmpYes X0.here hx rfl (pc0 := 6) (pc' := 14) rfl (hb hby d1_6) rfl (feq hc3).2 (by decide) (by decide) ?_
        have k : ∀ (v1 : Int32), v1 = (if nn = (2 : Int32) then ((192 : Int32) ||| ((cc >>> ((6 : Int32) &&& 31)) &&& (31 : Int32))) else (if nn = (3 : Int32) then ((224 : Int32) ||| ((cc >>> ((12 : Int32) &&& 31)) &&& (15 : Int32))) else ((240 : Int32) ||| ((cc >>> ((18 : Int32) &&& 31)) &&& (7 : Int32))))) → ∀ (f : JFrame) (acts : List Action), f.method = m → f.locked = none → f.entered = [] → (doReturn e (s₁.setTop f) acts (some (.int v1))).1 = s₁.setFrames fs := fun v1 hv1 => k v1 (hv1.trans (if_neg hc3).symm)
        show Steps p.tables e below (s₁.setTop (mkF m 14 #[.val (.int cc), .val (.int nn), .val (.int kk), .unset] [])) _
        refine XS.iloadN X0.here hx rfl (hb hby d1_14) rfl ?_
        show Steps p.tables e below (s₁.setTop (mkF m 15 #[.val (.int cc), .val (.int nn), .val (.int kk), .unset] [(.int nn)])) _
        refine XS.iconst X0.here hx rfl (hb hby d1_15) ?_
        show Steps p.tables e below (s₁.setTop (mkF m 16 #[.val (.int cc), .val (.int nn), .val (.int kk), .unset] [(.int (2 : Int32)), (.int nn)])) _
        by_cases hc4 : nn = (2 : Int32)
        · refine XS.icmpNo X0.here hx rfl (hb hby d1_16) rfl (teq hc4).2 ?_
          have k : ∀ (v1 : Int32), v1 = ((192 : Int32) ||| ((cc >>> ((6 : Int32) &&& 31)) &&& (31 : Int32))) → ∀ (f : JFrame) (acts : List Action), f.method = m → f.locked = none → f.entered = [] → (doReturn e (s₁.setTop f) acts (some (.int v1))).1 = s₁.setFrames fs := fun v1 hv1 => k v1 (hv1.trans (if_pos hc4).symm)
          show Steps p.tables e below (s₁.setTop (mkF m 19 #[.val (.int cc), .val (.int nn), .val (.int kk), .unset] [])) _
          refine XS.sipush X0.here hx rfl (hb hby d1_19) ?_
          show Steps p.tables e below (s₁.setTop (mkF m 22 #[.val (.int cc), .val (.int nn), .val (.int kk), .unset] [(.int (192 : Int32))])) _
          refine XS.iloadN X0.here hx rfl (hb hby d1_22) rfl ?_
          show Steps p.tables e below (s₁.setTop (mkF m 23 #[.val (.int cc), .val (.int nn), .val (.int kk), .unset] [(.int cc), (.int (192 : Int32))])) _
          refine XS.bipush X0.here hx rfl (hb hby d1_23) ?_
          show Steps p.tables e below (s₁.setTop (mkF m 25 #[.val (.int cc), .val (.int nn), .val (.int kk), .unset] [(.int (6 : Int32)), (.int cc), (.int (192 : Int32))])) _
          refine XS.ishr X0.here hx rfl (hb hby d1_25) rfl ?_
          show Steps p.tables e below (s₁.setTop (mkF m 26 #[.val (.int cc), .val (.int nn), .val (.int kk), .unset] [(.int (cc >>> ((6 : Int32) &&& 31))), (.int (192 : Int32))])) _
          refine XS.bipush X0.here hx rfl (hb hby d1_26) ?_
          show Steps p.tables e below (s₁.setTop (mkF m 28 #[.val (.int cc), .val (.int nn), .val (.int kk), .unset] [(.int (31 : Int32)), (.int (cc >>> ((6 : Int32) &&& 31))), (.int (192 : Int32))])) _
          refine XS.iand X0.here hx rfl (hb hby d1_28) rfl ?_
          show Steps p.tables e below (s₁.setTop (mkF m 29 #[.val (.int cc), .val (.int nn), .val (.int kk), .unset] [(.int ((cc >>> ((6 : Int32) &&& 31)) &&& (31 : Int32))), (.int (192 : Int32))])) _
          refine XS.ior X0.here hx rfl (hb hby d1_29) rfl ?_
          show Steps p.tables e below (s₁.setTop (mkF m 30 #[.val (.int cc), .val (.int nn), .val (.int kk), .unset] [(.int ((192 : Int32) ||| ((cc >>> ((6 : Int32) &&& 31)) &&& (31 : Int32))))])) _
          exact retI X0 hx Bd.returns (hb hby d1_30) (k _ rfl)
        · refine XS.icmpYes X0.here hx rfl (pc0 := 16) (pc' := 31) rfl (hb hby d1_16) rfl (feq hc4).2 (by decide) (by decide) ?_
          have k : ∀ (v1 : Int32), v1 = (if nn = (3 : Int32) then ((224 : Int32) ||| ((cc >>> ((12 : Int32) &&& 31)) &&& (15 : Int32))) else ((240 : Int32) ||| ((cc >>> ((18 : Int32) &&& 31)) &&& (7 : Int32)))) → ∀ (f : JFrame) (acts : List Action), f.method = m → f.locked = none → f.entered = [] → (doReturn e (s₁.setTop f) acts (some (.int v1))).1 = s₁.setFrames fs := fun v1 hv1 => k v1 (hv1.trans (if_neg hc4).symm)
          show Steps p.tables e below (s₁.setTop (mkF m 31 #[.val (.int cc), .val (.int nn), .val (.int kk), .unset] [])) _
          refine XS.iloadN X0.here hx rfl (hb hby d1_31) rfl ?_
          show Steps p.tables e below (s₁.setTop (mkF m 32 #[.val (.int cc), .val (.int nn), .val (.int kk), .unset] [(.int nn)])) _
          refine XS.iconst X0.here hx rfl (hb hby d1_32) ?_
          show Steps p.tables e below (s₁.setTop (mkF m 33 #[.val (.int cc), .val (.int nn), .val (.int kk), .unset] [(.int (3 : Int32)), (.int nn)])) _
          by_cases hc5 : nn = (3 : Int32)
          · refine XS.icmpNo X0.here hx rfl (hb hby d1_33) rfl (teq hc5).2 ?_
            have k : ∀ (v1 : Int32), v1 = ((224 : Int32) ||| ((cc >>> ((12 : Int32) &&& 31)) &&& (15 : Int32))) → ∀ (f : JFrame) (acts : List Action), f.method = m → f.locked = none → f.entered = [] → (doReturn e (s₁.setTop f) acts (some (.int v1))).1 = s₁.setFrames fs := fun v1 hv1 => k v1 (hv1.trans (if_pos hc5).symm)
            show Steps p.tables e below (s₁.setTop (mkF m 36 #[.val (.int cc), .val (.int nn), .val (.int kk), .unset] [])) _
            refine XS.sipush X0.here hx rfl (hb hby d1_36) ?_
            show Steps p.tables e below (s₁.setTop (mkF m 39 #[.val (.int cc), .val (.int nn), .val (.int kk), .unset] [(.int (224 : Int32))])) _
            refine XS.iloadN X0.here hx rfl (hb hby d1_39) rfl ?_
            show Steps p.tables e below (s₁.setTop (mkF m 40 #[.val (.int cc), .val (.int nn), .val (.int kk), .unset] [(.int cc), (.int (224 : Int32))])) _
            refine XS.bipush X0.here hx rfl (hb hby d1_40) ?_
            show Steps p.tables e below (s₁.setTop (mkF m 42 #[.val (.int cc), .val (.int nn), .val (.int kk), .unset] [(.int (12 : Int32)), (.int cc), (.int (224 : Int32))])) _
            refine XS.ishr X0.here hx rfl (hb hby d1_42) rfl ?_
            show Steps p.tables e below (s₁.setTop (mkF m 43 #[.val (.int cc), .val (.int nn), .val (.int kk), .unset] [(.int (cc >>> ((12 : Int32) &&& 31))), (.int (224 : Int32))])) _
            refine XS.bipush X0.here hx rfl (hb hby d1_43) ?_
            show Steps p.tables e below (s₁.setTop (mkF m 45 #[.val (.int cc), .val (.int nn), .val (.int kk), .unset] [(.int (15 : Int32)), (.int (cc >>> ((12 : Int32) &&& 31))), (.int (224 : Int32))])) _
            refine XS.iand X0.here hx rfl (hb hby d1_45) rfl ?_
            show Steps p.tables e below (s₁.setTop (mkF m 46 #[.val (.int cc), .val (.int nn), .val (.int kk), .unset] [(.int ((cc >>> ((12 : Int32) &&& 31)) &&& (15 : Int32))), (.int (224 : Int32))])) _
            refine XS.ior X0.here hx rfl (hb hby d1_46) rfl ?_
            show Steps p.tables e below (s₁.setTop (mkF m 47 #[.val (.int cc), .val (.int nn), .val (.int kk), .unset] [(.int ((224 : Int32) ||| ((cc >>> ((12 : Int32) &&& 31)) &&& (15 : Int32))))])) _
            exact retI X0 hx Bd.returns (hb hby d1_47) (k _ rfl)
          · refine XS.icmpYes X0.here hx rfl (pc0 := 33) (pc' := 48) rfl (hb hby d1_33) rfl (feq hc5).2 (by decide) (by decide) ?_
            have k : ∀ (v1 : Int32), v1 = ((240 : Int32) ||| ((cc >>> ((18 : Int32) &&& 31)) &&& (7 : Int32))) → ∀ (f : JFrame) (acts : List Action), f.method = m → f.locked = none → f.entered = [] → (doReturn e (s₁.setTop f) acts (some (.int v1))).1 = s₁.setFrames fs := fun v1 hv1 => k v1 (hv1.trans (if_neg hc5).symm)
            show Steps p.tables e below (s₁.setTop (mkF m 48 #[.val (.int cc), .val (.int nn), .val (.int kk), .unset] [])) _
            refine XS.sipush X0.here hx rfl (hb hby d1_48) ?_
            show Steps p.tables e below (s₁.setTop (mkF m 51 #[.val (.int cc), .val (.int nn), .val (.int kk), .unset] [(.int (240 : Int32))])) _
            refine XS.iloadN X0.here hx rfl (hb hby d1_51) rfl ?_
            show Steps p.tables e below (s₁.setTop (mkF m 52 #[.val (.int cc), .val (.int nn), .val (.int kk), .unset] [(.int cc), (.int (240 : Int32))])) _
            refine XS.bipush X0.here hx rfl (hb hby d1_52) ?_
            show Steps p.tables e below (s₁.setTop (mkF m 54 #[.val (.int cc), .val (.int nn), .val (.int kk), .unset] [(.int (18 : Int32)), (.int cc), (.int (240 : Int32))])) _
            refine XS.ishr X0.here hx rfl (hb hby d1_54) rfl ?_
            show Steps p.tables e below (s₁.setTop (mkF m 55 #[.val (.int cc), .val (.int nn), .val (.int kk), .unset] [(.int (cc >>> ((18 : Int32) &&& 31))), (.int (240 : Int32))])) _
            refine XS.bipush X0.here hx rfl (hb hby d1_55) ?_
            show Steps p.tables e below (s₁.setTop (mkF m 57 #[.val (.int cc), .val (.int nn), .val (.int kk), .unset] [(.int (7 : Int32)), (.int (cc >>> ((18 : Int32) &&& 31))), (.int (240 : Int32))])) _
            refine XS.iand X0.here hx rfl (hb hby d1_57) rfl ?_
            show Steps p.tables e below (s₁.setTop (mkF m 58 #[.val (.int cc), .val (.int nn), .val (.int kk), .unset] [(.int ((cc >>> ((18 : Int32) &&& 31)) &&& (7 : Int32))), (.int (240 : Int32))])) _
            refine XS.ior X0.here hx rfl (hb hby d1_58) rfl ?_
            show Steps p.tables e below (s₁.setTop (mkF m 59 #[.val (.int cc), .val (.int nn), .val (.int kk), .unset] [(.int ((240 : Int32) ||| ((cc >>> ((18 : Int32) &&& 31)) &&& (7 : Int32))))])) _
            exact retI X0 hx Bd.returns (hb hby d1_59) (k _ rfl)
    · refine XS.ifYes X0.here hx rfl (pc0 := 1) (pc' := 60) rfl (hb hby d1_1) rfl ((if0 _ _).trans (feq hc2).2) (by decide) (by decide) ?_
      have k : ∀ (v1 : Int32), v1 = ((128 : Int32) ||| ((cc >>> (((6 : Int32) * ((nn - (1 : Int32)) - kk)) &&& 31)) &&& (63 : Int32))) → ∀ (f : JFrame) (acts : List Action), f.method = m → f.locked = none → f.entered = [] → (doReturn e (s₁.setTop f) acts (some (.int v1))).1 = s₁.setFrames fs := fun v1 hv1 => k v1 (hv1.trans (if_neg hc2).symm)
      show Steps p.tables e below (s₁.setTop (mkF m 60 #[.val (.int cc), .val (.int nn), .val (.int kk), .unset] [])) _
      refine XS.bipush X0.here hx rfl (hb hby d1_60) ?_
      show Steps p.tables e below (s₁.setTop (mkF m 62 #[.val (.int cc), .val (.int nn), .val (.int kk), .unset] [(.int (6 : Int32))])) _
      refine XS.iloadN X0.here hx rfl (hb hby d1_62) rfl ?_
      show Steps p.tables e below (s₁.setTop (mkF m 63 #[.val (.int cc), .val (.int nn), .val (.int kk), .unset] [(.int nn), (.int (6 : Int32))])) _
      refine XS.iconst X0.here hx rfl (hb hby d1_63) ?_
      show Steps p.tables e below (s₁.setTop (mkF m 64 #[.val (.int cc), .val (.int nn), .val (.int kk), .unset] [(.int (1 : Int32)), (.int nn), (.int (6 : Int32))])) _
      refine XS.isub X0.here hx rfl (hb hby d1_64) rfl ?_
      show Steps p.tables e below (s₁.setTop (mkF m 65 #[.val (.int cc), .val (.int nn), .val (.int kk), .unset] [(.int (nn - (1 : Int32))), (.int (6 : Int32))])) _
      refine XS.iloadN X0.here hx rfl (hb hby d1_65) rfl ?_
      show Steps p.tables e below (s₁.setTop (mkF m 66 #[.val (.int cc), .val (.int nn), .val (.int kk), .unset] [(.int kk), (.int (nn - (1 : Int32))), (.int (6 : Int32))])) _
      refine XS.isub X0.here hx rfl (hb hby d1_66) rfl ?_
      show Steps p.tables e below (s₁.setTop (mkF m 67 #[.val (.int cc), .val (.int nn), .val (.int kk), .unset] [(.int ((nn - (1 : Int32)) - kk)), (.int (6 : Int32))])) _
      refine XS.imul X0.here hx rfl (hb hby d1_67) rfl ?_
      show Steps p.tables e below (s₁.setTop (mkF m 68 #[.val (.int cc), .val (.int nn), .val (.int kk), .unset] [(.int ((6 : Int32) * ((nn - (1 : Int32)) - kk)))])) _
      refine XS.istoreN X0.here hx rfl (hb hby d1_68) rfl (l' := #[.val (.int cc), .val (.int nn), .val (.int kk), .val (.int ((6 : Int32) * ((nn - (1 : Int32)) - kk)))]) rfl ?_
      show Steps p.tables e below (s₁.setTop (mkF m 69 #[.val (.int cc), .val (.int nn), .val (.int kk), .val (.int ((6 : Int32) * ((nn - (1 : Int32)) - kk)))] [])) _
      refine XS.sipush X0.here hx rfl (hb hby d1_69) ?_
      show Steps p.tables e below (s₁.setTop (mkF m 72 #[.val (.int cc), .val (.int nn), .val (.int kk), .val (.int ((6 : Int32) * ((nn - (1 : Int32)) - kk)))] [(.int (128 : Int32))])) _
      refine XS.iloadN X0.here hx rfl (hb hby d1_72) rfl ?_
      show Steps p.tables e below (s₁.setTop (mkF m 73 #[.val (.int cc), .val (.int nn), .val (.int kk), .val (.int ((6 : Int32) * ((nn - (1 : Int32)) - kk)))] [(.int cc), (.int (128 : Int32))])) _
      refine XS.iloadN X0.here hx rfl (hb hby d1_73) rfl ?_
      show Steps p.tables e below (s₁.setTop (mkF m 74 #[.val (.int cc), .val (.int nn), .val (.int kk), .val (.int ((6 : Int32) * ((nn - (1 : Int32)) - kk)))] [(.int ((6 : Int32) * ((nn - (1 : Int32)) - kk))), (.int cc), (.int (128 : Int32))])) _
      refine XS.ishr X0.here hx rfl (hb hby d1_74) rfl ?_
      show Steps p.tables e below (s₁.setTop (mkF m 75 #[.val (.int cc), .val (.int nn), .val (.int kk), .val (.int ((6 : Int32) * ((nn - (1 : Int32)) - kk)))] [(.int (cc >>> (((6 : Int32) * ((nn - (1 : Int32)) - kk)) &&& 31))), (.int (128 : Int32))])) _
      refine XS.bipush X0.here hx rfl (hb hby d1_75) ?_
      show Steps p.tables e below (s₁.setTop (mkF m 77 #[.val (.int cc), .val (.int nn), .val (.int kk), .val (.int ((6 : Int32) * ((nn - (1 : Int32)) - kk)))] [(.int (63 : Int32)), (.int (cc >>> (((6 : Int32) * ((nn - (1 : Int32)) - kk)) &&& 31))), (.int (128 : Int32))])) _
      refine XS.iand X0.here hx rfl (hb hby d1_77) rfl ?_
      show Steps p.tables e below (s₁.setTop (mkF m 78 #[.val (.int cc), .val (.int nn), .val (.int kk), .val (.int ((6 : Int32) * ((nn - (1 : Int32)) - kk)))] [(.int ((cc >>> (((6 : Int32) * ((nn - (1 : Int32)) - kk)) &&& 31)) &&& (63 : Int32))), (.int (128 : Int32))])) _
      refine XS.ior X0.here hx rfl (hb hby d1_78) rfl ?_
      show Steps p.tables e below (s₁.setTop (mkF m 79 #[.val (.int cc), .val (.int nn), .val (.int kk), .val (.int ((6 : Int32) * ((nn - (1 : Int32)) - kk)))] [(.int ((128 : Int32) ||| ((cc >>> (((6 : Int32) * ((nn - (1 : Int32)) - kk)) &&& 31)) &&& (63 : Int32))))])) _
      exact retI X0 hx Bd.returns (hb hby d1_79) (k _ rfl)
  · show Q1 Z cc nn kk h0 n0 _ s₁.heap _
    rw [e0]
    exact ⟨rfl, N0, rfl⟩
theorem d2_0 : decode prog_38_method_5_code 0 = .ok (.aload_n 0, 1) := by decide +kernel
theorem d2_1 : decode prog_38_method_5_code 1 = .ok (.iload_n 1, 1) := by decide +kernel
theorem d2_2 : decode prog_38_method_5_code 2 = .ok (.baload, 1) := by decide +kernel
theorem d2_3 : decode prog_38_method_5_code 3 = .ok (.istore_n 3, 1) := by decide +kernel
theorem d2_4 : decode prog_38_method_5_code 4 = .ok (.iload_n 3, 1) := by decide +kernel
theorem d2_5 : decode prog_38_method_5_code 5 = .ok (.bipush (-62), 2) := by decide +kernel
theorem d2_7 : decode prog_38_method_5_code 7 = .ok (.if_icmp .lt 50, 3) := by decide +kernel
theorem d2_10 : decode prog_38_method_5_code 10 = .ok (.iload_n 3, 1) := by decide +kernel
theorem d2_11 : decode prog_38_method_5_code 11 = .ok (.bipush (-33), 2) := by decide +kernel
theorem d2_13 : decode prog_38_method_5_code 13 = .ok (.if_icmp .gt 44, 3) := by decide +kernel
theorem d2_16 : decode prog_38_method_5_code 16 = .ok (.iload_n 1, 1) := by decide +kernel
theorem d2_17 : decode prog_38_method_5_code 17 = .ok (.iconst 1, 1) := by decide +kernel
theorem d2_18 : decode prog_38_method_5_code 18 = .ok (.iadd, 1) := by decide +kernel
theorem d2_19 : decode prog_38_method_5_code 19 = .ok (.iload_n 2, 1) := by decide +kernel
theorem d2_20 : decode prog_38_method_5_code 20 = .ok (.if_icmp .eq 18, 3) := by decide +kernel
theorem d2_23 : decode prog_38_method_5_code 23 = .ok (.aload_n 0, 1) := by decide +kernel
theorem d2_24 : decode prog_38_method_5_code 24 = .ok (.iload_n 1, 1) := by decide +kernel
theorem d2_25 : decode prog_38_method_5_code 25 = .ok (.iconst 1, 1) := by decide +kernel
theorem d2_26 : decode prog_38_method_5_code 26 = .ok (.iadd, 1) := by decide +kernel
theorem d2_27 : decode prog_38_method_5_code 27 = .ok (.baload, 1) := by decide +kernel
theorem d2_28 : decode prog_38_method_5_code 28 = .ok (.sipush 192, 3) := by decide +kernel
theorem d2_31 : decode prog_38_method_5_code 31 = .ok (.iand, 1) := by decide +kernel
theorem d2_32 : decode prog_38_method_5_code 32 = .ok (.sipush 128, 3) := by decide +kernel
theorem d2_35 : decode prog_38_method_5_code 35 = .ok (.if_icmp .eq 5, 3) := by decide +kernel
theorem d2_38 : decode prog_38_method_5_code 38 = .ok (.iconst (-1), 1) := by decide +kernel
theorem d2_39 : decode prog_38_method_5_code 39 = .ok (.ireturn, 1) := by decide +kernel
theorem d2_40 : decode prog_38_method_5_code 40 = .ok (.iload_n 3, 1) := by decide +kernel
theorem d2_41 : decode prog_38_method_5_code 41 = .ok (.bipush 31, 2) := by decide +kernel
theorem d2_43 : decode prog_38_method_5_code 43 = .ok (.iand, 1) := by decide +kernel
theorem d2_44 : decode prog_38_method_5_code 44 = .ok (.bipush 6, 2) := by decide +kernel
theorem d2_46 : decode prog_38_method_5_code 46 = .ok (.ishl, 1) := by decide +kernel
theorem d2_47 : decode prog_38_method_5_code 47 = .ok (.aload_n 0, 1) := by decide +kernel
theorem d2_48 : decode prog_38_method_5_code 48 = .ok (.iload_n 1, 1) := by decide +kernel
theorem d2_49 : decode prog_38_method_5_code 49 = .ok (.iconst 1, 1) := by decide +kernel
theorem d2_50 : decode prog_38_method_5_code 50 = .ok (.iadd, 1) := by decide +kernel
theorem d2_51 : decode prog_38_method_5_code 51 = .ok (.baload, 1) := by decide +kernel
theorem d2_52 : decode prog_38_method_5_code 52 = .ok (.bipush 63, 2) := by decide +kernel
theorem d2_54 : decode prog_38_method_5_code 54 = .ok (.iand, 1) := by decide +kernel
theorem d2_55 : decode prog_38_method_5_code 55 = .ok (.ior, 1) := by decide +kernel
theorem d2_56 : decode prog_38_method_5_code 56 = .ok (.ireturn, 1) := by decide +kernel
theorem d2_57 : decode prog_38_method_5_code 57 = .ok (.iload_n 3, 1) := by decide +kernel
theorem d2_58 : decode prog_38_method_5_code 58 = .ok (.bipush (-32), 2) := by decide +kernel
theorem d2_60 : decode prog_38_method_5_code 60 = .ok (.if_icmp .lt 114, 3) := by decide +kernel
theorem d2_63 : decode prog_38_method_5_code 63 = .ok (.iload_n 3, 1) := by decide +kernel
theorem d2_64 : decode prog_38_method_5_code 64 = .ok (.bipush (-17), 2) := by decide +kernel
theorem d2_66 : decode prog_38_method_5_code 66 = .ok (.if_icmp .gt 108, 3) := by decide +kernel
theorem d2_69 : decode prog_38_method_5_code 69 = .ok (.iload_n 1, 1) := by decide +kernel
theorem d2_70 : decode prog_38_method_5_code 70 = .ok (.iconst 2, 1) := by decide +kernel
theorem d2_71 : decode prog_38_method_5_code 71 = .ok (.iadd, 1) := by decide +kernel
theorem d2_72 : decode prog_38_method_5_code 72 = .ok (.iload_n 2, 1) := by decide +kernel
theorem d2_73 : decode prog_38_method_5_code 73 = .ok (.if_icmp .ge 33, 3) := by decide +kernel
theorem d2_76 : decode prog_38_method_5_code 76 = .ok (.aload_n 0, 1) := by decide +kernel
theorem d2_77 : decode prog_38_method_5_code 77 = .ok (.iload_n 1, 1) := by decide +kernel
theorem d2_78 : decode prog_38_method_5_code 78 = .ok (.iconst 1, 1) := by decide +kernel
theorem d2_79 : decode prog_38_method_5_code 79 = .ok (.iadd, 1) := by decide +kernel
theorem d2_80 : decode prog_38_method_5_code 80 = .ok (.baload, 1) := by decide +kernel
theorem d2_81 : decode prog_38_method_5_code 81 = .ok (.sipush 192, 3) := by decide +kernel
theorem d2_84 : decode prog_38_method_5_code 84 = .ok (.iand, 1) := by decide +kernel
theorem d2_85 : decode prog_38_method_5_code 85 = .ok (.sipush 128, 3) := by decide +kernel
theorem d2_88 : decode prog_38_method_5_code 88 = .ok (.if_icmp .ne 18, 3) := by decide +kernel
theorem d2_91 : decode prog_38_method_5_code 91 = .ok (.aload_n 0, 1) := by decide +kernel
theorem d2_92 : decode prog_38_method_5_code 92 = .ok (.iload_n 1, 1) := by decide +kernel
theorem d2_93 : decode prog_38_method_5_code 93 = .ok (.iconst 2, 1) := by decide +kernel
theorem d2_94 : decode prog_38_method_5_code 94 = .ok (.iadd, 1) := by decide +kernel
theorem d2_95 : decode prog_38_method_5_code 95 = .ok (.baload, 1) := by decide +kernel
theorem d2_96 : decode prog_38_method_5_code 96 = .ok (.sipush 192, 3) := by decide +kernel
theorem d2_99 : decode prog_38_method_5_code 99 = .ok (.iand, 1) := by decide +kernel
theorem d2_100 : decode prog_38_method_5_code 100 = .ok (.sipush 128, 3) := by decide +kernel
theorem d2_103 : decode prog_38_method_5_code 103 = .ok (.if_icmp .eq 5, 3) := by decide +kernel
theorem d2_106 : decode prog_38_method_5_code 106 = .ok (.iconst (-1), 1) := by decide +kernel
theorem d2_107 : decode prog_38_method_5_code 107 = .ok (.ireturn, 1) := by decide +kernel
theorem d2_108 : decode prog_38_method_5_code 108 = .ok (.iload_n 3, 1) := by decide +kernel
theorem d2_109 : decode prog_38_method_5_code 109 = .ok (.bipush 15, 2) := by decide +kernel
theorem d2_111 : decode prog_38_method_5_code 111 = .ok (.iand, 1) := by decide +kernel
theorem d2_112 : decode prog_38_method_5_code 112 = .ok (.bipush 12, 2) := by decide +kernel
theorem d2_114 : decode prog_38_method_5_code 114 = .ok (.ishl, 1) := by decide +kernel
theorem d2_115 : decode prog_38_method_5_code 115 = .ok (.aload_n 0, 1) := by decide +kernel
theorem d2_116 : decode prog_38_method_5_code 116 = .ok (.iload_n 1, 1) := by decide +kernel
theorem d2_117 : decode prog_38_method_5_code 117 = .ok (.iconst 1, 1) := by decide +kernel
theorem d2_118 : decode prog_38_method_5_code 118 = .ok (.iadd, 1) := by decide +kernel
theorem d2_119 : decode prog_38_method_5_code 119 = .ok (.baload, 1) := by decide +kernel
theorem d2_120 : decode prog_38_method_5_code 120 = .ok (.bipush 63, 2) := by decide +kernel
theorem d2_122 : decode prog_38_method_5_code 122 = .ok (.iand, 1) := by decide +kernel
theorem d2_123 : decode prog_38_method_5_code 123 = .ok (.bipush 6, 2) := by decide +kernel
theorem d2_125 : decode prog_38_method_5_code 125 = .ok (.ishl, 1) := by decide +kernel
theorem d2_126 : decode prog_38_method_5_code 126 = .ok (.ior, 1) := by decide +kernel
theorem d2_127 : decode prog_38_method_5_code 127 = .ok (.aload_n 0, 1) := by decide +kernel
theorem d2_128 : decode prog_38_method_5_code 128 = .ok (.iload_n 1, 1) := by decide +kernel
theorem d2_129 : decode prog_38_method_5_code 129 = .ok (.iconst 2, 1) := by decide +kernel
theorem d2_130 : decode prog_38_method_5_code 130 = .ok (.iadd, 1) := by decide +kernel
theorem d2_131 : decode prog_38_method_5_code 131 = .ok (.baload, 1) := by decide +kernel
theorem d2_132 : decode prog_38_method_5_code 132 = .ok (.bipush 63, 2) := by decide +kernel
theorem d2_134 : decode prog_38_method_5_code 134 = .ok (.iand, 1) := by decide +kernel
theorem d2_135 : decode prog_38_method_5_code 135 = .ok (.ior, 1) := by decide +kernel
theorem d2_136 : decode prog_38_method_5_code 136 = .ok (.istore 4, 2) := by decide +kernel
theorem d2_138 : decode prog_38_method_5_code 138 = .ok (.iload 4, 2) := by decide +kernel
theorem d2_140 : decode prog_38_method_5_code 140 = .ok (.sipush 2048, 3) := by decide +kernel
theorem d2_143 : decode prog_38_method_5_code 143 = .ok (.if_icmp .lt 24, 3) := by decide +kernel
theorem d2_146 : decode prog_38_method_5_code 146 = .ok (.iload 4, 2) := by decide +kernel
theorem d2_148 : decode prog_38_method_5_code 148 = .ok (.ldc 29, 2) := by decide +kernel
theorem d2_150 : decode prog_38_method_5_code 150 = .ok (.if_icmp .lt 10, 3) := by decide +kernel
theorem d2_153 : decode prog_38_method_5_code 153 = .ok (.iload 4, 2) := by decide +kernel
theorem d2_155 : decode prog_38_method_5_code 155 = .ok (.ldc 30, 2) := by decide +kernel
theorem d2_157 : decode prog_38_method_5_code 157 = .ok (.if_icmp .lt 10, 3) := by decide +kernel
theorem d2_160 : decode prog_38_method_5_code 160 = .ok (.iload 4, 2) := by decide +kernel
theorem d2_162 : decode prog_38_method_5_code 162 = .ok (.ldc 31, 2) := by decide +kernel
theorem d2_164 : decode prog_38_method_5_code 164 = .ok (.if_icmp .le 7, 3) := by decide +kernel
theorem d2_167 : decode prog_38_method_5_code 167 = .ok (.iconst (-1), 1) := by decide +kernel
theorem d2_168 : decode prog_38_method_5_code 168 = .ok (.goto 5, 3) := by decide +kernel
theorem d2_171 : decode prog_38_method_5_code 171 = .ok (.iload 4, 2) := by decide +kernel
theorem d2_173 : decode prog_38_method_5_code 173 = .ok (.ireturn, 1) := by decide +kernel
theorem d2_174 : decode prog_38_method_5_code 174 = .ok (.iload_n 3, 1) := by decide +kernel
theorem d2_175 : decode prog_38_method_5_code 175 = .ok (.bipush (-16), 2) := by decide +kernel
theorem d2_177 : decode prog_38_method_5_code 177 = .ok (.if_icmp .lt 126, 3) := by decide +kernel
theorem d2_180 : decode prog_38_method_5_code 180 = .ok (.iload_n 3, 1) := by decide +kernel
theorem d2_181 : decode prog_38_method_5_code 181 = .ok (.bipush (-12), 2) := by decide +kernel
theorem d2_183 : decode prog_38_method_5_code 183 = .ok (.if_icmp .gt 120, 3) := by decide +kernel
theorem d2_186 : decode prog_38_method_5_code 186 = .ok (.iload_n 1, 1) := by decide +kernel
theorem d2_187 : decode prog_38_method_5_code 187 = .ok (.iconst 3, 1) := by decide +kernel
theorem d2_188 : decode prog_38_method_5_code 188 = .ok (.iadd, 1) := by decide +kernel
theorem d2_189 : decode prog_38_method_5_code 189 = .ok (.iload_n 2, 1) := by decide +kernel
theorem d2_190 : decode prog_38_method_5_code 190 = .ok (.if_icmp .ge 48, 3) := by decide +kernel
theorem d2_193 : decode prog_38_method_5_code 193 = .ok (.aload_n 0, 1) := by decide +kernel
theorem d2_194 : decode prog_38_method_5_code 194 = .ok (.iload_n 1, 1) := by decide +kernel
theorem d2_195 : decode prog_38_method_5_code 195 = .ok (.iconst 1, 1) := by decide +kernel
theorem d2_196 : decode prog_38_method_5_code 196 = .ok (.iadd, 1) := by decide +kernel
theorem d2_197 : decode prog_38_method_5_code 197 = .ok (.baload, 1) := by decide +kernel
theorem d2_198 : decode prog_38_method_5_code 198 = .ok (.sipush 192, 3) := by decide +kernel
theorem d2_201 : decode prog_38_method_5_code 201 = .ok (.iand, 1) := by decide +kernel
theorem d2_202 : decode prog_38_method_5_code 202 = .ok (.sipush 128, 3) := by decide +kernel
theorem d2_205 : decode prog_38_method_5_code 205 = .ok (.if_icmp .ne 33, 3) := by decide +kernel
theorem d2_208 : decode prog_38_method_5_code 208 = .ok (.aload_n 0, 1) := by decide +kernel
theorem d2_209 : decode prog_38_method_5_code 209 = .ok (.iload_n 1, 1) := by decide +kernel
theorem d2_210 : decode prog_38_method_5_code 210 = .ok (.iconst 2, 1) := by decide +kernel
theorem d2_211 : decode prog_38_method_5_code 211 = .ok (.iadd, 1) := by decide +kernel
theorem d2_212 : decode prog_38_method_5_code 212 = .ok (.baload, 1) := by decide +kernel
theorem d2_213 : decode prog_38_method_5_code 213 = .ok (.sipush 192, 3) := by decide +kernel
theorem d2_216 : decode prog_38_method_5_code 216 = .ok (.iand, 1) := by decide +kernel
theorem d2_217 : decode prog_38_method_5_code 217 = .ok (.sipush 128, 3) := by decide +kernel
theorem d2_220 : decode prog_38_method_5_code 220 = .ok (.if_icmp .ne 18, 3) := by decide +kernel
theorem d2_223 : decode prog_38_method_5_code 223 = .ok (.aload_n 0, 1) := by decide +kernel
theorem d2_224 : decode prog_38_method_5_code 224 = .ok (.iload_n 1, 1) := by decide +kernel
theorem d2_225 : decode prog_38_method_5_code 225 = .ok (.iconst 3, 1) := by decide +kernel
theorem d2_226 : decode prog_38_method_5_code 226 = .ok (.iadd, 1) := by decide +kernel
theorem d2_227 : decode prog_38_method_5_code 227 = .ok (.baload, 1) := by decide +kernel
theorem d2_228 : decode prog_38_method_5_code 228 = .ok (.sipush 192, 3) := by decide +kernel
theorem d2_231 : decode prog_38_method_5_code 231 = .ok (.iand, 1) := by decide +kernel
theorem d2_232 : decode prog_38_method_5_code 232 = .ok (.sipush 128, 3) := by decide +kernel
theorem d2_235 : decode prog_38_method_5_code 235 = .ok (.if_icmp .eq 5, 3) := by decide +kernel
theorem d2_238 : decode prog_38_method_5_code 238 = .ok (.iconst (-1), 1) := by decide +kernel
theorem d2_239 : decode prog_38_method_5_code 239 = .ok (.ireturn, 1) := by decide +kernel
theorem d2_240 : decode prog_38_method_5_code 240 = .ok (.iload_n 3, 1) := by decide +kernel
theorem d2_241 : decode prog_38_method_5_code 241 = .ok (.bipush 7, 2) := by decide +kernel
theorem d2_243 : decode prog_38_method_5_code 243 = .ok (.iand, 1) := by decide +kernel
theorem d2_244 : decode prog_38_method_5_code 244 = .ok (.bipush 18, 2) := by decide +kernel
theorem d2_246 : decode prog_38_method_5_code 246 = .ok (.ishl, 1) := by decide +kernel
theorem d2_247 : decode prog_38_method_5_code 247 = .ok (.aload_n 0, 1) := by decide +kernel
theorem d2_248 : decode prog_38_method_5_code 248 = .ok (.iload_n 1, 1) := by decide +kernel
theorem d2_249 : decode prog_38_method_5_code 249 = .ok (.iconst 1, 1) := by decide +kernel
theorem d2_250 : decode prog_38_method_5_code 250 = .ok (.iadd, 1) := by decide +kernel
theorem d2_251 : decode prog_38_method_5_code 251 = .ok (.baload, 1) := by decide +kernel
theorem d2_252 : decode prog_38_method_5_code 252 = .ok (.bipush 63, 2) := by decide +kernel
theorem d2_254 : decode prog_38_method_5_code 254 = .ok (.iand, 1) := by decide +kernel
theorem d2_255 : decode prog_38_method_5_code 255 = .ok (.bipush 12, 2) := by decide +kernel
theorem d2_257 : decode prog_38_method_5_code 257 = .ok (.ishl, 1) := by decide +kernel
theorem d2_258 : decode prog_38_method_5_code 258 = .ok (.ior, 1) := by decide +kernel
theorem d2_259 : decode prog_38_method_5_code 259 = .ok (.aload_n 0, 1) := by decide +kernel
theorem d2_260 : decode prog_38_method_5_code 260 = .ok (.iload_n 1, 1) := by decide +kernel
theorem d2_261 : decode prog_38_method_5_code 261 = .ok (.iconst 2, 1) := by decide +kernel
theorem d2_262 : decode prog_38_method_5_code 262 = .ok (.iadd, 1) := by decide +kernel
theorem d2_263 : decode prog_38_method_5_code 263 = .ok (.baload, 1) := by decide +kernel
theorem d2_264 : decode prog_38_method_5_code 264 = .ok (.bipush 63, 2) := by decide +kernel
theorem d2_266 : decode prog_38_method_5_code 266 = .ok (.iand, 1) := by decide +kernel
theorem d2_267 : decode prog_38_method_5_code 267 = .ok (.bipush 6, 2) := by decide +kernel
theorem d2_269 : decode prog_38_method_5_code 269 = .ok (.ishl, 1) := by decide +kernel
theorem d2_270 : decode prog_38_method_5_code 270 = .ok (.ior, 1) := by decide +kernel
theorem d2_271 : decode prog_38_method_5_code 271 = .ok (.aload_n 0, 1) := by decide +kernel
theorem d2_272 : decode prog_38_method_5_code 272 = .ok (.iload_n 1, 1) := by decide +kernel
theorem d2_273 : decode prog_38_method_5_code 273 = .ok (.iconst 3, 1) := by decide +kernel
theorem d2_274 : decode prog_38_method_5_code 274 = .ok (.iadd, 1) := by decide +kernel
theorem d2_275 : decode prog_38_method_5_code 275 = .ok (.baload, 1) := by decide +kernel
theorem d2_276 : decode prog_38_method_5_code 276 = .ok (.bipush 63, 2) := by decide +kernel
theorem d2_278 : decode prog_38_method_5_code 278 = .ok (.iand, 1) := by decide +kernel
theorem d2_279 : decode prog_38_method_5_code 279 = .ok (.ior, 1) := by decide +kernel
theorem d2_280 : decode prog_38_method_5_code 280 = .ok (.istore 4, 2) := by decide +kernel
theorem d2_282 : decode prog_38_method_5_code 282 = .ok (.iload 4, 2) := by decide +kernel
theorem d2_284 : decode prog_38_method_5_code 284 = .ok (.ldc 34, 2) := by decide +kernel
theorem d2_286 : decode prog_38_method_5_code 286 = .ok (.if_icmp .lt 10, 3) := by decide +kernel
theorem d2_289 : decode prog_38_method_5_code 289 = .ok (.iload 4, 2) := by decide +kernel
theorem d2_291 : decode prog_38_method_5_code 291 = .ok (.ldc 35, 2) := by decide +kernel
theorem d2_293 : decode prog_38_method_5_code 293 = .ok (.if_icmp .le 7, 3) := by decide +kernel
theorem d2_296 : decode prog_38_method_5_code 296 = .ok (.iconst (-1), 1) := by decide +kernel
theorem d2_297 : decode prog_38_method_5_code 297 = .ok (.goto 5, 3) := by decide +kernel
theorem d2_300 : decode prog_38_method_5_code 300 = .ok (.iload 4, 2) := by decide +kernel
theorem d2_302 : decode prog_38_method_5_code 302 = .ok (.ireturn, 1) := by decide +kernel
theorem d2_303 : decode prog_38_method_5_code 303 = .ok (.iconst (-1), 1) := by decide +kernel
theorem d2_304 : decode prog_38_method_5_code 304 = .ok (.ireturn, 1) := by decide +kernel
theorem pn_2 : plainName "com/example/merkki/merkki/Utf8" = true := by first | (simp [plainName, overriddenIn]; done) | decide +kernel
theorem ef_2 (m : MethodId) (x0 : Addr) (x1 : Int32) (x2 : Int32) : entryFrame m #[(.ref x0), (.int x1), (.int x2)] 5 = mkF m 0 #[.val (.ref x0), .val (.int x1), .val (.int x2), .unset, .unset] [] := by first | (simp [entryFrame, mkF, argsToLocals, Value.category]; done) | rfl
def nd2_174_3 (pq : Int32) (lm : Int32) (fb : Int32 → Int32) : Int32 := (if (fb pq) < (-16 : Int32) then (-1 : Int32) else (if (-12 : Int32) < (fb pq) then (-1 : Int32) else (if (pq + (3 : Int32)) < lm then (if ((fb (pq + (1 : Int32))) &&& (192 : Int32)) = (128 : Int32) then (if ((fb (pq + (2 : Int32))) &&& (192 : Int32)) = (128 : Int32) then (if ((fb (pq + (3 : Int32))) &&& (192 : Int32)) = (128 : Int32) then (if ((((((fb pq) &&& (7 : Int32)) <<< ((18 : Int32) &&& 31)) ||| (((fb (pq + (1 : Int32))) &&& (63 : Int32)) <<< ((12 : Int32) &&& 31))) ||| (((fb (pq + (2 : Int32))) &&& (63 : Int32)) <<< ((6 : Int32) &&& 31))) ||| ((fb (pq + (3 : Int32))) &&& (63 : Int32))) < (65536 : Int32) then (-1 : Int32) else (if (1114111 : Int32) < ((((((fb pq) &&& (7 : Int32)) <<< ((18 : Int32) &&& 31)) ||| (((fb (pq + (1 : Int32))) &&& (63 : Int32)) <<< ((12 : Int32) &&& 31))) ||| (((fb (pq + (2 : Int32))) &&& (63 : Int32)) <<< ((6 : Int32) &&& 31))) ||| ((fb (pq + (3 : Int32))) &&& (63 : Int32))) then (-1 : Int32) else ((((((fb pq) &&& (7 : Int32)) <<< ((18 : Int32) &&& 31)) ||| (((fb (pq + (1 : Int32))) &&& (63 : Int32)) <<< ((12 : Int32) &&& 31))) ||| (((fb (pq + (2 : Int32))) &&& (63 : Int32)) <<< ((6 : Int32) &&& 31))) ||| ((fb (pq + (3 : Int32))) &&& (63 : Int32))))) else (-1 : Int32)) else (-1 : Int32)) else (-1 : Int32)) else (-1 : Int32))))
def nd2_160_4 (pq : Int32) (fb : Int32 → Int32) : Int32 := (if (65533 : Int32) < (((((fb pq) &&& (15 : Int32)) <<< ((12 : Int32) &&& 31)) ||| (((fb (pq + (1 : Int32))) &&& (63 : Int32)) <<< ((6 : Int32) &&& 31))) ||| ((fb (pq + (2 : Int32))) &&& (63 : Int32))) then (-1 : Int32) else (((((fb pq) &&& (15 : Int32)) <<< ((12 : Int32) &&& 31)) ||| (((fb (pq + (1 : Int32))) &&& (63 : Int32)) <<< ((6 : Int32) &&& 31))) ||| ((fb (pq + (2 : Int32))) &&& (63 : Int32))))
def nd2_57_5 (pq : Int32) (lm : Int32) (fb : Int32 → Int32) : Int32 := (if (fb pq) < (-32 : Int32) then (nd2_174_3 pq lm fb) else (if (-17 : Int32) < (fb pq) then (nd2_174_3 pq lm fb) else (if (pq + (2 : Int32)) < lm then (if ((fb (pq + (1 : Int32))) &&& (192 : Int32)) = (128 : Int32) then (if ((fb (pq + (2 : Int32))) &&& (192 : Int32)) = (128 : Int32) then (if (((((fb pq) &&& (15 : Int32)) <<< ((12 : Int32) &&& 31)) ||| (((fb (pq + (1 : Int32))) &&& (63 : Int32)) <<< ((6 : Int32) &&& 31))) ||| ((fb (pq + (2 : Int32))) &&& (63 : Int32))) < (2048 : Int32) then (-1 : Int32) else (if (((((fb pq) &&& (15 : Int32)) <<< ((12 : Int32) &&& 31)) ||| (((fb (pq + (1 : Int32))) &&& (63 : Int32)) <<< ((6 : Int32) &&& 31))) ||| ((fb (pq + (2 : Int32))) &&& (63 : Int32))) < (55296 : Int32) then (nd2_160_4 pq fb) else (if (((((fb pq) &&& (15 : Int32)) <<< ((12 : Int32) &&& 31)) ||| (((fb (pq + (1 : Int32))) &&& (63 : Int32)) <<< ((6 : Int32) &&& 31))) ||| ((fb (pq + (2 : Int32))) &&& (63 : Int32))) < (57344 : Int32) then (-1 : Int32) else (nd2_160_4 pq fb)))) else (-1 : Int32)) else (-1 : Int32)) else (-1 : Int32))))
def F2 (pq : Int32) (lm : Int32) (fb : Int32 → Int32) : Int32 := (if (fb pq) < (-62 : Int32) then (nd2_57_5 pq lm fb) else (if (-33 : Int32) < (fb pq) then (nd2_57_5 pq lm fb) else (if (pq + (1 : Int32)) = lm then (-1 : Int32) else (if ((fb (pq + (1 : Int32))) &&& (192 : Int32)) = (128 : Int32) then ((((fb pq) &&& (31 : Int32)) <<< ((6 : Int32) &&& 31)) ||| ((fb (pq + (1 : Int32))) &&& (63 : Int32))) else (-1 : Int32)))))
def Q2 (Z : State) (ia : Addr) (pq : Int32) (lm : Int32) (fb : Int32 → Int32) (h0 : Heap) (n0 : Nat) (v : Option Value) (h : Heap) (L : List Loc) : Prop := v = some (.int (F2 pq lm fb)) ∧ Fr n0 L ∧ h = h0
set_option maxRecDepth 65536 in
set_option maxHeartbeats 40000000 in
theorem rm2 (l : Launch) (Z : State) (a0 : Array Value) (hw : ∀ d ∈ tables_1, d.before a0 Z = true) (ws : List Jvm.Cond) (ia : Addr) (pq : Int32) (lm : Int32) (fb : Int32 → Int32) (h0 : Heap) (n0 : Nat) (Z0 : n0 ≤ h0.size) (I0 : PI Z h0 n0 ia fb) (hp0 : ¬ pq < 0) (hp1 : pq < (4 : Int32)) :
    MetFree l (⟨"com/example/merkki/merkki/Utf8", "sequence", "([BII)I"⟩ : MethodName) (head1 (Jvm.Cond.code (⟨"com/example/merkki/merkki/Utf8", "sequence", "([BII)I"⟩ : MethodName) prog_38_method_5_code 5 (some .int) :: ws) ({ frames := 0, cells := 0, slots := 0, locals := 0 } : Room)) (fun a U => a = #[(.ref ia), (.int pq), (.int lm)] ∧ Z.Warmed39 U.vm ∧ U.heap = h0) (fun _ _ _ _ _ => True) (fun _ U o U' => ∃ v L, o = .returned v ∧ Q2 Z ia pq lm fb h0 n0 v U'.heap L ∧ FrameEnd U o U' L ({ frames := 0, cells := 0, slots := 0, locals := 0 } : Room).cells ({ frames := 0, cells := 0, slots := 0, locals := 0 } : Room).slots) := by
  refine MetFree.of_bodySF (plainFor_of_name pn_2) hisR ?_
  intro p e s m args below meth c s₁ Bd hml0 hP hK
  obtain ⟨rfl, hZ, hh⟩ := hP
  have hx := Bd.exec
  have hby := Bd.bytes
  have hml : c.maxLocals = 5 := hml0
  have hown : s.vm.findClass "com/example/merkki/merkki/Utf8" = some m.cls := findClass_of_methodNamed Bd.named
  have hnm := (name_of_methodNamed Bd.named Bd.method).1
  have X0 : Stand p l e ({ frames := 0, cells := 0, slots := 0, locals := 0 } : Room) s m #[(.ref ia), (.int pq), (.int lm)] below meth c s₁ [] 0 0 := Stand.of_body Bd
  have e0 : s₁.heap = h0 := by rw [← hh, Bd.state]; rfl
  have N0 := Fr.nil n0
  have pre0 : ∀ t, Steps p.tables e below (s₁.setTop (mkF m 0 #[.val (.ref ia), .val (.int pq), .val (.int lm), .unset, .unset] [])) t → Steps p.tables e below (s₁.setTop (entryFrame m #[(.ref ia), (.int pq), (.int lm)] 5)) t := fun t k => castTop (ef_2 m ia pq lm) k
  obtain ⟨k1_0, k1_g_ia, k1_sz⟩ := I0
  have pre2 : ∀ t, Steps p.tables e below (s₁.setTop (mkF m 7 #[.val (.ref ia), .val (.int pq), .val (.int lm), .val (.int (fb pq)), .unset] [(.int (-62 : Int32)), (.int (fb pq))])) t → Steps p.tables e below (s₁.setTop (entryFrame m #[(.ref ia), (.int pq), (.int lm)] 5)) t := by
    intro t k
    refine pre0 t ?_
    show Steps p.tables e below (s₁.setTop (mkF m 0 #[.val (.ref ia), .val (.int pq), .val (.int lm), .unset, .unset] [])) _
    refine XS.aloadN X0.here hx rfl (hb hby d2_0) rfl rfl ?_
    show Steps p.tables e below (s₁.setTop (mkF m 1 #[.val (.ref ia), .val (.int pq), .val (.int lm), .unset, .unset] [(.ref ia)])) _
    refine XS.iloadN X0.here hx rfl (hb hby d2_1) rfl ?_
    show Steps p.tables e below (s₁.setTop (mkF m 2 #[.val (.ref ia), .val (.int pq), .val (.int lm), .unset, .unset] [(.int pq), (.ref ia)])) _
    refine rdB X0 hx hZ e0 k1_0 (j := pq) (own_ix0 hp0 hp1) rfl (g := (mkF m 2 #[.val (.ref ia), .val (.int pq), .val (.int lm), .unset, .unset] [(.int pq), (.ref ia)])) rfl rfl (hb hby d2_2) _ ?_
    show Steps p.tables e below (s₁.setTop (mkF m 3 #[.val (.ref ia), .val (.int pq), .val (.int lm), .unset, .unset] [(.int (fb pq))])) _
    refine XS.istoreN X0.here hx rfl (hb hby d2_3) rfl (l' := #[.val (.ref ia), .val (.int pq), .val (.int lm), .val (.int (fb pq)), .unset]) rfl ?_
    show Steps p.tables e below (s₁.setTop (mkF m 4 #[.val (.ref ia), .val (.int pq), .val (.int lm), .val (.int (fb pq)), .unset] [])) _
    refine XS.iloadN X0.here hx rfl (hb hby d2_4) rfl ?_
    show Steps p.tables e below (s₁.setTop (mkF m 5 #[.val (.ref ia), .val (.int pq), .val (.int lm), .val (.int (fb pq)), .unset] [(.int (fb pq))])) _
    refine XS.bipush X0.here hx rfl (hb hby d2_5) ?_
    exact k
  obtain ⟨fs, hr, hrun, hended, hW, hsame⟩ := X0.leave (v := some (.int (F2 pq lm fb))) (fun h => by rw [Bd.returns] at h; cases h) (BodyLoose.notSynchronized Bd)
  refine ⟨_, _, pre2 _ ?_, hrun, hended, _, _, rfl, ?_, ⟨_, rfl⟩, hW, hsame.mono (by decide) (by decide)⟩
  · have k : ∀ (v1 : Int32), v1 = (if (fb pq) < (-62 : Int32) then (nd2_57_5 pq lm fb) else (if (-33 : Int32) < (fb pq) then (nd2_57_5 pq lm fb) else (if (pq + (1 : Int32)) = lm then (-1 : Int32) else (if ((fb (pq + (1 : Int32))) &&& (192 : Int32)) = (128 : Int32) then ((((fb pq) &&& (31 : Int32)) <<< ((6 : Int32) &&& 31)) ||| ((fb (pq + (1 : Int32))) &&& (63 : Int32))) else (-1 : Int32))))) → ∀ (f : JFrame) (acts : List Action), f.method = m → f.locked = none → f.entered = [] → (doReturn e (s₁.setTop f) acts (some (.int v1))).1 = s₁.setFrames fs := fun v1 hv1 => by subst hv1; exact hr
    have nd6 : (∀ (v1 : Int32), v1 = (-1 : Int32) → ∀ (f : JFrame) (acts : List Action), f.method = m → f.locked = none → f.entered = [] → (doReturn e (s₁.setTop f) acts (some (.int v1))).1 = s₁.setFrames fs) → Steps p.tables e below (s₁.setTop (mkF m 303 #[.val (.ref ia), .val (.int pq), .val (.int lm), .val (.int (fb pq)), .unset] [])) (s₁.setFrames fs) := by
      intro k
      show Steps p.tables e below (s₁.setTop (mkF m 303 #[.val (.ref ia), .val (.int pq), .val (.int lm), .val (.int (fb pq)), .unset] [])) _
      refine XS.iconst X0.here hx rfl (hb hby d2_303) ?_
      show Steps p.tables e below (s₁.setTop (mkF m 304 #[.val (.ref ia), .val (.int pq), .val (.int lm), .val (.int (fb pq)), .unset] [(.int (-1 : Int32))])) _
      exact retI X0 hx Bd.returns (hb hby d2_304) (k _ rfl)
    have nd7 : (∀ (v1 : Int32), v1 = (-1 : Int32) → ∀ (f : JFrame) (acts : List Action), f.method = m → f.locked = none → f.entered = [] → (doReturn e (s₁.setTop f) acts (some (.int v1))).1 = s₁.setFrames fs) → Steps p.tables e below (s₁.setTop (mkF m 296 #[.val (.ref ia), .val (.int pq), .val (.int lm), .val (.int (fb pq)), .val (.int ((((((fb pq) &&& (7 : Int32)) <<< ((18 : Int32) &&& 31)) ||| (((fb (pq + (1 : Int32))) &&& (63 : Int32)) <<< ((12 : Int32) &&& 31))) ||| (((fb (pq + (2 : Int32))) &&& (63 : Int32)) <<< ((6 : Int32) &&& 31))) ||| ((fb (pq + (3 : Int32))) &&& (63 : Int32))))] [])) (s₁.setFrames fs) := by
      intro k
      show Steps p.tables e below (s₁.setTop (mkF m 296 #[.val (.ref ia), .val (.int pq), .val (.int lm), .val (.int (fb pq)), .val (.int ((((((fb pq) &&& (7 : Int32)) <<< ((18 : Int32) &&& 31)) ||| (((fb (pq + (1 : Int32))) &&& (63 : Int32)) <<< ((12 : Int32) &&& 31))) ||| (((fb (pq + (2 : Int32))) &&& (63 : Int32)) <<< ((6 : Int32) &&& 31))) ||| ((fb (pq + (3 : Int32))) &&& (63 : Int32))))] [])) _
      refine XS.iconst X0.here hx rfl (hb hby d2_296) ?_
      show Steps p.tables e below (s₁.setTop (mkF m 297 #[.val (.ref ia), .val (.int pq), .val (.int lm), .val (.int (fb pq)), .val (.int ((((((fb pq) &&& (7 : Int32)) <<< ((18 : Int32) &&& 31)) ||| (((fb (pq + (1 : Int32))) &&& (63 : Int32)) <<< ((12 : Int32) &&& 31))) ||| (((fb (pq + (2 : Int32))) &&& (63 : Int32)) <<< ((6 : Int32) &&& 31))) ||| ((fb (pq + (3 : Int32))) &&& (63 : Int32))))] [(.int (-1 : Int32))])) _
      refine XS.goto X0.here hx rfl (pc0 := 297) (pc' := 302) rfl (hb hby d2_297) (by decide) (by decide) ?_
      show Steps p.tables e below (s₁.setTop (mkF m 302 #[.val (.ref ia), .val (.int pq), .val (.int lm), .val (.int (fb pq)), .val (.int ((((((fb pq) &&& (7 : Int32)) <<< ((18 : Int32) &&& 31)) ||| (((fb (pq + (1 : Int32))) &&& (63 : Int32)) <<< ((12 : Int32) &&& 31))) ||| (((fb (pq + (2 : Int32))) &&& (63 : Int32)) <<< ((6 : Int32) &&& 31))) ||| ((fb (pq + (3 : Int32))) &&& (63 : Int32))))] [(.int (-1 : Int32))])) _
      exact retI X0 hx Bd.returns (hb hby d2_302) (k _ rfl)
    have nd8 : (∀ (v1 : Int32), v1 = (-1 : Int32) → ∀ (f : JFrame) (acts : List Action), f.method = m → f.locked = none → f.entered = [] → (doReturn e (s₁.setTop f) acts (some (.int v1))).1 = s₁.setFrames fs) → Steps p.tables e below (s₁.setTop (mkF m 238 #[.val (.ref ia), .val (.int pq), .val (.int lm), .val (.int (fb pq)), .unset] [])) (s₁.setFrames fs) := by
      intro k
      show Steps p.tables e below (s₁.setTop (mkF m 238 #[.val (.ref ia), .val (.int pq), .val (.int lm), .val (.int (fb pq)), .unset] [])) _
      refine XS.iconst X0.here hx rfl (hb hby d2_238) ?_
      show Steps p.tables e below (s₁.setTop (mkF m 239 #[.val (.ref ia), .val (.int pq), .val (.int lm), .val (.int (fb pq)), .unset] [(.int (-1 : Int32))])) _
      exact retI X0 hx Bd.returns (hb hby d2_239) (k _ rfl)
    have nd9 : (∀ (v1 : Int32), v1 = (nd2_174_3 pq lm fb) → ∀ (f : JFrame) (acts : List Action), f.method = m → f.locked = none → f.entered = [] → (doReturn e (s₁.setTop f) acts (some (.int v1))).1 = s₁.setFrames fs) → Steps p.tables e below (s₁.setTop (mkF m 174 #[.val (.ref ia), .val (.int pq), .val (.int lm), .val (.int (fb pq)), .unset] [])) (s₁.setFrames fs) := by
      intro k
      have k : ∀ (v1 : Int32), v1 = (if (fb pq) < (-16 : Int32) then (-1 : Int32) else (if (-12 : Int32) < (fb pq) then (-1 : Int32) else (if (pq + (3 : Int32)) < lm then (if ((fb (pq + (1 : Int32))) &&& (192 : Int32)) = (128 : Int32) then (if ((fb (pq + (2 : Int32))) &&& (192 : Int32)) = (128 : Int32) then (if ((fb (pq + (3 : Int32))) &&& (192 : Int32)) = (128 : Int32) then (if ((((((fb pq) &&& (7 : Int32)) <<< ((18 : Int32) &&& 31)) ||| (((fb (pq + (1 : Int32))) &&& (63 : Int32)) <<< ((12 : Int32) &&& 31))) ||| (((fb (pq + (2 : Int32))) &&& (63 : Int32)) <<< ((6 : Int32) &&& 31))) ||| ((fb (pq + (3 : Int32))) &&& (63 : Int32))) < (65536 : Int32) then (-1 : Int32) else (if (1114111 : Int32) < ((((((fb pq) &&& (7 : Int32)) <<< ((18 : Int32) &&& 31)) ||| (((fb (pq + (1 : Int32))) &&& (63 : Int32)) <<< ((12 : Int32) &&& 31))) ||| (((fb (pq + (2 : Int32))) &&& (63 : Int32)) <<< ((6 : Int32) &&& 31))) ||| ((fb (pq + (3 : Int32))) &&& (63 : Int32))) then (-1 : Int32) else ((((((fb pq) &&& (7 : Int32)) <<< ((18 : Int32) &&& 31)) ||| (((fb (pq + (1 : Int32))) &&& (63 : Int32)) <<< ((12 : Int32) &&& 31))) ||| (((fb (pq + (2 : Int32))) &&& (63 : Int32)) <<< ((6 : Int32) &&& 31))) ||| ((fb (pq + (3 : Int32))) &&& (63 : Int32))))) else (-1 : Int32)) else (-1 : Int32)) else (-1 : Int32)) else (-1 : Int32)))) → ∀ (f : JFrame) (acts : List Action), f.method = m → f.locked = none → f.entered = [] → (doReturn e (s₁.setTop f) acts (some (.int v1))).1 = s₁.setFrames fs := k
      show Steps p.tables e below (s₁.setTop (mkF m 174 #[.val (.ref ia), .val (.int pq), .val (.int lm), .val (.int (fb pq)), .unset] [])) _
      refine XS.iloadN X0.here hx rfl (hb hby d2_174) rfl ?_
      show Steps p.tables e below (s₁.setTop (mkF m 175 #[.val (.ref ia), .val (.int pq), .val (.int lm), .val (.int (fb pq)), .unset] [(.int (fb pq))])) _
      refine XS.bipush X0.here hx rfl (hb hby d2_175) ?_
      show Steps p.tables e below (s₁.setTop (mkF m 177 #[.val (.ref ia), .val (.int pq), .val (.int lm), .val (.int (fb pq)), .unset] [(.int (-16 : Int32)), (.int (fb pq))])) _
      by_cases hc10 : (fb pq) < (-16 : Int32)
      · refine XS.icmpYes X0.here hx rfl (pc0 := 177) (pc' := 303) rfl (hb hby d2_177) rfl (tlt hc10).1 (by decide) (by decide) ?_
        have k : ∀ (v1 : Int32), v1 = (-1 : Int32) → ∀ (f : JFrame) (acts : List Action), f.method = m → f.locked = none → f.entered = [] → (doReturn e (s₁.setTop f) acts (some (.int v1))).1 = s₁.setFrames fs := fun v1 hv1 => k v1 (hv1.trans (if_pos hc10).symm)
        exact nd6 k
      · refine XS.icmpNo X0.here hx rfl (hb hby d2_177) rfl (flt hc10).1 ?_
        have k : ∀ (v1 : Int32), v1 = (if (-12 : Int32) < (fb pq) then (-1 : Int32) else (if (pq + (3 : Int32)) < lm then (if ((fb (pq + (1 : Int32))) &&& (192 : Int32)) = (128 : Int32) then (if ((fb (pq + (2 : Int32))) &&& (192 : Int32)) = (128 : Int32) then (if ((fb (pq + (3 : Int32))) &&& (192 : Int32)) = (128 : Int32) then (if ((((((fb pq) &&& (7 : Int32)) <<< ((18 : Int32) &&& 31)) ||| (((fb (pq + (1 : Int32))) &&& (63 : Int32)) <<< ((12 : Int32) &&& 31))) ||| (((fb (pq + (2 : Int32))) &&& (63 : Int32)) <<< ((6 : Int32) &&& 31))) ||| ((fb (pq + (3 : Int32))) &&& (63 : Int32))) < (65536 : Int32) then (-1 : Int32) else (if (1114111 : Int32) < ((((((fb pq) &&& (7 : Int32)) <<< ((18 : Int32) &&& 31)) ||| (((fb (pq + (1 : Int32))) &&& (63 : Int32)) <<< ((12 : Int32) &&& 31))) ||| (((fb (pq + (2 : Int32))) &&& (63 : Int32)) <<< ((6 : Int32) &&& 31))) ||| ((fb (pq + (3 : Int32))) &&& (63 : Int32))) then (-1 : Int32) else ((((((fb pq) &&& (7 : Int32)) <<< ((18 : Int32) &&& 31)) ||| (((fb (pq + (1 : Int32))) &&& (63 : Int32)) <<< ((12 : Int32) &&& 31))) ||| (((fb (pq + (2 : Int32))) &&& (63 : Int32)) <<< ((6 : Int32) &&& 31))) ||| ((fb (pq + (3 : Int32))) &&& (63 : Int32))))) else (-1 : Int32)) else (-1 : Int32)) else (-1 : Int32)) else (-1 : Int32))) → ∀ (f : JFrame) (acts : List Action), f.method = m → f.locked = none → f.entered = [] → (doReturn e (s₁.setTop f) acts (some (.int v1))).1 = s₁.setFrames fs := fun v1 hv1 => k v1 (hv1.trans (if_neg hc10).symm)
        show Steps p.tables e below (s₁.setTop (mkF m 180 #[.val (.ref ia), .val (.int pq), .val (.int lm), .val (.int (fb pq)), .unset] [])) _
        refine XS.iloadN X0.here hx rfl (hb hby d2_180) rfl ?_
        show Steps p.tables e below (s₁.setTop (mkF m 181 #[.val (.ref ia), .val (.int pq), .val (.int lm), .val (.int (fb pq)), .unset] [(.int (fb pq))])) _
        refine XS.bipush X0.here hx rfl (hb hby d2_181) ?_
        show Steps p.tables e below (s₁.setTop (mkF m 183 #[.val (.ref ia), .val (.int pq), .val (.int lm), .val (.int (fb pq)), .unset] [(.int (-12 : Int32)), (.int (fb pq))])) _
        by_cases hc11 : (-12 : Int32) < (fb pq)
        · refine XS.icmpYes X0.here hx rfl (pc0 := 183) (pc' := 303) rfl (hb hby d2_183) rfl (tlt hc11).2.2.1 (by decide) (by decide) ?_
          have k : ∀ (v1 : Int32), v1 = (-1 : Int32) → ∀ (f : JFrame) (acts : List Action), f.method = m → f.locked = none → f.entered = [] → (doReturn e (s₁.setTop f) acts (some (.int v1))).1 = s₁.setFrames fs := fun v1 hv1 => k v1 (hv1.trans (if_pos hc11).symm)
          exact nd6 k
        · refine XS.icmpNo X0.here hx rfl (hb hby d2_183) rfl (flt hc11).2.2.1 ?_
          have k : ∀ (v1 : Int32), v1 = (if (pq + (3 : Int32)) < lm then (if ((fb (pq + (1 : Int32))) &&& (192 : Int32)) = (128 : Int32) then (if ((fb (pq + (2 : Int32))) &&& (192 : Int32)) = (128 : Int32) then (if ((fb (pq + (3 : Int32))) &&& (192 : Int32)) = (128 : Int32) then (if ((((((fb pq) &&& (7 : Int32)) <<< ((18 : Int32) &&& 31)) ||| (((fb (pq + (1 : Int32))) &&& (63 : Int32)) <<< ((12 : Int32) &&& 31))) ||| (((fb (pq + (2 : Int32))) &&& (63 : Int32)) <<< ((6 : Int32) &&& 31))) ||| ((fb (pq + (3 : Int32))) &&& (63 : Int32))) < (65536 : Int32) then (-1 : Int32) else (if (1114111 : Int32) < ((((((fb pq) &&& (7 : Int32)) <<< ((18 : Int32) &&& 31)) ||| (((fb (pq + (1 : Int32))) &&& (63 : Int32)) <<< ((12 : Int32) &&& 31))) ||| (((fb (pq + (2 : Int32))) &&& (63 : Int32)) <<< ((6 : Int32) &&& 31))) ||| ((fb (pq + (3 : Int32))) &&& (63 : Int32))) then (-1 : Int32) else ((((((fb pq) &&& (7 : Int32)) <<< ((18 : Int32) &&& 31)) ||| (((fb (pq + (1 : Int32))) &&& (63 : Int32)) <<< ((12 : Int32) &&& 31))) ||| (((fb (pq + (2 : Int32))) &&& (63 : Int32)) <<< ((6 : Int32) &&& 31))) ||| ((fb (pq + (3 : Int32))) &&& (63 : Int32))))) else (-1 : Int32)) else (-1 : Int32)) else (-1 : Int32)) else (-1 : Int32)) → ∀ (f : JFrame) (acts : List Action), f.method = m → f.locked = none → f.entered = [] → (doReturn e (s₁.setTop f) acts (some (.int v1))).1 = s₁.setFrames fs := fun v1 hv1 => k v1 (hv1.trans (if_neg hc11).symm)
          show Steps p.tables e below (s₁.setTop (mkF m 186 #[.val (.ref ia), .val (.int pq), .val (.int lm), .val (.int (fb pq)), .unset] [])) _
          refine XS.iloadN X0.here hx rfl (hb hby d2_186) rfl ?_
          show Steps p.tables e below (s₁.setTop (mkF m 187 #[.val (.ref ia), .val (.int pq), .val (.int lm), .val (.int (fb pq)), .unset] [(.int pq)])) _
          refine XS.iconst X0.here hx rfl (hb hby d2_187) ?_
          show Steps p.tables e below (s₁.setTop (mkF m 188 #[.val (.ref ia), .val (.int pq), .val (.int lm), .val (.int (fb pq)), .unset] [(.int (3 : Int32)), (.int pq)])) _
          refine XS.iadd X0.here hx rfl (hb hby d2_188) rfl ?_
          show Steps p.tables e below (s₁.setTop (mkF m 189 #[.val (.ref ia), .val (.int pq), .val (.int lm), .val (.int (fb pq)), .unset] [(.int (pq + (3 : Int32)))])) _
          refine XS.iloadN X0.here hx rfl (hb hby d2_189) rfl ?_
          show Steps p.tables e below (s₁.setTop (mkF m 190 #[.val (.ref ia), .val (.int pq), .val (.int lm), .val (.int (fb pq)), .unset] [(.int lm), (.int (pq + (3 : Int32)))])) _
          by_cases hc12 : (pq + (3 : Int32)) < lm
          · refine XS.icmpNo X0.here hx rfl (hb hby d2_190) rfl (tlt hc12).2.1 ?_
            have k : ∀ (v1 : Int32), v1 = (if ((fb (pq + (1 : Int32))) &&& (192 : Int32)) = (128 : Int32) then (if ((fb (pq + (2 : Int32))) &&& (192 : Int32)) = (128 : Int32) then (if ((fb (pq + (3 : Int32))) &&& (192 : Int32)) = (128 : Int32) then (if ((((((fb pq) &&& (7 : Int32)) <<< ((18 : Int32) &&& 31)) ||| (((fb (pq + (1 : Int32))) &&& (63 : Int32)) <<< ((12 : Int32) &&& 31))) ||| (((fb (pq + (2 : Int32))) &&& (63 : Int32)) <<< ((6 : Int32) &&& 31))) ||| ((fb (pq + (3 : Int32))) &&& (63 : Int32))) < (65536 : Int32) then (-1 : Int32) else (if (1114111 : Int32) < ((((((fb pq) &&& (7 : Int32)) <<< ((18 : Int32) &&& 31)) ||| (((fb (pq + (1 : Int32))) &&& (63 : Int32)) <<< ((12 : Int32) &&& 31))) ||| (((fb (pq + (2 : Int32))) &&& (63 : Int32)) <<< ((6 : Int32) &&& 31))) ||| ((fb (pq + (3 : Int32))) &&& (63 : Int32))) then (-1 : Int32) else ((((((fb pq) &&& (7 : Int32)) <<< ((18 : Int32) &&& 31)) ||| (((fb (pq + (1 : Int32))) &&& (63 : Int32)) <<< ((12 : Int32) &&& 31))) ||| (((fb (pq + (2 : Int32))) &&& (63 : Int32)) <<< ((6 : Int32) &&& 31))) ||| ((fb (pq + (3 : Int32))) &&& (63 : Int32))))) else (-1 : Int32)) else (-1 : Int32)) else (-1 : Int32)) → ∀ (f : JFrame) (acts : List Action), f.method = m → f.locked = none → f.entered = [] → (doReturn e (s₁.setTop f) acts (some (.int v1))).1 = s₁.setFrames fs := fun v1 hv1 => k v1 (hv1.trans (if_pos hc12).symm)
            show Steps p.tables e below (s₁.setTop (mkF m 193 #[.val (.ref ia), .val (.int pq), .val (.int lm), .val (.int (fb pq)), .unset] [])) _
            refine XS.aloadN X0.here hx rfl (hb hby d2_193) rfl rfl ?_
            show Steps p.tables e below (s₁.setTop (mkF m 194 #[.val (.ref ia), .val (.int pq), .val (.int lm), .val (.int (fb pq)), .unset] [(.ref ia)])) _
            refine XS.iloadN X0.here hx rfl (hb hby d2_194) rfl ?_
            show Steps p.tables e below (s₁.setTop (mkF m 195 #[.val (.ref ia), .val (.int pq), .val (.int lm), .val (.int (fb pq)), .unset] [(.int pq), (.ref ia)])) _
            refine XS.iconst X0.here hx rfl (hb hby d2_195) ?_
            show Steps p.tables e below (s₁.setTop (mkF m 196 #[.val (.ref ia), .val (.int pq), .val (.int lm), .val (.int (fb pq)), .unset] [(.int (1 : Int32)), (.int pq), (.ref ia)])) _
            refine XS.iadd X0.here hx rfl (hb hby d2_196) rfl ?_
            show Steps p.tables e below (s₁.setTop (mkF m 197 #[.val (.ref ia), .val (.int pq), .val (.int lm), .val (.int (fb pq)), .unset] [(.int (pq + (1 : Int32))), (.ref ia)])) _
            refine rdB X0 hx hZ e0 k1_0 (j := (pq + (1 : Int32))) (own_ix1 hp0 hp1) rfl (g := (mkF m 197 #[.val (.ref ia), .val (.int pq), .val (.int lm), .val (.int (fb pq)), .unset] [(.int (pq + (1 : Int32))), (.ref ia)])) rfl rfl (hb hby d2_197) _ ?_
            show Steps p.tables e below (s₁.setTop (mkF m 198 #[.val (.ref ia), .val (.int pq), .val (.int lm), .val (.int (fb pq)), .unset] [(.int (fb (pq + (1 : Int32))))])) _
            refine XS.sipush X0.here hx rfl (hb hby d2_198) ?_
            show Steps p.tables e below (s₁.setTop (mkF m 201 #[.val (.ref ia), .val (.int pq), .val (.int lm), .val (.int (fb pq)), .unset] [(.int (192 : Int32)), (.int (fb (pq + (1 : Int32))))])) _
            refine XS.iand X0.here hx rfl (hb hby d2_201) rfl ?_
            show Steps p.tables e below (s₁.setTop (mkF m 202 #[.val (.ref ia), .val (.int pq), .val (.int lm), .val (.int (fb pq)), .unset] [(.int ((fb (pq + (1 : Int32))) &&& (192 : Int32)))])) _
            refine XS.sipush X0.here hx rfl (hb hby d2_202) ?_
            show Steps p.tables e below (s₁.setTop (mkF m 205 #[.val (.ref ia), .val (.int pq), .val (.int lm), .val (.int (fb pq)), .unset] [(.int (128 : Int32)), (.int ((fb (pq + (1 : Int32))) &&& (192 : Int32)))])) _
            by_cases hc13 : ((fb (pq + (1 : Int32))) &&& (192 : Int32)) = (128 : Int32)
            · refine XS.icmpNo X0.here hx rfl (hb hby d2_205) rfl (teq hc13).2 ?_
              have k : ∀ (v1 : Int32), v1 = (if ((fb (pq + (2 : Int32))) &&& (192 : Int32)) = (128 : Int32) then (if ((fb (pq + (3 : Int32))) &&& (192 : Int32)) = (128 : Int32) then (if ((((((fb pq) &&& (7 : Int32)) <<< ((18 : Int32) &&& 31)) ||| (((fb (pq + (1 : Int32))) &&& (63 : Int32)) <<< ((12 : Int32) &&& 31))) ||| (((fb (pq + (2 : Int32))) &&& (63 : Int32)) <<< ((6 : Int32) &&& 31))) ||| ((fb (pq + (3 : Int32))) &&& (63 : Int32))) < (65536 : Int32) then (-1 : Int32) else (if (1114111 : Int32) < ((((((fb pq) &&& (7 : Int32)) <<< ((18 : Int32) &&& 31)) ||| (((fb (pq + (1 : Int32))) &&& (63 : Int32)) <<< ((12 : Int32) &&& 31))) ||| (((fb (pq + (2 : Int32))) &&& (63 : Int32)) <<< ((6 : Int32) &&& 31))) ||| ((fb (pq + (3 : Int32))) &&& (63 : Int32))) then (-1 : Int32) else ((((((fb pq) &&& (7 : Int32)) <<< ((18 : Int32) &&& 31)) ||| (((fb (pq + (1 : Int32))) &&& (63 : Int32)) <<< ((12 : Int32) &&& 31))) ||| (((fb (pq + (2 : Int32))) &&& (63 : Int32)) <<< ((6 : Int32) &&& 31))) ||| ((fb (pq + (3 : Int32))) &&& (63 : Int32))))) else (-1 : Int32)) else (-1 : Int32)) → ∀ (f : JFrame) (acts : List Action), f.method = m → f.locked = none → f.entered = [] → (doReturn e (s₁.setTop f) acts (some (.int v1))).1 = s₁.setFrames fs := fun v1 hv1 => k v1 (hv1.trans (if_pos hc13).symm)
              show Steps p.tables e below (s₁.setTop (mkF m 208 #[.val (.ref ia), .val (.int pq), .val (.int lm), .val (.int (fb pq)), .unset] [])) _
              refine XS.aloadN X0.here hx rfl (hb hby d2_208) rfl rfl ?_
              show Steps p.tables e below (s₁.setTop (mkF m 209 #[.val (.ref ia), .val (.int pq), .val (.int lm), .val (.int (fb pq)), .unset] [(.ref ia)])) _
              refine XS.iloadN X0.here hx rfl (hb hby d2_209) rfl ?_
              show Steps p.tables e below (s₁.setTop (mkF m 210 #[.val (.ref ia), .val (.int pq), .val (.int lm), .val (.int (fb pq)), .unset] [(.int pq), (.ref ia)])) _
              refine XS.iconst X0.here hx rfl (hb hby d2_210) ?_
              show Steps p.tables e below (s₁.setTop (mkF m 211 #[.val (.ref ia), .val (.int pq), .val (.int lm), .val (.int (fb pq)), .unset] [(.int (2 : Int32)), (.int pq), (.ref ia)])) _
              refine XS.iadd X0.here hx rfl (hb hby d2_211) rfl ?_
              show Steps p.tables e below (s₁.setTop (mkF m 212 #[.val (.ref ia), .val (.int pq), .val (.int lm), .val (.int (fb pq)), .unset] [(.int (pq + (2 : Int32))), (.ref ia)])) _
              refine rdB X0 hx hZ e0 k1_0 (j := (pq + (2 : Int32))) (own_ix2 hp0 hp1) rfl (g := (mkF m 212 #[.val (.ref ia), .val (.int pq), .val (.int lm), .val (.int (fb pq)), .unset] [(.int (pq + (2 : Int32))), (.ref ia)])) rfl rfl (hb hby d2_212) _ ?_
              show Steps p.tables e below (s₁.setTop (mkF m 213 #[.val (.ref ia), .val (.int pq), .val (.int lm), .val (.int (fb pq)), .unset] [(.int (fb (pq + (2 : Int32))))])) _
              refine XS.sipush X0.here hx rfl (hb hby d2_213) ?_
              show Steps p.tables e below (s₁.setTop (mkF m 216 #[.val (.ref ia), .val (.int pq), .val (.int lm), .val (.int (fb pq)), .unset] [(.int (192 : Int32)), (.int (fb (pq + (2 : Int32))))])) _
              refine XS.iand X0.here hx rfl (hb hby d2_216) rfl ?_
              show Steps p.tables e below (s₁.setTop (mkF m 217 #[.val (.ref ia), .val (.int pq), .val (.int lm), .val (.int (fb pq)), .unset] [(.int ((fb (pq + (2 : Int32))) &&& (192 : Int32)))])) _
              refine XS.sipush X0.here hx rfl (hb hby d2_217) ?_
              show Steps p.tables e below (s₁.setTop (mkF m 220 #[.val (.ref ia), .val (.int pq), .val (.int lm), .val (.int (fb pq)), .unset] [(.int (128 : Int32)), (.int ((fb (pq + (2 : Int32))) &&& (192 : Int32)))])) _
              by_cases hc14 : ((fb (pq + (2 : Int32))) &&& (192 : Int32)) = (128 : Int32)
              · refine XS.icmpNo X0.here hx rfl (hb hby d2_220) rfl (teq hc14).2 ?_
                have k : ∀ (v1 : Int32), v1 = (if ((fb (pq + (3 : Int32))) &&& (192 : Int32)) = (128 : Int32) then (if ((((((fb pq) &&& (7 : Int32)) <<< ((18 : Int32) &&& 31)) ||| (((fb (pq + (1 : Int32))) &&& (63 : Int32)) <<< ((12 : Int32) &&& 31))) ||| (((fb (pq + (2 : Int32))) &&& (63 : Int32)) <<< ((6 : Int32) &&& 31))) ||| ((fb (pq + (3 : Int32))) &&& (63 : Int32))) < (65536 : Int32) then (-1 : Int32) else (if (1114111 : Int32) < ((((((fb pq) &&& (7 : Int32)) <<< ((18 : Int32) &&& 31)) ||| (((fb (pq + (1 : Int32))) &&& (63 : Int32)) <<< ((12 : Int32) &&& 31))) ||| (((fb (pq + (2 : Int32))) &&& (63 : Int32)) <<< ((6 : Int32) &&& 31))) ||| ((fb (pq + (3 : Int32))) &&& (63 : Int32))) then (-1 : Int32) else ((((((fb pq) &&& (7 : Int32)) <<< ((18 : Int32) &&& 31)) ||| (((fb (pq + (1 : Int32))) &&& (63 : Int32)) <<< ((12 : Int32) &&& 31))) ||| (((fb (pq + (2 : Int32))) &&& (63 : Int32)) <<< ((6 : Int32) &&& 31))) ||| ((fb (pq + (3 : Int32))) &&& (63 : Int32))))) else (-1 : Int32)) → ∀ (f : JFrame) (acts : List Action), f.method = m → f.locked = none → f.entered = [] → (doReturn e (s₁.setTop f) acts (some (.int v1))).1 = s₁.setFrames fs := fun v1 hv1 => k v1 (hv1.trans (if_pos hc14).symm)
                show Steps p.tables e below (s₁.setTop (mkF m 223 #[.val (.ref ia), .val (.int pq), .val (.int lm), .val (.int (fb pq)), .unset] [])) _
                refine XS.aloadN X0.here hx rfl (hb hby d2_223) rfl rfl ?_
                show Steps p.tables e below (s₁.setTop (mkF m 224 #[.val (.ref ia), .val (.int pq), .val (.int lm), .val (.int (fb pq)), .unset] [(.ref ia)])) _
                refine XS.iloadN X0.here hx rfl (hb hby d2_224) rfl ?_
                show Steps p.tables e below (s₁.setTop (mkF m 225 #[.val (.ref ia), .val (.int pq), .val (.int lm), .val (.int (fb pq)), .unset] [(.int pq), (.ref ia)])) _
                refine XS.iconst X0.here hx rfl (hb hby d2_225) ?_
                show Steps p.tables e below (s₁.setTop (mkF m 226 #[.val (.ref ia), .val (.int pq), .val (.int lm), .val (.int (fb pq)), .unset] [(.int (3 : Int32)), (.int pq), (.ref ia)])) _
                refine XS.iadd X0.here hx rfl (hb hby d2_226) rfl ?_
                show Steps p.tables e below (s₁.setTop (mkF m 227 #[.val (.ref ia), .val (.int pq), .val (.int lm), .val (.int (fb pq)), .unset] [(.int (pq + (3 : Int32))), (.ref ia)])) _
                refine rdB X0 hx hZ e0 k1_0 (j := (pq + (3 : Int32))) (own_ix3 hp0 hp1) rfl (g := (mkF m 227 #[.val (.ref ia), .val (.int pq), .val (.int lm), .val (.int (fb pq)), .unset] [(.int (pq + (3 : Int32))), (.ref ia)])) rfl rfl (hb hby d2_227) _ ?_
                show Steps p.tables e below (s₁.setTop (mkF m 228 #[.val (.ref ia), .val (.int pq), .val (.int lm), .val (.int (fb pq)), .unset] [(.int (fb (pq + (3 : Int32))))])) _
                refine XS.sipush X0.here hx rfl (hb hby d2_228) ?_
                show Steps p.tables e below (s₁.setTop (mkF m 231 #[.val (.ref ia), .val (.int pq), .val (.int lm), .val (.int (fb pq)), .unset] [(.int (192 : Int32)), (.int (fb (pq + (3 : Int32))))])) _
                refine XS.iand X0.here hx rfl (hb hby d2_231) rfl ?_
                show Steps p.tables e below (s₁.setTop (mkF m 232 #[.val (.ref ia), .val (.int pq), .val (.int lm), .val (.int (fb pq)), .unset] [(.int ((fb (pq + (3 : Int32))) &&& (192 : Int32)))])) _
                refine XS.sipush X0.here hx rfl (hb hby d2_232) ?_
                show Steps p.tables e below (s₁.setTop (mkF m 235 #[.val (.ref ia), .val (.int pq), .val (.int lm), .val (.int (fb pq)), .unset] [(.int (128 : Int32)), (.int ((fb (pq + (3 : Int32))) &&& (192 : Int32)))])) _
                by_cases hc15 : ((fb (pq + (3 : Int32))) &&& (192 : Int32)) = (128 : Int32)
                · refine XS.icmpYes X0.here hx rfl (pc0 := 235) (pc' := 240) rfl (hb hby d2_235) rfl (teq hc15).1 (by decide) (by decide) ?_
                  have k : ∀ (v1 : Int32), v1 = (if ((((((fb pq) &&& (7 : Int32)) <<< ((18 : Int32) &&& 31)) ||| (((fb (pq + (1 : Int32))) &&& (63 : Int32)) <<< ((12 : Int32) &&& 31))) ||| (((fb (pq + (2 : Int32))) &&& (63 : Int32)) <<< ((6 : Int32) &&& 31))) ||| ((fb (pq + (3 : Int32))) &&& (63 : Int32))) < (65536 : Int32) then (-1 : Int32) else (if (1114111 : Int32) < ((((((fb pq) &&& (7 : Int32)) <<< ((18 : Int32) &&& 31)) ||| (((fb (pq + (1 : Int32))) &&& (63 : Int32)) <<< ((12 : Int32) &&& 31))) ||| (((fb (pq + (2 : Int32))) &&& (63 : Int32)) <<< ((6 : Int32) &&& 31))) ||| ((fb (pq + (3 : Int32))) &&& (63 : Int32))) then (-1 : Int32) else ((((((fb pq) &&& (7 : Int32)) <<< ((18 : Int32) &&& 31)) ||| (((fb (pq + (1 : Int32))) &&& (63 : Int32)) <<< ((12 : Int32) &&& 31))) ||| (((fb (pq + (2 : Int32))) &&& (63 : Int32)) <<< ((6 : Int32) &&& 31))) ||| ((fb (pq + (3 : Int32))) &&& (63 : Int32))))) → ∀ (f : JFrame) (acts : List Action), f.method = m → f.locked = none → f.entered = [] → (doReturn e (s₁.setTop f) acts (some (.int v1))).1 = s₁.setFrames fs := fun v1 hv1 => k v1 (hv1.trans (if_pos hc15).symm)
                  show Steps p.tables e below (s₁.setTop (mkF m 240 #[.val (.ref ia), .val (.int pq), .val (.int lm), .val (.int (fb pq)), .unset] [])) _
                  refine XS.iloadN X0.here hx rfl (hb hby d2_240) rfl ?_
                  show Steps p.tables e below (s₁.setTop (mkF m 241 #[.val (.ref ia), .val (.int pq), .val (.int lm), .val (.int (fb pq)), .unset] [(.int (fb pq))])) _
                  refine XS.bipush X0.here hx rfl (hb hby d2_241) ?_
                  show Steps p.tables e below (s₁.setTop (mkF m 243 #[.val (.ref ia), .val (.int pq), .val (.int lm), .val (.int (fb pq)), .unset] [(.int (7 : Int32)), (.int (fb pq))])) _
                  refine XS.iand X0.here hx rfl (hb hby d2_243) rfl ?_
                  show Steps p.tables e below (s₁.setTop (mkF m 244 #[.val (.ref ia), .val (.int pq), .val (.int lm), .val (.int (fb pq)), .unset] [(.int ((fb pq) &&& (7 : Int32)))])) _
                  refine XS.bipush X0.here hx rfl (hb hby d2_244) ?_
                  show Steps p.tables e below (s₁.setTop (mkF m 246 #[.val (.ref ia), .val (.int pq), .val (.int lm), .val (.int (fb pq)), .unset] [(.int (18 : Int32)), (.int ((fb pq) &&& (7 : Int32)))])) _
                  refine XS.ishl X0.here hx rfl (hb hby d2_246) rfl ?_
                  show Steps p.tables e below (s₁.setTop (mkF m 247 #[.val (.ref ia), .val (.int pq), .val (.int lm), .val (.int (fb pq)), .unset] [(.int (((fb pq) &&& (7 : Int32)) <<< ((18 : Int32) &&& 31)))])) _
                  refine XS.aloadN X0.here hx rfl (hb hby d2_247) rfl rfl ?_
                  show Steps p.tables e below (s₁.setTop (mkF m 248 #[.val (.ref ia), .val (.int pq), .val (.int lm), .val (.int (fb pq)), .unset] [(.ref ia), (.int (((fb pq) &&& (7 : Int32)) <<< ((18 : Int32) &&& 31)))])) _
                  refine XS.iloadN X0.here hx rfl (hb hby d2_248) rfl ?_
                  show Steps p.tables e below (s₁.setTop (mkF m 249 #[.val (.ref ia), .val (.int pq), .val (.int lm), .val (.int (fb pq)), .unset] [(.int pq), (.ref ia), (.int (((fb pq) &&& (7 : Int32)) <<< ((18 : Int32) &&& 31)))])) _
                  refine XS.iconst X0.here hx rfl (hb hby d2_249) ?_
                  show Steps p.tables e below (s₁.setTop (mkF m 250 #[.val (.ref ia), .val (.int pq), .val (.int lm), .val (.int (fb pq)), .unset] [(.int (1 : Int32)), (.int pq), (.ref ia), (.int (((fb pq) &&& (7 : Int32)) <<< ((18 : Int32) &&& 31)))])) _
                  refine XS.iadd X0.here hx rfl (hb hby d2_250) rfl ?_
                  show Steps p.tables e below (s₁.setTop (mkF m 251 #[.val (.ref ia), .val (.int pq), .val (.int lm), .val (.int (fb pq)), .unset] [(.int (pq + (1 : Int32))), (.ref ia), (.int (((fb pq) &&& (7 : Int32)) <<< ((18 : Int32) &&& 31)))])) _
                  refine rdB X0 hx hZ e0 k1_0 (j := (pq + (1 : Int32))) (own_ix1 hp0 hp1) rfl (g := (mkF m 251 #[.val (.ref ia), .val (.int pq), .val (.int lm), .val (.int (fb pq)), .unset] [(.int (pq + (1 : Int32))), (.ref ia), (.int (((fb pq) &&& (7 : Int32)) <<< ((18 : Int32) &&& 31)))])) rfl rfl (hb hby d2_251) _ ?_
                  show Steps p.tables e below (s₁.setTop (mkF m 252 #[.val (.ref ia), .val (.int pq), .val (.int lm), .val (.int (fb pq)), .unset] [(.int (fb (pq + (1 : Int32)))), (.int (((fb pq) &&& (7 : Int32)) <<< ((18 : Int32) &&& 31)))])) _
                  refine XS.bipush X0.here hx rfl (hb hby d2_252) ?_
                  show Steps p.tables e below (s₁.setTop (mkF m 254 #[.val (.ref ia), .val (.int pq), .val (.int lm), .val (.int (fb pq)), .unset] [(.int (63 : Int32)), (.int (fb (pq + (1 : Int32)))), (.int (((fb pq) &&& (7 : Int32)) <<< ((18 : Int32) &&& 31)))])) _
                  refine XS.iand X0.here hx rfl (hb hby d2_254) rfl ?_
                  show Steps p.tables e below (s₁.setTop (mkF m 255 #[.val (.ref ia), .val (.int pq), .val (.int lm), .val (.int (fb pq)), .unset] [(.int ((fb (pq + (1 : Int32))) &&& (63 : Int32))), (.int (((fb pq) &&& (7 : Int32)) <<< ((18 : Int32) &&& 31)))])) _
                  refine XS.bipush X0.here hx rfl (hb hby d2_255) ?_
                  show Steps p.tables e below (s₁.setTop (mkF m 257 #[.val (.ref ia), .val (.int pq), .val (.int lm), .val (.int (fb pq)), .unset] [(.int (12 : Int32)), (.int ((fb (pq + (1 : Int32))) &&& (63 : Int32))), (.int (((fb pq) &&& (7 : Int32)) <<< ((18 : Int32) &&& 31)))])) _
                  refine XS.ishl X0.here hx rfl (hb hby d2_257) rfl ?_
                  show Steps p.tables e below (s₁.setTop (mkF m 258 #[.val (.ref ia), .val (.int pq), .val (.int lm), .val (.int (fb pq)), .unset] [(.int (((fb (pq + (1 : Int32))) &&& (63 : Int32)) <<< ((12 : Int32) &&& 31))), (.int (((fb pq) &&& (7 : Int32)) <<< ((18 : Int32) &&& 31)))])) _
                  refine XS.ior X0.here hx rfl (hb hby d2_258) rfl ?_
                  show Steps p.tables e below (s₁.setTop (mkF m 259 #[.val (.ref ia), .val (.int pq), .val (.int lm), .val (.int (fb pq)), .unset] [(.int ((((fb pq) &&& (7 : Int32)) <<< ((18 : Int32) &&& 31)) ||| (((fb (pq + (1 : Int32))) &&& (63 : Int32)) <<< ((12 : Int32) &&& 31))))])) _
                  refine XS.aloadN X0.here hx rfl (hb hby d2_259) rfl rfl ?_
                  show Steps p.tables e below (s₁.setTop (mkF m 260 #[.val (.ref ia), .val (.int pq), .val (.int lm), .val (.int (fb pq)), .unset] [(.ref ia), (.int ((((fb pq) &&& (7 : Int32)) <<< ((18 : Int32) &&& 31)) ||| (((fb (pq + (1 : Int32))) &&& (63 : Int32)) <<< ((12 : Int32) &&& 31))))])) _
                  refine XS.iloadN X0.here hx rfl (hb hby d2_260) rfl ?_
                  show Steps p.tables e below (s₁.setTop (mkF m 261 #[.val (.ref ia), .val (.int pq), .val (.int lm), .val (.int (fb pq)), .unset] [(.int pq), (.ref ia), (.int ((((fb pq) &&& (7 : Int32)) <<< ((18 : Int32) &&& 31)) ||| (((fb (pq + (1 : Int32))) &&& (63 : Int32)) <<< ((12 : Int32) &&& 31))))])) _
                  refine XS.iconst X0.here hx rfl (hb hby d2_261) ?_
                  show Steps p.tables e below (s₁.setTop (mkF m 262 #[.val (.ref ia), .val (.int pq), .val (.int lm), .val (.int (fb pq)), .unset] [(.int (2 : Int32)), (.int pq), (.ref ia), (.int ((((fb pq) &&& (7 : Int32)) <<< ((18 : Int32) &&& 31)) ||| (((fb (pq + (1 : Int32))) &&& (63 : Int32)) <<< ((12 : Int32) &&& 31))))])) _
                  refine XS.iadd X0.here hx rfl (hb hby d2_262) rfl ?_
                  show Steps p.tables e below (s₁.setTop (mkF m 263 #[.val (.ref ia), .val (.int pq), .val (.int lm), .val (.int (fb pq)), .unset] [(.int (pq + (2 : Int32))), (.ref ia), (.int ((((fb pq) &&& (7 : Int32)) <<< ((18 : Int32) &&& 31)) ||| (((fb (pq + (1 : Int32))) &&& (63 : Int32)) <<< ((12 : Int32) &&& 31))))])) _
                  refine rdB X0 hx hZ e0 k1_0 (j := (pq + (2 : Int32))) (own_ix2 hp0 hp1) rfl (g := (mkF m 263 #[.val (.ref ia), .val (.int pq), .val (.int lm), .val (.int (fb pq)), .unset] [(.int (pq + (2 : Int32))), (.ref ia), (.int ((((fb pq) &&& (7 : Int32)) <<< ((18 : Int32) &&& 31)) ||| (((fb (pq + (1 : Int32))) &&& (63 : Int32)) <<< ((12 : Int32) &&& 31))))])) rfl rfl (hb hby d2_263) _ ?_
                  show Steps p.tables e below (s₁.setTop (mkF m 264 #[.val (.ref ia), .val (.int pq), .val (.int lm), .val (.int (fb pq)), .unset] [(.int (fb (pq + (2 : Int32)))), (.int ((((fb pq) &&& (7 : Int32)) <<< ((18 : Int32) &&& 31)) ||| (((fb (pq + (1 : Int32))) &&& (63 : Int32)) <<< ((12 : Int32) &&& 31))))])) _
                  refine XS.bipush X0.here hx rfl (hb hby d2_264) ?_
                  show Steps p.tables e below (s₁.setTop (mkF m 266 #[.val (.ref ia), .val (.int pq), .val (.int lm), .val (.int (fb pq)), .unset] [(.int (63 : Int32)), (.int (fb (pq + (2 : Int32)))), (.int ((((fb pq) &&& (7 : Int32)) <<< ((18 : Int32) &&& 31)) ||| (((fb (pq + (1 : Int32))) &&& (63 : Int32)) <<< ((12 : Int32) &&& 31))))])) _
                  refine XS.iand X0.here hx rfl (hb hby d2_266) rfl ?_
                  show Steps p.tables e below (s₁.setTop (mkF m 267 #[.val (.ref ia), .val (.int pq), .val (.int lm), .val (.int (fb pq)), .unset] [(.int ((fb (pq + (2 : Int32))) &&& (63 : Int32))), (.int ((((fb pq) &&& (7 : Int32)) <<< ((18 : Int32) &&& 31)) ||| (((fb (pq + (1 : Int32))) &&& (63 : Int32)) <<< ((12 : Int32) &&& 31))))])) _
                  refine XS.bipush X0.here hx rfl (hb hby d2_267) ?_
                  show Steps p.tables e below (s₁.setTop (mkF m 269 #[.val (.ref ia), .val (.int pq), .val (.int lm), .val (.int (fb pq)), .unset] [(.int (6 : Int32)), (.int ((fb (pq + (2 : Int32))) &&& (63 : Int32))), (.int ((((fb pq) &&& (7 : Int32)) <<< ((18 : Int32) &&& 31)) ||| (((fb (pq + (1 : Int32))) &&& (63 : Int32)) <<< ((12 : Int32) &&& 31))))])) _
                  refine XS.ishl X0.here hx rfl (hb hby d2_269) rfl ?_
                  show Steps p.tables e below (s₁.setTop (mkF m 270 #[.val (.ref ia), .val (.int pq), .val (.int lm), .val (.int (fb pq)), .unset] [(.int (((fb (pq + (2 : Int32))) &&& (63 : Int32)) <<< ((6 : Int32) &&& 31))), (.int ((((fb pq) &&& (7 : Int32)) <<< ((18 : Int32) &&& 31)) ||| (((fb (pq + (1 : Int32))) &&& (63 : Int32)) <<< ((12 : Int32) &&& 31))))])) _
                  refine XS.ior X0.here hx rfl (hb hby d2_270) rfl ?_
                  show Steps p.tables e below (s₁.setTop (mkF m 271 #[.val (.ref ia), .val (.int pq), .val (.int lm), .val (.int (fb pq)), .unset] [(.int (((((fb pq) &&& (7 : Int32)) <<< ((18 : Int32) &&& 31)) ||| (((fb (pq + (1 : Int32))) &&& (63 : Int32)) <<< ((12 : Int32) &&& 31))) ||| (((fb (pq + (2 : Int32))) &&& (63 : Int32)) <<< ((6 : Int32) &&& 31))))])) _
                  refine XS.aloadN X0.here hx rfl (hb hby d2_271) rfl rfl ?_
                  show Steps p.tables e below (s₁.setTop (mkF m 272 #[.val (.ref ia), .val (.int pq), .val (.int lm), .val (.int (fb pq)), .unset] [(.ref ia), (.int (((((fb pq) &&& (7 : Int32)) <<< ((18 : Int32) &&& 31)) ||| (((fb (pq + (1 : Int32))) &&& (63 : Int32)) <<< ((12 : Int32) &&& 31))) ||| (((fb (pq + (2 : Int32))) &&& (63 : Int32)) <<< ((6 : Int32) &&& 31))))])) _
                  refine XS.iloadN X0.here hx rfl (hb hby d2_272) rfl ?_
                  show Steps p.tables e below (s₁.setTop (mkF m 273 #[.val (.ref ia), .val (.int pq), .val (.int lm), .val (.int (fb pq)), .unset] [(.int pq), (.ref ia), (.int (((((fb pq) &&& (7 : Int32)) <<< ((18 : Int32) &&& 31)) ||| (((fb (pq + (1 : Int32))) &&& (63 : Int32)) <<< ((12 : Int32) &&& 31))) ||| (((fb (pq + (2 : Int32))) &&& (63 : Int32)) <<< ((6 : Int32) &&& 31))))])) _
                  refine XS.iconst X0.here hx rfl (hb hby d2_273) ?_
                  show Steps p.tables e below (s₁.setTop (mkF m 274 #[.val (.ref ia), .val (.int pq), .val (.int lm), .val (.int (fb pq)), .unset] [(.int (3 : Int32)), (.int pq), (.ref ia), (.int (((((fb pq) &&& (7 : Int32)) <<< ((18 : Int32) &&& 31)) ||| (((fb (pq + (1 : Int32))) &&& (63 : Int32)) <<< ((12 : Int32) &&& 31))) ||| (((fb (pq + (2 : Int32))) &&& (63 : Int32)) <<< ((6 : Int32) &&& 31))))])) _
                  refine XS.iadd X0.here hx rfl (hb hby d2_274) rfl ?_
                  show Steps p.tables e below (s₁.setTop (mkF m 275 #[.val (.ref ia), .val (.int pq), .val (.int lm), .val (.int (fb pq)), .unset] [(.int (pq + (3 : Int32))), (.ref ia), (.int (((((fb pq) &&& (7 : Int32)) <<< ((18 : Int32) &&& 31)) ||| (((fb (pq + (1 : Int32))) &&& (63 : Int32)) <<< ((12 : Int32) &&& 31))) ||| (((fb (pq + (2 : Int32))) &&& (63 : Int32)) <<< ((6 : Int32) &&& 31))))])) _
                  refine rdB X0 hx hZ e0 k1_0 (j := (pq + (3 : Int32))) (own_ix3 hp0 hp1) rfl (g := (mkF m 275 #[.val (.ref ia), .val (.int pq), .val (.int lm), .val (.int (fb pq)), .unset] [(.int (pq + (3 : Int32))), (.ref ia), (.int (((((fb pq) &&& (7 : Int32)) <<< ((18 : Int32) &&& 31)) ||| (((fb (pq + (1 : Int32))) &&& (63 : Int32)) <<< ((12 : Int32) &&& 31))) ||| (((fb (pq + (2 : Int32))) &&& (63 : Int32)) <<< ((6 : Int32) &&& 31))))])) rfl rfl (hb hby d2_275) _ ?_
                  show Steps p.tables e below (s₁.setTop (mkF m 276 #[.val (.ref ia), .val (.int pq), .val (.int lm), .val (.int (fb pq)), .unset] [(.int (fb (pq + (3 : Int32)))), (.int (((((fb pq) &&& (7 : Int32)) <<< ((18 : Int32) &&& 31)) ||| (((fb (pq + (1 : Int32))) &&& (63 : Int32)) <<< ((12 : Int32) &&& 31))) ||| (((fb (pq + (2 : Int32))) &&& (63 : Int32)) <<< ((6 : Int32) &&& 31))))])) _
                  refine XS.bipush X0.here hx rfl (hb hby d2_276) ?_
                  show Steps p.tables e below (s₁.setTop (mkF m 278 #[.val (.ref ia), .val (.int pq), .val (.int lm), .val (.int (fb pq)), .unset] [(.int (63 : Int32)), (.int (fb (pq + (3 : Int32)))), (.int (((((fb pq) &&& (7 : Int32)) <<< ((18 : Int32) &&& 31)) ||| (((fb (pq + (1 : Int32))) &&& (63 : Int32)) <<< ((12 : Int32) &&& 31))) ||| (((fb (pq + (2 : Int32))) &&& (63 : Int32)) <<< ((6 : Int32) &&& 31))))])) _
                  refine XS.iand X0.here hx rfl (hb hby d2_278) rfl ?_
                  show Steps p.tables e below (s₁.setTop (mkF m 279 #[.val (.ref ia), .val (.int pq), .val (.int lm), .val (.int (fb pq)), .unset] [(.int ((fb (pq + (3 : Int32))) &&& (63 : Int32))), (.int (((((fb pq) &&& (7 : Int32)) <<< ((18 : Int32) &&& 31)) ||| (((fb (pq + (1 : Int32))) &&& (63 : Int32)) <<< ((12 : Int32) &&& 31))) ||| (((fb (pq + (2 : Int32))) &&& (63 : Int32)) <<< ((6 : Int32) &&& 31))))])) _
                  refine XS.ior X0.here hx rfl (hb hby d2_279) rfl ?_
                  show Steps p.tables e below (s₁.setTop (mkF m 280 #[.val (.ref ia), .val (.int pq), .val (.int lm), .val (.int (fb pq)), .unset] [(.int ((((((fb pq) &&& (7 : Int32)) <<< ((18 : Int32) &&& 31)) ||| (((fb (pq + (1 : Int32))) &&& (63 : Int32)) <<< ((12 : Int32) &&& 31))) ||| (((fb (pq + (2 : Int32))) &&& (63 : Int32)) <<< ((6 : Int32) &&& 31))) ||| ((fb (pq + (3 : Int32))) &&& (63 : Int32))))])) _
                  refine XS.istore X0.here hx rfl (hb hby d2_280) rfl (l' := #[.val (.ref ia), .val (.int pq), .val (.int lm), .val (.int (fb pq)), .val (.int ((((((fb pq) &&& (7 : Int32)) <<< ((18 : Int32) &&& 31)) ||| (((fb (pq + (1 : Int32))) &&& (63 : Int32)) <<< ((12 : Int32) &&& 31))) ||| (((fb (pq + (2 : Int32))) &&& (63 : Int32)) <<< ((6 : Int32) &&& 31))) ||| ((fb (pq + (3 : Int32))) &&& (63 : Int32))))]) rfl ?_
                  show Steps p.tables e below (s₁.setTop (mkF m 282 #[.val (.ref ia), .val (.int pq), .val (.int lm), .val (.int (fb pq)), .val (.int ((((((fb pq) &&& (7 : Int32)) <<< ((18 : Int32) &&& 31)) ||| (((fb (pq + (1 : Int32))) &&& (63 : Int32)) <<< ((12 : Int32) &&& 31))) ||| (((fb (pq + (2 : Int32))) &&& (63 : Int32)) <<< ((6 : Int32) &&& 31))) ||| ((fb (pq + (3 : Int32))) &&& (63 : Int32))))] [])) _
                  refine XS.iload X0.here hx rfl (hb hby d2_282) rfl ?_
                  show Steps p.tables e below (s₁.setTop (mkF m 284 #[.val (.ref ia), .val (.int pq), .val (.int lm), .val (.int (fb pq)), .val (.int ((((((fb pq) &&& (7 : Int32)) <<< ((18 : Int32) &&& 31)) ||| (((fb (pq + (1 : Int32))) &&& (63 : Int32)) <<< ((12 : Int32) &&& 31))) ||| (((fb (pq + (2 : Int32))) &&& (63 : Int32)) <<< ((6 : Int32) &&& 31))) ||| ((fb (pq + (3 : Int32))) &&& (63 : Int32))))] [(.int ((((((fb pq) &&& (7 : Int32)) <<< ((18 : Int32) &&& 31)) ||| (((fb (pq + (1 : Int32))) &&& (63 : Int32)) <<< ((12 : Int32) &&& 31))) ||| (((fb (pq + (2 : Int32))) &&& (63 : Int32)) <<< ((6 : Int32) &&& 31))) ||| ((fb (pq + (3 : Int32))) &&& (63 : Int32))))])) _
                  refine X0.ldcInt hx hown (mvT hZ (hw _ (List.mem_of_getElem? (i := 13) rfl))) (g := (mkF m 284 #[.val (.ref ia), .val (.int pq), .val (.int lm), .val (.int (fb pq)), .val (.int ((((((fb pq) &&& (7 : Int32)) <<< ((18 : Int32) &&& 31)) ||| (((fb (pq + (1 : Int32))) &&& (63 : Int32)) <<< ((12 : Int32) &&& 31))) ||| (((fb (pq + (2 : Int32))) &&& (63 : Int32)) <<< ((6 : Int32) &&& 31))) ||| ((fb (pq + (3 : Int32))) &&& (63 : Int32))))] [(.int ((((((fb pq) &&& (7 : Int32)) <<< ((18 : Int32) &&& 31)) ||| (((fb (pq + (1 : Int32))) &&& (63 : Int32)) <<< ((12 : Int32) &&& 31))) ||| (((fb (pq + (2 : Int32))) &&& (63 : Int32)) <<< ((6 : Int32) &&& 31))) ||| ((fb (pq + (3 : Int32))) &&& (63 : Int32))))])) rfl (hb hby d2_284) _ ?_
                  show Steps p.tables e below (s₁.setTop (mkF m 286 #[.val (.ref ia), .val (.int pq), .val (.int lm), .val (.int (fb pq)), .val (.int ((((((fb pq) &&& (7 : Int32)) <<< ((18 : Int32) &&& 31)) ||| (((fb (pq + (1 : Int32))) &&& (63 : Int32)) <<< ((12 : Int32) &&& 31))) ||| (((fb (pq + (2 : Int32))) &&& (63 : Int32)) <<< ((6 : Int32) &&& 31))) ||| ((fb (pq + (3 : Int32))) &&& (63 : Int32))))] [(.int (65536 : Int32)), (.int ((((((fb pq) &&& (7 : Int32)) <<< ((18 : Int32) &&& 31)) ||| (((fb (pq + (1 : Int32))) &&& (63 : Int32)) <<< ((12 : Int32) &&& 31))) ||| (((fb (pq + (2 : Int32))) &&& (63 : Int32)) <<< ((6 : Int32) &&& 31))) ||| ((fb (pq + (3 : Int32))) &&& (63 : Int32))))])) _
                  by_cases hc16 : ((((((fb pq) &&& (7 : Int32)) <<< ((18 : Int32) &&& 31)) ||| (((fb (pq + (1 : Int32))) &&& (63 : Int32)) <<< ((12 : Int32) &&& 31))) ||| (((fb (pq + (2 : Int32))) &&& (63 : Int32)) <<< ((6 : Int32) &&& 31))) ||| ((fb (pq + (3 : Int32))) &&& (63 : Int32))) < (65536 : Int32)
                  · refine XS.icmpYes X0.here hx rfl (pc0 := 286) (pc' := 296) rfl (hb hby d2_286) rfl (tlt hc16).1 (by decide) (by decide) ?_
                    have k : ∀ (v1 : Int32), v1 = (-1 : Int32) → ∀ (f : JFrame) (acts : List Action), f.method = m → f.locked = none → f.entered = [] → (doReturn e (s₁.setTop f) acts (some (.int v1))).1 = s₁.setFrames fs := fun v1 hv1 => k v1 (hv1.trans (if_pos hc16).symm)
                    exact nd7 k
                  · refine XS.icmpNo X0.here hx rfl (hb hby d2_286) rfl (flt hc16).1 ?_
                    have k : ∀ (v1 : Int32), v1 = (if (1114111 : Int32) < ((((((fb pq) &&& (7 : Int32)) <<< ((18 : Int32) &&& 31)) ||| (((fb (pq + (1 : Int32))) &&& (63 : Int32)) <<< ((12 : Int32) &&& 31))) ||| (((fb (pq + (2 : Int32))) &&& (63 : Int32)) <<< ((6 : Int32) &&& 31))) ||| ((fb (pq + (3 : Int32))) &&& (63 : Int32))) then (-1 : Int32) else ((((((fb pq) &&& (7 : Int32)) <<< ((18 : Int32) &&& 31)) ||| (((fb (pq + (1 : Int32))) &&& (63 : Int32)) <<< ((12 : Int32) &&& 31))) ||| (((fb (pq + (2 : Int32))) &&& (63 : Int32)) <<< ((6 : Int32) &&& 31))) ||| ((fb (pq + (3 : Int32))) &&& (63 : Int32)))) → ∀ (f : JFrame) (acts : List Action), f.method = m → f.locked = none → f.entered = [] → (doReturn e (s₁.setTop f) acts (some (.int v1))).1 = s₁.setFrames fs := fun v1 hv1 => k v1 (hv1.trans (if_neg hc16).symm)
                    show Steps p.tables e below (s₁.setTop (mkF m 289 #[.val (.ref ia), .val (.int pq), .val (.int lm), .val (.int (fb pq)), .val (.int ((((((fb pq) &&& (7 : Int32)) <<< ((18 : Int32) &&& 31)) ||| (((fb (pq + (1 : Int32))) &&& (63 : Int32)) <<< ((12 : Int32) &&& 31))) ||| (((fb (pq + (2 : Int32))) &&& (63 : Int32)) <<< ((6 : Int32) &&& 31))) ||| ((fb (pq + (3 : Int32))) &&& (63 : Int32))))] [])) _
                    refine XS.iload X0.here hx rfl (hb hby d2_289) rfl ?_
                    show Steps p.tables e below (s₁.setTop (mkF m 291 #[.val (.ref ia), .val (.int pq), .val (.int lm), .val (.int (fb pq)), .val (.int ((((((fb pq) &&& (7 : Int32)) <<< ((18 : Int32) &&& 31)) ||| (((fb (pq + (1 : Int32))) &&& (63 : Int32)) <<< ((12 : Int32) &&& 31))) ||| (((fb (pq + (2 : Int32))) &&& (63 : Int32)) <<< ((6 : Int32) &&& 31))) ||| ((fb (pq + (3 : Int32))) &&& (63 : Int32))))] [(.int ((((((fb pq) &&& (7 : Int32)) <<< ((18 : Int32) &&& 31)) ||| (((fb (pq + (1 : Int32))) &&& (63 : Int32)) <<< ((12 : Int32) &&& 31))) ||| (((fb (pq + (2 : Int32))) &&& (63 : Int32)) <<< ((6 : Int32) &&& 31))) ||| ((fb (pq + (3 : Int32))) &&& (63 : Int32))))])) _
                    refine X0.ldcInt hx hown (mvT hZ (hw _ (List.mem_of_getElem? (i := 28) rfl))) (g := (mkF m 291 #[.val (.ref ia), .val (.int pq), .val (.int lm), .val (.int (fb pq)), .val (.int ((((((fb pq) &&& (7 : Int32)) <<< ((18 : Int32) &&& 31)) ||| (((fb (pq + (1 : Int32))) &&& (63 : Int32)) <<< ((12 : Int32) &&& 31))) ||| (((fb (pq + (2 : Int32))) &&& (63 : Int32)) <<< ((6 : Int32) &&& 31))) ||| ((fb (pq + (3 : Int32))) &&& (63 : Int32))))] [(.int ((((((fb pq) &&& (7 : Int32)) <<< ((18 : Int32) &&& 31)) ||| (((fb (pq + (1 : Int32))) &&& (63 : Int32)) <<< ((12 : Int32) &&& 31))) ||| (((fb (pq + (2 : Int32))) &&& (63 : Int32)) <<< ((6 : Int32) &&& 31))) ||| ((fb (pq + (3 : Int32))) &&& (63 : Int32))))])) rfl (hb hby d2_291) _ ?_
                    show Steps p.tables e below (s₁.setTop (mkF m 293 #[.val (.ref ia), .val (.int pq), .val (.int lm), .val (.int (fb pq)), .val (.int ((((((fb pq) &&& (7 : Int32)) <<< ((18 : Int32) &&& 31)) ||| (((fb (pq + (1 : Int32))) &&& (63 : Int32)) <<< ((12 : Int32) &&& 31))) ||| (((fb (pq + (2 : Int32))) &&& (63 : Int32)) <<< ((6 : Int32) &&& 31))) ||| ((fb (pq + (3 : Int32))) &&& (63 : Int32))))] [(.int (1114111 : Int32)), (.int ((((((fb pq) &&& (7 : Int32)) <<< ((18 : Int32) &&& 31)) ||| (((fb (pq + (1 : Int32))) &&& (63 : Int32)) <<< ((12 : Int32) &&& 31))) ||| (((fb (pq + (2 : Int32))) &&& (63 : Int32)) <<< ((6 : Int32) &&& 31))) ||| ((fb (pq + (3 : Int32))) &&& (63 : Int32))))])) _
                    by_cases hc17 : (1114111 : Int32) < ((((((fb pq) &&& (7 : Int32)) <<< ((18 : Int32) &&& 31)) ||| (((fb (pq + (1 : Int32))) &&& (63 : Int32)) <<< ((12 : Int32) &&& 31))) ||| (((fb (pq + (2 : Int32))) &&& (63 : Int32)) <<< ((6 : Int32) &&& 31))) ||| ((fb (pq + (3 : Int32))) &&& (63 : Int32)))
                    · refine XS.icmpNo X0.here hx rfl (hb hby d2_293) rfl (tlt hc17).2.2.2 ?_
                      have k : ∀ (v1 : Int32), v1 = (-1 : Int32) → ∀ (f : JFrame) (acts : List Action), f.method = m → f.locked = none → f.entered = [] → (doReturn e (s₁.setTop f) acts (some (.int v1))).1 = s₁.setFrames fs := fun v1 hv1 => k v1 (hv1.trans (if_pos hc17).symm)
                      exact nd7 k
                    · refine XS.icmpYes X0.here hx rfl (pc0 := 293) (pc' := 300) rfl (hb hby d2_293) rfl (flt hc17).2.2.2 (by decide) (by decide) ?_
                      have k : ∀ (v1 : Int32), v1 = ((((((fb pq) &&& (7 : Int32)) <<< ((18 : Int32) &&& 31)) ||| (((fb (pq + (1 : Int32))) &&& (63 : Int32)) <<< ((12 : Int32) &&& 31))) ||| (((fb (pq + (2 : Int32))) &&& (63 : Int32)) <<< ((6 : Int32) &&& 31))) ||| ((fb (pq + (3 : Int32))) &&& (63 : Int32))) → ∀ (f : JFrame) (acts : List Action), f.method = m → f.locked = none → f.entered = [] → (doReturn e (s₁.setTop f) acts (some (.int v1))).1 = s₁.setFrames fs := fun v1 hv1 => k v1 (hv1.trans (if_neg hc17).symm)
                      show Steps p.tables e below (s₁.setTop (mkF m 300 #[.val (.ref ia), .val (.int pq), .val (.int lm), .val (.int (fb pq)), .val (.int ((((((fb pq) &&& (7 : Int32)) <<< ((18 : Int32) &&& 31)) ||| (((fb (pq + (1 : Int32))) &&& (63 : Int32)) <<< ((12 : Int32) &&& 31))) ||| (((fb (pq + (2 : Int32))) &&& (63 : Int32)) <<< ((6 : Int32) &&& 31))) ||| ((fb (pq + (3 : Int32))) &&& (63 : Int32))))] [])) _
                      refine XS.iload X0.here hx rfl (hb hby d2_300) rfl ?_
                      show Steps p.tables e below (s₁.setTop (mkF m 302 #[.val (.ref ia), .val (.int pq), .val (.int lm), .val (.int (fb pq)), .val (.int ((((((fb pq) &&& (7 : Int32)) <<< ((18 : Int32) &&& 31)) ||| (((fb (pq + (1 : Int32))) &&& (63 : Int32)) <<< ((12 : Int32) &&& 31))) ||| (((fb (pq + (2 : Int32))) &&& (63 : Int32)) <<< ((6 : Int32) &&& 31))) ||| ((fb (pq + (3 : Int32))) &&& (63 : Int32))))] [(.int ((((((fb pq) &&& (7 : Int32)) <<< ((18 : Int32) &&& 31)) ||| (((fb (pq + (1 : Int32))) &&& (63 : Int32)) <<< ((12 : Int32) &&& 31))) ||| (((fb (pq + (2 : Int32))) &&& (63 : Int32)) <<< ((6 : Int32) &&& 31))) ||| ((fb (pq + (3 : Int32))) &&& (63 : Int32))))])) _
                      exact retI X0 hx Bd.returns (hb hby d2_302) (k _ rfl)
                · refine XS.icmpNo X0.here hx rfl (hb hby d2_235) rfl (feq hc15).1 ?_
                  have k : ∀ (v1 : Int32), v1 = (-1 : Int32) → ∀ (f : JFrame) (acts : List Action), f.method = m → f.locked = none → f.entered = [] → (doReturn e (s₁.setTop f) acts (some (.int v1))).1 = s₁.setFrames fs := fun v1 hv1 => k v1 (hv1.trans (if_neg hc15).symm)
                  exact nd8 k
              · refine XS.icmpYes X0.here hx rfl (pc0 := 220) (pc' := 238) rfl (hb hby d2_220) rfl (feq hc14).2 (by decide) (by decide) ?_
                have k : ∀ (v1 : Int32), v1 = (-1 : Int32) → ∀ (f : JFrame) (acts : List Action), f.method = m → f.locked = none → f.entered = [] → (doReturn e (s₁.setTop f) acts (some (.int v1))).1 = s₁.setFrames fs := fun v1 hv1 => k v1 (hv1.trans (if_neg hc14).symm)
                exact nd8 k
            · refine XS.icmpYes X0.here hx rfl (pc0 := 205) (pc' := 238) rfl (hb hby d2_205) rfl (feq hc13).2 (by decide) (by decide) ?_
              have k : ∀ (v1 : Int32), v1 = (-1 : Int32) → ∀ (f : JFrame) (acts : List Action), f.method = m → f.locked = none → f.entered = [] → (doReturn e (s₁.setTop f) acts (some (.int v1))).1 = s₁.setFrames fs := fun v1 hv1 => k v1 (hv1.trans (if_neg hc13).symm)
              exact nd8 k
          · refine XS.icmpYes X0.here hx rfl (pc0 := 190) (pc' := 238) rfl (hb hby d2_190) rfl (flt hc12).2.1 (by decide) (by decide) ?_
            have k : ∀ (v1 : Int32), v1 = (-1 : Int32) → ∀ (f : JFrame) (acts : List Action), f.method = m → f.locked = none → f.entered = [] → (doReturn e (s₁.setTop f) acts (some (.int v1))).1 = s₁.setFrames fs := fun v1 hv1 => k v1 (hv1.trans (if_neg hc12).symm)
            exact nd8 k
    have nd18 : (∀ (v1 : Int32), v1 = (-1 : Int32) → ∀ (f : JFrame) (acts : List Action), f.method = m → f.locked = none → f.entered = [] → (doReturn e (s₁.setTop f) acts (some (.int v1))).1 = s₁.setFrames fs) → Steps p.tables e below (s₁.setTop (mkF m 167 #[.val (.ref ia), .val (.int pq), .val (.int lm), .val (.int (fb pq)), .val (.int (((((fb pq) &&& (15 : Int32)) <<< ((12 : Int32) &&& 31)) ||| (((fb (pq + (1 : Int32))) &&& (63 : Int32)) <<< ((6 : Int32) &&& 31))) ||| ((fb (pq + (2 : Int32))) &&& (63 : Int32))))] [])) (s₁.setFrames fs) := by
      intro k
      show Steps p.tables e below (s₁.setTop (mkF m 167 #[.val (.ref ia), .val (.int pq), .val (.int lm), .val (.int (fb pq)), .val (.int (((((fb pq) &&& (15 : Int32)) <<< ((12 : Int32) &&& 31)) ||| (((fb (pq + (1 : Int32))) &&& (63 : Int32)) <<< ((6 : Int32) &&& 31))) ||| ((fb (pq + (2 : Int32))) &&& (63 : Int32))))] [])) _
      refine XS.iconst X0.here hx rfl (hb hby d2_167) ?_
      show Steps p.tables e below (s₁.setTop (mkF m 168 #[.val (.ref ia), .val (.int pq), .val (.int lm), .val (.int (fb pq)), .val (.int (((((fb pq) &&& (15 : Int32)) <<< ((12 : Int32) &&& 31)) ||| (((fb (pq + (1 : Int32))) &&& (63 : Int32)) <<< ((6 : Int32) &&& 31))) ||| ((fb (pq + (2 : Int32))) &&& (63 : Int32))))] [(.int (-1 : Int32))])) _
      refine XS.goto X0.here hx rfl (pc0 := 168) (pc' := 173) rfl (hb hby d2_168) (by decide) (by decide) ?_
      show Steps p.tables e below (s₁.setTop (mkF m 173 #[.val (.ref ia), .val (.int pq), .val (.int lm), .val (.int (fb pq)), .val (.int (((((fb pq) &&& (15 : Int32)) <<< ((12 : Int32) &&& 31)) ||| (((fb (pq + (1 : Int32))) &&& (63 : Int32)) <<< ((6 : Int32) &&& 31))) ||| ((fb (pq + (2 : Int32))) &&& (63 : Int32))))] [(.int (-1 : Int32))])) _
      exact retI X0 hx Bd.returns (hb hby d2_173) (k _ rfl)
    have nd19 : (∀ (v1 : Int32), v1 = (nd2_160_4 pq fb) → ∀ (f : JFrame) (acts : List Action), f.method = m → f.locked = none → f.entered = [] → (doReturn e (s₁.setTop f) acts (some (.int v1))).1 = s₁.setFrames fs) → Steps p.tables e below (s₁.setTop (mkF m 160 #[.val (.ref ia), .val (.int pq), .val (.int lm), .val (.int (fb pq)), .val (.int (((((fb pq) &&& (15 : Int32)) <<< ((12 : Int32) &&& 31)) ||| (((fb (pq + (1 : Int32))) &&& (63 : Int32)) <<< ((6 : Int32) &&& 31))) ||| ((fb (pq + (2 : Int32))) &&& (63 : Int32))))] [])) (s₁.setFrames fs) := by
      intro k
      have k : ∀ (v1 : Int32), v1 = (if (65533 : Int32) < (((((fb pq) &&& (15 : Int32)) <<< ((12 : Int32) &&& 31)) ||| (((fb (pq + (1 : Int32))) &&& (63 : Int32)) <<< ((6 : Int32) &&& 31))) ||| ((fb (pq + (2 : Int32))) &&& (63 : Int32))) then (-1 : Int32) else (((((fb pq) &&& (15 : Int32)) <<< ((12 : Int32) &&& 31)) ||| (((fb (pq + (1 : Int32))) &&& (63 : Int32)) <<< ((6 : Int32) &&& 31))) ||| ((fb (pq + (2 : Int32))) &&& (63 : Int32)))) → ∀ (f : JFrame) (acts : List Action), f.method = m → f.locked = none → f.entered = [] → (doReturn e (s₁.setTop f) acts (some (.int v1))).1 = s₁.setFrames fs := k
      show Steps p.tables e below (s₁.setTop (mkF m 160 #[.val (.ref ia), .val (.int pq), .val (.int lm), .val (.int (fb pq)), .val (.int (((((fb pq) &&& (15 : Int32)) <<< ((12 : Int32) &&& 31)) ||| (((fb (pq + (1 : Int32))) &&& (63 : Int32)) <<< ((6 : Int32) &&& 31))) ||| ((fb (pq + (2 : Int32))) &&& (63 : Int32))))] [])) _
      refine XS.iload X0.here hx rfl (hb hby d2_160) rfl ?_
      show Steps p.tables e below (s₁.setTop (mkF m 162 #[.val (.ref ia), .val (.int pq), .val (.int lm), .val (.int (fb pq)), .val (.int (((((fb pq) &&& (15 : Int32)) <<< ((12 : Int32) &&& 31)) ||| (((fb (pq + (1 : Int32))) &&& (63 : Int32)) <<< ((6 : Int32) &&& 31))) ||| ((fb (pq + (2 : Int32))) &&& (63 : Int32))))] [(.int (((((fb pq) &&& (15 : Int32)) <<< ((12 : Int32) &&& 31)) ||| (((fb (pq + (1 : Int32))) &&& (63 : Int32)) <<< ((6 : Int32) &&& 31))) ||| ((fb (pq + (2 : Int32))) &&& (63 : Int32))))])) _
      refine X0.ldcInt hx hown (mvT hZ (hw _ (List.mem_of_getElem? (i := 22) rfl))) (g := (mkF m 162 #[.val (.ref ia), .val (.int pq), .val (.int lm), .val (.int (fb pq)), .val (.int (((((fb pq) &&& (15 : Int32)) <<< ((12 : Int32) &&& 31)) ||| (((fb (pq + (1 : Int32))) &&& (63 : Int32)) <<< ((6 : Int32) &&& 31))) ||| ((fb (pq + (2 : Int32))) &&& (63 : Int32))))] [(.int (((((fb pq) &&& (15 : Int32)) <<< ((12 : Int32) &&& 31)) ||| (((fb (pq + (1 : Int32))) &&& (63 : Int32)) <<< ((6 : Int32) &&& 31))) ||| ((fb (pq + (2 : Int32))) &&& (63 : Int32))))])) rfl (hb hby d2_162) _ ?_
      show Steps p.tables e below (s₁.setTop (mkF m 164 #[.val (.ref ia), .val (.int pq), .val (.int lm), .val (.int (fb pq)), .val (.int (((((fb pq) &&& (15 : Int32)) <<< ((12 : Int32) &&& 31)) ||| (((fb (pq + (1 : Int32))) &&& (63 : Int32)) <<< ((6 : Int32) &&& 31))) ||| ((fb (pq + (2 : Int32))) &&& (63 : Int32))))] [(.int (65533 : Int32)), (.int (((((fb pq) &&& (15 : Int32)) <<< ((12 : Int32) &&& 31)) ||| (((fb (pq + (1 : Int32))) &&& (63 : Int32)) <<< ((6 : Int32) &&& 31))) ||| ((fb (pq + (2 : Int32))) &&& (63 : Int32))))])) _
      by_cases hc20 : (65533 : Int32) < (((((fb pq) &&& (15 : Int32)) <<< ((12 : Int32) &&& 31)) ||| (((fb (pq + (1 : Int32))) &&& (63 : Int32)) <<< ((6 : Int32) &&& 31))) ||| ((fb (pq + (2 : Int32))) &&& (63 : Int32)))
      · refine XS.icmpNo X0.here hx rfl (hb hby d2_164) rfl (tlt hc20).2.2.2 ?_
        have k : ∀ (v1 : Int32), v1 = (-1 : Int32) → ∀ (f : JFrame) (acts : List Action), f.method = m → f.locked = none → f.entered = [] → (doReturn e (s₁.setTop f) acts (some (.int v1))).1 = s₁.setFrames fs := fun v1 hv1 => k v1 (hv1.trans (if_pos hc20).symm)
        exact nd18 k
      · refine XS.icmpYes X0.here hx rfl (pc0 := 164) (pc' := 171) rfl (hb hby d2_164) rfl (flt hc20).2.2.2 (by decide) (by decide) ?_
        have k : ∀ (v1 : Int32), v1 = (((((fb pq) &&& (15 : Int32)) <<< ((12 : Int32) &&& 31)) ||| (((fb (pq + (1 : Int32))) &&& (63 : Int32)) <<< ((6 : Int32) &&& 31))) ||| ((fb (pq + (2 : Int32))) &&& (63 : Int32))) → ∀ (f : JFrame) (acts : List Action), f.method = m → f.locked = none → f.entered = [] → (doReturn e (s₁.setTop f) acts (some (.int v1))).1 = s₁.setFrames fs := fun v1 hv1 => k v1 (hv1.trans (if_neg hc20).symm)
        show Steps p.tables e below (s₁.setTop (mkF m 171 #[.val (.ref ia), .val (.int pq), .val (.int lm), .val (.int (fb pq)), .val (.int (((((fb pq) &&& (15 : Int32)) <<< ((12 : Int32) &&& 31)) ||| (((fb (pq + (1 : Int32))) &&& (63 : Int32)) <<< ((6 : Int32) &&& 31))) ||| ((fb (pq + (2 : Int32))) &&& (63 : Int32))))] [])) _
        refine XS.iload X0.here hx rfl (hb hby d2_171) rfl ?_
        show Steps p.tables e below (s₁.setTop (mkF m 173 #[.val (.ref ia), .val (.int pq), .val (.int lm), .val (.int (fb pq)), .val (.int (((((fb pq) &&& (15 : Int32)) <<< ((12 : Int32) &&& 31)) ||| (((fb (pq + (1 : Int32))) &&& (63 : Int32)) <<< ((6 : Int32) &&& 31))) ||| ((fb (pq + (2 : Int32))) &&& (63 : Int32))))] [(.int (((((fb pq) &&& (15 : Int32)) <<< ((12 : Int32) &&& 31)) ||| (((fb (pq + (1 : Int32))) &&& (63 : Int32)) <<< ((6 : Int32) &&& 31))) ||| ((fb (pq + (2 : Int32))) &&& (63 : Int32))))])) _
        exact retI X0 hx Bd.returns (hb hby d2_173) (k _ rfl)
    have nd21 : (∀ (v1 : Int32), v1 = (-1 : Int32) → ∀ (f : JFrame) (acts : List Action), f.method = m → f.locked = none → f.entered = [] → (doReturn e (s₁.setTop f) acts (some (.int v1))).1 = s₁.setFrames fs) → Steps p.tables e below (s₁.setTop (mkF m 106 #[.val (.ref ia), .val (.int pq), .val (.int lm), .val (.int (fb pq)), .unset] [])) (s₁.setFrames fs) := by
      intro k
      show Steps p.tables e below (s₁.setTop (mkF m 106 #[.val (.ref ia), .val (.int pq), .val (.int lm), .val (.int (fb pq)), .unset] [])) _
      refine XS.iconst X0.here hx rfl (hb hby d2_106) ?_
      show Steps p.tables e below (s₁.setTop (mkF m 107 #[.val (.ref ia), .val (.int pq), .val (.int lm), .val (.int (fb pq)), .unset] [(.int (-1 : Int32))])) _
      exact retI X0 hx Bd.returns (hb hby d2_107) (k _ rfl)
    have nd22 : (∀ (v1 : Int32), v1 = (nd2_57_5 pq lm fb) → ∀ (f : JFrame) (acts : List Action), f.method = m → f.locked = none → f.entered = [] → (doReturn e (s₁.setTop f) acts (some (.int v1))).1 = s₁.setFrames fs) → Steps p.tables e below (s₁.setTop (mkF m 57 #[.val (.ref ia), .val (.int pq), .val (.int lm), .val (.int (fb pq)), .unset] [])) (s₁.setFrames fs) := by
      intro k
      have k : ∀ (v1 : Int32), v1 = (if (fb pq) < (-32 : Int32) then (nd2_174_3 pq lm fb) else (if (-17 : Int32) < (fb pq) then (nd2_174_3 pq lm fb) else (if (pq + (2 : Int32)) < lm then (if ((fb (pq + (1 : Int32))) &&& (192 : Int32)) = (128 : Int32) then (if ((fb (pq + (2 : Int32))) &&& (192 : Int32)) = (128 : Int32) then (if (((((fb pq) &&& (15 : Int32)) <<< ((12 : Int32) &&& 31)) ||| (((fb (pq + (1 : Int32))) &&& (63 : Int32)) <<< ((6 : Int32) &&& 31))) ||| ((fb (pq + (2 : Int32))) &&& (63 : Int32))) < (2048 : Int32) then (-1 : Int32) else (if (((((fb pq) &&& (15 : Int32)) <<< ((12 : Int32) &&& 31)) ||| (((fb (pq + (1 : Int32))) &&& (63 : Int32)) <<< ((6 : Int32) &&& 31))) ||| ((fb (pq + (2 : Int32))) &&& (63 : Int32))) < (55296 : Int32) then (nd2_160_4 pq fb) else (if (((((fb pq) &&& (15 : Int32)) <<< ((12 : Int32) &&& 31)) ||| (((fb (pq + (1 : Int32))) &&& (63 : Int32)) <<< ((6 : Int32) &&& 31))) ||| ((fb (pq + (2 : Int32))) &&& (63 : Int32))) < (57344 : Int32) then (-1 : Int32) else (nd2_160_4 pq fb)))) else (-1 : Int32)) else (-1 : Int32)) else (-1 : Int32)))) → ∀ (f : JFrame) (acts : List Action), f.method = m → f.locked = none → f.entered = [] → (doReturn e (s₁.setTop f) acts (some (.int v1))).1 = s₁.setFrames fs := k
      show Steps p.tables e below (s₁.setTop (mkF m 57 #[.val (.ref ia), .val (.int pq), .val (.int lm), .val (.int (fb pq)), .unset] [])) _
      refine XS.iloadN X0.here hx rfl (hb hby d2_57) rfl ?_
      show Steps p.tables e below (s₁.setTop (mkF m 58 #[.val (.ref ia), .val (.int pq), .val (.int lm), .val (.int (fb pq)), .unset] [(.int (fb pq))])) _
      refine XS.bipush X0.here hx rfl (hb hby d2_58) ?_
      show Steps p.tables e below (s₁.setTop (mkF m 60 #[.val (.ref ia), .val (.int pq), .val (.int lm), .val (.int (fb pq)), .unset] [(.int (-32 : Int32)), (.int (fb pq))])) _
      by_cases hc23 : (fb pq) < (-32 : Int32)
      · refine XS.icmpYes X0.here hx rfl (pc0 := 60) (pc' := 174) rfl (hb hby d2_60) rfl (tlt hc23).1 (by decide) (by decide) ?_
        have k : ∀ (v1 : Int32), v1 = (nd2_174_3 pq lm fb) → ∀ (f : JFrame) (acts : List Action), f.method = m → f.locked = none → f.entered = [] → (doReturn e (s₁.setTop f) acts (some (.int v1))).1 = s₁.setFrames fs := fun v1 hv1 => k v1 (hv1.trans (if_pos hc23).symm)
        exact nd9 k
      · refine XS.icmpNo X0.here hx rfl (hb hby d2_60) rfl (flt hc23).1 ?_
        have k : ∀ (v1 : Int32), v1 = (if (-17 : Int32) < (fb pq) then (nd2_174_3 pq lm fb) else (if (pq + (2 : Int32)) < lm then (if ((fb (pq + (1 : Int32))) &&& (192 : Int32)) = (128 : Int32) then (if ((fb (pq + (2 : Int32))) &&& (192 : Int32)) = (128 : Int32) then (if (((((fb pq) &&& (15 : Int32)) <<< ((12 : Int32) &&& 31)) ||| (((fb (pq + (1 : Int32))) &&& (63 : Int32)) <<< ((6 : Int32) &&& 31))) ||| ((fb (pq + (2 : Int32))) &&& (63 : Int32))) < (2048 : Int32) then (-1 : Int32) else (if (((((fb pq) &&& (15 : Int32)) <<< ((12 : Int32) &&& 31)) ||| (((fb (pq + (1 : Int32))) &&& (63 : Int32)) <<< ((6 : Int32) &&& 31))) ||| ((fb (pq + (2 : Int32))) &&& (63 : Int32))) < (55296 : Int32) then (nd2_160_4 pq fb) else (if (((((fb pq) &&& (15 : Int32)) <<< ((12 : Int32) &&& 31)) ||| (((fb (pq + (1 : Int32))) &&& (63 : Int32)) <<< ((6 : Int32) &&& 31))) ||| ((fb (pq + (2 : Int32))) &&& (63 : Int32))) < (57344 : Int32) then (-1 : Int32) else (nd2_160_4 pq fb)))) else (-1 : Int32)) else (-1 : Int32)) else (-1 : Int32))) → ∀ (f : JFrame) (acts : List Action), f.method = m → f.locked = none → f.entered = [] → (doReturn e (s₁.setTop f) acts (some (.int v1))).1 = s₁.setFrames fs := fun v1 hv1 => k v1 (hv1.trans (if_neg hc23).symm)
        show Steps p.tables e below (s₁.setTop (mkF m 63 #[.val (.ref ia), .val (.int pq), .val (.int lm), .val (.int (fb pq)), .unset] [])) _
        refine XS.iloadN X0.here hx rfl (hb hby d2_63) rfl ?_
        show Steps p.tables e below (s₁.setTop (mkF m 64 #[.val (.ref ia), .val (.int pq), .val (.int lm), .val (.int (fb pq)), .unset] [(.int (fb pq))])) _
        refine XS.bipush X0.here hx rfl (hb hby d2_64) ?_
        show Steps p.tables e below (s₁.setTop (mkF m 66 #[.val (.ref ia), .val (.int pq), .val (.int lm), .val (.int (fb pq)), .unset] [(.int (-17 : Int32)), (.int (fb pq))])) _
        by_cases hc24 : (-17 : Int32) < (fb pq)
        · refine XS.icmpYes X0.here hx rfl (pc0 := 66) (pc' := 174) rfl (hb hby d2_66) rfl (tlt hc24).2.2.1 (by decide) (by decide) ?_
          have k : ∀ (v1 : Int32), v1 = (nd2_174_3 pq lm fb) → ∀ (f : JFrame) (acts : List Action), f.method = m → f.locked = none → f.entered = [] → (doReturn e (s₁.setTop f) acts (some (.int v1))).1 = s₁.setFrames fs := fun v1 hv1 => k v1 (hv1.trans (if_pos hc24).symm)
          exact nd9 k
        · refine XS.icmpNo X0.here hx rfl (hb hby d2_66) rfl (flt hc24).2.2.1 ?_
          have k : ∀ (v1 : Int32), v1 = (if (pq + (2 : Int32)) < lm then (if ((fb (pq + (1 : Int32))) &&& (192 : Int32)) = (128 : Int32) then (if ((fb (pq + (2 : Int32))) &&& (192 : Int32)) = (128 : Int32) then (if (((((fb pq) &&& (15 : Int32)) <<< ((12 : Int32) &&& 31)) ||| (((fb (pq + (1 : Int32))) &&& (63 : Int32)) <<< ((6 : Int32) &&& 31))) ||| ((fb (pq + (2 : Int32))) &&& (63 : Int32))) < (2048 : Int32) then (-1 : Int32) else (if (((((fb pq) &&& (15 : Int32)) <<< ((12 : Int32) &&& 31)) ||| (((fb (pq + (1 : Int32))) &&& (63 : Int32)) <<< ((6 : Int32) &&& 31))) ||| ((fb (pq + (2 : Int32))) &&& (63 : Int32))) < (55296 : Int32) then (nd2_160_4 pq fb) else (if (((((fb pq) &&& (15 : Int32)) <<< ((12 : Int32) &&& 31)) ||| (((fb (pq + (1 : Int32))) &&& (63 : Int32)) <<< ((6 : Int32) &&& 31))) ||| ((fb (pq + (2 : Int32))) &&& (63 : Int32))) < (57344 : Int32) then (-1 : Int32) else (nd2_160_4 pq fb)))) else (-1 : Int32)) else (-1 : Int32)) else (-1 : Int32)) → ∀ (f : JFrame) (acts : List Action), f.method = m → f.locked = none → f.entered = [] → (doReturn e (s₁.setTop f) acts (some (.int v1))).1 = s₁.setFrames fs := fun v1 hv1 => k v1 (hv1.trans (if_neg hc24).symm)
          show Steps p.tables e below (s₁.setTop (mkF m 69 #[.val (.ref ia), .val (.int pq), .val (.int lm), .val (.int (fb pq)), .unset] [])) _
          refine XS.iloadN X0.here hx rfl (hb hby d2_69) rfl ?_
          show Steps p.tables e below (s₁.setTop (mkF m 70 #[.val (.ref ia), .val (.int pq), .val (.int lm), .val (.int (fb pq)), .unset] [(.int pq)])) _
          refine XS.iconst X0.here hx rfl (hb hby d2_70) ?_
          show Steps p.tables e below (s₁.setTop (mkF m 71 #[.val (.ref ia), .val (.int pq), .val (.int lm), .val (.int (fb pq)), .unset] [(.int (2 : Int32)), (.int pq)])) _
          refine XS.iadd X0.here hx rfl (hb hby d2_71) rfl ?_
          show Steps p.tables e below (s₁.setTop (mkF m 72 #[.val (.ref ia), .val (.int pq), .val (.int lm), .val (.int (fb pq)), .unset] [(.int (pq + (2 : Int32)))])) _
          refine XS.iloadN X0.here hx rfl (hb hby d2_72) rfl ?_
          show Steps p.tables e below (s₁.setTop (mkF m 73 #[.val (.ref ia), .val (.int pq), .val (.int lm), .val (.int (fb pq)), .unset] [(.int lm), (.int (pq + (2 : Int32)))])) _
          by_cases hc25 : (pq + (2 : Int32)) < lm
          · refine XS.icmpNo X0.here hx rfl (hb hby d2_73) rfl (tlt hc25).2.1 ?_
            have k : ∀ (v1 : Int32), v1 = (if ((fb (pq + (1 : Int32))) &&& (192 : Int32)) = (128 : Int32) then (if ((fb (pq + (2 : Int32))) &&& (192 : Int32)) = (128 : Int32) then (if (((((fb pq) &&& (15 : Int32)) <<< ((12 : Int32) &&& 31)) ||| (((fb (pq + (1 : Int32))) &&& (63 : Int32)) <<< ((6 : Int32) &&& 31))) ||| ((fb (pq + (2 : Int32))) &&& (63 : Int32))) < (2048 : Int32) then (-1 : Int32) else (if (((((fb pq) &&& (15 : Int32)) <<< ((12 : Int32) &&& 31)) ||| (((fb (pq + (1 : Int32))) &&& (63 : Int32)) <<< ((6 : Int32) &&& 31))) ||| ((fb (pq + (2 : Int32))) &&& (63 : Int32))) < (55296 : Int32) then (nd2_160_4 pq fb) else (if (((((fb pq) &&& (15 : Int32)) <<< ((12 : Int32) &&& 31)) ||| (((fb (pq + (1 : Int32))) &&& (63 : Int32)) <<< ((6 : Int32) &&& 31))) ||| ((fb (pq + (2 : Int32))) &&& (63 : Int32))) < (57344 : Int32) then (-1 : Int32) else (nd2_160_4 pq fb)))) else (-1 : Int32)) else (-1 : Int32)) → ∀ (f : JFrame) (acts : List Action), f.method = m → f.locked = none → f.entered = [] → (doReturn e (s₁.setTop f) acts (some (.int v1))).1 = s₁.setFrames fs := fun v1 hv1 => k v1 (hv1.trans (if_pos hc25).symm)
            show Steps p.tables e below (s₁.setTop (mkF m 76 #[.val (.ref ia), .val (.int pq), .val (.int lm), .val (.int (fb pq)), .unset] [])) _
            refine XS.aloadN X0.here hx rfl (hb hby d2_76) rfl rfl ?_
            show Steps p.tables e below (s₁.setTop (mkF m 77 #[.val (.ref ia), .val (.int pq), .val (.int lm), .val (.int (fb pq)), .unset] [(.ref ia)])) _
            refine XS.iloadN X0.here hx rfl (hb hby d2_77) rfl ?_
            show Steps p.tables e below (s₁.setTop (mkF m 78 #[.val (.ref ia), .val (.int pq), .val (.int lm), .val (.int (fb pq)), .unset] [(.int pq), (.ref ia)])) _
            refine XS.iconst X0.here hx rfl (hb hby d2_78) ?_
            show Steps p.tables e below (s₁.setTop (mkF m 79 #[.val (.ref ia), .val (.int pq), .val (.int lm), .val (.int (fb pq)), .unset] [(.int (1 : Int32)), (.int pq), (.ref ia)])) _
            refine XS.iadd X0.here hx rfl (hb hby d2_79) rfl ?_
            show Steps p.tables e below (s₁.setTop (mkF m 80 #[.val (.ref ia), .val (.int pq), .val (.int lm), .val (.int (fb pq)), .unset] [(.int (pq + (1 : Int32))), (.ref ia)])) _
            refine rdB X0 hx hZ e0 k1_0 (j := (pq + (1 : Int32))) (own_ix1 hp0 hp1) rfl (g := (mkF m 80 #[.val (.ref ia), .val (.int pq), .val (.int lm), .val (.int (fb pq)), .unset] [(.int (pq + (1 : Int32))), (.ref ia)])) rfl rfl (hb hby d2_80) _ ?_
            show Steps p.tables e below (s₁.setTop (mkF m 81 #[.val (.ref ia), .val (.int pq), .val (.int lm), .val (.int (fb pq)), .unset] [(.int (fb (pq + (1 : Int32))))])) _
            refine XS.sipush X0.here hx rfl (hb hby d2_81) ?_
            show Steps p.tables e below (s₁.setTop (mkF m 84 #[.val (.ref ia), .val (.int pq), .val (.int lm), .val (.int (fb pq)), .unset] [(.int (192 : Int32)), (.int (fb (pq + (1 : Int32))))])) _
            refine XS.iand X0.here hx rfl (hb hby d2_84) rfl ?_
            show Steps p.tables e below (s₁.setTop (mkF m 85 #[.val (.ref ia), .val (.int pq), .val (.int lm), .val (.int (fb pq)), .unset] [(.int ((fb (pq + (1 : Int32))) &&& (192 : Int32)))])) _
            refine XS.sipush X0.here hx rfl (hb hby d2_85) ?_
            show Steps p.tables e below (s₁.setTop (mkF m 88 #[.val (.ref ia), .val (.int pq), .val (.int lm), .val (.int (fb pq)), .unset] [(.int (128 : Int32)), (.int ((fb (pq + (1 : Int32))) &&& (192 : Int32)))])) _
            by_cases hc26 : ((fb (pq + (1 : Int32))) &&& (192 : Int32)) = (128 : Int32)
            · refine XS.icmpNo X0.here hx rfl (hb hby d2_88) rfl (teq hc26).2 ?_
              have k : ∀ (v1 : Int32), v1 = (if ((fb (pq + (2 : Int32))) &&& (192 : Int32)) = (128 : Int32) then (if (((((fb pq) &&& (15 : Int32)) <<< ((12 : Int32) &&& 31)) ||| (((fb (pq + (1 : Int32))) &&& (63 : Int32)) <<< ((6 : Int32) &&& 31))) ||| ((fb (pq + (2 : Int32))) &&& (63 : Int32))) < (2048 : Int32) then (-1 : Int32) else (if (((((fb pq) &&& (15 : Int32)) <<< ((12 : Int32) &&& 31)) ||| (((fb (pq + (1 : Int32))) &&& (63 : Int32)) <<< ((6 : Int32) &&& 31))) ||| ((fb (pq + (2 : Int32))) &&& (63 : Int32))) < (55296 : Int32) then (nd2_160_4 pq fb) else (if (((((fb pq) &&& (15 : Int32)) <<< ((12 : Int32) &&& 31)) ||| (((fb (pq + (1 : Int32))) &&& (63 : Int32)) <<< ((6 : Int32) &&& 31))) ||| ((fb (pq + (2 : Int32))) &&& (63 : Int32))) < (57344 : Int32) then (-1 : Int32) else (nd2_160_4 pq fb)))) else (-1 : Int32)) → ∀ (f : JFrame) (acts : List Action), f.method = m → f.locked = none → f.entered = [] → (doReturn e (s₁.setTop f) acts (some (.int v1))).1 = s₁.setFrames fs := fun v1 hv1 => k v1 (hv1.trans (if_pos hc26).symm)
              show Steps p.tables e below (s₁.setTop (mkF m 91 #[.val (.ref ia), .val (.int pq), .val (.int lm), .val (.int (fb pq)), .unset] [])) _
              refine XS.aloadN X0.here hx rfl (hb hby d2_91) rfl rfl ?_
              show Steps p.tables e below (s₁.setTop (mkF m 92 #[.val (.ref ia), .val (.int pq), .val (.int lm), .val (.int (fb pq)), .unset] [(.ref ia)])) _
              refine XS.iloadN X0.here hx rfl (hb hby d2_92) rfl ?_
              show Steps p.tables e below (s₁.setTop (mkF m 93 #[.val (.ref ia), .val (.int pq), .val (.int lm), .val (.int (fb pq)), .unset] [(.int pq), (.ref ia)])) _
              refine XS.iconst X0.here hx rfl (hb hby d2_93) ?_
              show Steps p.tables e below (s₁.setTop (mkF m 94 #[.val (.ref ia), .val (.int pq), .val (.int lm), .val (.int (fb pq)), .unset] [(.int (2 : Int32)), (.int pq), (.ref ia)])) _
              refine XS.iadd X0.here hx rfl (hb hby d2_94) rfl ?_
              show Steps p.tables e below (s₁.setTop (mkF m 95 #[.val (.ref ia), .val (.int pq), .val (.int lm), .val (.int (fb pq)), .unset] [(.int (pq + (2 : Int32))), (.ref ia)])) _
              refine rdB X0 hx hZ e0 k1_0 (j := (pq + (2 : Int32))) (own_ix2 hp0 hp1) rfl (g := (mkF m 95 #[.val (.ref ia), .val (.int pq), .val (.int lm), .val (.int (fb pq)), .unset] [(.int (pq + (2 : Int32))), (.ref ia)])) rfl rfl (hb hby d2_95) _ ?_
              show Steps p.tables e below (s₁.setTop (mkF m 96 #[.val (.ref ia), .val (.int pq), .val (.int lm), .val (.int (fb pq)), .unset] [(.int (fb (pq + (2 : Int32))))])) _
              refine XS.sipush X0.here hx rfl (hb hby d2_96) ?_
              show Steps p.tables e below (s₁.setTop (mkF m 99 #[.val (.ref ia), .val (.int pq), .val (.int lm), .val (.int (fb pq)), .unset] [(.int (192 : Int32)), (.int (fb (pq + (2 : Int32))))])) _
              refine XS.iand X0.here hx rfl (hb hby d2_99) rfl ?_
              show Steps p.tables e below (s₁.setTop (mkF m 100 #[.val (.ref ia), .val (.int pq), .val (.int lm), .val (.int (fb pq)), .unset] [(.int ((fb (pq + (2 : Int32))) &&& (192 : Int32)))])) _
              refine XS.sipush X0.here hx rfl (hb hby d2_100) ?_
              show Steps p.tables e below (s₁.setTop (mkF m 103 #[.val (.ref ia), .val (.int pq), .val (.int lm), .val (.int (fb pq)), .unset] [(.int (128 : Int32)), (.int ((fb (pq + (2 : Int32))) &&& (192 : Int32)))])) _
              by_cases hc27 : ((fb (pq + (2 : Int32))) &&& (192 : Int32)) = (128 : Int32)
              · refine XS.icmpYes X0.here hx rfl (pc0 := 103) (pc' := 108) rfl (hb hby d2_103) rfl (teq hc27).1 (by decide) (by decide) ?_
                have k : ∀ (v1 : Int32), v1 = (if (((((fb pq) &&& (15 : Int32)) <<< ((12 : Int32) &&& 31)) ||| (((fb (pq + (1 : Int32))) &&& (63 : Int32)) <<< ((6 : Int32) &&& 31))) ||| ((fb (pq + (2 : Int32))) &&& (63 : Int32))) < (2048 : Int32) then (-1 : Int32) else (if (((((fb pq) &&& (15 : Int32)) <<< ((12 : Int32) &&& 31)) ||| (((fb (pq + (1 : Int32))) &&& (63 : Int32)) <<< ((6 : Int32) &&& 31))) ||| ((fb (pq + (2 : Int32))) &&& (63 : Int32))) < (55296 : Int32) then (nd2_160_4 pq fb) else (if (((((fb pq) &&& (15 : Int32)) <<< ((12 : Int32) &&& 31)) ||| (((fb (pq + (1 : Int32))) &&& (63 : Int32)) <<< ((6 : Int32) &&& 31))) ||| ((fb (pq + (2 : Int32))) &&& (63 : Int32))) < (57344 : Int32) then (-1 : Int32) else (nd2_160_4 pq fb)))) → ∀ (f : JFrame) (acts : List Action), f.method = m → f.locked = none → f.entered = [] → (doReturn e (s₁.setTop f) acts (some (.int v1))).1 = s₁.setFrames fs := fun v1 hv1 => k v1 (hv1.trans (if_pos hc27).symm)
                show Steps p.tables e below (s₁.setTop (mkF m 108 #[.val (.ref ia), .val (.int pq), .val (.int lm), .val (.int (fb pq)), .unset] [])) _
                refine XS.iloadN X0.here hx rfl (hb hby d2_108) rfl ?_
                show Steps p.tables e below (s₁.setTop (mkF m 109 #[.val (.ref ia), .val (.int pq), .val (.int lm), .val (.int (fb pq)), .unset] [(.int (fb pq))])) _
                refine XS.bipush X0.here hx rfl (hb hby d2_109) ?_
                show Steps p.tables e below (s₁.setTop (mkF m 111 #[.val (.ref ia), .val (.int pq), .val (.int lm), .val (.int (fb pq)), .unset] [(.int (15 : Int32)), (.int (fb pq))])) _
                refine XS.iand X0.here hx rfl (hb hby d2_111) rfl ?_
                show Steps p.tables e below (s₁.setTop (mkF m 112 #[.val (.ref ia), .val (.int pq), .val (.int lm), .val (.int (fb pq)), .unset] [(.int ((fb pq) &&& (15 : Int32)))])) _
                refine XS.bipush X0.here hx rfl (hb hby d2_112) ?_
                show Steps p.tables e below (s₁.setTop (mkF m 114 #[.val (.ref ia), .val (.int pq), .val (.int lm), .val (.int (fb pq)), .unset] [(.int (12 : Int32)), (.int ((fb pq) &&& (15 : Int32)))])) _
                refine XS.ishl X0.here hx rfl (hb hby d2_114) rfl ?_
                show Steps p.tables e below (s₁.setTop (mkF m 115 #[.val (.ref ia), .val (.int pq), .val (.int lm), .val (.int (fb pq)), .unset] [(.int (((fb pq) &&& (15 : Int32)) <<< ((12 : Int32) &&& 31)))])) _
                refine XS.aloadN X0.here hx rfl (hb hby d2_115) rfl rfl ?_
                show Steps p.tables e below (s₁.setTop (mkF m 116 #[.val (.ref ia), .val (.int pq), .val (.int lm), .val (.int (fb pq)), .unset] [(.ref ia), (.int (((fb pq) &&& (15 : Int32)) <<< ((12 : Int32) &&& 31)))])) _
                refine XS.iloadN X0.here hx rfl (hb hby d2_116) rfl ?_
                show Steps p.tables e below (s₁.setTop (mkF m 117 #[.val (.ref ia), .val (.int pq), .val (.int lm), .val (.int (fb pq)), .unset] [(.int pq), (.ref ia), (.int (((fb pq) &&& (15 : Int32)) <<< ((12 : Int32) &&& 31)))])) _
                refine XS.iconst X0.here hx rfl (hb hby d2_117) ?_
                show Steps p.tables e below (s₁.setTop (mkF m 118 #[.val (.ref ia), .val (.int pq), .val (.int lm), .val (.int (fb pq)), .unset] [(.int (1 : Int32)), (.int pq), (.ref ia), (.int (((fb pq) &&& (15 : Int32)) <<< ((12 : Int32) &&& 31)))])) _
                refine XS.iadd X0.here hx rfl (hb hby d2_118) rfl ?_
                show Steps p.tables e below (s₁.setTop (mkF m 119 #[.val (.ref ia), .val (.int pq), .val (.int lm), .val (.int (fb pq)), .unset] [(.int (pq + (1 : Int32))), (.ref ia), (.int (((fb pq) &&& (15 : Int32)) <<< ((12 : Int32) &&& 31)))])) _
                refine rdB X0 hx hZ e0 k1_0 (j := (pq + (1 : Int32))) (own_ix1 hp0 hp1) rfl (g := (mkF m 119 #[.val (.ref ia), .val (.int pq), .val (.int lm), .val (.int (fb pq)), .unset] [(.int (pq + (1 : Int32))), (.ref ia), (.int (((fb pq) &&& (15 : Int32)) <<< ((12 : Int32) &&& 31)))])) rfl rfl (hb hby d2_119) _ ?_
                show Steps p.tables e below (s₁.setTop (mkF m 120 #[.val (.ref ia), .val (.int pq), .val (.int lm), .val (.int (fb pq)), .unset] [(.int (fb (pq + (1 : Int32)))), (.int (((fb pq) &&& (15 : Int32)) <<< ((12 : Int32) &&& 31)))])) _
                refine XS.bipush X0.here hx rfl (hb hby d2_120) ?_
                show Steps p.tables e below (s₁.setTop (mkF m 122 #[.val (.ref ia), .val (.int pq), .val (.int lm), .val (.int (fb pq)), .unset] [(.int (63 : Int32)), (.int (fb (pq + (1 : Int32)))), (.int (((fb pq) &&& (15 : Int32)) <<< ((12 : Int32) &&& 31)))])) _
                refine XS.iand X0.here hx rfl (hb hby d2_122) rfl ?_
                show Steps p.tables e below (s₁.setTop (mkF m 123 #[.val (.ref ia), .val (.int pq), .val (.int lm), .val (.int (fb pq)), .unset] [(.int ((fb (pq + (1 : Int32))) &&& (63 : Int32))), (.int (((fb pq) &&& (15 : Int32)) <<< ((12 : Int32) &&& 31)))])) _
                refine XS.bipush X0.here hx rfl (hb hby d2_123) ?_
                show Steps p.tables e below (s₁.setTop (mkF m 125 #[.val (.ref ia), .val (.int pq), .val (.int lm), .val (.int (fb pq)), .unset] [(.int (6 : Int32)), (.int ((fb (pq + (1 : Int32))) &&& (63 : Int32))), (.int (((fb pq) &&& (15 : Int32)) <<< ((12 : Int32) &&& 31)))])) _
                refine XS.ishl X0.here hx rfl (hb hby d2_125) rfl ?_
                show Steps p.tables e below (s₁.setTop (mkF m 126 #[.val (.ref ia), .val (.int pq), .val (.int lm), .val (.int (fb pq)), .unset] [(.int (((fb (pq + (1 : Int32))) &&& (63 : Int32)) <<< ((6 : Int32) &&& 31))), (.int (((fb pq) &&& (15 : Int32)) <<< ((12 : Int32) &&& 31)))])) _
                refine XS.ior X0.here hx rfl (hb hby d2_126) rfl ?_
                show Steps p.tables e below (s₁.setTop (mkF m 127 #[.val (.ref ia), .val (.int pq), .val (.int lm), .val (.int (fb pq)), .unset] [(.int ((((fb pq) &&& (15 : Int32)) <<< ((12 : Int32) &&& 31)) ||| (((fb (pq + (1 : Int32))) &&& (63 : Int32)) <<< ((6 : Int32) &&& 31))))])) _
                refine XS.aloadN X0.here hx rfl (hb hby d2_127) rfl rfl ?_
                show Steps p.tables e below (s₁.setTop (mkF m 128 #[.val (.ref ia), .val (.int pq), .val (.int lm), .val (.int (fb pq)), .unset] [(.ref ia), (.int ((((fb pq) &&& (15 : Int32)) <<< ((12 : Int32) &&& 31)) ||| (((fb (pq + (1 : Int32))) &&& (63 : Int32)) <<< ((6 : Int32) &&& 31))))])) _
                refine XS.iloadN X0.here hx rfl (hb hby d2_128) rfl ?_
                show Steps p.tables e below (s₁.setTop (mkF m 129 #[.val (.ref ia), .val (.int pq), .val (.int lm), .val (.int (fb pq)), .unset] [(.int pq), (.ref ia), (.int ((((fb pq) &&& (15 : Int32)) <<< ((12 : Int32) &&& 31)) ||| (((fb (pq + (1 : Int32))) &&& (63 : Int32)) <<< ((6 : Int32) &&& 31))))])) _
                refine XS.iconst X0.here hx rfl (hb hby d2_129) ?_
                show Steps p.tables e below (s₁.setTop (mkF m 130 #[.val (.ref ia), .val (.int pq), .val (.int lm), .val (.int (fb pq)), .unset] [(.int (2 : Int32)), (.int pq), (.ref ia), (.int ((((fb pq) &&& (15 : Int32)) <<< ((12 : Int32) &&& 31)) ||| (((fb (pq + (1 : Int32))) &&& (63 : Int32)) <<< ((6 : Int32) &&& 31))))])) _
                refine XS.iadd X0.here hx rfl (hb hby d2_130) rfl ?_
                show Steps p.tables e below (s₁.setTop (mkF m 131 #[.val (.ref ia), .val (.int pq), .val (.int lm), .val (.int (fb pq)), .unset] [(.int (pq + (2 : Int32))), (.ref ia), (.int ((((fb pq) &&& (15 : Int32)) <<< ((12 : Int32) &&& 31)) ||| (((fb (pq + (1 : Int32))) &&& (63 : Int32)) <<< ((6 : Int32) &&& 31))))])) _
                refine rdB X0 hx hZ e0 k1_0 (j := (pq + (2 : Int32))) (own_ix2 hp0 hp1) rfl (g := (mkF m 131 #[.val (.ref ia), .val (.int pq), .val (.int lm), .val (.int (fb pq)), .unset] [(.int (pq + (2 : Int32))), (.ref ia), (.int ((((fb pq) &&& (15 : Int32)) <<< ((12 : Int32) &&& 31)) ||| (((fb (pq + (1 : Int32))) &&& (63 : Int32)) <<< ((6 : Int32) &&& 31))))])) rfl rfl (hb hby d2_131) _ ?_
                show Steps p.tables e below (s₁.setTop (mkF m 132 #[.val (.ref ia), .val (.int pq), .val (.int lm), .val (.int (fb pq)), .unset] [(.int (fb (pq + (2 : Int32)))), (.int ((((fb pq) &&& (15 : Int32)) <<< ((12 : Int32) &&& 31)) ||| (((fb (pq + (1 : Int32))) &&& (63 : Int32)) <<< ((6 : Int32) &&& 31))))])) _
                refine XS.bipush X0.here hx rfl (hb hby d2_132) ?_
                show Steps p.tables e below (s₁.setTop (mkF m 134 #[.val (.ref ia), .val (.int pq), .val (.int lm), .val (.int (fb pq)), .unset] [(.int (63 : Int32)), (.int (fb (pq + (2 : Int32)))), (.int ((((fb pq) &&& (15 : Int32)) <<< ((12 : Int32) &&& 31)) ||| (((fb (pq + (1 : Int32))) &&& (63 : Int32)) <<< ((6 : Int32) &&& 31))))])) _
                refine XS.iand X0.here hx rfl (hb hby d2_134) rfl ?_
                show Steps p.tables e below (s₁.setTop (mkF m 135 #[.val (.ref ia), .val (.int pq), .val (.int lm), .val (.int (fb pq)), .unset] [(.int ((fb (pq + (2 : Int32))) &&& (63 : Int32))), (.int ((((fb pq) &&& (15 : Int32)) <<< ((12 : Int32) &&& 31)) ||| (((fb (pq + (1 : Int32))) &&& (63 : Int32)) <<< ((6 : Int32) &&& 31))))])) _
                refine XS.ior X0.here hx rfl (hb hby d2_135) rfl ?_
                show Steps p.tables e below (s₁.setTop (mkF m 136 #[.val (.ref ia), .val (.int pq), .val (.int lm), .val (.int (fb pq)), .unset] [(.int (((((fb pq) &&& (15 : Int32)) <<< ((12 : Int32) &&& 31)) ||| (((fb (pq + (1 : Int32))) &&& (63 : Int32)) <<< ((6 : Int32) &&& 31))) ||| ((fb (pq + (2 : Int32))) &&& (63 : Int32))))])) _
                refine XS.istore X0.here hx rfl (hb hby d2_136) rfl (l' := #[.val (.ref ia), .val (.int pq), .val (.int lm), .val (.int (fb pq)), .val (.int (((((fb pq) &&& (15 : Int32)) <<< ((12 : Int32) &&& 31)) ||| (((fb (pq + (1 : Int32))) &&& (63 : Int32)) <<< ((6 : Int32) &&& 31))) ||| ((fb (pq + (2 : Int32))) &&& (63 : Int32))))]) rfl ?_
                show Steps p.tables e below (s₁.setTop (mkF m 138 #[.val (.ref ia), .val (.int pq), .val (.int lm), .val (.int (fb pq)), .val (.int (((((fb pq) &&& (15 : Int32)) <<< ((12 : Int32) &&& 31)) ||| (((fb (pq + (1 : Int32))) &&& (63 : Int32)) <<< ((6 : Int32) &&& 31))) ||| ((fb (pq + (2 : Int32))) &&& (63 : Int32))))] [])) _
                refine XS.iload X0.here hx rfl (hb hby d2_138) rfl ?_
                show Steps p.tables e below (s₁.setTop (mkF m 140 #[.val (.ref ia), .val (.int pq), .val (.int lm), .val (.int (fb pq)), .val (.int (((((fb pq) &&& (15 : Int32)) <<< ((12 : Int32) &&& 31)) ||| (((fb (pq + (1 : Int32))) &&& (63 : Int32)) <<< ((6 : Int32) &&& 31))) ||| ((fb (pq + (2 : Int32))) &&& (63 : Int32))))] [(.int (((((fb pq) &&& (15 : Int32)) <<< ((12 : Int32) &&& 31)) ||| (((fb (pq + (1 : Int32))) &&& (63 : Int32)) <<< ((6 : Int32) &&& 31))) ||| ((fb (pq + (2 : Int32))) &&& (63 : Int32))))])) _
                refine XS.sipush X0.here hx rfl (hb hby d2_140) ?_
                show Steps p.tables e below (s₁.setTop (mkF m 143 #[.val (.ref ia), .val (.int pq), .val (.int lm), .val (.int (fb pq)), .val (.int (((((fb pq) &&& (15 : Int32)) <<< ((12 : Int32) &&& 31)) ||| (((fb (pq + (1 : Int32))) &&& (63 : Int32)) <<< ((6 : Int32) &&& 31))) ||| ((fb (pq + (2 : Int32))) &&& (63 : Int32))))] [(.int (2048 : Int32)), (.int (((((fb pq) &&& (15 : Int32)) <<< ((12 : Int32) &&& 31)) ||| (((fb (pq + (1 : Int32))) &&& (63 : Int32)) <<< ((6 : Int32) &&& 31))) ||| ((fb (pq + (2 : Int32))) &&& (63 : Int32))))])) _
                by_cases hc28 : (((((fb pq) &&& (15 : Int32)) <<< ((12 : Int32) &&& 31)) ||| (((fb (pq + (1 : Int32))) &&& (63 : Int32)) <<< ((6 : Int32) &&& 31))) ||| ((fb (pq + (2 : Int32))) &&& (63 : Int32))) < (2048 : Int32)
                · refine XS.icmpYes X0.here hx rfl (pc0 := 143) (pc' := 167) rfl (hb hby d2_143) rfl (tlt hc28).1 (by decide) (by decide) ?_
                  have k : ∀ (v1 : Int32), v1 = (-1 : Int32) → ∀ (f : JFrame) (acts : List Action), f.method = m → f.locked = none → f.entered = [] → (doReturn e (s₁.setTop f) acts (some (.int v1))).1 = s₁.setFrames fs := fun v1 hv1 => k v1 (hv1.trans (if_pos hc28).symm)
                  exact nd18 k
                · refine XS.icmpNo X0.here hx rfl (hb hby d2_143) rfl (flt hc28).1 ?_
                  have k : ∀ (v1 : Int32), v1 = (if (((((fb pq) &&& (15 : Int32)) <<< ((12 : Int32) &&& 31)) ||| (((fb (pq + (1 : Int32))) &&& (63 : Int32)) <<< ((6 : Int32) &&& 31))) ||| ((fb (pq + (2 : Int32))) &&& (63 : Int32))) < (55296 : Int32) then (nd2_160_4 pq fb) else (if (((((fb pq) &&& (15 : Int32)) <<< ((12 : Int32) &&& 31)) ||| (((fb (pq + (1 : Int32))) &&& (63 : Int32)) <<< ((6 : Int32) &&& 31))) ||| ((fb (pq + (2 : Int32))) &&& (63 : Int32))) < (57344 : Int32) then (-1 : Int32) else (nd2_160_4 pq fb))) → ∀ (f : JFrame) (acts : List Action), f.method = m → f.locked = none → f.entered = [] → (doReturn e (s₁.setTop f) acts (some (.int v1))).1 = s₁.setFrames fs := fun v1 hv1 => k v1 (hv1.trans (if_neg hc28).symm)
                  show Steps p.tables e below (s₁.setTop (mkF m 146 #[.val (.ref ia), .val (.int pq), .val (.int lm), .val (.int (fb pq)), .val (.int (((((fb pq) &&& (15 : Int32)) <<< ((12 : Int32) &&& 31)) ||| (((fb (pq + (1 : Int32))) &&& (63 : Int32)) <<< ((6 : Int32) &&& 31))) ||| ((fb (pq + (2 : Int32))) &&& (63 : Int32))))] [])) _
                  refine XS.iload X0.here hx rfl (hb hby d2_146) rfl ?_
                  show Steps p.tables e below (s₁.setTop (mkF m 148 #[.val (.ref ia), .val (.int pq), .val (.int lm), .val (.int (fb pq)), .val (.int (((((fb pq) &&& (15 : Int32)) <<< ((12 : Int32) &&& 31)) ||| (((fb (pq + (1 : Int32))) &&& (63 : Int32)) <<< ((6 : Int32) &&& 31))) ||| ((fb (pq + (2 : Int32))) &&& (63 : Int32))))] [(.int (((((fb pq) &&& (15 : Int32)) <<< ((12 : Int32) &&& 31)) ||| (((fb (pq + (1 : Int32))) &&& (63 : Int32)) <<< ((6 : Int32) &&& 31))) ||| ((fb (pq + (2 : Int32))) &&& (63 : Int32))))])) _
                  refine X0.ldcInt hx hown (mvT hZ (hw _ (List.mem_of_getElem? (i := 21) rfl))) (g := (mkF m 148 #[.val (.ref ia), .val (.int pq), .val (.int lm), .val (.int (fb pq)), .val (.int (((((fb pq) &&& (15 : Int32)) <<< ((12 : Int32) &&& 31)) ||| (((fb (pq + (1 : Int32))) &&& (63 : Int32)) <<< ((6 : Int32) &&& 31))) ||| ((fb (pq + (2 : Int32))) &&& (63 : Int32))))] [(.int (((((fb pq) &&& (15 : Int32)) <<< ((12 : Int32) &&& 31)) ||| (((fb (pq + (1 : Int32))) &&& (63 : Int32)) <<< ((6 : Int32) &&& 31))) ||| ((fb (pq + (2 : Int32))) &&& (63 : Int32))))])) rfl (hb hby d2_148) _ ?_
                  show Steps p.tables e below (s₁.setTop (mkF m 150 #[.val (.ref ia), .val (.int pq), .val (.int lm), .val (.int (fb pq)), .val (.int (((((fb pq) &&& (15 : Int32)) <<< ((12 : Int32) &&& 31)) ||| (((fb (pq + (1 : Int32))) &&& (63 : Int32)) <<< ((6 : Int32) &&& 31))) ||| ((fb (pq + (2 : Int32))) &&& (63 : Int32))))] [(.int (55296 : Int32)), (.int (((((fb pq) &&& (15 : Int32)) <<< ((12 : Int32) &&& 31)) ||| (((fb (pq + (1 : Int32))) &&& (63 : Int32)) <<< ((6 : Int32) &&& 31))) ||| ((fb (pq + (2 : Int32))) &&& (63 : Int32))))])) _
                  by_cases hc29 : (((((fb pq) &&& (15 : Int32)) <<< ((12 : Int32) &&& 31)) ||| (((fb (pq + (1 : Int32))) &&& (63 : Int32)) <<< ((6 : Int32) &&& 31))) ||| ((fb (pq + (2 : Int32))) &&& (63 : Int32))) < (55296 : Int32)
                  · refine XS.icmpYes X0.here hx rfl (pc0 := 150) (pc' := 160) rfl (hb hby d2_150) rfl (tlt hc29).1 (by decide) (by decide) ?_
                    have k : ∀ (v1 : Int32), v1 = (nd2_160_4 pq fb) → ∀ (f : JFrame) (acts : List Action), f.method = m → f.locked = none → f.entered = [] → (doReturn e (s₁.setTop f) acts (some (.int v1))).1 = s₁.setFrames fs := fun v1 hv1 => k v1 (hv1.trans (if_pos hc29).symm)
                    exact nd19 k
                  · refine XS.icmpNo X0.here hx rfl (hb hby d2_150) rfl (flt hc29).1 ?_
                    have k : ∀ (v1 : Int32), v1 = (if (((((fb pq) &&& (15 : Int32)) <<< ((12 : Int32) &&& 31)) ||| (((fb (pq + (1 : Int32))) &&& (63 : Int32)) <<< ((6 : Int32) &&& 31))) ||| ((fb (pq + (2 : Int32))) &&& (63 : Int32))) < (57344 : Int32) then (-1 : Int32) else (nd2_160_4 pq fb)) → ∀ (f : JFrame) (acts : List Action), f.method = m → f.locked = none → f.entered = [] → (doReturn e (s₁.setTop f) acts (some (.int v1))).1 = s₁.setFrames fs := fun v1 hv1 => k v1 (hv1.trans (if_neg hc29).symm)
                    show Steps p.tables e below (s₁.setTop (mkF m 153 #[.val (.ref ia), .val (.int pq), .val (.int lm), .val (.int (fb pq)), .val (.int (((((fb pq) &&& (15 : Int32)) <<< ((12 : Int32) &&& 31)) ||| (((fb (pq + (1 : Int32))) &&& (63 : Int32)) <<< ((6 : Int32) &&& 31))) ||| ((fb (pq + (2 : Int32))) &&& (63 : Int32))))] [])) _
                    refine XS.iload X0.here hx rfl (hb hby d2_153) rfl ?_
                    show Steps p.tables e below (s₁.setTop (mkF m 155 #[.val (.ref ia), .val (.int pq), .val (.int lm), .val (.int (fb pq)), .val (.int (((((fb pq) &&& (15 : Int32)) <<< ((12 : Int32) &&& 31)) ||| (((fb (pq + (1 : Int32))) &&& (63 : Int32)) <<< ((6 : Int32) &&& 31))) ||| ((fb (pq + (2 : Int32))) &&& (63 : Int32))))] [(.int (((((fb pq) &&& (15 : Int32)) <<< ((12 : Int32) &&& 31)) ||| (((fb (pq + (1 : Int32))) &&& (63 : Int32)) <<< ((6 : Int32) &&& 31))) ||| ((fb (pq + (2 : Int32))) &&& (63 : Int32))))])) _
                    refine X0.ldcInt hx hown (mvT hZ (hw _ (List.mem_of_getElem? (i := 29) rfl))) (g := (mkF m 155 #[.val (.ref ia), .val (.int pq), .val (.int lm), .val (.int (fb pq)), .val (.int (((((fb pq) &&& (15 : Int32)) <<< ((12 : Int32) &&& 31)) ||| (((fb (pq + (1 : Int32))) &&& (63 : Int32)) <<< ((6 : Int32) &&& 31))) ||| ((fb (pq + (2 : Int32))) &&& (63 : Int32))))] [(.int (((((fb pq) &&& (15 : Int32)) <<< ((12 : Int32) &&& 31)) ||| (((fb (pq + (1 : Int32))) &&& (63 : Int32)) <<< ((6 : Int32) &&& 31))) ||| ((fb (pq + (2 : Int32))) &&& (63 : Int32))))])) rfl (hb hby d2_155) _ ?_
                    show Steps p.tables e below (s₁.setTop (mkF m 157 #[.val (.ref ia), .val (.int pq), .val (.int lm), .val (.int (fb pq)), .val (.int (((((fb pq) &&& (15 : Int32)) <<< ((12 : Int32) &&& 31)) ||| (((fb (pq + (1 : Int32))) &&& (63 : Int32)) <<< ((6 : Int32) &&& 31))) ||| ((fb (pq + (2 : Int32))) &&& (63 : Int32))))] [(.int (57344 : Int32)), (.int (((((fb pq) &&& (15 : Int32)) <<< ((12 : Int32) &&& 31)) ||| (((fb (pq + (1 : Int32))) &&& (63 : Int32)) <<< ((6 : Int32) &&& 31))) ||| ((fb (pq + (2 : Int32))) &&& (63 : Int32))))])) _
                    by_cases hc30 : (((((fb pq) &&& (15 : Int32)) <<< ((12 : Int32) &&& 31)) ||| (((fb (pq + (1 : Int32))) &&& (63 : Int32)) <<< ((6 : Int32) &&& 31))) ||| ((fb (pq + (2 : Int32))) &&& (63 : Int32))) < (57344 : Int32)
                    · refine XS.icmpYes X0.here hx rfl (pc0 := 157) (pc' := 167) rfl (hb hby d2_157) rfl (tlt hc30).1 (by decide) (by decide) ?_
                      have k : ∀ (v1 : Int32), v1 = (-1 : Int32) → ∀ (f : JFrame) (acts : List Action), f.method = m → f.locked = none → f.entered = [] → (doReturn e (s₁.setTop f) acts (some (.int v1))).1 = s₁.setFrames fs := fun v1 hv1 => k v1 (hv1.trans (if_pos hc30).symm)
                      exact nd18 k
                    · refine XS.icmpNo X0.here hx rfl (hb hby d2_157) rfl (flt hc30).1 ?_
                      have k : ∀ (v1 : Int32), v1 = (nd2_160_4 pq fb) → ∀ (f : JFrame) (acts : List Action), f.method = m → f.locked = none → f.entered = [] → (doReturn e (s₁.setTop f) acts (some (.int v1))).1 = s₁.setFrames fs := fun v1 hv1 => k v1 (hv1.trans (if_neg hc30).symm)
                      exact nd19 k
              · refine XS.icmpNo X0.here hx rfl (hb hby d2_103) rfl (feq hc27).1 ?_
                have k : ∀ (v1 : Int32), v1 = (-1 : Int32) → ∀ (f : JFrame) (acts : List Action), f.method = m → f.locked = none → f.entered = [] → (doReturn e (s₁.setTop f) acts (some (.int v1))).1 = s₁.setFrames fs := fun v1 hv1 => k v1 (hv1.trans (if_neg hc27).symm)
                exact nd21 k
            · refine XS.icmpYes X0.here hx rfl (pc0 := 88) (pc' := 106) rfl (hb hby d2_88) rfl (feq hc26).2 (by decide) (by decide) ?_
              have k : ∀ (v1 : Int32), v1 = (-1 : Int32) → ∀ (f : JFrame) (acts : List Action), f.method = m → f.locked = none → f.entered = [] → (doReturn e (s₁.setTop f) acts (some (.int v1))).1 = s₁.setFrames fs := fun v1 hv1 => k v1 (hv1.trans (if_neg hc26).symm)
              exact nd21 k
          · refine XS.icmpYes X0.here hx rfl (pc0 := 73) (pc' := 106) rfl (hb hby d2_73) rfl (flt hc25).2.1 (by decide) (by decide) ?_
            have k : ∀ (v1 : Int32), v1 = (-1 : Int32) → ∀ (f : JFrame) (acts : List Action), f.method = m → f.locked = none → f.entered = [] → (doReturn e (s₁.setTop f) acts (some (.int v1))).1 = s₁.setFrames fs := fun v1 hv1 => k v1 (hv1.trans (if_neg hc25).symm)
            exact nd21 k
    have nd31 : (∀ (v1 : Int32), v1 = (-1 : Int32) → ∀ (f : JFrame) (acts : List Action), f.method = m → f.locked = none → f.entered = [] → (doReturn e (s₁.setTop f) acts (some (.int v1))).1 = s₁.setFrames fs) → Steps p.tables e below (s₁.setTop (mkF m 38 #[.val (.ref ia), .val (.int pq), .val (.int lm), .val (.int (fb pq)), .unset] [])) (s₁.setFrames fs) := by
      intro k
      show Steps p.tables e below (s₁.setTop (mkF m 38 #[.val (.ref ia), .val (.int pq), .val (.int lm), .val (.int (fb pq)), .unset] [])) _
      refine XS.iconst X0.here hx rfl (hb hby d2_38) ?_
      show Steps p.tables e below (s₁.setTop (mkF m 39 #[.val (.ref ia), .val (.int pq), .val (.int lm), .val (.int (fb pq)), .unset] [(.int (-1 : Int32))])) _
      exact retI X0 hx Bd.returns (hb hby d2_39) (k _ rfl)
    show Steps p.tables e below (s₁.setTop (mkF m 7 #[.val (.ref ia), .val (.int pq), .val (.int lm), .val (.int (fb pq)), .unset] [(.int (-62 : Int32)), (.int (fb pq))])) _
    by_cases hc32 : (fb pq) < (-62 : Int32)
    · refine XS.icmpYes X0.here hx rfl (pc0 := 7) (pc' := 57) rfl (hb hby d2_7) rfl (tlt hc32).1 (by decide) (by decide) ?_
      have k : ∀ (v1 : Int32), v1 = (nd2_57_5 pq lm fb) → ∀ (f : JFrame) (acts : List Action), f.method = m → f.locked = none → f.entered = [] → (doReturn e (s₁.setTop f) acts (some (.int v1))).1 = s₁.setFrames fs := fun v1 hv1 => k v1 (hv1.trans (if_pos hc32).symm)
      exact nd22 k
    · refine XS.icmpNo X0.here hx rfl (hb hby d2_7) rfl (flt hc32).1 ?_
      have k : ∀ (v1 : Int32), v1 = (if (-33 : Int32) < (fb pq) then (nd2_57_5 pq lm fb) else (if (pq + (1 : Int32)) = lm then (-1 : Int32) else (if ((fb (pq + (1 : Int32))) &&& (192 : Int32)) = (128 : Int32) then ((((fb pq) &&& (31 : Int32)) <<< ((6 : Int32) &&& 31)) ||| ((fb (pq + (1 : Int32))) &&& (63 : Int32))) else (-1 : Int32)))) → ∀ (f : JFrame) (acts : List Action), f.method = m → f.locked = none → f.entered = [] → (doReturn e (s₁.setTop f) acts (some (.int v1))).1 = s₁.setFrames fs := fun v1 hv1 => k v1 (hv1.trans (if_neg hc32).symm)
      show Steps p.tables e below (s₁.setTop (mkF m 10 #[.val (.ref ia), .val (.int pq), .val (.int lm), .val (.int (fb pq)), .unset] [])) _
      refine XS.iloadN X0.here hx rfl (hb hby d2_10) rfl ?_
      show Steps p.tables e below (s₁.setTop (mkF m 11 #[.val (.ref ia), .val (.int pq), .val (.int lm), .val (.int (fb pq)), .unset] [(.int (fb pq))])) _
      refine XS.bipush X0.here hx rfl (hb hby d2_11) ?_
      show Steps p.tables e below (s₁.setTop (mkF m 13 #[.val (.ref ia), .val (.int pq), .val (.int lm), .val (.int (fb pq)), .unset] [(.int (-33 : Int32)), (.int (fb pq))])) _
      by_cases hc33 : (-33 : Int32) < (fb pq)
      · refine XS.icmpYes X0.here hx rfl (pc0 := 13) (pc' := 57) rfl (hb hby d2_13) rfl (tlt hc33).2.2.1 (by decide) (by decide) ?_
        have k : ∀ (v1 : Int32), v1 = (nd2_57_5 pq lm fb) → ∀ (f : JFrame) (acts : List Action), f.method = m → f.locked = none → f.entered = [] → (doReturn e (s₁.setTop f) acts (some (.int v1))).1 = s₁.setFrames fs := fun v1 hv1 => k v1 (hv1.trans (if_pos hc33).symm)
        exact nd22 k
      · refine XS.icmpNo X0.here hx rfl (hb hby d2_13) rfl (flt hc33).2.2.1 ?_
        have k : ∀ (v1 : Int32), v1 = (if (pq + (1 : Int32)) = lm then (-1 : Int32) else (if ((fb (pq + (1 : Int32))) &&& (192 : Int32)) = (128 : Int32) then ((((fb pq) &&& (31 : Int32)) <<< ((6 : Int32) &&& 31)) ||| ((fb (pq + (1 : Int32))) &&& (63 : Int32))) else (-1 : Int32))) → ∀ (f : JFrame) (acts : List Action), f.method = m → f.locked = none → f.entered = [] → (doReturn e (s₁.setTop f) acts (some (.int v1))).1 = s₁.setFrames fs := fun v1 hv1 => k v1 (hv1.trans (if_neg hc33).symm)
        show Steps p.tables e below (s₁.setTop (mkF m 16 #[.val (.ref ia), .val (.int pq), .val (.int lm), .val (.int (fb pq)), .unset] [])) _
        refine XS.iloadN X0.here hx rfl (hb hby d2_16) rfl ?_
        show Steps p.tables e below (s₁.setTop (mkF m 17 #[.val (.ref ia), .val (.int pq), .val (.int lm), .val (.int (fb pq)), .unset] [(.int pq)])) _
        refine XS.iconst X0.here hx rfl (hb hby d2_17) ?_
        show Steps p.tables e below (s₁.setTop (mkF m 18 #[.val (.ref ia), .val (.int pq), .val (.int lm), .val (.int (fb pq)), .unset] [(.int (1 : Int32)), (.int pq)])) _
        refine XS.iadd X0.here hx rfl (hb hby d2_18) rfl ?_
        show Steps p.tables e below (s₁.setTop (mkF m 19 #[.val (.ref ia), .val (.int pq), .val (.int lm), .val (.int (fb pq)), .unset] [(.int (pq + (1 : Int32)))])) _
        refine XS.iloadN X0.here hx rfl (hb hby d2_19) rfl ?_
        show Steps p.tables e below (s₁.setTop (mkF m 20 #[.val (.ref ia), .val (.int pq), .val (.int lm), .val (.int (fb pq)), .unset] [(.int lm), (.int (pq + (1 : Int32)))])) _
        by_cases hc34 : (pq + (1 : Int32)) = lm
        · refine XS.icmpYes X0.here hx rfl (pc0 := 20) (pc' := 38) rfl (hb hby d2_20) rfl (teq hc34).1 (by decide) (by decide) ?_
          have k : ∀ (v1 : Int32), v1 = (-1 : Int32) → ∀ (f : JFrame) (acts : List Action), f.method = m → f.locked = none → f.entered = [] → (doReturn e (s₁.setTop f) acts (some (.int v1))).1 = s₁.setFrames fs := fun v1 hv1 => k v1 (hv1.trans (if_pos hc34).symm)
          exact nd31 k
        · refine XS.icmpNo X0.here hx rfl (hb hby d2_20) rfl (feq hc34).1 ?_
          have k : ∀ (v1 : Int32), v1 = (if ((fb (pq + (1 : Int32))) &&& (192 : Int32)) = (128 : Int32) then ((((fb pq) &&& (31 : Int32)) <<< ((6 : Int32) &&& 31)) ||| ((fb (pq + (1 : Int32))) &&& (63 : Int32))) else (-1 : Int32)) → ∀ (f : JFrame) (acts : List Action), f.method = m → f.locked = none → f.entered = [] → (doReturn e (s₁.setTop f) acts (some (.int v1))).1 = s₁.setFrames fs := fun v1 hv1 => k v1 (hv1.trans (if_neg hc34).symm)
          show Steps p.tables e below (s₁.setTop (mkF m 23 #[.val (.ref ia), .val (.int pq), .val (.int lm), .val (.int (fb pq)), .unset] [])) _
          refine XS.aloadN X0.here hx rfl (hb hby d2_23) rfl rfl ?_
          show Steps p.tables e below (s₁.setTop (mkF m 24 #[.val (.ref ia), .val (.int pq), .val (.int lm), .val (.int (fb pq)), .unset] [(.ref ia)])) _
          refine XS.iloadN X0.here hx rfl (hb hby d2_24) rfl ?_
          show Steps p.tables e below (s₁.setTop (mkF m 25 #[.val (.ref ia), .val (.int pq), .val (.int lm), .val (.int (fb pq)), .unset] [(.int pq), (.ref ia)])) _
          refine XS.iconst X0.here hx rfl (hb hby d2_25) ?_
          show Steps p.tables e below (s₁.setTop (mkF m 26 #[.val (.ref ia), .val (.int pq), .val (.int lm), .val (.int (fb pq)), .unset] [(.int (1 : Int32)), (.int pq), (.ref ia)])) _
          refine XS.iadd X0.here hx rfl (hb hby d2_26) rfl ?_
          show Steps p.tables e below (s₁.setTop (mkF m 27 #[.val (.ref ia), .val (.int pq), .val (.int lm), .val (.int (fb pq)), .unset] [(.int (pq + (1 : Int32))), (.ref ia)])) _
          refine rdB X0 hx hZ e0 k1_0 (j := (pq + (1 : Int32))) (own_ix1 hp0 hp1) rfl (g := (mkF m 27 #[.val (.ref ia), .val (.int pq), .val (.int lm), .val (.int (fb pq)), .unset] [(.int (pq + (1 : Int32))), (.ref ia)])) rfl rfl (hb hby d2_27) _ ?_
          show Steps p.tables e below (s₁.setTop (mkF m 28 #[.val (.ref ia), .val (.int pq), .val (.int lm), .val (.int (fb pq)), .unset] [(.int (fb (pq + (1 : Int32))))])) _
          refine XS.sipush X0.here hx rfl (hb hby d2_28) ?_
          show Steps p.tables e below (s₁.setTop (mkF m 31 #[.val (.ref ia), .val (.int pq), .val (.int lm), .val (.int (fb pq)), .unset] [(.int (192 : Int32)), (.int (fb (pq + (1 : Int32))))])) _
          refine XS.iand X0.here hx rfl (hb hby d2_31) rfl ?_
          show Steps p.tables e below (s₁.setTop (mkF m 32 #[.val (.ref ia), .val (.int pq), .val (.int lm), .val (.int (fb pq)), .unset] [(.int ((fb (pq + (1 : Int32))) &&& (192 : Int32)))])) _
          refine XS.sipush X0.here hx rfl (hb hby d2_32) ?_
          show Steps p.tables e below (s₁.setTop (mkF m 35 #[.val (.ref ia), .val (.int pq), .val (.int lm), .val (.int (fb pq)), .unset] [(.int (128 : Int32)), (.int ((fb (pq + (1 : Int32))) &&& (192 : Int32)))])) _
          by_cases hc35 : ((fb (pq + (1 : Int32))) &&& (192 : Int32)) = (128 : Int32)
          · refine XS.icmpYes X0.here hx rfl (pc0 := 35) (pc' := 40) rfl (hb hby d2_35) rfl (teq hc35).1 (by decide) (by decide) ?_
            have k : ∀ (v1 : Int32), v1 = ((((fb pq) &&& (31 : Int32)) <<< ((6 : Int32) &&& 31)) ||| ((fb (pq + (1 : Int32))) &&& (63 : Int32))) → ∀ (f : JFrame) (acts : List Action), f.method = m → f.locked = none → f.entered = [] → (doReturn e (s₁.setTop f) acts (some (.int v1))).1 = s₁.setFrames fs := fun v1 hv1 => k v1 (hv1.trans (if_pos hc35).symm)
            show Steps p.tables e below (s₁.setTop (mkF m 40 #[.val (.ref ia), .val (.int pq), .val (.int lm), .val (.int (fb pq)), .unset] [])) _
            refine XS.iloadN X0.here hx rfl (hb hby d2_40) rfl ?_
            show Steps p.tables e below (s₁.setTop (mkF m 41 #[.val (.ref ia), .val (.int pq), .val (.int lm), .val (.int (fb pq)), .unset] [(.int (fb pq))])) _
            refine XS.bipush X0.here hx rfl (hb hby d2_41) ?_
            show Steps p.tables e below (s₁.setTop (mkF m 43 #[.val (.ref ia), .val (.int pq), .val (.int lm), .val (.int (fb pq)), .unset] [(.int (31 : Int32)), (.int (fb pq))])) _
            refine XS.iand X0.here hx rfl (hb hby d2_43) rfl ?_
            show Steps p.tables e below (s₁.setTop (mkF m 44 #[.val (.ref ia), .val (.int pq), .val (.int lm), .val (.int (fb pq)), .unset] [(.int ((fb pq) &&& (31 : Int32)))])) _
            refine XS.bipush X0.here hx rfl (hb hby d2_44) ?_
            show Steps p.tables e below (s₁.setTop (mkF m 46 #[.val (.ref ia), .val (.int pq), .val (.int lm), .val (.int (fb pq)), .unset] [(.int (6 : Int32)), (.int ((fb pq) &&& (31 : Int32)))])) _
            refine XS.ishl X0.here hx rfl (hb hby d2_46) rfl ?_
            show Steps p.tables e below (s₁.setTop (mkF m 47 #[.val (.ref ia), .val (.int pq), .val (.int lm), .val (.int (fb pq)), .unset] [(.int (((fb pq) &&& (31 : Int32)) <<< ((6 : Int32) &&& 31)))])) _
            refine XS.aloadN X0.here hx rfl (hb hby d2_47) rfl rfl ?_
            show Steps p.tables e below (s₁.setTop (mkF m 48 #[.val (.ref ia), .val (.int pq), .val (.int lm), .val (.int (fb pq)), .unset] [(.ref ia), (.int (((fb pq) &&& (31 : Int32)) <<< ((6 : Int32) &&& 31)))])) _
            refine XS.iloadN X0.here hx rfl (hb hby d2_48) rfl ?_
            show Steps p.tables e below (s₁.setTop (mkF m 49 #[.val (.ref ia), .val (.int pq), .val (.int lm), .val (.int (fb pq)), .unset] [(.int pq), (.ref ia), (.int (((fb pq) &&& (31 : Int32)) <<< ((6 : Int32) &&& 31)))])) _
            refine XS.iconst X0.here hx rfl (hb hby d2_49) ?_
            show Steps p.tables e below (s₁.setTop (mkF m 50 #[.val (.ref ia), .val (.int pq), .val (.int lm), .val (.int (fb pq)), .unset] [(.int (1 : Int32)), (.int pq), (.ref ia), (.int (((fb pq) &&& (31 : Int32)) <<< ((6 : Int32) &&& 31)))])) _
            refine XS.iadd X0.here hx rfl (hb hby d2_50) rfl ?_
            show Steps p.tables e below (s₁.setTop (mkF m 51 #[.val (.ref ia), .val (.int pq), .val (.int lm), .val (.int (fb pq)), .unset] [(.int (pq + (1 : Int32))), (.ref ia), (.int (((fb pq) &&& (31 : Int32)) <<< ((6 : Int32) &&& 31)))])) _
            refine rdB X0 hx hZ e0 k1_0 (j := (pq + (1 : Int32))) (own_ix1 hp0 hp1) rfl (g := (mkF m 51 #[.val (.ref ia), .val (.int pq), .val (.int lm), .val (.int (fb pq)), .unset] [(.int (pq + (1 : Int32))), (.ref ia), (.int (((fb pq) &&& (31 : Int32)) <<< ((6 : Int32) &&& 31)))])) rfl rfl (hb hby d2_51) _ ?_
            show Steps p.tables e below (s₁.setTop (mkF m 52 #[.val (.ref ia), .val (.int pq), .val (.int lm), .val (.int (fb pq)), .unset] [(.int (fb (pq + (1 : Int32)))), (.int (((fb pq) &&& (31 : Int32)) <<< ((6 : Int32) &&& 31)))])) _
            refine XS.bipush X0.here hx rfl (hb hby d2_52) ?_
            show Steps p.tables e below (s₁.setTop (mkF m 54 #[.val (.ref ia), .val (.int pq), .val (.int lm), .val (.int (fb pq)), .unset] [(.int (63 : Int32)), (.int (fb (pq + (1 : Int32)))), (.int (((fb pq) &&& (31 : Int32)) <<< ((6 : Int32) &&& 31)))])) _
            refine XS.iand X0.here hx rfl (hb hby d2_54) rfl ?_
            show Steps p.tables e below (s₁.setTop (mkF m 55 #[.val (.ref ia), .val (.int pq), .val (.int lm), .val (.int (fb pq)), .unset] [(.int ((fb (pq + (1 : Int32))) &&& (63 : Int32))), (.int (((fb pq) &&& (31 : Int32)) <<< ((6 : Int32) &&& 31)))])) _
            refine XS.ior X0.here hx rfl (hb hby d2_55) rfl ?_
            show Steps p.tables e below (s₁.setTop (mkF m 56 #[.val (.ref ia), .val (.int pq), .val (.int lm), .val (.int (fb pq)), .unset] [(.int ((((fb pq) &&& (31 : Int32)) <<< ((6 : Int32) &&& 31)) ||| ((fb (pq + (1 : Int32))) &&& (63 : Int32))))])) _
            exact retI X0 hx Bd.returns (hb hby d2_56) (k _ rfl)
          · refine XS.icmpNo X0.here hx rfl (hb hby d2_35) rfl (feq hc35).1 ?_
            have k : ∀ (v1 : Int32), v1 = (-1 : Int32) → ∀ (f : JFrame) (acts : List Action), f.method = m → f.locked = none → f.entered = [] → (doReturn e (s₁.setTop f) acts (some (.int v1))).1 = s₁.setFrames fs := fun v1 hv1 => k v1 (hv1.trans (if_neg hc35).symm)
            exact nd31 k
  · show Q2 Z ia pq lm fb h0 n0 _ s₁.heap _
    rw [e0]
    exact ⟨rfl, N0, rfl⟩
theorem d3_0 : decode method_3_code 0 = .ok (.iload_n 0, 1) := by decide +kernel
theorem d3_1 : decode method_3_code 1 = .ok (.sipush 128, 3) := by decide +kernel
theorem d3_4 : decode method_3_code 4 = .ok (.if_icmp .lt 37, 3) := by decide +kernel
theorem d3_7 : decode method_3_code 7 = .ok (.iload_n 0, 1) := by decide +kernel
theorem d3_8 : decode method_3_code 8 = .ok (.ldc 33, 2) := by decide +kernel
theorem d3_10 : decode method_3_code 10 = .ok (.if_icmp .gt 31, 3) := by decide +kernel
theorem d3_13 : decode method_3_code 13 = .ok (.iload_n 0, 1) := by decide +kernel
theorem d3_14 : decode method_3_code 14 = .ok (.ldc 34, 2) := by decide +kernel
theorem d3_16 : decode method_3_code 16 = .ok (.if_icmp .lt 9, 3) := by decide +kernel
theorem d3_19 : decode method_3_code 19 = .ok (.iload_n 0, 1) := by decide +kernel
theorem d3_20 : decode method_3_code 20 = .ok (.ldc 35, 2) := by decide +kernel
theorem d3_22 : decode method_3_code 22 = .ok (.if_icmp .lt 19, 3) := by decide +kernel
theorem d3_25 : decode method_3_code 25 = .ok (.iload_n 0, 1) := by decide +kernel
theorem d3_26 : decode method_3_code 26 = .ok (.ldc 36, 2) := by decide +kernel
theorem d3_28 : decode method_3_code 28 = .ok (.if_icmp .eq 13, 3) := by decide +kernel
theorem d3_31 : decode method_3_code 31 = .ok (.iload_n 0, 1) := by decide +kernel
theorem d3_32 : decode method_3_code 32 = .ok (.ldc 7, 2) := by decide +kernel
theorem d3_34 : decode method_3_code 34 = .ok (.if_icmp .eq 7, 3) := by decide +kernel
theorem d3_37 : decode method_3_code 37 = .ok (.iconst 1, 1) := by decide +kernel
theorem d3_38 : decode method_3_code 38 = .ok (.goto 4, 3) := by decide +kernel
theorem d3_41 : decode method_3_code 41 = .ok (.iconst 0, 1) := by decide +kernel
theorem d3_42 : decode method_3_code 42 = .ok (.ireturn, 1) := by decide +kernel
theorem ef_3 (m : MethodId) (x0 : Int32) : entryFrame m #[(.int x0)] 1 = mkF m 0 #[.val (.int x0)] [] := by first | (simp [entryFrame, mkF, argsToLocals, Value.category]; done) | rfl
def nd3_25_2 (p0 : Int32) : Bool := (if p0 = (65534 : Int32) then false else (if p0 = (65535 : Int32) then false else true))
def F3 (p0 : Int32) : Bool := (if p0 < (128 : Int32) then false else (if (1114111 : Int32) < p0 then false else (if p0 < (55296 : Int32) then (nd3_25_2 p0) else (if p0 < (57344 : Int32) then false else (nd3_25_2 p0)))))
def Q3 (Z : State) (p0 : Int32) (h0 : Heap) (n0 : Nat) (v : Option Value) (h : Heap) (L : List Loc) : Prop := v = some (.int (b2i (F3 p0))) ∧ Fr n0 L ∧ h = h0
set_option maxRecDepth 65536 in
set_option maxHeartbeats 40000000 in
theorem rm3 (l : Launch) (Z : State) (a0 : Array Value) (hw : ∀ d ∈ tables_1, d.before a0 Z = true) (ws : List Jvm.Cond) (p0 : Int32) (h0 : Heap) (n0 : Nat) (Z0 : n0 ≤ h0.size) :
    MetFree l (⟨"com/example/merkki/merkki/Utf8SequencePinLaw", "allowed", "(I)Z"⟩ : MethodName) (head1 (Jvm.Cond.code (⟨"com/example/merkki/merkki/Utf8SequencePinLaw", "allowed", "(I)Z"⟩ : MethodName) method_3_code 1 (some .boolean) :: ws) ({ frames := 0, cells := 0, slots := 0, locals := 0 } : Room)) (fun a U => a = #[(.int p0)] ∧ Z.Warmed39 U.vm ∧ U.heap = h0) (fun _ _ _ _ _ => True) (fun _ U o U' => ∃ v L, o = .returned v ∧ Q3 Z p0 h0 n0 v U'.heap L ∧ FrameEnd U o U' L ({ frames := 0, cells := 0, slots := 0, locals := 0 } : Room).cells ({ frames := 0, cells := 0, slots := 0, locals := 0 } : Room).slots) := by
  refine MetFree.of_bodySF (plainFor_of_name pn_1) hisR ?_
  intro p e s m args below meth c s₁ Bd hml0 hP hK
  obtain ⟨rfl, hZ, hh⟩ := hP
  have hx := Bd.exec
  have hby := Bd.bytes
  have hml : c.maxLocals = 1 := hml0
  have hown : s.vm.findClass "com/example/merkki/merkki/Utf8SequencePinLaw" = some m.cls := findClass_of_methodNamed Bd.named
  have hnm := (name_of_methodNamed Bd.named Bd.method).1
  have X0 : Stand p l e ({ frames := 0, cells := 0, slots := 0, locals := 0 } : Room) s m #[(.int p0)] below meth c s₁ [] 0 0 := Stand.of_body Bd
  have e0 : s₁.heap = h0 := by rw [← hh, Bd.state]; rfl
  have N0 := Fr.nil n0
  have pre0 : ∀ t, Steps p.tables e below (s₁.setTop (mkF m 0 #[.val (.int p0)] [])) t → Steps p.tables e below (s₁.setTop (entryFrame m #[(.int p0)] 1)) t := fun t k => castTop (ef_3 m p0) k
  have pre1 : ∀ t, Steps p.tables e below (s₁.setTop (mkF m 4 #[.val (.int p0)] [(.int (128 : Int32)), (.int p0)])) t → Steps p.tables e below (s₁.setTop (entryFrame m #[(.int p0)] 1)) t := by
    intro t k
    refine pre0 t ?_
    show Steps p.tables e below (s₁.setTop (mkF m 0 #[.val (.int p0)] [])) _
    refine XS.iloadN X0.here hx rfl (hb hby d3_0) rfl ?_
    show Steps p.tables e below (s₁.setTop (mkF m 1 #[.val (.int p0)] [(.int p0)])) _
    refine XS.sipush X0.here hx rfl (hb hby d3_1) ?_
    exact k
  have pre3 : ∀ t, Steps p.tables e below (s₁.setTop (mkF m 42 #[.val (.int p0)] [(.int (b2i (if p0 < (128 : Int32) then false else (if (1114111 : Int32) < p0 then false else (if p0 < (55296 : Int32) then (nd3_25_2 p0) else (if p0 < (57344 : Int32) then false else (nd3_25_2 p0)))))))])) t → Steps p.tables e below (s₁.setTop (entryFrame m #[(.int p0)] 1)) t := by
    intro t k
    refine pre1 t ?_
    have k : ∀ (v1 : Bool), v1 = (if p0 < (128 : Int32) then false else (if (1114111 : Int32) < p0 then false else (if p0 < (55296 : Int32) then (nd3_25_2 p0) else (if p0 < (57344 : Int32) then false else (nd3_25_2 p0))))) → Steps p.tables e below (s₁.setTop (mkF m 42 #[.val (.int p0)] [(.int (b2i v1))])) t := fun v1 hv1 => by subst hv1; exact k
    have nd4 : (∀ (v1 : Bool), v1 = false → Steps p.tables e below (s₁.setTop (mkF m 42 #[.val (.int p0)] [(.int (b2i v1))])) t) → Steps p.tables e below (s₁.setTop (mkF m 41 #[.val (.int p0)] [])) t := by
      intro k
      show Steps p.tables e below (s₁.setTop (mkF m 41 #[.val (.int p0)] [])) _
      refine XS.iconst X0.here hx rfl (hb hby d3_41) ?_
      exact k false rfl
    have nd5 : (∀ (v1 : Bool), v1 = (nd3_25_2 p0) → Steps p.tables e below (s₁.setTop (mkF m 42 #[.val (.int p0)] [(.int (b2i v1))])) t) → Steps p.tables e below (s₁.setTop (mkF m 25 #[.val (.int p0)] [])) t := by
      intro k
      have k : ∀ (v1 : Bool), v1 = (if p0 = (65534 : Int32) then false else (if p0 = (65535 : Int32) then false else true)) → Steps p.tables e below (s₁.setTop (mkF m 42 #[.val (.int p0)] [(.int (b2i v1))])) t := k
      show Steps p.tables e below (s₁.setTop (mkF m 25 #[.val (.int p0)] [])) _
      refine XS.iloadN X0.here hx rfl (hb hby d3_25) rfl ?_
      show Steps p.tables e below (s₁.setTop (mkF m 26 #[.val (.int p0)] [(.int p0)])) _
      refine X0.ldcInt hx hown (mvT hZ (hw _ (List.mem_of_getElem? (i := 16) rfl))) (g := (mkF m 26 #[.val (.int p0)] [(.int p0)])) rfl (hb hby d3_26) _ ?_
      show Steps p.tables e below (s₁.setTop (mkF m 28 #[.val (.int p0)] [(.int (65534 : Int32)), (.int p0)])) _
      by_cases hc6 : p0 = (65534 : Int32)
      · refine XS.icmpYes X0.here hx rfl (pc0 := 28) (pc' := 41) rfl (hb hby d3_28) rfl (teq hc6).1 (by decide) (by decide) ?_
        have k : ∀ (v1 : Bool), v1 = false → Steps p.tables e below (s₁.setTop (mkF m 42 #[.val (.int p0)] [(.int (b2i v1))])) t := fun v1 hv1 => k v1 (hv1.trans (if_pos hc6).symm)
        exact nd4 k
      · refine XS.icmpNo X0.here hx rfl (hb hby d3_28) rfl (feq hc6).1 ?_
        have k : ∀ (v1 : Bool), v1 = (if p0 = (65535 : Int32) then false else true) → Steps p.tables e below (s₁.setTop (mkF m 42 #[.val (.int p0)] [(.int (b2i v1))])) t := fun v1 hv1 => k v1 (hv1.trans (if_neg hc6).symm)
        show Steps p.tables e below (s₁.setTop (mkF m 31 #[.val (.int p0)] [])) _
        refine XS.iloadN X0.here hx rfl (hb hby d3_31) rfl ?_
        show Steps p.tables e below (s₁.setTop (mkF m 32 #[.val (.int p0)] [(.int p0)])) _
        refine X0.ldcInt hx hown (mvT hZ (hw _ (List.mem_of_getElem? (i := 17) rfl))) (g := (mkF m 32 #[.val (.int p0)] [(.int p0)])) rfl (hb hby d3_32) _ ?_
        show Steps p.tables e below (s₁.setTop (mkF m 34 #[.val (.int p0)] [(.int (65535 : Int32)), (.int p0)])) _
        by_cases hc7 : p0 = (65535 : Int32)
        · refine XS.icmpYes X0.here hx rfl (pc0 := 34) (pc' := 41) rfl (hb hby d3_34) rfl (teq hc7).1 (by decide) (by decide) ?_
          have k : ∀ (v1 : Bool), v1 = false → Steps p.tables e below (s₁.setTop (mkF m 42 #[.val (.int p0)] [(.int (b2i v1))])) t := fun v1 hv1 => k v1 (hv1.trans (if_pos hc7).symm)
          exact nd4 k
        · refine XS.icmpNo X0.here hx rfl (hb hby d3_34) rfl (feq hc7).1 ?_
          have k : ∀ (v1 : Bool), v1 = true → Steps p.tables e below (s₁.setTop (mkF m 42 #[.val (.int p0)] [(.int (b2i v1))])) t := fun v1 hv1 => k v1 (hv1.trans (if_neg hc7).symm)
          show Steps p.tables e below (s₁.setTop (mkF m 37 #[.val (.int p0)] [])) _
          refine XS.iconst X0.here hx rfl (hb hby d3_37) ?_
          show Steps p.tables e below (s₁.setTop (mkF m 38 #[.val (.int p0)] [(.int (1 : Int32))])) _
          refine XS.goto X0.here hx rfl (pc0 := 38) (pc' := 42) rfl (hb hby d3_38) (by decide) (by decide) ?_
          exact k true rfl
    show Steps p.tables e below (s₁.setTop (mkF m 4 #[.val (.int p0)] [(.int (128 : Int32)), (.int p0)])) _
    by_cases hc8 : p0 < (128 : Int32)
    · refine XS.icmpYes X0.here hx rfl (pc0 := 4) (pc' := 41) rfl (hb hby d3_4) rfl (tlt hc8).1 (by decide) (by decide) ?_
      have k : ∀ (v1 : Bool), v1 = false → Steps p.tables e below (s₁.setTop (mkF m 42 #[.val (.int p0)] [(.int (b2i v1))])) t := fun v1 hv1 => k v1 (hv1.trans (if_pos hc8).symm)
      exact nd4 k
    · refine XS.icmpNo X0.here hx rfl (hb hby d3_4) rfl (flt hc8).1 ?_
      have k : ∀ (v1 : Bool), v1 = (if (1114111 : Int32) < p0 then false else (if p0 < (55296 : Int32) then (nd3_25_2 p0) else (if p0 < (57344 : Int32) then false else (nd3_25_2 p0)))) → Steps p.tables e below (s₁.setTop (mkF m 42 #[.val (.int p0)] [(.int (b2i v1))])) t := fun v1 hv1 => k v1 (hv1.trans (if_neg hc8).symm)
      show Steps p.tables e below (s₁.setTop (mkF m 7 #[.val (.int p0)] [])) _
      refine XS.iloadN X0.here hx rfl (hb hby d3_7) rfl ?_
      show Steps p.tables e below (s₁.setTop (mkF m 8 #[.val (.int p0)] [(.int p0)])) _
      refine X0.ldcInt hx hown (mvT hZ (hw _ (List.mem_of_getElem? (i := 14) rfl))) (g := (mkF m 8 #[.val (.int p0)] [(.int p0)])) rfl (hb hby d3_8) _ ?_
      show Steps p.tables e below (s₁.setTop (mkF m 10 #[.val (.int p0)] [(.int (1114111 : Int32)), (.int p0)])) _
      by_cases hc9 : (1114111 : Int32) < p0
      · refine XS.icmpYes X0.here hx rfl (pc0 := 10) (pc' := 41) rfl (hb hby d3_10) rfl (tlt hc9).2.2.1 (by decide) (by decide) ?_
        have k : ∀ (v1 : Bool), v1 = false → Steps p.tables e below (s₁.setTop (mkF m 42 #[.val (.int p0)] [(.int (b2i v1))])) t := fun v1 hv1 => k v1 (hv1.trans (if_pos hc9).symm)
        exact nd4 k
      · refine XS.icmpNo X0.here hx rfl (hb hby d3_10) rfl (flt hc9).2.2.1 ?_
        have k : ∀ (v1 : Bool), v1 = (if p0 < (55296 : Int32) then (nd3_25_2 p0) else (if p0 < (57344 : Int32) then false else (nd3_25_2 p0))) → Steps p.tables e below (s₁.setTop (mkF m 42 #[.val (.int p0)] [(.int (b2i v1))])) t := fun v1 hv1 => k v1 (hv1.trans (if_neg hc9).symm)
        show Steps p.tables e below (s₁.setTop (mkF m 13 #[.val (.int p0)] [])) _
        refine XS.iloadN X0.here hx rfl (hb hby d3_13) rfl ?_
        show Steps p.tables e below (s₁.setTop (mkF m 14 #[.val (.int p0)] [(.int p0)])) _
        refine X0.ldcInt hx hown (mvT hZ (hw _ (List.mem_of_getElem? (i := 15) rfl))) (g := (mkF m 14 #[.val (.int p0)] [(.int p0)])) rfl (hb hby d3_14) _ ?_
        show Steps p.tables e below (s₁.setTop (mkF m 16 #[.val (.int p0)] [(.int (55296 : Int32)), (.int p0)])) _
        by_cases hc10 : p0 < (55296 : Int32)
        · refine XS.icmpYes X0.here hx rfl (pc0 := 16) (pc' := 25) rfl (hb hby d3_16) rfl (tlt hc10).1 (by decide) (by decide) ?_
          have k : ∀ (v1 : Bool), v1 = (nd3_25_2 p0) → Steps p.tables e below (s₁.setTop (mkF m 42 #[.val (.int p0)] [(.int (b2i v1))])) t := fun v1 hv1 => k v1 (hv1.trans (if_pos hc10).symm)
          exact nd5 k
        · refine XS.icmpNo X0.here hx rfl (hb hby d3_16) rfl (flt hc10).1 ?_
          have k : ∀ (v1 : Bool), v1 = (if p0 < (57344 : Int32) then false else (nd3_25_2 p0)) → Steps p.tables e below (s₁.setTop (mkF m 42 #[.val (.int p0)] [(.int (b2i v1))])) t := fun v1 hv1 => k v1 (hv1.trans (if_neg hc10).symm)
          show Steps p.tables e below (s₁.setTop (mkF m 19 #[.val (.int p0)] [])) _
          refine XS.iloadN X0.here hx rfl (hb hby d3_19) rfl ?_
          show Steps p.tables e below (s₁.setTop (mkF m 20 #[.val (.int p0)] [(.int p0)])) _
          refine X0.ldcInt hx hown (mvT hZ (hw _ (List.mem_of_getElem? (i := 27) rfl))) (g := (mkF m 20 #[.val (.int p0)] [(.int p0)])) rfl (hb hby d3_20) _ ?_
          show Steps p.tables e below (s₁.setTop (mkF m 22 #[.val (.int p0)] [(.int (57344 : Int32)), (.int p0)])) _
          by_cases hc11 : p0 < (57344 : Int32)
          · refine XS.icmpYes X0.here hx rfl (pc0 := 22) (pc' := 41) rfl (hb hby d3_22) rfl (tlt hc11).1 (by decide) (by decide) ?_
            have k : ∀ (v1 : Bool), v1 = false → Steps p.tables e below (s₁.setTop (mkF m 42 #[.val (.int p0)] [(.int (b2i v1))])) t := fun v1 hv1 => k v1 (hv1.trans (if_pos hc11).symm)
            exact nd4 k
          · refine XS.icmpNo X0.here hx rfl (hb hby d3_22) rfl (flt hc11).1 ?_
            have k : ∀ (v1 : Bool), v1 = (nd3_25_2 p0) → Steps p.tables e below (s₁.setTop (mkF m 42 #[.val (.int p0)] [(.int (b2i v1))])) t := fun v1 hv1 => k v1 (hv1.trans (if_neg hc11).symm)
            exact nd5 k
  obtain ⟨fs, hr, hrun, hended, hW, hsame⟩ := X0.leave (v := some (.int (b2i (F3 p0)))) (fun h => by rw [Bd.returns] at h; cases h) (BodyLoose.notSynchronized Bd)
  refine ⟨_, _, pre3 _ ?_, hrun, hended, _, _, rfl, ?_, ⟨_, rfl⟩, hW, hsame.mono (by decide) (by decide)⟩
  · show Steps p.tables e below (s₁.setTop (mkF m 42 #[.val (.int p0)] [(.int (b2i (if p0 < (128 : Int32) then false else (if (1114111 : Int32) < p0 then false else (if p0 < (55296 : Int32) then (nd3_25_2 p0) else (if p0 < (57344 : Int32) then false else (nd3_25_2 p0)))))))])) _
    exact retN X0 hx (t := .boolean) Bd.returns (by simp) (hb hby d3_42) (by rw [nar_b2i]; exact hr)
  · show Q3 Z p0 h0 n0 _ s₁.heap _
    rw [e0]
    exact ⟨rfl, N0, rfl⟩
theorem d4_0 : decode method_4_code 0 = .ok (.iload_n 0, 1) := by decide +kernel
theorem d4_1 : decode method_4_code 1 = .ok (.sipush 128, 3) := by decide +kernel
theorem d4_4 : decode method_4_code 4 = .ok (.if_icmp .ge 7, 3) := by decide +kernel
theorem d4_7 : decode method_4_code 7 = .ok (.iconst 1, 1) := by decide +kernel
theorem d4_8 : decode method_4_code 8 = .ok (.goto 25, 3) := by decide +kernel
theorem d4_11 : decode method_4_code 11 = .ok (.iload_n 0, 1) := by decide +kernel
theorem d4_12 : decode method_4_code 12 = .ok (.sipush 2048, 3) := by decide +kernel
theorem d4_15 : decode method_4_code 15 = .ok (.if_icmp .ge 7, 3) := by decide +kernel
theorem d4_18 : decode method_4_code 18 = .ok (.iconst 2, 1) := by decide +kernel
theorem d4_19 : decode method_4_code 19 = .ok (.goto 14, 3) := by decide +kernel
theorem d4_22 : decode method_4_code 22 = .ok (.iload_n 0, 1) := by decide +kernel
theorem d4_23 : decode method_4_code 23 = .ok (.ldc 37, 2) := by decide +kernel
theorem d4_25 : decode method_4_code 25 = .ok (.if_icmp .ge 7, 3) := by decide +kernel
theorem d4_28 : decode method_4_code 28 = .ok (.iconst 3, 1) := by decide +kernel
theorem d4_29 : decode method_4_code 29 = .ok (.goto 4, 3) := by decide +kernel
theorem d4_32 : decode method_4_code 32 = .ok (.iconst 4, 1) := by decide +kernel
theorem d4_33 : decode method_4_code 33 = .ok (.ireturn, 1) := by decide +kernel
theorem ef_4 (m : MethodId) (x0 : Int32) : entryFrame m #[(.int x0)] 1 = mkF m 0 #[.val (.int x0)] [] := by first | (simp [entryFrame, mkF, argsToLocals, Value.category]; done) | rfl
def F4 (p0 : Int32) : Int32 := (if p0 < (128 : Int32) then (1 : Int32) else (if p0 < (2048 : Int32) then (2 : Int32) else (if p0 < (65536 : Int32) then (3 : Int32) else (4 : Int32))))
def Q4 (Z : State) (p0 : Int32) (h0 : Heap) (n0 : Nat) (v : Option Value) (h : Heap) (L : List Loc) : Prop := v = some (.int (F4 p0)) ∧ Fr n0 L ∧ h = h0
set_option maxRecDepth 65536 in
set_option maxHeartbeats 40000000 in
theorem rm4 (l : Launch) (Z : State) (a0 : Array Value) (hw : ∀ d ∈ tables_1, d.before a0 Z = true) (ws : List Jvm.Cond) (p0 : Int32) (h0 : Heap) (n0 : Nat) (Z0 : n0 ≤ h0.size) :
    MetFree l (⟨"com/example/merkki/merkki/Utf8SequencePinLaw", "len", "(I)I"⟩ : MethodName) (head1 (Jvm.Cond.code (⟨"com/example/merkki/merkki/Utf8SequencePinLaw", "len", "(I)I"⟩ : MethodName) method_4_code 1 (some .int) :: ws) ({ frames := 0, cells := 0, slots := 0, locals := 0 } : Room)) (fun a U => a = #[(.int p0)] ∧ Z.Warmed39 U.vm ∧ U.heap = h0) (fun _ _ _ _ _ => True) (fun _ U o U' => ∃ v L, o = .returned v ∧ Q4 Z p0 h0 n0 v U'.heap L ∧ FrameEnd U o U' L ({ frames := 0, cells := 0, slots := 0, locals := 0 } : Room).cells ({ frames := 0, cells := 0, slots := 0, locals := 0 } : Room).slots) := by
  refine MetFree.of_bodySF (plainFor_of_name pn_1) hisR ?_
  intro p e s m args below meth c s₁ Bd hml0 hP hK
  obtain ⟨rfl, hZ, hh⟩ := hP
  have hx := Bd.exec
  have hby := Bd.bytes
  have hml : c.maxLocals = 1 := hml0
  have hown : s.vm.findClass "com/example/merkki/merkki/Utf8SequencePinLaw" = some m.cls := findClass_of_methodNamed Bd.named
  have hnm := (name_of_methodNamed Bd.named Bd.method).1
  have X0 : Stand p l e ({ frames := 0, cells := 0, slots := 0, locals := 0 } : Room) s m #[(.int p0)] below meth c s₁ [] 0 0 := Stand.of_body Bd
  have e0 : s₁.heap = h0 := by rw [← hh, Bd.state]; rfl
  have N0 := Fr.nil n0
  have pre0 : ∀ t, Steps p.tables e below (s₁.setTop (mkF m 0 #[.val (.int p0)] [])) t → Steps p.tables e below (s₁.setTop (entryFrame m #[(.int p0)] 1)) t := fun t k => castTop (ef_4 m p0) k
  have pre1 : ∀ t, Steps p.tables e below (s₁.setTop (mkF m 4 #[.val (.int p0)] [(.int (128 : Int32)), (.int p0)])) t → Steps p.tables e below (s₁.setTop (entryFrame m #[(.int p0)] 1)) t := by
    intro t k
    refine pre0 t ?_
    show Steps p.tables e below (s₁.setTop (mkF m 0 #[.val (.int p0)] [])) _
    refine XS.iloadN X0.here hx rfl (hb hby d4_0) rfl ?_
    show Steps p.tables e below (s₁.setTop (mkF m 1 #[.val (.int p0)] [(.int p0)])) _
    refine XS.sipush X0.here hx rfl (hb hby d4_1) ?_
    exact k
  have pre2 : ∀ t, Steps p.tables e below (s₁.setTop (mkF m 33 #[.val (.int p0)] [(.int (if p0 < (128 : Int32) then (1 : Int32) else (if p0 < (2048 : Int32) then (2 : Int32) else (if p0 < (65536 : Int32) then (3 : Int32) else (4 : Int32)))))])) t → Steps p.tables e below (s₁.setTop (entryFrame m #[(.int p0)] 1)) t := by
    intro t k
    refine pre1 t ?_
    have k : ∀ (v1 : Int32), v1 = (if p0 < (128 : Int32) then (1 : Int32) else (if p0 < (2048 : Int32) then (2 : Int32) else (if p0 < (65536 : Int32) then (3 : Int32) else (4 : Int32)))) → Steps p.tables e below (s₁.setTop (mkF m 33 #[.val (.int p0)] [(.int v1)])) t := fun v1 hv1 => by subst hv1; exact k
    show Steps p.tables e below (s₁.setTop (mkF m 4 #[.val (.int p0)] [(.int (128 : Int32)), (.int p0)])) _
    by_cases hc3 : p0 < (128 : Int32)
    · refine XS.icmpNo X0.here hx rfl (hb hby d4_4) rfl (tlt hc3).2.1 ?_
      have k : ∀ (v1 : Int32), v1 = (1 : Int32) → Steps p.tables e below (s₁.setTop (mkF m 33 #[.val (.int p0)] [(.int v1)])) t := fun v1 hv1 => k v1 (hv1.trans (if_pos hc3).symm)
      show Steps p.tables e below (s₁.setTop (mkF m 7 #[.val (.int p0)] [])) _
      refine XS.iconst X0.here hx rfl (hb hby d4_7) ?_
      show Steps p.tables e below (s₁.setTop (mkF m 8 #[.val (.int p0)] [(.int (1 : Int32))])) _
      refine XS.goto X0.here hx rfl (pc0 := 8) (pc' := 33) rfl (hb hby d4_8) (by decide) (by decide) ?_
      exact k _ rfl
    · refine XS.icmpYes X0.here hx rfl (pc0 := 4) (pc' := 11) rfl (hb hby d4_4) rfl (flt hc3).2.1 (by decide) (by decide) ?_
      have k : ∀ (v1 : Int32), v1 = (if p0 < (2048 : Int32) then (2 : Int32) else (if p0 < (65536 : Int32) then (3 : Int32) else (4 : Int32))) → Steps p.tables e below (s₁.setTop (mkF m 33 #[.val (.int p0)] [(.int v1)])) t := fun v1 hv1 => k v1 (hv1.trans (if_neg hc3).symm)
      show Steps p.tables e below (s₁.setTop (mkF m 11 #[.val (.int p0)] [])) _
      refine XS.iloadN X0.here hx rfl (hb hby d4_11) rfl ?_
      show Steps p.tables e below (s₁.setTop (mkF m 12 #[.val (.int p0)] [(.int p0)])) _
      refine XS.sipush X0.here hx rfl (hb hby d4_12) ?_
      show Steps p.tables e below (s₁.setTop (mkF m 15 #[.val (.int p0)] [(.int (2048 : Int32)), (.int p0)])) _
      by_cases hc4 : p0 < (2048 : Int32)
      · refine XS.icmpNo X0.here hx rfl (hb hby d4_15) rfl (tlt hc4).2.1 ?_
        have k : ∀ (v1 : Int32), v1 = (2 : Int32) → Steps p.tables e below (s₁.setTop (mkF m 33 #[.val (.int p0)] [(.int v1)])) t := fun v1 hv1 => k v1 (hv1.trans (if_pos hc4).symm)
        show Steps p.tables e below (s₁.setTop (mkF m 18 #[.val (.int p0)] [])) _
        refine XS.iconst X0.here hx rfl (hb hby d4_18) ?_
        show Steps p.tables e below (s₁.setTop (mkF m 19 #[.val (.int p0)] [(.int (2 : Int32))])) _
        refine XS.goto X0.here hx rfl (pc0 := 19) (pc' := 33) rfl (hb hby d4_19) (by decide) (by decide) ?_
        exact k _ rfl
      · refine XS.icmpYes X0.here hx rfl (pc0 := 15) (pc' := 22) rfl (hb hby d4_15) rfl (flt hc4).2.1 (by decide) (by decide) ?_
        have k : ∀ (v1 : Int32), v1 = (if p0 < (65536 : Int32) then (3 : Int32) else (4 : Int32)) → Steps p.tables e below (s₁.setTop (mkF m 33 #[.val (.int p0)] [(.int v1)])) t := fun v1 hv1 => k v1 (hv1.trans (if_neg hc4).symm)
        show Steps p.tables e below (s₁.setTop (mkF m 22 #[.val (.int p0)] [])) _
        refine XS.iloadN X0.here hx rfl (hb hby d4_22) rfl ?_
        show Steps p.tables e below (s₁.setTop (mkF m 23 #[.val (.int p0)] [(.int p0)])) _
        refine X0.ldcInt hx hown (mvT hZ (hw _ (List.mem_of_getElem? (i := 23) rfl))) (g := (mkF m 23 #[.val (.int p0)] [(.int p0)])) rfl (hb hby d4_23) _ ?_
        show Steps p.tables e below (s₁.setTop (mkF m 25 #[.val (.int p0)] [(.int (65536 : Int32)), (.int p0)])) _
        by_cases hc5 : p0 < (65536 : Int32)
        · refine XS.icmpNo X0.here hx rfl (hb hby d4_25) rfl (tlt hc5).2.1 ?_
          have k : ∀ (v1 : Int32), v1 = (3 : Int32) → Steps p.tables e below (s₁.setTop (mkF m 33 #[.val (.int p0)] [(.int v1)])) t := fun v1 hv1 => k v1 (hv1.trans (if_pos hc5).symm)
          show Steps p.tables e below (s₁.setTop (mkF m 28 #[.val (.int p0)] [])) _
          refine XS.iconst X0.here hx rfl (hb hby d4_28) ?_
          show Steps p.tables e below (s₁.setTop (mkF m 29 #[.val (.int p0)] [(.int (3 : Int32))])) _
          refine XS.goto X0.here hx rfl (pc0 := 29) (pc' := 33) rfl (hb hby d4_29) (by decide) (by decide) ?_
          exact k _ rfl
        · refine XS.icmpYes X0.here hx rfl (pc0 := 25) (pc' := 32) rfl (hb hby d4_25) rfl (flt hc5).2.1 (by decide) (by decide) ?_
          have k : ∀ (v1 : Int32), v1 = (4 : Int32) → Steps p.tables e below (s₁.setTop (mkF m 33 #[.val (.int p0)] [(.int v1)])) t := fun v1 hv1 => k v1 (hv1.trans (if_neg hc5).symm)
          show Steps p.tables e below (s₁.setTop (mkF m 32 #[.val (.int p0)] [])) _
          refine XS.iconst X0.here hx rfl (hb hby d4_32) ?_
          exact k _ rfl
  obtain ⟨fs, hr, hrun, hended, hW, hsame⟩ := X0.leave (v := some (.int (F4 p0))) (fun h => by rw [Bd.returns] at h; cases h) (BodyLoose.notSynchronized Bd)
  refine ⟨_, _, pre2 _ ?_, hrun, hended, _, _, rfl, ?_, ⟨_, rfl⟩, hW, hsame.mono (by decide) (by decide)⟩
  · show Steps p.tables e below (s₁.setTop (mkF m 33 #[.val (.int p0)] [(.int (if p0 < (128 : Int32) then (1 : Int32) else (if p0 < (2048 : Int32) then (2 : Int32) else (if p0 < (65536 : Int32) then (3 : Int32) else (4 : Int32)))))])) _
    exact retI X0 hx Bd.returns (hb hby d4_33) hr
  · show Q4 Z p0 h0 n0 _ s₁.heap _
    rw [e0]
    exact ⟨rfl, N0, rfl⟩
theorem d5_0 : decode method_6_code 0 = .ok (.iload_n 2, 1) := by decide +kernel
theorem d5_1 : decode method_6_code 1 = .ok (.invokestatic 25, 3) := by decide +kernel
theorem d5_4 : decode method_6_code 4 = .ok (.istore_n 3, 1) := by decide +kernel
theorem d5_5 : decode method_6_code 5 = .ok (.aload_n 0, 1) := by decide +kernel
theorem d5_6 : decode method_6_code 6 = .ok (.iload_n 1, 1) := by decide +kernel
theorem d5_7 : decode method_6_code 7 = .ok (.baload, 1) := by decide +kernel
theorem d5_8 : decode method_6_code 8 = .ok (.sipush 255, 3) := by decide +kernel
theorem d5_11 : decode method_6_code 11 = .ok (.iand, 1) := by decide +kernel
theorem d5_12 : decode method_6_code 12 = .ok (.iload_n 2, 1) := by decide +kernel
theorem d5_13 : decode method_6_code 13 = .ok (.iload_n 3, 1) := by decide +kernel
theorem d5_14 : decode method_6_code 14 = .ok (.iconst 0, 1) := by decide +kernel
theorem d5_15 : decode method_6_code 15 = .ok (.invokestatic 9, 3) := by decide +kernel
theorem d5_18 : decode method_6_code 18 = .ok (.if_icmp .ne 7, 3) := by decide +kernel
theorem d5_21 : decode method_6_code 21 = .ok (.iconst 1, 1) := by decide +kernel
theorem d5_22 : decode method_6_code 22 = .ok (.goto 4, 3) := by decide +kernel
theorem d5_25 : decode method_6_code 25 = .ok (.iconst 0, 1) := by decide +kernel
theorem d5_26 : decode method_6_code 26 = .ok (.istore 4, 2) := by decide +kernel
theorem d5_28 : decode method_6_code 28 = .ok (.iload_n 3, 1) := by decide +kernel
theorem d5_29 : decode method_6_code 29 = .ok (.iconst 1, 1) := by decide +kernel
theorem d5_30 : decode method_6_code 30 = .ok (.if_icmp .le 33, 3) := by decide +kernel
theorem d5_33 : decode method_6_code 33 = .ok (.iload 4, 2) := by decide +kernel
theorem d5_35 : decode method_6_code 35 = .ok (.ifCond .eq 25, 3) := by decide +kernel
theorem d5_38 : decode method_6_code 38 = .ok (.aload_n 0, 1) := by decide +kernel
theorem d5_39 : decode method_6_code 39 = .ok (.iload_n 1, 1) := by decide +kernel
theorem d5_40 : decode method_6_code 40 = .ok (.iconst 1, 1) := by decide +kernel
theorem d5_41 : decode method_6_code 41 = .ok (.iadd, 1) := by decide +kernel
theorem d5_42 : decode method_6_code 42 = .ok (.baload, 1) := by decide +kernel
theorem d5_43 : decode method_6_code 43 = .ok (.sipush 255, 3) := by decide +kernel
theorem d5_46 : decode method_6_code 46 = .ok (.iand, 1) := by decide +kernel
theorem d5_47 : decode method_6_code 47 = .ok (.iload_n 2, 1) := by decide +kernel
theorem d5_48 : decode method_6_code 48 = .ok (.iload_n 3, 1) := by decide +kernel
theorem d5_49 : decode method_6_code 49 = .ok (.iconst 1, 1) := by decide +kernel
theorem d5_50 : decode method_6_code 50 = .ok (.invokestatic 9, 3) := by decide +kernel
theorem d5_53 : decode method_6_code 53 = .ok (.if_icmp .ne 7, 3) := by decide +kernel
theorem d5_56 : decode method_6_code 56 = .ok (.iconst 1, 1) := by decide +kernel
theorem d5_57 : decode method_6_code 57 = .ok (.goto 4, 3) := by decide +kernel
theorem d5_60 : decode method_6_code 60 = .ok (.iconst 0, 1) := by decide +kernel
theorem d5_61 : decode method_6_code 61 = .ok (.istore 4, 2) := by decide +kernel
theorem d5_63 : decode method_6_code 63 = .ok (.iload_n 3, 1) := by decide +kernel
theorem d5_64 : decode method_6_code 64 = .ok (.iconst 2, 1) := by decide +kernel
theorem d5_65 : decode method_6_code 65 = .ok (.if_icmp .le 33, 3) := by decide +kernel
theorem d5_68 : decode method_6_code 68 = .ok (.iload 4, 2) := by decide +kernel
theorem d5_70 : decode method_6_code 70 = .ok (.ifCond .eq 25, 3) := by decide +kernel
theorem d5_73 : decode method_6_code 73 = .ok (.aload_n 0, 1) := by decide +kernel
theorem d5_74 : decode method_6_code 74 = .ok (.iload_n 1, 1) := by decide +kernel
theorem d5_75 : decode method_6_code 75 = .ok (.iconst 2, 1) := by decide +kernel
theorem d5_76 : decode method_6_code 76 = .ok (.iadd, 1) := by decide +kernel
theorem d5_77 : decode method_6_code 77 = .ok (.baload, 1) := by decide +kernel
theorem d5_78 : decode method_6_code 78 = .ok (.sipush 255, 3) := by decide +kernel
theorem d5_81 : decode method_6_code 81 = .ok (.iand, 1) := by decide +kernel
theorem d5_82 : decode method_6_code 82 = .ok (.iload_n 2, 1) := by decide +kernel
theorem d5_83 : decode method_6_code 83 = .ok (.iload_n 3, 1) := by decide +kernel
theorem d5_84 : decode method_6_code 84 = .ok (.iconst 2, 1) := by decide +kernel
theorem d5_85 : decode method_6_code 85 = .ok (.invokestatic 9, 3) := by decide +kernel
theorem d5_88 : decode method_6_code 88 = .ok (.if_icmp .ne 7, 3) := by decide +kernel
theorem d5_91 : decode method_6_code 91 = .ok (.iconst 1, 1) := by decide +kernel
theorem d5_92 : decode method_6_code 92 = .ok (.goto 4, 3) := by decide +kernel
theorem d5_95 : decode method_6_code 95 = .ok (.iconst 0, 1) := by decide +kernel
theorem d5_96 : decode method_6_code 96 = .ok (.istore 4, 2) := by decide +kernel
theorem d5_98 : decode method_6_code 98 = .ok (.iload_n 3, 1) := by decide +kernel
theorem d5_99 : decode method_6_code 99 = .ok (.iconst 3, 1) := by decide +kernel
theorem d5_100 : decode method_6_code 100 = .ok (.if_icmp .le 33, 3) := by decide +kernel
theorem d5_103 : decode method_6_code 103 = .ok (.iload 4, 2) := by decide +kernel
theorem d5_105 : decode method_6_code 105 = .ok (.ifCond .eq 25, 3) := by decide +kernel
theorem d5_108 : decode method_6_code 108 = .ok (.aload_n 0, 1) := by decide +kernel
theorem d5_109 : decode method_6_code 109 = .ok (.iload_n 1, 1) := by decide +kernel
theorem d5_110 : decode method_6_code 110 = .ok (.iconst 3, 1) := by decide +kernel
theorem d5_111 : decode method_6_code 111 = .ok (.iadd, 1) := by decide +kernel
theorem d5_112 : decode method_6_code 112 = .ok (.baload, 1) := by decide +kernel
theorem d5_113 : decode method_6_code 113 = .ok (.sipush 255, 3) := by decide +kernel
theorem d5_116 : decode method_6_code 116 = .ok (.iand, 1) := by decide +kernel
theorem d5_117 : decode method_6_code 117 = .ok (.iload_n 2, 1) := by decide +kernel
theorem d5_118 : decode method_6_code 118 = .ok (.iload_n 3, 1) := by decide +kernel
theorem d5_119 : decode method_6_code 119 = .ok (.iconst 3, 1) := by decide +kernel
theorem d5_120 : decode method_6_code 120 = .ok (.invokestatic 9, 3) := by decide +kernel
theorem d5_123 : decode method_6_code 123 = .ok (.if_icmp .ne 7, 3) := by decide +kernel
theorem d5_126 : decode method_6_code 126 = .ok (.iconst 1, 1) := by decide +kernel
theorem d5_127 : decode method_6_code 127 = .ok (.goto 4, 3) := by decide +kernel
theorem d5_130 : decode method_6_code 130 = .ok (.iconst 0, 1) := by decide +kernel
theorem d5_131 : decode method_6_code 131 = .ok (.istore 4, 2) := by decide +kernel
theorem d5_133 : decode method_6_code 133 = .ok (.iload 4, 2) := by decide +kernel
theorem d5_135 : decode method_6_code 135 = .ok (.ireturn, 1) := by decide +kernel
theorem pd_3 : parseMethodDescriptor "(I)I" = some ⟨[.int], some .int⟩ := by decide +kernel
theorem pd_0 : parseMethodDescriptor "(III)I" = some ⟨[.int, .int, .int], some .int⟩ := by decide +kernel
theorem ef_5 (m : MethodId) (x0 : Addr) (x1 : Int32) (x2 : Int32) : entryFrame m #[(.ref x0), (.int x1), (.int x2)] 5 = mkF m 0 #[.val (.ref x0), .val (.int x1), .val (.int x2), .unset, .unset] [] := by first | (simp [entryFrame, mkF, argsToLocals, Value.category]; done) | rfl
def mt_m (rr : Int32) : Int32 := (F4 rr)
def mt_1 (pq : Int32) (rr : Int32) (fb : Int32 → Int32) : Bool := (if (1 : Int32) < (mt_m rr) then (if (if ((fb pq) &&& (255 : Int32)) = (F1 rr (mt_m rr) (0 : Int32)) then true else false) = true then (if ((fb (pq + (1 : Int32))) &&& (255 : Int32)) = (F1 rr (mt_m rr) (1 : Int32)) then true else false) else false) else (if ((fb pq) &&& (255 : Int32)) = (F1 rr (mt_m rr) (0 : Int32)) then true else false))
def mt_2 (pq : Int32) (rr : Int32) (fb : Int32 → Int32) : Bool := (if (2 : Int32) < (mt_m rr) then (if (mt_1 pq rr fb) = true then (if ((fb (pq + (2 : Int32))) &&& (255 : Int32)) = (F1 rr (mt_m rr) (2 : Int32)) then true else false) else false) else (mt_1 pq rr fb))
def mt_3 (pq : Int32) (rr : Int32) (fb : Int32 → Int32) : Bool := (if (3 : Int32) < (mt_m rr) then (if (mt_2 pq rr fb) = true then (if ((fb (pq + (3 : Int32))) &&& (255 : Int32)) = (F1 rr (mt_m rr) (3 : Int32)) then true else false) else false) else (mt_2 pq rr fb))
def Fmat (pq : Int32) (rr : Int32) (fb : Int32 → Int32) : Bool := (mt_3 pq rr fb)
def Q5 (Z : State) (ia : Addr) (pq : Int32) (rr : Int32) (fb : Int32 → Int32) (h0 : Heap) (n0 : Nat) (v : Option Value) (h : Heap) (L : List Loc) : Prop := v = some (.int (b2i (Fmat pq rr fb))) ∧ Fr n0 L ∧ h = h0
set_option maxRecDepth 65536 in
set_option maxHeartbeats 40000000 in
theorem rm5 (l : Launch) (Z : State) (a0 : Array Value) (hw : ∀ d ∈ tables_1, d.before a0 Z = true) (ws : List Jvm.Cond) (ia : Addr) (pq : Int32) (rr : Int32) (fb : Int32 → Int32) (h0 : Heap) (n0 : Nat) (Z0 : n0 ≤ h0.size) (I0 : PI Z h0 n0 ia fb) (hp0 : ¬ pq < 0) (hp1 : pq < (4 : Int32)) :
    MetFree l (⟨"com/example/merkki/merkki/Utf8SequencePinLaw", "matches", "([BII)Z"⟩ : MethodName) (head1 (Jvm.Cond.code (⟨"com/example/merkki/merkki/Utf8SequencePinLaw", "matches", "([BII)Z"⟩ : MethodName) method_6_code 5 (some .boolean) :: ws) ({ frames := 1, cells := 0, slots := 0, locals := 16 } : Room)) (fun a U => a = #[(.ref ia), (.int pq), (.int rr)] ∧ Z.Warmed39 U.vm ∧ U.heap = h0) (fun _ _ _ _ _ => True) (fun _ U o U' => ∃ v L, o = .returned v ∧ Q5 Z ia pq rr fb h0 n0 v U'.heap L ∧ FrameEnd U o U' L ({ frames := 1, cells := 0, slots := 0, locals := 16 } : Room).cells ({ frames := 1, cells := 0, slots := 0, locals := 16 } : Room).slots) := by
  refine MetFree.of_bodySF (plainFor_of_name pn_1) hisR ?_
  intro p e s m args below meth c s₁ Bd hml0 hP hK
  obtain ⟨rfl, hZ, hh⟩ := hP
  have hx := Bd.exec
  have hby := Bd.bytes
  have hml : c.maxLocals = 5 := hml0
  have hown : s.vm.findClass "com/example/merkki/merkki/Utf8SequencePinLaw" = some m.cls := findClass_of_methodNamed Bd.named
  have hnm := (name_of_methodNamed Bd.named Bd.method).1
  have X0 : Stand p l e ({ frames := 1, cells := 0, slots := 0, locals := 16 } : Room) s m #[(.ref ia), (.int pq), (.int rr)] below meth c s₁ [] 0 0 := Stand.of_body Bd
  have e0 : s₁.heap = h0 := by rw [← hh, Bd.state]; rfl
  have N0 := Fr.nil n0
  have pre0 : ∀ t, Steps p.tables e below (s₁.setTop (mkF m 0 #[.val (.ref ia), .val (.int pq), .val (.int rr), .unset, .unset] [])) t → Steps p.tables e below (s₁.setTop (entryFrame m #[(.ref ia), (.int pq), (.int rr)] 5)) t := fun t k => castTop (ef_5 m ia pq rr) k
  obtain ⟨k1_0, k1_g_ia, k1_sz⟩ := I0
  obtain ⟨_, _, ⟨T2, L2, k2, n2⟩, -, X2, ⟨Lc2, hQ2, l2, y2, z2⟩, st2⟩ := Jvm.LawKit.callS X0 hx (y := (⟨"com/example/merkki/merkki/Utf8SequencePinLaw", "len", "(I)I"⟩ : MethodName)) hown (mvT hZ (hw _ (List.mem_of_getElem? (i := 18) rfl))) (mvT hZ (hw _ (List.mem_of_getElem? (i := 19) rfl))) (mvT hZ (hw _ (List.mem_of_getElem? (i := 3) rfl))) (mvT hZ (hw _ (List.mem_of_getElem? (i := 20) rfl))) (by decide) (backOf (W := 0) (rm4 l Z a0 hw [] rr h0 n0 Z0) hZ (hw _ (List.mem_of_getElem? (i := 20) rfl)) (hw _ (List.mem_of_getElem? (i := 3) rfl)) (by decide) (by decide)) (g := (mkF m 1 #[.val (.ref ia), .val (.int pq), .val (.int rr), .unset, .unset] [(.int rr)])) rfl (by rw [hml]; rfl) (argsL := [(.int rr)]) (rest := []) (lenOf pd_3 rfl) rfl (by show 2 * 0 + _ ≤ _; exact Nat.le_of_eq rfl) (hb hby d5_1) (fun _ _ => ⟨rfl, e0, (by decide : 0 + 0 ≤ _), (by decide : 0 + 0 ≤ _)⟩)
  dsimp only [Pt.U, Pt.locs, Pt.cells, Pt.slots] at X2 l2 y2 z2 st2 hQ2
  subst y2 z2
  obtain ⟨rfl, N2q, e2⟩ := hQ2
  have N2 : Fr n0 L2 := by rw [l2]; exact Fr.app N0 N2q
  obtain ⟨_, _, ⟨T3, L3, k3, n3⟩, -, X3, ⟨Lc3, hQ3, l3, y3, z3⟩, st3⟩ := Jvm.LawKit.callS X2 hx (y := (⟨"com/example/merkki/merkki/Utf8SequencePinLaw", "enc", "(III)I"⟩ : MethodName)) hown (mvT hZ (hw _ (List.mem_of_getElem? (i := 1) rfl))) (mvT hZ (hw _ (List.mem_of_getElem? (i := 2) rfl))) (mvT hZ (hw _ (List.mem_of_getElem? (i := 3) rfl))) (mvT hZ (hw _ (List.mem_of_getElem? (i := 4) rfl))) (by decide) (backOf (W := 1) (rm1 l Z a0 hw [] rr (mt_m rr) (0 : Int32) h0 n0 Z0) hZ (hw _ (List.mem_of_getElem? (i := 4) rfl)) (hw _ (List.mem_of_getElem? (i := 3) rfl)) (by decide) (by decide)) (g := (mkF m 15 #[.val (.ref ia), .val (.int pq), .val (.int rr), .val (.int (mt_m rr)), .unset] [(.int (0 : Int32)), (.int (mt_m rr)), (.int rr), (.int ((fb pq) &&& (255 : Int32)))])) rfl (by rw [hml]; rfl) (argsL := [(.int rr), (.int (mt_m rr)), (.int (0 : Int32))]) (rest := [(.int ((fb pq) &&& (255 : Int32)))]) (lenOf pd_0 rfl) rfl (by show 2 * 0 + _ ≤ _; exact Nat.le_of_eq rfl) (hb hby d5_15) (fun _ _ => ⟨rfl, e2, (by decide : 0 + 0 ≤ _), (by decide : 0 + 0 ≤ _)⟩)
  dsimp only [Pt.U, Pt.locs, Pt.cells, Pt.slots] at X3 l3 y3 z3 st3 hQ3
  subst y3 z3
  obtain ⟨rfl, N3q, e3⟩ := hQ3
  have N3 : Fr n0 L3 := by rw [l3]; exact Fr.app N2 N3q
  have pre4 : ∀ t, Steps p.tables e below (T3.setTop (mkF m 18 #[.val (.ref ia), .val (.int pq), .val (.int rr), .val (.int (mt_m rr)), .unset] [(.int (F1 rr (mt_m rr) (0 : Int32))), (.int ((fb pq) &&& (255 : Int32)))])) t → Steps p.tables e below (s₁.setTop (entryFrame m #[(.ref ia), (.int pq), (.int rr)] 5)) t := by
    intro t k
    refine pre0 t ?_
    show Steps p.tables e below (s₁.setTop (mkF m 0 #[.val (.ref ia), .val (.int pq), .val (.int rr), .unset, .unset] [])) _
    refine XS.iloadN X0.here hx rfl (hb hby d5_0) rfl ?_
    show Steps p.tables e below (s₁.setTop (mkF m 1 #[.val (.ref ia), .val (.int pq), .val (.int rr), .unset, .unset] [(.int rr)])) _
    refine st2 _ ?_
    show Steps p.tables e below (T2.setTop (mkF m 4 #[.val (.ref ia), .val (.int pq), .val (.int rr), .unset, .unset] [(.int (F4 rr))])) _
    refine XS.istoreN X2.here hx rfl (hb hby d5_4) rfl (l' := #[.val (.ref ia), .val (.int pq), .val (.int rr), .val (.int (mt_m rr)), .unset]) rfl ?_
    show Steps p.tables e below (T2.setTop (mkF m 5 #[.val (.ref ia), .val (.int pq), .val (.int rr), .val (.int (mt_m rr)), .unset] [])) _
    refine XS.aloadN X2.here hx rfl (hb hby d5_5) rfl rfl ?_
    show Steps p.tables e below (T2.setTop (mkF m 6 #[.val (.ref ia), .val (.int pq), .val (.int rr), .val (.int (mt_m rr)), .unset] [(.ref ia)])) _
    refine XS.iloadN X2.here hx rfl (hb hby d5_6) rfl ?_
    show Steps p.tables e below (T2.setTop (mkF m 7 #[.val (.ref ia), .val (.int pq), .val (.int rr), .val (.int (mt_m rr)), .unset] [(.int pq), (.ref ia)])) _
    refine rdB X2 hx hZ e2 k1_0 (j := pq) (own_ix0 hp0 hp1) rfl (g := (mkF m 7 #[.val (.ref ia), .val (.int pq), .val (.int rr), .val (.int (mt_m rr)), .unset] [(.int pq), (.ref ia)])) rfl rfl (hb hby d5_7) _ ?_
    show Steps p.tables e below (T2.setTop (mkF m 8 #[.val (.ref ia), .val (.int pq), .val (.int rr), .val (.int (mt_m rr)), .unset] [(.int (fb pq))])) _
    refine XS.sipush X2.here hx rfl (hb hby d5_8) ?_
    show Steps p.tables e below (T2.setTop (mkF m 11 #[.val (.ref ia), .val (.int pq), .val (.int rr), .val (.int (mt_m rr)), .unset] [(.int (255 : Int32)), (.int (fb pq))])) _
    refine XS.iand X2.here hx rfl (hb hby d5_11) rfl ?_
    show Steps p.tables e below (T2.setTop (mkF m 12 #[.val (.ref ia), .val (.int pq), .val (.int rr), .val (.int (mt_m rr)), .unset] [(.int ((fb pq) &&& (255 : Int32)))])) _
    refine XS.iloadN X2.here hx rfl (hb hby d5_12) rfl ?_
    show Steps p.tables e below (T2.setTop (mkF m 13 #[.val (.ref ia), .val (.int pq), .val (.int rr), .val (.int (mt_m rr)), .unset] [(.int rr), (.int ((fb pq) &&& (255 : Int32)))])) _
    refine XS.iloadN X2.here hx rfl (hb hby d5_13) rfl ?_
    show Steps p.tables e below (T2.setTop (mkF m 14 #[.val (.ref ia), .val (.int pq), .val (.int rr), .val (.int (mt_m rr)), .unset] [(.int (mt_m rr)), (.int rr), (.int ((fb pq) &&& (255 : Int32)))])) _
    refine XS.iconst X2.here hx rfl (hb hby d5_14) ?_
    show Steps p.tables e below (T2.setTop (mkF m 15 #[.val (.ref ia), .val (.int pq), .val (.int rr), .val (.int (mt_m rr)), .unset] [(.int (0 : Int32)), (.int (mt_m rr)), (.int rr), (.int ((fb pq) &&& (255 : Int32)))])) _
    refine st3 _ ?_
    exact k
  have pre5 : ∀ t, Steps p.tables e below (T3.setTop (mkF m 26 #[.val (.ref ia), .val (.int pq), .val (.int rr), .val (.int (mt_m rr)), .unset] [(.int (b2i (if ((fb pq) &&& (255 : Int32)) = (F1 rr (mt_m rr) (0 : Int32)) then true else false)))])) t → Steps p.tables e below (s₁.setTop (entryFrame m #[(.ref ia), (.int pq), (.int rr)] 5)) t := by
    intro t k
    refine pre4 t ?_
    have k : ∀ (v1 : Bool), v1 = (if ((fb pq) &&& (255 : Int32)) = (F1 rr (mt_m rr) (0 : Int32)) then true else false) → Steps p.tables e below (T3.setTop (mkF m 26 #[.val (.ref ia), .val (.int pq), .val (.int rr), .val (.int (mt_m rr)), .unset] [(.int (b2i v1))])) t := fun v1 hv1 => by subst hv1; exact k
    show Steps p.tables e below (T3.setTop (mkF m 18 #[.val (.ref ia), .val (.int pq), .val (.int rr), .val (.int (mt_m rr)), .unset] [(.int (F1 rr (mt_m rr) (0 : Int32))), (.int ((fb pq) &&& (255 : Int32)))])) _
    by_cases hc6 : ((fb pq) &&& (255 : Int32)) = (F1 rr (mt_m rr) (0 : Int32))
    · refine XS.icmpNo X3.here hx rfl (hb hby d5_18) rfl (teq hc6).2 ?_
      have k : ∀ (v1 : Bool), v1 = true → Steps p.tables e below (T3.setTop (mkF m 26 #[.val (.ref ia), .val (.int pq), .val (.int rr), .val (.int (mt_m rr)), .unset] [(.int (b2i v1))])) t := fun v1 hv1 => k v1 (hv1.trans (if_pos hc6).symm)
      show Steps p.tables e below (T3.setTop (mkF m 21 #[.val (.ref ia), .val (.int pq), .val (.int rr), .val (.int (mt_m rr)), .unset] [])) _
      refine XS.iconst X3.here hx rfl (hb hby d5_21) ?_
      show Steps p.tables e below (T3.setTop (mkF m 22 #[.val (.ref ia), .val (.int pq), .val (.int rr), .val (.int (mt_m rr)), .unset] [(.int (1 : Int32))])) _
      refine XS.goto X3.here hx rfl (pc0 := 22) (pc' := 26) rfl (hb hby d5_22) (by decide) (by decide) ?_
      exact k true rfl
    · refine XS.icmpYes X3.here hx rfl (pc0 := 18) (pc' := 25) rfl (hb hby d5_18) rfl (feq hc6).2 (by decide) (by decide) ?_
      have k : ∀ (v1 : Bool), v1 = false → Steps p.tables e below (T3.setTop (mkF m 26 #[.val (.ref ia), .val (.int pq), .val (.int rr), .val (.int (mt_m rr)), .unset] [(.int (b2i v1))])) t := fun v1 hv1 => k v1 (hv1.trans (if_neg hc6).symm)
      show Steps p.tables e below (T3.setTop (mkF m 25 #[.val (.ref ia), .val (.int pq), .val (.int rr), .val (.int (mt_m rr)), .unset] [])) _
      refine XS.iconst X3.here hx rfl (hb hby d5_25) ?_
      exact k false rfl
  have pre7 : ∀ t, Steps p.tables e below (T3.setTop (mkF m 30 #[.val (.ref ia), .val (.int pq), .val (.int rr), .val (.int (mt_m rr)), .val (.int (b2i (if ((fb pq) &&& (255 : Int32)) = (F1 rr (mt_m rr) (0 : Int32)) then true else false)))] [(.int (1 : Int32)), (.int (mt_m rr))])) t → Steps p.tables e below (s₁.setTop (entryFrame m #[(.ref ia), (.int pq), (.int rr)] 5)) t := by
    intro t k
    refine pre5 t ?_
    show Steps p.tables e below (T3.setTop (mkF m 26 #[.val (.ref ia), .val (.int pq), .val (.int rr), .val (.int (mt_m rr)), .unset] [(.int (b2i (if ((fb pq) &&& (255 : Int32)) = (F1 rr (mt_m rr) (0 : Int32)) then true else false)))])) _
    refine XS.istore X3.here hx rfl (hb hby d5_26) rfl (l' := #[.val (.ref ia), .val (.int pq), .val (.int rr), .val (.int (mt_m rr)), .val (.int (b2i (if ((fb pq) &&& (255 : Int32)) = (F1 rr (mt_m rr) (0 : Int32)) then true else false)))]) rfl ?_
    show Steps p.tables e below (T3.setTop (mkF m 28 #[.val (.ref ia), .val (.int pq), .val (.int rr), .val (.int (mt_m rr)), .val (.int (b2i (if ((fb pq) &&& (255 : Int32)) = (F1 rr (mt_m rr) (0 : Int32)) then true else false)))] [])) _
    refine XS.iloadN X3.here hx rfl (hb hby d5_28) rfl ?_
    show Steps p.tables e below (T3.setTop (mkF m 29 #[.val (.ref ia), .val (.int pq), .val (.int rr), .val (.int (mt_m rr)), .val (.int (b2i (if ((fb pq) &&& (255 : Int32)) = (F1 rr (mt_m rr) (0 : Int32)) then true else false)))] [(.int (mt_m rr))])) _
    refine XS.iconst X3.here hx rfl (hb hby d5_29) ?_
    exact k
  obtain ⟨T18, L18, X18, e18, N18, pre18⟩ : ∃ (T : State) (L : List Loc), Stand p l e ({ frames := 1, cells := 0, slots := 0, locals := 16 } : Room) s m #[(.ref ia), (.int pq), (.int rr)] below meth c T L 0 0 ∧ T.heap = h0 ∧ Fr n0 L ∧ ∀ t, Steps p.tables e below (T.setTop (mkF m 63 #[.val (.ref ia), .val (.int pq), .val (.int rr), .val (.int (mt_m rr)), .val (.int (b2i (mt_1 pq rr fb)))] [])) t → Steps p.tables e below (s₁.setTop (entryFrame m #[(.ref ia), (.int pq), (.int rr)] 5)) t := by
    by_cases hc8 : (1 : Int32) < (mt_m rr)
    ·
      have pre9 : ∀ t, Steps p.tables e below (T3.setTop (mkF m 35 #[.val (.ref ia), .val (.int pq), .val (.int rr), .val (.int (mt_m rr)), .val (.int (b2i (if ((fb pq) &&& (255 : Int32)) = (F1 rr (mt_m rr) (0 : Int32)) then true else false)))] [(.int (b2i (if ((fb pq) &&& (255 : Int32)) = (F1 rr (mt_m rr) (0 : Int32)) then true else false)))])) t → Steps p.tables e below (s₁.setTop (entryFrame m #[(.ref ia), (.int pq), (.int rr)] 5)) t := by
        intro t k
        refine pre7 t ?_
        show Steps p.tables e below (T3.setTop (mkF m 30 #[.val (.ref ia), .val (.int pq), .val (.int rr), .val (.int (mt_m rr)), .val (.int (b2i (if ((fb pq) &&& (255 : Int32)) = (F1 rr (mt_m rr) (0 : Int32)) then true else false)))] [(.int (1 : Int32)), (.int (mt_m rr))])) _
        refine XS.icmpNo X3.here hx rfl (hb hby d5_30) rfl (tlt hc8).2.2.2 ?_
        show Steps p.tables e below (T3.setTop (mkF m 33 #[.val (.ref ia), .val (.int pq), .val (.int rr), .val (.int (mt_m rr)), .val (.int (b2i (if ((fb pq) &&& (255 : Int32)) = (F1 rr (mt_m rr) (0 : Int32)) then true else false)))] [])) _
        refine XS.iload X3.here hx rfl (hb hby d5_33) rfl ?_
        exact k
      by_cases hc10 : (if ((fb pq) &&& (255 : Int32)) = (F1 rr (mt_m rr) (0 : Int32)) then true else false) = true
      ·
        obtain ⟨_, _, ⟨T11, L11, k11, n11⟩, -, X11, ⟨Lc11, hQ11, l11, y11, z11⟩, st11⟩ := Jvm.LawKit.callS X3 hx (y := (⟨"com/example/merkki/merkki/Utf8SequencePinLaw", "enc", "(III)I"⟩ : MethodName)) hown (mvT hZ (hw _ (List.mem_of_getElem? (i := 1) rfl))) (mvT hZ (hw _ (List.mem_of_getElem? (i := 2) rfl))) (mvT hZ (hw _ (List.mem_of_getElem? (i := 3) rfl))) (mvT hZ (hw _ (List.mem_of_getElem? (i := 4) rfl))) (by decide) (backOf (W := 1) (rm1 l Z a0 hw [] rr (mt_m rr) (1 : Int32) h0 n0 Z0) hZ (hw _ (List.mem_of_getElem? (i := 4) rfl)) (hw _ (List.mem_of_getElem? (i := 3) rfl)) (by decide) (by decide)) (g := (mkF m 50 #[.val (.ref ia), .val (.int pq), .val (.int rr), .val (.int (mt_m rr)), .val (.int (b2i (if ((fb pq) &&& (255 : Int32)) = (F1 rr (mt_m rr) (0 : Int32)) then true else false)))] [(.int (1 : Int32)), (.int (mt_m rr)), (.int rr), (.int ((fb (pq + (1 : Int32))) &&& (255 : Int32)))])) rfl (by rw [hml]; rfl) (argsL := [(.int rr), (.int (mt_m rr)), (.int (1 : Int32))]) (rest := [(.int ((fb (pq + (1 : Int32))) &&& (255 : Int32)))]) (lenOf pd_0 rfl) rfl (by show 2 * 0 + _ ≤ _; exact Nat.le_of_eq rfl) (hb hby d5_50) (fun _ _ => ⟨rfl, e3, (by decide : 0 + 0 ≤ _), (by decide : 0 + 0 ≤ _)⟩)
        dsimp only [Pt.U, Pt.locs, Pt.cells, Pt.slots] at X11 l11 y11 z11 st11 hQ11
        subst y11 z11
        obtain ⟨rfl, N11q, e11⟩ := hQ11
        have N11 : Fr n0 L11 := by rw [l11]; exact Fr.app N3 N11q
        have pre12 : ∀ t, Steps p.tables e below (T11.setTop (mkF m 53 #[.val (.ref ia), .val (.int pq), .val (.int rr), .val (.int (mt_m rr)), .val (.int (b2i (if ((fb pq) &&& (255 : Int32)) = (F1 rr (mt_m rr) (0 : Int32)) then true else false)))] [(.int (F1 rr (mt_m rr) (1 : Int32))), (.int ((fb (pq + (1 : Int32))) &&& (255 : Int32)))])) t → Steps p.tables e below (s₁.setTop (entryFrame m #[(.ref ia), (.int pq), (.int rr)] 5)) t := by
          intro t k
          refine pre9 t ?_
          show Steps p.tables e below (T3.setTop (mkF m 35 #[.val (.ref ia), .val (.int pq), .val (.int rr), .val (.int (mt_m rr)), .val (.int (b2i (if ((fb pq) &&& (255 : Int32)) = (F1 rr (mt_m rr) (0 : Int32)) then true else false)))] [(.int (b2i (if ((fb pq) &&& (255 : Int32)) = (F1 rr (mt_m rr) (0 : Int32)) then true else false)))])) _
          refine XS.ifNo X3.here hx rfl (hb hby d5_35) rfl ((if0 _ _).trans (feq (b2i_ne hc10)).1) ?_
          show Steps p.tables e below (T3.setTop (mkF m 38 #[.val (.ref ia), .val (.int pq), .val (.int rr), .val (.int (mt_m rr)), .val (.int (b2i (if ((fb pq) &&& (255 : Int32)) = (F1 rr (mt_m rr) (0 : Int32)) then true else false)))] [])) _
          refine XS.aloadN X3.here hx rfl (hb hby d5_38) rfl rfl ?_
          show Steps p.tables e below (T3.setTop (mkF m 39 #[.val (.ref ia), .val (.int pq), .val (.int rr), .val (.int (mt_m rr)), .val (.int (b2i (if ((fb pq) &&& (255 : Int32)) = (F1 rr (mt_m rr) (0 : Int32)) then true else false)))] [(.ref ia)])) _
          refine XS.iloadN X3.here hx rfl (hb hby d5_39) rfl ?_
          show Steps p.tables e below (T3.setTop (mkF m 40 #[.val (.ref ia), .val (.int pq), .val (.int rr), .val (.int (mt_m rr)), .val (.int (b2i (if ((fb pq) &&& (255 : Int32)) = (F1 rr (mt_m rr) (0 : Int32)) then true else false)))] [(.int pq), (.ref ia)])) _
          refine XS.iconst X3.here hx rfl (hb hby d5_40) ?_
          show Steps p.tables e below (T3.setTop (mkF m 41 #[.val (.ref ia), .val (.int pq), .val (.int rr), .val (.int (mt_m rr)), .val (.int (b2i (if ((fb pq) &&& (255 : Int32)) = (F1 rr (mt_m rr) (0 : Int32)) then true else false)))] [(.int (1 : Int32)), (.int pq), (.ref ia)])) _
          refine XS.iadd X3.here hx rfl (hb hby d5_41) rfl ?_
          show Steps p.tables e below (T3.setTop (mkF m 42 #[.val (.ref ia), .val (.int pq), .val (.int rr), .val (.int (mt_m rr)), .val (.int (b2i (if ((fb pq) &&& (255 : Int32)) = (F1 rr (mt_m rr) (0 : Int32)) then true else false)))] [(.int (pq + (1 : Int32))), (.ref ia)])) _
          refine rdB X3 hx hZ e3 k1_0 (j := (pq + (1 : Int32))) (own_ix1 hp0 hp1) rfl (g := (mkF m 42 #[.val (.ref ia), .val (.int pq), .val (.int rr), .val (.int (mt_m rr)), .val (.int (b2i (if ((fb pq) &&& (255 : Int32)) = (F1 rr (mt_m rr) (0 : Int32)) then true else false)))] [(.int (pq + (1 : Int32))), (.ref ia)])) rfl rfl (hb hby d5_42) _ ?_
          show Steps p.tables e below (T3.setTop (mkF m 43 #[.val (.ref ia), .val (.int pq), .val (.int rr), .val (.int (mt_m rr)), .val (.int (b2i (if ((fb pq) &&& (255 : Int32)) = (F1 rr (mt_m rr) (0 : Int32)) then true else false)))] [(.int (fb (pq + (1 : Int32))))])) _
          refine XS.sipush X3.here hx rfl (hb hby d5_43) ?_
          show Steps p.tables e below (T3.setTop (mkF m 46 #[.val (.ref ia), .val (.int pq), .val (.int rr), .val (.int (mt_m rr)), .val (.int (b2i (if ((fb pq) &&& (255 : Int32)) = (F1 rr (mt_m rr) (0 : Int32)) then true else false)))] [(.int (255 : Int32)), (.int (fb (pq + (1 : Int32))))])) _
          refine XS.iand X3.here hx rfl (hb hby d5_46) rfl ?_
          show Steps p.tables e below (T3.setTop (mkF m 47 #[.val (.ref ia), .val (.int pq), .val (.int rr), .val (.int (mt_m rr)), .val (.int (b2i (if ((fb pq) &&& (255 : Int32)) = (F1 rr (mt_m rr) (0 : Int32)) then true else false)))] [(.int ((fb (pq + (1 : Int32))) &&& (255 : Int32)))])) _
          refine XS.iloadN X3.here hx rfl (hb hby d5_47) rfl ?_
          show Steps p.tables e below (T3.setTop (mkF m 48 #[.val (.ref ia), .val (.int pq), .val (.int rr), .val (.int (mt_m rr)), .val (.int (b2i (if ((fb pq) &&& (255 : Int32)) = (F1 rr (mt_m rr) (0 : Int32)) then true else false)))] [(.int rr), (.int ((fb (pq + (1 : Int32))) &&& (255 : Int32)))])) _
          refine XS.iloadN X3.here hx rfl (hb hby d5_48) rfl ?_
          show Steps p.tables e below (T3.setTop (mkF m 49 #[.val (.ref ia), .val (.int pq), .val (.int rr), .val (.int (mt_m rr)), .val (.int (b2i (if ((fb pq) &&& (255 : Int32)) = (F1 rr (mt_m rr) (0 : Int32)) then true else false)))] [(.int (mt_m rr)), (.int rr), (.int ((fb (pq + (1 : Int32))) &&& (255 : Int32)))])) _
          refine XS.iconst X3.here hx rfl (hb hby d5_49) ?_
          show Steps p.tables e below (T3.setTop (mkF m 50 #[.val (.ref ia), .val (.int pq), .val (.int rr), .val (.int (mt_m rr)), .val (.int (b2i (if ((fb pq) &&& (255 : Int32)) = (F1 rr (mt_m rr) (0 : Int32)) then true else false)))] [(.int (1 : Int32)), (.int (mt_m rr)), (.int rr), (.int ((fb (pq + (1 : Int32))) &&& (255 : Int32)))])) _
          refine st11 _ ?_
          exact k
        have pre13 : ∀ t, Steps p.tables e below (T11.setTop (mkF m 61 #[.val (.ref ia), .val (.int pq), .val (.int rr), .val (.int (mt_m rr)), .val (.int (b2i (if ((fb pq) &&& (255 : Int32)) = (F1 rr (mt_m rr) (0 : Int32)) then true else false)))] [(.int (b2i (if ((fb (pq + (1 : Int32))) &&& (255 : Int32)) = (F1 rr (mt_m rr) (1 : Int32)) then true else false)))])) t → Steps p.tables e below (s₁.setTop (entryFrame m #[(.ref ia), (.int pq), (.int rr)] 5)) t := by
          intro t k
          refine pre12 t ?_
          have k : ∀ (v1 : Bool), v1 = (if ((fb (pq + (1 : Int32))) &&& (255 : Int32)) = (F1 rr (mt_m rr) (1 : Int32)) then true else false) → Steps p.tables e below (T11.setTop (mkF m 61 #[.val (.ref ia), .val (.int pq), .val (.int rr), .val (.int (mt_m rr)), .val (.int (b2i (if ((fb pq) &&& (255 : Int32)) = (F1 rr (mt_m rr) (0 : Int32)) then true else false)))] [(.int (b2i v1))])) t := fun v1 hv1 => by subst hv1; exact k
          show Steps p.tables e below (T11.setTop (mkF m 53 #[.val (.ref ia), .val (.int pq), .val (.int rr), .val (.int (mt_m rr)), .val (.int (b2i (if ((fb pq) &&& (255 : Int32)) = (F1 rr (mt_m rr) (0 : Int32)) then true else false)))] [(.int (F1 rr (mt_m rr) (1 : Int32))), (.int ((fb (pq + (1 : Int32))) &&& (255 : Int32)))])) _
          by_cases hc14 : ((fb (pq + (1 : Int32))) &&& (255 : Int32)) = (F1 rr (mt_m rr) (1 : Int32))
          · refine XS.icmpNo X11.here hx rfl (hb hby d5_53) rfl (teq hc14).2 ?_
            have k : ∀ (v1 : Bool), v1 = true → Steps p.tables e below (T11.setTop (mkF m 61 #[.val (.ref ia), .val (.int pq), .val (.int rr), .val (.int (mt_m rr)), .val (.int (b2i (if ((fb pq) &&& (255 : Int32)) = (F1 rr (mt_m rr) (0 : Int32)) then true else false)))] [(.int (b2i v1))])) t := fun v1 hv1 => k v1 (hv1.trans (if_pos hc14).symm)
            show Steps p.tables e below (T11.setTop (mkF m 56 #[.val (.ref ia), .val (.int pq), .val (.int rr), .val (.int (mt_m rr)), .val (.int (b2i (if ((fb pq) &&& (255 : Int32)) = (F1 rr (mt_m rr) (0 : Int32)) then true else false)))] [])) _
            refine XS.iconst X11.here hx rfl (hb hby d5_56) ?_
            show Steps p.tables e below (T11.setTop (mkF m 57 #[.val (.ref ia), .val (.int pq), .val (.int rr), .val (.int (mt_m rr)), .val (.int (b2i (if ((fb pq) &&& (255 : Int32)) = (F1 rr (mt_m rr) (0 : Int32)) then true else false)))] [(.int (1 : Int32))])) _
            refine XS.goto X11.here hx rfl (pc0 := 57) (pc' := 61) rfl (hb hby d5_57) (by decide) (by decide) ?_
            exact k true rfl
          · refine XS.icmpYes X11.here hx rfl (pc0 := 53) (pc' := 60) rfl (hb hby d5_53) rfl (feq hc14).2 (by decide) (by decide) ?_
            have k : ∀ (v1 : Bool), v1 = false → Steps p.tables e below (T11.setTop (mkF m 61 #[.val (.ref ia), .val (.int pq), .val (.int rr), .val (.int (mt_m rr)), .val (.int (b2i (if ((fb pq) &&& (255 : Int32)) = (F1 rr (mt_m rr) (0 : Int32)) then true else false)))] [(.int (b2i v1))])) t := fun v1 hv1 => k v1 (hv1.trans (if_neg hc14).symm)
            show Steps p.tables e below (T11.setTop (mkF m 60 #[.val (.ref ia), .val (.int pq), .val (.int rr), .val (.int (mt_m rr)), .val (.int (b2i (if ((fb pq) &&& (255 : Int32)) = (F1 rr (mt_m rr) (0 : Int32)) then true else false)))] [])) _
            refine XS.iconst X11.here hx rfl (hb hby d5_60) ?_
            exact k false rfl
        have pre15 : ∀ t, Steps p.tables e below (T11.setTop (mkF m 63 #[.val (.ref ia), .val (.int pq), .val (.int rr), .val (.int (mt_m rr)), .val (.int (b2i (if ((fb (pq + (1 : Int32))) &&& (255 : Int32)) = (F1 rr (mt_m rr) (1 : Int32)) then true else false)))] [])) t → Steps p.tables e below (s₁.setTop (entryFrame m #[(.ref ia), (.int pq), (.int rr)] 5)) t := by
          intro t k
          refine pre13 t ?_
          show Steps p.tables e below (T11.setTop (mkF m 61 #[.val (.ref ia), .val (.int pq), .val (.int rr), .val (.int (mt_m rr)), .val (.int (b2i (if ((fb pq) &&& (255 : Int32)) = (F1 rr (mt_m rr) (0 : Int32)) then true else false)))] [(.int (b2i (if ((fb (pq + (1 : Int32))) &&& (255 : Int32)) = (F1 rr (mt_m rr) (1 : Int32)) then true else false)))])) _
          refine XS.istore X11.here hx rfl (hb hby d5_61) rfl (l' := #[.val (.ref ia), .val (.int pq), .val (.int rr), .val (.int (mt_m rr)), .val (.int (b2i (if ((fb (pq + (1 : Int32))) &&& (255 : Int32)) = (F1 rr (mt_m rr) (1 : Int32)) then true else false)))]) rfl ?_
          exact k
        refine ⟨T11, _, X11, e11, N11, fun t k => ?_⟩
        rw [(show (mt_1 pq rr fb) = (if ((fb (pq + (1 : Int32))) &&& (255 : Int32)) = (F1 rr (mt_m rr) (1 : Int32)) then true else false) from ((if_pos hc8).trans ((if_pos hc10).trans rfl)))] at k
        exact pre15 t k
      ·
        have pre16 : ∀ t, Steps p.tables e below (T3.setTop (mkF m 63 #[.val (.ref ia), .val (.int pq), .val (.int rr), .val (.int (mt_m rr)), .val (.int (0 : Int32))] [])) t → Steps p.tables e below (s₁.setTop (entryFrame m #[(.ref ia), (.int pq), (.int rr)] 5)) t := by
          intro t k
          refine pre9 t ?_
          show Steps p.tables e below (T3.setTop (mkF m 35 #[.val (.ref ia), .val (.int pq), .val (.int rr), .val (.int (mt_m rr)), .val (.int (b2i (if ((fb pq) &&& (255 : Int32)) = (F1 rr (mt_m rr) (0 : Int32)) then true else false)))] [(.int (b2i (if ((fb pq) &&& (255 : Int32)) = (F1 rr (mt_m rr) (0 : Int32)) then true else false)))])) _
          refine XS.ifYes X3.here hx rfl (pc0 := 35) (pc' := 60) rfl (hb hby d5_35) rfl ((if0 _ _).trans (teq (b2i_eq hc10)).1) (by decide) (by decide) ?_
          show Steps p.tables e below (T3.setTop (mkF m 60 #[.val (.ref ia), .val (.int pq), .val (.int rr), .val (.int (mt_m rr)), .val (.int (b2i (if ((fb pq) &&& (255 : Int32)) = (F1 rr (mt_m rr) (0 : Int32)) then true else false)))] [])) _
          refine XS.iconst X3.here hx rfl (hb hby d5_60) ?_
          show Steps p.tables e below (T3.setTop (mkF m 61 #[.val (.ref ia), .val (.int pq), .val (.int rr), .val (.int (mt_m rr)), .val (.int (b2i (if ((fb pq) &&& (255 : Int32)) = (F1 rr (mt_m rr) (0 : Int32)) then true else false)))] [(.int (0 : Int32))])) _
          refine XS.istore X3.here hx rfl (hb hby d5_61) rfl (l' := #[.val (.ref ia), .val (.int pq), .val (.int rr), .val (.int (mt_m rr)), .val (.int (0 : Int32))]) rfl ?_
          exact k
        refine ⟨T3, _, X3, e3, N3, fun t k => ?_⟩
        rw [(show (mt_1 pq rr fb) = false from ((if_pos hc8).trans ((if_neg hc10).trans rfl)))] at k
        exact pre16 t k
    ·
      have pre17 : ∀ t, Steps p.tables e below (T3.setTop (mkF m 63 #[.val (.ref ia), .val (.int pq), .val (.int rr), .val (.int (mt_m rr)), .val (.int (b2i (if ((fb pq) &&& (255 : Int32)) = (F1 rr (mt_m rr) (0 : Int32)) then true else false)))] [])) t → Steps p.tables e below (s₁.setTop (entryFrame m #[(.ref ia), (.int pq), (.int rr)] 5)) t := by
        intro t k
        refine pre7 t ?_
        show Steps p.tables e below (T3.setTop (mkF m 30 #[.val (.ref ia), .val (.int pq), .val (.int rr), .val (.int (mt_m rr)), .val (.int (b2i (if ((fb pq) &&& (255 : Int32)) = (F1 rr (mt_m rr) (0 : Int32)) then true else false)))] [(.int (1 : Int32)), (.int (mt_m rr))])) _
        refine XS.icmpYes X3.here hx rfl (pc0 := 30) (pc' := 63) rfl (hb hby d5_30) rfl (flt hc8).2.2.2 (by decide) (by decide) ?_
        exact k
      refine ⟨T3, _, X3, e3, N3, fun t k => ?_⟩
      rw [(show (mt_1 pq rr fb) = (if ((fb pq) &&& (255 : Int32)) = (F1 rr (mt_m rr) (0 : Int32)) then true else false) from ((if_neg hc8).trans rfl))] at k
      exact pre17 t k
  have pre19 : ∀ t, Steps p.tables e below (T18.setTop (mkF m 65 #[.val (.ref ia), .val (.int pq), .val (.int rr), .val (.int (mt_m rr)), .val (.int (b2i (mt_1 pq rr fb)))] [(.int (2 : Int32)), (.int (mt_m rr))])) t → Steps p.tables e below (s₁.setTop (entryFrame m #[(.ref ia), (.int pq), (.int rr)] 5)) t := by
    intro t k
    refine pre18 t ?_
    show Steps p.tables e below (T18.setTop (mkF m 63 #[.val (.ref ia), .val (.int pq), .val (.int rr), .val (.int (mt_m rr)), .val (.int (b2i (mt_1 pq rr fb)))] [])) _
    refine XS.iloadN X18.here hx rfl (hb hby d5_63) rfl ?_
    show Steps p.tables e below (T18.setTop (mkF m 64 #[.val (.ref ia), .val (.int pq), .val (.int rr), .val (.int (mt_m rr)), .val (.int (b2i (mt_1 pq rr fb)))] [(.int (mt_m rr))])) _
    refine XS.iconst X18.here hx rfl (hb hby d5_64) ?_
    exact k
  obtain ⟨T30, L30, X30, e30, N30, pre30⟩ : ∃ (T : State) (L : List Loc), Stand p l e ({ frames := 1, cells := 0, slots := 0, locals := 16 } : Room) s m #[(.ref ia), (.int pq), (.int rr)] below meth c T L 0 0 ∧ T.heap = h0 ∧ Fr n0 L ∧ ∀ t, Steps p.tables e below (T.setTop (mkF m 98 #[.val (.ref ia), .val (.int pq), .val (.int rr), .val (.int (mt_m rr)), .val (.int (b2i (mt_2 pq rr fb)))] [])) t → Steps p.tables e below (s₁.setTop (entryFrame m #[(.ref ia), (.int pq), (.int rr)] 5)) t := by
    by_cases hc20 : (2 : Int32) < (mt_m rr)
    ·
      have pre21 : ∀ t, Steps p.tables e below (T18.setTop (mkF m 70 #[.val (.ref ia), .val (.int pq), .val (.int rr), .val (.int (mt_m rr)), .val (.int (b2i (mt_1 pq rr fb)))] [(.int (b2i (mt_1 pq rr fb)))])) t → Steps p.tables e below (s₁.setTop (entryFrame m #[(.ref ia), (.int pq), (.int rr)] 5)) t := by
        intro t k
        refine pre19 t ?_
        show Steps p.tables e below (T18.setTop (mkF m 65 #[.val (.ref ia), .val (.int pq), .val (.int rr), .val (.int (mt_m rr)), .val (.int (b2i (mt_1 pq rr fb)))] [(.int (2 : Int32)), (.int (mt_m rr))])) _
        refine XS.icmpNo X18.here hx rfl (hb hby d5_65) rfl (tlt hc20).2.2.2 ?_
        show Steps p.tables e below (T18.setTop (mkF m 68 #[.val (.ref ia), .val (.int pq), .val (.int rr), .val (.int (mt_m rr)), .val (.int (b2i (mt_1 pq rr fb)))] [])) _
        refine XS.iload X18.here hx rfl (hb hby d5_68) rfl ?_
        exact k
      by_cases hc22 : (mt_1 pq rr fb) = true
      ·
        obtain ⟨_, _, ⟨T23, L23, k23, n23⟩, -, X23, ⟨Lc23, hQ23, l23, y23, z23⟩, st23⟩ := Jvm.LawKit.callS X18 hx (y := (⟨"com/example/merkki/merkki/Utf8SequencePinLaw", "enc", "(III)I"⟩ : MethodName)) hown (mvT hZ (hw _ (List.mem_of_getElem? (i := 1) rfl))) (mvT hZ (hw _ (List.mem_of_getElem? (i := 2) rfl))) (mvT hZ (hw _ (List.mem_of_getElem? (i := 3) rfl))) (mvT hZ (hw _ (List.mem_of_getElem? (i := 4) rfl))) (by decide) (backOf (W := 1) (rm1 l Z a0 hw [] rr (mt_m rr) (2 : Int32) h0 n0 Z0) hZ (hw _ (List.mem_of_getElem? (i := 4) rfl)) (hw _ (List.mem_of_getElem? (i := 3) rfl)) (by decide) (by decide)) (g := (mkF m 85 #[.val (.ref ia), .val (.int pq), .val (.int rr), .val (.int (mt_m rr)), .val (.int (b2i (mt_1 pq rr fb)))] [(.int (2 : Int32)), (.int (mt_m rr)), (.int rr), (.int ((fb (pq + (2 : Int32))) &&& (255 : Int32)))])) rfl (by rw [hml]; rfl) (argsL := [(.int rr), (.int (mt_m rr)), (.int (2 : Int32))]) (rest := [(.int ((fb (pq + (2 : Int32))) &&& (255 : Int32)))]) (lenOf pd_0 rfl) rfl (by show 2 * 0 + _ ≤ _; exact Nat.le_of_eq rfl) (hb hby d5_85) (fun _ _ => ⟨rfl, e18, (by decide : 0 + 0 ≤ _), (by decide : 0 + 0 ≤ _)⟩)
        dsimp only [Pt.U, Pt.locs, Pt.cells, Pt.slots] at X23 l23 y23 z23 st23 hQ23
        subst y23 z23
        obtain ⟨rfl, N23q, e23⟩ := hQ23
        have N23 : Fr n0 L23 := by rw [l23]; exact Fr.app N18 N23q
        have pre24 : ∀ t, Steps p.tables e below (T23.setTop (mkF m 88 #[.val (.ref ia), .val (.int pq), .val (.int rr), .val (.int (mt_m rr)), .val (.int (b2i (mt_1 pq rr fb)))] [(.int (F1 rr (mt_m rr) (2 : Int32))), (.int ((fb (pq + (2 : Int32))) &&& (255 : Int32)))])) t → Steps p.tables e below (s₁.setTop (entryFrame m #[(.ref ia), (.int pq), (.int rr)] 5)) t := by
          intro t k
          refine pre21 t ?_
          show Steps p.tables e below (T18.setTop (mkF m 70 #[.val (.ref ia), .val (.int pq), .val (.int rr), .val (.int (mt_m rr)), .val (.int (b2i (mt_1 pq rr fb)))] [(.int (b2i (mt_1 pq rr fb)))])) _
          refine XS.ifNo X18.here hx rfl (hb hby d5_70) rfl ((if0 _ _).trans (feq (b2i_ne hc22)).1) ?_
          show Steps p.tables e below (T18.setTop (mkF m 73 #[.val (.ref ia), .val (.int pq), .val (.int rr), .val (.int (mt_m rr)), .val (.int (b2i (mt_1 pq rr fb)))] [])) _
          refine XS.aloadN X18.here hx rfl (hb hby d5_73) rfl rfl ?_
          show Steps p.tables e below (T18.setTop (mkF m 74 #[.val (.ref ia), .val (.int pq), .val (.int rr), .val (.int (mt_m rr)), .val (.int (b2i (mt_1 pq rr fb)))] [(.ref ia)])) _
          refine XS.iloadN X18.here hx rfl (hb hby d5_74) rfl ?_
          show Steps p.tables e below (T18.setTop (mkF m 75 #[.val (.ref ia), .val (.int pq), .val (.int rr), .val (.int (mt_m rr)), .val (.int (b2i (mt_1 pq rr fb)))] [(.int pq), (.ref ia)])) _
          refine XS.iconst X18.here hx rfl (hb hby d5_75) ?_
          show Steps p.tables e below (T18.setTop (mkF m 76 #[.val (.ref ia), .val (.int pq), .val (.int rr), .val (.int (mt_m rr)), .val (.int (b2i (mt_1 pq rr fb)))] [(.int (2 : Int32)), (.int pq), (.ref ia)])) _
          refine XS.iadd X18.here hx rfl (hb hby d5_76) rfl ?_
          show Steps p.tables e below (T18.setTop (mkF m 77 #[.val (.ref ia), .val (.int pq), .val (.int rr), .val (.int (mt_m rr)), .val (.int (b2i (mt_1 pq rr fb)))] [(.int (pq + (2 : Int32))), (.ref ia)])) _
          refine rdB X18 hx hZ e18 k1_0 (j := (pq + (2 : Int32))) (own_ix2 hp0 hp1) rfl (g := (mkF m 77 #[.val (.ref ia), .val (.int pq), .val (.int rr), .val (.int (mt_m rr)), .val (.int (b2i (mt_1 pq rr fb)))] [(.int (pq + (2 : Int32))), (.ref ia)])) rfl rfl (hb hby d5_77) _ ?_
          show Steps p.tables e below (T18.setTop (mkF m 78 #[.val (.ref ia), .val (.int pq), .val (.int rr), .val (.int (mt_m rr)), .val (.int (b2i (mt_1 pq rr fb)))] [(.int (fb (pq + (2 : Int32))))])) _
          refine XS.sipush X18.here hx rfl (hb hby d5_78) ?_
          show Steps p.tables e below (T18.setTop (mkF m 81 #[.val (.ref ia), .val (.int pq), .val (.int rr), .val (.int (mt_m rr)), .val (.int (b2i (mt_1 pq rr fb)))] [(.int (255 : Int32)), (.int (fb (pq + (2 : Int32))))])) _
          refine XS.iand X18.here hx rfl (hb hby d5_81) rfl ?_
          show Steps p.tables e below (T18.setTop (mkF m 82 #[.val (.ref ia), .val (.int pq), .val (.int rr), .val (.int (mt_m rr)), .val (.int (b2i (mt_1 pq rr fb)))] [(.int ((fb (pq + (2 : Int32))) &&& (255 : Int32)))])) _
          refine XS.iloadN X18.here hx rfl (hb hby d5_82) rfl ?_
          show Steps p.tables e below (T18.setTop (mkF m 83 #[.val (.ref ia), .val (.int pq), .val (.int rr), .val (.int (mt_m rr)), .val (.int (b2i (mt_1 pq rr fb)))] [(.int rr), (.int ((fb (pq + (2 : Int32))) &&& (255 : Int32)))])) _
          refine XS.iloadN X18.here hx rfl (hb hby d5_83) rfl ?_
          show Steps p.tables e below (T18.setTop (mkF m 84 #[.val (.ref ia), .val (.int pq), .val (.int rr), .val (.int (mt_m rr)), .val (.int (b2i (mt_1 pq rr fb)))] [(.int (mt_m rr)), (.int rr), (.int ((fb (pq + (2 : Int32))) &&& (255 : Int32)))])) _
          refine XS.iconst X18.here hx rfl (hb hby d5_84) ?_
          show Steps p.tables e below (T18.setTop (mkF m 85 #[.val (.ref ia), .val (.int pq), .val (.int rr), .val (.int (mt_m rr)), .val (.int (b2i (mt_1 pq rr fb)))] [(.int (2 : Int32)), (.int (mt_m rr)), (.int rr), (.int ((fb (pq + (2 : Int32))) &&& (255 : Int32)))])) _
          refine st23 _ ?_
          exact k
        have pre25 : ∀ t, Steps p.tables e below (T23.setTop (mkF m 96 #[.val (.ref ia), .val (.int pq), .val (.int rr), .val (.int (mt_m rr)), .val (.int (b2i (mt_1 pq rr fb)))] [(.int (b2i (if ((fb (pq + (2 : Int32))) &&& (255 : Int32)) = (F1 rr (mt_m rr) (2 : Int32)) then true else false)))])) t → Steps p.tables e below (s₁.setTop (entryFrame m #[(.ref ia), (.int pq), (.int rr)] 5)) t := by
          intro t k
          refine pre24 t ?_
          have k : ∀ (v1 : Bool), v1 = (if ((fb (pq + (2 : Int32))) &&& (255 : Int32)) = (F1 rr (mt_m rr) (2 : Int32)) then true else false) → Steps p.tables e below (T23.setTop (mkF m 96 #[.val (.ref ia), .val (.int pq), .val (.int rr), .val (.int (mt_m rr)), .val (.int (b2i (mt_1 pq rr fb)))] [(.int (b2i v1))])) t := fun v1 hv1 => by subst hv1; exact k
          show Steps p.tables e below (T23.setTop (mkF m 88 #[.val (.ref ia), .val (.int pq), .val (.int rr), .val (.int (mt_m rr)), .val (.int (b2i (mt_1 pq rr fb)))] [(.int (F1 rr (mt_m rr) (2 : Int32))), (.int ((fb (pq + (2 : Int32))) &&& (255 : Int32)))])) _
          by_cases hc26 : ((fb (pq + (2 : Int32))) &&& (255 : Int32)) = (F1 rr (mt_m rr) (2 : Int32))
          · refine XS.icmpNo X23.here hx rfl (hb hby d5_88) rfl (teq hc26).2 ?_
            have k : ∀ (v1 : Bool), v1 = true → Steps p.tables e below (T23.setTop (mkF m 96 #[.val (.ref ia), .val (.int pq), .val (.int rr), .val (.int (mt_m rr)), .val (.int (b2i (mt_1 pq rr fb)))] [(.int (b2i v1))])) t := fun v1 hv1 => k v1 (hv1.trans (if_pos hc26).symm)
            show Steps p.tables e below (T23.setTop (mkF m 91 #[.val (.ref ia), .val (.int pq), .val (.int rr), .val (.int (mt_m rr)), .val (.int (b2i (mt_1 pq rr fb)))] [])) _
            refine XS.iconst X23.here hx rfl (hb hby d5_91) ?_
            show Steps p.tables e below (T23.setTop (mkF m 92 #[.val (.ref ia), .val (.int pq), .val (.int rr), .val (.int (mt_m rr)), .val (.int (b2i (mt_1 pq rr fb)))] [(.int (1 : Int32))])) _
            refine XS.goto X23.here hx rfl (pc0 := 92) (pc' := 96) rfl (hb hby d5_92) (by decide) (by decide) ?_
            exact k true rfl
          · refine XS.icmpYes X23.here hx rfl (pc0 := 88) (pc' := 95) rfl (hb hby d5_88) rfl (feq hc26).2 (by decide) (by decide) ?_
            have k : ∀ (v1 : Bool), v1 = false → Steps p.tables e below (T23.setTop (mkF m 96 #[.val (.ref ia), .val (.int pq), .val (.int rr), .val (.int (mt_m rr)), .val (.int (b2i (mt_1 pq rr fb)))] [(.int (b2i v1))])) t := fun v1 hv1 => k v1 (hv1.trans (if_neg hc26).symm)
            show Steps p.tables e below (T23.setTop (mkF m 95 #[.val (.ref ia), .val (.int pq), .val (.int rr), .val (.int (mt_m rr)), .val (.int (b2i (mt_1 pq rr fb)))] [])) _
            refine XS.iconst X23.here hx rfl (hb hby d5_95) ?_
            exact k false rfl
        have pre27 : ∀ t, Steps p.tables e below (T23.setTop (mkF m 98 #[.val (.ref ia), .val (.int pq), .val (.int rr), .val (.int (mt_m rr)), .val (.int (b2i (if ((fb (pq + (2 : Int32))) &&& (255 : Int32)) = (F1 rr (mt_m rr) (2 : Int32)) then true else false)))] [])) t → Steps p.tables e below (s₁.setTop (entryFrame m #[(.ref ia), (.int pq), (.int rr)] 5)) t := by
          intro t k
          refine pre25 t ?_
          show Steps p.tables e below (T23.setTop (mkF m 96 #[.val (.ref ia), .val (.int pq), .val (.int rr), .val (.int (mt_m rr)), .val (.int (b2i (mt_1 pq rr fb)))] [(.int (b2i (if ((fb (pq + (2 : Int32))) &&& (255 : Int32)) = (F1 rr (mt_m rr) (2 : Int32)) then true else false)))])) _
          refine XS.istore X23.here hx rfl (hb hby d5_96) rfl (l' := #[.val (.ref ia), .val (.int pq), .val (.int rr), .val (.int (mt_m rr)), .val (.int (b2i (if ((fb (pq + (2 : Int32))) &&& (255 : Int32)) = (F1 rr (mt_m rr) (2 : Int32)) then true else false)))]) rfl ?_
          exact k
        refine ⟨T23, _, X23, e23, N23, fun t k => ?_⟩
        rw [(show (mt_2 pq rr fb) = (if ((fb (pq + (2 : Int32))) &&& (255 : Int32)) = (F1 rr (mt_m rr) (2 : Int32)) then true else false) from ((if_pos hc20).trans ((if_pos hc22).trans rfl)))] at k
        exact pre27 t k
      ·
        have pre28 : ∀ t, Steps p.tables e below (T18.setTop (mkF m 98 #[.val (.ref ia), .val (.int pq), .val (.int rr), .val (.int (mt_m rr)), .val (.int (0 : Int32))] [])) t → Steps p.tables e below (s₁.setTop (entryFrame m #[(.ref ia), (.int pq), (.int rr)] 5)) t := by
          intro t k
          refine pre21 t ?_
          show Steps p.tables e below (T18.setTop (mkF m 70 #[.val (.ref ia), .val (.int pq), .val (.int rr), .val (.int (mt_m rr)), .val (.int (b2i (mt_1 pq rr fb)))] [(.int (b2i (mt_1 pq rr fb)))])) _
          refine XS.ifYes X18.here hx rfl (pc0 := 70) (pc' := 95) rfl (hb hby d5_70) rfl ((if0 _ _).trans (teq (b2i_eq hc22)).1) (by decide) (by decide) ?_
          show Steps p.tables e below (T18.setTop (mkF m 95 #[.val (.ref ia), .val (.int pq), .val (.int rr), .val (.int (mt_m rr)), .val (.int (b2i (mt_1 pq rr fb)))] [])) _
          refine XS.iconst X18.here hx rfl (hb hby d5_95) ?_
          show Steps p.tables e below (T18.setTop (mkF m 96 #[.val (.ref ia), .val (.int pq), .val (.int rr), .val (.int (mt_m rr)), .val (.int (b2i (mt_1 pq rr fb)))] [(.int (0 : Int32))])) _
          refine XS.istore X18.here hx rfl (hb hby d5_96) rfl (l' := #[.val (.ref ia), .val (.int pq), .val (.int rr), .val (.int (mt_m rr)), .val (.int (0 : Int32))]) rfl ?_
          exact k
        refine ⟨T18, _, X18, e18, N18, fun t k => ?_⟩
        rw [(show (mt_2 pq rr fb) = false from ((if_pos hc20).trans ((if_neg hc22).trans rfl)))] at k
        exact pre28 t k
    ·
      have pre29 : ∀ t, Steps p.tables e below (T18.setTop (mkF m 98 #[.val (.ref ia), .val (.int pq), .val (.int rr), .val (.int (mt_m rr)), .val (.int (b2i (mt_1 pq rr fb)))] [])) t → Steps p.tables e below (s₁.setTop (entryFrame m #[(.ref ia), (.int pq), (.int rr)] 5)) t := by
        intro t k
        refine pre19 t ?_
        show Steps p.tables e below (T18.setTop (mkF m 65 #[.val (.ref ia), .val (.int pq), .val (.int rr), .val (.int (mt_m rr)), .val (.int (b2i (mt_1 pq rr fb)))] [(.int (2 : Int32)), (.int (mt_m rr))])) _
        refine XS.icmpYes X18.here hx rfl (pc0 := 65) (pc' := 98) rfl (hb hby d5_65) rfl (flt hc20).2.2.2 (by decide) (by decide) ?_
        exact k
      refine ⟨T18, _, X18, e18, N18, fun t k => ?_⟩
      rw [(show (mt_2 pq rr fb) = (mt_1 pq rr fb) from ((if_neg hc20).trans rfl))] at k
      exact pre29 t k
  have pre31 : ∀ t, Steps p.tables e below (T30.setTop (mkF m 100 #[.val (.ref ia), .val (.int pq), .val (.int rr), .val (.int (mt_m rr)), .val (.int (b2i (mt_2 pq rr fb)))] [(.int (3 : Int32)), (.int (mt_m rr))])) t → Steps p.tables e below (s₁.setTop (entryFrame m #[(.ref ia), (.int pq), (.int rr)] 5)) t := by
    intro t k
    refine pre30 t ?_
    show Steps p.tables e below (T30.setTop (mkF m 98 #[.val (.ref ia), .val (.int pq), .val (.int rr), .val (.int (mt_m rr)), .val (.int (b2i (mt_2 pq rr fb)))] [])) _
    refine XS.iloadN X30.here hx rfl (hb hby d5_98) rfl ?_
    show Steps p.tables e below (T30.setTop (mkF m 99 #[.val (.ref ia), .val (.int pq), .val (.int rr), .val (.int (mt_m rr)), .val (.int (b2i (mt_2 pq rr fb)))] [(.int (mt_m rr))])) _
    refine XS.iconst X30.here hx rfl (hb hby d5_99) ?_
    exact k
  obtain ⟨T42, L42, X42, e42, N42, pre42⟩ : ∃ (T : State) (L : List Loc), Stand p l e ({ frames := 1, cells := 0, slots := 0, locals := 16 } : Room) s m #[(.ref ia), (.int pq), (.int rr)] below meth c T L 0 0 ∧ T.heap = h0 ∧ Fr n0 L ∧ ∀ t, Steps p.tables e below (T.setTop (mkF m 133 #[.val (.ref ia), .val (.int pq), .val (.int rr), .val (.int (mt_m rr)), .val (.int (b2i (mt_3 pq rr fb)))] [])) t → Steps p.tables e below (s₁.setTop (entryFrame m #[(.ref ia), (.int pq), (.int rr)] 5)) t := by
    by_cases hc32 : (3 : Int32) < (mt_m rr)
    ·
      have pre33 : ∀ t, Steps p.tables e below (T30.setTop (mkF m 105 #[.val (.ref ia), .val (.int pq), .val (.int rr), .val (.int (mt_m rr)), .val (.int (b2i (mt_2 pq rr fb)))] [(.int (b2i (mt_2 pq rr fb)))])) t → Steps p.tables e below (s₁.setTop (entryFrame m #[(.ref ia), (.int pq), (.int rr)] 5)) t := by
        intro t k
        refine pre31 t ?_
        show Steps p.tables e below (T30.setTop (mkF m 100 #[.val (.ref ia), .val (.int pq), .val (.int rr), .val (.int (mt_m rr)), .val (.int (b2i (mt_2 pq rr fb)))] [(.int (3 : Int32)), (.int (mt_m rr))])) _
        refine XS.icmpNo X30.here hx rfl (hb hby d5_100) rfl (tlt hc32).2.2.2 ?_
        show Steps p.tables e below (T30.setTop (mkF m 103 #[.val (.ref ia), .val (.int pq), .val (.int rr), .val (.int (mt_m rr)), .val (.int (b2i (mt_2 pq rr fb)))] [])) _
        refine XS.iload X30.here hx rfl (hb hby d5_103) rfl ?_
        exact k
      by_cases hc34 : (mt_2 pq rr fb) = true
      ·
        obtain ⟨_, _, ⟨T35, L35, k35, n35⟩, -, X35, ⟨Lc35, hQ35, l35, y35, z35⟩, st35⟩ := Jvm.LawKit.callS X30 hx (y := (⟨"com/example/merkki/merkki/Utf8SequencePinLaw", "enc", "(III)I"⟩ : MethodName)) hown (mvT hZ (hw _ (List.mem_of_getElem? (i := 1) rfl))) (mvT hZ (hw _ (List.mem_of_getElem? (i := 2) rfl))) (mvT hZ (hw _ (List.mem_of_getElem? (i := 3) rfl))) (mvT hZ (hw _ (List.mem_of_getElem? (i := 4) rfl))) (by decide) (backOf (W := 1) (rm1 l Z a0 hw [] rr (mt_m rr) (3 : Int32) h0 n0 Z0) hZ (hw _ (List.mem_of_getElem? (i := 4) rfl)) (hw _ (List.mem_of_getElem? (i := 3) rfl)) (by decide) (by decide)) (g := (mkF m 120 #[.val (.ref ia), .val (.int pq), .val (.int rr), .val (.int (mt_m rr)), .val (.int (b2i (mt_2 pq rr fb)))] [(.int (3 : Int32)), (.int (mt_m rr)), (.int rr), (.int ((fb (pq + (3 : Int32))) &&& (255 : Int32)))])) rfl (by rw [hml]; rfl) (argsL := [(.int rr), (.int (mt_m rr)), (.int (3 : Int32))]) (rest := [(.int ((fb (pq + (3 : Int32))) &&& (255 : Int32)))]) (lenOf pd_0 rfl) rfl (by show 2 * 0 + _ ≤ _; exact Nat.le_of_eq rfl) (hb hby d5_120) (fun _ _ => ⟨rfl, e30, (by decide : 0 + 0 ≤ _), (by decide : 0 + 0 ≤ _)⟩)
        dsimp only [Pt.U, Pt.locs, Pt.cells, Pt.slots] at X35 l35 y35 z35 st35 hQ35
        subst y35 z35
        obtain ⟨rfl, N35q, e35⟩ := hQ35
        have N35 : Fr n0 L35 := by rw [l35]; exact Fr.app N30 N35q
        have pre36 : ∀ t, Steps p.tables e below (T35.setTop (mkF m 123 #[.val (.ref ia), .val (.int pq), .val (.int rr), .val (.int (mt_m rr)), .val (.int (b2i (mt_2 pq rr fb)))] [(.int (F1 rr (mt_m rr) (3 : Int32))), (.int ((fb (pq + (3 : Int32))) &&& (255 : Int32)))])) t → Steps p.tables e below (s₁.setTop (entryFrame m #[(.ref ia), (.int pq), (.int rr)] 5)) t := by
          intro t k
          refine pre33 t ?_
          show Steps p.tables e below (T30.setTop (mkF m 105 #[.val (.ref ia), .val (.int pq), .val (.int rr), .val (.int (mt_m rr)), .val (.int (b2i (mt_2 pq rr fb)))] [(.int (b2i (mt_2 pq rr fb)))])) _
          refine XS.ifNo X30.here hx rfl (hb hby d5_105) rfl ((if0 _ _).trans (feq (b2i_ne hc34)).1) ?_
          show Steps p.tables e below (T30.setTop (mkF m 108 #[.val (.ref ia), .val (.int pq), .val (.int rr), .val (.int (mt_m rr)), .val (.int (b2i (mt_2 pq rr fb)))] [])) _
          refine XS.aloadN X30.here hx rfl (hb hby d5_108) rfl rfl ?_
          show Steps p.tables e below (T30.setTop (mkF m 109 #[.val (.ref ia), .val (.int pq), .val (.int rr), .val (.int (mt_m rr)), .val (.int (b2i (mt_2 pq rr fb)))] [(.ref ia)])) _
          refine XS.iloadN X30.here hx rfl (hb hby d5_109) rfl ?_
          show Steps p.tables e below (T30.setTop (mkF m 110 #[.val (.ref ia), .val (.int pq), .val (.int rr), .val (.int (mt_m rr)), .val (.int (b2i (mt_2 pq rr fb)))] [(.int pq), (.ref ia)])) _
          refine XS.iconst X30.here hx rfl (hb hby d5_110) ?_
          show Steps p.tables e below (T30.setTop (mkF m 111 #[.val (.ref ia), .val (.int pq), .val (.int rr), .val (.int (mt_m rr)), .val (.int (b2i (mt_2 pq rr fb)))] [(.int (3 : Int32)), (.int pq), (.ref ia)])) _
          refine XS.iadd X30.here hx rfl (hb hby d5_111) rfl ?_
          show Steps p.tables e below (T30.setTop (mkF m 112 #[.val (.ref ia), .val (.int pq), .val (.int rr), .val (.int (mt_m rr)), .val (.int (b2i (mt_2 pq rr fb)))] [(.int (pq + (3 : Int32))), (.ref ia)])) _
          refine rdB X30 hx hZ e30 k1_0 (j := (pq + (3 : Int32))) (own_ix3 hp0 hp1) rfl (g := (mkF m 112 #[.val (.ref ia), .val (.int pq), .val (.int rr), .val (.int (mt_m rr)), .val (.int (b2i (mt_2 pq rr fb)))] [(.int (pq + (3 : Int32))), (.ref ia)])) rfl rfl (hb hby d5_112) _ ?_
          show Steps p.tables e below (T30.setTop (mkF m 113 #[.val (.ref ia), .val (.int pq), .val (.int rr), .val (.int (mt_m rr)), .val (.int (b2i (mt_2 pq rr fb)))] [(.int (fb (pq + (3 : Int32))))])) _
          refine XS.sipush X30.here hx rfl (hb hby d5_113) ?_
          show Steps p.tables e below (T30.setTop (mkF m 116 #[.val (.ref ia), .val (.int pq), .val (.int rr), .val (.int (mt_m rr)), .val (.int (b2i (mt_2 pq rr fb)))] [(.int (255 : Int32)), (.int (fb (pq + (3 : Int32))))])) _
          refine XS.iand X30.here hx rfl (hb hby d5_116) rfl ?_
          show Steps p.tables e below (T30.setTop (mkF m 117 #[.val (.ref ia), .val (.int pq), .val (.int rr), .val (.int (mt_m rr)), .val (.int (b2i (mt_2 pq rr fb)))] [(.int ((fb (pq + (3 : Int32))) &&& (255 : Int32)))])) _
          refine XS.iloadN X30.here hx rfl (hb hby d5_117) rfl ?_
          show Steps p.tables e below (T30.setTop (mkF m 118 #[.val (.ref ia), .val (.int pq), .val (.int rr), .val (.int (mt_m rr)), .val (.int (b2i (mt_2 pq rr fb)))] [(.int rr), (.int ((fb (pq + (3 : Int32))) &&& (255 : Int32)))])) _
          refine XS.iloadN X30.here hx rfl (hb hby d5_118) rfl ?_
          show Steps p.tables e below (T30.setTop (mkF m 119 #[.val (.ref ia), .val (.int pq), .val (.int rr), .val (.int (mt_m rr)), .val (.int (b2i (mt_2 pq rr fb)))] [(.int (mt_m rr)), (.int rr), (.int ((fb (pq + (3 : Int32))) &&& (255 : Int32)))])) _
          refine XS.iconst X30.here hx rfl (hb hby d5_119) ?_
          show Steps p.tables e below (T30.setTop (mkF m 120 #[.val (.ref ia), .val (.int pq), .val (.int rr), .val (.int (mt_m rr)), .val (.int (b2i (mt_2 pq rr fb)))] [(.int (3 : Int32)), (.int (mt_m rr)), (.int rr), (.int ((fb (pq + (3 : Int32))) &&& (255 : Int32)))])) _
          refine st35 _ ?_
          exact k
        have pre37 : ∀ t, Steps p.tables e below (T35.setTop (mkF m 131 #[.val (.ref ia), .val (.int pq), .val (.int rr), .val (.int (mt_m rr)), .val (.int (b2i (mt_2 pq rr fb)))] [(.int (b2i (if ((fb (pq + (3 : Int32))) &&& (255 : Int32)) = (F1 rr (mt_m rr) (3 : Int32)) then true else false)))])) t → Steps p.tables e below (s₁.setTop (entryFrame m #[(.ref ia), (.int pq), (.int rr)] 5)) t := by
          intro t k
          refine pre36 t ?_
          have k : ∀ (v1 : Bool), v1 = (if ((fb (pq + (3 : Int32))) &&& (255 : Int32)) = (F1 rr (mt_m rr) (3 : Int32)) then true else false) → Steps p.tables e below (T35.setTop (mkF m 131 #[.val (.ref ia), .val (.int pq), .val (.int rr), .val (.int (mt_m rr)), .val (.int (b2i (mt_2 pq rr fb)))] [(.int (b2i v1))])) t := fun v1 hv1 => by subst hv1; exact k
          show Steps p.tables e below (T35.setTop (mkF m 123 #[.val (.ref ia), .val (.int pq), .val (.int rr), .val (.int (mt_m rr)), .val (.int (b2i (mt_2 pq rr fb)))] [(.int (F1 rr (mt_m rr) (3 : Int32))), (.int ((fb (pq + (3 : Int32))) &&& (255 : Int32)))])) _
          by_cases hc38 : ((fb (pq + (3 : Int32))) &&& (255 : Int32)) = (F1 rr (mt_m rr) (3 : Int32))
          · refine XS.icmpNo X35.here hx rfl (hb hby d5_123) rfl (teq hc38).2 ?_
            have k : ∀ (v1 : Bool), v1 = true → Steps p.tables e below (T35.setTop (mkF m 131 #[.val (.ref ia), .val (.int pq), .val (.int rr), .val (.int (mt_m rr)), .val (.int (b2i (mt_2 pq rr fb)))] [(.int (b2i v1))])) t := fun v1 hv1 => k v1 (hv1.trans (if_pos hc38).symm)
            show Steps p.tables e below (T35.setTop (mkF m 126 #[.val (.ref ia), .val (.int pq), .val (.int rr), .val (.int (mt_m rr)), .val (.int (b2i (mt_2 pq rr fb)))] [])) _
            refine XS.iconst X35.here hx rfl (hb hby d5_126) ?_
            show Steps p.tables e below (T35.setTop (mkF m 127 #[.val (.ref ia), .val (.int pq), .val (.int rr), .val (.int (mt_m rr)), .val (.int (b2i (mt_2 pq rr fb)))] [(.int (1 : Int32))])) _
            refine XS.goto X35.here hx rfl (pc0 := 127) (pc' := 131) rfl (hb hby d5_127) (by decide) (by decide) ?_
            exact k true rfl
          · refine XS.icmpYes X35.here hx rfl (pc0 := 123) (pc' := 130) rfl (hb hby d5_123) rfl (feq hc38).2 (by decide) (by decide) ?_
            have k : ∀ (v1 : Bool), v1 = false → Steps p.tables e below (T35.setTop (mkF m 131 #[.val (.ref ia), .val (.int pq), .val (.int rr), .val (.int (mt_m rr)), .val (.int (b2i (mt_2 pq rr fb)))] [(.int (b2i v1))])) t := fun v1 hv1 => k v1 (hv1.trans (if_neg hc38).symm)
            show Steps p.tables e below (T35.setTop (mkF m 130 #[.val (.ref ia), .val (.int pq), .val (.int rr), .val (.int (mt_m rr)), .val (.int (b2i (mt_2 pq rr fb)))] [])) _
            refine XS.iconst X35.here hx rfl (hb hby d5_130) ?_
            exact k false rfl
        have pre39 : ∀ t, Steps p.tables e below (T35.setTop (mkF m 133 #[.val (.ref ia), .val (.int pq), .val (.int rr), .val (.int (mt_m rr)), .val (.int (b2i (if ((fb (pq + (3 : Int32))) &&& (255 : Int32)) = (F1 rr (mt_m rr) (3 : Int32)) then true else false)))] [])) t → Steps p.tables e below (s₁.setTop (entryFrame m #[(.ref ia), (.int pq), (.int rr)] 5)) t := by
          intro t k
          refine pre37 t ?_
          show Steps p.tables e below (T35.setTop (mkF m 131 #[.val (.ref ia), .val (.int pq), .val (.int rr), .val (.int (mt_m rr)), .val (.int (b2i (mt_2 pq rr fb)))] [(.int (b2i (if ((fb (pq + (3 : Int32))) &&& (255 : Int32)) = (F1 rr (mt_m rr) (3 : Int32)) then true else false)))])) _
          refine XS.istore X35.here hx rfl (hb hby d5_131) rfl (l' := #[.val (.ref ia), .val (.int pq), .val (.int rr), .val (.int (mt_m rr)), .val (.int (b2i (if ((fb (pq + (3 : Int32))) &&& (255 : Int32)) = (F1 rr (mt_m rr) (3 : Int32)) then true else false)))]) rfl ?_
          exact k
        refine ⟨T35, _, X35, e35, N35, fun t k => ?_⟩
        rw [(show (mt_3 pq rr fb) = (if ((fb (pq + (3 : Int32))) &&& (255 : Int32)) = (F1 rr (mt_m rr) (3 : Int32)) then true else false) from ((if_pos hc32).trans ((if_pos hc34).trans rfl)))] at k
        exact pre39 t k
      ·
        have pre40 : ∀ t, Steps p.tables e below (T30.setTop (mkF m 133 #[.val (.ref ia), .val (.int pq), .val (.int rr), .val (.int (mt_m rr)), .val (.int (0 : Int32))] [])) t → Steps p.tables e below (s₁.setTop (entryFrame m #[(.ref ia), (.int pq), (.int rr)] 5)) t := by
          intro t k
          refine pre33 t ?_
          show Steps p.tables e below (T30.setTop (mkF m 105 #[.val (.ref ia), .val (.int pq), .val (.int rr), .val (.int (mt_m rr)), .val (.int (b2i (mt_2 pq rr fb)))] [(.int (b2i (mt_2 pq rr fb)))])) _
          refine XS.ifYes X30.here hx rfl (pc0 := 105) (pc' := 130) rfl (hb hby d5_105) rfl ((if0 _ _).trans (teq (b2i_eq hc34)).1) (by decide) (by decide) ?_
          show Steps p.tables e below (T30.setTop (mkF m 130 #[.val (.ref ia), .val (.int pq), .val (.int rr), .val (.int (mt_m rr)), .val (.int (b2i (mt_2 pq rr fb)))] [])) _
          refine XS.iconst X30.here hx rfl (hb hby d5_130) ?_
          show Steps p.tables e below (T30.setTop (mkF m 131 #[.val (.ref ia), .val (.int pq), .val (.int rr), .val (.int (mt_m rr)), .val (.int (b2i (mt_2 pq rr fb)))] [(.int (0 : Int32))])) _
          refine XS.istore X30.here hx rfl (hb hby d5_131) rfl (l' := #[.val (.ref ia), .val (.int pq), .val (.int rr), .val (.int (mt_m rr)), .val (.int (0 : Int32))]) rfl ?_
          exact k
        refine ⟨T30, _, X30, e30, N30, fun t k => ?_⟩
        rw [(show (mt_3 pq rr fb) = false from ((if_pos hc32).trans ((if_neg hc34).trans rfl)))] at k
        exact pre40 t k
    ·
      have pre41 : ∀ t, Steps p.tables e below (T30.setTop (mkF m 133 #[.val (.ref ia), .val (.int pq), .val (.int rr), .val (.int (mt_m rr)), .val (.int (b2i (mt_2 pq rr fb)))] [])) t → Steps p.tables e below (s₁.setTop (entryFrame m #[(.ref ia), (.int pq), (.int rr)] 5)) t := by
        intro t k
        refine pre31 t ?_
        show Steps p.tables e below (T30.setTop (mkF m 100 #[.val (.ref ia), .val (.int pq), .val (.int rr), .val (.int (mt_m rr)), .val (.int (b2i (mt_2 pq rr fb)))] [(.int (3 : Int32)), (.int (mt_m rr))])) _
        refine XS.icmpYes X30.here hx rfl (pc0 := 100) (pc' := 133) rfl (hb hby d5_100) rfl (flt hc32).2.2.2 (by decide) (by decide) ?_
        exact k
      refine ⟨T30, _, X30, e30, N30, fun t k => ?_⟩
      rw [(show (mt_3 pq rr fb) = (mt_2 pq rr fb) from ((if_neg hc32).trans rfl))] at k
      exact pre41 t k
  have pre43 : ∀ t, Steps p.tables e below (T42.setTop (mkF m 135 #[.val (.ref ia), .val (.int pq), .val (.int rr), .val (.int (mt_m rr)), .val (.int (b2i (mt_3 pq rr fb)))] [(.int (b2i (mt_3 pq rr fb)))])) t → Steps p.tables e below (s₁.setTop (entryFrame m #[(.ref ia), (.int pq), (.int rr)] 5)) t := by
    intro t k
    refine pre42 t ?_
    show Steps p.tables e below (T42.setTop (mkF m 133 #[.val (.ref ia), .val (.int pq), .val (.int rr), .val (.int (mt_m rr)), .val (.int (b2i (mt_3 pq rr fb)))] [])) _
    refine XS.iload X42.here hx rfl (hb hby d5_133) rfl ?_
    exact k
  obtain ⟨fs, hr, hrun, hended, hW, hsame⟩ := X42.leave (v := some (.int (b2i (Fmat pq rr fb)))) (fun h => by rw [Bd.returns] at h; cases h) (BodyLoose.notSynchronized Bd)
  refine ⟨_, _, pre43 _ ?_, hrun, hended, _, _, rfl, ?_, ⟨_, rfl⟩, hW, hsame.mono (by decide) (by decide)⟩
  · show Steps p.tables e below (T42.setTop (mkF m 135 #[.val (.ref ia), .val (.int pq), .val (.int rr), .val (.int (mt_m rr)), .val (.int (b2i (mt_3 pq rr fb)))] [(.int (b2i (mt_3 pq rr fb)))])) _
    have hr2 := hr
    rw [(show (Fmat pq rr fb) = (mt_3 pq rr fb) from rfl)] at hr2
    exact retN X42 hx (t := .boolean) Bd.returns (by simp) (hb hby d5_135) (by rw [nar_b2i]; exact hr2)
  · show Q5 Z ia pq rr fb h0 n0 _ T42.heap _
    rw [e42]
    exact ⟨rfl, N42, rfl⟩
theorem pd_1 : parseMethodDescriptor "([BII)I" = some ⟨[(.array .byte), .int, .int], some .int⟩ := by decide +kernel
theorem pd_2 : parseMethodDescriptor "(I)Z" = some ⟨[.int], some .boolean⟩ := by decide +kernel
theorem pd_4 : parseMethodDescriptor "([BII)Z" = some ⟨[(.array .byte), .int, .int], some .boolean⟩ := by decide +kernel
theorem ef_0 (m : MethodId) (x0 : Int32) (x1 : Int32) (x2 : Int64) : entryFrame m #[(.int x0), (.int x1), (.long x2)] maxLocals = mkF m 0 #[.val (.int x0), .val (.int x1), .val (.long x2), .second, .unset, .unset, .unset, .unset, .unset, .unset, .unset, .unset, .unset, .unset] [] := by first | (simp [entryFrame, mkF, argsToLocals, Value.category, maxLocals]; done) | rfl
def v_in (q2 : Int64) : Int32 → Int32 := (@upA Int32 (@upA Int32 (@upA Int32 (@upA Int32 (@upA Int32 (@upA Int32 (@upA Int32 (@upA Int32 (fun _ => 0) (0 : Int32) ((q2.toInt32).toInt8.toInt32)) (1 : Int32) ((((q2.toUInt64 >>> ((8 : Int32) &&& 0x3f).toInt64.toUInt64).toInt64).toInt32).toInt8.toInt32)) (2 : Int32) ((((q2.toUInt64 >>> ((16 : Int32) &&& 0x3f).toInt64.toUInt64).toInt64).toInt32).toInt8.toInt32)) (3 : Int32) ((((q2.toUInt64 >>> ((24 : Int32) &&& 0x3f).toInt64.toUInt64).toInt64).toInt32).toInt8.toInt32)) (4 : Int32) ((((q2.toUInt64 >>> ((32 : Int32) &&& 0x3f).toInt64.toUInt64).toInt64).toInt32).toInt8.toInt32)) (5 : Int32) ((((q2.toUInt64 >>> ((40 : Int32) &&& 0x3f).toInt64.toUInt64).toInt64).toInt32).toInt8.toInt32)) (6 : Int32) ((((q2.toUInt64 >>> ((48 : Int32) &&& 0x3f).toInt64.toUInt64).toInt64).toInt32).toInt8.toInt32)) (7 : Int32) ((((q2.toUInt64 >>> ((56 : Int32) &&& 0x3f).toInt64.toUInt64).toInt64).toInt32).toInt8.toInt32))
def v_pl (p1 : Int32) : Bool := (if (p1 &&& (1 : Int32)) = (0 : Int32) then false else true)
def v_n (p1 : Int32) : Int32 := ((1 : Int32) + (((p1.toUInt32 >>> ((1 : Int32) &&& 31).toUInt32).toInt32) &&& (3 : Int32)))
def v_p (p1 : Int32) : Int32 := (((p1.toUInt32 >>> ((3 : Int32) &&& 31).toUInt32).toInt32) &&& (3 : Int32))
def v_lim (p1 : Int32) : Int32 := (((v_p p1) + (1 : Int32)) + (((p1.toUInt32 >>> ((5 : Int32) &&& 31).toUInt32).toInt32) % ((8 : Int32) - (v_p p1))))
def v_mask (p1 : Int32) : Int32 := (if (v_n p1) = (1 : Int32) then (127 : Int32) else (if (v_n p1) = (2 : Int32) then (2047 : Int32) else (if (v_n p1) = (3 : Int32) then (65535 : Int32) else (2097151 : Int32))))
def v_c (p0 : Int32) (p1 : Int32) : Int32 := (p0 &&& (v_mask p1))
def v_a0 (p0 : Int32) (p1 : Int32) (q2 : Int64) : Int32 → Int32 := (@upA Int32 (v_in q2) (v_p p1) ((F1 (v_c p0 p1) (v_n p1) (0 : Int32)).toInt8.toInt32))
def v_a1 (p0 : Int32) (p1 : Int32) (q2 : Int64) : Int32 → Int32 := (if (1 : Int32) < (v_n p1) then (@upA Int32 (v_a0 p0 p1 q2) ((v_p p1) + (1 : Int32)) ((F1 (v_c p0 p1) (v_n p1) (1 : Int32)).toInt8.toInt32)) else (v_a0 p0 p1 q2))
def v_a2 (p0 : Int32) (p1 : Int32) (q2 : Int64) : Int32 → Int32 := (if (2 : Int32) < (v_n p1) then (@upA Int32 (v_a1 p0 p1 q2) ((v_p p1) + (2 : Int32)) ((F1 (v_c p0 p1) (v_n p1) (2 : Int32)).toInt8.toInt32)) else (v_a1 p0 p1 q2))
def v_a3 (p0 : Int32) (p1 : Int32) (q2 : Int64) : Int32 → Int32 := (if (3 : Int32) < (v_n p1) then (@upA Int32 (v_a2 p0 p1 q2) ((v_p p1) + (3 : Int32)) ((F1 (v_c p0 p1) (v_n p1) (3 : Int32)).toInt8.toInt32)) else (v_a2 p0 p1 q2))
def v_fb (p0 : Int32) (p1 : Int32) (q2 : Int64) : Int32 → Int32 := (if (v_pl p1) = true then (v_a3 p0 p1 q2) else (v_in q2))
def v_r (p0 : Int32) (p1 : Int32) (q2 : Int64) : Int32 := (F2 (v_p p1) (v_lim p1) (v_fb p0 p1 q2))
def v_sd (p0 : Int32) (p1 : Int32) (q2 : Int64) : Bool := (if (v_r p0 p1 q2) = (-1 : Int32) then true else (if (F3 (v_r p0 p1 q2)) = true then (if (v_lim p1) < ((v_p p1) + (F4 (v_r p0 p1 q2))) then false else (if (Fmat (v_p p1) (v_r p0 p1 q2) (v_fb p0 p1 q2)) = true then true else false)) else false))
def v_snd (p0 : Int32) (p1 : Int32) (q2 : Int64) : Bool := (v_sd p0 p1 q2)
def v_ex (p0 : Int32) (p1 : Int32) : Int32 := (if (F3 (v_c p0 p1)) = true then (if (F4 (v_c p0 p1)) = (v_n p1) then (if (v_lim p1) < ((v_p p1) + (v_n p1)) then (-1 : Int32) else (v_c p0 p1)) else (-1 : Int32)) else (-1 : Int32))
def v_exp (p0 : Int32) (p1 : Int32) : Int32 := (v_ex p0 p1)
def lawE1 (p0 : Int32) (p1 : Int32) (q2 : Int64) : Bool := (if (v_snd p0 p1 q2) = true then (if (v_r p0 p1 q2) = (v_exp p0 p1) then true else false) else false)
def lawE2 (p0 : Int32) (p1 : Int32) (q2 : Int64) : Bool := (v_snd p0 p1 q2)
theorem own_p (p1 : Int32) : ¬ (v_p p1) < 0 ∧ (v_p p1) < (4 : Int32) := by
  have l0 : (0 : Int32).toInt = 0 := by decide
  have l4 : (4 : Int32).toInt = 4 := by decide
  have q := c_mask ((p1.toUInt32 >>> ((3 : Int32) &&& 31).toUInt32).toInt32) 3 2 (by decide) (by decide)
  simp only [Int32.lt_iff_toInt_lt, v_p]
  omega
theorem own_nz (p1 : Int32) : ¬ (((8 : Int32) - (v_p p1)) = 0) := by
  have h := own_p p1
  simp only [Int32.lt_iff_toInt_lt] at h
  have l0 : (0 : Int32).toInt = 0 := by decide
  have l4 : (4 : Int32).toInt = 4 := by decide
  have l8 : (8 : Int32).toInt = 8 := by decide
  have q := c_isub (8 : Int32) (v_p p1)
  intro e
  rw [e] at q
  omega
theorem own_t192 : ∀ i : Fin 256, ((Int32.ofInt ((i.1 : Int) - 128) &&& (192 : Int32)) = (128 : Int32)) ↔ (Int32.ofInt ((i.1 : Int) - 128)).toInt < -64 := by decide +kernel
theorem own_192 {b : Int32} (h : -128 ≤ b.toInt ∧ b.toInt < 128) : ((b &&& (192 : Int32)) = (128 : Int32)) ↔ b.toInt < -64 := by
  have e : b = Int32.ofInt (((⟨(b.toInt + 128).toNat, by omega⟩ : Fin 256).1 : Int) - 128) := by
    have e : (((b.toInt + 128).toNat : Nat) : Int) - 128 = b.toInt := by omega
    show b = Int32.ofInt ((((b.toInt + 128).toNat : Nat) : Int) - 128)
    rw [e, Int32.ofInt_toInt]
  rw [e]; exact own_t192 _
theorem own_shl (x q : Int32) (k : Nat) (hk : q.toBitVec.toNat % 32 = k) (h0 : 0 ≤ x.toInt) (h1 : x.toInt * (2 ^ k : Nat) < 2147483648) : (x <<< (q &&& 31)).toInt = x.toInt * (2 ^ k : Nat) := by
  have a := c_ishl x q k hk
  have b := Int32.toInt_lt (x <<< (q &&& 31))
  have b' := Int32.le_toInt (x <<< (q &&& 31))
  have z : 0 ≤ x.toInt * (2 ^ k : Nat) := Int.mul_nonneg h0 (Int.natCast_nonneg _)
  generalize x.toInt * ((2 ^ k : Nat) : Int) = y at *
  omega
theorem own_or (a b : Int32) (k : Nat) (hk : k ≤ 31) (P : Int) (hP : P = (2 ^ k : Nat)) (h : a.toInt % P = 0) (h0 : 0 ≤ a.toInt) (h1 : 0 ≤ b.toInt) (h2 : b.toInt < P) (h3 : a.toInt + b.toInt < 2147483648) : (a ||| b).toInt = a.toInt + b.toInt := by
  have q := c_or a b k hk P hP h h1 h2
  have g := Int32.toInt_lt (a ||| b)
  have g' := Int32.le_toInt (a ||| b)
  omega
theorem own_d2 (b0 b1 : Int32) : (((b0 &&& (31 : Int32)) <<< ((6 : Int32) &&& 31)) ||| (b1 &&& (63 : Int32))).toInt = b0.toInt % 32 * 64 + b1.toInt % 64 := by
  have m0 := c_mask b0 31 5 (by decide) (by decide)
  have m1 := c_mask b1 63 6 (by decide) (by decide)
  have s0 := own_shl (b0 &&& 31) 6 6 (by decide) (by omega) (by omega)
  rw [own_or _ _ 6 (by decide) 64 (by decide) (by omega) (by omega) (by omega) (by omega) (by omega)]
  omega
theorem own_d3 (b0 b1 b2 : Int32) : ((((b0 &&& (15 : Int32)) <<< ((12 : Int32) &&& 31)) ||| ((b1 &&& (63 : Int32)) <<< ((6 : Int32) &&& 31))) ||| (b2 &&& (63 : Int32))).toInt = b0.toInt % 16 * 4096 + b1.toInt % 64 * 64 + b2.toInt % 64 := by
  have m0 := c_mask b0 15 4 (by decide) (by decide)
  have m1 := c_mask b1 63 6 (by decide) (by decide)
  have m2 := c_mask b2 63 6 (by decide) (by decide)
  have s0 := own_shl (b0 &&& 15) 12 12 (by decide) (by omega) (by omega)
  have s1 := own_shl (b1 &&& 63) 6 6 (by decide) (by omega) (by omega)
  have o1 := own_or ((b0 &&& (15 : Int32)) <<< ((12 : Int32) &&& 31)) ((b1 &&& (63 : Int32)) <<< ((6 : Int32) &&& 31)) 12 (by decide) 4096 (by decide) (by omega) (by omega) (by omega) (by omega) (by omega)
  rw [own_or _ _ 6 (by decide) 64 (by decide) (by omega) (by omega) (by omega) (by omega) (by omega)]
  omega
theorem own_d4 (b0 b1 b2 b3 : Int32) : (((((b0 &&& (7 : Int32)) <<< ((18 : Int32) &&& 31)) ||| ((b1 &&& (63 : Int32)) <<< ((12 : Int32) &&& 31))) ||| ((b2 &&& (63 : Int32)) <<< ((6 : Int32) &&& 31))) ||| (b3 &&& (63 : Int32))).toInt = b0.toInt % 8 * 262144 + b1.toInt % 64 * 4096 + b2.toInt % 64 * 64 + b3.toInt % 64 := by
  have m0 := c_mask b0 7 3 (by decide) (by decide)
  have m1 := c_mask b1 63 6 (by decide) (by decide)
  have m2 := c_mask b2 63 6 (by decide) (by decide)
  have m3 := c_mask b3 63 6 (by decide) (by decide)
  have s0 := own_shl (b0 &&& 7) 18 18 (by decide) (by omega) (by omega)
  have s1 := own_shl (b1 &&& 63) 12 12 (by decide) (by omega) (by omega)
  have s2 := own_shl (b2 &&& 63) 6 6 (by decide) (by omega) (by omega)
  have o1 := own_or ((b0 &&& (7 : Int32)) <<< ((18 : Int32) &&& 31)) ((b1 &&& (63 : Int32)) <<< ((12 : Int32) &&& 31)) 18 (by decide) 262144 (by decide) (by omega) (by omega) (by omega) (by omega) (by omega)
  have o2 := own_or (((b0 &&& (7 : Int32)) <<< ((18 : Int32) &&& 31)) ||| ((b1 &&& (63 : Int32)) <<< ((12 : Int32) &&& 31))) ((b2 &&& (63 : Int32)) <<< ((6 : Int32) &&& 31)) 12 (by decide) 4096 (by decide) (by omega) (by omega) (by omega) (by omega) (by omega)
  rw [own_or _ _ 6 (by decide) 64 (by decide) (by omega) (by omega) (by omega) (by omega) (by omega)]
  omega
def A2 (b0 b1 p l : Int) : Prop := -62 ≤ b0 ∧ b0 ≤ -33 ∧ p + 1 < l ∧ b1 < -64
def A3 (b0 b1 b2 p l d : Int) : Prop := -32 ≤ b0 ∧ b0 ≤ -17 ∧ p + 2 < l ∧ b1 < -64 ∧ b2 < -64 ∧ 2048 ≤ d ∧ (d < 55296 ∨ 57344 ≤ d) ∧ d ≤ 65533
def A4 (b0 b1 b2 b3 p l d : Int) : Prop := -16 ≤ b0 ∧ b0 ≤ -12 ∧ p + 3 < l ∧ b1 < -64 ∧ b2 < -64 ∧ b3 < -64 ∧ 65536 ≤ d ∧ d ≤ 1114111
theorem own_add (p : Int32) (k : Int32) (h : 0 ≤ p.toInt ∧ p.toInt ≤ 3) (hk : 0 ≤ k.toInt ∧ k.toInt ≤ 8) : (p + k).toInt = p.toInt + k.toInt := by
  have q := c_iadd p k
  have b := Int32.toInt_lt (p + k)
  have b' := Int32.le_toInt (p + k)
  omega
set_option maxHeartbeats 4000000 in
theorem own_n4 (pq lm : Int32) (fb : Int32 → Int32) (b0 b1 b2 b3 : Int32) (e0 : fb pq = b0) (e1 : fb (pq + (1 : Int32)) = b1) (e2 : fb (pq + (2 : Int32)) = b2) (e3 : fb (pq + (3 : Int32)) = b3) (r1 : -128 ≤ b1.toInt ∧ b1.toInt < 128) (r2 : -128 ≤ b2.toInt ∧ b2.toInt < 128) (r3 : -128 ≤ b3.toInt ∧ b3.toInt < 128)
    (hp : 0 ≤ pq.toInt ∧ pq.toInt ≤ 3) (hl : pq.toInt + 1 ≤ lm.toInt) (x2 x3 x4 : Int) (h2 : x2 = b0.toInt % 32 * 64 + b1.toInt % 64) (h3 : x3 = b0.toInt % 16 * 4096 + b1.toInt % 64 * 64 + b2.toInt % 64) (h4 : x4 = b0.toInt % 8 * 262144 + b1.toInt % 64 * 4096 + b2.toInt % 64 * 64 + b3.toInt % 64) :
    ((nd2_174_3 pq lm fb).toInt = -1 ∧ ¬ A4 b0.toInt b1.toInt b2.toInt b3.toInt pq.toInt lm.toInt x4) ∨ ((nd2_174_3 pq lm fb).toInt = x4 ∧ A4 b0.toInt b1.toInt b2.toInt b3.toInt pq.toInt lm.toInt x4) := by
  have y2 := own_d2 b0 b1
  have y3 := own_d3 b0 b1 b2
  have y4 := own_d4 b0 b1 b2 b3
  rw [← h2] at y2
  rw [← h3] at y3
  rw [← h4] at y4
  have q1 := own_add pq 1 hp (by decide)
  have q2 := own_add pq 2 hp (by decide)
  have q3 := own_add pq 3 hp (by decide)
  have w1 : (1 : Int32).toInt = 1 := by decide
  have w2 : (2 : Int32).toInt = 2 := by decide
  have w3 : (3 : Int32).toInt = 3 := by decide
  have l0 : (-1 : Int32).toInt = -1 := by decide
  have l1 : (-62 : Int32).toInt = -62 := by decide
  have l2 : (-33 : Int32).toInt = -33 := by decide
  have l3 : (-32 : Int32).toInt = -32 := by decide
  have l4 : (-17 : Int32).toInt = -17 := by decide
  have l5 : (-16 : Int32).toInt = -16 := by decide
  have l6 : (-12 : Int32).toInt = -12 := by decide
  have l7 : (2048 : Int32).toInt = 2048 := by decide
  have l8 : (55296 : Int32).toInt = 55296 := by decide
  have l9 : (57344 : Int32).toInt = 57344 := by decide
  have l10 : (65533 : Int32).toInt = 65533 := by decide
  have l11 : (65536 : Int32).toInt = 65536 := by decide
  have l12 : (1114111 : Int32).toInt = 1114111 := by decide
  obtain ⟨R, hR⟩ : ∃ R, R = (nd2_174_3 pq lm fb) := ⟨_, rfl⟩
  rw [← hR]
  unfold nd2_174_3 at hR
  unfold A4 at *
  simp only [e0, e1, e2, e3] at hR
  generalize (((((b0 &&& (7 : Int32)) <<< ((18 : Int32) &&& 31)) ||| ((b1 &&& (63 : Int32)) <<< ((12 : Int32) &&& 31))) ||| ((b2 &&& (63 : Int32)) <<< ((6 : Int32) &&& 31))) ||| (b3 &&& (63 : Int32))) = u at *
  clear h2 h3 h4
  simp only [own_192 r1, own_192 r2, own_192 r3, Int32.lt_iff_toInt_lt] at hR
  clear e0 e1 e2 e3
  generalize (pq + (1 : Int32)).toInt = z1 at *
  generalize (pq + (2 : Int32)).toInt = z2 at *
  generalize (pq + (3 : Int32)).toInt = z3 at *
  repeat' split at hR
  all_goals subst hR
  all_goals omega
set_option maxHeartbeats 4000000 in
theorem own_n3 (pq lm : Int32) (fb : Int32 → Int32) (b0 b1 b2 b3 : Int32) (e0 : fb pq = b0) (e1 : fb (pq + (1 : Int32)) = b1) (e2 : fb (pq + (2 : Int32)) = b2) (e3 : fb (pq + (3 : Int32)) = b3) (r1 : -128 ≤ b1.toInt ∧ b1.toInt < 128) (r2 : -128 ≤ b2.toInt ∧ b2.toInt < 128) (r3 : -128 ≤ b3.toInt ∧ b3.toInt < 128)
    (hp : 0 ≤ pq.toInt ∧ pq.toInt ≤ 3) (hl : pq.toInt + 1 ≤ lm.toInt) (x2 x3 x4 : Int) (h2 : x2 = b0.toInt % 32 * 64 + b1.toInt % 64) (h3 : x3 = b0.toInt % 16 * 4096 + b1.toInt % 64 * 64 + b2.toInt % 64) (h4 : x4 = b0.toInt % 8 * 262144 + b1.toInt % 64 * 4096 + b2.toInt % 64 * 64 + b3.toInt % 64) :
    ((nd2_57_5 pq lm fb).toInt = -1 ∧ ¬ A3 b0.toInt b1.toInt b2.toInt pq.toInt lm.toInt x3 ∧ ¬ A4 b0.toInt b1.toInt b2.toInt b3.toInt pq.toInt lm.toInt x4) ∨ ((nd2_57_5 pq lm fb).toInt = x3 ∧ A3 b0.toInt b1.toInt b2.toInt pq.toInt lm.toInt x3) ∨ ((nd2_57_5 pq lm fb).toInt = x4 ∧ A4 b0.toInt b1.toInt b2.toInt b3.toInt pq.toInt lm.toInt x4) := by
  have sb := own_n4 pq lm fb b0 b1 b2 b3 e0 e1 e2 e3 r1 r2 r3 hp hl x2 x3 x4 h2 h3 h4
  have y2 := own_d2 b0 b1
  have y3 := own_d3 b0 b1 b2
  have y4 := own_d4 b0 b1 b2 b3
  rw [← h2] at y2
  rw [← h3] at y3
  rw [← h4] at y4
  have q1 := own_add pq 1 hp (by decide)
  have q2 := own_add pq 2 hp (by decide)
  have q3 := own_add pq 3 hp (by decide)
  have w1 : (1 : Int32).toInt = 1 := by decide
  have w2 : (2 : Int32).toInt = 2 := by decide
  have w3 : (3 : Int32).toInt = 3 := by decide
  have l0 : (-1 : Int32).toInt = -1 := by decide
  have l1 : (-62 : Int32).toInt = -62 := by decide
  have l2 : (-33 : Int32).toInt = -33 := by decide
  have l3 : (-32 : Int32).toInt = -32 := by decide
  have l4 : (-17 : Int32).toInt = -17 := by decide
  have l5 : (-16 : Int32).toInt = -16 := by decide
  have l6 : (-12 : Int32).toInt = -12 := by decide
  have l7 : (2048 : Int32).toInt = 2048 := by decide
  have l8 : (55296 : Int32).toInt = 55296 := by decide
  have l9 : (57344 : Int32).toInt = 57344 := by decide
  have l10 : (65533 : Int32).toInt = 65533 := by decide
  have l11 : (65536 : Int32).toInt = 65536 := by decide
  have l12 : (1114111 : Int32).toInt = 1114111 := by decide
  obtain ⟨R, hR⟩ : ∃ R, R = (nd2_57_5 pq lm fb) := ⟨_, rfl⟩
  rw [← hR]
  unfold nd2_57_5 nd2_160_4 at hR
  generalize nd2_174_3 pq lm fb = tt at *
  unfold A3 A4 at *
  simp only [e0, e1, e2, e3] at hR
  generalize ((((b0 &&& (15 : Int32)) <<< ((12 : Int32) &&& 31)) ||| ((b1 &&& (63 : Int32)) <<< ((6 : Int32) &&& 31))) ||| (b2 &&& (63 : Int32))) = u at *
  clear h2 h3 h4
  simp only [own_192 r1, own_192 r2, own_192 r3, Int32.lt_iff_toInt_lt] at hR
  clear e0 e1 e2 e3
  generalize (pq + (1 : Int32)).toInt = z1 at *
  generalize (pq + (2 : Int32)).toInt = z2 at *
  generalize (pq + (3 : Int32)).toInt = z3 at *
  repeat' split at hR
  all_goals subst hR
  all_goals omega
set_option maxHeartbeats 4000000 in
theorem own_F2 (pq lm : Int32) (fb : Int32 → Int32) (b0 b1 b2 b3 : Int32) (e0 : fb pq = b0) (e1 : fb (pq + (1 : Int32)) = b1) (e2 : fb (pq + (2 : Int32)) = b2) (e3 : fb (pq + (3 : Int32)) = b3) (r1 : -128 ≤ b1.toInt ∧ b1.toInt < 128) (r2 : -128 ≤ b2.toInt ∧ b2.toInt < 128) (r3 : -128 ≤ b3.toInt ∧ b3.toInt < 128)
    (hp : 0 ≤ pq.toInt ∧ pq.toInt ≤ 3) (hl : pq.toInt + 1 ≤ lm.toInt) (x2 x3 x4 : Int) (h2 : x2 = b0.toInt % 32 * 64 + b1.toInt % 64) (h3 : x3 = b0.toInt % 16 * 4096 + b1.toInt % 64 * 64 + b2.toInt % 64) (h4 : x4 = b0.toInt % 8 * 262144 + b1.toInt % 64 * 4096 + b2.toInt % 64 * 64 + b3.toInt % 64) :
    ((F2 pq lm fb).toInt = -1 ∧ ¬ A2 b0.toInt b1.toInt pq.toInt lm.toInt ∧ ¬ A3 b0.toInt b1.toInt b2.toInt pq.toInt lm.toInt x3 ∧ ¬ A4 b0.toInt b1.toInt b2.toInt b3.toInt pq.toInt lm.toInt x4) ∨ ((F2 pq lm fb).toInt = x2 ∧ A2 b0.toInt b1.toInt pq.toInt lm.toInt) ∨ ((F2 pq lm fb).toInt = x3 ∧ A3 b0.toInt b1.toInt b2.toInt pq.toInt lm.toInt x3) ∨ ((F2 pq lm fb).toInt = x4 ∧ A4 b0.toInt b1.toInt b2.toInt b3.toInt pq.toInt lm.toInt x4) := by
  have sb := own_n3 pq lm fb b0 b1 b2 b3 e0 e1 e2 e3 r1 r2 r3 hp hl x2 x3 x4 h2 h3 h4
  have y2 := own_d2 b0 b1
  have y3 := own_d3 b0 b1 b2
  have y4 := own_d4 b0 b1 b2 b3
  rw [← h2] at y2
  rw [← h3] at y3
  rw [← h4] at y4
  have q1 := own_add pq 1 hp (by decide)
  have q2 := own_add pq 2 hp (by decide)
  have q3 := own_add pq 3 hp (by decide)
  have w1 : (1 : Int32).toInt = 1 := by decide
  have w2 : (2 : Int32).toInt = 2 := by decide
  have w3 : (3 : Int32).toInt = 3 := by decide
  have l0 : (-1 : Int32).toInt = -1 := by decide
  have l1 : (-62 : Int32).toInt = -62 := by decide
  have l2 : (-33 : Int32).toInt = -33 := by decide
  have l3 : (-32 : Int32).toInt = -32 := by decide
  have l4 : (-17 : Int32).toInt = -17 := by decide
  have l5 : (-16 : Int32).toInt = -16 := by decide
  have l6 : (-12 : Int32).toInt = -12 := by decide
  have l7 : (2048 : Int32).toInt = 2048 := by decide
  have l8 : (55296 : Int32).toInt = 55296 := by decide
  have l9 : (57344 : Int32).toInt = 57344 := by decide
  have l10 : (65533 : Int32).toInt = 65533 := by decide
  have l11 : (65536 : Int32).toInt = 65536 := by decide
  have l12 : (1114111 : Int32).toInt = 1114111 := by decide
  obtain ⟨R, hR⟩ : ∃ R, R = (F2 pq lm fb) := ⟨_, rfl⟩
  rw [← hR]
  unfold F2 at hR
  generalize nd2_57_5 pq lm fb = tt at *
  unfold A2 A3 A4 at *
  simp only [e0, e1, e2, e3] at hR
  generalize (((b0 &&& (31 : Int32)) <<< ((6 : Int32) &&& 31)) ||| (b1 &&& (63 : Int32))) = u at *
  clear h2 h3 h4
  simp only [own_192 r1, own_192 r2, own_192 r3, Int32.lt_iff_toInt_lt] at hR
  have q0 : (pq + (1 : Int32)) = lm ↔ pq.toInt + 1 = lm.toInt := by rw [← Int32.toInt_inj, q1, w1]
  simp only [q0] at hR
  clear q0
  clear e0 e1 e2 e3
  generalize (pq + (1 : Int32)).toInt = z1 at *
  generalize (pq + (2 : Int32)).toInt = z2 at *
  generalize (pq + (3 : Int32)).toInt = z3 at *
  repeat' split at hR
  all_goals subst hR
  all_goals omega
theorem own_F3 (r : Int32) : F3 r = true ↔ (128 ≤ r.toInt ∧ r.toInt ≤ 1114111 ∧ (r.toInt < 55296 ∨ 57344 ≤ r.toInt) ∧ r.toInt ≠ 65534 ∧ r.toInt ≠ 65535) := by
  have k0 : (128 : Int32).toInt = 128 := by decide
  have k1 : (2048 : Int32).toInt = 2048 := by decide
  have k2 : (65536 : Int32).toInt = 65536 := by decide
  have k3 : (1114111 : Int32).toInt = 1114111 := by decide
  have k4 : (55296 : Int32).toInt = 55296 := by decide
  have k5 : (57344 : Int32).toInt = 57344 := by decide
  have k6 : (65534 : Int32).toInt = 65534 := by decide
  have k7 : (65535 : Int32).toInt = 65535 := by decide
  unfold F3 nd3_25_2
  simp only [Int32.lt_iff_toInt_lt, ← Int32.toInt_inj]
  repeat' split
  all_goals first
    | exact ⟨fun _ => (by omega), fun _ => rfl⟩
    | exact Iff.intro (fun q => Bool.noConfusion q) (fun q => absurd q (by omega))
theorem own_F4 (r : Int32) : (F4 r = 1 ∧ r.toInt < 128) ∨ (F4 r = 2 ∧ 128 ≤ r.toInt ∧ r.toInt < 2048) ∨ (F4 r = 3 ∧ 2048 ≤ r.toInt ∧ r.toInt < 65536) ∨ (F4 r = 4 ∧ 65536 ≤ r.toInt) := by
  have k0 : (128 : Int32).toInt = 128 := by decide
  have k1 : (2048 : Int32).toInt = 2048 := by decide
  have k2 : (65536 : Int32).toInt = 65536 := by decide
  have k3 : (1114111 : Int32).toInt = 1114111 := by decide
  have k4 : (55296 : Int32).toInt = 55296 := by decide
  have k5 : (57344 : Int32).toInt = 57344 := by decide
  have k6 : (65534 : Int32).toInt = 65534 := by decide
  have k7 : (65535 : Int32).toInt = 65535 := by decide
  unfold F4
  simp only [Int32.lt_iff_toInt_lt]
  repeat' split
  · exact Or.inl ⟨rfl, by omega⟩
  · exact Or.inr (Or.inl ⟨rfl, by omega, by omega⟩)
  · exact Or.inr (Or.inr (Or.inl ⟨rfl, by omega, by omega⟩))
  · exact Or.inr (Or.inr (Or.inr ⟨rfl, by omega⟩))
theorem own_f4 (r m : Int32) (h : (m = 1 ∧ r.toInt < 128) ∨ (m = 2 ∧ 128 ≤ r.toInt ∧ r.toInt < 2048) ∨ (m = 3 ∧ 2048 ≤ r.toInt ∧ r.toInt < 65536) ∨ (m = 4 ∧ 65536 ≤ r.toInt)) : F4 r = m := by
  rcases own_F4 r with ⟨a, q⟩ | ⟨a, q⟩ | ⟨a, q⟩ | ⟨a, q⟩ <;> rcases h with ⟨b, k⟩ | ⟨b, k⟩ | ⟨b, k⟩ | ⟨b, k⟩ <;> first | exact a.trans b.symm | (exfalso; omega)
theorem own_nf4 (r m : Int32) (h : (m = 1 ∧ ¬ r.toInt < 128) ∨ (m = 2 ∧ ¬ (128 ≤ r.toInt ∧ r.toInt < 2048)) ∨ (m = 3 ∧ ¬ (2048 ≤ r.toInt ∧ r.toInt < 65536)) ∨ (m = 4 ∧ ¬ 65536 ≤ r.toInt)) : ¬ F4 r = m := by
  rcases own_F4 r with ⟨a, q⟩ | ⟨a, q⟩ | ⟨a, q⟩ | ⟨a, q⟩ <;> rcases h with ⟨b, k⟩ | ⟨b, k⟩ | ⟨b, k⟩ | ⟨b, k⟩ <;> first | (exfalso; omega) | (rw [a, b]; decide)
theorem own_e1 (c : Int32) : (F1 c 1 0).toInt = c.toInt % 128 := by
  unfold F1
  rw [if_pos rfl, if_pos rfl]
  exact c_mask c 127 7 (by decide) (by decide)
theorem own_e20 (c : Int32) : (F1 c 2 0).toInt = 192 + c.toInt / 64 % 32 := by
  unfold F1
  rw [if_pos rfl, if_neg (by decide), if_pos rfl]
  have a := c_ishr c (6 : Int32) 6 (by decide)
  have m := c_mask (c >>> ((6 : Int32) &&& 31)) 31 5 (by decide) (by decide)
  have l : (192 : Int32).toInt = 192 := by decide
  rw [own_or _ _ 5 (by decide) 32 (by decide) (by omega) (by omega) (by omega) (by omega) (by omega)]
  omega
theorem own_e21 (c : Int32) : (F1 c 2 1).toInt = 128 + c.toInt / 1 % 64 := by
  unfold F1
  rw [if_neg (by decide)]
  have a := c_ishr c ((6 : Int32) * (((2 : Int32) - (1 : Int32)) - (1 : Int32))) 0 (by decide)
  have m := c_mask (c >>> (((6 : Int32) * (((2 : Int32) - (1 : Int32)) - (1 : Int32))) &&& 31)) 63 6 (by decide) (by decide)
  have l : (128 : Int32).toInt = 128 := by decide
  rw [own_or _ _ 6 (by decide) 64 (by decide) (by omega) (by omega) (by omega) (by omega) (by omega)]
  omega
theorem own_e30 (c : Int32) : (F1 c 3 0).toInt = 224 + c.toInt / 4096 % 16 := by
  unfold F1
  rw [if_pos rfl, if_neg (by decide), if_neg (by decide), if_pos rfl]
  have a := c_ishr c (12 : Int32) 12 (by decide)
  have m := c_mask (c >>> ((12 : Int32) &&& 31)) 15 4 (by decide) (by decide)
  have l : (224 : Int32).toInt = 224 := by decide
  rw [own_or _ _ 4 (by decide) 16 (by decide) (by omega) (by omega) (by omega) (by omega) (by omega)]
  omega
theorem own_e31 (c : Int32) : (F1 c 3 1).toInt = 128 + c.toInt / 64 % 64 := by
  unfold F1
  rw [if_neg (by decide)]
  have a := c_ishr c ((6 : Int32) * (((3 : Int32) - (1 : Int32)) - (1 : Int32))) 6 (by decide)
  have m := c_mask (c >>> (((6 : Int32) * (((3 : Int32) - (1 : Int32)) - (1 : Int32))) &&& 31)) 63 6 (by decide) (by decide)
  have l : (128 : Int32).toInt = 128 := by decide
  rw [own_or _ _ 6 (by decide) 64 (by decide) (by omega) (by omega) (by omega) (by omega) (by omega)]
  omega
theorem own_e32 (c : Int32) : (F1 c 3 2).toInt = 128 + c.toInt / 1 % 64 := by
  unfold F1
  rw [if_neg (by decide)]
  have a := c_ishr c ((6 : Int32) * (((3 : Int32) - (1 : Int32)) - (2 : Int32))) 0 (by decide)
  have m := c_mask (c >>> (((6 : Int32) * (((3 : Int32) - (1 : Int32)) - (2 : Int32))) &&& 31)) 63 6 (by decide) (by decide)
  have l : (128 : Int32).toInt = 128 := by decide
  rw [own_or _ _ 6 (by decide) 64 (by decide) (by omega) (by omega) (by omega) (by omega) (by omega)]
  omega
theorem own_e40 (c : Int32) : (F1 c 4 0).toInt = 240 + c.toInt / 262144 % 8 := by
  unfold F1
  rw [if_pos rfl, if_neg (by decide), if_neg (by decide), if_neg (by decide)]
  have a := c_ishr c (18 : Int32) 18 (by decide)
  have m := c_mask (c >>> ((18 : Int32) &&& 31)) 7 3 (by decide) (by decide)
  have l : (240 : Int32).toInt = 240 := by decide
  rw [own_or _ _ 3 (by decide) 8 (by decide) (by omega) (by omega) (by omega) (by omega) (by omega)]
  omega
theorem own_e41 (c : Int32) : (F1 c 4 1).toInt = 128 + c.toInt / 4096 % 64 := by
  unfold F1
  rw [if_neg (by decide)]
  have a := c_ishr c ((6 : Int32) * (((4 : Int32) - (1 : Int32)) - (1 : Int32))) 12 (by decide)
  have m := c_mask (c >>> (((6 : Int32) * (((4 : Int32) - (1 : Int32)) - (1 : Int32))) &&& 31)) 63 6 (by decide) (by decide)
  have l : (128 : Int32).toInt = 128 := by decide
  rw [own_or _ _ 6 (by decide) 64 (by decide) (by omega) (by omega) (by omega) (by omega) (by omega)]
  omega
theorem own_e42 (c : Int32) : (F1 c 4 2).toInt = 128 + c.toInt / 64 % 64 := by
  unfold F1
  rw [if_neg (by decide)]
  have a := c_ishr c ((6 : Int32) * (((4 : Int32) - (1 : Int32)) - (2 : Int32))) 6 (by decide)
  have m := c_mask (c >>> (((6 : Int32) * (((4 : Int32) - (1 : Int32)) - (2 : Int32))) &&& 31)) 63 6 (by decide) (by decide)
  have l : (128 : Int32).toInt = 128 := by decide
  rw [own_or _ _ 6 (by decide) 64 (by decide) (by omega) (by omega) (by omega) (by omega) (by omega)]
  omega
theorem own_e43 (c : Int32) : (F1 c 4 3).toInt = 128 + c.toInt / 1 % 64 := by
  unfold F1
  rw [if_neg (by decide)]
  have a := c_ishr c ((6 : Int32) * (((4 : Int32) - (1 : Int32)) - (3 : Int32))) 0 (by decide)
  have m := c_mask (c >>> (((6 : Int32) * (((4 : Int32) - (1 : Int32)) - (3 : Int32))) &&& 31)) 63 6 (by decide) (by decide)
  have l : (128 : Int32).toInt = 128 := by decide
  rw [own_or _ _ 6 (by decide) 64 (by decide) (by omega) (by omega) (by omega) (by omega) (by omega)]
  omega
theorem own_mat (pq r : Int32) (fb : Int32 → Int32) (m : Int32) (hm : F4 r = m) (hm' : m = 2 ∨ m = 3 ∨ m = 4) (k0 : (fb pq) &&& (255 : Int32) = F1 r m 0) (k1 : (fb (pq + (1 : Int32))) &&& (255 : Int32) = F1 r m 1) (k2 : (2 : Int32) < m → (fb (pq + (2 : Int32))) &&& (255 : Int32) = F1 r m 2) (k3 : (3 : Int32) < m → (fb (pq + (3 : Int32))) &&& (255 : Int32) = F1 r m 3) : Fmat pq r fb = true := by
  have z1 : mt_1 pq r fb = true := by
    unfold mt_1 mt_m; rw [hm, if_pos (by rcases hm' with h | h | h <;> rw [h] <;> decide), if_pos (if_pos k0), if_pos k1]
  have z2 : mt_2 pq r fb = true := by
    unfold mt_2 mt_m; rw [hm]
    by_cases h : (2 : Int32) < m
    · rw [if_pos h, if_pos z1, if_pos (k2 h)]
    · rw [if_neg h]; exact z1
  unfold Fmat mt_3 mt_m; rw [hm]
  by_cases h : (3 : Int32) < m
  · rw [if_pos h, if_pos z2, if_pos (k3 h)]
  · rw [if_neg h]; exact z2
theorem own_b (b x : Int32) (h : b.toInt % 256 = x.toInt) : b &&& (255 : Int32) = x := by
  have m := c_mask b 255 8 (by decide) (by decide)
  apply Int32.toInt_inj.mp
  omega
theorem own_sound (pq lm : Int32) (fb : Int32 → Int32) (rb : ∀ j, -128 ≤ (fb j).toInt ∧ (fb j).toInt < 128) (hp : 0 ≤ pq.toInt ∧ pq.toInt ≤ 3) (hl : pq.toInt + 1 ≤ lm.toInt) :
    F2 pq lm fb = -1 ∨ (F3 (F2 pq lm fb) = true ∧ ¬ lm < pq + F4 (F2 pq lm fb) ∧ Fmat pq (F2 pq lm fb) fb = true) := by
  have h := own_F2 pq lm fb _ _ _ _ rfl rfl rfl rfl (rb _) (rb _) (rb _) hp hl _ _ _ rfl rfl rfl
  have q0 := rb pq
  have q1 := rb (pq + 1)
  have q2 := rb (pq + 2)
  have q3 := rb (pq + 3)
  generalize F2 pq lm fb = r at *
  have w2 := own_add pq 2 hp (by decide)
  have w3 := own_add pq 3 hp (by decide)
  have w4 := own_add pq 4 hp (by decide)
  have l2 : (2 : Int32).toInt = 2 := by decide
  have l3 : (3 : Int32).toInt = 3 := by decide
  have l4 : (4 : Int32).toInt = 4 := by decide
  rcases h with ⟨h, -⟩ | ⟨h, g⟩ | ⟨h, g⟩ | ⟨h, g⟩
  · exact Or.inl (Int32.toInt_inj.mp (h.trans (by decide)))
  · right
    unfold A2 at g
    have f4 := own_f4 r 2 (Or.inr (Or.inl ⟨rfl, by omega, by omega⟩))
    refine ⟨(own_F3 r).mpr ⟨by omega, by omega, by omega, by omega, by omega⟩, ?_, own_mat pq r fb 2 f4 (by decide) (own_b _ _ ?_) (own_b _ _ ?_) (fun q => absurd q (by decide)) (fun q => absurd q (by decide))⟩
    · rw [f4, Int32.lt_iff_toInt_lt]; omega
    · rw [own_e20]; omega
    · rw [own_e21]; omega
  · right
    unfold A3 at g
    have f4 := own_f4 r 3 (Or.inr (Or.inr (Or.inl ⟨rfl, by omega, by omega⟩)))
    refine ⟨(own_F3 r).mpr ⟨by omega, by omega, by omega, by omega, by omega⟩, ?_, own_mat pq r fb 3 f4 (by decide) (own_b _ _ ?_) (own_b _ _ ?_) (fun _ => own_b _ _ ?_) (fun q => absurd q (by decide))⟩
    · rw [f4, Int32.lt_iff_toInt_lt]; omega
    · rw [own_e30]; omega
    · rw [own_e31]; omega
    · rw [own_e32]; omega
  · right
    unfold A4 at g
    have f4 := own_f4 r 4 (Or.inr (Or.inr (Or.inr ⟨rfl, by omega⟩)))
    refine ⟨(own_F3 r).mpr ⟨by omega, by omega, by omega, by omega, by omega⟩, ?_, own_mat pq r fb 4 f4 (by decide) (own_b _ _ ?_) (own_b _ _ ?_) (fun _ => own_b _ _ ?_) (fun _ => own_b _ _ ?_)⟩
    · rw [f4, Int32.lt_iff_toInt_lt]; omega
    · rw [own_e40]; omega
    · rw [own_e41]; omega
    · rw [own_e42]; omega
    · rw [own_e43]; omega
set_option maxHeartbeats 4000000 in
theorem own_plant1 (pq lm c : Int32) (fb : Int32 → Int32) (rb : ∀ j, -128 ≤ (fb j).toInt ∧ (fb j).toInt < 128) (hp : 0 ≤ pq.toInt ∧ pq.toInt ≤ 3) (hl : pq.toInt + 1 ≤ lm.toInt) (c0 : 0 ≤ c.toInt) (c1 : c.toInt < 128) (j0 : fb pq = (F1 c 1 0).toInt8.toInt32) :
    F2 pq lm fb = (if F3 c = true then (if F4 c = (1 : Int32) then (if lm < pq + (1 : Int32) then (-1 : Int32) else c) else (-1 : Int32)) else (-1 : Int32)) := by
  have h := own_F2 pq lm fb _ _ _ _ rfl rfl rfl rfl (rb _) (rb _) (rb _) hp hl _ _ _ rfl rfl rfl
  have v0 := c_i2b (F1 c 1 0)
  rw [← j0, own_e1] at v0
  generalize F2 pq lm fb = r at *
  have w := own_add pq 1 hp (by decide)
  have l : (1 : Int32).toInt = 1 := by decide
  have lm1 : (-1 : Int32).toInt = -1 := by decide
  have f3 := own_F3 c
  clear j0 rb
  generalize (fb pq).toInt = y0 at *
  generalize (fb (pq + (1 : Int32))).toInt = y1 at *
  generalize (fb (pq + (2 : Int32))).toInt = y2 at *
  generalize (fb (pq + (3 : Int32))).toInt = y3 at *
  generalize (pq + (1 : Int32)) = ww at *
  by_cases a3 : F3 c = true
  · have a3' := f3.mp a3
    rw [if_pos a3]
    by_cases a4 : F4 c = (1 : Int32)
    · have a4' := own_F4 c
      rw [a4] at a4'
      have a5 : c.toInt < 128 := by
        rcases a4' with ⟨z, q⟩ | ⟨z, q⟩ | ⟨z, q⟩ | ⟨z, q⟩
        · exact q
        · exact absurd z (by decide)
        · exact absurd z (by decide)
        · exact absurd z (by decide)
      rw [if_pos a4]
      by_cases a6 : lm < ww
      · rw [if_pos a6]
        rw [Int32.lt_iff_toInt_lt] at a6
        apply Int32.toInt_inj.mp
        unfold A2 A3 A4 at h
        rcases h with ⟨h, g⟩ | ⟨h, g⟩ | ⟨h, g⟩ | ⟨h, g⟩ <;> omega
      · rw [if_neg a6]
        rw [Int32.lt_iff_toInt_lt] at a6
        apply Int32.toInt_inj.mp
        unfold A2 A3 A4 at h
        rcases h with ⟨h, g⟩ | ⟨h, g⟩ | ⟨h, g⟩ | ⟨h, g⟩ <;> omega
    · rw [if_neg a4]
      have a5 : ¬ (c.toInt < 128) := fun q => a4 (own_f4 c 1 (Or.inl ⟨rfl, q⟩))
      apply Int32.toInt_inj.mp
      unfold A2 A3 A4 at h
      rcases h with ⟨h, g⟩ | ⟨h, g⟩ | ⟨h, g⟩ | ⟨h, g⟩ <;> omega
  · rw [if_neg a3]
    have a5 : ¬ (128 ≤ c.toInt ∧ c.toInt ≤ 1114111 ∧ (c.toInt < 55296 ∨ 57344 ≤ c.toInt) ∧ c.toInt ≠ 65534 ∧ c.toInt ≠ 65535) := fun q => a3 (f3.mpr q)
    apply Int32.toInt_inj.mp
    unfold A2 A3 A4 at h
    rcases h with ⟨h, g⟩ | ⟨h, g⟩ | ⟨h, g⟩ | ⟨h, g⟩ <;> omega
set_option maxHeartbeats 4000000 in
theorem own_plant2 (pq lm c : Int32) (fb : Int32 → Int32) (rb : ∀ j, -128 ≤ (fb j).toInt ∧ (fb j).toInt < 128) (hp : 0 ≤ pq.toInt ∧ pq.toInt ≤ 3) (hl : pq.toInt + 1 ≤ lm.toInt) (c0 : 0 ≤ c.toInt) (c1 : c.toInt < 2048) (j0 : fb pq = (F1 c 2 0).toInt8.toInt32) (j1 : fb (pq + (1 : Int32)) = (F1 c 2 1).toInt8.toInt32) :
    F2 pq lm fb = (if F3 c = true then (if F4 c = (2 : Int32) then (if lm < pq + (2 : Int32) then (-1 : Int32) else c) else (-1 : Int32)) else (-1 : Int32)) := by
  have h := own_F2 pq lm fb _ _ _ _ rfl rfl rfl rfl (rb _) (rb _) (rb _) hp hl _ _ _ rfl rfl rfl
  have v0 := c_i2b (F1 c 2 0)
  rw [← j0, own_e20] at v0
  have v1 := c_i2b (F1 c 2 1)
  rw [← j1, own_e21] at v1
  generalize F2 pq lm fb = r at *
  have w := own_add pq 2 hp (by decide)
  have l : (2 : Int32).toInt = 2 := by decide
  have lm1 : (-1 : Int32).toInt = -1 := by decide
  have f3 := own_F3 c
  clear j0 j1 rb
  generalize (fb pq).toInt = y0 at *
  generalize (fb (pq + (1 : Int32))).toInt = y1 at *
  generalize (fb (pq + (2 : Int32))).toInt = y2 at *
  generalize (fb (pq + (3 : Int32))).toInt = y3 at *
  generalize (pq + (2 : Int32)) = ww at *
  by_cases a3 : F3 c = true
  · have a3' := f3.mp a3
    rw [if_pos a3]
    by_cases a4 : F4 c = (2 : Int32)
    · have a4' := own_F4 c
      rw [a4] at a4'
      have a5 : 128 ≤ c.toInt ∧ c.toInt < 2048 := by
        rcases a4' with ⟨z, q⟩ | ⟨z, q⟩ | ⟨z, q⟩ | ⟨z, q⟩
        · exact absurd z (by decide)
        · exact q
        · exact absurd z (by decide)
        · exact absurd z (by decide)
      rw [if_pos a4]
      by_cases a6 : lm < ww
      · rw [if_pos a6]
        rw [Int32.lt_iff_toInt_lt] at a6
        apply Int32.toInt_inj.mp
        unfold A2 A3 A4 at h
        rcases h with ⟨h, g⟩ | ⟨h, g⟩ | ⟨h, g⟩ | ⟨h, g⟩ <;> omega
      · rw [if_neg a6]
        rw [Int32.lt_iff_toInt_lt] at a6
        apply Int32.toInt_inj.mp
        unfold A2 A3 A4 at h
        rcases h with ⟨h, g⟩ | ⟨h, g⟩ | ⟨h, g⟩ | ⟨h, g⟩ <;> omega
    · rw [if_neg a4]
      have a5 : ¬ (128 ≤ c.toInt ∧ c.toInt < 2048) := fun q => a4 (own_f4 c 2 (Or.inr (Or.inl ⟨rfl, q⟩)))
      apply Int32.toInt_inj.mp
      unfold A2 A3 A4 at h
      rcases h with ⟨h, g⟩ | ⟨h, g⟩ | ⟨h, g⟩ | ⟨h, g⟩ <;> omega
  · rw [if_neg a3]
    have a5 : ¬ (128 ≤ c.toInt ∧ c.toInt ≤ 1114111 ∧ (c.toInt < 55296 ∨ 57344 ≤ c.toInt) ∧ c.toInt ≠ 65534 ∧ c.toInt ≠ 65535) := fun q => a3 (f3.mpr q)
    apply Int32.toInt_inj.mp
    unfold A2 A3 A4 at h
    rcases h with ⟨h, g⟩ | ⟨h, g⟩ | ⟨h, g⟩ | ⟨h, g⟩ <;> omega
set_option maxHeartbeats 4000000 in
theorem own_plant3 (pq lm c : Int32) (fb : Int32 → Int32) (rb : ∀ j, -128 ≤ (fb j).toInt ∧ (fb j).toInt < 128) (hp : 0 ≤ pq.toInt ∧ pq.toInt ≤ 3) (hl : pq.toInt + 1 ≤ lm.toInt) (c0 : 0 ≤ c.toInt) (c1 : c.toInt < 65536) (j0 : fb pq = (F1 c 3 0).toInt8.toInt32) (j1 : fb (pq + (1 : Int32)) = (F1 c 3 1).toInt8.toInt32) (j2 : fb (pq + (2 : Int32)) = (F1 c 3 2).toInt8.toInt32) :
    F2 pq lm fb = (if F3 c = true then (if F4 c = (3 : Int32) then (if lm < pq + (3 : Int32) then (-1 : Int32) else c) else (-1 : Int32)) else (-1 : Int32)) := by
  have h := own_F2 pq lm fb _ _ _ _ rfl rfl rfl rfl (rb _) (rb _) (rb _) hp hl _ _ _ rfl rfl rfl
  have v0 := c_i2b (F1 c 3 0)
  rw [← j0, own_e30] at v0
  have v1 := c_i2b (F1 c 3 1)
  rw [← j1, own_e31] at v1
  have v2 := c_i2b (F1 c 3 2)
  rw [← j2, own_e32] at v2
  generalize F2 pq lm fb = r at *
  have w := own_add pq 3 hp (by decide)
  have l : (3 : Int32).toInt = 3 := by decide
  have lm1 : (-1 : Int32).toInt = -1 := by decide
  have f3 := own_F3 c
  clear j0 j1 j2 rb
  generalize (fb pq).toInt = y0 at *
  generalize (fb (pq + (1 : Int32))).toInt = y1 at *
  generalize (fb (pq + (2 : Int32))).toInt = y2 at *
  generalize (fb (pq + (3 : Int32))).toInt = y3 at *
  generalize (pq + (3 : Int32)) = ww at *
  by_cases a3 : F3 c = true
  · have a3' := f3.mp a3
    rw [if_pos a3]
    by_cases a4 : F4 c = (3 : Int32)
    · have a4' := own_F4 c
      rw [a4] at a4'
      have a5 : 2048 ≤ c.toInt ∧ c.toInt < 65536 := by
        rcases a4' with ⟨z, q⟩ | ⟨z, q⟩ | ⟨z, q⟩ | ⟨z, q⟩
        · exact absurd z (by decide)
        · exact absurd z (by decide)
        · exact q
        · exact absurd z (by decide)
      rw [if_pos a4]
      by_cases a6 : lm < ww
      · rw [if_pos a6]
        rw [Int32.lt_iff_toInt_lt] at a6
        apply Int32.toInt_inj.mp
        unfold A2 A3 A4 at h
        rcases h with ⟨h, g⟩ | ⟨h, g⟩ | ⟨h, g⟩ | ⟨h, g⟩ <;> omega
      · rw [if_neg a6]
        rw [Int32.lt_iff_toInt_lt] at a6
        apply Int32.toInt_inj.mp
        unfold A2 A3 A4 at h
        rcases h with ⟨h, g⟩ | ⟨h, g⟩ | ⟨h, g⟩ | ⟨h, g⟩ <;> omega
    · rw [if_neg a4]
      have a5 : ¬ (2048 ≤ c.toInt ∧ c.toInt < 65536) := fun q => a4 (own_f4 c 3 (Or.inr (Or.inr (Or.inl ⟨rfl, q⟩))))
      apply Int32.toInt_inj.mp
      unfold A2 A3 A4 at h
      rcases h with ⟨h, g⟩ | ⟨h, g⟩ | ⟨h, g⟩ | ⟨h, g⟩ <;> omega
  · rw [if_neg a3]
    have a5 : ¬ (128 ≤ c.toInt ∧ c.toInt ≤ 1114111 ∧ (c.toInt < 55296 ∨ 57344 ≤ c.toInt) ∧ c.toInt ≠ 65534 ∧ c.toInt ≠ 65535) := fun q => a3 (f3.mpr q)
    apply Int32.toInt_inj.mp
    unfold A2 A3 A4 at h
    rcases h with ⟨h, g⟩ | ⟨h, g⟩ | ⟨h, g⟩ | ⟨h, g⟩ <;> omega
set_option maxHeartbeats 4000000 in
theorem own_plant4 (pq lm c : Int32) (fb : Int32 → Int32) (rb : ∀ j, -128 ≤ (fb j).toInt ∧ (fb j).toInt < 128) (hp : 0 ≤ pq.toInt ∧ pq.toInt ≤ 3) (hl : pq.toInt + 1 ≤ lm.toInt) (c0 : 0 ≤ c.toInt) (c1 : c.toInt < 2097152) (j0 : fb pq = (F1 c 4 0).toInt8.toInt32) (j1 : fb (pq + (1 : Int32)) = (F1 c 4 1).toInt8.toInt32) (j2 : fb (pq + (2 : Int32)) = (F1 c 4 2).toInt8.toInt32) (j3 : fb (pq + (3 : Int32)) = (F1 c 4 3).toInt8.toInt32) :
    F2 pq lm fb = (if F3 c = true then (if F4 c = (4 : Int32) then (if lm < pq + (4 : Int32) then (-1 : Int32) else c) else (-1 : Int32)) else (-1 : Int32)) := by
  have h := own_F2 pq lm fb _ _ _ _ rfl rfl rfl rfl (rb _) (rb _) (rb _) hp hl _ _ _ rfl rfl rfl
  have v0 := c_i2b (F1 c 4 0)
  rw [← j0, own_e40] at v0
  have v1 := c_i2b (F1 c 4 1)
  rw [← j1, own_e41] at v1
  have v2 := c_i2b (F1 c 4 2)
  rw [← j2, own_e42] at v2
  have v3 := c_i2b (F1 c 4 3)
  rw [← j3, own_e43] at v3
  generalize F2 pq lm fb = r at *
  have w := own_add pq 4 hp (by decide)
  have l : (4 : Int32).toInt = 4 := by decide
  have lm1 : (-1 : Int32).toInt = -1 := by decide
  have f3 := own_F3 c
  clear j0 j1 j2 j3 rb
  generalize (fb pq).toInt = y0 at *
  generalize (fb (pq + (1 : Int32))).toInt = y1 at *
  generalize (fb (pq + (2 : Int32))).toInt = y2 at *
  generalize (fb (pq + (3 : Int32))).toInt = y3 at *
  generalize (pq + (4 : Int32)) = ww at *
  by_cases a3 : F3 c = true
  · have a3' := f3.mp a3
    rw [if_pos a3]
    by_cases a4 : F4 c = (4 : Int32)
    · have a4' := own_F4 c
      rw [a4] at a4'
      have a5 : 65536 ≤ c.toInt := by
        rcases a4' with ⟨z, q⟩ | ⟨z, q⟩ | ⟨z, q⟩ | ⟨z, q⟩
        · exact absurd z (by decide)
        · exact absurd z (by decide)
        · exact absurd z (by decide)
        · exact q
      rw [if_pos a4]
      by_cases a6 : lm < ww
      · rw [if_pos a6]
        rw [Int32.lt_iff_toInt_lt] at a6
        apply Int32.toInt_inj.mp
        unfold A2 A3 A4 at h
        rcases h with ⟨h, g⟩ | ⟨h, g⟩ | ⟨h, g⟩ | ⟨h, g⟩ <;> omega
      · rw [if_neg a6]
        rw [Int32.lt_iff_toInt_lt] at a6
        apply Int32.toInt_inj.mp
        unfold A2 A3 A4 at h
        rcases h with ⟨h, g⟩ | ⟨h, g⟩ | ⟨h, g⟩ | ⟨h, g⟩ <;> omega
    · rw [if_neg a4]
      have a5 : ¬ (65536 ≤ c.toInt) := fun q => a4 (own_f4 c 4 (Or.inr (Or.inr (Or.inr ⟨rfl, q⟩))))
      apply Int32.toInt_inj.mp
      unfold A2 A3 A4 at h
      rcases h with ⟨h, g⟩ | ⟨h, g⟩ | ⟨h, g⟩ | ⟨h, g⟩ <;> omega
  · rw [if_neg a3]
    have a5 : ¬ (128 ≤ c.toInt ∧ c.toInt ≤ 1114111 ∧ (c.toInt < 55296 ∨ 57344 ≤ c.toInt) ∧ c.toInt ≠ 65534 ∧ c.toInt ≠ 65535) := fun q => a3 (f3.mpr q)
    apply Int32.toInt_inj.mp
    unfold A2 A3 A4 at h
    rcases h with ⟨h, g⟩ | ⟨h, g⟩ | ⟨h, g⟩ | ⟨h, g⟩ <;> omega
theorem own_up {f : Int32 → Int32} (j : Int32) {v : Int32} (hf : ∀ i, -128 ≤ (f i).toInt ∧ (f i).toInt < 128) (hv : -128 ≤ v.toInt ∧ v.toInt < 128) : ∀ i, -128 ≤ (@upA Int32 f j v i).toInt ∧ (@upA Int32 f j v i).toInt < 128 := by
  intro i
  unfold upA
  split
  · exact hv
  · exact hf i
theorem own_in (q2 : Int64) : ∀ i, -128 ≤ (v_in q2 i).toInt ∧ (v_in q2 i).toInt < 128 := by
  unfold v_in
  exact own_up _ (own_up _ (own_up _ (own_up _ (own_up _ (own_up _ (own_up _ (own_up _ (fun _ => by decide) (c_i2b _).2) (c_i2b _).2) (c_i2b _).2) (c_i2b _).2) (c_i2b _).2) (c_i2b _).2) (c_i2b _).2) (c_i2b _).2
theorem own_a0 (p0 p1 : Int32) (q2 : Int64) : ∀ i, -128 ≤ (v_a0 p0 p1 q2 i).toInt ∧ (v_a0 p0 p1 q2 i).toInt < 128 := by
  unfold v_a0; exact own_up _ (own_in q2) (c_i2b _).2
theorem own_a1 (p0 p1 : Int32) (q2 : Int64) : ∀ i, -128 ≤ (v_a1 p0 p1 q2 i).toInt ∧ (v_a1 p0 p1 q2 i).toInt < 128 := by
  unfold v_a1; split
  · exact own_up _ (own_a0 p0 p1 q2) (c_i2b _).2
  · exact own_a0 p0 p1 q2
theorem own_a2 (p0 p1 : Int32) (q2 : Int64) : ∀ i, -128 ≤ (v_a2 p0 p1 q2 i).toInt ∧ (v_a2 p0 p1 q2 i).toInt < 128 := by
  unfold v_a2; split
  · exact own_up _ (own_a1 p0 p1 q2) (c_i2b _).2
  · exact own_a1 p0 p1 q2
theorem own_a3 (p0 p1 : Int32) (q2 : Int64) : ∀ i, -128 ≤ (v_a3 p0 p1 q2 i).toInt ∧ (v_a3 p0 p1 q2 i).toInt < 128 := by
  unfold v_a3; split
  · exact own_up _ (own_a2 p0 p1 q2) (c_i2b _).2
  · exact own_a2 p0 p1 q2
theorem own_fb (p0 p1 : Int32) (q2 : Int64) : ∀ i, -128 ≤ (v_fb p0 p1 q2 i).toInt ∧ (v_fb p0 p1 q2 i).toInt < 128 := by
  unfold v_fb; split
  · exact own_a3 p0 p1 q2
  · exact own_in q2
theorem own_hp (p1 : Int32) : 0 ≤ (v_p p1).toInt ∧ (v_p p1).toInt ≤ 3 := by
  have h := own_p p1
  simp only [Int32.lt_iff_toInt_lt] at h
  have l0 : (0 : Int32).toInt = 0 := by decide
  have l4 : (4 : Int32).toInt = 4 := by decide
  omega
theorem own_lim (p1 : Int32) : (v_p p1).toInt + 1 ≤ (v_lim p1).toInt := by
  have h := own_hp p1
  have l8 : (8 : Int32).toInt = 8 := by decide
  have l1 : (1 : Int32).toInt = 1 := by decide
  have s := c_isub 8 (v_p p1)
  have sb := Int32.toInt_lt (8 - v_p p1)
  have sb' := Int32.le_toInt (8 - v_p p1)
  have u := c_iushr p1 5 5 (by decide) (by decide)
  have r := (c_iremV ((p1.toUInt32 >>> ((5 : Int32) &&& 31).toUInt32).toInt32) (8 - v_p p1)).1 (by omega) (by omega)
  have a1 := own_add (v_p p1) 1 h (by decide)
  unfold v_lim
  have a2 := c_iadd ((v_p p1) + (1 : Int32)) (((p1.toUInt32 >>> ((5 : Int32) &&& 31).toUInt32).toInt32) % ((8 : Int32) - (v_p p1)))
  have ab := Int32.toInt_lt (((v_p p1) + (1 : Int32)) + (((p1.toUInt32 >>> ((5 : Int32) &&& 31).toUInt32).toInt32) % ((8 : Int32) - (v_p p1))))
  have ab' := Int32.le_toInt (((v_p p1) + (1 : Int32)) + (((p1.toUInt32 >>> ((5 : Int32) &&& 31).toUInt32).toInt32) % ((8 : Int32) - (v_p p1))))
  omega
theorem own_snd (p0 p1 : Int32) (q2 : Int64) : v_snd p0 p1 q2 = true := by
  unfold v_snd v_sd v_r
  rcases own_sound (v_p p1) (v_lim p1) (v_fb p0 p1 q2) (own_fb p0 p1 q2) (own_hp p1) (own_lim p1) with h | ⟨h1, h2, h3⟩
  · exact if_pos h
  · by_cases h : F2 (v_p p1) (v_lim p1) (v_fb p0 p1 q2) = (-1 : Int32)
    · exact if_pos h
    · rw [if_neg h, if_pos h1, if_neg h2]; exact if_pos h3
theorem own_n (p1 : Int32) : v_n p1 = 1 ∨ v_n p1 = 2 ∨ v_n p1 = 3 ∨ v_n p1 = 4 := by
  have q := c_mask ((p1.toUInt32 >>> ((1 : Int32) &&& 31).toUInt32).toInt32) 3 2 (by decide) (by decide)
  have l1 : (1 : Int32).toInt = 1 := by decide
  have l2 : (2 : Int32).toInt = 2 := by decide
  have l3 : (3 : Int32).toInt = 3 := by decide
  have l4 : (4 : Int32).toInt = 4 := by decide
  simp only [v_n, ← Int32.toInt_inj]
  have a := c_iadd 1 (((p1.toUInt32 >>> ((1 : Int32) &&& 31).toUInt32).toInt32) &&& (3 : Int32))
  have b := Int32.toInt_lt (1 + (((p1.toUInt32 >>> ((1 : Int32) &&& 31).toUInt32).toInt32) &&& (3 : Int32)))
  have b' := Int32.le_toInt (1 + (((p1.toUInt32 >>> ((1 : Int32) &&& 31).toUInt32).toInt32) &&& (3 : Int32)))
  omega
theorem own_ne (p : Int32) (h : 0 ≤ p.toInt ∧ p.toInt ≤ 3) : ¬ p = p + 1 ∧ ¬ p = p + 2 ∧ ¬ p = p + 3 ∧ ¬ p + 1 = p + 2 ∧ ¬ p + 1 = p + 3 ∧ ¬ p + 2 = p + 3 := by
  have q1 := own_add p 1 h (by decide)
  have q2 := own_add p 2 h (by decide)
  have q3 := own_add p 3 h (by decide)
  have l1 : (1 : Int32).toInt = 1 := by decide
  have l2 : (2 : Int32).toInt = 2 := by decide
  have l3 : (3 : Int32).toInt = 3 := by decide
  simp only [← Int32.toInt_inj]
  omega
theorem own_law1 (p0 : Int32) (p1 : Int32) (q2 : Int64) (hc67 : (v_pl p1) = true) : lawE1 p0 p1 q2 = true := by
  unfold lawE1
  rw [if_pos (own_snd p0 p1 q2)]
  refine if_pos ?_
  obtain ⟨n1, n2, n3, n4, n5, n6⟩ := own_ne (v_p p1) (own_hp p1)
  have hf : v_fb p0 p1 q2 = v_a3 p0 p1 q2 := if_pos hc67
  have rb := own_a3 p0 p1 q2
  unfold v_r v_exp v_ex
  rw [hf]
  rcases own_n p1 with h | h | h | h
  · have hm : v_mask p1 = (127 : Int32) := by unfold v_mask; rw [h]; decide
    have hc : (v_c p0 p1).toInt = p0.toInt % 128 := by unfold v_c; rw [hm]; exact c_mask p0 127 7 (by decide) (by decide)
    have g1 : v_a1 p0 p1 q2 = v_a0 p0 p1 q2 := by unfold v_a1; rw [h]; exact if_neg (by decide)
    have g2 : v_a2 p0 p1 q2 = v_a1 p0 p1 q2 := by unfold v_a2; rw [h]; exact if_neg (by decide)
    have g3 : v_a3 p0 p1 q2 = v_a2 p0 p1 q2 := by unfold v_a3; rw [h]; exact if_neg (by decide)
    have g0 : v_a0 p0 p1 q2 = @upA Int32 (v_in q2) (v_p p1) ((F1 (v_c p0 p1) 1 (0 : Int32)).toInt8.toInt32) := by unfold v_a0; rw [h]
    rw [h]
    exact own_plant1 (v_p p1) (v_lim p1) (v_c p0 p1) (v_a3 p0 p1 q2) rb (own_hp p1) (own_lim p1) (by omega) (by omega) (by rw [g3, g2, g1, g0]; exact upA_hit)
  · have hm : v_mask p1 = (2047 : Int32) := by unfold v_mask; rw [h]; decide
    have hc : (v_c p0 p1).toInt = p0.toInt % 2048 := by unfold v_c; rw [hm]; exact c_mask p0 2047 11 (by decide) (by decide)
    have g1 : v_a1 p0 p1 q2 = @upA Int32 (v_a0 p0 p1 q2) ((v_p p1) + (1 : Int32)) ((F1 (v_c p0 p1) 2 (1 : Int32)).toInt8.toInt32) := by unfold v_a1; rw [h]; exact if_pos (by decide)
    have g2 : v_a2 p0 p1 q2 = v_a1 p0 p1 q2 := by unfold v_a2; rw [h]; exact if_neg (by decide)
    have g3 : v_a3 p0 p1 q2 = v_a2 p0 p1 q2 := by unfold v_a3; rw [h]; exact if_neg (by decide)
    have g0 : v_a0 p0 p1 q2 = @upA Int32 (v_in q2) (v_p p1) ((F1 (v_c p0 p1) 2 (0 : Int32)).toInt8.toInt32) := by unfold v_a0; rw [h]
    rw [h]
    exact own_plant2 (v_p p1) (v_lim p1) (v_c p0 p1) (v_a3 p0 p1 q2) rb (own_hp p1) (own_lim p1) (by omega) (by omega) (by rw [g3, g2, g1, g0]; exact ((upA_miss n1).trans upA_hit)) (by rw [g3, g2, g1, g0]; exact upA_hit)
  · have hm : v_mask p1 = (65535 : Int32) := by unfold v_mask; rw [h]; decide
    have hc : (v_c p0 p1).toInt = p0.toInt % 65536 := by unfold v_c; rw [hm]; exact c_mask p0 65535 16 (by decide) (by decide)
    have g1 : v_a1 p0 p1 q2 = @upA Int32 (v_a0 p0 p1 q2) ((v_p p1) + (1 : Int32)) ((F1 (v_c p0 p1) 3 (1 : Int32)).toInt8.toInt32) := by unfold v_a1; rw [h]; exact if_pos (by decide)
    have g2 : v_a2 p0 p1 q2 = @upA Int32 (v_a1 p0 p1 q2) ((v_p p1) + (2 : Int32)) ((F1 (v_c p0 p1) 3 (2 : Int32)).toInt8.toInt32) := by unfold v_a2; rw [h]; exact if_pos (by decide)
    have g3 : v_a3 p0 p1 q2 = v_a2 p0 p1 q2 := by unfold v_a3; rw [h]; exact if_neg (by decide)
    have g0 : v_a0 p0 p1 q2 = @upA Int32 (v_in q2) (v_p p1) ((F1 (v_c p0 p1) 3 (0 : Int32)).toInt8.toInt32) := by unfold v_a0; rw [h]
    rw [h]
    exact own_plant3 (v_p p1) (v_lim p1) (v_c p0 p1) (v_a3 p0 p1 q2) rb (own_hp p1) (own_lim p1) (by omega) (by omega) (by rw [g3, g2, g1, g0]; exact ((upA_miss n2).trans ((upA_miss n1).trans upA_hit))) (by rw [g3, g2, g1, g0]; exact ((upA_miss n4).trans upA_hit)) (by rw [g3, g2, g1, g0]; exact upA_hit)
  · have hm : v_mask p1 = (2097151 : Int32) := by unfold v_mask; rw [h]; decide
    have hc : (v_c p0 p1).toInt = p0.toInt % 2097152 := by unfold v_c; rw [hm]; exact c_mask p0 2097151 21 (by decide) (by decide)
    have g1 : v_a1 p0 p1 q2 = @upA Int32 (v_a0 p0 p1 q2) ((v_p p1) + (1 : Int32)) ((F1 (v_c p0 p1) 4 (1 : Int32)).toInt8.toInt32) := by unfold v_a1; rw [h]; exact if_pos (by decide)
    have g2 : v_a2 p0 p1 q2 = @upA Int32 (v_a1 p0 p1 q2) ((v_p p1) + (2 : Int32)) ((F1 (v_c p0 p1) 4 (2 : Int32)).toInt8.toInt32) := by unfold v_a2; rw [h]; exact if_pos (by decide)
    have g3 : v_a3 p0 p1 q2 = @upA Int32 (v_a2 p0 p1 q2) ((v_p p1) + (3 : Int32)) ((F1 (v_c p0 p1) 4 (3 : Int32)).toInt8.toInt32) := by unfold v_a3; rw [h]; exact if_pos (by decide)
    have g0 : v_a0 p0 p1 q2 = @upA Int32 (v_in q2) (v_p p1) ((F1 (v_c p0 p1) 4 (0 : Int32)).toInt8.toInt32) := by unfold v_a0; rw [h]
    rw [h]
    exact own_plant4 (v_p p1) (v_lim p1) (v_c p0 p1) (v_a3 p0 p1 q2) rb (own_hp p1) (own_lim p1) (by omega) (by omega) (by rw [g3, g2, g1, g0]; exact ((upA_miss n3).trans ((upA_miss n2).trans ((upA_miss n1).trans upA_hit)))) (by rw [g3, g2, g1, g0]; exact ((upA_miss n5).trans ((upA_miss n4).trans upA_hit))) (by rw [g3, g2, g1, g0]; exact ((upA_miss n6).trans upA_hit)) (by rw [g3, g2, g1, g0]; exact upA_hit)
theorem own_law2 (p0 : Int32) (p1 : Int32) (q2 : Int64) (hc67 : ¬ ((v_pl p1) = true)) : lawE2 p0 p1 q2 = true := own_snd p0 p1 q2
def Q0 (Z : State) (p0 : Int32) (p1 : Int32) (q2 : Int64) (h0 : Heap) (n0 : Nat) (v : Option Value) (h : Heap) (L : List Loc) : Prop := v = some (.int (1 : Int32)) ∧ Fr n0 L
set_option maxRecDepth 65536 in
set_option maxHeartbeats 40000000 in
theorem rm0 (l : Launch) (Z : State) (a0 : Array Value) (hw : ∀ d ∈ tables_1, d.before a0 Z = true) (ws : List Jvm.Cond) (p0 : Int32) (p1 : Int32) (q2 : Int64) (h0 : Heap) (n0 : Nat) (Z0 : n0 ≤ h0.size) :
    MetFree l x (head1 (Jvm.Cond.code x code maxLocals ret :: ws) room_1) (fun a U => a = #[(.int p0), (.int p1), (.long q2)] ∧ Z.Warmed39 U.vm ∧ U.heap = h0) (fun _ _ _ _ _ => True) (fun _ U o U' => ∃ v L, o = .returned v ∧ Q0 Z p0 p1 q2 h0 n0 v U'.heap L ∧ FrameEnd U o U' L room_1.cells room_1.slots) := by
  refine MetFree.of_bodySF (plainFor_of_name pn_1) hisR ?_
  intro p e s m args below meth c s₁ Bd hml0 hP hK
  obtain ⟨rfl, hZ, hh⟩ := hP
  have hx := Bd.exec
  have hby := Bd.bytes
  have hml : c.maxLocals = 14 := hml0
  have hown : s.vm.findClass "com/example/merkki/merkki/Utf8SequencePinLaw" = some m.cls := findClass_of_methodNamed Bd.named
  have hnm := (name_of_methodNamed Bd.named Bd.method).1
  have X0 : Stand p l e room_1 s m #[(.int p0), (.int p1), (.long q2)] below meth c s₁ [] 0 0 := Stand.of_body Bd
  have e0 : s₁.heap = h0 := by rw [← hh, Bd.state]; rfl
  have N0 := Fr.nil n0
  have pre0 : ∀ t, Steps p.tables e below (s₁.setTop (mkF m 0 #[.val (.int p0), .val (.int p1), .val (.long q2), .second, .unset, .unset, .unset, .unset, .unset, .unset, .unset, .unset, .unset, .unset] [])) t → Steps p.tables e below (s₁.setTop (entryFrame m #[(.int p0), (.int p1), (.long q2)] maxLocals)) t := fun t k => castTop (ef_0 m p0 p1 q2) k
  obtain ⟨T1, h1, k1, X1, e1, E1, A1, st1⟩ := newP X0 hx hZ (hw _ (List.mem_of_getElem? (i := 0) rfl)) e0 (g := (mkF m 2 #[.val (.int p0), .val (.int p1), .val (.long q2), .second, .unset, .unset, .unset, .unset, .unset, .unset, .unset, .unset, .unset, .unset] [(.int (8 : Int32))])) rfl (hb hby at_2) rfl (by decide) (cap := 8) (by decide) (by decide) (by decide) (by decide)
  obtain ⟨b1, g1⟩ : ∃ z, z = h0.size := ⟨_, rfl⟩
  rw [← g1] at A1 st1
  have ge_b1 : n0 ≤ b1 := Nat.le_trans Z0 (Nat.le_of_eq g1.symm)
  have Z1 : n0 ≤ h1.size := Nat.le_trans Z0 E1.1
  have V1 := AI.newB A1 (by decide)
  obtain ⟨T2, h2, X2, e2, W2, V2, st2⟩ := wrB X1 hx hZ e1 V1 (j := (0 : Int32)) ⟨by decide, by decide⟩ (nar_byte _) (g := (mkF m 12 #[.val (.int p0), .val (.int p1), .val (.long q2), .second, .val (.ref b1), .unset, .unset, .unset, .unset, .unset, .unset, .unset, .unset, .unset] [(.int ((q2.toInt32).toInt8.toInt32)), (.int (0 : Int32)), (.ref b1)])) rfl rfl (hb hby at_12)
  have Z2 : n0 ≤ h2.size := Nat.le_trans Z1 (Keep.of_wr W2).1
  have N2 := Fr.snoc X2 N0 ge_b1
  obtain ⟨T3, h3, X3, e3, W3, V3, st3⟩ := wrB X2 hx hZ e2 V2 (j := (1 : Int32)) ⟨by decide, by decide⟩ (nar_byte _) (g := (mkF m 22 #[.val (.int p0), .val (.int p1), .val (.long q2), .second, .val (.ref b1), .unset, .unset, .unset, .unset, .unset, .unset, .unset, .unset, .unset] [(.int ((((q2.toUInt64 >>> ((8 : Int32) &&& 0x3f).toInt64.toUInt64).toInt64).toInt32).toInt8.toInt32)), (.int (1 : Int32)), (.ref b1)])) rfl rfl (hb hby at_22)
  have Z3 : n0 ≤ h3.size := Nat.le_trans Z2 (Keep.of_wr W3).1
  have N3 := Fr.snoc X3 N2 ge_b1
  obtain ⟨T4, h4, X4, e4, W4, V4, st4⟩ := wrB X3 hx hZ e3 V3 (j := (2 : Int32)) ⟨by decide, by decide⟩ (nar_byte _) (g := (mkF m 32 #[.val (.int p0), .val (.int p1), .val (.long q2), .second, .val (.ref b1), .unset, .unset, .unset, .unset, .unset, .unset, .unset, .unset, .unset] [(.int ((((q2.toUInt64 >>> ((16 : Int32) &&& 0x3f).toInt64.toUInt64).toInt64).toInt32).toInt8.toInt32)), (.int (2 : Int32)), (.ref b1)])) rfl rfl (hb hby at_32)
  have Z4 : n0 ≤ h4.size := Nat.le_trans Z3 (Keep.of_wr W4).1
  have N4 := Fr.snoc X4 N3 ge_b1
  obtain ⟨T5, h5, X5, e5, W5, V5, st5⟩ := wrB X4 hx hZ e4 V4 (j := (3 : Int32)) ⟨by decide, by decide⟩ (nar_byte _) (g := (mkF m 42 #[.val (.int p0), .val (.int p1), .val (.long q2), .second, .val (.ref b1), .unset, .unset, .unset, .unset, .unset, .unset, .unset, .unset, .unset] [(.int ((((q2.toUInt64 >>> ((24 : Int32) &&& 0x3f).toInt64.toUInt64).toInt64).toInt32).toInt8.toInt32)), (.int (3 : Int32)), (.ref b1)])) rfl rfl (hb hby at_42)
  have Z5 : n0 ≤ h5.size := Nat.le_trans Z4 (Keep.of_wr W5).1
  have N5 := Fr.snoc X5 N4 ge_b1
  obtain ⟨T6, h6, X6, e6, W6, V6, st6⟩ := wrB X5 hx hZ e5 V5 (j := (4 : Int32)) ⟨by decide, by decide⟩ (nar_byte _) (g := (mkF m 52 #[.val (.int p0), .val (.int p1), .val (.long q2), .second, .val (.ref b1), .unset, .unset, .unset, .unset, .unset, .unset, .unset, .unset, .unset] [(.int ((((q2.toUInt64 >>> ((32 : Int32) &&& 0x3f).toInt64.toUInt64).toInt64).toInt32).toInt8.toInt32)), (.int (4 : Int32)), (.ref b1)])) rfl rfl (hb hby at_52)
  have Z6 : n0 ≤ h6.size := Nat.le_trans Z5 (Keep.of_wr W6).1
  have N6 := Fr.snoc X6 N5 ge_b1
  obtain ⟨T7, h7, X7, e7, W7, V7, st7⟩ := wrB X6 hx hZ e6 V6 (j := (5 : Int32)) ⟨by decide, by decide⟩ (nar_byte _) (g := (mkF m 62 #[.val (.int p0), .val (.int p1), .val (.long q2), .second, .val (.ref b1), .unset, .unset, .unset, .unset, .unset, .unset, .unset, .unset, .unset] [(.int ((((q2.toUInt64 >>> ((40 : Int32) &&& 0x3f).toInt64.toUInt64).toInt64).toInt32).toInt8.toInt32)), (.int (5 : Int32)), (.ref b1)])) rfl rfl (hb hby at_62)
  have Z7 : n0 ≤ h7.size := Nat.le_trans Z6 (Keep.of_wr W7).1
  have N7 := Fr.snoc X7 N6 ge_b1
  obtain ⟨T8, h8, X8, e8, W8, V8, st8⟩ := wrB X7 hx hZ e7 V7 (j := (6 : Int32)) ⟨by decide, by decide⟩ (nar_byte _) (g := (mkF m 73 #[.val (.int p0), .val (.int p1), .val (.long q2), .second, .val (.ref b1), .unset, .unset, .unset, .unset, .unset, .unset, .unset, .unset, .unset] [(.int ((((q2.toUInt64 >>> ((48 : Int32) &&& 0x3f).toInt64.toUInt64).toInt64).toInt32).toInt8.toInt32)), (.int (6 : Int32)), (.ref b1)])) rfl rfl (hb hby at_73)
  have Z8 : n0 ≤ h8.size := Nat.le_trans Z7 (Keep.of_wr W8).1
  have N8 := Fr.snoc X8 N7 ge_b1
  obtain ⟨T9, h9, X9, e9, W9, V9, st9⟩ := wrB X8 hx hZ e8 V8 (j := (7 : Int32)) ⟨by decide, by decide⟩ (nar_byte _) (g := (mkF m 84 #[.val (.int p0), .val (.int p1), .val (.long q2), .second, .val (.ref b1), .unset, .unset, .unset, .unset, .unset, .unset, .unset, .unset, .unset] [(.int ((((q2.toUInt64 >>> ((56 : Int32) &&& 0x3f).toInt64.toUInt64).toInt64).toInt32).toInt8.toInt32)), (.int (7 : Int32)), (.ref b1)])) rfl rfl (hb hby at_84)
  have V9n : AI Z h9 b1 .byte (8 : Int32) (v_in q2) := V9
  have Z9 : n0 ≤ h9.size := Nat.le_trans Z8 (Keep.of_wr W9).1
  have N9 := Fr.snoc X9 N8 ge_b1
  have pre10 : ∀ t, Steps p.tables e below (T9.setTop (mkF m 88 #[.val (.int p0), .val (.int p1), .val (.long q2), .second, .val (.ref b1), .unset, .unset, .unset, .unset, .unset, .unset, .unset, .unset, .unset] [(.int (p1 &&& (1 : Int32)))])) t → Steps p.tables e below (s₁.setTop (entryFrame m #[(.int p0), (.int p1), (.long q2)] maxLocals)) t := by
    intro t k
    refine pre0 t ?_
    show Steps p.tables e below (s₁.setTop (mkF m 0 #[.val (.int p0), .val (.int p1), .val (.long q2), .second, .unset, .unset, .unset, .unset, .unset, .unset, .unset, .unset, .unset, .unset] [])) _
    refine XS.bipush X0.here hx rfl (hb hby at_0) ?_
    show Steps p.tables e below (s₁.setTop (mkF m 2 #[.val (.int p0), .val (.int p1), .val (.long q2), .second, .unset, .unset, .unset, .unset, .unset, .unset, .unset, .unset, .unset, .unset] [(.int (8 : Int32))])) _
    refine st1 _ ?_
    show Steps p.tables e below (T1.setTop (mkF m 4 #[.val (.int p0), .val (.int p1), .val (.long q2), .second, .unset, .unset, .unset, .unset, .unset, .unset, .unset, .unset, .unset, .unset] [(.ref b1)])) _
    refine XS.astore X1.here hx rfl (hb hby at_4) rfl rfl (l' := #[.val (.int p0), .val (.int p1), .val (.long q2), .second, .val (.ref b1), .unset, .unset, .unset, .unset, .unset, .unset, .unset, .unset, .unset]) rfl ?_
    show Steps p.tables e below (T1.setTop (mkF m 6 #[.val (.int p0), .val (.int p1), .val (.long q2), .second, .val (.ref b1), .unset, .unset, .unset, .unset, .unset, .unset, .unset, .unset, .unset] [])) _
    refine XS.aload X1.here hx rfl (hb hby at_6) rfl rfl ?_
    show Steps p.tables e below (T1.setTop (mkF m 8 #[.val (.int p0), .val (.int p1), .val (.long q2), .second, .val (.ref b1), .unset, .unset, .unset, .unset, .unset, .unset, .unset, .unset, .unset] [(.ref b1)])) _
    refine XS.iconst X1.here hx rfl (hb hby at_8) ?_
    show Steps p.tables e below (T1.setTop (mkF m 9 #[.val (.int p0), .val (.int p1), .val (.long q2), .second, .val (.ref b1), .unset, .unset, .unset, .unset, .unset, .unset, .unset, .unset, .unset] [(.int (0 : Int32)), (.ref b1)])) _
    refine XS.lloadN X1.here hx rfl (hb hby at_9) rfl ?_
    show Steps p.tables e below (T1.setTop (mkF m 10 #[.val (.int p0), .val (.int p1), .val (.long q2), .second, .val (.ref b1), .unset, .unset, .unset, .unset, .unset, .unset, .unset, .unset, .unset] [(.long q2), (.int (0 : Int32)), (.ref b1)])) _
    refine XS.l2i X1.here hx rfl (hb hby at_10) rfl ?_
    show Steps p.tables e below (T1.setTop (mkF m 11 #[.val (.int p0), .val (.int p1), .val (.long q2), .second, .val (.ref b1), .unset, .unset, .unset, .unset, .unset, .unset, .unset, .unset, .unset] [(.int (q2.toInt32)), (.int (0 : Int32)), (.ref b1)])) _
    refine XS.i2b X1.here hx rfl (hb hby at_11) rfl ?_
    show Steps p.tables e below (T1.setTop (mkF m 12 #[.val (.int p0), .val (.int p1), .val (.long q2), .second, .val (.ref b1), .unset, .unset, .unset, .unset, .unset, .unset, .unset, .unset, .unset] [(.int ((q2.toInt32).toInt8.toInt32)), (.int (0 : Int32)), (.ref b1)])) _
    refine st2 _ ?_
    show Steps p.tables e below (T2.setTop (mkF m 13 #[.val (.int p0), .val (.int p1), .val (.long q2), .second, .val (.ref b1), .unset, .unset, .unset, .unset, .unset, .unset, .unset, .unset, .unset] [])) _
    refine XS.aload X2.here hx rfl (hb hby at_13) rfl rfl ?_
    show Steps p.tables e below (T2.setTop (mkF m 15 #[.val (.int p0), .val (.int p1), .val (.long q2), .second, .val (.ref b1), .unset, .unset, .unset, .unset, .unset, .unset, .unset, .unset, .unset] [(.ref b1)])) _
    refine XS.iconst X2.here hx rfl (hb hby at_15) ?_
    show Steps p.tables e below (T2.setTop (mkF m 16 #[.val (.int p0), .val (.int p1), .val (.long q2), .second, .val (.ref b1), .unset, .unset, .unset, .unset, .unset, .unset, .unset, .unset, .unset] [(.int (1 : Int32)), (.ref b1)])) _
    refine XS.lloadN X2.here hx rfl (hb hby at_16) rfl ?_
    show Steps p.tables e below (T2.setTop (mkF m 17 #[.val (.int p0), .val (.int p1), .val (.long q2), .second, .val (.ref b1), .unset, .unset, .unset, .unset, .unset, .unset, .unset, .unset, .unset] [(.long q2), (.int (1 : Int32)), (.ref b1)])) _
    refine XS.bipush X2.here hx rfl (hb hby at_17) ?_
    show Steps p.tables e below (T2.setTop (mkF m 19 #[.val (.int p0), .val (.int p1), .val (.long q2), .second, .val (.ref b1), .unset, .unset, .unset, .unset, .unset, .unset, .unset, .unset, .unset] [(.int (8 : Int32)), (.long q2), (.int (1 : Int32)), (.ref b1)])) _
    refine XS.lushr X2.here hx rfl (hb hby at_19) rfl ?_
    show Steps p.tables e below (T2.setTop (mkF m 20 #[.val (.int p0), .val (.int p1), .val (.long q2), .second, .val (.ref b1), .unset, .unset, .unset, .unset, .unset, .unset, .unset, .unset, .unset] [(.long ((q2.toUInt64 >>> ((8 : Int32) &&& 0x3f).toInt64.toUInt64).toInt64)), (.int (1 : Int32)), (.ref b1)])) _
    refine XS.l2i X2.here hx rfl (hb hby at_20) rfl ?_
    show Steps p.tables e below (T2.setTop (mkF m 21 #[.val (.int p0), .val (.int p1), .val (.long q2), .second, .val (.ref b1), .unset, .unset, .unset, .unset, .unset, .unset, .unset, .unset, .unset] [(.int (((q2.toUInt64 >>> ((8 : Int32) &&& 0x3f).toInt64.toUInt64).toInt64).toInt32)), (.int (1 : Int32)), (.ref b1)])) _
    refine XS.i2b X2.here hx rfl (hb hby at_21) rfl ?_
    show Steps p.tables e below (T2.setTop (mkF m 22 #[.val (.int p0), .val (.int p1), .val (.long q2), .second, .val (.ref b1), .unset, .unset, .unset, .unset, .unset, .unset, .unset, .unset, .unset] [(.int ((((q2.toUInt64 >>> ((8 : Int32) &&& 0x3f).toInt64.toUInt64).toInt64).toInt32).toInt8.toInt32)), (.int (1 : Int32)), (.ref b1)])) _
    refine st3 _ ?_
    show Steps p.tables e below (T3.setTop (mkF m 23 #[.val (.int p0), .val (.int p1), .val (.long q2), .second, .val (.ref b1), .unset, .unset, .unset, .unset, .unset, .unset, .unset, .unset, .unset] [])) _
    refine XS.aload X3.here hx rfl (hb hby at_23) rfl rfl ?_
    show Steps p.tables e below (T3.setTop (mkF m 25 #[.val (.int p0), .val (.int p1), .val (.long q2), .second, .val (.ref b1), .unset, .unset, .unset, .unset, .unset, .unset, .unset, .unset, .unset] [(.ref b1)])) _
    refine XS.iconst X3.here hx rfl (hb hby at_25) ?_
    show Steps p.tables e below (T3.setTop (mkF m 26 #[.val (.int p0), .val (.int p1), .val (.long q2), .second, .val (.ref b1), .unset, .unset, .unset, .unset, .unset, .unset, .unset, .unset, .unset] [(.int (2 : Int32)), (.ref b1)])) _
    refine XS.lloadN X3.here hx rfl (hb hby at_26) rfl ?_
    show Steps p.tables e below (T3.setTop (mkF m 27 #[.val (.int p0), .val (.int p1), .val (.long q2), .second, .val (.ref b1), .unset, .unset, .unset, .unset, .unset, .unset, .unset, .unset, .unset] [(.long q2), (.int (2 : Int32)), (.ref b1)])) _
    refine XS.bipush X3.here hx rfl (hb hby at_27) ?_
    show Steps p.tables e below (T3.setTop (mkF m 29 #[.val (.int p0), .val (.int p1), .val (.long q2), .second, .val (.ref b1), .unset, .unset, .unset, .unset, .unset, .unset, .unset, .unset, .unset] [(.int (16 : Int32)), (.long q2), (.int (2 : Int32)), (.ref b1)])) _
    refine XS.lushr X3.here hx rfl (hb hby at_29) rfl ?_
    show Steps p.tables e below (T3.setTop (mkF m 30 #[.val (.int p0), .val (.int p1), .val (.long q2), .second, .val (.ref b1), .unset, .unset, .unset, .unset, .unset, .unset, .unset, .unset, .unset] [(.long ((q2.toUInt64 >>> ((16 : Int32) &&& 0x3f).toInt64.toUInt64).toInt64)), (.int (2 : Int32)), (.ref b1)])) _
    refine XS.l2i X3.here hx rfl (hb hby at_30) rfl ?_
    show Steps p.tables e below (T3.setTop (mkF m 31 #[.val (.int p0), .val (.int p1), .val (.long q2), .second, .val (.ref b1), .unset, .unset, .unset, .unset, .unset, .unset, .unset, .unset, .unset] [(.int (((q2.toUInt64 >>> ((16 : Int32) &&& 0x3f).toInt64.toUInt64).toInt64).toInt32)), (.int (2 : Int32)), (.ref b1)])) _
    refine XS.i2b X3.here hx rfl (hb hby at_31) rfl ?_
    show Steps p.tables e below (T3.setTop (mkF m 32 #[.val (.int p0), .val (.int p1), .val (.long q2), .second, .val (.ref b1), .unset, .unset, .unset, .unset, .unset, .unset, .unset, .unset, .unset] [(.int ((((q2.toUInt64 >>> ((16 : Int32) &&& 0x3f).toInt64.toUInt64).toInt64).toInt32).toInt8.toInt32)), (.int (2 : Int32)), (.ref b1)])) _
    refine st4 _ ?_
    show Steps p.tables e below (T4.setTop (mkF m 33 #[.val (.int p0), .val (.int p1), .val (.long q2), .second, .val (.ref b1), .unset, .unset, .unset, .unset, .unset, .unset, .unset, .unset, .unset] [])) _
    refine XS.aload X4.here hx rfl (hb hby at_33) rfl rfl ?_
    show Steps p.tables e below (T4.setTop (mkF m 35 #[.val (.int p0), .val (.int p1), .val (.long q2), .second, .val (.ref b1), .unset, .unset, .unset, .unset, .unset, .unset, .unset, .unset, .unset] [(.ref b1)])) _
    refine XS.iconst X4.here hx rfl (hb hby at_35) ?_
    show Steps p.tables e below (T4.setTop (mkF m 36 #[.val (.int p0), .val (.int p1), .val (.long q2), .second, .val (.ref b1), .unset, .unset, .unset, .unset, .unset, .unset, .unset, .unset, .unset] [(.int (3 : Int32)), (.ref b1)])) _
    refine XS.lloadN X4.here hx rfl (hb hby at_36) rfl ?_
    show Steps p.tables e below (T4.setTop (mkF m 37 #[.val (.int p0), .val (.int p1), .val (.long q2), .second, .val (.ref b1), .unset, .unset, .unset, .unset, .unset, .unset, .unset, .unset, .unset] [(.long q2), (.int (3 : Int32)), (.ref b1)])) _
    refine XS.bipush X4.here hx rfl (hb hby at_37) ?_
    show Steps p.tables e below (T4.setTop (mkF m 39 #[.val (.int p0), .val (.int p1), .val (.long q2), .second, .val (.ref b1), .unset, .unset, .unset, .unset, .unset, .unset, .unset, .unset, .unset] [(.int (24 : Int32)), (.long q2), (.int (3 : Int32)), (.ref b1)])) _
    refine XS.lushr X4.here hx rfl (hb hby at_39) rfl ?_
    show Steps p.tables e below (T4.setTop (mkF m 40 #[.val (.int p0), .val (.int p1), .val (.long q2), .second, .val (.ref b1), .unset, .unset, .unset, .unset, .unset, .unset, .unset, .unset, .unset] [(.long ((q2.toUInt64 >>> ((24 : Int32) &&& 0x3f).toInt64.toUInt64).toInt64)), (.int (3 : Int32)), (.ref b1)])) _
    refine XS.l2i X4.here hx rfl (hb hby at_40) rfl ?_
    show Steps p.tables e below (T4.setTop (mkF m 41 #[.val (.int p0), .val (.int p1), .val (.long q2), .second, .val (.ref b1), .unset, .unset, .unset, .unset, .unset, .unset, .unset, .unset, .unset] [(.int (((q2.toUInt64 >>> ((24 : Int32) &&& 0x3f).toInt64.toUInt64).toInt64).toInt32)), (.int (3 : Int32)), (.ref b1)])) _
    refine XS.i2b X4.here hx rfl (hb hby at_41) rfl ?_
    show Steps p.tables e below (T4.setTop (mkF m 42 #[.val (.int p0), .val (.int p1), .val (.long q2), .second, .val (.ref b1), .unset, .unset, .unset, .unset, .unset, .unset, .unset, .unset, .unset] [(.int ((((q2.toUInt64 >>> ((24 : Int32) &&& 0x3f).toInt64.toUInt64).toInt64).toInt32).toInt8.toInt32)), (.int (3 : Int32)), (.ref b1)])) _
    refine st5 _ ?_
    show Steps p.tables e below (T5.setTop (mkF m 43 #[.val (.int p0), .val (.int p1), .val (.long q2), .second, .val (.ref b1), .unset, .unset, .unset, .unset, .unset, .unset, .unset, .unset, .unset] [])) _
    refine XS.aload X5.here hx rfl (hb hby at_43) rfl rfl ?_
    show Steps p.tables e below (T5.setTop (mkF m 45 #[.val (.int p0), .val (.int p1), .val (.long q2), .second, .val (.ref b1), .unset, .unset, .unset, .unset, .unset, .unset, .unset, .unset, .unset] [(.ref b1)])) _
    refine XS.iconst X5.here hx rfl (hb hby at_45) ?_
    show Steps p.tables e below (T5.setTop (mkF m 46 #[.val (.int p0), .val (.int p1), .val (.long q2), .second, .val (.ref b1), .unset, .unset, .unset, .unset, .unset, .unset, .unset, .unset, .unset] [(.int (4 : Int32)), (.ref b1)])) _
    refine XS.lloadN X5.here hx rfl (hb hby at_46) rfl ?_
    show Steps p.tables e below (T5.setTop (mkF m 47 #[.val (.int p0), .val (.int p1), .val (.long q2), .second, .val (.ref b1), .unset, .unset, .unset, .unset, .unset, .unset, .unset, .unset, .unset] [(.long q2), (.int (4 : Int32)), (.ref b1)])) _
    refine XS.bipush X5.here hx rfl (hb hby at_47) ?_
    show Steps p.tables e below (T5.setTop (mkF m 49 #[.val (.int p0), .val (.int p1), .val (.long q2), .second, .val (.ref b1), .unset, .unset, .unset, .unset, .unset, .unset, .unset, .unset, .unset] [(.int (32 : Int32)), (.long q2), (.int (4 : Int32)), (.ref b1)])) _
    refine XS.lushr X5.here hx rfl (hb hby at_49) rfl ?_
    show Steps p.tables e below (T5.setTop (mkF m 50 #[.val (.int p0), .val (.int p1), .val (.long q2), .second, .val (.ref b1), .unset, .unset, .unset, .unset, .unset, .unset, .unset, .unset, .unset] [(.long ((q2.toUInt64 >>> ((32 : Int32) &&& 0x3f).toInt64.toUInt64).toInt64)), (.int (4 : Int32)), (.ref b1)])) _
    refine XS.l2i X5.here hx rfl (hb hby at_50) rfl ?_
    show Steps p.tables e below (T5.setTop (mkF m 51 #[.val (.int p0), .val (.int p1), .val (.long q2), .second, .val (.ref b1), .unset, .unset, .unset, .unset, .unset, .unset, .unset, .unset, .unset] [(.int (((q2.toUInt64 >>> ((32 : Int32) &&& 0x3f).toInt64.toUInt64).toInt64).toInt32)), (.int (4 : Int32)), (.ref b1)])) _
    refine XS.i2b X5.here hx rfl (hb hby at_51) rfl ?_
    show Steps p.tables e below (T5.setTop (mkF m 52 #[.val (.int p0), .val (.int p1), .val (.long q2), .second, .val (.ref b1), .unset, .unset, .unset, .unset, .unset, .unset, .unset, .unset, .unset] [(.int ((((q2.toUInt64 >>> ((32 : Int32) &&& 0x3f).toInt64.toUInt64).toInt64).toInt32).toInt8.toInt32)), (.int (4 : Int32)), (.ref b1)])) _
    refine st6 _ ?_
    show Steps p.tables e below (T6.setTop (mkF m 53 #[.val (.int p0), .val (.int p1), .val (.long q2), .second, .val (.ref b1), .unset, .unset, .unset, .unset, .unset, .unset, .unset, .unset, .unset] [])) _
    refine XS.aload X6.here hx rfl (hb hby at_53) rfl rfl ?_
    show Steps p.tables e below (T6.setTop (mkF m 55 #[.val (.int p0), .val (.int p1), .val (.long q2), .second, .val (.ref b1), .unset, .unset, .unset, .unset, .unset, .unset, .unset, .unset, .unset] [(.ref b1)])) _
    refine XS.iconst X6.here hx rfl (hb hby at_55) ?_
    show Steps p.tables e below (T6.setTop (mkF m 56 #[.val (.int p0), .val (.int p1), .val (.long q2), .second, .val (.ref b1), .unset, .unset, .unset, .unset, .unset, .unset, .unset, .unset, .unset] [(.int (5 : Int32)), (.ref b1)])) _
    refine XS.lloadN X6.here hx rfl (hb hby at_56) rfl ?_
    show Steps p.tables e below (T6.setTop (mkF m 57 #[.val (.int p0), .val (.int p1), .val (.long q2), .second, .val (.ref b1), .unset, .unset, .unset, .unset, .unset, .unset, .unset, .unset, .unset] [(.long q2), (.int (5 : Int32)), (.ref b1)])) _
    refine XS.bipush X6.here hx rfl (hb hby at_57) ?_
    show Steps p.tables e below (T6.setTop (mkF m 59 #[.val (.int p0), .val (.int p1), .val (.long q2), .second, .val (.ref b1), .unset, .unset, .unset, .unset, .unset, .unset, .unset, .unset, .unset] [(.int (40 : Int32)), (.long q2), (.int (5 : Int32)), (.ref b1)])) _
    refine XS.lushr X6.here hx rfl (hb hby at_59) rfl ?_
    show Steps p.tables e below (T6.setTop (mkF m 60 #[.val (.int p0), .val (.int p1), .val (.long q2), .second, .val (.ref b1), .unset, .unset, .unset, .unset, .unset, .unset, .unset, .unset, .unset] [(.long ((q2.toUInt64 >>> ((40 : Int32) &&& 0x3f).toInt64.toUInt64).toInt64)), (.int (5 : Int32)), (.ref b1)])) _
    refine XS.l2i X6.here hx rfl (hb hby at_60) rfl ?_
    show Steps p.tables e below (T6.setTop (mkF m 61 #[.val (.int p0), .val (.int p1), .val (.long q2), .second, .val (.ref b1), .unset, .unset, .unset, .unset, .unset, .unset, .unset, .unset, .unset] [(.int (((q2.toUInt64 >>> ((40 : Int32) &&& 0x3f).toInt64.toUInt64).toInt64).toInt32)), (.int (5 : Int32)), (.ref b1)])) _
    refine XS.i2b X6.here hx rfl (hb hby at_61) rfl ?_
    show Steps p.tables e below (T6.setTop (mkF m 62 #[.val (.int p0), .val (.int p1), .val (.long q2), .second, .val (.ref b1), .unset, .unset, .unset, .unset, .unset, .unset, .unset, .unset, .unset] [(.int ((((q2.toUInt64 >>> ((40 : Int32) &&& 0x3f).toInt64.toUInt64).toInt64).toInt32).toInt8.toInt32)), (.int (5 : Int32)), (.ref b1)])) _
    refine st7 _ ?_
    show Steps p.tables e below (T7.setTop (mkF m 63 #[.val (.int p0), .val (.int p1), .val (.long q2), .second, .val (.ref b1), .unset, .unset, .unset, .unset, .unset, .unset, .unset, .unset, .unset] [])) _
    refine XS.aload X7.here hx rfl (hb hby at_63) rfl rfl ?_
    show Steps p.tables e below (T7.setTop (mkF m 65 #[.val (.int p0), .val (.int p1), .val (.long q2), .second, .val (.ref b1), .unset, .unset, .unset, .unset, .unset, .unset, .unset, .unset, .unset] [(.ref b1)])) _
    refine XS.bipush X7.here hx rfl (hb hby at_65) ?_
    show Steps p.tables e below (T7.setTop (mkF m 67 #[.val (.int p0), .val (.int p1), .val (.long q2), .second, .val (.ref b1), .unset, .unset, .unset, .unset, .unset, .unset, .unset, .unset, .unset] [(.int (6 : Int32)), (.ref b1)])) _
    refine XS.lloadN X7.here hx rfl (hb hby at_67) rfl ?_
    show Steps p.tables e below (T7.setTop (mkF m 68 #[.val (.int p0), .val (.int p1), .val (.long q2), .second, .val (.ref b1), .unset, .unset, .unset, .unset, .unset, .unset, .unset, .unset, .unset] [(.long q2), (.int (6 : Int32)), (.ref b1)])) _
    refine XS.bipush X7.here hx rfl (hb hby at_68) ?_
    show Steps p.tables e below (T7.setTop (mkF m 70 #[.val (.int p0), .val (.int p1), .val (.long q2), .second, .val (.ref b1), .unset, .unset, .unset, .unset, .unset, .unset, .unset, .unset, .unset] [(.int (48 : Int32)), (.long q2), (.int (6 : Int32)), (.ref b1)])) _
    refine XS.lushr X7.here hx rfl (hb hby at_70) rfl ?_
    show Steps p.tables e below (T7.setTop (mkF m 71 #[.val (.int p0), .val (.int p1), .val (.long q2), .second, .val (.ref b1), .unset, .unset, .unset, .unset, .unset, .unset, .unset, .unset, .unset] [(.long ((q2.toUInt64 >>> ((48 : Int32) &&& 0x3f).toInt64.toUInt64).toInt64)), (.int (6 : Int32)), (.ref b1)])) _
    refine XS.l2i X7.here hx rfl (hb hby at_71) rfl ?_
    show Steps p.tables e below (T7.setTop (mkF m 72 #[.val (.int p0), .val (.int p1), .val (.long q2), .second, .val (.ref b1), .unset, .unset, .unset, .unset, .unset, .unset, .unset, .unset, .unset] [(.int (((q2.toUInt64 >>> ((48 : Int32) &&& 0x3f).toInt64.toUInt64).toInt64).toInt32)), (.int (6 : Int32)), (.ref b1)])) _
    refine XS.i2b X7.here hx rfl (hb hby at_72) rfl ?_
    show Steps p.tables e below (T7.setTop (mkF m 73 #[.val (.int p0), .val (.int p1), .val (.long q2), .second, .val (.ref b1), .unset, .unset, .unset, .unset, .unset, .unset, .unset, .unset, .unset] [(.int ((((q2.toUInt64 >>> ((48 : Int32) &&& 0x3f).toInt64.toUInt64).toInt64).toInt32).toInt8.toInt32)), (.int (6 : Int32)), (.ref b1)])) _
    refine st8 _ ?_
    show Steps p.tables e below (T8.setTop (mkF m 74 #[.val (.int p0), .val (.int p1), .val (.long q2), .second, .val (.ref b1), .unset, .unset, .unset, .unset, .unset, .unset, .unset, .unset, .unset] [])) _
    refine XS.aload X8.here hx rfl (hb hby at_74) rfl rfl ?_
    show Steps p.tables e below (T8.setTop (mkF m 76 #[.val (.int p0), .val (.int p1), .val (.long q2), .second, .val (.ref b1), .unset, .unset, .unset, .unset, .unset, .unset, .unset, .unset, .unset] [(.ref b1)])) _
    refine XS.bipush X8.here hx rfl (hb hby at_76) ?_
    show Steps p.tables e below (T8.setTop (mkF m 78 #[.val (.int p0), .val (.int p1), .val (.long q2), .second, .val (.ref b1), .unset, .unset, .unset, .unset, .unset, .unset, .unset, .unset, .unset] [(.int (7 : Int32)), (.ref b1)])) _
    refine XS.lloadN X8.here hx rfl (hb hby at_78) rfl ?_
    show Steps p.tables e below (T8.setTop (mkF m 79 #[.val (.int p0), .val (.int p1), .val (.long q2), .second, .val (.ref b1), .unset, .unset, .unset, .unset, .unset, .unset, .unset, .unset, .unset] [(.long q2), (.int (7 : Int32)), (.ref b1)])) _
    refine XS.bipush X8.here hx rfl (hb hby at_79) ?_
    show Steps p.tables e below (T8.setTop (mkF m 81 #[.val (.int p0), .val (.int p1), .val (.long q2), .second, .val (.ref b1), .unset, .unset, .unset, .unset, .unset, .unset, .unset, .unset, .unset] [(.int (56 : Int32)), (.long q2), (.int (7 : Int32)), (.ref b1)])) _
    refine XS.lushr X8.here hx rfl (hb hby at_81) rfl ?_
    show Steps p.tables e below (T8.setTop (mkF m 82 #[.val (.int p0), .val (.int p1), .val (.long q2), .second, .val (.ref b1), .unset, .unset, .unset, .unset, .unset, .unset, .unset, .unset, .unset] [(.long ((q2.toUInt64 >>> ((56 : Int32) &&& 0x3f).toInt64.toUInt64).toInt64)), (.int (7 : Int32)), (.ref b1)])) _
    refine XS.l2i X8.here hx rfl (hb hby at_82) rfl ?_
    show Steps p.tables e below (T8.setTop (mkF m 83 #[.val (.int p0), .val (.int p1), .val (.long q2), .second, .val (.ref b1), .unset, .unset, .unset, .unset, .unset, .unset, .unset, .unset, .unset] [(.int (((q2.toUInt64 >>> ((56 : Int32) &&& 0x3f).toInt64.toUInt64).toInt64).toInt32)), (.int (7 : Int32)), (.ref b1)])) _
    refine XS.i2b X8.here hx rfl (hb hby at_83) rfl ?_
    show Steps p.tables e below (T8.setTop (mkF m 84 #[.val (.int p0), .val (.int p1), .val (.long q2), .second, .val (.ref b1), .unset, .unset, .unset, .unset, .unset, .unset, .unset, .unset, .unset] [(.int ((((q2.toUInt64 >>> ((56 : Int32) &&& 0x3f).toInt64.toUInt64).toInt64).toInt32).toInt8.toInt32)), (.int (7 : Int32)), (.ref b1)])) _
    refine st9 _ ?_
    show Steps p.tables e below (T9.setTop (mkF m 85 #[.val (.int p0), .val (.int p1), .val (.long q2), .second, .val (.ref b1), .unset, .unset, .unset, .unset, .unset, .unset, .unset, .unset, .unset] [])) _
    refine XS.iloadN X9.here hx rfl (hb hby at_85) rfl ?_
    show Steps p.tables e below (T9.setTop (mkF m 86 #[.val (.int p0), .val (.int p1), .val (.long q2), .second, .val (.ref b1), .unset, .unset, .unset, .unset, .unset, .unset, .unset, .unset, .unset] [(.int p1)])) _
    refine XS.iconst X9.here hx rfl (hb hby at_86) ?_
    show Steps p.tables e below (T9.setTop (mkF m 87 #[.val (.int p0), .val (.int p1), .val (.long q2), .second, .val (.ref b1), .unset, .unset, .unset, .unset, .unset, .unset, .unset, .unset, .unset] [(.int (1 : Int32)), (.int p1)])) _
    refine XS.iand X9.here hx rfl (hb hby at_87) rfl ?_
    exact k
  have pre11 : ∀ t, Steps p.tables e below (T9.setTop (mkF m 96 #[.val (.int p0), .val (.int p1), .val (.long q2), .second, .val (.ref b1), .unset, .unset, .unset, .unset, .unset, .unset, .unset, .unset, .unset] [(.int (b2i (if (p1 &&& (1 : Int32)) = (0 : Int32) then false else true)))])) t → Steps p.tables e below (s₁.setTop (entryFrame m #[(.int p0), (.int p1), (.long q2)] maxLocals)) t := by
    intro t k
    refine pre10 t ?_
    have k : ∀ (v1 : Bool), v1 = (if (p1 &&& (1 : Int32)) = (0 : Int32) then false else true) → Steps p.tables e below (T9.setTop (mkF m 96 #[.val (.int p0), .val (.int p1), .val (.long q2), .second, .val (.ref b1), .unset, .unset, .unset, .unset, .unset, .unset, .unset, .unset, .unset] [(.int (b2i v1))])) t := fun v1 hv1 => by subst hv1; exact k
    show Steps p.tables e below (T9.setTop (mkF m 88 #[.val (.int p0), .val (.int p1), .val (.long q2), .second, .val (.ref b1), .unset, .unset, .unset, .unset, .unset, .unset, .unset, .unset, .unset] [(.int (p1 &&& (1 : Int32)))])) _
    by_cases hc12 : (p1 &&& (1 : Int32)) = (0 : Int32)
    · refine XS.ifYes X9.here hx rfl (pc0 := 88) (pc' := 95) rfl (hb hby at_88) rfl ((if0 _ _).trans (teq hc12).1) (by decide) (by decide) ?_
      have k : ∀ (v1 : Bool), v1 = false → Steps p.tables e below (T9.setTop (mkF m 96 #[.val (.int p0), .val (.int p1), .val (.long q2), .second, .val (.ref b1), .unset, .unset, .unset, .unset, .unset, .unset, .unset, .unset, .unset] [(.int (b2i v1))])) t := fun v1 hv1 => k v1 (hv1.trans (if_pos hc12).symm)
      show Steps p.tables e below (T9.setTop (mkF m 95 #[.val (.int p0), .val (.int p1), .val (.long q2), .second, .val (.ref b1), .unset, .unset, .unset, .unset, .unset, .unset, .unset, .unset, .unset] [])) _
      refine XS.iconst X9.here hx rfl (hb hby at_95) ?_
      exact k false rfl
    · refine XS.ifNo X9.here hx rfl (hb hby at_88) rfl ((if0 _ _).trans (feq hc12).1) ?_
      have k : ∀ (v1 : Bool), v1 = true → Steps p.tables e below (T9.setTop (mkF m 96 #[.val (.int p0), .val (.int p1), .val (.long q2), .second, .val (.ref b1), .unset, .unset, .unset, .unset, .unset, .unset, .unset, .unset, .unset] [(.int (b2i v1))])) t := fun v1 hv1 => k v1 (hv1.trans (if_neg hc12).symm)
      show Steps p.tables e below (T9.setTop (mkF m 91 #[.val (.int p0), .val (.int p1), .val (.long q2), .second, .val (.ref b1), .unset, .unset, .unset, .unset, .unset, .unset, .unset, .unset, .unset] [])) _
      refine XS.iconst X9.here hx rfl (hb hby at_91) ?_
      show Steps p.tables e below (T9.setTop (mkF m 92 #[.val (.int p0), .val (.int p1), .val (.long q2), .second, .val (.ref b1), .unset, .unset, .unset, .unset, .unset, .unset, .unset, .unset, .unset] [(.int (1 : Int32))])) _
      refine XS.goto X9.here hx rfl (pc0 := 92) (pc' := 96) rfl (hb hby at_92) (by decide) (by decide) ?_
      exact k true rfl
  have pre13 : ∀ t, Steps p.tables e below (T9.setTop (mkF m 133 #[.val (.int p0), .val (.int p1), .val (.long q2), .second, .val (.ref b1), .val (.int (b2i (v_pl p1))), .val (.int (v_n p1)), .val (.int (v_p p1)), .val (.int (v_lim p1)), .unset, .unset, .unset, .unset, .unset] [(.int (1 : Int32)), (.int (v_n p1))])) t → Steps p.tables e below (s₁.setTop (entryFrame m #[(.int p0), (.int p1), (.long q2)] maxLocals)) t := by
    intro t k
    refine pre11 t ?_
    show Steps p.tables e below (T9.setTop (mkF m 96 #[.val (.int p0), .val (.int p1), .val (.long q2), .second, .val (.ref b1), .unset, .unset, .unset, .unset, .unset, .unset, .unset, .unset, .unset] [(.int (b2i (if (p1 &&& (1 : Int32)) = (0 : Int32) then false else true)))])) _
    refine XS.istore X9.here hx rfl (hb hby at_96) rfl (l' := #[.val (.int p0), .val (.int p1), .val (.long q2), .second, .val (.ref b1), .val (.int (b2i (v_pl p1))), .unset, .unset, .unset, .unset, .unset, .unset, .unset, .unset]) rfl ?_
    show Steps p.tables e below (T9.setTop (mkF m 98 #[.val (.int p0), .val (.int p1), .val (.long q2), .second, .val (.ref b1), .val (.int (b2i (v_pl p1))), .unset, .unset, .unset, .unset, .unset, .unset, .unset, .unset] [])) _
    refine XS.iconst X9.here hx rfl (hb hby at_98) ?_
    show Steps p.tables e below (T9.setTop (mkF m 99 #[.val (.int p0), .val (.int p1), .val (.long q2), .second, .val (.ref b1), .val (.int (b2i (v_pl p1))), .unset, .unset, .unset, .unset, .unset, .unset, .unset, .unset] [(.int (1 : Int32))])) _
    refine XS.iloadN X9.here hx rfl (hb hby at_99) rfl ?_
    show Steps p.tables e below (T9.setTop (mkF m 100 #[.val (.int p0), .val (.int p1), .val (.long q2), .second, .val (.ref b1), .val (.int (b2i (v_pl p1))), .unset, .unset, .unset, .unset, .unset, .unset, .unset, .unset] [(.int p1), (.int (1 : Int32))])) _
    refine XS.iconst X9.here hx rfl (hb hby at_100) ?_
    show Steps p.tables e below (T9.setTop (mkF m 101 #[.val (.int p0), .val (.int p1), .val (.long q2), .second, .val (.ref b1), .val (.int (b2i (v_pl p1))), .unset, .unset, .unset, .unset, .unset, .unset, .unset, .unset] [(.int (1 : Int32)), (.int p1), (.int (1 : Int32))])) _
    refine XS.iushr X9.here hx rfl (hb hby at_101) rfl ?_
    show Steps p.tables e below (T9.setTop (mkF m 102 #[.val (.int p0), .val (.int p1), .val (.long q2), .second, .val (.ref b1), .val (.int (b2i (v_pl p1))), .unset, .unset, .unset, .unset, .unset, .unset, .unset, .unset] [(.int ((p1.toUInt32 >>> ((1 : Int32) &&& 31).toUInt32).toInt32)), (.int (1 : Int32))])) _
    refine XS.iconst X9.here hx rfl (hb hby at_102) ?_
    show Steps p.tables e below (T9.setTop (mkF m 103 #[.val (.int p0), .val (.int p1), .val (.long q2), .second, .val (.ref b1), .val (.int (b2i (v_pl p1))), .unset, .unset, .unset, .unset, .unset, .unset, .unset, .unset] [(.int (3 : Int32)), (.int ((p1.toUInt32 >>> ((1 : Int32) &&& 31).toUInt32).toInt32)), (.int (1 : Int32))])) _
    refine XS.iand X9.here hx rfl (hb hby at_103) rfl ?_
    show Steps p.tables e below (T9.setTop (mkF m 104 #[.val (.int p0), .val (.int p1), .val (.long q2), .second, .val (.ref b1), .val (.int (b2i (v_pl p1))), .unset, .unset, .unset, .unset, .unset, .unset, .unset, .unset] [(.int (((p1.toUInt32 >>> ((1 : Int32) &&& 31).toUInt32).toInt32) &&& (3 : Int32))), (.int (1 : Int32))])) _
    refine XS.iadd X9.here hx rfl (hb hby at_104) rfl ?_
    show Steps p.tables e below (T9.setTop (mkF m 105 #[.val (.int p0), .val (.int p1), .val (.long q2), .second, .val (.ref b1), .val (.int (b2i (v_pl p1))), .unset, .unset, .unset, .unset, .unset, .unset, .unset, .unset] [(.int ((1 : Int32) + (((p1.toUInt32 >>> ((1 : Int32) &&& 31).toUInt32).toInt32) &&& (3 : Int32))))])) _
    refine XS.istore X9.here hx rfl (hb hby at_105) rfl (l' := #[.val (.int p0), .val (.int p1), .val (.long q2), .second, .val (.ref b1), .val (.int (b2i (v_pl p1))), .val (.int (v_n p1)), .unset, .unset, .unset, .unset, .unset, .unset, .unset]) rfl ?_
    show Steps p.tables e below (T9.setTop (mkF m 107 #[.val (.int p0), .val (.int p1), .val (.long q2), .second, .val (.ref b1), .val (.int (b2i (v_pl p1))), .val (.int (v_n p1)), .unset, .unset, .unset, .unset, .unset, .unset, .unset] [])) _
    refine XS.iloadN X9.here hx rfl (hb hby at_107) rfl ?_
    show Steps p.tables e below (T9.setTop (mkF m 108 #[.val (.int p0), .val (.int p1), .val (.long q2), .second, .val (.ref b1), .val (.int (b2i (v_pl p1))), .val (.int (v_n p1)), .unset, .unset, .unset, .unset, .unset, .unset, .unset] [(.int p1)])) _
    refine XS.iconst X9.here hx rfl (hb hby at_108) ?_
    show Steps p.tables e below (T9.setTop (mkF m 109 #[.val (.int p0), .val (.int p1), .val (.long q2), .second, .val (.ref b1), .val (.int (b2i (v_pl p1))), .val (.int (v_n p1)), .unset, .unset, .unset, .unset, .unset, .unset, .unset] [(.int (3 : Int32)), (.int p1)])) _
    refine XS.iushr X9.here hx rfl (hb hby at_109) rfl ?_
    show Steps p.tables e below (T9.setTop (mkF m 110 #[.val (.int p0), .val (.int p1), .val (.long q2), .second, .val (.ref b1), .val (.int (b2i (v_pl p1))), .val (.int (v_n p1)), .unset, .unset, .unset, .unset, .unset, .unset, .unset] [(.int ((p1.toUInt32 >>> ((3 : Int32) &&& 31).toUInt32).toInt32))])) _
    refine XS.iconst X9.here hx rfl (hb hby at_110) ?_
    show Steps p.tables e below (T9.setTop (mkF m 111 #[.val (.int p0), .val (.int p1), .val (.long q2), .second, .val (.ref b1), .val (.int (b2i (v_pl p1))), .val (.int (v_n p1)), .unset, .unset, .unset, .unset, .unset, .unset, .unset] [(.int (3 : Int32)), (.int ((p1.toUInt32 >>> ((3 : Int32) &&& 31).toUInt32).toInt32))])) _
    refine XS.iand X9.here hx rfl (hb hby at_111) rfl ?_
    show Steps p.tables e below (T9.setTop (mkF m 112 #[.val (.int p0), .val (.int p1), .val (.long q2), .second, .val (.ref b1), .val (.int (b2i (v_pl p1))), .val (.int (v_n p1)), .unset, .unset, .unset, .unset, .unset, .unset, .unset] [(.int (((p1.toUInt32 >>> ((3 : Int32) &&& 31).toUInt32).toInt32) &&& (3 : Int32)))])) _
    refine XS.istore X9.here hx rfl (hb hby at_112) rfl (l' := #[.val (.int p0), .val (.int p1), .val (.long q2), .second, .val (.ref b1), .val (.int (b2i (v_pl p1))), .val (.int (v_n p1)), .val (.int (v_p p1)), .unset, .unset, .unset, .unset, .unset, .unset]) rfl ?_
    show Steps p.tables e below (T9.setTop (mkF m 114 #[.val (.int p0), .val (.int p1), .val (.long q2), .second, .val (.ref b1), .val (.int (b2i (v_pl p1))), .val (.int (v_n p1)), .val (.int (v_p p1)), .unset, .unset, .unset, .unset, .unset, .unset] [])) _
    refine XS.iload X9.here hx rfl (hb hby at_114) rfl ?_
    show Steps p.tables e below (T9.setTop (mkF m 116 #[.val (.int p0), .val (.int p1), .val (.long q2), .second, .val (.ref b1), .val (.int (b2i (v_pl p1))), .val (.int (v_n p1)), .val (.int (v_p p1)), .unset, .unset, .unset, .unset, .unset, .unset] [(.int (v_p p1))])) _
    refine XS.iconst X9.here hx rfl (hb hby at_116) ?_
    show Steps p.tables e below (T9.setTop (mkF m 117 #[.val (.int p0), .val (.int p1), .val (.long q2), .second, .val (.ref b1), .val (.int (b2i (v_pl p1))), .val (.int (v_n p1)), .val (.int (v_p p1)), .unset, .unset, .unset, .unset, .unset, .unset] [(.int (1 : Int32)), (.int (v_p p1))])) _
    refine XS.iadd X9.here hx rfl (hb hby at_117) rfl ?_
    show Steps p.tables e below (T9.setTop (mkF m 118 #[.val (.int p0), .val (.int p1), .val (.long q2), .second, .val (.ref b1), .val (.int (b2i (v_pl p1))), .val (.int (v_n p1)), .val (.int (v_p p1)), .unset, .unset, .unset, .unset, .unset, .unset] [(.int ((v_p p1) + (1 : Int32)))])) _
    refine XS.iloadN X9.here hx rfl (hb hby at_118) rfl ?_
    show Steps p.tables e below (T9.setTop (mkF m 119 #[.val (.int p0), .val (.int p1), .val (.long q2), .second, .val (.ref b1), .val (.int (b2i (v_pl p1))), .val (.int (v_n p1)), .val (.int (v_p p1)), .unset, .unset, .unset, .unset, .unset, .unset] [(.int p1), (.int ((v_p p1) + (1 : Int32)))])) _
    refine XS.iconst X9.here hx rfl (hb hby at_119) ?_
    show Steps p.tables e below (T9.setTop (mkF m 120 #[.val (.int p0), .val (.int p1), .val (.long q2), .second, .val (.ref b1), .val (.int (b2i (v_pl p1))), .val (.int (v_n p1)), .val (.int (v_p p1)), .unset, .unset, .unset, .unset, .unset, .unset] [(.int (5 : Int32)), (.int p1), (.int ((v_p p1) + (1 : Int32)))])) _
    refine XS.iushr X9.here hx rfl (hb hby at_120) rfl ?_
    show Steps p.tables e below (T9.setTop (mkF m 121 #[.val (.int p0), .val (.int p1), .val (.long q2), .second, .val (.ref b1), .val (.int (b2i (v_pl p1))), .val (.int (v_n p1)), .val (.int (v_p p1)), .unset, .unset, .unset, .unset, .unset, .unset] [(.int ((p1.toUInt32 >>> ((5 : Int32) &&& 31).toUInt32).toInt32)), (.int ((v_p p1) + (1 : Int32)))])) _
    refine XS.bipush X9.here hx rfl (hb hby at_121) ?_
    show Steps p.tables e below (T9.setTop (mkF m 123 #[.val (.int p0), .val (.int p1), .val (.long q2), .second, .val (.ref b1), .val (.int (b2i (v_pl p1))), .val (.int (v_n p1)), .val (.int (v_p p1)), .unset, .unset, .unset, .unset, .unset, .unset] [(.int (8 : Int32)), (.int ((p1.toUInt32 >>> ((5 : Int32) &&& 31).toUInt32).toInt32)), (.int ((v_p p1) + (1 : Int32)))])) _
    refine XS.iload X9.here hx rfl (hb hby at_123) rfl ?_
    show Steps p.tables e below (T9.setTop (mkF m 125 #[.val (.int p0), .val (.int p1), .val (.long q2), .second, .val (.ref b1), .val (.int (b2i (v_pl p1))), .val (.int (v_n p1)), .val (.int (v_p p1)), .unset, .unset, .unset, .unset, .unset, .unset] [(.int (v_p p1)), (.int (8 : Int32)), (.int ((p1.toUInt32 >>> ((5 : Int32) &&& 31).toUInt32).toInt32)), (.int ((v_p p1) + (1 : Int32)))])) _
    refine XS.isub X9.here hx rfl (hb hby at_125) rfl ?_
    show Steps p.tables e below (T9.setTop (mkF m 126 #[.val (.int p0), .val (.int p1), .val (.long q2), .second, .val (.ref b1), .val (.int (b2i (v_pl p1))), .val (.int (v_n p1)), .val (.int (v_p p1)), .unset, .unset, .unset, .unset, .unset, .unset] [(.int ((8 : Int32) - (v_p p1))), (.int ((p1.toUInt32 >>> ((5 : Int32) &&& 31).toUInt32).toInt32)), (.int ((v_p p1) + (1 : Int32)))])) _
    refine iremM X9 hx rfl (hb hby at_126) rfl (own_nz p1) ?_
    show Steps p.tables e below (T9.setTop (mkF m 127 #[.val (.int p0), .val (.int p1), .val (.long q2), .second, .val (.ref b1), .val (.int (b2i (v_pl p1))), .val (.int (v_n p1)), .val (.int (v_p p1)), .unset, .unset, .unset, .unset, .unset, .unset] [(.int (((p1.toUInt32 >>> ((5 : Int32) &&& 31).toUInt32).toInt32) % ((8 : Int32) - (v_p p1)))), (.int ((v_p p1) + (1 : Int32)))])) _
    refine XS.iadd X9.here hx rfl (hb hby at_127) rfl ?_
    show Steps p.tables e below (T9.setTop (mkF m 128 #[.val (.int p0), .val (.int p1), .val (.long q2), .second, .val (.ref b1), .val (.int (b2i (v_pl p1))), .val (.int (v_n p1)), .val (.int (v_p p1)), .unset, .unset, .unset, .unset, .unset, .unset] [(.int (((v_p p1) + (1 : Int32)) + (((p1.toUInt32 >>> ((5 : Int32) &&& 31).toUInt32).toInt32) % ((8 : Int32) - (v_p p1)))))])) _
    refine XS.istore X9.here hx rfl (hb hby at_128) rfl (l' := #[.val (.int p0), .val (.int p1), .val (.long q2), .second, .val (.ref b1), .val (.int (b2i (v_pl p1))), .val (.int (v_n p1)), .val (.int (v_p p1)), .val (.int (v_lim p1)), .unset, .unset, .unset, .unset, .unset]) rfl ?_
    show Steps p.tables e below (T9.setTop (mkF m 130 #[.val (.int p0), .val (.int p1), .val (.long q2), .second, .val (.ref b1), .val (.int (b2i (v_pl p1))), .val (.int (v_n p1)), .val (.int (v_p p1)), .val (.int (v_lim p1)), .unset, .unset, .unset, .unset, .unset] [])) _
    refine XS.iload X9.here hx rfl (hb hby at_130) rfl ?_
    show Steps p.tables e below (T9.setTop (mkF m 132 #[.val (.int p0), .val (.int p1), .val (.long q2), .second, .val (.ref b1), .val (.int (b2i (v_pl p1))), .val (.int (v_n p1)), .val (.int (v_p p1)), .val (.int (v_lim p1)), .unset, .unset, .unset, .unset, .unset] [(.int (v_n p1))])) _
    refine XS.iconst X9.here hx rfl (hb hby at_132) ?_
    exact k
  have pre14 : ∀ t, Steps p.tables e below (T9.setTop (mkF m 166 #[.val (.int p0), .val (.int p1), .val (.long q2), .second, .val (.ref b1), .val (.int (b2i (v_pl p1))), .val (.int (v_n p1)), .val (.int (v_p p1)), .val (.int (v_lim p1)), .unset, .unset, .unset, .unset, .unset] [(.int (if (v_n p1) = (1 : Int32) then (127 : Int32) else (if (v_n p1) = (2 : Int32) then (2047 : Int32) else (if (v_n p1) = (3 : Int32) then (65535 : Int32) else (2097151 : Int32)))))])) t → Steps p.tables e below (s₁.setTop (entryFrame m #[(.int p0), (.int p1), (.long q2)] maxLocals)) t := by
    intro t k
    refine pre13 t ?_
    have k : ∀ (v1 : Int32), v1 = (if (v_n p1) = (1 : Int32) then (127 : Int32) else (if (v_n p1) = (2 : Int32) then (2047 : Int32) else (if (v_n p1) = (3 : Int32) then (65535 : Int32) else (2097151 : Int32)))) → Steps p.tables e below (T9.setTop (mkF m 166 #[.val (.int p0), .val (.int p1), .val (.long q2), .second, .val (.ref b1), .val (.int (b2i (v_pl p1))), .val (.int (v_n p1)), .val (.int (v_p p1)), .val (.int (v_lim p1)), .unset, .unset, .unset, .unset, .unset] [(.int v1)])) t := fun v1 hv1 => by subst hv1; exact k
    show Steps p.tables e below (T9.setTop (mkF m 133 #[.val (.int p0), .val (.int p1), .val (.long q2), .second, .val (.ref b1), .val (.int (b2i (v_pl p1))), .val (.int (v_n p1)), .val (.int (v_p p1)), .val (.int (v_lim p1)), .unset, .unset, .unset, .unset, .unset] [(.int (1 : Int32)), (.int (v_n p1))])) _
    by_cases hc15 : (v_n p1) = (1 : Int32)
    · refine XS.icmpNo X9.here hx rfl (hb hby at_133) rfl (teq hc15).2 ?_
      have k : ∀ (v1 : Int32), v1 = (127 : Int32) → Steps p.tables e below (T9.setTop (mkF m 166 #[.val (.int p0), .val (.int p1), .val (.long q2), .second, .val (.ref b1), .val (.int (b2i (v_pl p1))), .val (.int (v_n p1)), .val (.int (v_p p1)), .val (.int (v_lim p1)), .unset, .unset, .unset, .unset, .unset] [(.int v1)])) t := fun v1 hv1 => k v1 (hv1.trans (if_pos hc15).symm)
      show Steps p.tables e below (T9.setTop (mkF m 136 #[.val (.int p0), .val (.int p1), .val (.long q2), .second, .val (.ref b1), .val (.int (b2i (v_pl p1))), .val (.int (v_n p1)), .val (.int (v_p p1)), .val (.int (v_lim p1)), .unset, .unset, .unset, .unset, .unset] [])) _
      refine XS.bipush X9.here hx rfl (hb hby at_136) ?_
      show Steps p.tables e below (T9.setTop (mkF m 138 #[.val (.int p0), .val (.int p1), .val (.long q2), .second, .val (.ref b1), .val (.int (b2i (v_pl p1))), .val (.int (v_n p1)), .val (.int (v_p p1)), .val (.int (v_lim p1)), .unset, .unset, .unset, .unset, .unset] [(.int (127 : Int32))])) _
      refine XS.goto X9.here hx rfl (pc0 := 138) (pc' := 166) rfl (hb hby at_138) (by decide) (by decide) ?_
      exact k _ rfl
    · refine XS.icmpYes X9.here hx rfl (pc0 := 133) (pc' := 141) rfl (hb hby at_133) rfl (feq hc15).2 (by decide) (by decide) ?_
      have k : ∀ (v1 : Int32), v1 = (if (v_n p1) = (2 : Int32) then (2047 : Int32) else (if (v_n p1) = (3 : Int32) then (65535 : Int32) else (2097151 : Int32))) → Steps p.tables e below (T9.setTop (mkF m 166 #[.val (.int p0), .val (.int p1), .val (.long q2), .second, .val (.ref b1), .val (.int (b2i (v_pl p1))), .val (.int (v_n p1)), .val (.int (v_p p1)), .val (.int (v_lim p1)), .unset, .unset, .unset, .unset, .unset] [(.int v1)])) t := fun v1 hv1 => k v1 (hv1.trans (if_neg hc15).symm)
      show Steps p.tables e below (T9.setTop (mkF m 141 #[.val (.int p0), .val (.int p1), .val (.long q2), .second, .val (.ref b1), .val (.int (b2i (v_pl p1))), .val (.int (v_n p1)), .val (.int (v_p p1)), .val (.int (v_lim p1)), .unset, .unset, .unset, .unset, .unset] [])) _
      refine XS.iload X9.here hx rfl (hb hby at_141) rfl ?_
      show Steps p.tables e below (T9.setTop (mkF m 143 #[.val (.int p0), .val (.int p1), .val (.long q2), .second, .val (.ref b1), .val (.int (b2i (v_pl p1))), .val (.int (v_n p1)), .val (.int (v_p p1)), .val (.int (v_lim p1)), .unset, .unset, .unset, .unset, .unset] [(.int (v_n p1))])) _
      refine XS.iconst X9.here hx rfl (hb hby at_143) ?_
      show Steps p.tables e below (T9.setTop (mkF m 144 #[.val (.int p0), .val (.int p1), .val (.long q2), .second, .val (.ref b1), .val (.int (b2i (v_pl p1))), .val (.int (v_n p1)), .val (.int (v_p p1)), .val (.int (v_lim p1)), .unset, .unset, .unset, .unset, .unset] [(.int (2 : Int32)), (.int (v_n p1))])) _
      by_cases hc16 : (v_n p1) = (2 : Int32)
      · refine XS.icmpNo X9.here hx rfl (hb hby at_144) rfl (teq hc16).2 ?_
        have k : ∀ (v1 : Int32), v1 = (2047 : Int32) → Steps p.tables e below (T9.setTop (mkF m 166 #[.val (.int p0), .val (.int p1), .val (.long q2), .second, .val (.ref b1), .val (.int (b2i (v_pl p1))), .val (.int (v_n p1)), .val (.int (v_p p1)), .val (.int (v_lim p1)), .unset, .unset, .unset, .unset, .unset] [(.int v1)])) t := fun v1 hv1 => k v1 (hv1.trans (if_pos hc16).symm)
        show Steps p.tables e below (T9.setTop (mkF m 147 #[.val (.int p0), .val (.int p1), .val (.long q2), .second, .val (.ref b1), .val (.int (b2i (v_pl p1))), .val (.int (v_n p1)), .val (.int (v_p p1)), .val (.int (v_lim p1)), .unset, .unset, .unset, .unset, .unset] [])) _
        refine XS.sipush X9.here hx rfl (hb hby at_147) ?_
        show Steps p.tables e below (T9.setTop (mkF m 150 #[.val (.int p0), .val (.int p1), .val (.long q2), .second, .val (.ref b1), .val (.int (b2i (v_pl p1))), .val (.int (v_n p1)), .val (.int (v_p p1)), .val (.int (v_lim p1)), .unset, .unset, .unset, .unset, .unset] [(.int (2047 : Int32))])) _
        refine XS.goto X9.here hx rfl (pc0 := 150) (pc' := 166) rfl (hb hby at_150) (by decide) (by decide) ?_
        exact k _ rfl
      · refine XS.icmpYes X9.here hx rfl (pc0 := 144) (pc' := 153) rfl (hb hby at_144) rfl (feq hc16).2 (by decide) (by decide) ?_
        have k : ∀ (v1 : Int32), v1 = (if (v_n p1) = (3 : Int32) then (65535 : Int32) else (2097151 : Int32)) → Steps p.tables e below (T9.setTop (mkF m 166 #[.val (.int p0), .val (.int p1), .val (.long q2), .second, .val (.ref b1), .val (.int (b2i (v_pl p1))), .val (.int (v_n p1)), .val (.int (v_p p1)), .val (.int (v_lim p1)), .unset, .unset, .unset, .unset, .unset] [(.int v1)])) t := fun v1 hv1 => k v1 (hv1.trans (if_neg hc16).symm)
        show Steps p.tables e below (T9.setTop (mkF m 153 #[.val (.int p0), .val (.int p1), .val (.long q2), .second, .val (.ref b1), .val (.int (b2i (v_pl p1))), .val (.int (v_n p1)), .val (.int (v_p p1)), .val (.int (v_lim p1)), .unset, .unset, .unset, .unset, .unset] [])) _
        refine XS.iload X9.here hx rfl (hb hby at_153) rfl ?_
        show Steps p.tables e below (T9.setTop (mkF m 155 #[.val (.int p0), .val (.int p1), .val (.long q2), .second, .val (.ref b1), .val (.int (b2i (v_pl p1))), .val (.int (v_n p1)), .val (.int (v_p p1)), .val (.int (v_lim p1)), .unset, .unset, .unset, .unset, .unset] [(.int (v_n p1))])) _
        refine XS.iconst X9.here hx rfl (hb hby at_155) ?_
        show Steps p.tables e below (T9.setTop (mkF m 156 #[.val (.int p0), .val (.int p1), .val (.long q2), .second, .val (.ref b1), .val (.int (b2i (v_pl p1))), .val (.int (v_n p1)), .val (.int (v_p p1)), .val (.int (v_lim p1)), .unset, .unset, .unset, .unset, .unset] [(.int (3 : Int32)), (.int (v_n p1))])) _
        by_cases hc17 : (v_n p1) = (3 : Int32)
        · refine XS.icmpNo X9.here hx rfl (hb hby at_156) rfl (teq hc17).2 ?_
          have k : ∀ (v1 : Int32), v1 = (65535 : Int32) → Steps p.tables e below (T9.setTop (mkF m 166 #[.val (.int p0), .val (.int p1), .val (.long q2), .second, .val (.ref b1), .val (.int (b2i (v_pl p1))), .val (.int (v_n p1)), .val (.int (v_p p1)), .val (.int (v_lim p1)), .unset, .unset, .unset, .unset, .unset] [(.int v1)])) t := fun v1 hv1 => k v1 (hv1.trans (if_pos hc17).symm)
          show Steps p.tables e below (T9.setTop (mkF m 159 #[.val (.int p0), .val (.int p1), .val (.long q2), .second, .val (.ref b1), .val (.int (b2i (v_pl p1))), .val (.int (v_n p1)), .val (.int (v_p p1)), .val (.int (v_lim p1)), .unset, .unset, .unset, .unset, .unset] [])) _
          refine X9.ldcInt hx hown (mvT hZ (hw _ (List.mem_of_getElem? (i := 17) rfl))) (g := (mkF m 159 #[.val (.int p0), .val (.int p1), .val (.long q2), .second, .val (.ref b1), .val (.int (b2i (v_pl p1))), .val (.int (v_n p1)), .val (.int (v_p p1)), .val (.int (v_lim p1)), .unset, .unset, .unset, .unset, .unset] [])) rfl (hb hby at_159) _ ?_
          show Steps p.tables e below (T9.setTop (mkF m 161 #[.val (.int p0), .val (.int p1), .val (.long q2), .second, .val (.ref b1), .val (.int (b2i (v_pl p1))), .val (.int (v_n p1)), .val (.int (v_p p1)), .val (.int (v_lim p1)), .unset, .unset, .unset, .unset, .unset] [(.int (65535 : Int32))])) _
          refine XS.goto X9.here hx rfl (pc0 := 161) (pc' := 166) rfl (hb hby at_161) (by decide) (by decide) ?_
          exact k _ rfl
        · refine XS.icmpYes X9.here hx rfl (pc0 := 156) (pc' := 164) rfl (hb hby at_156) rfl (feq hc17).2 (by decide) (by decide) ?_
          have k : ∀ (v1 : Int32), v1 = (2097151 : Int32) → Steps p.tables e below (T9.setTop (mkF m 166 #[.val (.int p0), .val (.int p1), .val (.long q2), .second, .val (.ref b1), .val (.int (b2i (v_pl p1))), .val (.int (v_n p1)), .val (.int (v_p p1)), .val (.int (v_lim p1)), .unset, .unset, .unset, .unset, .unset] [(.int v1)])) t := fun v1 hv1 => k v1 (hv1.trans (if_neg hc17).symm)
          show Steps p.tables e below (T9.setTop (mkF m 164 #[.val (.int p0), .val (.int p1), .val (.long q2), .second, .val (.ref b1), .val (.int (b2i (v_pl p1))), .val (.int (v_n p1)), .val (.int (v_p p1)), .val (.int (v_lim p1)), .unset, .unset, .unset, .unset, .unset] [])) _
          refine X9.ldcInt hx hown (mvT hZ (hw _ (List.mem_of_getElem? (i := 12) rfl))) (g := (mkF m 164 #[.val (.int p0), .val (.int p1), .val (.long q2), .second, .val (.ref b1), .val (.int (b2i (v_pl p1))), .val (.int (v_n p1)), .val (.int (v_p p1)), .val (.int (v_lim p1)), .unset, .unset, .unset, .unset, .unset] [])) rfl (hb hby at_164) _ ?_
          exact k _ rfl
  have pre18 : ∀ t, Steps p.tables e below (T9.setTop (mkF m 176 #[.val (.int p0), .val (.int p1), .val (.long q2), .second, .val (.ref b1), .val (.int (b2i (v_pl p1))), .val (.int (v_n p1)), .val (.int (v_p p1)), .val (.int (v_lim p1)), .val (.int (v_mask p1)), .val (.int (v_c p0 p1)), .unset, .unset, .unset] [(.int (b2i (v_pl p1)))])) t → Steps p.tables e below (s₁.setTop (entryFrame m #[(.int p0), (.int p1), (.long q2)] maxLocals)) t := by
    intro t k
    refine pre14 t ?_
    show Steps p.tables e below (T9.setTop (mkF m 166 #[.val (.int p0), .val (.int p1), .val (.long q2), .second, .val (.ref b1), .val (.int (b2i (v_pl p1))), .val (.int (v_n p1)), .val (.int (v_p p1)), .val (.int (v_lim p1)), .unset, .unset, .unset, .unset, .unset] [(.int (if (v_n p1) = (1 : Int32) then (127 : Int32) else (if (v_n p1) = (2 : Int32) then (2047 : Int32) else (if (v_n p1) = (3 : Int32) then (65535 : Int32) else (2097151 : Int32)))))])) _
    refine XS.istore X9.here hx rfl (hb hby at_166) rfl (l' := #[.val (.int p0), .val (.int p1), .val (.long q2), .second, .val (.ref b1), .val (.int (b2i (v_pl p1))), .val (.int (v_n p1)), .val (.int (v_p p1)), .val (.int (v_lim p1)), .val (.int (v_mask p1)), .unset, .unset, .unset, .unset]) rfl ?_
    show Steps p.tables e below (T9.setTop (mkF m 168 #[.val (.int p0), .val (.int p1), .val (.long q2), .second, .val (.ref b1), .val (.int (b2i (v_pl p1))), .val (.int (v_n p1)), .val (.int (v_p p1)), .val (.int (v_lim p1)), .val (.int (v_mask p1)), .unset, .unset, .unset, .unset] [])) _
    refine XS.iloadN X9.here hx rfl (hb hby at_168) rfl ?_
    show Steps p.tables e below (T9.setTop (mkF m 169 #[.val (.int p0), .val (.int p1), .val (.long q2), .second, .val (.ref b1), .val (.int (b2i (v_pl p1))), .val (.int (v_n p1)), .val (.int (v_p p1)), .val (.int (v_lim p1)), .val (.int (v_mask p1)), .unset, .unset, .unset, .unset] [(.int p0)])) _
    refine XS.iload X9.here hx rfl (hb hby at_169) rfl ?_
    show Steps p.tables e below (T9.setTop (mkF m 171 #[.val (.int p0), .val (.int p1), .val (.long q2), .second, .val (.ref b1), .val (.int (b2i (v_pl p1))), .val (.int (v_n p1)), .val (.int (v_p p1)), .val (.int (v_lim p1)), .val (.int (v_mask p1)), .unset, .unset, .unset, .unset] [(.int (v_mask p1)), (.int p0)])) _
    refine XS.iand X9.here hx rfl (hb hby at_171) rfl ?_
    show Steps p.tables e below (T9.setTop (mkF m 172 #[.val (.int p0), .val (.int p1), .val (.long q2), .second, .val (.ref b1), .val (.int (b2i (v_pl p1))), .val (.int (v_n p1)), .val (.int (v_p p1)), .val (.int (v_lim p1)), .val (.int (v_mask p1)), .unset, .unset, .unset, .unset] [(.int (p0 &&& (v_mask p1)))])) _
    refine XS.istore X9.here hx rfl (hb hby at_172) rfl (l' := #[.val (.int p0), .val (.int p1), .val (.long q2), .second, .val (.ref b1), .val (.int (b2i (v_pl p1))), .val (.int (v_n p1)), .val (.int (v_p p1)), .val (.int (v_lim p1)), .val (.int (v_mask p1)), .val (.int (v_c p0 p1)), .unset, .unset, .unset]) rfl ?_
    show Steps p.tables e below (T9.setTop (mkF m 174 #[.val (.int p0), .val (.int p1), .val (.long q2), .second, .val (.ref b1), .val (.int (b2i (v_pl p1))), .val (.int (v_n p1)), .val (.int (v_p p1)), .val (.int (v_lim p1)), .val (.int (v_mask p1)), .val (.int (v_c p0 p1)), .unset, .unset, .unset] [])) _
    refine XS.iload X9.here hx rfl (hb hby at_174) rfl ?_
    exact k
  obtain ⟨T47, hh47, L47, X47, e47, N47, I47, pre47⟩ : ∃ (T : State) (hh47 : Heap) (L : List Loc), Stand p l e room_1 s m #[(.int p0), (.int p1), (.long q2)] below meth c T L 1 8 ∧ T.heap = hh47 ∧ Fr n0 L ∧ (PI Z hh47 n0 b1 (v_fb p0 p1 q2)) ∧ ∀ t, Steps p.tables e below (T.setTop (mkF m 259 #[.val (.int p0), .val (.int p1), .val (.long q2), .second, .val (.ref b1), .val (.int (b2i (v_pl p1))), .val (.int (v_n p1)), .val (.int (v_p p1)), .val (.int (v_lim p1)), .val (.int (v_mask p1)), .val (.int (v_c p0 p1)), .unset, .unset, .unset] [])) t → Steps p.tables e below (s₁.setTop (entryFrame m #[(.int p0), (.int p1), (.long q2)] maxLocals)) t := by
    by_cases hc19 : (v_pl p1) = true
    ·
      obtain ⟨_, _, ⟨T20, L20, k20, n20⟩, -, X20, ⟨Lc20, hQ20, l20, y20, z20⟩, st20⟩ := Jvm.LawKit.callS X9 hx (y := (⟨"com/example/merkki/merkki/Utf8SequencePinLaw", "enc", "(III)I"⟩ : MethodName)) hown (mvT hZ (hw _ (List.mem_of_getElem? (i := 1) rfl))) (mvT hZ (hw _ (List.mem_of_getElem? (i := 2) rfl))) (mvT hZ (hw _ (List.mem_of_getElem? (i := 3) rfl))) (mvT hZ (hw _ (List.mem_of_getElem? (i := 4) rfl))) (by decide) (backOf (W := 2) (rm1 l Z a0 hw [] (v_c p0 p1) (v_n p1) (0 : Int32) h9 n0 Z9) hZ (hw _ (List.mem_of_getElem? (i := 4) rfl)) (hw _ (List.mem_of_getElem? (i := 3) rfl)) (by decide) (by decide)) (g := (mkF m 188 #[.val (.int p0), .val (.int p1), .val (.long q2), .second, .val (.ref b1), .val (.int (b2i (v_pl p1))), .val (.int (v_n p1)), .val (.int (v_p p1)), .val (.int (v_lim p1)), .val (.int (v_mask p1)), .val (.int (v_c p0 p1)), .unset, .unset, .unset] [(.int (0 : Int32)), (.int (v_n p1)), (.int (v_c p0 p1)), (.int (v_p p1)), (.ref b1)])) rfl (by rw [hml]; rfl) (argsL := [(.int (v_c p0 p1)), (.int (v_n p1)), (.int (0 : Int32))]) (rest := [(.int (v_p p1)), (.ref b1)]) (lenOf pd_0 rfl) rfl (by show 2 * 0 + _ ≤ _; exact Nat.le_of_eq rfl) (hb hby at_188) (fun _ _ => ⟨rfl, e9, (by decide : 1 + 0 ≤ _), (by decide : 8 + 0 ≤ _)⟩)
      dsimp only [Pt.U, Pt.locs, Pt.cells, Pt.slots] at X20 l20 y20 z20 st20 hQ20
      subst y20 z20
      obtain ⟨rfl, N20q, e20⟩ := hQ20
      have N20 : Fr n0 L20 := by rw [l20]; exact Fr.app N9 N20q
      obtain ⟨T21, h21, X21, e21, W21, V21, st21⟩ := wrB X20 hx hZ e20 V9n (j := (v_p p1)) (own_ix0 (own_p p1).1 (own_p p1).2) (nar_byte _) (g := (mkF m 192 #[.val (.int p0), .val (.int p1), .val (.long q2), .second, .val (.ref b1), .val (.int (b2i (v_pl p1))), .val (.int (v_n p1)), .val (.int (v_p p1)), .val (.int (v_lim p1)), .val (.int (v_mask p1)), .val (.int (v_c p0 p1)), .unset, .unset, .unset] [(.int ((F1 (v_c p0 p1) (v_n p1) (0 : Int32)).toInt8.toInt32)), (.int (v_p p1)), (.ref b1)])) rfl rfl (hb hby at_192)
      have V21n : AI Z h21 b1 .byte (8 : Int32) (v_a0 p0 p1 q2) := V21
      have Z21 : n0 ≤ h21.size := Nat.le_trans Z9 (Keep.of_wr W21).1
      have N21 := Fr.snoc X21 N20 ge_b1
      have pre22 : ∀ t, Steps p.tables e below (T21.setTop (mkF m 196 #[.val (.int p0), .val (.int p1), .val (.long q2), .second, .val (.ref b1), .val (.int (b2i (v_pl p1))), .val (.int (v_n p1)), .val (.int (v_p p1)), .val (.int (v_lim p1)), .val (.int (v_mask p1)), .val (.int (v_c p0 p1)), .unset, .unset, .unset] [(.int (1 : Int32)), (.int (v_n p1))])) t → Steps p.tables e below (s₁.setTop (entryFrame m #[(.int p0), (.int p1), (.long q2)] maxLocals)) t := by
        intro t k
        refine pre18 t ?_
        show Steps p.tables e below (T9.setTop (mkF m 176 #[.val (.int p0), .val (.int p1), .val (.long q2), .second, .val (.ref b1), .val (.int (b2i (v_pl p1))), .val (.int (v_n p1)), .val (.int (v_p p1)), .val (.int (v_lim p1)), .val (.int (v_mask p1)), .val (.int (v_c p0 p1)), .unset, .unset, .unset] [(.int (b2i (v_pl p1)))])) _
        refine XS.ifNo X9.here hx rfl (hb hby at_176) rfl ((if0 _ _).trans (feq (b2i_ne hc19)).1) ?_
        show Steps p.tables e below (T9.setTop (mkF m 179 #[.val (.int p0), .val (.int p1), .val (.long q2), .second, .val (.ref b1), .val (.int (b2i (v_pl p1))), .val (.int (v_n p1)), .val (.int (v_p p1)), .val (.int (v_lim p1)), .val (.int (v_mask p1)), .val (.int (v_c p0 p1)), .unset, .unset, .unset] [])) _
        refine XS.aload X9.here hx rfl (hb hby at_179) rfl rfl ?_
        show Steps p.tables e below (T9.setTop (mkF m 181 #[.val (.int p0), .val (.int p1), .val (.long q2), .second, .val (.ref b1), .val (.int (b2i (v_pl p1))), .val (.int (v_n p1)), .val (.int (v_p p1)), .val (.int (v_lim p1)), .val (.int (v_mask p1)), .val (.int (v_c p0 p1)), .unset, .unset, .unset] [(.ref b1)])) _
        refine XS.iload X9.here hx rfl (hb hby at_181) rfl ?_
        show Steps p.tables e below (T9.setTop (mkF m 183 #[.val (.int p0), .val (.int p1), .val (.long q2), .second, .val (.ref b1), .val (.int (b2i (v_pl p1))), .val (.int (v_n p1)), .val (.int (v_p p1)), .val (.int (v_lim p1)), .val (.int (v_mask p1)), .val (.int (v_c p0 p1)), .unset, .unset, .unset] [(.int (v_p p1)), (.ref b1)])) _
        refine XS.iload X9.here hx rfl (hb hby at_183) rfl ?_
        show Steps p.tables e below (T9.setTop (mkF m 185 #[.val (.int p0), .val (.int p1), .val (.long q2), .second, .val (.ref b1), .val (.int (b2i (v_pl p1))), .val (.int (v_n p1)), .val (.int (v_p p1)), .val (.int (v_lim p1)), .val (.int (v_mask p1)), .val (.int (v_c p0 p1)), .unset, .unset, .unset] [(.int (v_c p0 p1)), (.int (v_p p1)), (.ref b1)])) _
        refine XS.iload X9.here hx rfl (hb hby at_185) rfl ?_
        show Steps p.tables e below (T9.setTop (mkF m 187 #[.val (.int p0), .val (.int p1), .val (.long q2), .second, .val (.ref b1), .val (.int (b2i (v_pl p1))), .val (.int (v_n p1)), .val (.int (v_p p1)), .val (.int (v_lim p1)), .val (.int (v_mask p1)), .val (.int (v_c p0 p1)), .unset, .unset, .unset] [(.int (v_n p1)), (.int (v_c p0 p1)), (.int (v_p p1)), (.ref b1)])) _
        refine XS.iconst X9.here hx rfl (hb hby at_187) ?_
        show Steps p.tables e below (T9.setTop (mkF m 188 #[.val (.int p0), .val (.int p1), .val (.long q2), .second, .val (.ref b1), .val (.int (b2i (v_pl p1))), .val (.int (v_n p1)), .val (.int (v_p p1)), .val (.int (v_lim p1)), .val (.int (v_mask p1)), .val (.int (v_c p0 p1)), .unset, .unset, .unset] [(.int (0 : Int32)), (.int (v_n p1)), (.int (v_c p0 p1)), (.int (v_p p1)), (.ref b1)])) _
        refine st20 _ ?_
        show Steps p.tables e below (T20.setTop (mkF m 191 #[.val (.int p0), .val (.int p1), .val (.long q2), .second, .val (.ref b1), .val (.int (b2i (v_pl p1))), .val (.int (v_n p1)), .val (.int (v_p p1)), .val (.int (v_lim p1)), .val (.int (v_mask p1)), .val (.int (v_c p0 p1)), .unset, .unset, .unset] [(.int (F1 (v_c p0 p1) (v_n p1) (0 : Int32))), (.int (v_p p1)), (.ref b1)])) _
        refine XS.i2b X20.here hx rfl (hb hby at_191) rfl ?_
        show Steps p.tables e below (T20.setTop (mkF m 192 #[.val (.int p0), .val (.int p1), .val (.long q2), .second, .val (.ref b1), .val (.int (b2i (v_pl p1))), .val (.int (v_n p1)), .val (.int (v_p p1)), .val (.int (v_lim p1)), .val (.int (v_mask p1)), .val (.int (v_c p0 p1)), .unset, .unset, .unset] [(.int ((F1 (v_c p0 p1) (v_n p1) (0 : Int32)).toInt8.toInt32)), (.int (v_p p1)), (.ref b1)])) _
        refine st21 _ ?_
        show Steps p.tables e below (T21.setTop (mkF m 193 #[.val (.int p0), .val (.int p1), .val (.long q2), .second, .val (.ref b1), .val (.int (b2i (v_pl p1))), .val (.int (v_n p1)), .val (.int (v_p p1)), .val (.int (v_lim p1)), .val (.int (v_mask p1)), .val (.int (v_c p0 p1)), .unset, .unset, .unset] [])) _
        refine XS.iload X21.here hx rfl (hb hby at_193) rfl ?_
        show Steps p.tables e below (T21.setTop (mkF m 195 #[.val (.int p0), .val (.int p1), .val (.long q2), .second, .val (.ref b1), .val (.int (b2i (v_pl p1))), .val (.int (v_n p1)), .val (.int (v_p p1)), .val (.int (v_lim p1)), .val (.int (v_mask p1)), .val (.int (v_c p0 p1)), .unset, .unset, .unset] [(.int (v_n p1))])) _
        refine XS.iconst X21.here hx rfl (hb hby at_195) ?_
        exact k
      obtain ⟨T28, hh28, L28, X28, e28, N28, I28, pre28⟩ : ∃ (T : State) (hh28 : Heap) (L : List Loc), Stand p l e room_1 s m #[(.int p0), (.int p1), (.long q2)] below meth c T L 1 8 ∧ T.heap = hh28 ∧ Fr n0 L ∧ (PI Z hh28 n0 b1 (v_a1 p0 p1 q2)) ∧ ∀ t, Steps p.tables e below (T.setTop (mkF m 215 #[.val (.int p0), .val (.int p1), .val (.long q2), .second, .val (.ref b1), .val (.int (b2i (v_pl p1))), .val (.int (v_n p1)), .val (.int (v_p p1)), .val (.int (v_lim p1)), .val (.int (v_mask p1)), .val (.int (v_c p0 p1)), .unset, .unset, .unset] [])) t → Steps p.tables e below (s₁.setTop (entryFrame m #[(.int p0), (.int p1), (.long q2)] maxLocals)) t := by
        by_cases hc23 : (1 : Int32) < (v_n p1)
        ·
          obtain ⟨_, _, ⟨T24, L24, k24, n24⟩, -, X24, ⟨Lc24, hQ24, l24, y24, z24⟩, st24⟩ := Jvm.LawKit.callS X21 hx (y := (⟨"com/example/merkki/merkki/Utf8SequencePinLaw", "enc", "(III)I"⟩ : MethodName)) hown (mvT hZ (hw _ (List.mem_of_getElem? (i := 1) rfl))) (mvT hZ (hw _ (List.mem_of_getElem? (i := 2) rfl))) (mvT hZ (hw _ (List.mem_of_getElem? (i := 3) rfl))) (mvT hZ (hw _ (List.mem_of_getElem? (i := 4) rfl))) (by decide) (backOf (W := 2) (rm1 l Z a0 hw [] (v_c p0 p1) (v_n p1) (1 : Int32) h21 n0 Z21) hZ (hw _ (List.mem_of_getElem? (i := 4) rfl)) (hw _ (List.mem_of_getElem? (i := 3) rfl)) (by decide) (by decide)) (g := (mkF m 210 #[.val (.int p0), .val (.int p1), .val (.long q2), .second, .val (.ref b1), .val (.int (b2i (v_pl p1))), .val (.int (v_n p1)), .val (.int (v_p p1)), .val (.int (v_lim p1)), .val (.int (v_mask p1)), .val (.int (v_c p0 p1)), .unset, .unset, .unset] [(.int (1 : Int32)), (.int (v_n p1)), (.int (v_c p0 p1)), (.int ((v_p p1) + (1 : Int32))), (.ref b1)])) rfl (by rw [hml]; rfl) (argsL := [(.int (v_c p0 p1)), (.int (v_n p1)), (.int (1 : Int32))]) (rest := [(.int ((v_p p1) + (1 : Int32))), (.ref b1)]) (lenOf pd_0 rfl) rfl (by show 2 * 0 + _ ≤ _; exact Nat.le_of_eq rfl) (hb hby at_210) (fun _ _ => ⟨rfl, e21, (by decide : 1 + 0 ≤ _), (by decide : 8 + 0 ≤ _)⟩)
          dsimp only [Pt.U, Pt.locs, Pt.cells, Pt.slots] at X24 l24 y24 z24 st24 hQ24
          subst y24 z24
          obtain ⟨rfl, N24q, e24⟩ := hQ24
          have N24 : Fr n0 L24 := by rw [l24]; exact Fr.app N21 N24q
          obtain ⟨T25, h25, X25, e25, W25, V25, st25⟩ := wrB X24 hx hZ e24 V21n (j := ((v_p p1) + (1 : Int32))) (own_ix1 (own_p p1).1 (own_p p1).2) (nar_byte _) (g := (mkF m 214 #[.val (.int p0), .val (.int p1), .val (.long q2), .second, .val (.ref b1), .val (.int (b2i (v_pl p1))), .val (.int (v_n p1)), .val (.int (v_p p1)), .val (.int (v_lim p1)), .val (.int (v_mask p1)), .val (.int (v_c p0 p1)), .unset, .unset, .unset] [(.int ((F1 (v_c p0 p1) (v_n p1) (1 : Int32)).toInt8.toInt32)), (.int ((v_p p1) + (1 : Int32))), (.ref b1)])) rfl rfl (hb hby at_214)
          have Z25 : n0 ≤ h25.size := Nat.le_trans Z21 (Keep.of_wr W25).1
          have N25 := Fr.snoc X25 N24 ge_b1
          have pre26 : ∀ t, Steps p.tables e below (T25.setTop (mkF m 215 #[.val (.int p0), .val (.int p1), .val (.long q2), .second, .val (.ref b1), .val (.int (b2i (v_pl p1))), .val (.int (v_n p1)), .val (.int (v_p p1)), .val (.int (v_lim p1)), .val (.int (v_mask p1)), .val (.int (v_c p0 p1)), .unset, .unset, .unset] [])) t → Steps p.tables e below (s₁.setTop (entryFrame m #[(.int p0), (.int p1), (.long q2)] maxLocals)) t := by
            intro t k
            refine pre22 t ?_
            show Steps p.tables e below (T21.setTop (mkF m 196 #[.val (.int p0), .val (.int p1), .val (.long q2), .second, .val (.ref b1), .val (.int (b2i (v_pl p1))), .val (.int (v_n p1)), .val (.int (v_p p1)), .val (.int (v_lim p1)), .val (.int (v_mask p1)), .val (.int (v_c p0 p1)), .unset, .unset, .unset] [(.int (1 : Int32)), (.int (v_n p1))])) _
            refine XS.icmpNo X21.here hx rfl (hb hby at_196) rfl (tlt hc23).2.2.2 ?_
            show Steps p.tables e below (T21.setTop (mkF m 199 #[.val (.int p0), .val (.int p1), .val (.long q2), .second, .val (.ref b1), .val (.int (b2i (v_pl p1))), .val (.int (v_n p1)), .val (.int (v_p p1)), .val (.int (v_lim p1)), .val (.int (v_mask p1)), .val (.int (v_c p0 p1)), .unset, .unset, .unset] [])) _
            refine XS.aload X21.here hx rfl (hb hby at_199) rfl rfl ?_
            show Steps p.tables e below (T21.setTop (mkF m 201 #[.val (.int p0), .val (.int p1), .val (.long q2), .second, .val (.ref b1), .val (.int (b2i (v_pl p1))), .val (.int (v_n p1)), .val (.int (v_p p1)), .val (.int (v_lim p1)), .val (.int (v_mask p1)), .val (.int (v_c p0 p1)), .unset, .unset, .unset] [(.ref b1)])) _
            refine XS.iload X21.here hx rfl (hb hby at_201) rfl ?_
            show Steps p.tables e below (T21.setTop (mkF m 203 #[.val (.int p0), .val (.int p1), .val (.long q2), .second, .val (.ref b1), .val (.int (b2i (v_pl p1))), .val (.int (v_n p1)), .val (.int (v_p p1)), .val (.int (v_lim p1)), .val (.int (v_mask p1)), .val (.int (v_c p0 p1)), .unset, .unset, .unset] [(.int (v_p p1)), (.ref b1)])) _
            refine XS.iconst X21.here hx rfl (hb hby at_203) ?_
            show Steps p.tables e below (T21.setTop (mkF m 204 #[.val (.int p0), .val (.int p1), .val (.long q2), .second, .val (.ref b1), .val (.int (b2i (v_pl p1))), .val (.int (v_n p1)), .val (.int (v_p p1)), .val (.int (v_lim p1)), .val (.int (v_mask p1)), .val (.int (v_c p0 p1)), .unset, .unset, .unset] [(.int (1 : Int32)), (.int (v_p p1)), (.ref b1)])) _
            refine XS.iadd X21.here hx rfl (hb hby at_204) rfl ?_
            show Steps p.tables e below (T21.setTop (mkF m 205 #[.val (.int p0), .val (.int p1), .val (.long q2), .second, .val (.ref b1), .val (.int (b2i (v_pl p1))), .val (.int (v_n p1)), .val (.int (v_p p1)), .val (.int (v_lim p1)), .val (.int (v_mask p1)), .val (.int (v_c p0 p1)), .unset, .unset, .unset] [(.int ((v_p p1) + (1 : Int32))), (.ref b1)])) _
            refine XS.iload X21.here hx rfl (hb hby at_205) rfl ?_
            show Steps p.tables e below (T21.setTop (mkF m 207 #[.val (.int p0), .val (.int p1), .val (.long q2), .second, .val (.ref b1), .val (.int (b2i (v_pl p1))), .val (.int (v_n p1)), .val (.int (v_p p1)), .val (.int (v_lim p1)), .val (.int (v_mask p1)), .val (.int (v_c p0 p1)), .unset, .unset, .unset] [(.int (v_c p0 p1)), (.int ((v_p p1) + (1 : Int32))), (.ref b1)])) _
            refine XS.iload X21.here hx rfl (hb hby at_207) rfl ?_
            show Steps p.tables e below (T21.setTop (mkF m 209 #[.val (.int p0), .val (.int p1), .val (.long q2), .second, .val (.ref b1), .val (.int (b2i (v_pl p1))), .val (.int (v_n p1)), .val (.int (v_p p1)), .val (.int (v_lim p1)), .val (.int (v_mask p1)), .val (.int (v_c p0 p1)), .unset, .unset, .unset] [(.int (v_n p1)), (.int (v_c p0 p1)), (.int ((v_p p1) + (1 : Int32))), (.ref b1)])) _
            refine XS.iconst X21.here hx rfl (hb hby at_209) ?_
            show Steps p.tables e below (T21.setTop (mkF m 210 #[.val (.int p0), .val (.int p1), .val (.long q2), .second, .val (.ref b1), .val (.int (b2i (v_pl p1))), .val (.int (v_n p1)), .val (.int (v_p p1)), .val (.int (v_lim p1)), .val (.int (v_mask p1)), .val (.int (v_c p0 p1)), .unset, .unset, .unset] [(.int (1 : Int32)), (.int (v_n p1)), (.int (v_c p0 p1)), (.int ((v_p p1) + (1 : Int32))), (.ref b1)])) _
            refine st24 _ ?_
            show Steps p.tables e below (T24.setTop (mkF m 213 #[.val (.int p0), .val (.int p1), .val (.long q2), .second, .val (.ref b1), .val (.int (b2i (v_pl p1))), .val (.int (v_n p1)), .val (.int (v_p p1)), .val (.int (v_lim p1)), .val (.int (v_mask p1)), .val (.int (v_c p0 p1)), .unset, .unset, .unset] [(.int (F1 (v_c p0 p1) (v_n p1) (1 : Int32))), (.int ((v_p p1) + (1 : Int32))), (.ref b1)])) _
            refine XS.i2b X24.here hx rfl (hb hby at_213) rfl ?_
            show Steps p.tables e below (T24.setTop (mkF m 214 #[.val (.int p0), .val (.int p1), .val (.long q2), .second, .val (.ref b1), .val (.int (b2i (v_pl p1))), .val (.int (v_n p1)), .val (.int (v_p p1)), .val (.int (v_lim p1)), .val (.int (v_mask p1)), .val (.int (v_c p0 p1)), .unset, .unset, .unset] [(.int ((F1 (v_c p0 p1) (v_n p1) (1 : Int32)).toInt8.toInt32)), (.int ((v_p p1) + (1 : Int32))), (.ref b1)])) _
            refine st25 _ ?_
            exact k
          refine ⟨T25, _, _, X25, e25, N25, ⟨(by rw [(show (v_a1 p0 p1 q2) = (@upA Int32 (v_a0 p0 p1 q2) ((v_p p1) + (1 : Int32)) ((F1 (v_c p0 p1) (v_n p1) (1 : Int32)).toInt8.toInt32)) from ((if_pos hc23).trans rfl))]; exact V25), ge_b1, Z25⟩, fun t k => ?_⟩
          exact pre26 t k
        ·
          have pre27 : ∀ t, Steps p.tables e below (T21.setTop (mkF m 215 #[.val (.int p0), .val (.int p1), .val (.long q2), .second, .val (.ref b1), .val (.int (b2i (v_pl p1))), .val (.int (v_n p1)), .val (.int (v_p p1)), .val (.int (v_lim p1)), .val (.int (v_mask p1)), .val (.int (v_c p0 p1)), .unset, .unset, .unset] [])) t → Steps p.tables e below (s₁.setTop (entryFrame m #[(.int p0), (.int p1), (.long q2)] maxLocals)) t := by
            intro t k
            refine pre22 t ?_
            show Steps p.tables e below (T21.setTop (mkF m 196 #[.val (.int p0), .val (.int p1), .val (.long q2), .second, .val (.ref b1), .val (.int (b2i (v_pl p1))), .val (.int (v_n p1)), .val (.int (v_p p1)), .val (.int (v_lim p1)), .val (.int (v_mask p1)), .val (.int (v_c p0 p1)), .unset, .unset, .unset] [(.int (1 : Int32)), (.int (v_n p1))])) _
            refine XS.icmpYes X21.here hx rfl (pc0 := 196) (pc' := 215) rfl (hb hby at_196) rfl (flt hc23).2.2.2 (by decide) (by decide) ?_
            exact k
          refine ⟨T21, _, _, X21, e21, N21, ⟨(by rw [(show (v_a1 p0 p1 q2) = (v_a0 p0 p1 q2) from ((if_neg hc23).trans rfl))]; exact V21n), ge_b1, Z21⟩, fun t k => ?_⟩
          exact pre27 t k
      obtain ⟨k29_0, k29_g_ia, k29_sz⟩ := I28
      have pre30 : ∀ t, Steps p.tables e below (T28.setTop (mkF m 218 #[.val (.int p0), .val (.int p1), .val (.long q2), .second, .val (.ref b1), .val (.int (b2i (v_pl p1))), .val (.int (v_n p1)), .val (.int (v_p p1)), .val (.int (v_lim p1)), .val (.int (v_mask p1)), .val (.int (v_c p0 p1)), .unset, .unset, .unset] [(.int (2 : Int32)), (.int (v_n p1))])) t → Steps p.tables e below (s₁.setTop (entryFrame m #[(.int p0), (.int p1), (.long q2)] maxLocals)) t := by
        intro t k
        refine pre28 t ?_
        show Steps p.tables e below (T28.setTop (mkF m 215 #[.val (.int p0), .val (.int p1), .val (.long q2), .second, .val (.ref b1), .val (.int (b2i (v_pl p1))), .val (.int (v_n p1)), .val (.int (v_p p1)), .val (.int (v_lim p1)), .val (.int (v_mask p1)), .val (.int (v_c p0 p1)), .unset, .unset, .unset] [])) _
        refine XS.iload X28.here hx rfl (hb hby at_215) rfl ?_
        show Steps p.tables e below (T28.setTop (mkF m 217 #[.val (.int p0), .val (.int p1), .val (.long q2), .second, .val (.ref b1), .val (.int (b2i (v_pl p1))), .val (.int (v_n p1)), .val (.int (v_p p1)), .val (.int (v_lim p1)), .val (.int (v_mask p1)), .val (.int (v_c p0 p1)), .unset, .unset, .unset] [(.int (v_n p1))])) _
        refine XS.iconst X28.here hx rfl (hb hby at_217) ?_
        exact k
      obtain ⟨T36, hh36, L36, X36, e36, N36, I36, pre36⟩ : ∃ (T : State) (hh36 : Heap) (L : List Loc), Stand p l e room_1 s m #[(.int p0), (.int p1), (.long q2)] below meth c T L 1 8 ∧ T.heap = hh36 ∧ Fr n0 L ∧ (PI Z hh36 n0 b1 (v_a2 p0 p1 q2)) ∧ ∀ t, Steps p.tables e below (T.setTop (mkF m 237 #[.val (.int p0), .val (.int p1), .val (.long q2), .second, .val (.ref b1), .val (.int (b2i (v_pl p1))), .val (.int (v_n p1)), .val (.int (v_p p1)), .val (.int (v_lim p1)), .val (.int (v_mask p1)), .val (.int (v_c p0 p1)), .unset, .unset, .unset] [])) t → Steps p.tables e below (s₁.setTop (entryFrame m #[(.int p0), (.int p1), (.long q2)] maxLocals)) t := by
        by_cases hc31 : (2 : Int32) < (v_n p1)
        ·
          obtain ⟨_, _, ⟨T32, L32, k32, n32⟩, -, X32, ⟨Lc32, hQ32, l32, y32, z32⟩, st32⟩ := Jvm.LawKit.callS X28 hx (y := (⟨"com/example/merkki/merkki/Utf8SequencePinLaw", "enc", "(III)I"⟩ : MethodName)) hown (mvT hZ (hw _ (List.mem_of_getElem? (i := 1) rfl))) (mvT hZ (hw _ (List.mem_of_getElem? (i := 2) rfl))) (mvT hZ (hw _ (List.mem_of_getElem? (i := 3) rfl))) (mvT hZ (hw _ (List.mem_of_getElem? (i := 4) rfl))) (by decide) (backOf (W := 2) (rm1 l Z a0 hw [] (v_c p0 p1) (v_n p1) (2 : Int32) hh28 n0 k29_sz) hZ (hw _ (List.mem_of_getElem? (i := 4) rfl)) (hw _ (List.mem_of_getElem? (i := 3) rfl)) (by decide) (by decide)) (g := (mkF m 232 #[.val (.int p0), .val (.int p1), .val (.long q2), .second, .val (.ref b1), .val (.int (b2i (v_pl p1))), .val (.int (v_n p1)), .val (.int (v_p p1)), .val (.int (v_lim p1)), .val (.int (v_mask p1)), .val (.int (v_c p0 p1)), .unset, .unset, .unset] [(.int (2 : Int32)), (.int (v_n p1)), (.int (v_c p0 p1)), (.int ((v_p p1) + (2 : Int32))), (.ref b1)])) rfl (by rw [hml]; rfl) (argsL := [(.int (v_c p0 p1)), (.int (v_n p1)), (.int (2 : Int32))]) (rest := [(.int ((v_p p1) + (2 : Int32))), (.ref b1)]) (lenOf pd_0 rfl) rfl (by show 2 * 0 + _ ≤ _; exact Nat.le_of_eq rfl) (hb hby at_232) (fun _ _ => ⟨rfl, e28, (by decide : 1 + 0 ≤ _), (by decide : 8 + 0 ≤ _)⟩)
          dsimp only [Pt.U, Pt.locs, Pt.cells, Pt.slots] at X32 l32 y32 z32 st32 hQ32
          subst y32 z32
          obtain ⟨rfl, N32q, e32⟩ := hQ32
          have N32 : Fr n0 L32 := by rw [l32]; exact Fr.app N28 N32q
          obtain ⟨T33, h33, X33, e33, W33, V33, st33⟩ := wrB X32 hx hZ e32 k29_0 (j := ((v_p p1) + (2 : Int32))) (own_ix2 (own_p p1).1 (own_p p1).2) (nar_byte _) (g := (mkF m 236 #[.val (.int p0), .val (.int p1), .val (.long q2), .second, .val (.ref b1), .val (.int (b2i (v_pl p1))), .val (.int (v_n p1)), .val (.int (v_p p1)), .val (.int (v_lim p1)), .val (.int (v_mask p1)), .val (.int (v_c p0 p1)), .unset, .unset, .unset] [(.int ((F1 (v_c p0 p1) (v_n p1) (2 : Int32)).toInt8.toInt32)), (.int ((v_p p1) + (2 : Int32))), (.ref b1)])) rfl rfl (hb hby at_236)
          have Z33 : n0 ≤ h33.size := Nat.le_trans k29_sz (Keep.of_wr W33).1
          have N33 := Fr.snoc X33 N32 k29_g_ia
          have pre34 : ∀ t, Steps p.tables e below (T33.setTop (mkF m 237 #[.val (.int p0), .val (.int p1), .val (.long q2), .second, .val (.ref b1), .val (.int (b2i (v_pl p1))), .val (.int (v_n p1)), .val (.int (v_p p1)), .val (.int (v_lim p1)), .val (.int (v_mask p1)), .val (.int (v_c p0 p1)), .unset, .unset, .unset] [])) t → Steps p.tables e below (s₁.setTop (entryFrame m #[(.int p0), (.int p1), (.long q2)] maxLocals)) t := by
            intro t k
            refine pre30 t ?_
            show Steps p.tables e below (T28.setTop (mkF m 218 #[.val (.int p0), .val (.int p1), .val (.long q2), .second, .val (.ref b1), .val (.int (b2i (v_pl p1))), .val (.int (v_n p1)), .val (.int (v_p p1)), .val (.int (v_lim p1)), .val (.int (v_mask p1)), .val (.int (v_c p0 p1)), .unset, .unset, .unset] [(.int (2 : Int32)), (.int (v_n p1))])) _
            refine XS.icmpNo X28.here hx rfl (hb hby at_218) rfl (tlt hc31).2.2.2 ?_
            show Steps p.tables e below (T28.setTop (mkF m 221 #[.val (.int p0), .val (.int p1), .val (.long q2), .second, .val (.ref b1), .val (.int (b2i (v_pl p1))), .val (.int (v_n p1)), .val (.int (v_p p1)), .val (.int (v_lim p1)), .val (.int (v_mask p1)), .val (.int (v_c p0 p1)), .unset, .unset, .unset] [])) _
            refine XS.aload X28.here hx rfl (hb hby at_221) rfl rfl ?_
            show Steps p.tables e below (T28.setTop (mkF m 223 #[.val (.int p0), .val (.int p1), .val (.long q2), .second, .val (.ref b1), .val (.int (b2i (v_pl p1))), .val (.int (v_n p1)), .val (.int (v_p p1)), .val (.int (v_lim p1)), .val (.int (v_mask p1)), .val (.int (v_c p0 p1)), .unset, .unset, .unset] [(.ref b1)])) _
            refine XS.iload X28.here hx rfl (hb hby at_223) rfl ?_
            show Steps p.tables e below (T28.setTop (mkF m 225 #[.val (.int p0), .val (.int p1), .val (.long q2), .second, .val (.ref b1), .val (.int (b2i (v_pl p1))), .val (.int (v_n p1)), .val (.int (v_p p1)), .val (.int (v_lim p1)), .val (.int (v_mask p1)), .val (.int (v_c p0 p1)), .unset, .unset, .unset] [(.int (v_p p1)), (.ref b1)])) _
            refine XS.iconst X28.here hx rfl (hb hby at_225) ?_
            show Steps p.tables e below (T28.setTop (mkF m 226 #[.val (.int p0), .val (.int p1), .val (.long q2), .second, .val (.ref b1), .val (.int (b2i (v_pl p1))), .val (.int (v_n p1)), .val (.int (v_p p1)), .val (.int (v_lim p1)), .val (.int (v_mask p1)), .val (.int (v_c p0 p1)), .unset, .unset, .unset] [(.int (2 : Int32)), (.int (v_p p1)), (.ref b1)])) _
            refine XS.iadd X28.here hx rfl (hb hby at_226) rfl ?_
            show Steps p.tables e below (T28.setTop (mkF m 227 #[.val (.int p0), .val (.int p1), .val (.long q2), .second, .val (.ref b1), .val (.int (b2i (v_pl p1))), .val (.int (v_n p1)), .val (.int (v_p p1)), .val (.int (v_lim p1)), .val (.int (v_mask p1)), .val (.int (v_c p0 p1)), .unset, .unset, .unset] [(.int ((v_p p1) + (2 : Int32))), (.ref b1)])) _
            refine XS.iload X28.here hx rfl (hb hby at_227) rfl ?_
            show Steps p.tables e below (T28.setTop (mkF m 229 #[.val (.int p0), .val (.int p1), .val (.long q2), .second, .val (.ref b1), .val (.int (b2i (v_pl p1))), .val (.int (v_n p1)), .val (.int (v_p p1)), .val (.int (v_lim p1)), .val (.int (v_mask p1)), .val (.int (v_c p0 p1)), .unset, .unset, .unset] [(.int (v_c p0 p1)), (.int ((v_p p1) + (2 : Int32))), (.ref b1)])) _
            refine XS.iload X28.here hx rfl (hb hby at_229) rfl ?_
            show Steps p.tables e below (T28.setTop (mkF m 231 #[.val (.int p0), .val (.int p1), .val (.long q2), .second, .val (.ref b1), .val (.int (b2i (v_pl p1))), .val (.int (v_n p1)), .val (.int (v_p p1)), .val (.int (v_lim p1)), .val (.int (v_mask p1)), .val (.int (v_c p0 p1)), .unset, .unset, .unset] [(.int (v_n p1)), (.int (v_c p0 p1)), (.int ((v_p p1) + (2 : Int32))), (.ref b1)])) _
            refine XS.iconst X28.here hx rfl (hb hby at_231) ?_
            show Steps p.tables e below (T28.setTop (mkF m 232 #[.val (.int p0), .val (.int p1), .val (.long q2), .second, .val (.ref b1), .val (.int (b2i (v_pl p1))), .val (.int (v_n p1)), .val (.int (v_p p1)), .val (.int (v_lim p1)), .val (.int (v_mask p1)), .val (.int (v_c p0 p1)), .unset, .unset, .unset] [(.int (2 : Int32)), (.int (v_n p1)), (.int (v_c p0 p1)), (.int ((v_p p1) + (2 : Int32))), (.ref b1)])) _
            refine st32 _ ?_
            show Steps p.tables e below (T32.setTop (mkF m 235 #[.val (.int p0), .val (.int p1), .val (.long q2), .second, .val (.ref b1), .val (.int (b2i (v_pl p1))), .val (.int (v_n p1)), .val (.int (v_p p1)), .val (.int (v_lim p1)), .val (.int (v_mask p1)), .val (.int (v_c p0 p1)), .unset, .unset, .unset] [(.int (F1 (v_c p0 p1) (v_n p1) (2 : Int32))), (.int ((v_p p1) + (2 : Int32))), (.ref b1)])) _
            refine XS.i2b X32.here hx rfl (hb hby at_235) rfl ?_
            show Steps p.tables e below (T32.setTop (mkF m 236 #[.val (.int p0), .val (.int p1), .val (.long q2), .second, .val (.ref b1), .val (.int (b2i (v_pl p1))), .val (.int (v_n p1)), .val (.int (v_p p1)), .val (.int (v_lim p1)), .val (.int (v_mask p1)), .val (.int (v_c p0 p1)), .unset, .unset, .unset] [(.int ((F1 (v_c p0 p1) (v_n p1) (2 : Int32)).toInt8.toInt32)), (.int ((v_p p1) + (2 : Int32))), (.ref b1)])) _
            refine st33 _ ?_
            exact k
          refine ⟨T33, _, _, X33, e33, N33, ⟨(by rw [(show (v_a2 p0 p1 q2) = (@upA Int32 (v_a1 p0 p1 q2) ((v_p p1) + (2 : Int32)) ((F1 (v_c p0 p1) (v_n p1) (2 : Int32)).toInt8.toInt32)) from ((if_pos hc31).trans rfl))]; exact V33), k29_g_ia, Z33⟩, fun t k => ?_⟩
          exact pre34 t k
        ·
          have pre35 : ∀ t, Steps p.tables e below (T28.setTop (mkF m 237 #[.val (.int p0), .val (.int p1), .val (.long q2), .second, .val (.ref b1), .val (.int (b2i (v_pl p1))), .val (.int (v_n p1)), .val (.int (v_p p1)), .val (.int (v_lim p1)), .val (.int (v_mask p1)), .val (.int (v_c p0 p1)), .unset, .unset, .unset] [])) t → Steps p.tables e below (s₁.setTop (entryFrame m #[(.int p0), (.int p1), (.long q2)] maxLocals)) t := by
            intro t k
            refine pre30 t ?_
            show Steps p.tables e below (T28.setTop (mkF m 218 #[.val (.int p0), .val (.int p1), .val (.long q2), .second, .val (.ref b1), .val (.int (b2i (v_pl p1))), .val (.int (v_n p1)), .val (.int (v_p p1)), .val (.int (v_lim p1)), .val (.int (v_mask p1)), .val (.int (v_c p0 p1)), .unset, .unset, .unset] [(.int (2 : Int32)), (.int (v_n p1))])) _
            refine XS.icmpYes X28.here hx rfl (pc0 := 218) (pc' := 237) rfl (hb hby at_218) rfl (flt hc31).2.2.2 (by decide) (by decide) ?_
            exact k
          refine ⟨T28, _, _, X28, e28, N28, ⟨(by rw [(show (v_a2 p0 p1 q2) = (v_a1 p0 p1 q2) from ((if_neg hc31).trans rfl))]; exact k29_0), k29_g_ia, k29_sz⟩, fun t k => ?_⟩
          exact pre35 t k
      obtain ⟨k37_0, k37_g_ia, k37_sz⟩ := I36
      have pre38 : ∀ t, Steps p.tables e below (T36.setTop (mkF m 240 #[.val (.int p0), .val (.int p1), .val (.long q2), .second, .val (.ref b1), .val (.int (b2i (v_pl p1))), .val (.int (v_n p1)), .val (.int (v_p p1)), .val (.int (v_lim p1)), .val (.int (v_mask p1)), .val (.int (v_c p0 p1)), .unset, .unset, .unset] [(.int (3 : Int32)), (.int (v_n p1))])) t → Steps p.tables e below (s₁.setTop (entryFrame m #[(.int p0), (.int p1), (.long q2)] maxLocals)) t := by
        intro t k
        refine pre36 t ?_
        show Steps p.tables e below (T36.setTop (mkF m 237 #[.val (.int p0), .val (.int p1), .val (.long q2), .second, .val (.ref b1), .val (.int (b2i (v_pl p1))), .val (.int (v_n p1)), .val (.int (v_p p1)), .val (.int (v_lim p1)), .val (.int (v_mask p1)), .val (.int (v_c p0 p1)), .unset, .unset, .unset] [])) _
        refine XS.iload X36.here hx rfl (hb hby at_237) rfl ?_
        show Steps p.tables e below (T36.setTop (mkF m 239 #[.val (.int p0), .val (.int p1), .val (.long q2), .second, .val (.ref b1), .val (.int (b2i (v_pl p1))), .val (.int (v_n p1)), .val (.int (v_p p1)), .val (.int (v_lim p1)), .val (.int (v_mask p1)), .val (.int (v_c p0 p1)), .unset, .unset, .unset] [(.int (v_n p1))])) _
        refine XS.iconst X36.here hx rfl (hb hby at_239) ?_
        exact k
      obtain ⟨T44, hh44, L44, X44, e44, N44, I44, pre44⟩ : ∃ (T : State) (hh44 : Heap) (L : List Loc), Stand p l e room_1 s m #[(.int p0), (.int p1), (.long q2)] below meth c T L 1 8 ∧ T.heap = hh44 ∧ Fr n0 L ∧ (PI Z hh44 n0 b1 (v_a3 p0 p1 q2)) ∧ ∀ t, Steps p.tables e below (T.setTop (mkF m 259 #[.val (.int p0), .val (.int p1), .val (.long q2), .second, .val (.ref b1), .val (.int (b2i (v_pl p1))), .val (.int (v_n p1)), .val (.int (v_p p1)), .val (.int (v_lim p1)), .val (.int (v_mask p1)), .val (.int (v_c p0 p1)), .unset, .unset, .unset] [])) t → Steps p.tables e below (s₁.setTop (entryFrame m #[(.int p0), (.int p1), (.long q2)] maxLocals)) t := by
        by_cases hc39 : (3 : Int32) < (v_n p1)
        ·
          obtain ⟨_, _, ⟨T40, L40, k40, n40⟩, -, X40, ⟨Lc40, hQ40, l40, y40, z40⟩, st40⟩ := Jvm.LawKit.callS X36 hx (y := (⟨"com/example/merkki/merkki/Utf8SequencePinLaw", "enc", "(III)I"⟩ : MethodName)) hown (mvT hZ (hw _ (List.mem_of_getElem? (i := 1) rfl))) (mvT hZ (hw _ (List.mem_of_getElem? (i := 2) rfl))) (mvT hZ (hw _ (List.mem_of_getElem? (i := 3) rfl))) (mvT hZ (hw _ (List.mem_of_getElem? (i := 4) rfl))) (by decide) (backOf (W := 2) (rm1 l Z a0 hw [] (v_c p0 p1) (v_n p1) (3 : Int32) hh36 n0 k37_sz) hZ (hw _ (List.mem_of_getElem? (i := 4) rfl)) (hw _ (List.mem_of_getElem? (i := 3) rfl)) (by decide) (by decide)) (g := (mkF m 254 #[.val (.int p0), .val (.int p1), .val (.long q2), .second, .val (.ref b1), .val (.int (b2i (v_pl p1))), .val (.int (v_n p1)), .val (.int (v_p p1)), .val (.int (v_lim p1)), .val (.int (v_mask p1)), .val (.int (v_c p0 p1)), .unset, .unset, .unset] [(.int (3 : Int32)), (.int (v_n p1)), (.int (v_c p0 p1)), (.int ((v_p p1) + (3 : Int32))), (.ref b1)])) rfl (by rw [hml]; rfl) (argsL := [(.int (v_c p0 p1)), (.int (v_n p1)), (.int (3 : Int32))]) (rest := [(.int ((v_p p1) + (3 : Int32))), (.ref b1)]) (lenOf pd_0 rfl) rfl (by show 2 * 0 + _ ≤ _; exact Nat.le_of_eq rfl) (hb hby at_254) (fun _ _ => ⟨rfl, e36, (by decide : 1 + 0 ≤ _), (by decide : 8 + 0 ≤ _)⟩)
          dsimp only [Pt.U, Pt.locs, Pt.cells, Pt.slots] at X40 l40 y40 z40 st40 hQ40
          subst y40 z40
          obtain ⟨rfl, N40q, e40⟩ := hQ40
          have N40 : Fr n0 L40 := by rw [l40]; exact Fr.app N36 N40q
          obtain ⟨T41, h41, X41, e41, W41, V41, st41⟩ := wrB X40 hx hZ e40 k37_0 (j := ((v_p p1) + (3 : Int32))) (own_ix3 (own_p p1).1 (own_p p1).2) (nar_byte _) (g := (mkF m 258 #[.val (.int p0), .val (.int p1), .val (.long q2), .second, .val (.ref b1), .val (.int (b2i (v_pl p1))), .val (.int (v_n p1)), .val (.int (v_p p1)), .val (.int (v_lim p1)), .val (.int (v_mask p1)), .val (.int (v_c p0 p1)), .unset, .unset, .unset] [(.int ((F1 (v_c p0 p1) (v_n p1) (3 : Int32)).toInt8.toInt32)), (.int ((v_p p1) + (3 : Int32))), (.ref b1)])) rfl rfl (hb hby at_258)
          have Z41 : n0 ≤ h41.size := Nat.le_trans k37_sz (Keep.of_wr W41).1
          have N41 := Fr.snoc X41 N40 k37_g_ia
          have pre42 : ∀ t, Steps p.tables e below (T41.setTop (mkF m 259 #[.val (.int p0), .val (.int p1), .val (.long q2), .second, .val (.ref b1), .val (.int (b2i (v_pl p1))), .val (.int (v_n p1)), .val (.int (v_p p1)), .val (.int (v_lim p1)), .val (.int (v_mask p1)), .val (.int (v_c p0 p1)), .unset, .unset, .unset] [])) t → Steps p.tables e below (s₁.setTop (entryFrame m #[(.int p0), (.int p1), (.long q2)] maxLocals)) t := by
            intro t k
            refine pre38 t ?_
            show Steps p.tables e below (T36.setTop (mkF m 240 #[.val (.int p0), .val (.int p1), .val (.long q2), .second, .val (.ref b1), .val (.int (b2i (v_pl p1))), .val (.int (v_n p1)), .val (.int (v_p p1)), .val (.int (v_lim p1)), .val (.int (v_mask p1)), .val (.int (v_c p0 p1)), .unset, .unset, .unset] [(.int (3 : Int32)), (.int (v_n p1))])) _
            refine XS.icmpNo X36.here hx rfl (hb hby at_240) rfl (tlt hc39).2.2.2 ?_
            show Steps p.tables e below (T36.setTop (mkF m 243 #[.val (.int p0), .val (.int p1), .val (.long q2), .second, .val (.ref b1), .val (.int (b2i (v_pl p1))), .val (.int (v_n p1)), .val (.int (v_p p1)), .val (.int (v_lim p1)), .val (.int (v_mask p1)), .val (.int (v_c p0 p1)), .unset, .unset, .unset] [])) _
            refine XS.aload X36.here hx rfl (hb hby at_243) rfl rfl ?_
            show Steps p.tables e below (T36.setTop (mkF m 245 #[.val (.int p0), .val (.int p1), .val (.long q2), .second, .val (.ref b1), .val (.int (b2i (v_pl p1))), .val (.int (v_n p1)), .val (.int (v_p p1)), .val (.int (v_lim p1)), .val (.int (v_mask p1)), .val (.int (v_c p0 p1)), .unset, .unset, .unset] [(.ref b1)])) _
            refine XS.iload X36.here hx rfl (hb hby at_245) rfl ?_
            show Steps p.tables e below (T36.setTop (mkF m 247 #[.val (.int p0), .val (.int p1), .val (.long q2), .second, .val (.ref b1), .val (.int (b2i (v_pl p1))), .val (.int (v_n p1)), .val (.int (v_p p1)), .val (.int (v_lim p1)), .val (.int (v_mask p1)), .val (.int (v_c p0 p1)), .unset, .unset, .unset] [(.int (v_p p1)), (.ref b1)])) _
            refine XS.iconst X36.here hx rfl (hb hby at_247) ?_
            show Steps p.tables e below (T36.setTop (mkF m 248 #[.val (.int p0), .val (.int p1), .val (.long q2), .second, .val (.ref b1), .val (.int (b2i (v_pl p1))), .val (.int (v_n p1)), .val (.int (v_p p1)), .val (.int (v_lim p1)), .val (.int (v_mask p1)), .val (.int (v_c p0 p1)), .unset, .unset, .unset] [(.int (3 : Int32)), (.int (v_p p1)), (.ref b1)])) _
            refine XS.iadd X36.here hx rfl (hb hby at_248) rfl ?_
            show Steps p.tables e below (T36.setTop (mkF m 249 #[.val (.int p0), .val (.int p1), .val (.long q2), .second, .val (.ref b1), .val (.int (b2i (v_pl p1))), .val (.int (v_n p1)), .val (.int (v_p p1)), .val (.int (v_lim p1)), .val (.int (v_mask p1)), .val (.int (v_c p0 p1)), .unset, .unset, .unset] [(.int ((v_p p1) + (3 : Int32))), (.ref b1)])) _
            refine XS.iload X36.here hx rfl (hb hby at_249) rfl ?_
            show Steps p.tables e below (T36.setTop (mkF m 251 #[.val (.int p0), .val (.int p1), .val (.long q2), .second, .val (.ref b1), .val (.int (b2i (v_pl p1))), .val (.int (v_n p1)), .val (.int (v_p p1)), .val (.int (v_lim p1)), .val (.int (v_mask p1)), .val (.int (v_c p0 p1)), .unset, .unset, .unset] [(.int (v_c p0 p1)), (.int ((v_p p1) + (3 : Int32))), (.ref b1)])) _
            refine XS.iload X36.here hx rfl (hb hby at_251) rfl ?_
            show Steps p.tables e below (T36.setTop (mkF m 253 #[.val (.int p0), .val (.int p1), .val (.long q2), .second, .val (.ref b1), .val (.int (b2i (v_pl p1))), .val (.int (v_n p1)), .val (.int (v_p p1)), .val (.int (v_lim p1)), .val (.int (v_mask p1)), .val (.int (v_c p0 p1)), .unset, .unset, .unset] [(.int (v_n p1)), (.int (v_c p0 p1)), (.int ((v_p p1) + (3 : Int32))), (.ref b1)])) _
            refine XS.iconst X36.here hx rfl (hb hby at_253) ?_
            show Steps p.tables e below (T36.setTop (mkF m 254 #[.val (.int p0), .val (.int p1), .val (.long q2), .second, .val (.ref b1), .val (.int (b2i (v_pl p1))), .val (.int (v_n p1)), .val (.int (v_p p1)), .val (.int (v_lim p1)), .val (.int (v_mask p1)), .val (.int (v_c p0 p1)), .unset, .unset, .unset] [(.int (3 : Int32)), (.int (v_n p1)), (.int (v_c p0 p1)), (.int ((v_p p1) + (3 : Int32))), (.ref b1)])) _
            refine st40 _ ?_
            show Steps p.tables e below (T40.setTop (mkF m 257 #[.val (.int p0), .val (.int p1), .val (.long q2), .second, .val (.ref b1), .val (.int (b2i (v_pl p1))), .val (.int (v_n p1)), .val (.int (v_p p1)), .val (.int (v_lim p1)), .val (.int (v_mask p1)), .val (.int (v_c p0 p1)), .unset, .unset, .unset] [(.int (F1 (v_c p0 p1) (v_n p1) (3 : Int32))), (.int ((v_p p1) + (3 : Int32))), (.ref b1)])) _
            refine XS.i2b X40.here hx rfl (hb hby at_257) rfl ?_
            show Steps p.tables e below (T40.setTop (mkF m 258 #[.val (.int p0), .val (.int p1), .val (.long q2), .second, .val (.ref b1), .val (.int (b2i (v_pl p1))), .val (.int (v_n p1)), .val (.int (v_p p1)), .val (.int (v_lim p1)), .val (.int (v_mask p1)), .val (.int (v_c p0 p1)), .unset, .unset, .unset] [(.int ((F1 (v_c p0 p1) (v_n p1) (3 : Int32)).toInt8.toInt32)), (.int ((v_p p1) + (3 : Int32))), (.ref b1)])) _
            refine st41 _ ?_
            exact k
          refine ⟨T41, _, _, X41, e41, N41, ⟨(by rw [(show (v_a3 p0 p1 q2) = (@upA Int32 (v_a2 p0 p1 q2) ((v_p p1) + (3 : Int32)) ((F1 (v_c p0 p1) (v_n p1) (3 : Int32)).toInt8.toInt32)) from ((if_pos hc39).trans rfl))]; exact V41), k37_g_ia, Z41⟩, fun t k => ?_⟩
          exact pre42 t k
        ·
          have pre43 : ∀ t, Steps p.tables e below (T36.setTop (mkF m 259 #[.val (.int p0), .val (.int p1), .val (.long q2), .second, .val (.ref b1), .val (.int (b2i (v_pl p1))), .val (.int (v_n p1)), .val (.int (v_p p1)), .val (.int (v_lim p1)), .val (.int (v_mask p1)), .val (.int (v_c p0 p1)), .unset, .unset, .unset] [])) t → Steps p.tables e below (s₁.setTop (entryFrame m #[(.int p0), (.int p1), (.long q2)] maxLocals)) t := by
            intro t k
            refine pre38 t ?_
            show Steps p.tables e below (T36.setTop (mkF m 240 #[.val (.int p0), .val (.int p1), .val (.long q2), .second, .val (.ref b1), .val (.int (b2i (v_pl p1))), .val (.int (v_n p1)), .val (.int (v_p p1)), .val (.int (v_lim p1)), .val (.int (v_mask p1)), .val (.int (v_c p0 p1)), .unset, .unset, .unset] [(.int (3 : Int32)), (.int (v_n p1))])) _
            refine XS.icmpYes X36.here hx rfl (pc0 := 240) (pc' := 259) rfl (hb hby at_240) rfl (flt hc39).2.2.2 (by decide) (by decide) ?_
            exact k
          refine ⟨T36, _, _, X36, e36, N36, ⟨(by rw [(show (v_a3 p0 p1 q2) = (v_a2 p0 p1 q2) from ((if_neg hc39).trans rfl))]; exact k37_0), k37_g_ia, k37_sz⟩, fun t k => ?_⟩
          exact pre43 t k
      obtain ⟨k45_0, k45_g_ia, k45_sz⟩ := I44
      refine ⟨T44, _, _, X44, e44, N44, ⟨(by rw [(show (v_fb p0 p1 q2) = (v_a3 p0 p1 q2) from ((if_pos hc19).trans rfl))]; exact k45_0), k45_g_ia, k45_sz⟩, fun t k => ?_⟩
      exact pre44 t k
    ·
      have pre46 : ∀ t, Steps p.tables e below (T9.setTop (mkF m 259 #[.val (.int p0), .val (.int p1), .val (.long q2), .second, .val (.ref b1), .val (.int (b2i (v_pl p1))), .val (.int (v_n p1)), .val (.int (v_p p1)), .val (.int (v_lim p1)), .val (.int (v_mask p1)), .val (.int (v_c p0 p1)), .unset, .unset, .unset] [])) t → Steps p.tables e below (s₁.setTop (entryFrame m #[(.int p0), (.int p1), (.long q2)] maxLocals)) t := by
        intro t k
        refine pre18 t ?_
        show Steps p.tables e below (T9.setTop (mkF m 176 #[.val (.int p0), .val (.int p1), .val (.long q2), .second, .val (.ref b1), .val (.int (b2i (v_pl p1))), .val (.int (v_n p1)), .val (.int (v_p p1)), .val (.int (v_lim p1)), .val (.int (v_mask p1)), .val (.int (v_c p0 p1)), .unset, .unset, .unset] [(.int (b2i (v_pl p1)))])) _
        refine XS.ifYes X9.here hx rfl (pc0 := 176) (pc' := 259) rfl (hb hby at_176) rfl ((if0 _ _).trans (teq (b2i_eq hc19)).1) (by decide) (by decide) ?_
        exact k
      refine ⟨T9, _, _, X9, e9, N9, ⟨(by rw [(show (v_fb p0 p1 q2) = (v_in q2) from ((if_neg hc19).trans rfl))]; exact V9n), ge_b1, Z9⟩, fun t k => ?_⟩
      exact pre46 t k
  obtain ⟨k48_0, k48_g_ia, k48_sz⟩ := I47
  obtain ⟨_, _, ⟨T49, L49, k49, n49⟩, -, X49, ⟨Lc49, hQ49, l49, y49, z49⟩, st49⟩ := Jvm.LawKit.callS X47 hx (y := (⟨"com/example/merkki/merkki/Utf8", "sequence", "([BII)I"⟩ : MethodName)) hown (mvT hZ (hw _ (List.mem_of_getElem? (i := 5) rfl))) (mvT hZ (hw _ (List.mem_of_getElem? (i := 6) rfl))) (mvT hZ (hw _ (List.mem_of_getElem? (i := 7) rfl))) (mvT hZ (hw _ (List.mem_of_getElem? (i := 8) rfl))) (by decide) (backOf (W := 0) (rm2 l Z a0 hw [] b1 (v_p p1) (v_lim p1) (v_fb p0 p1 q2) hh47 n0 k48_sz ⟨k48_0, k48_g_ia, k48_sz⟩ (own_p p1).1 (own_p p1).2) hZ (hw _ (List.mem_of_getElem? (i := 8) rfl)) (hw _ (List.mem_of_getElem? (i := 7) rfl)) (by decide) (by decide)) (g := (mkF m 265 #[.val (.int p0), .val (.int p1), .val (.long q2), .second, .val (.ref b1), .val (.int (b2i (v_pl p1))), .val (.int (v_n p1)), .val (.int (v_p p1)), .val (.int (v_lim p1)), .val (.int (v_mask p1)), .val (.int (v_c p0 p1)), .unset, .unset, .unset] [(.int (v_lim p1)), (.int (v_p p1)), (.ref b1)])) rfl (by rw [hml]; rfl) (argsL := [(.ref b1), (.int (v_p p1)), (.int (v_lim p1))]) (rest := []) (lenOf pd_1 rfl) rfl (by show 2 * 0 + _ ≤ _; exact Nat.le_of_eq rfl) (hb hby at_265) (fun _ _ => ⟨rfl, e47, (by decide : 1 + 0 ≤ _), (by decide : 8 + 0 ≤ _)⟩)
  dsimp only [Pt.U, Pt.locs, Pt.cells, Pt.slots] at X49 l49 y49 z49 st49 hQ49
  subst y49 z49
  obtain ⟨rfl, N49q, e49⟩ := hQ49
  have N49 : Fr n0 L49 := by rw [l49]; exact Fr.app N47 N49q
  have pre50 : ∀ t, Steps p.tables e below (T49.setTop (mkF m 273 #[.val (.int p0), .val (.int p1), .val (.long q2), .second, .val (.ref b1), .val (.int (b2i (v_pl p1))), .val (.int (v_n p1)), .val (.int (v_p p1)), .val (.int (v_lim p1)), .val (.int (v_mask p1)), .val (.int (v_c p0 p1)), .val (.int (v_r p0 p1 q2)), .unset, .unset] [(.int (-1 : Int32)), (.int (v_r p0 p1 q2))])) t → Steps p.tables e below (s₁.setTop (entryFrame m #[(.int p0), (.int p1), (.long q2)] maxLocals)) t := by
    intro t k
    refine pre47 t ?_
    show Steps p.tables e below (T47.setTop (mkF m 259 #[.val (.int p0), .val (.int p1), .val (.long q2), .second, .val (.ref b1), .val (.int (b2i (v_pl p1))), .val (.int (v_n p1)), .val (.int (v_p p1)), .val (.int (v_lim p1)), .val (.int (v_mask p1)), .val (.int (v_c p0 p1)), .unset, .unset, .unset] [])) _
    refine XS.aload X47.here hx rfl (hb hby at_259) rfl rfl ?_
    show Steps p.tables e below (T47.setTop (mkF m 261 #[.val (.int p0), .val (.int p1), .val (.long q2), .second, .val (.ref b1), .val (.int (b2i (v_pl p1))), .val (.int (v_n p1)), .val (.int (v_p p1)), .val (.int (v_lim p1)), .val (.int (v_mask p1)), .val (.int (v_c p0 p1)), .unset, .unset, .unset] [(.ref b1)])) _
    refine XS.iload X47.here hx rfl (hb hby at_261) rfl ?_
    show Steps p.tables e below (T47.setTop (mkF m 263 #[.val (.int p0), .val (.int p1), .val (.long q2), .second, .val (.ref b1), .val (.int (b2i (v_pl p1))), .val (.int (v_n p1)), .val (.int (v_p p1)), .val (.int (v_lim p1)), .val (.int (v_mask p1)), .val (.int (v_c p0 p1)), .unset, .unset, .unset] [(.int (v_p p1)), (.ref b1)])) _
    refine XS.iload X47.here hx rfl (hb hby at_263) rfl ?_
    show Steps p.tables e below (T47.setTop (mkF m 265 #[.val (.int p0), .val (.int p1), .val (.long q2), .second, .val (.ref b1), .val (.int (b2i (v_pl p1))), .val (.int (v_n p1)), .val (.int (v_p p1)), .val (.int (v_lim p1)), .val (.int (v_mask p1)), .val (.int (v_c p0 p1)), .unset, .unset, .unset] [(.int (v_lim p1)), (.int (v_p p1)), (.ref b1)])) _
    refine st49 _ ?_
    show Steps p.tables e below (T49.setTop (mkF m 268 #[.val (.int p0), .val (.int p1), .val (.long q2), .second, .val (.ref b1), .val (.int (b2i (v_pl p1))), .val (.int (v_n p1)), .val (.int (v_p p1)), .val (.int (v_lim p1)), .val (.int (v_mask p1)), .val (.int (v_c p0 p1)), .unset, .unset, .unset] [(.int (F2 (v_p p1) (v_lim p1) (v_fb p0 p1 q2)))])) _
    refine XS.istore X49.here hx rfl (hb hby at_268) rfl (l' := #[.val (.int p0), .val (.int p1), .val (.long q2), .second, .val (.ref b1), .val (.int (b2i (v_pl p1))), .val (.int (v_n p1)), .val (.int (v_p p1)), .val (.int (v_lim p1)), .val (.int (v_mask p1)), .val (.int (v_c p0 p1)), .val (.int (v_r p0 p1 q2)), .unset, .unset]) rfl ?_
    show Steps p.tables e below (T49.setTop (mkF m 270 #[.val (.int p0), .val (.int p1), .val (.long q2), .second, .val (.ref b1), .val (.int (b2i (v_pl p1))), .val (.int (v_n p1)), .val (.int (v_p p1)), .val (.int (v_lim p1)), .val (.int (v_mask p1)), .val (.int (v_c p0 p1)), .val (.int (v_r p0 p1 q2)), .unset, .unset] [])) _
    refine XS.iload X49.here hx rfl (hb hby at_270) rfl ?_
    show Steps p.tables e below (T49.setTop (mkF m 272 #[.val (.int p0), .val (.int p1), .val (.long q2), .second, .val (.ref b1), .val (.int (b2i (v_pl p1))), .val (.int (v_n p1)), .val (.int (v_p p1)), .val (.int (v_lim p1)), .val (.int (v_mask p1)), .val (.int (v_c p0 p1)), .val (.int (v_r p0 p1 q2)), .unset, .unset] [(.int (v_r p0 p1 q2))])) _
    refine XS.iconst X49.here hx rfl (hb hby at_272) ?_
    exact k
  obtain ⟨T65, L65, X65, e65, N65, pre65⟩ : ∃ (T : State) (L : List Loc), Stand p l e room_1 s m #[(.int p0), (.int p1), (.long q2)] below meth c T L 1 8 ∧ T.heap = hh47 ∧ Fr n0 L ∧ ∀ t, Steps p.tables e below (T.setTop (mkF m 314 #[.val (.int p0), .val (.int p1), .val (.long q2), .second, .val (.ref b1), .val (.int (b2i (v_pl p1))), .val (.int (v_n p1)), .val (.int (v_p p1)), .val (.int (v_lim p1)), .val (.int (v_mask p1)), .val (.int (v_c p0 p1)), .val (.int (v_r p0 p1 q2)), .unset, .unset] [(.int (b2i (v_sd p0 p1 q2)))])) t → Steps p.tables e below (s₁.setTop (entryFrame m #[(.int p0), (.int p1), (.long q2)] maxLocals)) t := by
    by_cases hc51 : (v_r p0 p1 q2) = (-1 : Int32)
    ·
      have pre52 : ∀ t, Steps p.tables e below (T49.setTop (mkF m 314 #[.val (.int p0), .val (.int p1), .val (.long q2), .second, .val (.ref b1), .val (.int (b2i (v_pl p1))), .val (.int (v_n p1)), .val (.int (v_p p1)), .val (.int (v_lim p1)), .val (.int (v_mask p1)), .val (.int (v_c p0 p1)), .val (.int (v_r p0 p1 q2)), .unset, .unset] [(.int (1 : Int32))])) t → Steps p.tables e below (s₁.setTop (entryFrame m #[(.int p0), (.int p1), (.long q2)] maxLocals)) t := by
        intro t k
        refine pre50 t ?_
        show Steps p.tables e below (T49.setTop (mkF m 273 #[.val (.int p0), .val (.int p1), .val (.long q2), .second, .val (.ref b1), .val (.int (b2i (v_pl p1))), .val (.int (v_n p1)), .val (.int (v_p p1)), .val (.int (v_lim p1)), .val (.int (v_mask p1)), .val (.int (v_c p0 p1)), .val (.int (v_r p0 p1 q2)), .unset, .unset] [(.int (-1 : Int32)), (.int (v_r p0 p1 q2))])) _
        refine XS.icmpYes X49.here hx rfl (pc0 := 273) (pc' := 309) rfl (hb hby at_273) rfl (teq hc51).1 (by decide) (by decide) ?_
        show Steps p.tables e below (T49.setTop (mkF m 309 #[.val (.int p0), .val (.int p1), .val (.long q2), .second, .val (.ref b1), .val (.int (b2i (v_pl p1))), .val (.int (v_n p1)), .val (.int (v_p p1)), .val (.int (v_lim p1)), .val (.int (v_mask p1)), .val (.int (v_c p0 p1)), .val (.int (v_r p0 p1 q2)), .unset, .unset] [])) _
        refine XS.iconst X49.here hx rfl (hb hby at_309) ?_
        show Steps p.tables e below (T49.setTop (mkF m 310 #[.val (.int p0), .val (.int p1), .val (.long q2), .second, .val (.ref b1), .val (.int (b2i (v_pl p1))), .val (.int (v_n p1)), .val (.int (v_p p1)), .val (.int (v_lim p1)), .val (.int (v_mask p1)), .val (.int (v_c p0 p1)), .val (.int (v_r p0 p1 q2)), .unset, .unset] [(.int (1 : Int32))])) _
        refine XS.goto X49.here hx rfl (pc0 := 310) (pc' := 314) rfl (hb hby at_310) (by decide) (by decide) ?_
        exact k
      refine ⟨T49, _, X49, e49, N49, fun t k => ?_⟩
      rw [(show (v_sd p0 p1 q2) = true from ((if_pos hc51).trans rfl))] at k
      exact pre52 t k
    ·
      obtain ⟨_, _, ⟨T53, L53, k53, n53⟩, -, X53, ⟨Lc53, hQ53, l53, y53, z53⟩, st53⟩ := Jvm.LawKit.callS X49 hx (y := (⟨"com/example/merkki/merkki/Utf8SequencePinLaw", "allowed", "(I)Z"⟩ : MethodName)) hown (mvT hZ (hw _ (List.mem_of_getElem? (i := 9) rfl))) (mvT hZ (hw _ (List.mem_of_getElem? (i := 10) rfl))) (mvT hZ (hw _ (List.mem_of_getElem? (i := 3) rfl))) (mvT hZ (hw _ (List.mem_of_getElem? (i := 11) rfl))) (by decide) (backOf (W := 0) (rm3 l Z a0 hw [] (v_r p0 p1 q2) hh47 n0 k48_sz) hZ (hw _ (List.mem_of_getElem? (i := 11) rfl)) (hw _ (List.mem_of_getElem? (i := 3) rfl)) (by decide) (by decide)) (g := (mkF m 278 #[.val (.int p0), .val (.int p1), .val (.long q2), .second, .val (.ref b1), .val (.int (b2i (v_pl p1))), .val (.int (v_n p1)), .val (.int (v_p p1)), .val (.int (v_lim p1)), .val (.int (v_mask p1)), .val (.int (v_c p0 p1)), .val (.int (v_r p0 p1 q2)), .unset, .unset] [(.int (v_r p0 p1 q2))])) rfl (by rw [hml]; rfl) (argsL := [(.int (v_r p0 p1 q2))]) (rest := []) (lenOf pd_2 rfl) rfl (by show 2 * 0 + _ ≤ _; exact Nat.le_of_eq rfl) (hb hby at_278) (fun _ _ => ⟨rfl, e49, (by decide : 1 + 0 ≤ _), (by decide : 8 + 0 ≤ _)⟩)
      dsimp only [Pt.U, Pt.locs, Pt.cells, Pt.slots] at X53 l53 y53 z53 st53 hQ53
      subst y53 z53
      obtain ⟨rfl, N53q, e53⟩ := hQ53
      have N53 : Fr n0 L53 := by rw [l53]; exact Fr.app N49 N53q
      have pre54 : ∀ t, Steps p.tables e below (T53.setTop (mkF m 281 #[.val (.int p0), .val (.int p1), .val (.long q2), .second, .val (.ref b1), .val (.int (b2i (v_pl p1))), .val (.int (v_n p1)), .val (.int (v_p p1)), .val (.int (v_lim p1)), .val (.int (v_mask p1)), .val (.int (v_c p0 p1)), .val (.int (v_r p0 p1 q2)), .unset, .unset] [(.int (b2i (F3 (v_r p0 p1 q2))))])) t → Steps p.tables e below (s₁.setTop (entryFrame m #[(.int p0), (.int p1), (.long q2)] maxLocals)) t := by
        intro t k
        refine pre50 t ?_
        show Steps p.tables e below (T49.setTop (mkF m 273 #[.val (.int p0), .val (.int p1), .val (.long q2), .second, .val (.ref b1), .val (.int (b2i (v_pl p1))), .val (.int (v_n p1)), .val (.int (v_p p1)), .val (.int (v_lim p1)), .val (.int (v_mask p1)), .val (.int (v_c p0 p1)), .val (.int (v_r p0 p1 q2)), .unset, .unset] [(.int (-1 : Int32)), (.int (v_r p0 p1 q2))])) _
        refine XS.icmpNo X49.here hx rfl (hb hby at_273) rfl (feq hc51).1 ?_
        show Steps p.tables e below (T49.setTop (mkF m 276 #[.val (.int p0), .val (.int p1), .val (.long q2), .second, .val (.ref b1), .val (.int (b2i (v_pl p1))), .val (.int (v_n p1)), .val (.int (v_p p1)), .val (.int (v_lim p1)), .val (.int (v_mask p1)), .val (.int (v_c p0 p1)), .val (.int (v_r p0 p1 q2)), .unset, .unset] [])) _
        refine XS.iload X49.here hx rfl (hb hby at_276) rfl ?_
        show Steps p.tables e below (T49.setTop (mkF m 278 #[.val (.int p0), .val (.int p1), .val (.long q2), .second, .val (.ref b1), .val (.int (b2i (v_pl p1))), .val (.int (v_n p1)), .val (.int (v_p p1)), .val (.int (v_lim p1)), .val (.int (v_mask p1)), .val (.int (v_c p0 p1)), .val (.int (v_r p0 p1 q2)), .unset, .unset] [(.int (v_r p0 p1 q2))])) _
        refine st53 _ ?_
        exact k
      by_cases hc55 : (F3 (v_r p0 p1 q2)) = true
      ·
        obtain ⟨_, _, ⟨T56, L56, k56, n56⟩, -, X56, ⟨Lc56, hQ56, l56, y56, z56⟩, st56⟩ := Jvm.LawKit.callS X53 hx (y := (⟨"com/example/merkki/merkki/Utf8SequencePinLaw", "len", "(I)I"⟩ : MethodName)) hown (mvT hZ (hw _ (List.mem_of_getElem? (i := 18) rfl))) (mvT hZ (hw _ (List.mem_of_getElem? (i := 19) rfl))) (mvT hZ (hw _ (List.mem_of_getElem? (i := 3) rfl))) (mvT hZ (hw _ (List.mem_of_getElem? (i := 20) rfl))) (by decide) (backOf (W := 1) (rm4 l Z a0 hw [] (v_r p0 p1 q2) hh47 n0 k48_sz) hZ (hw _ (List.mem_of_getElem? (i := 20) rfl)) (hw _ (List.mem_of_getElem? (i := 3) rfl)) (by decide) (by decide)) (g := (mkF m 288 #[.val (.int p0), .val (.int p1), .val (.long q2), .second, .val (.ref b1), .val (.int (b2i (v_pl p1))), .val (.int (v_n p1)), .val (.int (v_p p1)), .val (.int (v_lim p1)), .val (.int (v_mask p1)), .val (.int (v_c p0 p1)), .val (.int (v_r p0 p1 q2)), .unset, .unset] [(.int (v_r p0 p1 q2)), (.int (v_p p1))])) rfl (by rw [hml]; rfl) (argsL := [(.int (v_r p0 p1 q2))]) (rest := [(.int (v_p p1))]) (lenOf pd_3 rfl) rfl (by show 2 * 0 + _ ≤ _; exact Nat.le_of_eq rfl) (hb hby at_288) (fun _ _ => ⟨rfl, e53, (by decide : 1 + 0 ≤ _), (by decide : 8 + 0 ≤ _)⟩)
        dsimp only [Pt.U, Pt.locs, Pt.cells, Pt.slots] at X56 l56 y56 z56 st56 hQ56
        subst y56 z56
        obtain ⟨rfl, N56q, e56⟩ := hQ56
        have N56 : Fr n0 L56 := by rw [l56]; exact Fr.app N53 N56q
        have pre57 : ∀ t, Steps p.tables e below (T56.setTop (mkF m 294 #[.val (.int p0), .val (.int p1), .val (.long q2), .second, .val (.ref b1), .val (.int (b2i (v_pl p1))), .val (.int (v_n p1)), .val (.int (v_p p1)), .val (.int (v_lim p1)), .val (.int (v_mask p1)), .val (.int (v_c p0 p1)), .val (.int (v_r p0 p1 q2)), .unset, .unset] [(.int (v_lim p1)), (.int ((v_p p1) + (F4 (v_r p0 p1 q2))))])) t → Steps p.tables e below (s₁.setTop (entryFrame m #[(.int p0), (.int p1), (.long q2)] maxLocals)) t := by
          intro t k
          refine pre54 t ?_
          show Steps p.tables e below (T53.setTop (mkF m 281 #[.val (.int p0), .val (.int p1), .val (.long q2), .second, .val (.ref b1), .val (.int (b2i (v_pl p1))), .val (.int (v_n p1)), .val (.int (v_p p1)), .val (.int (v_lim p1)), .val (.int (v_mask p1)), .val (.int (v_c p0 p1)), .val (.int (v_r p0 p1 q2)), .unset, .unset] [(.int (b2i (F3 (v_r p0 p1 q2))))])) _
          refine XS.ifNo X53.here hx rfl (hb hby at_281) rfl ((if0 _ _).trans (feq (b2i_ne hc55)).1) ?_
          show Steps p.tables e below (T53.setTop (mkF m 284 #[.val (.int p0), .val (.int p1), .val (.long q2), .second, .val (.ref b1), .val (.int (b2i (v_pl p1))), .val (.int (v_n p1)), .val (.int (v_p p1)), .val (.int (v_lim p1)), .val (.int (v_mask p1)), .val (.int (v_c p0 p1)), .val (.int (v_r p0 p1 q2)), .unset, .unset] [])) _
          refine XS.iload X53.here hx rfl (hb hby at_284) rfl ?_
          show Steps p.tables e below (T53.setTop (mkF m 286 #[.val (.int p0), .val (.int p1), .val (.long q2), .second, .val (.ref b1), .val (.int (b2i (v_pl p1))), .val (.int (v_n p1)), .val (.int (v_p p1)), .val (.int (v_lim p1)), .val (.int (v_mask p1)), .val (.int (v_c p0 p1)), .val (.int (v_r p0 p1 q2)), .unset, .unset] [(.int (v_p p1))])) _
          refine XS.iload X53.here hx rfl (hb hby at_286) rfl ?_
          show Steps p.tables e below (T53.setTop (mkF m 288 #[.val (.int p0), .val (.int p1), .val (.long q2), .second, .val (.ref b1), .val (.int (b2i (v_pl p1))), .val (.int (v_n p1)), .val (.int (v_p p1)), .val (.int (v_lim p1)), .val (.int (v_mask p1)), .val (.int (v_c p0 p1)), .val (.int (v_r p0 p1 q2)), .unset, .unset] [(.int (v_r p0 p1 q2)), (.int (v_p p1))])) _
          refine st56 _ ?_
          show Steps p.tables e below (T56.setTop (mkF m 291 #[.val (.int p0), .val (.int p1), .val (.long q2), .second, .val (.ref b1), .val (.int (b2i (v_pl p1))), .val (.int (v_n p1)), .val (.int (v_p p1)), .val (.int (v_lim p1)), .val (.int (v_mask p1)), .val (.int (v_c p0 p1)), .val (.int (v_r p0 p1 q2)), .unset, .unset] [(.int (F4 (v_r p0 p1 q2))), (.int (v_p p1))])) _
          refine XS.iadd X56.here hx rfl (hb hby at_291) rfl ?_
          show Steps p.tables e below (T56.setTop (mkF m 292 #[.val (.int p0), .val (.int p1), .val (.long q2), .second, .val (.ref b1), .val (.int (b2i (v_pl p1))), .val (.int (v_n p1)), .val (.int (v_p p1)), .val (.int (v_lim p1)), .val (.int (v_mask p1)), .val (.int (v_c p0 p1)), .val (.int (v_r p0 p1 q2)), .unset, .unset] [(.int ((v_p p1) + (F4 (v_r p0 p1 q2))))])) _
          refine XS.iload X56.here hx rfl (hb hby at_292) rfl ?_
          exact k
        by_cases hc58 : (v_lim p1) < ((v_p p1) + (F4 (v_r p0 p1 q2)))
        ·
          have pre59 : ∀ t, Steps p.tables e below (T56.setTop (mkF m 314 #[.val (.int p0), .val (.int p1), .val (.long q2), .second, .val (.ref b1), .val (.int (b2i (v_pl p1))), .val (.int (v_n p1)), .val (.int (v_p p1)), .val (.int (v_lim p1)), .val (.int (v_mask p1)), .val (.int (v_c p0 p1)), .val (.int (v_r p0 p1 q2)), .unset, .unset] [(.int (0 : Int32))])) t → Steps p.tables e below (s₁.setTop (entryFrame m #[(.int p0), (.int p1), (.long q2)] maxLocals)) t := by
            intro t k
            refine pre57 t ?_
            show Steps p.tables e below (T56.setTop (mkF m 294 #[.val (.int p0), .val (.int p1), .val (.long q2), .second, .val (.ref b1), .val (.int (b2i (v_pl p1))), .val (.int (v_n p1)), .val (.int (v_p p1)), .val (.int (v_lim p1)), .val (.int (v_mask p1)), .val (.int (v_c p0 p1)), .val (.int (v_r p0 p1 q2)), .unset, .unset] [(.int (v_lim p1)), (.int ((v_p p1) + (F4 (v_r p0 p1 q2))))])) _
            refine XS.icmpYes X56.here hx rfl (pc0 := 294) (pc' := 313) rfl (hb hby at_294) rfl (tlt hc58).2.2.1 (by decide) (by decide) ?_
            show Steps p.tables e below (T56.setTop (mkF m 313 #[.val (.int p0), .val (.int p1), .val (.long q2), .second, .val (.ref b1), .val (.int (b2i (v_pl p1))), .val (.int (v_n p1)), .val (.int (v_p p1)), .val (.int (v_lim p1)), .val (.int (v_mask p1)), .val (.int (v_c p0 p1)), .val (.int (v_r p0 p1 q2)), .unset, .unset] [])) _
            refine XS.iconst X56.here hx rfl (hb hby at_313) ?_
            exact k
          refine ⟨T56, _, X56, e56, N56, fun t k => ?_⟩
          rw [(show (v_sd p0 p1 q2) = false from ((if_neg hc51).trans ((if_pos hc55).trans ((if_pos hc58).trans rfl))))] at k
          exact pre59 t k
        ·
          obtain ⟨_, _, ⟨T60, L60, k60, n60⟩, -, X60, ⟨Lc60, hQ60, l60, y60, z60⟩, st60⟩ := Jvm.LawKit.callS X56 hx (y := (⟨"com/example/merkki/merkki/Utf8SequencePinLaw", "matches", "([BII)Z"⟩ : MethodName)) hown (mvT hZ (hw _ (List.mem_of_getElem? (i := 24) rfl))) (mvT hZ (hw _ (List.mem_of_getElem? (i := 25) rfl))) (mvT hZ (hw _ (List.mem_of_getElem? (i := 3) rfl))) (mvT hZ (hw _ (List.mem_of_getElem? (i := 26) rfl))) (by decide) (backOf (W := 0) (rm5 l Z a0 hw [] b1 (v_p p1) (v_r p0 p1 q2) (v_fb p0 p1 q2) hh47 n0 k48_sz ⟨k48_0, k48_g_ia, k48_sz⟩ (own_p p1).1 (own_p p1).2) hZ (hw _ (List.mem_of_getElem? (i := 26) rfl)) (hw _ (List.mem_of_getElem? (i := 3) rfl)) (by decide) (by decide)) (g := (mkF m 303 #[.val (.int p0), .val (.int p1), .val (.long q2), .second, .val (.ref b1), .val (.int (b2i (v_pl p1))), .val (.int (v_n p1)), .val (.int (v_p p1)), .val (.int (v_lim p1)), .val (.int (v_mask p1)), .val (.int (v_c p0 p1)), .val (.int (v_r p0 p1 q2)), .unset, .unset] [(.int (v_r p0 p1 q2)), (.int (v_p p1)), (.ref b1)])) rfl (by rw [hml]; rfl) (argsL := [(.ref b1), (.int (v_p p1)), (.int (v_r p0 p1 q2))]) (rest := []) (lenOf pd_4 rfl) rfl (by show 2 * 0 + _ ≤ _; exact Nat.le_of_eq rfl) (hb hby at_303) (fun _ _ => ⟨rfl, e56, (by decide : 1 + 0 ≤ _), (by decide : 8 + 0 ≤ _)⟩)
          dsimp only [Pt.U, Pt.locs, Pt.cells, Pt.slots] at X60 l60 y60 z60 st60 hQ60
          subst y60 z60
          obtain ⟨rfl, N60q, e60⟩ := hQ60
          have N60 : Fr n0 L60 := by rw [l60]; exact Fr.app N56 N60q
          have pre61 : ∀ t, Steps p.tables e below (T60.setTop (mkF m 306 #[.val (.int p0), .val (.int p1), .val (.long q2), .second, .val (.ref b1), .val (.int (b2i (v_pl p1))), .val (.int (v_n p1)), .val (.int (v_p p1)), .val (.int (v_lim p1)), .val (.int (v_mask p1)), .val (.int (v_c p0 p1)), .val (.int (v_r p0 p1 q2)), .unset, .unset] [(.int (b2i (Fmat (v_p p1) (v_r p0 p1 q2) (v_fb p0 p1 q2))))])) t → Steps p.tables e below (s₁.setTop (entryFrame m #[(.int p0), (.int p1), (.long q2)] maxLocals)) t := by
            intro t k
            refine pre57 t ?_
            show Steps p.tables e below (T56.setTop (mkF m 294 #[.val (.int p0), .val (.int p1), .val (.long q2), .second, .val (.ref b1), .val (.int (b2i (v_pl p1))), .val (.int (v_n p1)), .val (.int (v_p p1)), .val (.int (v_lim p1)), .val (.int (v_mask p1)), .val (.int (v_c p0 p1)), .val (.int (v_r p0 p1 q2)), .unset, .unset] [(.int (v_lim p1)), (.int ((v_p p1) + (F4 (v_r p0 p1 q2))))])) _
            refine XS.icmpNo X56.here hx rfl (hb hby at_294) rfl (flt hc58).2.2.1 ?_
            show Steps p.tables e below (T56.setTop (mkF m 297 #[.val (.int p0), .val (.int p1), .val (.long q2), .second, .val (.ref b1), .val (.int (b2i (v_pl p1))), .val (.int (v_n p1)), .val (.int (v_p p1)), .val (.int (v_lim p1)), .val (.int (v_mask p1)), .val (.int (v_c p0 p1)), .val (.int (v_r p0 p1 q2)), .unset, .unset] [])) _
            refine XS.aload X56.here hx rfl (hb hby at_297) rfl rfl ?_
            show Steps p.tables e below (T56.setTop (mkF m 299 #[.val (.int p0), .val (.int p1), .val (.long q2), .second, .val (.ref b1), .val (.int (b2i (v_pl p1))), .val (.int (v_n p1)), .val (.int (v_p p1)), .val (.int (v_lim p1)), .val (.int (v_mask p1)), .val (.int (v_c p0 p1)), .val (.int (v_r p0 p1 q2)), .unset, .unset] [(.ref b1)])) _
            refine XS.iload X56.here hx rfl (hb hby at_299) rfl ?_
            show Steps p.tables e below (T56.setTop (mkF m 301 #[.val (.int p0), .val (.int p1), .val (.long q2), .second, .val (.ref b1), .val (.int (b2i (v_pl p1))), .val (.int (v_n p1)), .val (.int (v_p p1)), .val (.int (v_lim p1)), .val (.int (v_mask p1)), .val (.int (v_c p0 p1)), .val (.int (v_r p0 p1 q2)), .unset, .unset] [(.int (v_p p1)), (.ref b1)])) _
            refine XS.iload X56.here hx rfl (hb hby at_301) rfl ?_
            show Steps p.tables e below (T56.setTop (mkF m 303 #[.val (.int p0), .val (.int p1), .val (.long q2), .second, .val (.ref b1), .val (.int (b2i (v_pl p1))), .val (.int (v_n p1)), .val (.int (v_p p1)), .val (.int (v_lim p1)), .val (.int (v_mask p1)), .val (.int (v_c p0 p1)), .val (.int (v_r p0 p1 q2)), .unset, .unset] [(.int (v_r p0 p1 q2)), (.int (v_p p1)), (.ref b1)])) _
            refine st60 _ ?_
            exact k
          have pre62 : ∀ t, Steps p.tables e below (T60.setTop (mkF m 314 #[.val (.int p0), .val (.int p1), .val (.long q2), .second, .val (.ref b1), .val (.int (b2i (v_pl p1))), .val (.int (v_n p1)), .val (.int (v_p p1)), .val (.int (v_lim p1)), .val (.int (v_mask p1)), .val (.int (v_c p0 p1)), .val (.int (v_r p0 p1 q2)), .unset, .unset] [(.int (b2i (if (Fmat (v_p p1) (v_r p0 p1 q2) (v_fb p0 p1 q2)) = true then true else false)))])) t → Steps p.tables e below (s₁.setTop (entryFrame m #[(.int p0), (.int p1), (.long q2)] maxLocals)) t := by
            intro t k
            refine pre61 t ?_
            have k : ∀ (v1 : Bool), v1 = (if (Fmat (v_p p1) (v_r p0 p1 q2) (v_fb p0 p1 q2)) = true then true else false) → Steps p.tables e below (T60.setTop (mkF m 314 #[.val (.int p0), .val (.int p1), .val (.long q2), .second, .val (.ref b1), .val (.int (b2i (v_pl p1))), .val (.int (v_n p1)), .val (.int (v_p p1)), .val (.int (v_lim p1)), .val (.int (v_mask p1)), .val (.int (v_c p0 p1)), .val (.int (v_r p0 p1 q2)), .unset, .unset] [(.int (b2i v1))])) t := fun v1 hv1 => by subst hv1; exact k
            show Steps p.tables e below (T60.setTop (mkF m 306 #[.val (.int p0), .val (.int p1), .val (.long q2), .second, .val (.ref b1), .val (.int (b2i (v_pl p1))), .val (.int (v_n p1)), .val (.int (v_p p1)), .val (.int (v_lim p1)), .val (.int (v_mask p1)), .val (.int (v_c p0 p1)), .val (.int (v_r p0 p1 q2)), .unset, .unset] [(.int (b2i (Fmat (v_p p1) (v_r p0 p1 q2) (v_fb p0 p1 q2))))])) _
            by_cases hc63 : (Fmat (v_p p1) (v_r p0 p1 q2) (v_fb p0 p1 q2)) = true
            · refine XS.ifNo X60.here hx rfl (hb hby at_306) rfl ((if0 _ _).trans (feq (b2i_ne hc63)).1) ?_
              have k : ∀ (v1 : Bool), v1 = true → Steps p.tables e below (T60.setTop (mkF m 314 #[.val (.int p0), .val (.int p1), .val (.long q2), .second, .val (.ref b1), .val (.int (b2i (v_pl p1))), .val (.int (v_n p1)), .val (.int (v_p p1)), .val (.int (v_lim p1)), .val (.int (v_mask p1)), .val (.int (v_c p0 p1)), .val (.int (v_r p0 p1 q2)), .unset, .unset] [(.int (b2i v1))])) t := fun v1 hv1 => k v1 (hv1.trans (if_pos hc63).symm)
              show Steps p.tables e below (T60.setTop (mkF m 309 #[.val (.int p0), .val (.int p1), .val (.long q2), .second, .val (.ref b1), .val (.int (b2i (v_pl p1))), .val (.int (v_n p1)), .val (.int (v_p p1)), .val (.int (v_lim p1)), .val (.int (v_mask p1)), .val (.int (v_c p0 p1)), .val (.int (v_r p0 p1 q2)), .unset, .unset] [])) _
              refine XS.iconst X60.here hx rfl (hb hby at_309) ?_
              show Steps p.tables e below (T60.setTop (mkF m 310 #[.val (.int p0), .val (.int p1), .val (.long q2), .second, .val (.ref b1), .val (.int (b2i (v_pl p1))), .val (.int (v_n p1)), .val (.int (v_p p1)), .val (.int (v_lim p1)), .val (.int (v_mask p1)), .val (.int (v_c p0 p1)), .val (.int (v_r p0 p1 q2)), .unset, .unset] [(.int (1 : Int32))])) _
              refine XS.goto X60.here hx rfl (pc0 := 310) (pc' := 314) rfl (hb hby at_310) (by decide) (by decide) ?_
              exact k true rfl
            · refine XS.ifYes X60.here hx rfl (pc0 := 306) (pc' := 313) rfl (hb hby at_306) rfl ((if0 _ _).trans (teq (b2i_eq hc63)).1) (by decide) (by decide) ?_
              have k : ∀ (v1 : Bool), v1 = false → Steps p.tables e below (T60.setTop (mkF m 314 #[.val (.int p0), .val (.int p1), .val (.long q2), .second, .val (.ref b1), .val (.int (b2i (v_pl p1))), .val (.int (v_n p1)), .val (.int (v_p p1)), .val (.int (v_lim p1)), .val (.int (v_mask p1)), .val (.int (v_c p0 p1)), .val (.int (v_r p0 p1 q2)), .unset, .unset] [(.int (b2i v1))])) t := fun v1 hv1 => k v1 (hv1.trans (if_neg hc63).symm)
              show Steps p.tables e below (T60.setTop (mkF m 313 #[.val (.int p0), .val (.int p1), .val (.long q2), .second, .val (.ref b1), .val (.int (b2i (v_pl p1))), .val (.int (v_n p1)), .val (.int (v_p p1)), .val (.int (v_lim p1)), .val (.int (v_mask p1)), .val (.int (v_c p0 p1)), .val (.int (v_r p0 p1 q2)), .unset, .unset] [])) _
              refine XS.iconst X60.here hx rfl (hb hby at_313) ?_
              exact k false rfl
          refine ⟨T60, _, X60, e60, N60, fun t k => ?_⟩
          rw [(show (v_sd p0 p1 q2) = (if (Fmat (v_p p1) (v_r p0 p1 q2) (v_fb p0 p1 q2)) = true then true else false) from ((if_neg hc51).trans ((if_pos hc55).trans ((if_neg hc58).trans rfl))))] at k
          exact pre62 t k
      ·
        have pre64 : ∀ t, Steps p.tables e below (T53.setTop (mkF m 314 #[.val (.int p0), .val (.int p1), .val (.long q2), .second, .val (.ref b1), .val (.int (b2i (v_pl p1))), .val (.int (v_n p1)), .val (.int (v_p p1)), .val (.int (v_lim p1)), .val (.int (v_mask p1)), .val (.int (v_c p0 p1)), .val (.int (v_r p0 p1 q2)), .unset, .unset] [(.int (0 : Int32))])) t → Steps p.tables e below (s₁.setTop (entryFrame m #[(.int p0), (.int p1), (.long q2)] maxLocals)) t := by
          intro t k
          refine pre54 t ?_
          show Steps p.tables e below (T53.setTop (mkF m 281 #[.val (.int p0), .val (.int p1), .val (.long q2), .second, .val (.ref b1), .val (.int (b2i (v_pl p1))), .val (.int (v_n p1)), .val (.int (v_p p1)), .val (.int (v_lim p1)), .val (.int (v_mask p1)), .val (.int (v_c p0 p1)), .val (.int (v_r p0 p1 q2)), .unset, .unset] [(.int (b2i (F3 (v_r p0 p1 q2))))])) _
          refine XS.ifYes X53.here hx rfl (pc0 := 281) (pc' := 313) rfl (hb hby at_281) rfl ((if0 _ _).trans (teq (b2i_eq hc55)).1) (by decide) (by decide) ?_
          show Steps p.tables e below (T53.setTop (mkF m 313 #[.val (.int p0), .val (.int p1), .val (.long q2), .second, .val (.ref b1), .val (.int (b2i (v_pl p1))), .val (.int (v_n p1)), .val (.int (v_p p1)), .val (.int (v_lim p1)), .val (.int (v_mask p1)), .val (.int (v_c p0 p1)), .val (.int (v_r p0 p1 q2)), .unset, .unset] [])) _
          refine XS.iconst X53.here hx rfl (hb hby at_313) ?_
          exact k
        refine ⟨T53, _, X53, e53, N53, fun t k => ?_⟩
        rw [(show (v_sd p0 p1 q2) = false from ((if_neg hc51).trans ((if_neg hc55).trans rfl)))] at k
        exact pre64 t k
  have pre66 : ∀ t, Steps p.tables e below (T65.setTop (mkF m 318 #[.val (.int p0), .val (.int p1), .val (.long q2), .second, .val (.ref b1), .val (.int (b2i (v_pl p1))), .val (.int (v_n p1)), .val (.int (v_p p1)), .val (.int (v_lim p1)), .val (.int (v_mask p1)), .val (.int (v_c p0 p1)), .val (.int (v_r p0 p1 q2)), .val (.int (b2i (v_snd p0 p1 q2))), .unset] [(.int (b2i (v_pl p1)))])) t → Steps p.tables e below (s₁.setTop (entryFrame m #[(.int p0), (.int p1), (.long q2)] maxLocals)) t := by
    intro t k
    refine pre65 t ?_
    show Steps p.tables e below (T65.setTop (mkF m 314 #[.val (.int p0), .val (.int p1), .val (.long q2), .second, .val (.ref b1), .val (.int (b2i (v_pl p1))), .val (.int (v_n p1)), .val (.int (v_p p1)), .val (.int (v_lim p1)), .val (.int (v_mask p1)), .val (.int (v_c p0 p1)), .val (.int (v_r p0 p1 q2)), .unset, .unset] [(.int (b2i (v_sd p0 p1 q2)))])) _
    refine XS.istore X65.here hx rfl (hb hby at_314) rfl (l' := #[.val (.int p0), .val (.int p1), .val (.long q2), .second, .val (.ref b1), .val (.int (b2i (v_pl p1))), .val (.int (v_n p1)), .val (.int (v_p p1)), .val (.int (v_lim p1)), .val (.int (v_mask p1)), .val (.int (v_c p0 p1)), .val (.int (v_r p0 p1 q2)), .val (.int (b2i (v_snd p0 p1 q2))), .unset]) rfl ?_
    show Steps p.tables e below (T65.setTop (mkF m 316 #[.val (.int p0), .val (.int p1), .val (.long q2), .second, .val (.ref b1), .val (.int (b2i (v_pl p1))), .val (.int (v_n p1)), .val (.int (v_p p1)), .val (.int (v_lim p1)), .val (.int (v_mask p1)), .val (.int (v_c p0 p1)), .val (.int (v_r p0 p1 q2)), .val (.int (b2i (v_snd p0 p1 q2))), .unset] [])) _
    refine XS.iload X65.here hx rfl (hb hby at_316) rfl ?_
    exact k
  by_cases hc67 : (v_pl p1) = true
  ·
    obtain ⟨_, _, ⟨T68, L68, k68, n68⟩, -, X68, ⟨Lc68, hQ68, l68, y68, z68⟩, st68⟩ := Jvm.LawKit.callS X65 hx (y := (⟨"com/example/merkki/merkki/Utf8SequencePinLaw", "allowed", "(I)Z"⟩ : MethodName)) hown (mvT hZ (hw _ (List.mem_of_getElem? (i := 9) rfl))) (mvT hZ (hw _ (List.mem_of_getElem? (i := 10) rfl))) (mvT hZ (hw _ (List.mem_of_getElem? (i := 3) rfl))) (mvT hZ (hw _ (List.mem_of_getElem? (i := 11) rfl))) (by decide) (backOf (W := 0) (rm3 l Z a0 hw [] (v_c p0 p1) hh47 n0 k48_sz) hZ (hw _ (List.mem_of_getElem? (i := 11) rfl)) (hw _ (List.mem_of_getElem? (i := 3) rfl)) (by decide) (by decide)) (g := (mkF m 326 #[.val (.int p0), .val (.int p1), .val (.long q2), .second, .val (.ref b1), .val (.int (b2i (v_pl p1))), .val (.int (v_n p1)), .val (.int (v_p p1)), .val (.int (v_lim p1)), .val (.int (v_mask p1)), .val (.int (v_c p0 p1)), .val (.int (v_r p0 p1 q2)), .val (.int (b2i (v_snd p0 p1 q2))), .unset] [(.int (v_c p0 p1))])) rfl (by rw [hml]; rfl) (argsL := [(.int (v_c p0 p1))]) (rest := []) (lenOf pd_2 rfl) rfl (by show 2 * 0 + _ ≤ _; exact Nat.le_of_eq rfl) (hb hby at_326) (fun _ _ => ⟨rfl, e65, (by decide : 1 + 0 ≤ _), (by decide : 8 + 0 ≤ _)⟩)
    dsimp only [Pt.U, Pt.locs, Pt.cells, Pt.slots] at X68 l68 y68 z68 st68 hQ68
    subst y68 z68
    obtain ⟨rfl, N68q, e68⟩ := hQ68
    have N68 : Fr n0 L68 := by rw [l68]; exact Fr.app N65 N68q
    have pre69 : ∀ t, Steps p.tables e below (T68.setTop (mkF m 329 #[.val (.int p0), .val (.int p1), .val (.long q2), .second, .val (.ref b1), .val (.int (b2i (v_pl p1))), .val (.int (v_n p1)), .val (.int (v_p p1)), .val (.int (v_lim p1)), .val (.int (v_mask p1)), .val (.int (v_c p0 p1)), .val (.int (v_r p0 p1 q2)), .val (.int (b2i (v_snd p0 p1 q2))), .unset] [(.int (b2i (F3 (v_c p0 p1))))])) t → Steps p.tables e below (s₁.setTop (entryFrame m #[(.int p0), (.int p1), (.long q2)] maxLocals)) t := by
      intro t k
      refine pre66 t ?_
      show Steps p.tables e below (T65.setTop (mkF m 318 #[.val (.int p0), .val (.int p1), .val (.long q2), .second, .val (.ref b1), .val (.int (b2i (v_pl p1))), .val (.int (v_n p1)), .val (.int (v_p p1)), .val (.int (v_lim p1)), .val (.int (v_mask p1)), .val (.int (v_c p0 p1)), .val (.int (v_r p0 p1 q2)), .val (.int (b2i (v_snd p0 p1 q2))), .unset] [(.int (b2i (v_pl p1)))])) _
      refine XS.ifYes X65.here hx rfl (pc0 := 318) (pc' := 324) rfl (hb hby at_318) rfl ((if0 _ _).trans (feq (b2i_ne hc67)).2) (by decide) (by decide) ?_
      show Steps p.tables e below (T65.setTop (mkF m 324 #[.val (.int p0), .val (.int p1), .val (.long q2), .second, .val (.ref b1), .val (.int (b2i (v_pl p1))), .val (.int (v_n p1)), .val (.int (v_p p1)), .val (.int (v_lim p1)), .val (.int (v_mask p1)), .val (.int (v_c p0 p1)), .val (.int (v_r p0 p1 q2)), .val (.int (b2i (v_snd p0 p1 q2))), .unset] [])) _
      refine XS.iload X65.here hx rfl (hb hby at_324) rfl ?_
      show Steps p.tables e below (T65.setTop (mkF m 326 #[.val (.int p0), .val (.int p1), .val (.long q2), .second, .val (.ref b1), .val (.int (b2i (v_pl p1))), .val (.int (v_n p1)), .val (.int (v_p p1)), .val (.int (v_lim p1)), .val (.int (v_mask p1)), .val (.int (v_c p0 p1)), .val (.int (v_r p0 p1 q2)), .val (.int (b2i (v_snd p0 p1 q2))), .unset] [(.int (v_c p0 p1))])) _
      refine st68 _ ?_
      exact k
    obtain ⟨T78, L78, X78, e78, N78, pre78⟩ : ∃ (T : State) (L : List Loc), Stand p l e room_1 s m #[(.int p0), (.int p1), (.long q2)] below meth c T L 1 8 ∧ T.heap = hh47 ∧ Fr n0 L ∧ ∀ t, Steps p.tables e below (T.setTop (mkF m 358 #[.val (.int p0), .val (.int p1), .val (.long q2), .second, .val (.ref b1), .val (.int (b2i (v_pl p1))), .val (.int (v_n p1)), .val (.int (v_p p1)), .val (.int (v_lim p1)), .val (.int (v_mask p1)), .val (.int (v_c p0 p1)), .val (.int (v_r p0 p1 q2)), .val (.int (b2i (v_snd p0 p1 q2))), .unset] [(.int (v_ex p0 p1))])) t → Steps p.tables e below (s₁.setTop (entryFrame m #[(.int p0), (.int p1), (.long q2)] maxLocals)) t := by
      by_cases hc70 : (F3 (v_c p0 p1)) = true
      ·
        obtain ⟨_, _, ⟨T71, L71, k71, n71⟩, -, X71, ⟨Lc71, hQ71, l71, y71, z71⟩, st71⟩ := Jvm.LawKit.callS X68 hx (y := (⟨"com/example/merkki/merkki/Utf8SequencePinLaw", "len", "(I)I"⟩ : MethodName)) hown (mvT hZ (hw _ (List.mem_of_getElem? (i := 18) rfl))) (mvT hZ (hw _ (List.mem_of_getElem? (i := 19) rfl))) (mvT hZ (hw _ (List.mem_of_getElem? (i := 3) rfl))) (mvT hZ (hw _ (List.mem_of_getElem? (i := 20) rfl))) (by decide) (backOf (W := 0) (rm4 l Z a0 hw [] (v_c p0 p1) hh47 n0 k48_sz) hZ (hw _ (List.mem_of_getElem? (i := 20) rfl)) (hw _ (List.mem_of_getElem? (i := 3) rfl)) (by decide) (by decide)) (g := (mkF m 334 #[.val (.int p0), .val (.int p1), .val (.long q2), .second, .val (.ref b1), .val (.int (b2i (v_pl p1))), .val (.int (v_n p1)), .val (.int (v_p p1)), .val (.int (v_lim p1)), .val (.int (v_mask p1)), .val (.int (v_c p0 p1)), .val (.int (v_r p0 p1 q2)), .val (.int (b2i (v_snd p0 p1 q2))), .unset] [(.int (v_c p0 p1))])) rfl (by rw [hml]; rfl) (argsL := [(.int (v_c p0 p1))]) (rest := []) (lenOf pd_3 rfl) rfl (by show 2 * 0 + _ ≤ _; exact Nat.le_of_eq rfl) (hb hby at_334) (fun _ _ => ⟨rfl, e68, (by decide : 1 + 0 ≤ _), (by decide : 8 + 0 ≤ _)⟩)
        dsimp only [Pt.U, Pt.locs, Pt.cells, Pt.slots] at X71 l71 y71 z71 st71 hQ71
        subst y71 z71
        obtain ⟨rfl, N71q, e71⟩ := hQ71
        have N71 : Fr n0 L71 := by rw [l71]; exact Fr.app N68 N71q
        have pre72 : ∀ t, Steps p.tables e below (T71.setTop (mkF m 339 #[.val (.int p0), .val (.int p1), .val (.long q2), .second, .val (.ref b1), .val (.int (b2i (v_pl p1))), .val (.int (v_n p1)), .val (.int (v_p p1)), .val (.int (v_lim p1)), .val (.int (v_mask p1)), .val (.int (v_c p0 p1)), .val (.int (v_r p0 p1 q2)), .val (.int (b2i (v_snd p0 p1 q2))), .unset] [(.int (v_n p1)), (.int (F4 (v_c p0 p1)))])) t → Steps p.tables e below (s₁.setTop (entryFrame m #[(.int p0), (.int p1), (.long q2)] maxLocals)) t := by
          intro t k
          refine pre69 t ?_
          show Steps p.tables e below (T68.setTop (mkF m 329 #[.val (.int p0), .val (.int p1), .val (.long q2), .second, .val (.ref b1), .val (.int (b2i (v_pl p1))), .val (.int (v_n p1)), .val (.int (v_p p1)), .val (.int (v_lim p1)), .val (.int (v_mask p1)), .val (.int (v_c p0 p1)), .val (.int (v_r p0 p1 q2)), .val (.int (b2i (v_snd p0 p1 q2))), .unset] [(.int (b2i (F3 (v_c p0 p1))))])) _
          refine XS.ifNo X68.here hx rfl (hb hby at_329) rfl ((if0 _ _).trans (feq (b2i_ne hc70)).1) ?_
          show Steps p.tables e below (T68.setTop (mkF m 332 #[.val (.int p0), .val (.int p1), .val (.long q2), .second, .val (.ref b1), .val (.int (b2i (v_pl p1))), .val (.int (v_n p1)), .val (.int (v_p p1)), .val (.int (v_lim p1)), .val (.int (v_mask p1)), .val (.int (v_c p0 p1)), .val (.int (v_r p0 p1 q2)), .val (.int (b2i (v_snd p0 p1 q2))), .unset] [])) _
          refine XS.iload X68.here hx rfl (hb hby at_332) rfl ?_
          show Steps p.tables e below (T68.setTop (mkF m 334 #[.val (.int p0), .val (.int p1), .val (.long q2), .second, .val (.ref b1), .val (.int (b2i (v_pl p1))), .val (.int (v_n p1)), .val (.int (v_p p1)), .val (.int (v_lim p1)), .val (.int (v_mask p1)), .val (.int (v_c p0 p1)), .val (.int (v_r p0 p1 q2)), .val (.int (b2i (v_snd p0 p1 q2))), .unset] [(.int (v_c p0 p1))])) _
          refine st71 _ ?_
          show Steps p.tables e below (T71.setTop (mkF m 337 #[.val (.int p0), .val (.int p1), .val (.long q2), .second, .val (.ref b1), .val (.int (b2i (v_pl p1))), .val (.int (v_n p1)), .val (.int (v_p p1)), .val (.int (v_lim p1)), .val (.int (v_mask p1)), .val (.int (v_c p0 p1)), .val (.int (v_r p0 p1 q2)), .val (.int (b2i (v_snd p0 p1 q2))), .unset] [(.int (F4 (v_c p0 p1)))])) _
          refine XS.iload X71.here hx rfl (hb hby at_337) rfl ?_
          exact k
        have pre73 : ∀ t, Steps p.tables e below (T71.setTop (mkF m 358 #[.val (.int p0), .val (.int p1), .val (.long q2), .second, .val (.ref b1), .val (.int (b2i (v_pl p1))), .val (.int (v_n p1)), .val (.int (v_p p1)), .val (.int (v_lim p1)), .val (.int (v_mask p1)), .val (.int (v_c p0 p1)), .val (.int (v_r p0 p1 q2)), .val (.int (b2i (v_snd p0 p1 q2))), .unset] [(.int (if (F4 (v_c p0 p1)) = (v_n p1) then (if (v_lim p1) < ((v_p p1) + (v_n p1)) then (-1 : Int32) else (v_c p0 p1)) else (-1 : Int32)))])) t → Steps p.tables e below (s₁.setTop (entryFrame m #[(.int p0), (.int p1), (.long q2)] maxLocals)) t := by
          intro t k
          refine pre72 t ?_
          have k : ∀ (v1 : Int32), v1 = (if (F4 (v_c p0 p1)) = (v_n p1) then (if (v_lim p1) < ((v_p p1) + (v_n p1)) then (-1 : Int32) else (v_c p0 p1)) else (-1 : Int32)) → Steps p.tables e below (T71.setTop (mkF m 358 #[.val (.int p0), .val (.int p1), .val (.long q2), .second, .val (.ref b1), .val (.int (b2i (v_pl p1))), .val (.int (v_n p1)), .val (.int (v_p p1)), .val (.int (v_lim p1)), .val (.int (v_mask p1)), .val (.int (v_c p0 p1)), .val (.int (v_r p0 p1 q2)), .val (.int (b2i (v_snd p0 p1 q2))), .unset] [(.int v1)])) t := fun v1 hv1 => by subst hv1; exact k
          have nd74 : (∀ (v1 : Int32), v1 = (-1 : Int32) → Steps p.tables e below (T71.setTop (mkF m 358 #[.val (.int p0), .val (.int p1), .val (.long q2), .second, .val (.ref b1), .val (.int (b2i (v_pl p1))), .val (.int (v_n p1)), .val (.int (v_p p1)), .val (.int (v_lim p1)), .val (.int (v_mask p1)), .val (.int (v_c p0 p1)), .val (.int (v_r p0 p1 q2)), .val (.int (b2i (v_snd p0 p1 q2))), .unset] [(.int v1)])) t) → Steps p.tables e below (T71.setTop (mkF m 357 #[.val (.int p0), .val (.int p1), .val (.long q2), .second, .val (.ref b1), .val (.int (b2i (v_pl p1))), .val (.int (v_n p1)), .val (.int (v_p p1)), .val (.int (v_lim p1)), .val (.int (v_mask p1)), .val (.int (v_c p0 p1)), .val (.int (v_r p0 p1 q2)), .val (.int (b2i (v_snd p0 p1 q2))), .unset] [])) t := by
            intro k
            show Steps p.tables e below (T71.setTop (mkF m 357 #[.val (.int p0), .val (.int p1), .val (.long q2), .second, .val (.ref b1), .val (.int (b2i (v_pl p1))), .val (.int (v_n p1)), .val (.int (v_p p1)), .val (.int (v_lim p1)), .val (.int (v_mask p1)), .val (.int (v_c p0 p1)), .val (.int (v_r p0 p1 q2)), .val (.int (b2i (v_snd p0 p1 q2))), .unset] [])) _
            refine XS.iconst X71.here hx rfl (hb hby at_357) ?_
            exact k _ rfl
          show Steps p.tables e below (T71.setTop (mkF m 339 #[.val (.int p0), .val (.int p1), .val (.long q2), .second, .val (.ref b1), .val (.int (b2i (v_pl p1))), .val (.int (v_n p1)), .val (.int (v_p p1)), .val (.int (v_lim p1)), .val (.int (v_mask p1)), .val (.int (v_c p0 p1)), .val (.int (v_r p0 p1 q2)), .val (.int (b2i (v_snd p0 p1 q2))), .unset] [(.int (v_n p1)), (.int (F4 (v_c p0 p1)))])) _
          by_cases hc75 : (F4 (v_c p0 p1)) = (v_n p1)
          · refine XS.icmpNo X71.here hx rfl (hb hby at_339) rfl (teq hc75).2 ?_
            have k : ∀ (v1 : Int32), v1 = (if (v_lim p1) < ((v_p p1) + (v_n p1)) then (-1 : Int32) else (v_c p0 p1)) → Steps p.tables e below (T71.setTop (mkF m 358 #[.val (.int p0), .val (.int p1), .val (.long q2), .second, .val (.ref b1), .val (.int (b2i (v_pl p1))), .val (.int (v_n p1)), .val (.int (v_p p1)), .val (.int (v_lim p1)), .val (.int (v_mask p1)), .val (.int (v_c p0 p1)), .val (.int (v_r p0 p1 q2)), .val (.int (b2i (v_snd p0 p1 q2))), .unset] [(.int v1)])) t := fun v1 hv1 => k v1 (hv1.trans (if_pos hc75).symm)
            show Steps p.tables e below (T71.setTop (mkF m 342 #[.val (.int p0), .val (.int p1), .val (.long q2), .second, .val (.ref b1), .val (.int (b2i (v_pl p1))), .val (.int (v_n p1)), .val (.int (v_p p1)), .val (.int (v_lim p1)), .val (.int (v_mask p1)), .val (.int (v_c p0 p1)), .val (.int (v_r p0 p1 q2)), .val (.int (b2i (v_snd p0 p1 q2))), .unset] [])) _
            refine XS.iload X71.here hx rfl (hb hby at_342) rfl ?_
            show Steps p.tables e below (T71.setTop (mkF m 344 #[.val (.int p0), .val (.int p1), .val (.long q2), .second, .val (.ref b1), .val (.int (b2i (v_pl p1))), .val (.int (v_n p1)), .val (.int (v_p p1)), .val (.int (v_lim p1)), .val (.int (v_mask p1)), .val (.int (v_c p0 p1)), .val (.int (v_r p0 p1 q2)), .val (.int (b2i (v_snd p0 p1 q2))), .unset] [(.int (v_p p1))])) _
            refine XS.iload X71.here hx rfl (hb hby at_344) rfl ?_
            show Steps p.tables e below (T71.setTop (mkF m 346 #[.val (.int p0), .val (.int p1), .val (.long q2), .second, .val (.ref b1), .val (.int (b2i (v_pl p1))), .val (.int (v_n p1)), .val (.int (v_p p1)), .val (.int (v_lim p1)), .val (.int (v_mask p1)), .val (.int (v_c p0 p1)), .val (.int (v_r p0 p1 q2)), .val (.int (b2i (v_snd p0 p1 q2))), .unset] [(.int (v_n p1)), (.int (v_p p1))])) _
            refine XS.iadd X71.here hx rfl (hb hby at_346) rfl ?_
            show Steps p.tables e below (T71.setTop (mkF m 347 #[.val (.int p0), .val (.int p1), .val (.long q2), .second, .val (.ref b1), .val (.int (b2i (v_pl p1))), .val (.int (v_n p1)), .val (.int (v_p p1)), .val (.int (v_lim p1)), .val (.int (v_mask p1)), .val (.int (v_c p0 p1)), .val (.int (v_r p0 p1 q2)), .val (.int (b2i (v_snd p0 p1 q2))), .unset] [(.int ((v_p p1) + (v_n p1)))])) _
            refine XS.iload X71.here hx rfl (hb hby at_347) rfl ?_
            show Steps p.tables e below (T71.setTop (mkF m 349 #[.val (.int p0), .val (.int p1), .val (.long q2), .second, .val (.ref b1), .val (.int (b2i (v_pl p1))), .val (.int (v_n p1)), .val (.int (v_p p1)), .val (.int (v_lim p1)), .val (.int (v_mask p1)), .val (.int (v_c p0 p1)), .val (.int (v_r p0 p1 q2)), .val (.int (b2i (v_snd p0 p1 q2))), .unset] [(.int (v_lim p1)), (.int ((v_p p1) + (v_n p1)))])) _
            by_cases hc76 : (v_lim p1) < ((v_p p1) + (v_n p1))
            · refine XS.icmpYes X71.here hx rfl (pc0 := 349) (pc' := 357) rfl (hb hby at_349) rfl (tlt hc76).2.2.1 (by decide) (by decide) ?_
              have k : ∀ (v1 : Int32), v1 = (-1 : Int32) → Steps p.tables e below (T71.setTop (mkF m 358 #[.val (.int p0), .val (.int p1), .val (.long q2), .second, .val (.ref b1), .val (.int (b2i (v_pl p1))), .val (.int (v_n p1)), .val (.int (v_p p1)), .val (.int (v_lim p1)), .val (.int (v_mask p1)), .val (.int (v_c p0 p1)), .val (.int (v_r p0 p1 q2)), .val (.int (b2i (v_snd p0 p1 q2))), .unset] [(.int v1)])) t := fun v1 hv1 => k v1 (hv1.trans (if_pos hc76).symm)
              exact nd74 k
            · refine XS.icmpNo X71.here hx rfl (hb hby at_349) rfl (flt hc76).2.2.1 ?_
              have k : ∀ (v1 : Int32), v1 = (v_c p0 p1) → Steps p.tables e below (T71.setTop (mkF m 358 #[.val (.int p0), .val (.int p1), .val (.long q2), .second, .val (.ref b1), .val (.int (b2i (v_pl p1))), .val (.int (v_n p1)), .val (.int (v_p p1)), .val (.int (v_lim p1)), .val (.int (v_mask p1)), .val (.int (v_c p0 p1)), .val (.int (v_r p0 p1 q2)), .val (.int (b2i (v_snd p0 p1 q2))), .unset] [(.int v1)])) t := fun v1 hv1 => k v1 (hv1.trans (if_neg hc76).symm)
              show Steps p.tables e below (T71.setTop (mkF m 352 #[.val (.int p0), .val (.int p1), .val (.long q2), .second, .val (.ref b1), .val (.int (b2i (v_pl p1))), .val (.int (v_n p1)), .val (.int (v_p p1)), .val (.int (v_lim p1)), .val (.int (v_mask p1)), .val (.int (v_c p0 p1)), .val (.int (v_r p0 p1 q2)), .val (.int (b2i (v_snd p0 p1 q2))), .unset] [])) _
              refine XS.iload X71.here hx rfl (hb hby at_352) rfl ?_
              show Steps p.tables e below (T71.setTop (mkF m 354 #[.val (.int p0), .val (.int p1), .val (.long q2), .second, .val (.ref b1), .val (.int (b2i (v_pl p1))), .val (.int (v_n p1)), .val (.int (v_p p1)), .val (.int (v_lim p1)), .val (.int (v_mask p1)), .val (.int (v_c p0 p1)), .val (.int (v_r p0 p1 q2)), .val (.int (b2i (v_snd p0 p1 q2))), .unset] [(.int (v_c p0 p1))])) _
              refine XS.goto X71.here hx rfl (pc0 := 354) (pc' := 358) rfl (hb hby at_354) (by decide) (by decide) ?_
              exact k _ rfl
          · refine XS.icmpYes X71.here hx rfl (pc0 := 339) (pc' := 357) rfl (hb hby at_339) rfl (feq hc75).2 (by decide) (by decide) ?_
            have k : ∀ (v1 : Int32), v1 = (-1 : Int32) → Steps p.tables e below (T71.setTop (mkF m 358 #[.val (.int p0), .val (.int p1), .val (.long q2), .second, .val (.ref b1), .val (.int (b2i (v_pl p1))), .val (.int (v_n p1)), .val (.int (v_p p1)), .val (.int (v_lim p1)), .val (.int (v_mask p1)), .val (.int (v_c p0 p1)), .val (.int (v_r p0 p1 q2)), .val (.int (b2i (v_snd p0 p1 q2))), .unset] [(.int v1)])) t := fun v1 hv1 => k v1 (hv1.trans (if_neg hc75).symm)
            exact nd74 k
        refine ⟨T71, _, X71, e71, N71, fun t k => ?_⟩
        rw [(show (v_ex p0 p1) = (if (F4 (v_c p0 p1)) = (v_n p1) then (if (v_lim p1) < ((v_p p1) + (v_n p1)) then (-1 : Int32) else (v_c p0 p1)) else (-1 : Int32)) from ((if_pos hc70).trans rfl))] at k
        exact pre73 t k
      ·
        have pre77 : ∀ t, Steps p.tables e below (T68.setTop (mkF m 358 #[.val (.int p0), .val (.int p1), .val (.long q2), .second, .val (.ref b1), .val (.int (b2i (v_pl p1))), .val (.int (v_n p1)), .val (.int (v_p p1)), .val (.int (v_lim p1)), .val (.int (v_mask p1)), .val (.int (v_c p0 p1)), .val (.int (v_r p0 p1 q2)), .val (.int (b2i (v_snd p0 p1 q2))), .unset] [(.int (-1 : Int32))])) t → Steps p.tables e below (s₁.setTop (entryFrame m #[(.int p0), (.int p1), (.long q2)] maxLocals)) t := by
          intro t k
          refine pre69 t ?_
          show Steps p.tables e below (T68.setTop (mkF m 329 #[.val (.int p0), .val (.int p1), .val (.long q2), .second, .val (.ref b1), .val (.int (b2i (v_pl p1))), .val (.int (v_n p1)), .val (.int (v_p p1)), .val (.int (v_lim p1)), .val (.int (v_mask p1)), .val (.int (v_c p0 p1)), .val (.int (v_r p0 p1 q2)), .val (.int (b2i (v_snd p0 p1 q2))), .unset] [(.int (b2i (F3 (v_c p0 p1))))])) _
          refine XS.ifYes X68.here hx rfl (pc0 := 329) (pc' := 357) rfl (hb hby at_329) rfl ((if0 _ _).trans (teq (b2i_eq hc70)).1) (by decide) (by decide) ?_
          show Steps p.tables e below (T68.setTop (mkF m 357 #[.val (.int p0), .val (.int p1), .val (.long q2), .second, .val (.ref b1), .val (.int (b2i (v_pl p1))), .val (.int (v_n p1)), .val (.int (v_p p1)), .val (.int (v_lim p1)), .val (.int (v_mask p1)), .val (.int (v_c p0 p1)), .val (.int (v_r p0 p1 q2)), .val (.int (b2i (v_snd p0 p1 q2))), .unset] [])) _
          refine XS.iconst X68.here hx rfl (hb hby at_357) ?_
          exact k
        refine ⟨T68, _, X68, e68, N68, fun t k => ?_⟩
        rw [(show (v_ex p0 p1) = (-1 : Int32) from ((if_neg hc70).trans rfl))] at k
        exact pre77 t k
    have pre79 : ∀ t, Steps p.tables e below (T78.setTop (mkF m 362 #[.val (.int p0), .val (.int p1), .val (.long q2), .second, .val (.ref b1), .val (.int (b2i (v_pl p1))), .val (.int (v_n p1)), .val (.int (v_p p1)), .val (.int (v_lim p1)), .val (.int (v_mask p1)), .val (.int (v_c p0 p1)), .val (.int (v_r p0 p1 q2)), .val (.int (b2i (v_snd p0 p1 q2))), .val (.int (v_exp p0 p1))] [(.int (b2i (v_snd p0 p1 q2)))])) t → Steps p.tables e below (s₁.setTop (entryFrame m #[(.int p0), (.int p1), (.long q2)] maxLocals)) t := by
      intro t k
      refine pre78 t ?_
      show Steps p.tables e below (T78.setTop (mkF m 358 #[.val (.int p0), .val (.int p1), .val (.long q2), .second, .val (.ref b1), .val (.int (b2i (v_pl p1))), .val (.int (v_n p1)), .val (.int (v_p p1)), .val (.int (v_lim p1)), .val (.int (v_mask p1)), .val (.int (v_c p0 p1)), .val (.int (v_r p0 p1 q2)), .val (.int (b2i (v_snd p0 p1 q2))), .unset] [(.int (v_ex p0 p1))])) _
      refine XS.istore X78.here hx rfl (hb hby at_358) rfl (l' := #[.val (.int p0), .val (.int p1), .val (.long q2), .second, .val (.ref b1), .val (.int (b2i (v_pl p1))), .val (.int (v_n p1)), .val (.int (v_p p1)), .val (.int (v_lim p1)), .val (.int (v_mask p1)), .val (.int (v_c p0 p1)), .val (.int (v_r p0 p1 q2)), .val (.int (b2i (v_snd p0 p1 q2))), .val (.int (v_exp p0 p1))]) rfl ?_
      show Steps p.tables e below (T78.setTop (mkF m 360 #[.val (.int p0), .val (.int p1), .val (.long q2), .second, .val (.ref b1), .val (.int (b2i (v_pl p1))), .val (.int (v_n p1)), .val (.int (v_p p1)), .val (.int (v_lim p1)), .val (.int (v_mask p1)), .val (.int (v_c p0 p1)), .val (.int (v_r p0 p1 q2)), .val (.int (b2i (v_snd p0 p1 q2))), .val (.int (v_exp p0 p1))] [])) _
      refine XS.iload X78.here hx rfl (hb hby at_360) rfl ?_
      exact k
    have pre80 : ∀ t, Steps p.tables e below (T78.setTop (mkF m 377 #[.val (.int p0), .val (.int p1), .val (.long q2), .second, .val (.ref b1), .val (.int (b2i (v_pl p1))), .val (.int (v_n p1)), .val (.int (v_p p1)), .val (.int (v_lim p1)), .val (.int (v_mask p1)), .val (.int (v_c p0 p1)), .val (.int (v_r p0 p1 q2)), .val (.int (b2i (v_snd p0 p1 q2))), .val (.int (v_exp p0 p1))] [(.int (b2i (if (v_snd p0 p1 q2) = true then (if (v_r p0 p1 q2) = (v_exp p0 p1) then true else false) else false)))])) t → Steps p.tables e below (s₁.setTop (entryFrame m #[(.int p0), (.int p1), (.long q2)] maxLocals)) t := by
      intro t k
      refine pre79 t ?_
      have k : ∀ (v1 : Bool), v1 = (if (v_snd p0 p1 q2) = true then (if (v_r p0 p1 q2) = (v_exp p0 p1) then true else false) else false) → Steps p.tables e below (T78.setTop (mkF m 377 #[.val (.int p0), .val (.int p1), .val (.long q2), .second, .val (.ref b1), .val (.int (b2i (v_pl p1))), .val (.int (v_n p1)), .val (.int (v_p p1)), .val (.int (v_lim p1)), .val (.int (v_mask p1)), .val (.int (v_c p0 p1)), .val (.int (v_r p0 p1 q2)), .val (.int (b2i (v_snd p0 p1 q2))), .val (.int (v_exp p0 p1))] [(.int (b2i v1))])) t := fun v1 hv1 => by subst hv1; exact k
      have nd81 : (∀ (v1 : Bool), v1 = false → Steps p.tables e below (T78.setTop (mkF m 377 #[.val (.int p0), .val (.int p1), .val (.long q2), .second, .val (.ref b1), .val (.int (b2i (v_pl p1))), .val (.int (v_n p1)), .val (.int (v_p p1)), .val (.int (v_lim p1)), .val (.int (v_mask p1)), .val (.int (v_c p0 p1)), .val (.int (v_r p0 p1 q2)), .val (.int (b2i (v_snd p0 p1 q2))), .val (.int (v_exp p0 p1))] [(.int (b2i v1))])) t) → Steps p.tables e below (T78.setTop (mkF m 376 #[.val (.int p0), .val (.int p1), .val (.long q2), .second, .val (.ref b1), .val (.int (b2i (v_pl p1))), .val (.int (v_n p1)), .val (.int (v_p p1)), .val (.int (v_lim p1)), .val (.int (v_mask p1)), .val (.int (v_c p0 p1)), .val (.int (v_r p0 p1 q2)), .val (.int (b2i (v_snd p0 p1 q2))), .val (.int (v_exp p0 p1))] [])) t := by
        intro k
        show Steps p.tables e below (T78.setTop (mkF m 376 #[.val (.int p0), .val (.int p1), .val (.long q2), .second, .val (.ref b1), .val (.int (b2i (v_pl p1))), .val (.int (v_n p1)), .val (.int (v_p p1)), .val (.int (v_lim p1)), .val (.int (v_mask p1)), .val (.int (v_c p0 p1)), .val (.int (v_r p0 p1 q2)), .val (.int (b2i (v_snd p0 p1 q2))), .val (.int (v_exp p0 p1))] [])) _
        refine XS.iconst X78.here hx rfl (hb hby at_376) ?_
        exact k false rfl
      show Steps p.tables e below (T78.setTop (mkF m 362 #[.val (.int p0), .val (.int p1), .val (.long q2), .second, .val (.ref b1), .val (.int (b2i (v_pl p1))), .val (.int (v_n p1)), .val (.int (v_p p1)), .val (.int (v_lim p1)), .val (.int (v_mask p1)), .val (.int (v_c p0 p1)), .val (.int (v_r p0 p1 q2)), .val (.int (b2i (v_snd p0 p1 q2))), .val (.int (v_exp p0 p1))] [(.int (b2i (v_snd p0 p1 q2)))])) _
      by_cases hc82 : (v_snd p0 p1 q2) = true
      · refine XS.ifNo X78.here hx rfl (hb hby at_362) rfl ((if0 _ _).trans (feq (b2i_ne hc82)).1) ?_
        have k : ∀ (v1 : Bool), v1 = (if (v_r p0 p1 q2) = (v_exp p0 p1) then true else false) → Steps p.tables e below (T78.setTop (mkF m 377 #[.val (.int p0), .val (.int p1), .val (.long q2), .second, .val (.ref b1), .val (.int (b2i (v_pl p1))), .val (.int (v_n p1)), .val (.int (v_p p1)), .val (.int (v_lim p1)), .val (.int (v_mask p1)), .val (.int (v_c p0 p1)), .val (.int (v_r p0 p1 q2)), .val (.int (b2i (v_snd p0 p1 q2))), .val (.int (v_exp p0 p1))] [(.int (b2i v1))])) t := fun v1 hv1 => k v1 (hv1.trans (if_pos hc82).symm)
        show Steps p.tables e below (T78.setTop (mkF m 365 #[.val (.int p0), .val (.int p1), .val (.long q2), .second, .val (.ref b1), .val (.int (b2i (v_pl p1))), .val (.int (v_n p1)), .val (.int (v_p p1)), .val (.int (v_lim p1)), .val (.int (v_mask p1)), .val (.int (v_c p0 p1)), .val (.int (v_r p0 p1 q2)), .val (.int (b2i (v_snd p0 p1 q2))), .val (.int (v_exp p0 p1))] [])) _
        refine XS.iload X78.here hx rfl (hb hby at_365) rfl ?_
        show Steps p.tables e below (T78.setTop (mkF m 367 #[.val (.int p0), .val (.int p1), .val (.long q2), .second, .val (.ref b1), .val (.int (b2i (v_pl p1))), .val (.int (v_n p1)), .val (.int (v_p p1)), .val (.int (v_lim p1)), .val (.int (v_mask p1)), .val (.int (v_c p0 p1)), .val (.int (v_r p0 p1 q2)), .val (.int (b2i (v_snd p0 p1 q2))), .val (.int (v_exp p0 p1))] [(.int (v_r p0 p1 q2))])) _
        refine XS.iload X78.here hx rfl (hb hby at_367) rfl ?_
        show Steps p.tables e below (T78.setTop (mkF m 369 #[.val (.int p0), .val (.int p1), .val (.long q2), .second, .val (.ref b1), .val (.int (b2i (v_pl p1))), .val (.int (v_n p1)), .val (.int (v_p p1)), .val (.int (v_lim p1)), .val (.int (v_mask p1)), .val (.int (v_c p0 p1)), .val (.int (v_r p0 p1 q2)), .val (.int (b2i (v_snd p0 p1 q2))), .val (.int (v_exp p0 p1))] [(.int (v_exp p0 p1)), (.int (v_r p0 p1 q2))])) _
        by_cases hc83 : (v_r p0 p1 q2) = (v_exp p0 p1)
        · refine XS.icmpNo X78.here hx rfl (hb hby at_369) rfl (teq hc83).2 ?_
          have k : ∀ (v1 : Bool), v1 = true → Steps p.tables e below (T78.setTop (mkF m 377 #[.val (.int p0), .val (.int p1), .val (.long q2), .second, .val (.ref b1), .val (.int (b2i (v_pl p1))), .val (.int (v_n p1)), .val (.int (v_p p1)), .val (.int (v_lim p1)), .val (.int (v_mask p1)), .val (.int (v_c p0 p1)), .val (.int (v_r p0 p1 q2)), .val (.int (b2i (v_snd p0 p1 q2))), .val (.int (v_exp p0 p1))] [(.int (b2i v1))])) t := fun v1 hv1 => k v1 (hv1.trans (if_pos hc83).symm)
          show Steps p.tables e below (T78.setTop (mkF m 372 #[.val (.int p0), .val (.int p1), .val (.long q2), .second, .val (.ref b1), .val (.int (b2i (v_pl p1))), .val (.int (v_n p1)), .val (.int (v_p p1)), .val (.int (v_lim p1)), .val (.int (v_mask p1)), .val (.int (v_c p0 p1)), .val (.int (v_r p0 p1 q2)), .val (.int (b2i (v_snd p0 p1 q2))), .val (.int (v_exp p0 p1))] [])) _
          refine XS.iconst X78.here hx rfl (hb hby at_372) ?_
          show Steps p.tables e below (T78.setTop (mkF m 373 #[.val (.int p0), .val (.int p1), .val (.long q2), .second, .val (.ref b1), .val (.int (b2i (v_pl p1))), .val (.int (v_n p1)), .val (.int (v_p p1)), .val (.int (v_lim p1)), .val (.int (v_mask p1)), .val (.int (v_c p0 p1)), .val (.int (v_r p0 p1 q2)), .val (.int (b2i (v_snd p0 p1 q2))), .val (.int (v_exp p0 p1))] [(.int (1 : Int32))])) _
          refine XS.goto X78.here hx rfl (pc0 := 373) (pc' := 377) rfl (hb hby at_373) (by decide) (by decide) ?_
          exact k true rfl
        · refine XS.icmpYes X78.here hx rfl (pc0 := 369) (pc' := 376) rfl (hb hby at_369) rfl (feq hc83).2 (by decide) (by decide) ?_
          have k : ∀ (v1 : Bool), v1 = false → Steps p.tables e below (T78.setTop (mkF m 377 #[.val (.int p0), .val (.int p1), .val (.long q2), .second, .val (.ref b1), .val (.int (b2i (v_pl p1))), .val (.int (v_n p1)), .val (.int (v_p p1)), .val (.int (v_lim p1)), .val (.int (v_mask p1)), .val (.int (v_c p0 p1)), .val (.int (v_r p0 p1 q2)), .val (.int (b2i (v_snd p0 p1 q2))), .val (.int (v_exp p0 p1))] [(.int (b2i v1))])) t := fun v1 hv1 => k v1 (hv1.trans (if_neg hc83).symm)
          exact nd81 k
      · refine XS.ifYes X78.here hx rfl (pc0 := 362) (pc' := 376) rfl (hb hby at_362) rfl ((if0 _ _).trans (teq (b2i_eq hc82)).1) (by decide) (by decide) ?_
        have k : ∀ (v1 : Bool), v1 = false → Steps p.tables e below (T78.setTop (mkF m 377 #[.val (.int p0), .val (.int p1), .val (.long q2), .second, .val (.ref b1), .val (.int (b2i (v_pl p1))), .val (.int (v_n p1)), .val (.int (v_p p1)), .val (.int (v_lim p1)), .val (.int (v_mask p1)), .val (.int (v_c p0 p1)), .val (.int (v_r p0 p1 q2)), .val (.int (b2i (v_snd p0 p1 q2))), .val (.int (v_exp p0 p1))] [(.int (b2i v1))])) t := fun v1 hv1 => k v1 (hv1.trans (if_neg hc82).symm)
        exact nd81 k
    have hlaw : (if (v_snd p0 p1 q2) = true then (if (v_r p0 p1 q2) = (v_exp p0 p1) then true else false) else false) = true := own_law1 p0 p1 q2 hc67
    obtain ⟨fs, hr, hrun, hended, hW, hsame⟩ := X78.leave (v := some (.int (1 : Int32))) (fun h => by rw [Bd.returns] at h; cases h) (BodyLoose.notSynchronized Bd)
    refine ⟨_, _, pre80 _ ?_, hrun, hended, _, _, rfl, ?_, ⟨_, rfl⟩, hW, hsame.mono (by decide) (by decide)⟩
    · show Steps p.tables e below (T78.setTop (mkF m 377 #[.val (.int p0), .val (.int p1), .val (.long q2), .second, .val (.ref b1), .val (.int (b2i (v_pl p1))), .val (.int (v_n p1)), .val (.int (v_p p1)), .val (.int (v_lim p1)), .val (.int (v_mask p1)), .val (.int (v_c p0 p1)), .val (.int (v_r p0 p1 q2)), .val (.int (b2i (v_snd p0 p1 q2))), .val (.int (v_exp p0 p1))] [(.int (b2i (if (v_snd p0 p1 q2) = true then (if (v_r p0 p1 q2) = (v_exp p0 p1) then true else false) else false)))])) _
      exact retN X78 hx (t := .boolean) Bd.returns (by simp) (hb hby at_377) (by rw [b2i_one hlaw]; exact hr)
    · show Q0 Z p0 p1 q2 h0 n0 _ T78.heap _
      rw [e78]
      exact ⟨rfl, N78⟩
  ·
    have pre84 : ∀ t, Steps p.tables e below (T65.setTop (mkF m 323 #[.val (.int p0), .val (.int p1), .val (.long q2), .second, .val (.ref b1), .val (.int (b2i (v_pl p1))), .val (.int (v_n p1)), .val (.int (v_p p1)), .val (.int (v_lim p1)), .val (.int (v_mask p1)), .val (.int (v_c p0 p1)), .val (.int (v_r p0 p1 q2)), .val (.int (b2i (v_snd p0 p1 q2))), .unset] [(.int (b2i (v_snd p0 p1 q2)))])) t → Steps p.tables e below (s₁.setTop (entryFrame m #[(.int p0), (.int p1), (.long q2)] maxLocals)) t := by
      intro t k
      refine pre66 t ?_
      show Steps p.tables e below (T65.setTop (mkF m 318 #[.val (.int p0), .val (.int p1), .val (.long q2), .second, .val (.ref b1), .val (.int (b2i (v_pl p1))), .val (.int (v_n p1)), .val (.int (v_p p1)), .val (.int (v_lim p1)), .val (.int (v_mask p1)), .val (.int (v_c p0 p1)), .val (.int (v_r p0 p1 q2)), .val (.int (b2i (v_snd p0 p1 q2))), .unset] [(.int (b2i (v_pl p1)))])) _
      refine XS.ifNo X65.here hx rfl (hb hby at_318) rfl ((if0 _ _).trans (teq (b2i_eq hc67)).2) ?_
      show Steps p.tables e below (T65.setTop (mkF m 321 #[.val (.int p0), .val (.int p1), .val (.long q2), .second, .val (.ref b1), .val (.int (b2i (v_pl p1))), .val (.int (v_n p1)), .val (.int (v_p p1)), .val (.int (v_lim p1)), .val (.int (v_mask p1)), .val (.int (v_c p0 p1)), .val (.int (v_r p0 p1 q2)), .val (.int (b2i (v_snd p0 p1 q2))), .unset] [])) _
      refine XS.iload X65.here hx rfl (hb hby at_321) rfl ?_
      exact k
    have hlaw : (v_snd p0 p1 q2) = true := own_law2 p0 p1 q2 hc67
    obtain ⟨fs, hr, hrun, hended, hW, hsame⟩ := X65.leave (v := some (.int (1 : Int32))) (fun h => by rw [Bd.returns] at h; cases h) (BodyLoose.notSynchronized Bd)
    refine ⟨_, _, pre84 _ ?_, hrun, hended, _, _, rfl, ?_, ⟨_, rfl⟩, hW, hsame.mono (by decide) (by decide)⟩
    · show Steps p.tables e below (T65.setTop (mkF m 323 #[.val (.int p0), .val (.int p1), .val (.long q2), .second, .val (.ref b1), .val (.int (b2i (v_pl p1))), .val (.int (v_n p1)), .val (.int (v_p p1)), .val (.int (v_lim p1)), .val (.int (v_mask p1)), .val (.int (v_c p0 p1)), .val (.int (v_r p0 p1 q2)), .val (.int (b2i (v_snd p0 p1 q2))), .unset] [(.int (b2i (v_snd p0 p1 q2)))])) _
      exact retN X65 hx (t := .boolean) Bd.returns (by simp) (hb hby at_323) (by rw [b2i_one hlaw]; exact hr)
    · show Q0 Z p0 p1 q2 h0 n0 _ T65.heap _
      rw [e65]
      exact ⟨rfl, N65⟩
set_option maxRecDepth 65536 in
set_option maxHeartbeats 40000000 in
theorem comes_1 {Post : Tables → Env → Array Value → State → Outcome → State → Prop} (hpost : ∀ tb e args s v u, (limb_1_1.after args s (.returned v) u = true ∧ limb_1_2.after args s (.returned v) u = true ∧ True) → FrameEnd s (.returned v) u (Jvm.fieldLocs frame_1_writes args s ++ Jvm.arrayLocs frame_1_arrays args s ++ Jvm.staticLocs frame_1_statics s) 16 128 → Post tb e args s (.returned v) u) :
    ArmFor flags0 classFile x code maxLocals ret World_1 tables_1 room_1 Calls_1 rest_1 Pre_1 Post := by
  intro l hfl _ _ p e ha hc hk s m args below hf hA hF happ hP
  obtain ⟨hcalls, hrest, hpre⟩ := hP
  obtain ⟨-, -, -, hnamed, -, -, -, hat⟩ := (Spec.applies_iff hf).mp happ
  obtain ⟨hg, hn⟩ := and_e (Cond.before_iff.mp (show (Jvm.Cond.and given_1 narrow_1).before args s = true from hpre))
  obtain ⟨g1, g2⟩ := and_e hg
  obtain ⟨g3, g4⟩ := and_e g2
  obtain ⟨g5, g6⟩ := and_e g4
  obtain ⟨w0, w1, w2, rfl⟩ : ∃ w0 w1 w2 : Value, args = #[w0, w1, w2] := by
    have hs : args.size = 3 := by simpa [Cond.value, given_1] using g1
    obtain ⟨L⟩ := args
    match L, hs with
    | [w0, w1, w2], _ => exact ⟨w0, w1, w2, rfl⟩
  have hw := fun d (hd : d ∈ tables_1) => atoms_spec (ws := Jvm.Cond.code x code maxLocals ret :: tables_1) hat d (List.mem_cons_of_mem _ hd)
  obtain ⟨i0, ei0⟩ := is_v g3
  obtain rfl : w0 = (.int i0) := Option.some.inj ei0
  obtain ⟨i1, ei1⟩ := is_v g5
  obtain rfl : w1 = (.int i1) := Option.some.inj ei1
  obtain ⟨i2, ei2⟩ := isL_v g6
  obtain rfl : w2 = (.long i2) := Option.some.inj ei2
  obtain ⟨n, o, h1, h2, h3, _, L, rfl, ⟨rfl, N⟩, hq⟩ := rm0 l s _ hw tables_1 i0 i1 i2 s.heap s.heap.size (Nat.le_refl _) p e ha hc hk s m _ below hf ((Spec.applies_iff_loose hf).mp happ).1 ⟨rfl, State.Warmed39.refl s, rfl⟩ trivial
  refine ⟨n, _, h1, h2, h3, hpost _ _ _ _ _ _ ⟨Cond.after_iff.mpr rfl, Cond.after_iff.mpr (eq_i res_at (Term.int_eval (1)) rfl), trivial⟩ ⟨hq.1, hq.2.1, (hq.2.2.sift fun y hy => Or.inr (N y hy)).mono (by decide) (by decide)⟩⟩
theorem main_1_1 : Claimed_1_1 := comes_1 fun _ _ _ _ _ _ h hF => ⟨h.1, hF⟩
theorem main_1_2 : Claimed_1_2 := comes_1 fun _ _ _ _ _ _ h hF => ⟨h.2.1, hF⟩
end Jvm.Pilot.@@N@@
namespace Jvm.Pilot.@@N@@
open Jvm Jvm.ClassFile Sem Op Lib Jvm.Free Jvm.Stand Jvm.Pilot.@@N@@.Jvm.D
/-! MADE BY PROGRAM (witnessworld.py) out of the Statement's table words and the real class files: 9 classes; the members and pool entries that the words name. The judged class is class 1, her method 1. -/
namespace start1
open Jvm.ClassFile
def u (s : String) : CpInfo := .utf8 (stringToUtf16 s)
/-- a pool by its gaps: so many unusable entries, then the entry; so many at the end -/
def gap : Nat → List CpInfo → List CpInfo
  | 0, r => r
  | n + 1, r => .unusable :: gap n r
def poolList (es : List (Nat × CpInfo)) (last : Nat) : List CpInfo := es.foldr (fun e r => gap e.1 (e.2 :: r)) (gap last [])
def pool (es : List (Nat × CpInfo)) (last : Nat) : Array CpInfo := ⟨poolList es last⟩
def fileOf (pool : Array CpInfo) (this : Nat) (attrs : Array Attribute := #[]) (ms : Array MethodInfo := #[]) (fl : Nat := 33) (sup : Nat := 0) (ifs : Array Nat := #[]) (fds : Array FieldInfo := #[]) : ClassFile where
  minorVersion := 0
  majorVersion := 65
  constantPool := pool
  accessFlags := fl
  thisClass := this
  superClass := sup
  interfaces := ifs
  fields := fds
  methods := ms
  attributes := attrs
def plain (name : String) (sup : Option ClassId) : Class where
  name := name
  kind := .ordinary
  loader := none
  accessFlags := 33
  super := sup
  interfaces := #[]
  cf := none
  fields := #[]
  methods := #[]
  instanceTypes := #[]
  staticTypes := #[]
  resolved := #[]
  callSites := []
  init := .initialized
  statics := none
  mirror := none

def pool0 : Array CpInfo := pool [(5, u "<init>"), (0, u "()V"), (1, .class_ 10), (1, u "java/lang/Object")] 113

def k0m0 : Method := { name := "<init>", desc := "()V", sig := { parameters := [], returnType := none }, accessFlags := 1, code := none }
/-- java/lang/Object -/
def k0 : Class := { plain "java/lang/Object" none with
  accessFlags := 33
  interfaces := #[]
  cf := some (fileOf pool0 8 #[] #[{ accessFlags := 1, nameIndex := 5, descriptorIndex := 6, attributes := #[] }] 33 0 #[] #[])
  fields := #[]
  methods := #[k0m0]
  instanceTypes := #[]
  staticTypes := #[]
  resolved := Array.replicate 124 none
  statics := none }

def pool1 : Array CpInfo := pool [(2, .class_ 4), (1, u "java/lang/Object"), (0, u "<init>"), (0, u "()V"), (0, .integer 65535), (0, .integer 2097151), (0, .methodref 10 11), (0, .class_ 12), (0, .nameAndType 13 14), (0, u "com/example/merkki/merkki/Utf8SequencePinLaw"), (0, u "enc"), (0, u "(III)I"), (0, .methodref 16 17), (0, .class_ 18), (0, .nameAndType 19 20), (0, u "com/example/merkki/merkki/Utf8"), (0, u "sequence"), (0, u "([BII)I"), (0, .methodref 10 22), (0, .nameAndType 23 24), (0, u "allowed"), (0, u "(I)Z"), (0, .methodref 10 26), (0, .nameAndType 27 28), (0, u "len"), (0, u "(I)I"), (0, .methodref 10 30), (0, .nameAndType 31 32), (0, u "matches"), (0, u "([BII)Z"), (0, .integer 1114111), (0, .integer 55296), (0, .integer 57344), (0, .integer 65534), (0, .integer 65536), (2, u "law"), (0, u "(IIJ)Z")] 5

def k1m0 : Method := { name := "<init>", desc := "()V", sig := { parameters := [], returnType := none }, accessFlags := 2, code := none }
def k1c1 : Code := { maxStack := 5, maxLocals := 14, code := code, exceptionTable := #[], attributes := #[] }
def k1m1 : Method := { name := "law", desc := "(IIJ)Z", sig := { parameters := [.int, .int, .long], returnType := some .boolean }, accessFlags := 9, code := some k1c1 }
def k1c2 : Code := { maxStack := 2, maxLocals := 1, code := method_3_code, exceptionTable := #[], attributes := #[] }
def k1m2 : Method := { name := "allowed", desc := "(I)Z", sig := { parameters := [.int], returnType := some .boolean }, accessFlags := 10, code := some k1c2 }
def k1c3 : Code := { maxStack := 2, maxLocals := 1, code := method_4_code, exceptionTable := #[], attributes := #[] }
def k1m3 : Method := { name := "len", desc := "(I)I", sig := { parameters := [.int], returnType := some .int }, accessFlags := 10, code := some k1c3 }
def k1c4 : Code := { maxStack := 3, maxLocals := 4, code := method_5_code, exceptionTable := #[], attributes := #[] }
def k1m4 : Method := { name := "enc", desc := "(III)I", sig := { parameters := [.int, .int, .int], returnType := some .int }, accessFlags := 10, code := some k1c4 }
def k1c5 : Code := { maxStack := 4, maxLocals := 5, code := method_6_code, exceptionTable := #[], attributes := #[] }
def k1m5 : Method := { name := "matches", desc := "([BII)Z", sig := { parameters := [(.array .byte), .int, .int], returnType := some .boolean }, accessFlags := 10, code := some k1c5 }
/-- com/example/merkki/merkki/Utf8SequencePinLaw -/
def k1 : Class := { plain "com/example/merkki/merkki/Utf8SequencePinLaw" (some 0) with
  accessFlags := 49
  interfaces := #[]
  cf := some (fileOf pool1 10 #[] #[{ accessFlags := 2, nameIndex := 5, descriptorIndex := 6, attributes := #[] }, { accessFlags := 9, nameIndex := 40, descriptorIndex := 41, attributes := #[] }, { accessFlags := 10, nameIndex := 23, descriptorIndex := 24, attributes := #[] }, { accessFlags := 10, nameIndex := 27, descriptorIndex := 28, attributes := #[] }, { accessFlags := 10, nameIndex := 13, descriptorIndex := 14, attributes := #[] }, { accessFlags := 10, nameIndex := 31, descriptorIndex := 32, attributes := #[] }] 49 2 #[] #[])
  fields := #[]
  methods := #[k1m0, k1m1, k1m2, k1m3, k1m4, k1m5]
  instanceTypes := #[]
  staticTypes := #[]
  resolved := Array.replicate 47 none
  statics := none }

def pool2 : Array CpInfo := pool [(1, .class_ 2), (0, u "com/example/merkki/merkki/Utf8"), (1, .class_ 6), (1, u "java/lang/Object"), (0, u "<init>"), (0, u "()V"), (2, u "BYTES_AS_LONG"), (0, u "Ljava/lang/invoke/VarHandle;"), (16, .integer 55296), (0, .integer 57344), (0, .integer 65533), (2, .integer 65536), (0, .integer 1114111), (14, u "EACH_BYTE"), (0, u "J"), (1, u "HIGH_BITS"), (0, u "LOW_SEVEN_BITS"), (7, u "sequence"), (0, u "([BII)I")] 6

def k2m0 : Method := { name := "<init>", desc := "()V", sig := { parameters := [], returnType := none }, accessFlags := 2, code := none }
def k2c1 : Code := { maxStack := 4, maxLocals := 5, code := prog_38_method_5_code, exceptionTable := #[], attributes := #[] }
def k2m1 : Method := { name := "sequence", desc := "([BII)I", sig := { parameters := [(.array .byte), .int, .int], returnType := some .int }, accessFlags := 8, code := some k2c1 }
/-- com/example/merkki/merkki/Utf8 -/
def k2 : Class := { plain "com/example/merkki/merkki/Utf8" (some 0) with
  accessFlags := 32
  interfaces := #[]
  cf := some (fileOf pool2 1 #[] #[{ accessFlags := 2, nameIndex := 7, descriptorIndex := 8, attributes := #[] }, { accessFlags := 8, nameIndex := 62, descriptorIndex := 63, attributes := #[] }] 32 4 #[] #[{ accessFlags := 26, nameIndex := 11, descriptorIndex := 12, attributes := #[] }, { accessFlags := 26, nameIndex := 50, descriptorIndex := 51, attributes := #[] }, { accessFlags := 24, nameIndex := 53, descriptorIndex := 51, attributes := #[] }, { accessFlags := 26, nameIndex := 54, descriptorIndex := 51, attributes := #[] }])
  fields := #[{ name := "BYTES_AS_LONG", type := (.object "java/lang/invoke/VarHandle"), accessFlags := 26, slot := 0, constantValue := 0 }, { name := "EACH_BYTE", type := .long, accessFlags := 26, slot := 1, constantValue := 0 }, { name := "HIGH_BITS", type := .long, accessFlags := 24, slot := 2, constantValue := 0 }, { name := "LOW_SEVEN_BITS", type := .long, accessFlags := 26, slot := 3, constantValue := 0 }]
  methods := #[k2m0, k2m1]
  instanceTypes := #[]
  staticTypes := #[(.object "java/lang/invoke/VarHandle"), .long, .long, .long]
  resolved := Array.replicate 70 none
  statics := none }

def pool3 : Array CpInfo := pool [(1, u "java/lang/Cloneable"), (0, .class_ 1), (0, u "java/lang/Object"), (0, .class_ 3)] 3

/-- java/lang/Cloneable -/
def k3 : Class := { plain "java/lang/Cloneable" (some 0) with
  accessFlags := 1537
  interfaces := #[]
  cf := some (fileOf pool3 2 #[] #[] 1537 4 #[] #[])
  fields := #[]
  methods := #[]
  instanceTypes := #[]
  staticTypes := #[]
  resolved := Array.replicate 8 none
  statics := none }

def pool4 : Array CpInfo := pool [(1, u "java/io/Serializable"), (0, .class_ 1), (0, u "java/lang/Object"), (0, .class_ 3)] 3

/-- java/io/Serializable -/
def k4 : Class := { plain "java/io/Serializable" (some 0) with
  accessFlags := 1537
  interfaces := #[]
  cf := some (fileOf pool4 2 #[] #[] 1537 4 #[] #[])
  fields := #[]
  methods := #[]
  instanceTypes := #[]
  staticTypes := #[]
  resolved := Array.replicate 8 none
  statics := none }

/-- the primitive byte -/
def k5 : Class := { plain "byte" none with kind := .primitive 'B', accessFlags := 0x411 }
/-- [B -/
def k6 : Class := { plain "[B" (some 0) with kind := .array 5 .byte, interfaces := #[3, 4], accessFlags := 1041 }

/-- the primitive int -/
def k7 : Class := { plain "int" none with kind := .primitive 'I', accessFlags := 0x411 }
/-- [I -/
def k8 : Class := { plain "[I" (some 0) with kind := .array 7 .int, interfaces := #[3, 4], accessFlags := 1041 }

def heap : Heap := #[]
def classes : Array Class := #[k0, k1, k2, k3, k4, k5, k6, k7, k8]
def interned : List (Array UInt16 × Addr) := []
def slotsUsed : Nat := 0
def theMethod : MethodId := ⟨1, 1⟩
def args0 : Array Value := #[.int 5, .int 3, .long 7]
def aboutOver (below : List Frame) : State where
  vm := { classes := classes, interned := interned.toArray }
  heap := heap
  slotsUsed := slotsUsed
  threads := #[{ frames := .invoking theMethod args0 :: below }]
def below0 : List Frame := [.native { method := ⟨0, 0⟩, args := #[] }]
def about1 : State := aboutOver below0
def p0 : Program := .bare "" "" ""
def e0 : Env := launch0.env 0 0 0
theorem w_frames : about1.frames = Frame.invoking theMethod args0 :: below0 := rfl
set_option maxRecDepth 65536 in
theorem w_args : argsFit about1.vm theMethod args0 = true := by decide +kernel
set_option maxRecDepth 65536 in
theorem w_heap : heapFits about1 = true := by decide +kernel
set_option maxRecDepth 65536 in
theorem w_runnable : about1.curStatus? = some .runnable := by decide +kernel
set_option maxRecDepth 65536 in
theorem w_alone : about1.alone = true := by decide +kernel
set_option maxRecDepth 65536 in
theorem w_named : about1.methodNamed? x = some theMethod := by decide +kernel
set_option maxRecDepth 65536 in
theorem w_hears : about1.hears theMethod below0 = true := by decide +kernel
set_option maxRecDepth 65536 in
theorem w_ripe : about1.ripe theMethod args0 below0 = true := by decide +kernel
theorem w_running : about1.status = .running := rfl
set_option maxRecDepth 65536 in
theorem w_room : about1.hasRoom e0.platform room_1 = true :=
  launch0.hasRoom_least _ room_1 (by decide +kernel) (by decide +kernel) (by decide +kernel) (by decide +kernel) (by decide +kernel) (by decide +kernel)
theorem allAtoms_all (ts : List Jvm.Cond) (a : Array Jvm.Value) (st : Jvm.State) : (allAtoms ts).before a st = ts.all (fun c => c.before a st) := by
  induction ts with
  | nil => rfl
  | cons c t ih =>
    show (Jvm.Cond.and c (allAtoms t)).before a st = _
    rw [Jvm.Cond.before_and, ih, List.all_cons]
def words1 : List Jvm.Cond := Jvm.Cond.code x code maxLocals ret :: tables_1
/-- a 'code' word, met by the world's own term for the bytes: nothing is compared byte by byte -/
theorem code_word {y : MethodName} {bytes : ByteArray} {mx : Nat} {rt : Option FieldType} {a : Array Value} {s : State} {m : MethodId} {meth : Method} {c : Code} (h1 : s.methodNamed? y = some m) (h2 : s.vm.method? m = some meth) (h3 : meth.code = some c) (h4 : c.code = bytes)
    (h5 : (c.maxLocals == mx && c.exceptionTable.isEmpty && decide (c.maxStack ≤ mostOperands) && decide (meth.sig.returnType = rt) && !meth.locks && decide (parseMethodDescriptor y.desc = some meth.sig)) = true) : (Jvm.Cond.code y bytes mx rt).before a s = true := by
  simp only [Bool.and_eq_true, beq_iff_eq, Bool.not_eq_true', decide_eq_true_eq] at h5
  obtain ⟨⟨⟨⟨⟨g1, g2⟩, g3⟩, g4⟩, g5⟩, g6⟩ := h5
  simp [Cond.before, Cond.holds, Cond.value, h1, h2, h3, h4, g1, g2, g3, g4, g5, g6]
def isCode : Jvm.Cond → Bool
  | .code _ _ _ _ => true
  | _ => false
theorem all_split {L : List Jvm.Cond} {P : Jvm.Cond → Bool} (h1 : L.all (fun c => isCode c || P c) = true) (h2 : ∀ c ∈ L.filter isCode, P c = true) : L.all P = true := by
  refine List.all_eq_true.mpr fun c hc => ?_
  have h := List.all_eq_true.mp h1 c hc
  rcases Bool.eq_false_or_eq_true (isCode c) with hi | hi
  · exact h2 c (List.mem_filter.mpr ⟨hc, hi⟩)
  · simpa [hi] using h
set_option maxRecDepth 65536 in
theorem w_c0 : (Jvm.Cond.code x code maxLocals ret).before args0 about1 = true := code_word (m := ⟨1, 1⟩) (meth := k1m1) (c := k1c1) (by decide +kernel) rfl rfl rfl (by decide +kernel)
set_option maxRecDepth 65536 in
theorem w_c1 : (Jvm.Cond.code ({ cls := "com/example/merkki/merkki/Utf8SequencePinLaw", name := "enc", desc := "(III)I" } : Jvm.MethodName) method_5_code (4 : Nat) (Option.some Jvm.ClassFile.FieldType.int)).before args0 about1 = true := code_word (m := ⟨1, 4⟩) (meth := k1m4) (c := k1c4) (by decide +kernel) rfl rfl rfl (by decide +kernel)
set_option maxRecDepth 65536 in
theorem w_c2 : (Jvm.Cond.code ({ cls := "com/example/merkki/merkki/Utf8", name := "sequence", desc := "([BII)I" } : Jvm.MethodName) prog_38_method_5_code (5 : Nat) (Option.some Jvm.ClassFile.FieldType.int)).before args0 about1 = true := code_word (m := ⟨2, 1⟩) (meth := k2m1) (c := k2c1) (by decide +kernel) rfl rfl rfl (by decide +kernel)
set_option maxRecDepth 65536 in
theorem w_c3 : (Jvm.Cond.code ({ cls := "com/example/merkki/merkki/Utf8SequencePinLaw", name := "allowed", desc := "(I)Z" } : Jvm.MethodName) method_3_code (1 : Nat) (Option.some Jvm.ClassFile.FieldType.boolean)).before args0 about1 = true := code_word (m := ⟨1, 2⟩) (meth := k1m2) (c := k1c2) (by decide +kernel) rfl rfl rfl (by decide +kernel)
set_option maxRecDepth 65536 in
theorem w_c4 : (Jvm.Cond.code ({ cls := "com/example/merkki/merkki/Utf8SequencePinLaw", name := "len", desc := "(I)I" } : Jvm.MethodName) method_4_code (1 : Nat) (Option.some Jvm.ClassFile.FieldType.int)).before args0 about1 = true := code_word (m := ⟨1, 3⟩) (meth := k1m3) (c := k1c3) (by decide +kernel) rfl rfl rfl (by decide +kernel)
set_option maxRecDepth 65536 in
theorem w_c5 : (Jvm.Cond.code ({ cls := "com/example/merkki/merkki/Utf8SequencePinLaw", name := "matches", desc := "([BII)Z" } : Jvm.MethodName) method_6_code (5 : Nat) (Option.some Jvm.ClassFile.FieldType.boolean)).before args0 about1 = true := code_word (m := ⟨1, 5⟩) (meth := k1m5) (c := k1c5) (by decide +kernel) rfl rfl rfl (by decide +kernel)
def codes1 : List Jvm.Cond := [Jvm.Cond.code x code maxLocals ret, Jvm.Cond.code ({ cls := "com/example/merkki/merkki/Utf8SequencePinLaw", name := "enc", desc := "(III)I" } : Jvm.MethodName) method_5_code (4 : Nat) (Option.some Jvm.ClassFile.FieldType.int), Jvm.Cond.code ({ cls := "com/example/merkki/merkki/Utf8", name := "sequence", desc := "([BII)I" } : Jvm.MethodName) prog_38_method_5_code (5 : Nat) (Option.some Jvm.ClassFile.FieldType.int), Jvm.Cond.code ({ cls := "com/example/merkki/merkki/Utf8SequencePinLaw", name := "allowed", desc := "(I)Z" } : Jvm.MethodName) method_3_code (1 : Nat) (Option.some Jvm.ClassFile.FieldType.boolean), Jvm.Cond.code ({ cls := "com/example/merkki/merkki/Utf8SequencePinLaw", name := "len", desc := "(I)I" } : Jvm.MethodName) method_4_code (1 : Nat) (Option.some Jvm.ClassFile.FieldType.int), Jvm.Cond.code ({ cls := "com/example/merkki/merkki/Utf8SequencePinLaw", name := "matches", desc := "([BII)Z" } : Jvm.MethodName) method_6_code (5 : Nat) (Option.some Jvm.ClassFile.FieldType.boolean)]
set_option maxRecDepth 65536 in
theorem codes_eq : words1.filter isCode = codes1 := rfl
theorem w_codes : ∀ c ∈ words1.filter isCode, c.before args0 about1 = true := by
  rw [codes_eq]
  intro c hc
  simp only [codes1, List.mem_cons, List.not_mem_nil, or_false] at hc
  rcases hc with rfl | rfl | rfl | rfl | rfl | rfl
  · exact w_c0
  · exact w_c1
  · exact w_c2
  · exact w_c3
  · exact w_c4
  · exact w_c5
set_option maxRecDepth 65536 in
theorem w_t1 : (words1.take 24).all (fun c => isCode c || c.before args0 about1) = true := by decide +kernel
set_option maxRecDepth 65536 in
theorem w_t2 : (words1.drop 24).all (fun c => isCode c || c.before args0 about1) = true := by decide +kernel
theorem w_tables : (allAtoms (Jvm.Cond.code x code maxLocals ret :: tables_1)).before args0 about1 = true := by
  rw [allAtoms_all]
  show words1.all (fun c => c.before args0 about1) = true
  refine all_split ?_ w_codes
  rw [← List.take_append_drop 24 words1, List.all_append, w_t1, w_t2]
  rfl
set_option maxRecDepth 65536 in
theorem w_case : (Jvm.Cond.and given_1 narrow_1).before args0 about1 = true := by decide +kernel
theorem w_applies : (headSpec (Jvm.Cond.code x code maxLocals ret :: tables_1) room_1).applies x e0.platform about1 = true :=
  (Spec.applies_iff w_frames).mpr ⟨w_running, w_runnable, w_alone, w_named, w_hears, w_ripe, w_room, w_tables⟩
theorem atStart : AtStart classFile x code maxLocals ret World_1 tables_1 room_1 Calls_1 rest_1 Pre_1 launch0 p0 e0 about1 theMethod args0 below0 :=
  ⟨lists_1, trivial, launch0.admits_env _ _ _, launch0.least_env, fairChoices_fair.cas, fairChoices_fair.clock, w_frames, w_args, w_heap, w_applies, trivial, trivial, w_case⟩
end start1
theorem witness_1 : WitnessClaimed_1 := ⟨start1.p0, start1.e0, start1.about1, start1.theMethod, start1.args0, start1.below0, start1.atStart⟩
end Jvm.Pilot.@@N@@
