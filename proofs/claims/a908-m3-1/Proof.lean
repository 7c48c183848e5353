import JvmDerived
import JvmDerived.Pilot.@@N@@Statement
import JvmDerived.Pilot.@@N@@Code
set_option linter.unusedVariables false
set_option linter.unusedSimpArgs false
namespace Jvm.RoadKit
open Sem ClassFile Op Lib Jvm.Stand Jvm.Free Jvm.LawKit
section New
variable {p : Program} {l : Launch} {e : Env} {R : Room} {s : State} {m : MethodId} {args : Array Value} {below : List Frame} {meth : Method} {c : Code} {T : State} {locs : List Loc} {cells slots : Nat}
theorem retI (X : Stand p l e R s m args below meth c T locs cells slots) (hx : p.tables.exec = Jvm.exec) {pc : Nat} {Ls : Array Slot} {z : Int32} {rest : List Value} (hret : meth.sig.returnType = some .int) (hd : decode c.code pc = .ok (.ireturn, 1)) {fs : List Frame}
    (hl : ∀ (f : JFrame) (acts : List Action), f.method = m → f.locked = none → f.entered = [] → (doReturn e (T.setTop f) acts (some (.int z))).1 = T.setFrames fs) : Steps p.tables e below (T.setTop (mkF m pc Ls (.int z :: rest))) (T.setFrames fs) := by
  have hm' : T.vm.method? m = some meth := X.method'
  have hn : narrow .int (.int z) = .int z := rfl
  show Steps p.tables e below (T.setTop { method := m, pc := pc, locals := Ls, stack := _ :: rest, locked := none }) _
  jvm_step X.here [X.here.top, hx, hd, hm', hret, hn]
  first | (intro acts; rw [hl _ acts rfl rfl rfl]) | rw [hl _ _ rfl rfl rfl]
  exact Steps.refl _
end New
end Jvm.RoadKit
namespace Jvm.OwnKit
open Sem ClassFile Op Lib Jvm.Stand Jvm.Free Jvm.LawKit Jvm.RoadKit
def b2i (b : Bool) : Int32 := if b = true then 1 else 0
theorem b2i_eq {b : Bool} (h : ¬ b = true) : b2i b = 0 := if_neg h
theorem b2i_ne {b : Bool} (h : b = true) : ¬ b2i b = 0 := by rw [b2i, if_pos h]; decide
theorem nar_b2i (b : Bool) : nar .boolean (b2i b) = b2i b := by cases b <;> decide
theorem b2i_one {b : Bool} (h : b = true) : nar .boolean (b2i b) = 1 := by rw [h]; decide
end Jvm.OwnKit
namespace Jvm.OwnKit
open Sem ClassFile Op Lib Jvm.Stand Jvm.Free Jvm.LawKit Jvm.RoadKit
section Arrays
variable {Z : State} {h h' : Heap} {a b : Addr} {ty : FieldType} {z : Int32} {G : Int32 → Value}
def AG (Z : State) (h : Heap) (a : Addr) (ty : FieldType) (z : Int32) (G : Int32 → Value) : Prop := ∃ c : Cell, Arr Z h a c ty ∧ c.slots.size = z.toNatClampNeg ∧ ¬ z < 0 ∧ ∀ j : Int32, ¬ j < 0 → j < z → c.slots[j.toNatClampNeg]? = some (G j)
def AJ (Z : State) (h : Heap) (a : Addr) (z : Int32) (f : Int32 → Int64) : Prop := AG Z h a .long z (fun i => .long (f i))
def AI (Z : State) (h : Heap) (a : Addr) (ty : FieldType) (z : Int32) (f : Int32 → Int32) : Prop := AG Z h a ty z (fun i => .int (f i))
def upA {α : Type} (f : Int32 → α) (j : Int32) (v : α) : Int32 → α := fun i => if i = j then v else f i
theorem upA_hit {α : Type} {f : Int32 → α} {j : Int32} {v : α} : upA f j v j = v := if_pos rfl
theorem upA_miss {α : Type} {f : Int32 → α} {i j : Int32} {v : α} (q : ¬ i = j) : upA f j v i = f i := if_neg q
theorem AG.lt (F : AG Z h a ty z G) : a < h.size := by obtain ⟨c, A, -⟩ := F; exact A.lt
theorem AG.ext (F : AG Z h a ty z G) (E : Ext h h') : AG Z h' a ty z G := by obtain ⟨c, A, r⟩ := F; exact ⟨c, A.ext E, r⟩
theorem AG.other (F : AG Z h b ty z G) {sl : Nat} {v : Value} (W : Wr h h' a sl v) (q : b ≠ a) : AG Z h' b ty z G := by obtain ⟨c, A, r⟩ := F; exact ⟨c, A.other W q, r⟩
theorem AG.new {k : ClassId} (A : Arr Z h a (newA k ty z) ty) (q : ¬ z < 0) : AG Z h a ty z (fun _ => defaultValue ty) :=
  ⟨_, A, sz_new _ _ _, q, fun j h1 h2 => get_new (by have w := inb_of (sz_new k ty z) ⟨h1, h2⟩; rwa [sz_new] at w)⟩
theorem AG.set (F : AG Z h a ty z G) {j : Int32} {v : Value} (W : Wr h h' a j.toNatClampNeg v) (q : ¬ j < 0 ∧ j < z) : AG Z h' a ty z (upA G j v) := by
  obtain ⟨c, A, S, M, H⟩ := F
  refine ⟨_, A.same W, by rw [sz_set]; exact S, M, fun i h1 h2 => ?_⟩
  by_cases e : i = j
  · rw [upA, if_pos e]; exact get_hit (inb_of S q) e
  · rw [upA, if_neg e, get_miss q.1 h1 e]; exact H i h1 h2
theorem AG.keep (F : AG Z h a ty z G) {ws : List Addr} (K : Keep h h' ws) (q : a ∉ ws) : AG Z h' a ty z G := by obtain ⟨c, A, r⟩ := F; exact ⟨c, ⟨K.2.1 a c A.1 q, A.2⟩, r⟩
theorem AJ.keep {f : Int32 → Int64} (F : AJ Z h a z f) {ws : List Addr} (K : Keep h h' ws) (q : a ∉ ws) : AJ Z h' a z f := AG.keep F K q
theorem AI.keep {f : Int32 → Int32} (F : AI Z h a ty z f) {ws : List Addr} (K : Keep h h' ws) (q : a ∉ ws) : AI Z h' a ty z f := AG.keep F K q
theorem AJ.lt {f : Int32 → Int64} (F : AJ Z h a z f) : a < h.size := AG.lt F
theorem AI.lt {f : Int32 → Int32} (F : AI Z h a ty z f) : a < h.size := AG.lt F
theorem AJ.ext {f : Int32 → Int64} (F : AJ Z h a z f) (E : Ext h h') : AJ Z h' a z f := AG.ext F E
theorem AI.ext {f : Int32 → Int32} (F : AI Z h a ty z f) (E : Ext h h') : AI Z h' a ty z f := AG.ext F E
theorem AJ.other {f : Int32 → Int64} (F : AJ Z h b z f) {sl : Nat} {v : Value} (W : Wr h h' a sl v) (q : b ≠ a) : AJ Z h' b z f := AG.other F W q
theorem AI.other {f : Int32 → Int32} (F : AI Z h b ty z f) {sl : Nat} {v : Value} (W : Wr h h' a sl v) (q : b ≠ a) : AI Z h' b ty z f := AG.other F W q
theorem AJ.set {f : Int32 → Int64} (F : AJ Z h a z f) {j : Int32} {v : Int64} (W : Wr h h' a j.toNatClampNeg (.long v)) (q : ¬ j < 0 ∧ j < z) : AJ Z h' a z (upA f j v) := by
  have e : (fun i => Value.long (upA f j v i)) = upA (fun i => Value.long (f i)) j (.long v) := funext fun i => by unfold upA; split <;> rfl
  unfold AJ; rw [e]; exact AG.set F W q
theorem AI.set {f : Int32 → Int32} (F : AI Z h a ty z f) {j v : Int32} (W : Wr h h' a j.toNatClampNeg (.int v)) (q : ¬ j < 0 ∧ j < z) : AI Z h' a ty z (upA f j v) := by
  have e : (fun i => Value.int (upA f j v i)) = upA (fun i => Value.int (f i)) j (.int v) := funext fun i => by unfold upA; split <;> rfl
  unfold AI; rw [e]; exact AG.set F W q
theorem AJ.congr {f g : Int32 → Int64} (F : AJ Z h a z f) (q : ∀ j : Int32, ¬ j < 0 → j < z → f j = g j) : AJ Z h a z g := by
  obtain ⟨c, A, S, M, H⟩ := F; exact ⟨c, A, S, M, fun j h1 h2 => (H j h1 h2).trans (congrArg (fun v => some (Value.long v)) (q j h1 h2))⟩
theorem AI.congr {f g : Int32 → Int32} (F : AI Z h a ty z f) (q : ∀ j : Int32, ¬ j < 0 → j < z → f j = g j) : AI Z h a ty z g := by
  obtain ⟨c, A, S, M, H⟩ := F; exact ⟨c, A, S, M, fun j h1 h2 => (H j h1 h2).trans (congrArg (fun v => some (Value.int v)) (q j h1 h2))⟩
theorem AJ.new {k : ClassId} (A : Arr Z h a (newA k .long z) .long) (q : ¬ z < 0) : AJ Z h a z (fun _ => 0) := AG.new A q
theorem AI.new {k : ClassId} (A : Arr Z h a (newA k .int z) .int) (q : ¬ z < 0) : AI Z h a .int z (fun _ => 0) := AG.new A q
theorem AI.newB {k : ClassId} (A : Arr Z h a (newA k .byte z) .byte) (q : ¬ z < 0) : AI Z h a .byte z (fun _ => 0) := AG.new A q
theorem AI.newZ {k : ClassId} (A : Arr Z h a (newA k .boolean z) .boolean) (q : ¬ z < 0) : AI Z h a .boolean z (fun _ => 0) := AG.new A q
variable {p : Program} {l : Launch} {e : Env} {R : Room} {s : State} {m : MethodId} {args : Array Value} {below : List Frame} {meth : Method} {c : Code} {T : State} {locs : List Loc} {cells slots : Nat} {g : JFrame} {rest : List Value} {j : Int32}
theorem rdJ {f : Int32 → Int64} {y : Int64} (X : Stand p l e R s m args below meth c T locs cells slots) (hx : p.tables.exec = Jvm.exec) (hZ : Z.Warmed39 s.vm) (eT : T.heap = h) (F : AJ Z h a z f) (q : ¬ j < 0 ∧ j < z) (hv : f j = y) (hg : g.method = m) (hs : g.stack = .int j :: .ref a :: rest) (hd : decode c.code g.pc = .ok (.laload, 1)) (target : State)
    (hr : Steps p.tables e below (T.setTop { g with pc := g.pc + 1, stack := .long y :: rest }) target) : Steps p.tables e below (T.setTop g) target := by
  subst hv
  obtain ⟨cl, A, S, M, H⟩ := F
  exact X.laload hx (by rw [eT]; exact A.1) (State.isArrayOf_alike hZ.alike A.2.1) A.2.2 (inb_of S q) (H j q.1 q.2) hg hs hd target hr
theorem rdI {f : Int32 → Int32} {y : Int32} (X : Stand p l e R s m args below meth c T locs cells slots) (hx : p.tables.exec = Jvm.exec) (hZ : Z.Warmed39 s.vm) (eT : T.heap = h) (F : AI Z h a .int z f) (q : ¬ j < 0 ∧ j < z) (hv : f j = y) (hg : g.method = m) (hs : g.stack = .int j :: .ref a :: rest) (hd : decode c.code g.pc = .ok (.iaload, 1)) (target : State)
    (hr : Steps p.tables e below (T.setTop { g with pc := g.pc + 1, stack := .int y :: rest }) target) : Steps p.tables e below (T.setTop g) target := by
  subst hv
  obtain ⟨cl, A, S, M, H⟩ := F
  exact X.iaload hx (by rw [eT]; exact A.1) (State.isArrayOf_alike hZ.alike A.2.1) A.2.2 (inb_of S q) (H j q.1 q.2) hg hs hd target hr
theorem rdB {f : Int32 → Int32} {y : Int32} (X : Stand p l e R s m args below meth c T locs cells slots) (hx : p.tables.exec = Jvm.exec) (hZ : Z.Warmed39 s.vm) (eT : T.heap = h) (F : AI Z h a .byte z f) (q : ¬ j < 0 ∧ j < z) (hv : f j = y) (hg : g.method = m) (hs : g.stack = .int j :: .ref a :: rest) (hd : decode c.code g.pc = .ok (.baload, 1)) (target : State)
    (hr : Steps p.tables e below (T.setTop { g with pc := g.pc + 1, stack := .int y :: rest }) target) : Steps p.tables e below (T.setTop g) target := by
  subst hv
  obtain ⟨cl, A, S, M, H⟩ := F
  exact X.baloadBytes hx (by rw [eT]; exact A.1) (State.isArrayOf_alike hZ.alike A.2.1) A.2.2 (inb_of S q) (H j q.1 q.2) hg hs hd target hr
theorem rdZ {f : Int32 → Int32} {y : Int32} (X : Stand p l e R s m args below meth c T locs cells slots) (hx : p.tables.exec = Jvm.exec) (hZ : Z.Warmed39 s.vm) (eT : T.heap = h) (F : AI Z h a .boolean z f) (q : ¬ j < 0 ∧ j < z) (hv : f j = y) (hg : g.method = m) (hs : g.stack = .int j :: .ref a :: rest) (hd : decode c.code g.pc = .ok (.baload, 1)) (target : State)
    (hr : Steps p.tables e below (T.setTop { g with pc := g.pc + 1, stack := .int y :: rest }) target) : Steps p.tables e below (T.setTop g) target := by
  subst hv
  obtain ⟨cl, A, S, M, H⟩ := F
  exact X.baloadBooleans hx (by rw [eT]; exact A.1) (State.isArrayOf_alike hZ.alike A.2.1) A.2.2 (inb_of S q) (H j q.1 q.2) hg hs hd target hr
theorem lnG (X : Stand p l e R s m args below meth c T locs cells slots) (hx : p.tables.exec = Jvm.exec) (hZ : Z.Warmed39 s.vm) (eT : T.heap = h) (F : AG Z h a ty z G) (hg : g.method = m) (hs : g.stack = .ref a :: rest) (hd : decode c.code g.pc = .ok (.arraylength, 1)) (target : State)
    (hr : Steps p.tables e below (T.setTop { g with pc := g.pc + 1, stack := .int z :: rest }) target) : Steps p.tables e below (T.setTop g) target := by
  obtain ⟨cl, A, S, M, H⟩ := F
  refine X.arraylength hx (by rw [eT]; exact A.1) (State.isArrayOf_alike hZ.alike A.2.1) hg hs hd target ?_
  rw [len_of S M]; exact hr
theorem wrJ {f : Int32 → Int64} {x : Int64} (X : Stand p l e R s m args below meth c T locs cells slots) (hx : p.tables.exec = Jvm.exec) (hZ : Z.Warmed39 s.vm) (eT : T.heap = h) (F : AJ Z h a z f) (q : ¬ j < 0 ∧ j < z) (hg : g.method = m) (hs : g.stack = .long x :: .int j :: .ref a :: rest) (hd : decode c.code g.pc = .ok (.lastore, 1)) :
    ∃ T' h', Stand p l e R s m args below meth c T' (locs ++ [⟨a, j.toNatClampNeg⟩]) cells slots ∧ T'.heap = h' ∧ Wr h h' a j.toNatClampNeg (.long x) ∧ AJ Z h' a z (upA f j x) ∧ ∀ target, Steps p.tables e below (T'.setTop { g with pc := g.pc + 1, stack := rest }) target → Steps p.tables e below (T.setTop g) target := by
  have F' := F
  obtain ⟨cl, A, S, M, H⟩ := F
  obtain ⟨T', h', X', e', W, st⟩ := stJ X hx hZ eT A (inb_of S q) hg hs hd
  exact ⟨T', h', X', e', W, AJ.set F' W q, st⟩
theorem wrI {f : Int32 → Int32} {x : Int32} (X : Stand p l e R s m args below meth c T locs cells slots) (hx : p.tables.exec = Jvm.exec) (hZ : Z.Warmed39 s.vm) (eT : T.heap = h) (F : AI Z h a .int z f) (q : ¬ j < 0 ∧ j < z) (hg : g.method = m) (hs : g.stack = .int x :: .int j :: .ref a :: rest) (hd : decode c.code g.pc = .ok (.iastore, 1)) :
    ∃ T' h', Stand p l e R s m args below meth c T' (locs ++ [⟨a, j.toNatClampNeg⟩]) cells slots ∧ T'.heap = h' ∧ Wr h h' a j.toNatClampNeg (.int x) ∧ AI Z h' a .int z (upA f j x) ∧ ∀ target, Steps p.tables e below (T'.setTop { g with pc := g.pc + 1, stack := rest }) target → Steps p.tables e below (T.setTop g) target := by
  have F' := F
  obtain ⟨cl, A, S, M, H⟩ := F
  obtain ⟨T', h', X', e', W, st⟩ := stI X hx hZ eT A (inb_of S q) hg hs hd
  exact ⟨T', h', X', e', W, AI.set F' W q, st⟩
theorem wrB {f : Int32 → Int32} {x y : Int32} (X : Stand p l e R s m args below meth c T locs cells slots) (hx : p.tables.exec = Jvm.exec) (hZ : Z.Warmed39 s.vm) (eT : T.heap = h) (F : AI Z h a .byte z f) (q : ¬ j < 0 ∧ j < z) (hn : nar .byte x = y) (hg : g.method = m) (hs : g.stack = .int x :: .int j :: .ref a :: rest) (hd : decode c.code g.pc = .ok (.bastore, 1)) :
    ∃ T' h', Stand p l e R s m args below meth c T' (locs ++ [⟨a, j.toNatClampNeg⟩]) cells slots ∧ T'.heap = h' ∧ Wr h h' a j.toNatClampNeg (.int y) ∧ AI Z h' a .byte z (upA f j y) ∧ ∀ target, Steps p.tables e below (T'.setTop { g with pc := g.pc + 1, stack := rest }) target → Steps p.tables e below (T.setTop g) target := by
  have F' := F
  obtain ⟨cl, A, S, M, H⟩ := F
  obtain ⟨T', h', X', e', W, st⟩ := stB X hx hZ eT A (inb_of S q) hg hs hd
  rw [hn] at W
  exact ⟨T', h', X', e', W, AI.set F' W q, st⟩
theorem wrZ {f : Int32 → Int32} {x y : Int32} (X : Stand p l e R s m args below meth c T locs cells slots) (hx : p.tables.exec = Jvm.exec) (hZ : Z.Warmed39 s.vm) (eT : T.heap = h) (F : AI Z h a .boolean z f) (q : ¬ j < 0 ∧ j < z) (hn : nar .boolean x = y) (hg : g.method = m) (hs : g.stack = .int x :: .int j :: .ref a :: rest) (hd : decode c.code g.pc = .ok (.bastore, 1)) :
    ∃ T' h', Stand p l e R s m args below meth c T' (locs ++ [⟨a, j.toNatClampNeg⟩]) cells slots ∧ T'.heap = h' ∧ Wr h h' a j.toNatClampNeg (.int y) ∧ AI Z h' a .boolean z (upA f j y) ∧ ∀ target, Steps p.tables e below (T'.setTop { g with pc := g.pc + 1, stack := rest }) target → Steps p.tables e below (T.setTop g) target := by
  have F' := F
  obtain ⟨cl, A, S, M, H⟩ := F
  obtain ⟨T', h', X', e', W, st⟩ := stZ X hx hZ eT A (inb_of S q) hg hs hd
  rw [hn] at W
  exact ⟨T', h', X', e', W, AI.set F' W q, st⟩
theorem nar_byte (x : Int32) : nar .byte x.toInt8.toInt32 = x.toInt8.toInt32 := by
  show x.toInt8.toInt32.toInt8.toInt32 = x.toInt8.toInt32
  rw [Int8.toInt8_toInt32]
end Arrays
end Jvm.OwnKit
namespace Jvm.Pilot.@@N@@
open Jvm Jvm.ClassFile Sem Op Lib Jvm.Free Jvm.Stand Jvm.LawKit Jvm.RoadKit Jvm.OwnKit Bundle Jvm.Pilot.@@N@@.Jvm.D
def CS0 (Z : State) (h : Heap) (n0 : Nat) (ob : Addr) : Prop := Exa Z h ob "com/example/dealer/dealer/ChangingShares" ∧ Fld Z h ob "com/example/dealer/dealer/ChangingShares" "nodes" "[J" .null ∧ Fld Z h ob "com/example/dealer/dealer/ChangingShares" "shares" "[I" .null ∧ Fld Z h ob "com/example/dealer/dealer/ChangingShares" "firstStep" "I" (.int (0 : Int32)) ∧ Fld Z h ob "com/example/dealer/dealer/ChangingShares" "total" "J" (.long (0 : Int64)) ∧ n0 ≤ ob ∧ n0 ≤ h.size
def CS (Z : State) (h : Heap) (n0 : Nat) (ob : Addr) (an : Addr) (as : Addr) (fst : Int32) (tt : Int64) (nn : Int32) (nf : Int32 → Int64) (ns : Int32) (sf : Int32 → Int32) : Prop := Exa Z h ob "com/example/dealer/dealer/ChangingShares" ∧ Fld Z h ob "com/example/dealer/dealer/ChangingShares" "nodes" "[J" (.ref an) ∧ Fld Z h ob "com/example/dealer/dealer/ChangingShares" "shares" "[I" (.ref as) ∧ Fld Z h ob "com/example/dealer/dealer/ChangingShares" "firstStep" "I" (.int fst) ∧ Fld Z h ob "com/example/dealer/dealer/ChangingShares" "total" "J" (.long tt) ∧ AJ Z h an nn nf ∧ AI Z h as .int ns sf ∧ n0 ≤ ob ∧ n0 ≤ an ∧ n0 ≤ as ∧ ob ≠ an ∧ ob ≠ as ∧ an ≠ as ∧ n0 ≤ h.size
theorem own_p1v (p : Int32) (h0 : 0 ≤ p.toInt) (h1 : p.toInt ≤ 8) : (p + (1 : Int32)).toInt = p.toInt + 1 := by
  have a := c_iadd p 1
  have b := rng32 (p + 1)
  have l : (1 : Int32).toInt = 1 := by decide
  omega
theorem own_capn (z : Int32) (h0 : 0 ≤ z.toInt) : ¬ z < 0 := by
  rw [Int32.lt_iff_toInt_lt]
  have l : (0 : Int32).toInt = 0 := by decide
  omega
theorem own_capc (z : Int32) (n : Nat) (h0 : 0 ≤ z.toInt) (h1 : z.toInt ≤ n) : z.toNatClampNeg ≤ n := by
  have := nat_of (own_capn z h0)
  omega
theorem own_p1n (p : Int32) (h0 : 0 ≤ p.toInt) (h1 : p.toInt ≤ 8) : ¬ (p + (1 : Int32)) < 0 := own_capn _ (by rw [own_p1v p h0 h1]; omega)
theorem own_p1c (p : Int32) (h0 : 0 ≤ p.toInt) (h1 : p.toInt ≤ 8) : (p + (1 : Int32)).toNatClampNeg ≤ 9 := own_capc _ 9 (by rw [own_p1v p h0 h1]; omega) (by rw [own_p1v p h0 h1]; omega)
theorem own_pn (p : Int32) (h0 : 0 ≤ p.toInt) (h1 : p.toInt ≤ 8) : ¬ p < 0 := own_capn _ h0
theorem own_pc (p : Int32) (h0 : 0 ≤ p.toInt) (h1 : p.toInt ≤ 8) : p.toNatClampNeg ≤ 8 := own_capc _ 8 h0 (by omega)
theorem d5_0 : decode jdk_33_method_47_code 0 = .ok (.iload_n 0, 1) := by decide +kernel
theorem d5_1 : decode jdk_33_method_47_code 1 = .ok (.ifCond .gt 14, 3) := by decide +kernel
theorem d5_4 : decode jdk_33_method_47_code 4 = .ok (.iload_n 0, 1) := by decide +kernel
theorem d5_5 : decode jdk_33_method_47_code 5 = .ok (.ifCond .ne 8, 3) := by decide +kernel
theorem d5_8 : decode jdk_33_method_47_code 8 = .ok (.bipush 32, 2) := by decide +kernel
theorem d5_10 : decode jdk_33_method_47_code 10 = .ok (.goto 4, 3) := by decide +kernel
theorem d5_13 : decode jdk_33_method_47_code 13 = .ok (.iconst 0, 1) := by decide +kernel
theorem d5_14 : decode jdk_33_method_47_code 14 = .ok (.ireturn, 1) := by decide +kernel
theorem d5_15 : decode jdk_33_method_47_code 15 = .ok (.bipush 31, 2) := by decide +kernel
theorem d5_17 : decode jdk_33_method_47_code 17 = .ok (.istore_n 1, 1) := by decide +kernel
theorem d5_18 : decode jdk_33_method_47_code 18 = .ok (.iload_n 0, 1) := by decide +kernel
theorem d5_19 : decode jdk_33_method_47_code 19 = .ok (.ldc_w 264, 3) := by decide +kernel
theorem d5_22 : decode jdk_33_method_47_code 22 = .ok (.if_icmp .lt 11, 3) := by decide +kernel
theorem d5_25 : decode jdk_33_method_47_code 25 = .ok (.iinc 1 (-16), 3) := by decide +kernel
theorem d5_28 : decode jdk_33_method_47_code 28 = .ok (.iload_n 0, 1) := by decide +kernel
theorem d5_29 : decode jdk_33_method_47_code 29 = .ok (.bipush 16, 2) := by decide +kernel
theorem d5_31 : decode jdk_33_method_47_code 31 = .ok (.iushr, 1) := by decide +kernel
theorem d5_32 : decode jdk_33_method_47_code 32 = .ok (.istore_n 0, 1) := by decide +kernel
theorem d5_33 : decode jdk_33_method_47_code 33 = .ok (.iload_n 0, 1) := by decide +kernel
theorem d5_34 : decode jdk_33_method_47_code 34 = .ok (.sipush 256, 3) := by decide +kernel
theorem d5_37 : decode jdk_33_method_47_code 37 = .ok (.if_icmp .lt 11, 3) := by decide +kernel
theorem d5_40 : decode jdk_33_method_47_code 40 = .ok (.iinc 1 (-8), 3) := by decide +kernel
theorem d5_43 : decode jdk_33_method_47_code 43 = .ok (.iload_n 0, 1) := by decide +kernel
theorem d5_44 : decode jdk_33_method_47_code 44 = .ok (.bipush 8, 2) := by decide +kernel
theorem d5_46 : decode jdk_33_method_47_code 46 = .ok (.iushr, 1) := by decide +kernel
theorem d5_47 : decode jdk_33_method_47_code 47 = .ok (.istore_n 0, 1) := by decide +kernel
theorem d5_48 : decode jdk_33_method_47_code 48 = .ok (.iload_n 0, 1) := by decide +kernel
theorem d5_49 : decode jdk_33_method_47_code 49 = .ok (.bipush 16, 2) := by decide +kernel
theorem d5_51 : decode jdk_33_method_47_code 51 = .ok (.if_icmp .lt 10, 3) := by decide +kernel
theorem d5_54 : decode jdk_33_method_47_code 54 = .ok (.iinc 1 (-4), 3) := by decide +kernel
theorem d5_57 : decode jdk_33_method_47_code 57 = .ok (.iload_n 0, 1) := by decide +kernel
theorem d5_58 : decode jdk_33_method_47_code 58 = .ok (.iconst 4, 1) := by decide +kernel
theorem d5_59 : decode jdk_33_method_47_code 59 = .ok (.iushr, 1) := by decide +kernel
theorem d5_60 : decode jdk_33_method_47_code 60 = .ok (.istore_n 0, 1) := by decide +kernel
theorem d5_61 : decode jdk_33_method_47_code 61 = .ok (.iload_n 0, 1) := by decide +kernel
theorem d5_62 : decode jdk_33_method_47_code 62 = .ok (.iconst 4, 1) := by decide +kernel
theorem d5_63 : decode jdk_33_method_47_code 63 = .ok (.if_icmp .lt 10, 3) := by decide +kernel
theorem d5_66 : decode jdk_33_method_47_code 66 = .ok (.iinc 1 (-2), 3) := by decide +kernel
theorem d5_69 : decode jdk_33_method_47_code 69 = .ok (.iload_n 0, 1) := by decide +kernel
theorem d5_70 : decode jdk_33_method_47_code 70 = .ok (.iconst 2, 1) := by decide +kernel
theorem d5_71 : decode jdk_33_method_47_code 71 = .ok (.iushr, 1) := by decide +kernel
theorem d5_72 : decode jdk_33_method_47_code 72 = .ok (.istore_n 0, 1) := by decide +kernel
theorem d5_73 : decode jdk_33_method_47_code 73 = .ok (.iload_n 1, 1) := by decide +kernel
theorem d5_74 : decode jdk_33_method_47_code 74 = .ok (.iload_n 0, 1) := by decide +kernel
theorem d5_75 : decode jdk_33_method_47_code 75 = .ok (.iconst 1, 1) := by decide +kernel
theorem d5_76 : decode jdk_33_method_47_code 76 = .ok (.iushr, 1) := by decide +kernel
theorem d5_77 : decode jdk_33_method_47_code 77 = .ok (.isub, 1) := by decide +kernel
theorem d5_78 : decode jdk_33_method_47_code 78 = .ok (.ireturn, 1) := by decide +kernel
theorem pn_5 : plainName "java/lang/Integer" = true := by first | (simp [plainName, overriddenIn]; done) | decide +kernel
theorem ef_5 (m : MethodId) (x0 : Int32) : entryFrame m #[(.int x0)] 2 = mkF m 0 #[.val (.int x0), .unset] [] := by first | (simp [entryFrame, mkF, argsToLocals, Value.category]; done) | rfl
def Fnlz (xi : Int32) : Int32 := (if (0 : Int32) < xi then (if xi < (65536 : Int32) then (if xi < (256 : Int32) then (if xi < (16 : Int32) then (if xi < (4 : Int32) then ((31 : Int32) - ((xi.toUInt32 >>> ((1 : Int32) &&& 31).toUInt32).toInt32)) else ((29 : Int32) - ((((xi.toUInt32 >>> ((2 : Int32) &&& 31).toUInt32).toInt32).toUInt32 >>> ((1 : Int32) &&& 31).toUInt32).toInt32))) else (if ((xi.toUInt32 >>> ((4 : Int32) &&& 31).toUInt32).toInt32) < (4 : Int32) then ((27 : Int32) - ((((xi.toUInt32 >>> ((4 : Int32) &&& 31).toUInt32).toInt32).toUInt32 >>> ((1 : Int32) &&& 31).toUInt32).toInt32)) else ((25 : Int32) - ((((((xi.toUInt32 >>> ((4 : Int32) &&& 31).toUInt32).toInt32).toUInt32 >>> ((2 : Int32) &&& 31).toUInt32).toInt32).toUInt32 >>> ((1 : Int32) &&& 31).toUInt32).toInt32)))) else (if ((xi.toUInt32 >>> ((8 : Int32) &&& 31).toUInt32).toInt32) < (16 : Int32) then (if ((xi.toUInt32 >>> ((8 : Int32) &&& 31).toUInt32).toInt32) < (4 : Int32) then ((23 : Int32) - ((((xi.toUInt32 >>> ((8 : Int32) &&& 31).toUInt32).toInt32).toUInt32 >>> ((1 : Int32) &&& 31).toUInt32).toInt32)) else ((21 : Int32) - ((((((xi.toUInt32 >>> ((8 : Int32) &&& 31).toUInt32).toInt32).toUInt32 >>> ((2 : Int32) &&& 31).toUInt32).toInt32).toUInt32 >>> ((1 : Int32) &&& 31).toUInt32).toInt32))) else (if ((((xi.toUInt32 >>> ((8 : Int32) &&& 31).toUInt32).toInt32).toUInt32 >>> ((4 : Int32) &&& 31).toUInt32).toInt32) < (4 : Int32) then ((19 : Int32) - ((((((xi.toUInt32 >>> ((8 : Int32) &&& 31).toUInt32).toInt32).toUInt32 >>> ((4 : Int32) &&& 31).toUInt32).toInt32).toUInt32 >>> ((1 : Int32) &&& 31).toUInt32).toInt32)) else ((17 : Int32) - ((((((((xi.toUInt32 >>> ((8 : Int32) &&& 31).toUInt32).toInt32).toUInt32 >>> ((4 : Int32) &&& 31).toUInt32).toInt32).toUInt32 >>> ((2 : Int32) &&& 31).toUInt32).toInt32).toUInt32 >>> ((1 : Int32) &&& 31).toUInt32).toInt32))))) else (if ((xi.toUInt32 >>> ((16 : Int32) &&& 31).toUInt32).toInt32) < (256 : Int32) then (if ((xi.toUInt32 >>> ((16 : Int32) &&& 31).toUInt32).toInt32) < (16 : Int32) then (if ((xi.toUInt32 >>> ((16 : Int32) &&& 31).toUInt32).toInt32) < (4 : Int32) then ((15 : Int32) - ((((xi.toUInt32 >>> ((16 : Int32) &&& 31).toUInt32).toInt32).toUInt32 >>> ((1 : Int32) &&& 31).toUInt32).toInt32)) else ((13 : Int32) - ((((((xi.toUInt32 >>> ((16 : Int32) &&& 31).toUInt32).toInt32).toUInt32 >>> ((2 : Int32) &&& 31).toUInt32).toInt32).toUInt32 >>> ((1 : Int32) &&& 31).toUInt32).toInt32))) else (if ((((xi.toUInt32 >>> ((16 : Int32) &&& 31).toUInt32).toInt32).toUInt32 >>> ((4 : Int32) &&& 31).toUInt32).toInt32) < (4 : Int32) then ((11 : Int32) - ((((((xi.toUInt32 >>> ((16 : Int32) &&& 31).toUInt32).toInt32).toUInt32 >>> ((4 : Int32) &&& 31).toUInt32).toInt32).toUInt32 >>> ((1 : Int32) &&& 31).toUInt32).toInt32)) else ((9 : Int32) - ((((((((xi.toUInt32 >>> ((16 : Int32) &&& 31).toUInt32).toInt32).toUInt32 >>> ((4 : Int32) &&& 31).toUInt32).toInt32).toUInt32 >>> ((2 : Int32) &&& 31).toUInt32).toInt32).toUInt32 >>> ((1 : Int32) &&& 31).toUInt32).toInt32)))) else (if ((((xi.toUInt32 >>> ((16 : Int32) &&& 31).toUInt32).toInt32).toUInt32 >>> ((8 : Int32) &&& 31).toUInt32).toInt32) < (16 : Int32) then (if ((((xi.toUInt32 >>> ((16 : Int32) &&& 31).toUInt32).toInt32).toUInt32 >>> ((8 : Int32) &&& 31).toUInt32).toInt32) < (4 : Int32) then ((7 : Int32) - ((((((xi.toUInt32 >>> ((16 : Int32) &&& 31).toUInt32).toInt32).toUInt32 >>> ((8 : Int32) &&& 31).toUInt32).toInt32).toUInt32 >>> ((1 : Int32) &&& 31).toUInt32).toInt32)) else ((5 : Int32) - ((((((((xi.toUInt32 >>> ((16 : Int32) &&& 31).toUInt32).toInt32).toUInt32 >>> ((8 : Int32) &&& 31).toUInt32).toInt32).toUInt32 >>> ((2 : Int32) &&& 31).toUInt32).toInt32).toUInt32 >>> ((1 : Int32) &&& 31).toUInt32).toInt32))) else (if ((((((xi.toUInt32 >>> ((16 : Int32) &&& 31).toUInt32).toInt32).toUInt32 >>> ((8 : Int32) &&& 31).toUInt32).toInt32).toUInt32 >>> ((4 : Int32) &&& 31).toUInt32).toInt32) < (4 : Int32) then ((3 : Int32) - ((((((((xi.toUInt32 >>> ((16 : Int32) &&& 31).toUInt32).toInt32).toUInt32 >>> ((8 : Int32) &&& 31).toUInt32).toInt32).toUInt32 >>> ((4 : Int32) &&& 31).toUInt32).toInt32).toUInt32 >>> ((1 : Int32) &&& 31).toUInt32).toInt32)) else ((1 : Int32) - ((((((((((xi.toUInt32 >>> ((16 : Int32) &&& 31).toUInt32).toInt32).toUInt32 >>> ((8 : Int32) &&& 31).toUInt32).toInt32).toUInt32 >>> ((4 : Int32) &&& 31).toUInt32).toInt32).toUInt32 >>> ((2 : Int32) &&& 31).toUInt32).toInt32).toUInt32 >>> ((1 : Int32) &&& 31).toUInt32).toInt32)))))) else (if xi = (0 : Int32) then (32 : Int32) else (0 : Int32)))
def Q5 (Z : State) (xi : Int32) (h0 : Heap) (n0 : Nat) (v : Option Value) (h : Heap) (L : List Loc) : Prop := v = some (.int (Fnlz xi)) ∧ Fr n0 L ∧ h = h0
set_option maxRecDepth 65536 in
set_option maxHeartbeats 40000000 in
theorem rm5 (l : Launch) (Z : State) (a0 : Array Value) (hw : ∀ d ∈ tables_1, d.before a0 Z = true) (ws : List Jvm.Cond) (xi : Int32) (h0 : Heap) (n0 : Nat) (Z0 : n0 ≤ h0.size) :
    MetFree l (⟨"java/lang/Integer", "numberOfLeadingZeros", "(I)I"⟩ : MethodName) (head1 (Jvm.Cond.code (⟨"java/lang/Integer", "numberOfLeadingZeros", "(I)I"⟩ : MethodName) jdk_33_method_47_code 2 (some .int) :: ws) ({ frames := 0, cells := 0, slots := 0, locals := 0 } : Room)) (fun a U => a = #[(.int xi)] ∧ Z.Warmed39 U.vm ∧ U.heap = h0) (fun _ _ _ _ _ => True) (fun _ U o U' => ∃ v L, o = .returned v ∧ Q5 Z xi h0 n0 v U'.heap L ∧ FrameEnd U o U' L ({ frames := 0, cells := 0, slots := 0, locals := 0 } : Room).cells ({ frames := 0, cells := 0, slots := 0, locals := 0 } : Room).slots) := by
  refine MetFree.of_bodySF (plainFor_of_name pn_5) hisR ?_
  intro p e s m args below meth c s₁ Bd hml0 hP hK
  obtain ⟨rfl, hZ, hh⟩ := hP
  have hx := Bd.exec
  have hby := Bd.bytes
  have hml : c.maxLocals = 2 := hml0
  have hown : s.vm.findClass "java/lang/Integer" = some m.cls := findClass_of_methodNamed Bd.named
  have hnm := (name_of_methodNamed Bd.named Bd.method).1
  have X0 : Stand p l e ({ frames := 0, cells := 0, slots := 0, locals := 0 } : Room) s m #[(.int xi)] below meth c s₁ [] 0 0 := Stand.of_body Bd
  have e0 : s₁.heap = h0 := by rw [← hh, Bd.state]; rfl
  have N0 := Fr.nil n0
  have pre0 : ∀ t, Steps p.tables e below (s₁.setTop (mkF m 0 #[.val (.int xi), .unset] [])) t → Steps p.tables e below (s₁.setTop (entryFrame m #[(.int xi)] 2)) t := fun t k => castTop (ef_5 m xi) k
  have pre1 : ∀ t, Steps p.tables e below (s₁.setTop (mkF m 1 #[.val (.int xi), .unset] [(.int xi)])) t → Steps p.tables e below (s₁.setTop (entryFrame m #[(.int xi)] 2)) t := by
    intro t k
    refine pre0 t ?_
    show Steps p.tables e below (s₁.setTop (mkF m 0 #[.val (.int xi), .unset] [])) _
    refine XS.iloadN X0.here hx rfl (hb hby d5_0) rfl ?_
    exact k
  obtain ⟨fs, hr, hrun, hended, hW, hsame⟩ := X0.leave (v := some (.int (Fnlz xi))) (fun h => by rw [Bd.returns] at h; cases h) (BodyLoose.notSynchronized Bd)
  refine ⟨_, _, pre1 _ ?_, hrun, hended, _, _, rfl, ?_, ⟨_, rfl⟩, hW, hsame.mono (by decide) (by decide)⟩
  · have k : ∀ (v1 : Int32), v1 = (if (0 : Int32) < xi then (if xi < (65536 : Int32) then (if xi < (256 : Int32) then (if xi < (16 : Int32) then (if xi < (4 : Int32) then ((31 : Int32) - ((xi.toUInt32 >>> ((1 : Int32) &&& 31).toUInt32).toInt32)) else ((29 : Int32) - ((((xi.toUInt32 >>> ((2 : Int32) &&& 31).toUInt32).toInt32).toUInt32 >>> ((1 : Int32) &&& 31).toUInt32).toInt32))) else (if ((xi.toUInt32 >>> ((4 : Int32) &&& 31).toUInt32).toInt32) < (4 : Int32) then ((27 : Int32) - ((((xi.toUInt32 >>> ((4 : Int32) &&& 31).toUInt32).toInt32).toUInt32 >>> ((1 : Int32) &&& 31).toUInt32).toInt32)) else ((25 : Int32) - ((((((xi.toUInt32 >>> ((4 : Int32) &&& 31).toUInt32).toInt32).toUInt32 >>> ((2 : Int32) &&& 31).toUInt32).toInt32).toUInt32 >>> ((1 : Int32) &&& 31).toUInt32).toInt32)))) else (if ((xi.toUInt32 >>> ((8 : Int32) &&& 31).toUInt32).toInt32) < (16 : Int32) then (if ((xi.toUInt32 >>> ((8 : Int32) &&& 31).toUInt32).toInt32) < (4 : Int32) then ((23 : Int32) - ((((xi.toUInt32 >>> ((8 : Int32) &&& 31).toUInt32).toInt32).toUInt32 >>> ((1 : Int32) &&& 31).toUInt32).toInt32)) else ((21 : Int32) - ((((((xi.toUInt32 >>> ((8 : Int32) &&& 31).toUInt32).toInt32).toUInt32 >>> ((2 : Int32) &&& 31).toUInt32).toInt32).toUInt32 >>> ((1 : Int32) &&& 31).toUInt32).toInt32))) else (if ((((xi.toUInt32 >>> ((8 : Int32) &&& 31).toUInt32).toInt32).toUInt32 >>> ((4 : Int32) &&& 31).toUInt32).toInt32) < (4 : Int32) then ((19 : Int32) - ((((((xi.toUInt32 >>> ((8 : Int32) &&& 31).toUInt32).toInt32).toUInt32 >>> ((4 : Int32) &&& 31).toUInt32).toInt32).toUInt32 >>> ((1 : Int32) &&& 31).toUInt32).toInt32)) else ((17 : Int32) - ((((((((xi.toUInt32 >>> ((8 : Int32) &&& 31).toUInt32).toInt32).toUInt32 >>> ((4 : Int32) &&& 31).toUInt32).toInt32).toUInt32 >>> ((2 : Int32) &&& 31).toUInt32).toInt32).toUInt32 >>> ((1 : Int32) &&& 31).toUInt32).toInt32))))) else (if ((xi.toUInt32 >>> ((16 : Int32) &&& 31).toUInt32).toInt32) < (256 : Int32) then (if ((xi.toUInt32 >>> ((16 : Int32) &&& 31).toUInt32).toInt32) < (16 : Int32) then (if ((xi.toUInt32 >>> ((16 : Int32) &&& 31).toUInt32).toInt32) < (4 : Int32) then ((15 : Int32) - ((((xi.toUInt32 >>> ((16 : Int32) &&& 31).toUInt32).toInt32).toUInt32 >>> ((1 : Int32) &&& 31).toUInt32).toInt32)) else ((13 : Int32) - ((((((xi.toUInt32 >>> ((16 : Int32) &&& 31).toUInt32).toInt32).toUInt32 >>> ((2 : Int32) &&& 31).toUInt32).toInt32).toUInt32 >>> ((1 : Int32) &&& 31).toUInt32).toInt32))) else (if ((((xi.toUInt32 >>> ((16 : Int32) &&& 31).toUInt32).toInt32).toUInt32 >>> ((4 : Int32) &&& 31).toUInt32).toInt32) < (4 : Int32) then ((11 : Int32) - ((((((xi.toUInt32 >>> ((16 : Int32) &&& 31).toUInt32).toInt32).toUInt32 >>> ((4 : Int32) &&& 31).toUInt32).toInt32).toUInt32 >>> ((1 : Int32) &&& 31).toUInt32).toInt32)) else ((9 : Int32) - ((((((((xi.toUInt32 >>> ((16 : Int32) &&& 31).toUInt32).toInt32).toUInt32 >>> ((4 : Int32) &&& 31).toUInt32).toInt32).toUInt32 >>> ((2 : Int32) &&& 31).toUInt32).toInt32).toUInt32 >>> ((1 : Int32) &&& 31).toUInt32).toInt32)))) else (if ((((xi.toUInt32 >>> ((16 : Int32) &&& 31).toUInt32).toInt32).toUInt32 >>> ((8 : Int32) &&& 31).toUInt32).toInt32) < (16 : Int32) then (if ((((xi.toUInt32 >>> ((16 : Int32) &&& 31).toUInt32).toInt32).toUInt32 >>> ((8 : Int32) &&& 31).toUInt32).toInt32) < (4 : Int32) then ((7 : Int32) - ((((((xi.toUInt32 >>> ((16 : Int32) &&& 31).toUInt32).toInt32).toUInt32 >>> ((8 : Int32) &&& 31).toUInt32).toInt32).toUInt32 >>> ((1 : Int32) &&& 31).toUInt32).toInt32)) else ((5 : Int32) - ((((((((xi.toUInt32 >>> ((16 : Int32) &&& 31).toUInt32).toInt32).toUInt32 >>> ((8 : Int32) &&& 31).toUInt32).toInt32).toUInt32 >>> ((2 : Int32) &&& 31).toUInt32).toInt32).toUInt32 >>> ((1 : Int32) &&& 31).toUInt32).toInt32))) else (if ((((((xi.toUInt32 >>> ((16 : Int32) &&& 31).toUInt32).toInt32).toUInt32 >>> ((8 : Int32) &&& 31).toUInt32).toInt32).toUInt32 >>> ((4 : Int32) &&& 31).toUInt32).toInt32) < (4 : Int32) then ((3 : Int32) - ((((((((xi.toUInt32 >>> ((16 : Int32) &&& 31).toUInt32).toInt32).toUInt32 >>> ((8 : Int32) &&& 31).toUInt32).toInt32).toUInt32 >>> ((4 : Int32) &&& 31).toUInt32).toInt32).toUInt32 >>> ((1 : Int32) &&& 31).toUInt32).toInt32)) else ((1 : Int32) - ((((((((((xi.toUInt32 >>> ((16 : Int32) &&& 31).toUInt32).toInt32).toUInt32 >>> ((8 : Int32) &&& 31).toUInt32).toInt32).toUInt32 >>> ((4 : Int32) &&& 31).toUInt32).toInt32).toUInt32 >>> ((2 : Int32) &&& 31).toUInt32).toInt32).toUInt32 >>> ((1 : Int32) &&& 31).toUInt32).toInt32)))))) else (if xi = (0 : Int32) then (32 : Int32) else (0 : Int32))) → ∀ (f : JFrame) (acts : List Action), f.method = m → f.locked = none → f.entered = [] → (doReturn e (s₁.setTop f) acts (some (.int v1))).1 = s₁.setFrames fs := fun v1 hv1 => by subst hv1; exact hr
    show Steps p.tables e below (s₁.setTop (mkF m 1 #[.val (.int xi), .unset] [(.int xi)])) _
    by_cases hc2 : (0 : Int32) < xi
    · refine XS.ifYes X0.here hx rfl (pc0 := 1) (pc' := 15) rfl (hb hby d5_1) rfl ((if0 _ _).trans (tlt hc2).2.2.1) (by decide) (by decide) ?_
      have k : ∀ (v1 : Int32), v1 = (if xi < (65536 : Int32) then (if xi < (256 : Int32) then (if xi < (16 : Int32) then (if xi < (4 : Int32) then ((31 : Int32) - ((xi.toUInt32 >>> ((1 : Int32) &&& 31).toUInt32).toInt32)) else ((29 : Int32) - ((((xi.toUInt32 >>> ((2 : Int32) &&& 31).toUInt32).toInt32).toUInt32 >>> ((1 : Int32) &&& 31).toUInt32).toInt32))) else (if ((xi.toUInt32 >>> ((4 : Int32) &&& 31).toUInt32).toInt32) < (4 : Int32) then ((27 : Int32) - ((((xi.toUInt32 >>> ((4 : Int32) &&& 31).toUInt32).toInt32).toUInt32 >>> ((1 : Int32) &&& 31).toUInt32).toInt32)) else ((25 : Int32) - ((((((xi.toUInt32 >>> ((4 : Int32) &&& 31).toUInt32).toInt32).toUInt32 >>> ((2 : Int32) &&& 31).toUInt32).toInt32).toUInt32 >>> ((1 : Int32) &&& 31).toUInt32).toInt32)))) else (if ((xi.toUInt32 >>> ((8 : Int32) &&& 31).toUInt32).toInt32) < (16 : Int32) then (if ((xi.toUInt32 >>> ((8 : Int32) &&& 31).toUInt32).toInt32) < (4 : Int32) then ((23 : Int32) - ((((xi.toUInt32 >>> ((8 : Int32) &&& 31).toUInt32).toInt32).toUInt32 >>> ((1 : Int32) &&& 31).toUInt32).toInt32)) else ((21 : Int32) - ((((((xi.toUInt32 >>> ((8 : Int32) &&& 31).toUInt32).toInt32).toUInt32 >>> ((2 : Int32) &&& 31).toUInt32).toInt32).toUInt32 >>> ((1 : Int32) &&& 31).toUInt32).toInt32))) else (if ((((xi.toUInt32 >>> ((8 : Int32) &&& 31).toUInt32).toInt32).toUInt32 >>> ((4 : Int32) &&& 31).toUInt32).toInt32) < (4 : Int32) then ((19 : Int32) - ((((((xi.toUInt32 >>> ((8 : Int32) &&& 31).toUInt32).toInt32).toUInt32 >>> ((4 : Int32) &&& 31).toUInt32).toInt32).toUInt32 >>> ((1 : Int32) &&& 31).toUInt32).toInt32)) else ((17 : Int32) - ((((((((xi.toUInt32 >>> ((8 : Int32) &&& 31).toUInt32).toInt32).toUInt32 >>> ((4 : Int32) &&& 31).toUInt32).toInt32).toUInt32 >>> ((2 : Int32) &&& 31).toUInt32).toInt32).toUInt32 >>> ((1 : Int32) &&& 31).toUInt32).toInt32))))) else (if ((xi.toUInt32 >>> ((16 : Int32) &&& 31).toUInt32).toInt32) < (256 : Int32) then (if ((xi.toUInt32 >>> ((16 : Int32) &&& 31).toUInt32).toInt32) < (16 : Int32) then (if ((xi.toUInt32 >>> ((16 : Int32) &&& 31).toUInt32).toInt32) < (4 : Int32) then ((15 : Int32) - ((((xi.toUInt32 >>> ((16 : Int32) &&& 31).toUInt32).toInt32).toUInt32 >>> ((1 : Int32) &&& 31).toUInt32).toInt32)) else ((13 : Int32) - ((((((xi.toUInt32 >>> ((16 : Int32) &&& 31).toUInt32).toInt32).toUInt32 >>> ((2 : Int32) &&& 31).toUInt32).toInt32).toUInt32 >>> ((1 : Int32) &&& 31).toUInt32).toInt32))) else (if ((((xi.toUInt32 >>> ((16 : Int32) &&& 31).toUInt32).toInt32).toUInt32 >>> ((4 : Int32) &&& 31).toUInt32).toInt32) < (4 : Int32) then ((11 : Int32) - ((((((xi.toUInt32 >>> ((16 : Int32) &&& 31).toUInt32).toInt32).toUInt32 >>> ((4 : Int32) &&& 31).toUInt32).toInt32).toUInt32 >>> ((1 : Int32) &&& 31).toUInt32).toInt32)) else ((9 : Int32) - ((((((((xi.toUInt32 >>> ((16 : Int32) &&& 31).toUInt32).toInt32).toUInt32 >>> ((4 : Int32) &&& 31).toUInt32).toInt32).toUInt32 >>> ((2 : Int32) &&& 31).toUInt32).toInt32).toUInt32 >>> ((1 : Int32) &&& 31).toUInt32).toInt32)))) else (if ((((xi.toUInt32 >>> ((16 : Int32) &&& 31).toUInt32).toInt32).toUInt32 >>> ((8 : Int32) &&& 31).toUInt32).toInt32) < (16 : Int32) then (if ((((xi.toUInt32 >>> ((16 : Int32) &&& 31).toUInt32).toInt32).toUInt32 >>> ((8 : Int32) &&& 31).toUInt32).toInt32) < (4 : Int32) then ((7 : Int32) - ((((((xi.toUInt32 >>> ((16 : Int32) &&& 31).toUInt32).toInt32).toUInt32 >>> ((8 : Int32) &&& 31).toUInt32).toInt32).toUInt32 >>> ((1 : Int32) &&& 31).toUInt32).toInt32)) else ((5 : Int32) - ((((((((xi.toUInt32 >>> ((16 : Int32) &&& 31).toUInt32).toInt32).toUInt32 >>> ((8 : Int32) &&& 31).toUInt32).toInt32).toUInt32 >>> ((2 : Int32) &&& 31).toUInt32).toInt32).toUInt32 >>> ((1 : Int32) &&& 31).toUInt32).toInt32))) else (if ((((((xi.toUInt32 >>> ((16 : Int32) &&& 31).toUInt32).toInt32).toUInt32 >>> ((8 : Int32) &&& 31).toUInt32).toInt32).toUInt32 >>> ((4 : Int32) &&& 31).toUInt32).toInt32) < (4 : Int32) then ((3 : Int32) - ((((((((xi.toUInt32 >>> ((16 : Int32) &&& 31).toUInt32).toInt32).toUInt32 >>> ((8 : Int32) &&& 31).toUInt32).toInt32).toUInt32 >>> ((4 : Int32) &&& 31).toUInt32).toInt32).toUInt32 >>> ((1 : Int32) &&& 31).toUInt32).toInt32)) else ((1 : Int32) - ((((((((((xi.toUInt32 >>> ((16 : Int32) &&& 31).toUInt32).toInt32).toUInt32 >>> ((8 : Int32) &&& 31).toUInt32).toInt32).toUInt32 >>> ((4 : Int32) &&& 31).toUInt32).toInt32).toUInt32 >>> ((2 : Int32) &&& 31).toUInt32).toInt32).toUInt32 >>> ((1 : Int32) &&& 31).toUInt32).toInt32)))))) → ∀ (f : JFrame) (acts : List Action), f.method = m → f.locked = none → f.entered = [] → (doReturn e (s₁.setTop f) acts (some (.int v1))).1 = s₁.setFrames fs := fun v1 hv1 => k v1 (hv1.trans (if_pos hc2).symm)
      show Steps p.tables e below (s₁.setTop (mkF m 15 #[.val (.int xi), .unset] [])) _
      refine XS.bipush X0.here hx rfl (hb hby d5_15) ?_
      show Steps p.tables e below (s₁.setTop (mkF m 17 #[.val (.int xi), .unset] [(.int (31 : Int32))])) _
      refine XS.istoreN X0.here hx rfl (hb hby d5_17) rfl (l' := #[.val (.int xi), .val (.int (31 : Int32))]) rfl ?_
      show Steps p.tables e below (s₁.setTop (mkF m 18 #[.val (.int xi), .val (.int (31 : Int32))] [])) _
      refine XS.iloadN X0.here hx rfl (hb hby d5_18) rfl ?_
      show Steps p.tables e below (s₁.setTop (mkF m 19 #[.val (.int xi), .val (.int (31 : Int32))] [(.int xi)])) _
      refine X0.ldcwInt hx hown (mvT hZ (hw _ (List.mem_of_getElem? (i := 28) rfl))) (g := (mkF m 19 #[.val (.int xi), .val (.int (31 : Int32))] [(.int xi)])) rfl (hb hby d5_19) _ ?_
      show Steps p.tables e below (s₁.setTop (mkF m 22 #[.val (.int xi), .val (.int (31 : Int32))] [(.int (65536 : Int32)), (.int xi)])) _
      by_cases hc3 : xi < (65536 : Int32)
      · refine XS.icmpYes X0.here hx rfl (pc0 := 22) (pc' := 33) rfl (hb hby d5_22) rfl (tlt hc3).1 (by decide) (by decide) ?_
        have k : ∀ (v1 : Int32), v1 = (if xi < (256 : Int32) then (if xi < (16 : Int32) then (if xi < (4 : Int32) then ((31 : Int32) - ((xi.toUInt32 >>> ((1 : Int32) &&& 31).toUInt32).toInt32)) else ((29 : Int32) - ((((xi.toUInt32 >>> ((2 : Int32) &&& 31).toUInt32).toInt32).toUInt32 >>> ((1 : Int32) &&& 31).toUInt32).toInt32))) else (if ((xi.toUInt32 >>> ((4 : Int32) &&& 31).toUInt32).toInt32) < (4 : Int32) then ((27 : Int32) - ((((xi.toUInt32 >>> ((4 : Int32) &&& 31).toUInt32).toInt32).toUInt32 >>> ((1 : Int32) &&& 31).toUInt32).toInt32)) else ((25 : Int32) - ((((((xi.toUInt32 >>> ((4 : Int32) &&& 31).toUInt32).toInt32).toUInt32 >>> ((2 : Int32) &&& 31).toUInt32).toInt32).toUInt32 >>> ((1 : Int32) &&& 31).toUInt32).toInt32)))) else (if ((xi.toUInt32 >>> ((8 : Int32) &&& 31).toUInt32).toInt32) < (16 : Int32) then (if ((xi.toUInt32 >>> ((8 : Int32) &&& 31).toUInt32).toInt32) < (4 : Int32) then ((23 : Int32) - ((((xi.toUInt32 >>> ((8 : Int32) &&& 31).toUInt32).toInt32).toUInt32 >>> ((1 : Int32) &&& 31).toUInt32).toInt32)) else ((21 : Int32) - ((((((xi.toUInt32 >>> ((8 : Int32) &&& 31).toUInt32).toInt32).toUInt32 >>> ((2 : Int32) &&& 31).toUInt32).toInt32).toUInt32 >>> ((1 : Int32) &&& 31).toUInt32).toInt32))) else (if ((((xi.toUInt32 >>> ((8 : Int32) &&& 31).toUInt32).toInt32).toUInt32 >>> ((4 : Int32) &&& 31).toUInt32).toInt32) < (4 : Int32) then ((19 : Int32) - ((((((xi.toUInt32 >>> ((8 : Int32) &&& 31).toUInt32).toInt32).toUInt32 >>> ((4 : Int32) &&& 31).toUInt32).toInt32).toUInt32 >>> ((1 : Int32) &&& 31).toUInt32).toInt32)) else ((17 : Int32) - ((((((((xi.toUInt32 >>> ((8 : Int32) &&& 31).toUInt32).toInt32).toUInt32 >>> ((4 : Int32) &&& 31).toUInt32).toInt32).toUInt32 >>> ((2 : Int32) &&& 31).toUInt32).toInt32).toUInt32 >>> ((1 : Int32) &&& 31).toUInt32).toInt32))))) → ∀ (f : JFrame) (acts : List Action), f.method = m → f.locked = none → f.entered = [] → (doReturn e (s₁.setTop f) acts (some (.int v1))).1 = s₁.setFrames fs := fun v1 hv1 => k v1 (hv1.trans (if_pos hc3).symm)
        show Steps p.tables e below (s₁.setTop (mkF m 33 #[.val (.int xi), .val (.int (31 : Int32))] [])) _
        refine XS.iloadN X0.here hx rfl (hb hby d5_33) rfl ?_
        show Steps p.tables e below (s₁.setTop (mkF m 34 #[.val (.int xi), .val (.int (31 : Int32))] [(.int xi)])) _
        refine XS.sipush X0.here hx rfl (hb hby d5_34) ?_
        show Steps p.tables e below (s₁.setTop (mkF m 37 #[.val (.int xi), .val (.int (31 : Int32))] [(.int (256 : Int32)), (.int xi)])) _
        by_cases hc4 : xi < (256 : Int32)
        · refine XS.icmpYes X0.here hx rfl (pc0 := 37) (pc' := 48) rfl (hb hby d5_37) rfl (tlt hc4).1 (by decide) (by decide) ?_
          have k : ∀ (v1 : Int32), v1 = (if xi < (16 : Int32) then (if xi < (4 : Int32) then ((31 : Int32) - ((xi.toUInt32 >>> ((1 : Int32) &&& 31).toUInt32).toInt32)) else ((29 : Int32) - ((((xi.toUInt32 >>> ((2 : Int32) &&& 31).toUInt32).toInt32).toUInt32 >>> ((1 : Int32) &&& 31).toUInt32).toInt32))) else (if ((xi.toUInt32 >>> ((4 : Int32) &&& 31).toUInt32).toInt32) < (4 : Int32) then ((27 : Int32) - ((((xi.toUInt32 >>> ((4 : Int32) &&& 31).toUInt32).toInt32).toUInt32 >>> ((1 : Int32) &&& 31).toUInt32).toInt32)) else ((25 : Int32) - ((((((xi.toUInt32 >>> ((4 : Int32) &&& 31).toUInt32).toInt32).toUInt32 >>> ((2 : Int32) &&& 31).toUInt32).toInt32).toUInt32 >>> ((1 : Int32) &&& 31).toUInt32).toInt32)))) → ∀ (f : JFrame) (acts : List Action), f.method = m → f.locked = none → f.entered = [] → (doReturn e (s₁.setTop f) acts (some (.int v1))).1 = s₁.setFrames fs := fun v1 hv1 => k v1 (hv1.trans (if_pos hc4).symm)
          show Steps p.tables e below (s₁.setTop (mkF m 48 #[.val (.int xi), .val (.int (31 : Int32))] [])) _
          refine XS.iloadN X0.here hx rfl (hb hby d5_48) rfl ?_
          show Steps p.tables e below (s₁.setTop (mkF m 49 #[.val (.int xi), .val (.int (31 : Int32))] [(.int xi)])) _
          refine XS.bipush X0.here hx rfl (hb hby d5_49) ?_
          show Steps p.tables e below (s₁.setTop (mkF m 51 #[.val (.int xi), .val (.int (31 : Int32))] [(.int (16 : Int32)), (.int xi)])) _
          by_cases hc5 : xi < (16 : Int32)
          · refine XS.icmpYes X0.here hx rfl (pc0 := 51) (pc' := 61) rfl (hb hby d5_51) rfl (tlt hc5).1 (by decide) (by decide) ?_
            have k : ∀ (v1 : Int32), v1 = (if xi < (4 : Int32) then ((31 : Int32) - ((xi.toUInt32 >>> ((1 : Int32) &&& 31).toUInt32).toInt32)) else ((29 : Int32) - ((((xi.toUInt32 >>> ((2 : Int32) &&& 31).toUInt32).toInt32).toUInt32 >>> ((1 : Int32) &&& 31).toUInt32).toInt32))) → ∀ (f : JFrame) (acts : List Action), f.method = m → f.locked = none → f.entered = [] → (doReturn e (s₁.setTop f) acts (some (.int v1))).1 = s₁.setFrames fs := fun v1 hv1 => k v1 (hv1.trans (if_pos hc5).symm)
            show Steps p.tables e below (s₁.setTop (mkF m 61 #[.val (.int xi), .val (.int (31 : Int32))] [])) _
            refine XS.iloadN X0.here hx rfl (hb hby d5_61) rfl ?_
            show Steps p.tables e below (s₁.setTop (mkF m 62 #[.val (.int xi), .val (.int (31 : Int32))] [(.int xi)])) _
            refine XS.iconst X0.here hx rfl (hb hby d5_62) ?_
            show Steps p.tables e below (s₁.setTop (mkF m 63 #[.val (.int xi), .val (.int (31 : Int32))] [(.int (4 : Int32)), (.int xi)])) _
            by_cases hc6 : xi < (4 : Int32)
            · refine XS.icmpYes X0.here hx rfl (pc0 := 63) (pc' := 73) rfl (hb hby d5_63) rfl (tlt hc6).1 (by decide) (by decide) ?_
              have k : ∀ (v1 : Int32), v1 = ((31 : Int32) - ((xi.toUInt32 >>> ((1 : Int32) &&& 31).toUInt32).toInt32)) → ∀ (f : JFrame) (acts : List Action), f.method = m → f.locked = none → f.entered = [] → (doReturn e (s₁.setTop f) acts (some (.int v1))).1 = s₁.setFrames fs := fun v1 hv1 => k v1 (hv1.trans (if_pos hc6).symm)
              show Steps p.tables e below (s₁.setTop (mkF m 73 #[.val (.int xi), .val (.int (31 : Int32))] [])) _
              refine XS.iloadN X0.here hx rfl (hb hby d5_73) rfl ?_
              show Steps p.tables e below (s₁.setTop (mkF m 74 #[.val (.int xi), .val (.int (31 : Int32))] [(.int (31 : Int32))])) _
              refine XS.iloadN X0.here hx rfl (hb hby d5_74) rfl ?_
              show Steps p.tables e below (s₁.setTop (mkF m 75 #[.val (.int xi), .val (.int (31 : Int32))] [(.int xi), (.int (31 : Int32))])) _
              refine XS.iconst X0.here hx rfl (hb hby d5_75) ?_
              show Steps p.tables e below (s₁.setTop (mkF m 76 #[.val (.int xi), .val (.int (31 : Int32))] [(.int (1 : Int32)), (.int xi), (.int (31 : Int32))])) _
              refine XS.iushr X0.here hx rfl (hb hby d5_76) rfl ?_
              show Steps p.tables e below (s₁.setTop (mkF m 77 #[.val (.int xi), .val (.int (31 : Int32))] [(.int ((xi.toUInt32 >>> ((1 : Int32) &&& 31).toUInt32).toInt32)), (.int (31 : Int32))])) _
              refine XS.isub X0.here hx rfl (hb hby d5_77) rfl ?_
              show Steps p.tables e below (s₁.setTop (mkF m 78 #[.val (.int xi), .val (.int (31 : Int32))] [(.int ((31 : Int32) - ((xi.toUInt32 >>> ((1 : Int32) &&& 31).toUInt32).toInt32)))])) _
              exact retI X0 hx Bd.returns (hb hby d5_78) (k _ rfl)
            · refine XS.icmpNo X0.here hx rfl (hb hby d5_63) rfl (flt hc6).1 ?_
              have k : ∀ (v1 : Int32), v1 = ((29 : Int32) - ((((xi.toUInt32 >>> ((2 : Int32) &&& 31).toUInt32).toInt32).toUInt32 >>> ((1 : Int32) &&& 31).toUInt32).toInt32)) → ∀ (f : JFrame) (acts : List Action), f.method = m → f.locked = none → f.entered = [] → (doReturn e (s₁.setTop f) acts (some (.int v1))).1 = s₁.setFrames fs := fun v1 hv1 => k v1 (hv1.trans (if_neg hc6).symm)
              show Steps p.tables e below (s₁.setTop (mkF m 66 #[.val (.int xi), .val (.int (31 : Int32))] [])) _
              refine XS.iinc X0.here hx rfl (hb hby d5_66) rfl (l' := #[.val (.int xi), .val (.int (29 : Int32))]) rfl ?_
              show Steps p.tables e below (s₁.setTop (mkF m 69 #[.val (.int xi), .val (.int (29 : Int32))] [])) _
              refine XS.iloadN X0.here hx rfl (hb hby d5_69) rfl ?_
              show Steps p.tables e below (s₁.setTop (mkF m 70 #[.val (.int xi), .val (.int (29 : Int32))] [(.int xi)])) _
              refine XS.iconst X0.here hx rfl (hb hby d5_70) ?_
              show Steps p.tables e below (s₁.setTop (mkF m 71 #[.val (.int xi), .val (.int (29 : Int32))] [(.int (2 : Int32)), (.int xi)])) _
              refine XS.iushr X0.here hx rfl (hb hby d5_71) rfl ?_
              show Steps p.tables e below (s₁.setTop (mkF m 72 #[.val (.int xi), .val (.int (29 : Int32))] [(.int ((xi.toUInt32 >>> ((2 : Int32) &&& 31).toUInt32).toInt32))])) _
              refine XS.istoreN X0.here hx rfl (hb hby d5_72) rfl (l' := #[.val (.int ((xi.toUInt32 >>> ((2 : Int32) &&& 31).toUInt32).toInt32)), .val (.int (29 : Int32))]) rfl ?_
              show Steps p.tables e below (s₁.setTop (mkF m 73 #[.val (.int ((xi.toUInt32 >>> ((2 : Int32) &&& 31).toUInt32).toInt32)), .val (.int (29 : Int32))] [])) _
              refine XS.iloadN X0.here hx rfl (hb hby d5_73) rfl ?_
              show Steps p.tables e below (s₁.setTop (mkF m 74 #[.val (.int ((xi.toUInt32 >>> ((2 : Int32) &&& 31).toUInt32).toInt32)), .val (.int (29 : Int32))] [(.int (29 : Int32))])) _
              refine XS.iloadN X0.here hx rfl (hb hby d5_74) rfl ?_
              show Steps p.tables e below (s₁.setTop (mkF m 75 #[.val (.int ((xi.toUInt32 >>> ((2 : Int32) &&& 31).toUInt32).toInt32)), .val (.int (29 : Int32))] [(.int ((xi.toUInt32 >>> ((2 : Int32) &&& 31).toUInt32).toInt32)), (.int (29 : Int32))])) _
              refine XS.iconst X0.here hx rfl (hb hby d5_75) ?_
              show Steps p.tables e below (s₁.setTop (mkF m 76 #[.val (.int ((xi.toUInt32 >>> ((2 : Int32) &&& 31).toUInt32).toInt32)), .val (.int (29 : Int32))] [(.int (1 : Int32)), (.int ((xi.toUInt32 >>> ((2 : Int32) &&& 31).toUInt32).toInt32)), (.int (29 : Int32))])) _
              refine XS.iushr X0.here hx rfl (hb hby d5_76) rfl ?_
              show Steps p.tables e below (s₁.setTop (mkF m 77 #[.val (.int ((xi.toUInt32 >>> ((2 : Int32) &&& 31).toUInt32).toInt32)), .val (.int (29 : Int32))] [(.int ((((xi.toUInt32 >>> ((2 : Int32) &&& 31).toUInt32).toInt32).toUInt32 >>> ((1 : Int32) &&& 31).toUInt32).toInt32)), (.int (29 : Int32))])) _
              refine XS.isub X0.here hx rfl (hb hby d5_77) rfl ?_
              show Steps p.tables e below (s₁.setTop (mkF m 78 #[.val (.int ((xi.toUInt32 >>> ((2 : Int32) &&& 31).toUInt32).toInt32)), .val (.int (29 : Int32))] [(.int ((29 : Int32) - ((((xi.toUInt32 >>> ((2 : Int32) &&& 31).toUInt32).toInt32).toUInt32 >>> ((1 : Int32) &&& 31).toUInt32).toInt32)))])) _
              exact retI X0 hx Bd.returns (hb hby d5_78) (k _ rfl)
          · refine XS.icmpNo X0.here hx rfl (hb hby d5_51) rfl (flt hc5).1 ?_
            have k : ∀ (v1 : Int32), v1 = (if ((xi.toUInt32 >>> ((4 : Int32) &&& 31).toUInt32).toInt32) < (4 : Int32) then ((27 : Int32) - ((((xi.toUInt32 >>> ((4 : Int32) &&& 31).toUInt32).toInt32).toUInt32 >>> ((1 : Int32) &&& 31).toUInt32).toInt32)) else ((25 : Int32) - ((((((xi.toUInt32 >>> ((4 : Int32) &&& 31).toUInt32).toInt32).toUInt32 >>> ((2 : Int32) &&& 31).toUInt32).toInt32).toUInt32 >>> ((1 : Int32) &&& 31).toUInt32).toInt32))) → ∀ (f : JFrame) (acts : List Action), f.method = m → f.locked = none → f.entered = [] → (doReturn e (s₁.setTop f) acts (some (.int v1))).1 = s₁.setFrames fs := fun v1 hv1 => k v1 (hv1.trans (if_neg hc5).symm)
            show Steps p.tables e below (s₁.setTop (mkF m 54 #[.val (.int xi), .val (.int (31 : Int32))] [])) _
            refine XS.iinc X0.here hx rfl (hb hby d5_54) rfl (l' := #[.val (.int xi), .val (.int (27 : Int32))]) rfl ?_
            show Steps p.tables e below (s₁.setTop (mkF m 57 #[.val (.int xi), .val (.int (27 : Int32))] [])) _
            refine XS.iloadN X0.here hx rfl (hb hby d5_57) rfl ?_
            show Steps p.tables e below (s₁.setTop (mkF m 58 #[.val (.int xi), .val (.int (27 : Int32))] [(.int xi)])) _
            refine XS.iconst X0.here hx rfl (hb hby d5_58) ?_
            show Steps p.tables e below (s₁.setTop (mkF m 59 #[.val (.int xi), .val (.int (27 : Int32))] [(.int (4 : Int32)), (.int xi)])) _
            refine XS.iushr X0.here hx rfl (hb hby d5_59) rfl ?_
            show Steps p.tables e below (s₁.setTop (mkF m 60 #[.val (.int xi), .val (.int (27 : Int32))] [(.int ((xi.toUInt32 >>> ((4 : Int32) &&& 31).toUInt32).toInt32))])) _
            refine XS.istoreN X0.here hx rfl (hb hby d5_60) rfl (l' := #[.val (.int ((xi.toUInt32 >>> ((4 : Int32) &&& 31).toUInt32).toInt32)), .val (.int (27 : Int32))]) rfl ?_
            show Steps p.tables e below (s₁.setTop (mkF m 61 #[.val (.int ((xi.toUInt32 >>> ((4 : Int32) &&& 31).toUInt32).toInt32)), .val (.int (27 : Int32))] [])) _
            refine XS.iloadN X0.here hx rfl (hb hby d5_61) rfl ?_
            show Steps p.tables e below (s₁.setTop (mkF m 62 #[.val (.int ((xi.toUInt32 >>> ((4 : Int32) &&& 31).toUInt32).toInt32)), .val (.int (27 : Int32))] [(.int ((xi.toUInt32 >>> ((4 : Int32) &&& 31).toUInt32).toInt32))])) _
            refine XS.iconst X0.here hx rfl (hb hby d5_62) ?_
            show Steps p.tables e below (s₁.setTop (mkF m 63 #[.val (.int ((xi.toUInt32 >>> ((4 : Int32) &&& 31).toUInt32).toInt32)), .val (.int (27 : Int32))] [(.int (4 : Int32)), (.int ((xi.toUInt32 >>> ((4 : Int32) &&& 31).toUInt32).toInt32))])) _
            by_cases hc7 : ((xi.toUInt32 >>> ((4 : Int32) &&& 31).toUInt32).toInt32) < (4 : Int32)
            · refine XS.icmpYes X0.here hx rfl (pc0 := 63) (pc' := 73) rfl (hb hby d5_63) rfl (tlt hc7).1 (by decide) (by decide) ?_
              have k : ∀ (v1 : Int32), v1 = ((27 : Int32) - ((((xi.toUInt32 >>> ((4 : Int32) &&& 31).toUInt32).toInt32).toUInt32 >>> ((1 : Int32) &&& 31).toUInt32).toInt32)) → ∀ (f : JFrame) (acts : List Action), f.method = m → f.locked = none → f.entered = [] → (doReturn e (s₁.setTop f) acts (some (.int v1))).1 = s₁.setFrames fs := fun v1 hv1 => k v1 (hv1.trans (if_pos hc7).symm)
              show Steps p.tables e below (s₁.setTop (mkF m 73 #[.val (.int ((xi.toUInt32 >>> ((4 : Int32) &&& 31).toUInt32).toInt32)), .val (.int (27 : Int32))] [])) _
              refine XS.iloadN X0.here hx rfl (hb hby d5_73) rfl ?_
              show Steps p.tables e below (s₁.setTop (mkF m 74 #[.val (.int ((xi.toUInt32 >>> ((4 : Int32) &&& 31).toUInt32).toInt32)), .val (.int (27 : Int32))] [(.int (27 : Int32))])) _
              refine XS.iloadN X0.here hx rfl (hb hby d5_74) rfl ?_
              show Steps p.tables e below (s₁.setTop (mkF m 75 #[.val (.int ((xi.toUInt32 >>> ((4 : Int32) &&& 31).toUInt32).toInt32)), .val (.int (27 : Int32))] [(.int ((xi.toUInt32 >>> ((4 : Int32) &&& 31).toUInt32).toInt32)), (.int (27 : Int32))])) _
              refine XS.iconst X0.here hx rfl (hb hby d5_75) ?_
              show Steps p.tables e below (s₁.setTop (mkF m 76 #[.val (.int ((xi.toUInt32 >>> ((4 : Int32) &&& 31).toUInt32).toInt32)), .val (.int (27 : Int32))] [(.int (1 : Int32)), (.int ((xi.toUInt32 >>> ((4 : Int32) &&& 31).toUInt32).toInt32)), (.int (27 : Int32))])) _
              refine XS.iushr X0.here hx rfl (hb hby d5_76) rfl ?_
              show Steps p.tables e below (s₁.setTop (mkF m 77 #[.val (.int ((xi.toUInt32 >>> ((4 : Int32) &&& 31).toUInt32).toInt32)), .val (.int (27 : Int32))] [(.int ((((xi.toUInt32 >>> ((4 : Int32) &&& 31).toUInt32).toInt32).toUInt32 >>> ((1 : Int32) &&& 31).toUInt32).toInt32)), (.int (27 : Int32))])) _
              refine XS.isub X0.here hx rfl (hb hby d5_77) rfl ?_
              show Steps p.tables e below (s₁.setTop (mkF m 78 #[.val (.int ((xi.toUInt32 >>> ((4 : Int32) &&& 31).toUInt32).toInt32)), .val (.int (27 : Int32))] [(.int ((27 : Int32) - ((((xi.toUInt32 >>> ((4 : Int32) &&& 31).toUInt32).toInt32).toUInt32 >>> ((1 : Int32) &&& 31).toUInt32).toInt32)))])) _
              exact retI X0 hx Bd.returns (hb hby d5_78) (k _ rfl)
            · refine XS.icmpNo X0.here hx rfl (hb hby d5_63) rfl (flt hc7).1 ?_
              have k : ∀ (v1 : Int32), v1 = ((25 : Int32) - ((((((xi.toUInt32 >>> ((4 : Int32) &&& 31).toUInt32).toInt32).toUInt32 >>> ((2 : Int32) &&& 31).toUInt32).toInt32).toUInt32 >>> ((1 : Int32) &&& 31).toUInt32).toInt32)) → ∀ (f : JFrame) (acts : List Action), f.method = m → f.locked = none → f.entered = [] → (doReturn e (s₁.setTop f) acts (some (.int v1))).1 = s₁.setFrames fs := fun v1 hv1 => k v1 (hv1.trans (if_neg hc7).symm)
              show Steps p.tables e below (s₁.setTop (mkF m 66 #[.val (.int ((xi.toUInt32 >>> ((4 : Int32) &&& 31).toUInt32).toInt32)), .val (.int (27 : Int32))] [])) _
              refine XS.iinc X0.here hx rfl (hb hby d5_66) rfl (l' := #[.val (.int ((xi.toUInt32 >>> ((4 : Int32) &&& 31).toUInt32).toInt32)), .val (.int (25 : Int32))]) rfl ?_
              show Steps p.tables e below (s₁.setTop (mkF m 69 #[.val (.int ((xi.toUInt32 >>> ((4 : Int32) &&& 31).toUInt32).toInt32)), .val (.int (25 : Int32))] [])) _
              refine XS.iloadN X0.here hx rfl (hb hby d5_69) rfl ?_
              show Steps p.tables e below (s₁.setTop (mkF m 70 #[.val (.int ((xi.toUInt32 >>> ((4 : Int32) &&& 31).toUInt32).toInt32)), .val (.int (25 : Int32))] [(.int ((xi.toUInt32 >>> ((4 : Int32) &&& 31).toUInt32).toInt32))])) _
              refine XS.iconst X0.here hx rfl (hb hby d5_70) ?_
              show Steps p.tables e below (s₁.setTop (mkF m 71 #[.val (.int ((xi.toUInt32 >>> ((4 : Int32) &&& 31).toUInt32).toInt32)), .val (.int (25 : Int32))] [(.int (2 : Int32)), (.int ((xi.toUInt32 >>> ((4 : Int32) &&& 31).toUInt32).toInt32))])) _
              refine XS.iushr X0.here hx rfl (hb hby d5_71) rfl ?_
              show Steps p.tables e below (s₁.setTop (mkF m 72 #[.val (.int ((xi.toUInt32 >>> ((4 : Int32) &&& 31).toUInt32).toInt32)), .val (.int (25 : Int32))] [(.int ((((xi.toUInt32 >>> ((4 : Int32) &&& 31).toUInt32).toInt32).toUInt32 >>> ((2 : Int32) &&& 31).toUInt32).toInt32))])) _
              refine XS.istoreN X0.here hx rfl (hb hby d5_72) rfl (l' := #[.val (.int ((((xi.toUInt32 >>> ((4 : Int32) &&& 31).toUInt32).toInt32).toUInt32 >>> ((2 : Int32) &&& 31).toUInt32).toInt32)), .val (.int (25 : Int32))]) rfl ?_
              show Steps p.tables e below (s₁.setTop (mkF m 73 #[.val (.int ((((xi.toUInt32 >>> ((4 : Int32) &&& 31).toUInt32).toInt32).toUInt32 >>> ((2 : Int32) &&& 31).toUInt32).toInt32)), .val (.int (25 : Int32))] [])) _
              refine XS.iloadN X0.here hx rfl (hb hby d5_73) rfl ?_
              show Steps p.tables e below (s₁.setTop (mkF m 74 #[.val (.int ((((xi.toUInt32 >>> ((4 : Int32) &&& 31).toUInt32).toInt32).toUInt32 >>> ((2 : Int32) &&& 31).toUInt32).toInt32)), .val (.int (25 : Int32))] [(.int (25 : Int32))])) _
              refine XS.iloadN X0.here hx rfl (hb hby d5_74) rfl ?_
              show Steps p.tables e below (s₁.setTop (mkF m 75 #[.val (.int ((((xi.toUInt32 >>> ((4 : Int32) &&& 31).toUInt32).toInt32).toUInt32 >>> ((2 : Int32) &&& 31).toUInt32).toInt32)), .val (.int (25 : Int32))] [(.int ((((xi.toUInt32 >>> ((4 : Int32) &&& 31).toUInt32).toInt32).toUInt32 >>> ((2 : Int32) &&& 31).toUInt32).toInt32)), (.int (25 : Int32))])) _
              refine XS.iconst X0.here hx rfl (hb hby d5_75) ?_
              show Steps p.tables e below (s₁.setTop (mkF m 76 #[.val (.int ((((xi.toUInt32 >>> ((4 : Int32) &&& 31).toUInt32).toInt32).toUInt32 >>> ((2 : Int32) &&& 31).toUInt32).toInt32)), .val (.int (25 : Int32))] [(.int (1 : Int32)), (.int ((((xi.toUInt32 >>> ((4 : Int32) &&& 31).toUInt32).toInt32).toUInt32 >>> ((2 : Int32) &&& 31).toUInt32).toInt32)), (.int (25 : Int32))])) _
              refine XS.iushr X0.here hx rfl (hb hby d5_76) rfl ?_
              show Steps p.tables e below (s₁.setTop (mkF m 77 #[.val (.int ((((xi.toUInt32 >>> ((4 : Int32) &&& 31).toUInt32).toInt32).toUInt32 >>> ((2 : Int32) &&& 31).toUInt32).toInt32)), .val (.int (25 : Int32))] [(.int ((((((xi.toUInt32 >>> ((4 : Int32) &&& 31).toUInt32).toInt32).toUInt32 >>> ((2 : Int32) &&& 31).toUInt32).toInt32).toUInt32 >>> ((1 : Int32) &&& 31).toUInt32).toInt32)), (.int (25 : Int32))])) _
              refine XS.isub X0.here hx rfl (hb hby d5_77) rfl ?_
              show Steps p.tables e below (s₁.setTop (mkF m 78 #[.val (.int ((((xi.toUInt32 >>> ((4 : Int32) &&& 31).toUInt32).toInt32).toUInt32 >>> ((2 : Int32) &&& 31).toUInt32).toInt32)), .val (.int (25 : Int32))] [(.int ((25 : Int32) - ((((((xi.toUInt32 >>> ((4 : Int32) &&& 31).toUInt32).toInt32).toUInt32 >>> ((2 : Int32) &&& 31).toUInt32).toInt32).toUInt32 >>> ((1 : Int32) &&& 31).toUInt32).toInt32)))])) _
              exact retI X0 hx Bd.returns (hb hby d5_78) (k _ rfl)
        · refine XS.icmpNo X0.here hx rfl (hb hby d5_37) rfl (flt hc4).1 ?_
          have k : ∀ (v1 : Int32), v1 = (if ((xi.toUInt32 >>> ((8 : Int32) &&& 31).toUInt32).toInt32) < (16 : Int32) then (if ((xi.toUInt32 >>> ((8 : Int32) &&& 31).toUInt32).toInt32) < (4 : Int32) then ((23 : Int32) - ((((xi.toUInt32 >>> ((8 : Int32) &&& 31).toUInt32).toInt32).toUInt32 >>> ((1 : Int32) &&& 31).toUInt32).toInt32)) else ((21 : Int32) - ((((((xi.toUInt32 >>> ((8 : Int32) &&& 31).toUInt32).toInt32).toUInt32 >>> ((2 : Int32) &&& 31).toUInt32).toInt32).toUInt32 >>> ((1 : Int32) &&& 31).toUInt32).toInt32))) else (if ((((xi.toUInt32 >>> ((8 : Int32) &&& 31).toUInt32).toInt32).toUInt32 >>> ((4 : Int32) &&& 31).toUInt32).toInt32) < (4 : Int32) then ((19 : Int32) - ((((((xi.toUInt32 >>> ((8 : Int32) &&& 31).toUInt32).toInt32).toUInt32 >>> ((4 : Int32) &&& 31).toUInt32).toInt32).toUInt32 >>> ((1 : Int32) &&& 31).toUInt32).toInt32)) else ((17 : Int32) - ((((((((xi.toUInt32 >>> ((8 : Int32) &&& 31).toUInt32).toInt32).toUInt32 >>> ((4 : Int32) &&& 31).toUInt32).toInt32).toUInt32 >>> ((2 : Int32) &&& 31).toUInt32).toInt32).toUInt32 >>> ((1 : Int32) &&& 31).toUInt32).toInt32)))) → ∀ (f : JFrame) (acts : List Action), f.method = m → f.locked = none → f.entered = [] → (doReturn e (s₁.setTop f) acts (some (.int v1))).1 = s₁.setFrames fs := fun v1 hv1 => k v1 (hv1.trans (if_neg hc4).symm)
          show Steps p.tables e below (s₁.setTop (mkF m 40 #[.val (.int xi), .val (.int (31 : Int32))] [])) _
          refine XS.iinc X0.here hx rfl (hb hby d5_40) rfl (l' := #[.val (.int xi), .val (.int (23 : Int32))]) rfl ?_
          show Steps p.tables e below (s₁.setTop (mkF m 43 #[.val (.int xi), .val (.int (23 : Int32))] [])) _
          refine XS.iloadN X0.here hx rfl (hb hby d5_43) rfl ?_
          show Steps p.tables e below (s₁.setTop (mkF m 44 #[.val (.int xi), .val (.int (23 : Int32))] [(.int xi)])) _
          refine XS.bipush X0.here hx rfl (hb hby d5_44) ?_
          show Steps p.tables e below (s₁.setTop (mkF m 46 #[.val (.int xi), .val (.int (23 : Int32))] [(.int (8 : Int32)), (.int xi)])) _
          refine XS.iushr X0.here hx rfl (hb hby d5_46) rfl ?_
          show Steps p.tables e below (s₁.setTop (mkF m 47 #[.val (.int xi), .val (.int (23 : Int32))] [(.int ((xi.toUInt32 >>> ((8 : Int32) &&& 31).toUInt32).toInt32))])) _
          refine XS.istoreN X0.here hx rfl (hb hby d5_47) rfl (l' := #[.val (.int ((xi.toUInt32 >>> ((8 : Int32) &&& 31).toUInt32).toInt32)), .val (.int (23 : Int32))]) rfl ?_
          show Steps p.tables e below (s₁.setTop (mkF m 48 #[.val (.int ((xi.toUInt32 >>> ((8 : Int32) &&& 31).toUInt32).toInt32)), .val (.int (23 : Int32))] [])) _
          refine XS.iloadN X0.here hx rfl (hb hby d5_48) rfl ?_
          show Steps p.tables e below (s₁.setTop (mkF m 49 #[.val (.int ((xi.toUInt32 >>> ((8 : Int32) &&& 31).toUInt32).toInt32)), .val (.int (23 : Int32))] [(.int ((xi.toUInt32 >>> ((8 : Int32) &&& 31).toUInt32).toInt32))])) _
          refine XS.bipush X0.here hx rfl (hb hby d5_49) ?_
          show Steps p.tables e below (s₁.setTop (mkF m 51 #[.val (.int ((xi.toUInt32 >>> ((8 : Int32) &&& 31).toUInt32).toInt32)), .val (.int (23 : Int32))] [(.int (16 : Int32)), (.int ((xi.toUInt32 >>> ((8 : Int32) &&& 31).toUInt32).toInt32))])) _
          by_cases hc8 : ((xi.toUInt32 >>> ((8 : Int32) &&& 31).toUInt32).toInt32) < (16 : Int32)
          · refine XS.icmpYes X0.here hx rfl (pc0 := 51) (pc' := 61) rfl (hb hby d5_51) rfl (tlt hc8).1 (by decide) (by decide) ?_
            have k : ∀ (v1 : Int32), v1 = (if ((xi.toUInt32 >>> ((8 : Int32) &&& 31).toUInt32).toInt32) < (4 : Int32) then ((23 : Int32) - ((((xi.toUInt32 >>> ((8 : Int32) &&& 31).toUInt32).toInt32).toUInt32 >>> ((1 : Int32) &&& 31).toUInt32).toInt32)) else ((21 : Int32) - ((((((xi.toUInt32 >>> ((8 : Int32) &&& 31).toUInt32).toInt32).toUInt32 >>> ((2 : Int32) &&& 31).toUInt32).toInt32).toUInt32 >>> ((1 : Int32) &&& 31).toUInt32).toInt32))) → ∀ (f : JFrame) (acts : List Action), f.method = m → f.locked = none → f.entered = [] → (doReturn e (s₁.setTop f) acts (some (.int v1))).1 = s₁.setFrames fs := fun v1 hv1 => k v1 (hv1.trans (if_pos hc8).symm)
            show Steps p.tables e below (s₁.setTop (mkF m 61 #[.val (.int ((xi.toUInt32 >>> ((8 : Int32) &&& 31).toUInt32).toInt32)), .val (.int (23 : Int32))] [])) _
            refine XS.iloadN X0.here hx rfl (hb hby d5_61) rfl ?_
            show Steps p.tables e below (s₁.setTop (mkF m 62 #[.val (.int ((xi.toUInt32 >>> ((8 : Int32) &&& 31).toUInt32).toInt32)), .val (.int (23 : Int32))] [(.int ((xi.toUInt32 >>> ((8 : Int32) &&& 31).toUInt32).toInt32))])) _
            refine XS.iconst X0.here hx rfl (hb hby d5_62) ?_
            show Steps p.tables e below (s₁.setTop (mkF m 63 #[.val (.int ((xi.toUInt32 >>> ((8 : Int32) &&& 31).toUInt32).toInt32)), .val (.int (23 : Int32))] [(.int (4 : Int32)), (.int ((xi.toUInt32 >>> ((8 : Int32) &&& 31).toUInt32).toInt32))])) _
            by_cases hc9 : ((xi.toUInt32 >>> ((8 : Int32) &&& 31).toUInt32).toInt32) < (4 : Int32)
            · refine XS.icmpYes X0.here hx rfl (pc0 := 63) (pc' := 73) rfl (hb hby d5_63) rfl (tlt hc9).1 (by decide) (by decide) ?_
              have k : ∀ (v1 : Int32), v1 = ((23 : Int32) - ((((xi.toUInt32 >>> ((8 : Int32) &&& 31).toUInt32).toInt32).toUInt32 >>> ((1 : Int32) &&& 31).toUInt32).toInt32)) → ∀ (f : JFrame) (acts : List Action), f.method = m → f.locked = none → f.entered = [] → (doReturn e (s₁.setTop f) acts (some (.int v1))).1 = s₁.setFrames fs := fun v1 hv1 => k v1 (hv1.trans (if_pos hc9).symm)
              show Steps p.tables e below (s₁.setTop (mkF m 73 #[.val (.int ((xi.toUInt32 >>> ((8 : Int32) &&& 31).toUInt32).toInt32)), .val (.int (23 : Int32))] [])) _
              refine XS.iloadN X0.here hx rfl (hb hby d5_73) rfl ?_
              show Steps p.tables e below (s₁.setTop (mkF m 74 #[.val (.int ((xi.toUInt32 >>> ((8 : Int32) &&& 31).toUInt32).toInt32)), .val (.int (23 : Int32))] [(.int (23 : Int32))])) _
              refine XS.iloadN X0.here hx rfl (hb hby d5_74) rfl ?_
              show Steps p.tables e below (s₁.setTop (mkF m 75 #[.val (.int ((xi.toUInt32 >>> ((8 : Int32) &&& 31).toUInt32).toInt32)), .val (.int (23 : Int32))] [(.int ((xi.toUInt32 >>> ((8 : Int32) &&& 31).toUInt32).toInt32)), (.int (23 : Int32))])) _
              refine XS.iconst X0.here hx rfl (hb hby d5_75) ?_
              show Steps p.tables e below (s₁.setTop (mkF m 76 #[.val (.int ((xi.toUInt32 >>> ((8 : Int32) &&& 31).toUInt32).toInt32)), .val (.int (23 : Int32))] [(.int (1 : Int32)), (.int ((xi.toUInt32 >>> ((8 : Int32) &&& 31).toUInt32).toInt32)), (.int (23 : Int32))])) _
              refine XS.iushr X0.here hx rfl (hb hby d5_76) rfl ?_
              show Steps p.tables e below (s₁.setTop (mkF m 77 #[.val (.int ((xi.toUInt32 >>> ((8 : Int32) &&& 31).toUInt32).toInt32)), .val (.int (23 : Int32))] [(.int ((((xi.toUInt32 >>> ((8 : Int32) &&& 31).toUInt32).toInt32).toUInt32 >>> ((1 : Int32) &&& 31).toUInt32).toInt32)), (.int (23 : Int32))])) _
              refine XS.isub X0.here hx rfl (hb hby d5_77) rfl ?_
              show Steps p.tables e below (s₁.setTop (mkF m 78 #[.val (.int ((xi.toUInt32 >>> ((8 : Int32) &&& 31).toUInt32).toInt32)), .val (.int (23 : Int32))] [(.int ((23 : Int32) - ((((xi.toUInt32 >>> ((8 : Int32) &&& 31).toUInt32).toInt32).toUInt32 >>> ((1 : Int32) &&& 31).toUInt32).toInt32)))])) _
              exact retI X0 hx Bd.returns (hb hby d5_78) (k _ rfl)
            · refine XS.icmpNo X0.here hx rfl (hb hby d5_63) rfl (flt hc9).1 ?_
              have k : ∀ (v1 : Int32), v1 = ((21 : Int32) - ((((((xi.toUInt32 >>> ((8 : Int32) &&& 31).toUInt32).toInt32).toUInt32 >>> ((2 : Int32) &&& 31).toUInt32).toInt32).toUInt32 >>> ((1 : Int32) &&& 31).toUInt32).toInt32)) → ∀ (f : JFrame) (acts : List Action), f.method = m → f.locked = none → f.entered = [] → (doReturn e (s₁.setTop f) acts (some (.int v1))).1 = s₁.setFrames fs := fun v1 hv1 => k v1 (hv1.trans (if_neg hc9).symm)
              show Steps p.tables e below (s₁.setTop (mkF m 66 #[.val (.int ((xi.toUInt32 >>> ((8 : Int32) &&& 31).toUInt32).toInt32)), .val (.int (23 : Int32))] [])) _
              refine XS.iinc X0.here hx rfl (hb hby d5_66) rfl (l' := #[.val (.int ((xi.toUInt32 >>> ((8 : Int32) &&& 31).toUInt32).toInt32)), .val (.int (21 : Int32))]) rfl ?_
              show Steps p.tables e below (s₁.setTop (mkF m 69 #[.val (.int ((xi.toUInt32 >>> ((8 : Int32) &&& 31).toUInt32).toInt32)), .val (.int (21 : Int32))] [])) _
              refine XS.iloadN X0.here hx rfl (hb hby d5_69) rfl ?_
              show Steps p.tables e below (s₁.setTop (mkF m 70 #[.val (.int ((xi.toUInt32 >>> ((8 : Int32) &&& 31).toUInt32).toInt32)), .val (.int (21 : Int32))] [(.int ((xi.toUInt32 >>> ((8 : Int32) &&& 31).toUInt32).toInt32))])) _
              refine XS.iconst X0.here hx rfl (hb hby d5_70) ?_
              show Steps p.tables e below (s₁.setTop (mkF m 71 #[.val (.int ((xi.toUInt32 >>> ((8 : Int32) &&& 31).toUInt32).toInt32)), .val (.int (21 : Int32))] [(.int (2 : Int32)), (.int ((xi.toUInt32 >>> ((8 : Int32) &&& 31).toUInt32).toInt32))])) _
              refine XS.iushr X0.here hx rfl (hb hby d5_71) rfl ?_
              show Steps p.tables e below (s₁.setTop (mkF m 72 #[.val (.int ((xi.toUInt32 >>> ((8 : Int32) &&& 31).toUInt32).toInt32)), .val (.int (21 : Int32))] [(.int ((((xi.toUInt32 >>> ((8 : Int32) &&& 31).toUInt32).toInt32).toUInt32 >>> ((2 : Int32) &&& 31).toUInt32).toInt32))])) _
              refine XS.istoreN X0.here hx rfl (hb hby d5_72) rfl (l' := #[.val (.int ((((xi.toUInt32 >>> ((8 : Int32) &&& 31).toUInt32).toInt32).toUInt32 >>> ((2 : Int32) &&& 31).toUInt32).toInt32)), .val (.int (21 : Int32))]) rfl ?_
              show Steps p.tables e below (s₁.setTop (mkF m 73 #[.val (.int ((((xi.toUInt32 >>> ((8 : Int32) &&& 31).toUInt32).toInt32).toUInt32 >>> ((2 : Int32) &&& 31).toUInt32).toInt32)), .val (.int (21 : Int32))] [])) _
              refine XS.iloadN X0.here hx rfl (hb hby d5_73) rfl ?_
              show Steps p.tables e below (s₁.setTop (mkF m 74 #[.val (.int ((((xi.toUInt32 >>> ((8 : Int32) &&& 31).toUInt32).toInt32).toUInt32 >>> ((2 : Int32) &&& 31).toUInt32).toInt32)), .val (.int (21 : Int32))] [(.int (21 : Int32))])) _
              refine XS.iloadN X0.here hx rfl (hb hby d5_74) rfl ?_
              show Steps p.tables e below (s₁.setTop (mkF m 75 #[.val (.int ((((xi.toUInt32 >>> ((8 : Int32) &&& 31).toUInt32).toInt32).toUInt32 >>> ((2 : Int32) &&& 31).toUInt32).toInt32)), .val (.int (21 : Int32))] [(.int ((((xi.toUInt32 >>> ((8 : Int32) &&& 31).toUInt32).toInt32).toUInt32 >>> ((2 : Int32) &&& 31).toUInt32).toInt32)), (.int (21 : Int32))])) _
              refine XS.iconst X0.here hx rfl (hb hby d5_75) ?_
              show Steps p.tables e below (s₁.setTop (mkF m 76 #[.val (.int ((((xi.toUInt32 >>> ((8 : Int32) &&& 31).toUInt32).toInt32).toUInt32 >>> ((2 : Int32) &&& 31).toUInt32).toInt32)), .val (.int (21 : Int32))] [(.int (1 : Int32)), (.int ((((xi.toUInt32 >>> ((8 : Int32) &&& 31).toUInt32).toInt32).toUInt32 >>> ((2 : Int32) &&& 31).toUInt32).toInt32)), (.int (21 : Int32))])) _
              refine XS.iushr X0.here hx rfl (hb hby d5_76) rfl ?_
              show Steps p.tables e below (s₁.setTop (mkF m 77 #[.val (.int ((((xi.toUInt32 >>> ((8 : Int32) &&& 31).toUInt32).toInt32).toUInt32 >>> ((2 : Int32) &&& 31).toUInt32).toInt32)), .val (.int (21 : Int32))] [(.int ((((((xi.toUInt32 >>> ((8 : Int32) &&& 31).toUInt32).toInt32).toUInt32 >>> ((2 : Int32) &&& 31).toUInt32).toInt32).toUInt32 >>> ((1 : Int32) &&& 31).toUInt32).toInt32)), (.int (21 : Int32))])) _
              refine XS.isub X0.here hx rfl (hb hby d5_77) rfl ?_
              show Steps p.tables e below (s₁.setTop (mkF m 78 #[.val (.int ((((xi.toUInt32 >>> ((8 : Int32) &&& 31).toUInt32).toInt32).toUInt32 >>> ((2 : Int32) &&& 31).toUInt32).toInt32)), .val (.int (21 : Int32))] [(.int ((21 : Int32) - ((((((xi.toUInt32 >>> ((8 : Int32) &&& 31).toUInt32).toInt32).toUInt32 >>> ((2 : Int32) &&& 31).toUInt32).toInt32).toUInt32 >>> ((1 : Int32) &&& 31).toUInt32).toInt32)))])) _
              exact retI X0 hx Bd.returns (hb hby d5_78) (k _ rfl)
          · refine XS.icmpNo X0.here hx rfl (hb hby d5_51) rfl (flt hc8).1 ?_
            have k : ∀ (v1 : Int32), v1 = (if ((((xi.toUInt32 >>> ((8 : Int32) &&& 31).toUInt32).toInt32).toUInt32 >>> ((4 : Int32) &&& 31).toUInt32).toInt32) < (4 : Int32) then ((19 : Int32) - ((((((xi.toUInt32 >>> ((8 : Int32) &&& 31).toUInt32).toInt32).toUInt32 >>> ((4 : Int32) &&& 31).toUInt32).toInt32).toUInt32 >>> ((1 : Int32) &&& 31).toUInt32).toInt32)) else ((17 : Int32) - ((((((((xi.toUInt32 >>> ((8 : Int32) &&& 31).toUInt32).toInt32).toUInt32 >>> ((4 : Int32) &&& 31).toUInt32).toInt32).toUInt32 >>> ((2 : Int32) &&& 31).toUInt32).toInt32).toUInt32 >>> ((1 : Int32) &&& 31).toUInt32).toInt32))) → ∀ (f : JFrame) (acts : List Action), f.method = m → f.locked = none → f.entered = [] → (doReturn e (s₁.setTop f) acts (some (.int v1))).1 = s₁.setFrames fs := fun v1 hv1 => k v1 (hv1.trans (if_neg hc8).symm)
            show Steps p.tables e below (s₁.setTop (mkF m 54 #[.val (.int ((xi.toUInt32 >>> ((8 : Int32) &&& 31).toUInt32).toInt32)), .val (.int (23 : Int32))] [])) _
            refine XS.iinc X0.here hx rfl (hb hby d5_54) rfl (l' := #[.val (.int ((xi.toUInt32 >>> ((8 : Int32) &&& 31).toUInt32).toInt32)), .val (.int (19 : Int32))]) rfl ?_
            show Steps p.tables e below (s₁.setTop (mkF m 57 #[.val (.int ((xi.toUInt32 >>> ((8 : Int32) &&& 31).toUInt32).toInt32)), .val (.int (19 : Int32))] [])) _
            refine XS.iloadN X0.here hx rfl (hb hby d5_57) rfl ?_
            show Steps p.tables e below (s₁.setTop (mkF m 58 #[.val (.int ((xi.toUInt32 >>> ((8 : Int32) &&& 31).toUInt32).toInt32)), .val (.int (19 : Int32))] [(.int ((xi.toUInt32 >>> ((8 : Int32) &&& 31).toUInt32).toInt32))])) _
            refine XS.iconst X0.here hx rfl (hb hby d5_58) ?_
            show Steps p.tables e below (s₁.setTop (mkF m 59 #[.val (.int ((xi.toUInt32 >>> ((8 : Int32) &&& 31).toUInt32).toInt32)), .val (.int (19 : Int32))] [(.int (4 : Int32)), (.int ((xi.toUInt32 >>> ((8 : Int32) &&& 31).toUInt32).toInt32))])) _
            refine XS.iushr X0.here hx rfl (hb hby d5_59) rfl ?_
            show Steps p.tables e below (s₁.setTop (mkF m 60 #[.val (.int ((xi.toUInt32 >>> ((8 : Int32) &&& 31).toUInt32).toInt32)), .val (.int (19 : Int32))] [(.int ((((xi.toUInt32 >>> ((8 : Int32) &&& 31).toUInt32).toInt32).toUInt32 >>> ((4 : Int32) &&& 31).toUInt32).toInt32))])) _
            refine XS.istoreN X0.here hx rfl (hb hby d5_60) rfl (l' := #[.val (.int ((((xi.toUInt32 >>> ((8 : Int32) &&& 31).toUInt32).toInt32).toUInt32 >>> ((4 : Int32) &&& 31).toUInt32).toInt32)), .val (.int (19 : Int32))]) rfl ?_
            show Steps p.tables e below (s₁.setTop (mkF m 61 #[.val (.int ((((xi.toUInt32 >>> ((8 : Int32) &&& 31).toUInt32).toInt32).toUInt32 >>> ((4 : Int32) &&& 31).toUInt32).toInt32)), .val (.int (19 : Int32))] [])) _
            refine XS.iloadN X0.here hx rfl (hb hby d5_61) rfl ?_
            show Steps p.tables e below (s₁.setTop (mkF m 62 #[.val (.int ((((xi.toUInt32 >>> ((8 : Int32) &&& 31).toUInt32).toInt32).toUInt32 >>> ((4 : Int32) &&& 31).toUInt32).toInt32)), .val (.int (19 : Int32))] [(.int ((((xi.toUInt32 >>> ((8 : Int32) &&& 31).toUInt32).toInt32).toUInt32 >>> ((4 : Int32) &&& 31).toUInt32).toInt32))])) _
            refine XS.iconst X0.here hx rfl (hb hby d5_62) ?_
            show Steps p.tables e below (s₁.setTop (mkF m 63 #[.val (.int ((((xi.toUInt32 >>> ((8 : Int32) &&& 31).toUInt32).toInt32).toUInt32 >>> ((4 : Int32) &&& 31).toUInt32).toInt32)), .val (.int (19 : Int32))] [(.int (4 : Int32)), (.int ((((xi.toUInt32 >>> ((8 : Int32) &&& 31).toUInt32).toInt32).toUInt32 >>> ((4 : Int32) &&& 31).toUInt32).toInt32))])) _
            by_cases hc10 : ((((xi.toUInt32 >>> ((8 : Int32) &&& 31).toUInt32).toInt32).toUInt32 >>> ((4 : Int32) &&& 31).toUInt32).toInt32) < (4 : Int32)
            · refine XS.icmpYes X0.here hx rfl (pc0 := 63) (pc' := 73) rfl (hb hby d5_63) rfl (tlt hc10).1 (by decide) (by decide) ?_
              have k : ∀ (v1 : Int32), v1 = ((19 : Int32) - ((((((xi.toUInt32 >>> ((8 : Int32) &&& 31).toUInt32).toInt32).toUInt32 >>> ((4 : Int32) &&& 31).toUInt32).toInt32).toUInt32 >>> ((1 : Int32) &&& 31).toUInt32).toInt32)) → ∀ (f : JFrame) (acts : List Action), f.method = m → f.locked = none → f.entered = [] → (doReturn e (s₁.setTop f) acts (some (.int v1))).1 = s₁.setFrames fs := fun v1 hv1 => k v1 (hv1.trans (if_pos hc10).symm)
              show Steps p.tables e below (s₁.setTop (mkF m 73 #[.val (.int ((((xi.toUInt32 >>> ((8 : Int32) &&& 31).toUInt32).toInt32).toUInt32 >>> ((4 : Int32) &&& 31).toUInt32).toInt32)), .val (.int (19 : Int32))] [])) _
              refine XS.iloadN X0.here hx rfl (hb hby d5_73) rfl ?_
              show Steps p.tables e below (s₁.setTop (mkF m 74 #[.val (.int ((((xi.toUInt32 >>> ((8 : Int32) &&& 31).toUInt32).toInt32).toUInt32 >>> ((4 : Int32) &&& 31).toUInt32).toInt32)), .val (.int (19 : Int32))] [(.int (19 : Int32))])) _
              refine XS.iloadN X0.here hx rfl (hb hby d5_74) rfl ?_
              show Steps p.tables e below (s₁.setTop (mkF m 75 #[.val (.int ((((xi.toUInt32 >>> ((8 : Int32) &&& 31).toUInt32).toInt32).toUInt32 >>> ((4 : Int32) &&& 31).toUInt32).toInt32)), .val (.int (19 : Int32))] [(.int ((((xi.toUInt32 >>> ((8 : Int32) &&& 31).toUInt32).toInt32).toUInt32 >>> ((4 : Int32) &&& 31).toUInt32).toInt32)), (.int (19 : Int32))])) _
              refine XS.iconst X0.here hx rfl (hb hby d5_75) ?_
              show Steps p.tables e below (s₁.setTop (mkF m 76 #[.val (.int ((((xi.toUInt32 >>> ((8 : Int32) &&& 31).toUInt32).toInt32).toUInt32 >>> ((4 : Int32) &&& 31).toUInt32).toInt32)), .val (.int (19 : Int32))] [(.int (1 : Int32)), (.int ((((xi.toUInt32 >>> ((8 : Int32) &&& 31).toUInt32).toInt32).toUInt32 >>> ((4 : Int32) &&& 31).toUInt32).toInt32)), (.int (19 : Int32))])) _
              refine XS.iushr X0.here hx rfl (hb hby d5_76) rfl ?_
              show Steps p.tables e below (s₁.setTop (mkF m 77 #[.val (.int ((((xi.toUInt32 >>> ((8 : Int32) &&& 31).toUInt32).toInt32).toUInt32 >>> ((4 : Int32) &&& 31).toUInt32).toInt32)), .val (.int (19 : Int32))] [(.int ((((((xi.toUInt32 >>> ((8 : Int32) &&& 31).toUInt32).toInt32).toUInt32 >>> ((4 : Int32) &&& 31).toUInt32).toInt32).toUInt32 >>> ((1 : Int32) &&& 31).toUInt32).toInt32)), (.int (19 : Int32))])) _
              refine XS.isub X0.here hx rfl (hb hby d5_77) rfl ?_
              show Steps p.tables e below (s₁.setTop (mkF m 78 #[.val (.int ((((xi.toUInt32 >>> ((8 : Int32) &&& 31).toUInt32).toInt32).toUInt32 >>> ((4 : Int32) &&& 31).toUInt32).toInt32)), .val (.int (19 : Int32))] [(.int ((19 : Int32) - ((((((xi.toUInt32 >>> ((8 : Int32) &&& 31).toUInt32).toInt32).toUInt32 >>> ((4 : Int32) &&& 31).toUInt32).toInt32).toUInt32 >>> ((1 : Int32) &&& 31).toUInt32).toInt32)))])) _
              exact retI X0 hx Bd.returns (hb hby d5_78) (k _ rfl)
            · refine XS.icmpNo X0.here hx rfl (hb hby d5_63) rfl (flt hc10).1 ?_
              have k : ∀ (v1 : Int32), v1 = ((17 : Int32) - ((((((((xi.toUInt32 >>> ((8 : Int32) &&& 31).toUInt32).toInt32).toUInt32 >>> ((4 : Int32) &&& 31).toUInt32).toInt32).toUInt32 >>> ((2 : Int32) &&& 31).toUInt32).toInt32).toUInt32 >>> ((1 : Int32) &&& 31).toUInt32).toInt32)) → ∀ (f : JFrame) (acts : List Action), f.method = m → f.locked = none → f.entered = [] → (doReturn e (s₁.setTop f) acts (some (.int v1))).1 = s₁.setFrames fs := fun v1 hv1 => k v1 (hv1.trans (if_neg hc10).symm)
              show Steps p.tables e below (s₁.setTop (mkF m 66 #[.val (.int ((((xi.toUInt32 >>> ((8 : Int32) &&& 31).toUInt32).toInt32).toUInt32 >>> ((4 : Int32) &&& 31).toUInt32).toInt32)), .val (.int (19 : Int32))] [])) _
              refine XS.iinc X0.here hx rfl (hb hby d5_66) rfl (l' := #[.val (.int ((((xi.toUInt32 >>> ((8 : Int32) &&& 31).toUInt32).toInt32).toUInt32 >>> ((4 : Int32) &&& 31).toUInt32).toInt32)), .val (.int (17 : Int32))]) rfl ?_
              show Steps p.tables e below (s₁.setTop (mkF m 69 #[.val (.int ((((xi.toUInt32 >>> ((8 : Int32) &&& 31).toUInt32).toInt32).toUInt32 >>> ((4 : Int32) &&& 31).toUInt32).toInt32)), .val (.int (17 : Int32))] [])) _
              refine XS.iloadN X0.here hx rfl (hb hby d5_69) rfl ?_
              show Steps p.tables e below (s₁.setTop (mkF m 70 #[.val (.int ((((xi.toUInt32 >>> ((8 : Int32) &&& 31).toUInt32).toInt32).toUInt32 >>> ((4 : Int32) &&& 31).toUInt32).toInt32)), .val (.int (17 : Int32))] [(.int ((((xi.toUInt32 >>> ((8 : Int32) &&& 31).toUInt32).toInt32).toUInt32 >>> ((4 : Int32) &&& 31).toUInt32).toInt32))])) _
              refine XS.iconst X0.here hx rfl (hb hby d5_70) ?_
              show Steps p.tables e below (s₁.setTop (mkF m 71 #[.val (.int ((((xi.toUInt32 >>> ((8 : Int32) &&& 31).toUInt32).toInt32).toUInt32 >>> ((4 : Int32) &&& 31).toUInt32).toInt32)), .val (.int (17 : Int32))] [(.int (2 : Int32)), (.int ((((xi.toUInt32 >>> ((8 : Int32) &&& 31).toUInt32).toInt32).toUInt32 >>> ((4 : Int32) &&& 31).toUInt32).toInt32))])) _
              refine XS.iushr X0.here hx rfl (hb hby d5_71) rfl ?_
              show Steps p.tables e below (s₁.setTop (mkF m 72 #[.val (.int ((((xi.toUInt32 >>> ((8 : Int32) &&& 31).toUInt32).toInt32).toUInt32 >>> ((4 : Int32) &&& 31).toUInt32).toInt32)), .val (.int (17 : Int32))] [(.int ((((((xi.toUInt32 >>> ((8 : Int32) &&& 31).toUInt32).toInt32).toUInt32 >>> ((4 : Int32) &&& 31).toUInt32).toInt32).toUInt32 >>> ((2 : Int32) &&& 31).toUInt32).toInt32))])) _
              refine XS.istoreN X0.here hx rfl (hb hby d5_72) rfl (l' := #[.val (.int ((((((xi.toUInt32 >>> ((8 : Int32) &&& 31).toUInt32).toInt32).toUInt32 >>> ((4 : Int32) &&& 31).toUInt32).toInt32).toUInt32 >>> ((2 : Int32) &&& 31).toUInt32).toInt32)), .val (.int (17 : Int32))]) rfl ?_
              show Steps p.tables e below (s₁.setTop (mkF m 73 #[.val (.int ((((((xi.toUInt32 >>> ((8 : Int32) &&& 31).toUInt32).toInt32).toUInt32 >>> ((4 : Int32) &&& 31).toUInt32).toInt32).toUInt32 >>> ((2 : Int32) &&& 31).toUInt32).toInt32)), .val (.int (17 : Int32))] [])) _
              refine XS.iloadN X0.here hx rfl (hb hby d5_73) rfl ?_
              show Steps p.tables e below (s₁.setTop (mkF m 74 #[.val (.int ((((((xi.toUInt32 >>> ((8 : Int32) &&& 31).toUInt32).toInt32).toUInt32 >>> ((4 : Int32) &&& 31).toUInt32).toInt32).toUInt32 >>> ((2 : Int32) &&& 31).toUInt32).toInt32)), .val (.int (17 : Int32))] [(.int (17 : Int32))])) _
              refine XS.iloadN X0.here hx rfl (hb hby d5_74) rfl ?_
              show Steps p.tables e below (s₁.setTop (mkF m 75 #[.val (.int ((((((xi.toUInt32 >>> ((8 : Int32) &&& 31).toUInt32).toInt32).toUInt32 >>> ((4 : Int32) &&& 31).toUInt32).toInt32).toUInt32 >>> ((2 : Int32) &&& 31).toUInt32).toInt32)), .val (.int (17 : Int32))] [(.int ((((((xi.toUInt32 >>> ((8 : Int32) &&& 31).toUInt32).toInt32).toUInt32 >>> ((4 : Int32) &&& 31).toUInt32).toInt32).toUInt32 >>> ((2 : Int32) &&& 31).toUInt32).toInt32)), (.int (17 : Int32))])) _
              refine XS.iconst X0.here hx rfl (hb hby d5_75) ?_
              show Steps p.tables e below (s₁.setTop (mkF m 76 #[.val (.int ((((((xi.toUInt32 >>> ((8 : Int32) &&& 31).toUInt32).toInt32).toUInt32 >>> ((4 : Int32) &&& 31).toUInt32).toInt32).toUInt32 >>> ((2 : Int32) &&& 31).toUInt32).toInt32)), .val (.int (17 : Int32))] [(.int (1 : Int32)), (.int ((((((xi.toUInt32 >>> ((8 : Int32) &&& 31).toUInt32).toInt32).toUInt32 >>> ((4 : Int32) &&& 31).toUInt32).toInt32).toUInt32 >>> ((2 : Int32) &&& 31).toUInt32).toInt32)), (.int (17 : Int32))])) _
              refine XS.iushr X0.here hx rfl (hb hby d5_76) rfl ?_
              show Steps p.tables e below (s₁.setTop (mkF m 77 #[.val (.int ((((((xi.toUInt32 >>> ((8 : Int32) &&& 31).toUInt32).toInt32).toUInt32 >>> ((4 : Int32) &&& 31).toUInt32).toInt32).toUInt32 >>> ((2 : Int32) &&& 31).toUInt32).toInt32)), .val (.int (17 : Int32))] [(.int ((((((((xi.toUInt32 >>> ((8 : Int32) &&& 31).toUInt32).toInt32).toUInt32 >>> ((4 : Int32) &&& 31).toUInt32).toInt32).toUInt32 >>> ((2 : Int32) &&& 31).toUInt32).toInt32).toUInt32 >>> ((1 : Int32) &&& 31).toUInt32).toInt32)), (.int (17 : Int32))])) _
              refine XS.isub X0.here hx rfl (hb hby d5_77) rfl ?_
              show Steps p.tables e below (s₁.setTop (mkF m 78 #[.val (.int ((((((xi.toUInt32 >>> ((8 : Int32) &&& 31).toUInt32).toInt32).toUInt32 >>> ((4 : Int32) &&& 31).toUInt32).toInt32).toUInt32 >>> ((2 : Int32) &&& 31).toUInt32).toInt32)), .val (.int (17 : Int32))] [(.int ((17 : Int32) - ((((((((xi.toUInt32 >>> ((8 : Int32) &&& 31).toUInt32).toInt32).toUInt32 >>> ((4 : Int32) &&& 31).toUInt32).toInt32).toUInt32 >>> ((2 : Int32) &&& 31).toUInt32).toInt32).toUInt32 >>> ((1 : Int32) &&& 31).toUInt32).toInt32)))])) _
              exact retI X0 hx Bd.returns (hb hby d5_78) (k _ rfl)
      · refine XS.icmpNo X0.here hx rfl (hb hby d5_22) rfl (flt hc3).1 ?_
        have k : ∀ (v1 : Int32), v1 = (if ((xi.toUInt32 >>> ((16 : Int32) &&& 31).toUInt32).toInt32) < (256 : Int32) then (if ((xi.toUInt32 >>> ((16 : Int32) &&& 31).toUInt32).toInt32) < (16 : Int32) then (if ((xi.toUInt32 >>> ((16 : Int32) &&& 31).toUInt32).toInt32) < (4 : Int32) then ((15 : Int32) - ((((xi.toUInt32 >>> ((16 : Int32) &&& 31).toUInt32).toInt32).toUInt32 >>> ((1 : Int32) &&& 31).toUInt32).toInt32)) else ((13 : Int32) - ((((((xi.toUInt32 >>> ((16 : Int32) &&& 31).toUInt32).toInt32).toUInt32 >>> ((2 : Int32) &&& 31).toUInt32).toInt32).toUInt32 >>> ((1 : Int32) &&& 31).toUInt32).toInt32))) else (if ((((xi.toUInt32 >>> ((16 : Int32) &&& 31).toUInt32).toInt32).toUInt32 >>> ((4 : Int32) &&& 31).toUInt32).toInt32) < (4 : Int32) then ((11 : Int32) - ((((((xi.toUInt32 >>> ((16 : Int32) &&& 31).toUInt32).toInt32).toUInt32 >>> ((4 : Int32) &&& 31).toUInt32).toInt32).toUInt32 >>> ((1 : Int32) &&& 31).toUInt32).toInt32)) else ((9 : Int32) - ((((((((xi.toUInt32 >>> ((16 : Int32) &&& 31).toUInt32).toInt32).toUInt32 >>> ((4 : Int32) &&& 31).toUInt32).toInt32).toUInt32 >>> ((2 : Int32) &&& 31).toUInt32).toInt32).toUInt32 >>> ((1 : Int32) &&& 31).toUInt32).toInt32)))) else (if ((((xi.toUInt32 >>> ((16 : Int32) &&& 31).toUInt32).toInt32).toUInt32 >>> ((8 : Int32) &&& 31).toUInt32).toInt32) < (16 : Int32) then (if ((((xi.toUInt32 >>> ((16 : Int32) &&& 31).toUInt32).toInt32).toUInt32 >>> ((8 : Int32) &&& 31).toUInt32).toInt32) < (4 : Int32) then ((7 : Int32) - ((((((xi.toUInt32 >>> ((16 : Int32) &&& 31).toUInt32).toInt32).toUInt32 >>> ((8 : Int32) &&& 31).toUInt32).toInt32).toUInt32 >>> ((1 : Int32) &&& 31).toUInt32).toInt32)) else ((5 : Int32) - ((((((((xi.toUInt32 >>> ((16 : Int32) &&& 31).toUInt32).toInt32).toUInt32 >>> ((8 : Int32) &&& 31).toUInt32).toInt32).toUInt32 >>> ((2 : Int32) &&& 31).toUInt32).toInt32).toUInt32 >>> ((1 : Int32) &&& 31).toUInt32).toInt32))) else (if ((((((xi.toUInt32 >>> ((16 : Int32) &&& 31).toUInt32).toInt32).toUInt32 >>> ((8 : Int32) &&& 31).toUInt32).toInt32).toUInt32 >>> ((4 : Int32) &&& 31).toUInt32).toInt32) < (4 : Int32) then ((3 : Int32) - ((((((((xi.toUInt32 >>> ((16 : Int32) &&& 31).toUInt32).toInt32).toUInt32 >>> ((8 : Int32) &&& 31).toUInt32).toInt32).toUInt32 >>> ((4 : Int32) &&& 31).toUInt32).toInt32).toUInt32 >>> ((1 : Int32) &&& 31).toUInt32).toInt32)) else ((1 : Int32) - ((((((((((xi.toUInt32 >>> ((16 : Int32) &&& 31).toUInt32).toInt32).toUInt32 >>> ((8 : Int32) &&& 31).toUInt32).toInt32).toUInt32 >>> ((4 : Int32) &&& 31).toUInt32).toInt32).toUInt32 >>> ((2 : Int32) &&& 31).toUInt32).toInt32).toUInt32 >>> ((1 : Int32) &&& 31).toUInt32).toInt32))))) → ∀ (f : JFrame) (acts : List Action), f.method = m → f.locked = none → f.entered = [] → (doReturn e (s₁.setTop f) acts (some (.int v1))).1 = s₁.setFrames fs := fun v1 hv1 => k v1 (hv1.trans (if_neg hc3).symm)
        show Steps p.tables e below (s₁.setTop (mkF m 25 #[.val (.int xi), .val (.int (31 : Int32))] [])) _
        refine XS.iinc X0.here hx rfl (hb hby d5_25) rfl (l' := #[.val (.int xi), .val (.int (15 : Int32))]) rfl ?_
        show Steps p.tables e below (s₁.setTop (mkF m 28 #[.val (.int xi), .val (.int (15 : Int32))] [])) _
        refine XS.iloadN X0.here hx rfl (hb hby d5_28) rfl ?_
        show Steps p.tables e below (s₁.setTop (mkF m 29 #[.val (.int xi), .val (.int (15 : Int32))] [(.int xi)])) _
        refine XS.bipush X0.here hx rfl (hb hby d5_29) ?_
        show Steps p.tables e below (s₁.setTop (mkF m 31 #[.val (.int xi), .val (.int (15 : Int32))] [(.int (16 : Int32)), (.int xi)])) _
        refine XS.iushr X0.here hx rfl (hb hby d5_31) rfl ?_
        show Steps p.tables e below (s₁.setTop (mkF m 32 #[.val (.int xi), .val (.int (15 : Int32))] [(.int ((xi.toUInt32 >>> ((16 : Int32) &&& 31).toUInt32).toInt32))])) _
        refine XS.istoreN X0.here hx rfl (hb hby d5_32) rfl (l' := #[.val (.int ((xi.toUInt32 >>> ((16 : Int32) &&& 31).toUInt32).toInt32)), .val (.int (15 : Int32))]) rfl ?_
        show Steps p.tables e below (s₁.setTop (mkF m 33 #[.val (.int ((xi.toUInt32 >>> ((16 : Int32) &&& 31).toUInt32).toInt32)), .val (.int (15 : Int32))] [])) _
        refine XS.iloadN X0.here hx rfl (hb hby d5_33) rfl ?_
        show Steps p.tables e below (s₁.setTop (mkF m 34 #[.val (.int ((xi.toUInt32 >>> ((16 : Int32) &&& 31).toUInt32).toInt32)), .val (.int (15 : Int32))] [(.int ((xi.toUInt32 >>> ((16 : Int32) &&& 31).toUInt32).toInt32))])) _
        refine XS.sipush X0.here hx rfl (hb hby d5_34) ?_
        show Steps p.tables e below (s₁.setTop (mkF m 37 #[.val (.int ((xi.toUInt32 >>> ((16 : Int32) &&& 31).toUInt32).toInt32)), .val (.int (15 : Int32))] [(.int (256 : Int32)), (.int ((xi.toUInt32 >>> ((16 : Int32) &&& 31).toUInt32).toInt32))])) _
        by_cases hc11 : ((xi.toUInt32 >>> ((16 : Int32) &&& 31).toUInt32).toInt32) < (256 : Int32)
        · refine XS.icmpYes X0.here hx rfl (pc0 := 37) (pc' := 48) rfl (hb hby d5_37) rfl (tlt hc11).1 (by decide) (by decide) ?_
          have k : ∀ (v1 : Int32), v1 = (if ((xi.toUInt32 >>> ((16 : Int32) &&& 31).toUInt32).toInt32) < (16 : Int32) then (if ((xi.toUInt32 >>> ((16 : Int32) &&& 31).toUInt32).toInt32) < (4 : Int32) then ((15 : Int32) - ((((xi.toUInt32 >>> ((16 : Int32) &&& 31).toUInt32).toInt32).toUInt32 >>> ((1 : Int32) &&& 31).toUInt32).toInt32)) else ((13 : Int32) - ((((((xi.toUInt32 >>> ((16 : Int32) &&& 31).toUInt32).toInt32).toUInt32 >>> ((2 : Int32) &&& 31).toUInt32).toInt32).toUInt32 >>> ((1 : Int32) &&& 31).toUInt32).toInt32))) else (if ((((xi.toUInt32 >>> ((16 : Int32) &&& 31).toUInt32).toInt32).toUInt32 >>> ((4 : Int32) &&& 31).toUInt32).toInt32) < (4 : Int32) then ((11 : Int32) - ((((((xi.toUInt32 >>> ((16 : Int32) &&& 31).toUInt32).toInt32).toUInt32 >>> ((4 : Int32) &&& 31).toUInt32).toInt32).toUInt32 >>> ((1 : Int32) &&& 31).toUInt32).toInt32)) else ((9 : Int32) - ((((((((xi.toUInt32 >>> ((16 : Int32) &&& 31).toUInt32).toInt32).toUInt32 >>> ((4 : Int32) &&& 31).toUInt32).toInt32).toUInt32 >>> ((2 : Int32) &&& 31).toUInt32).toInt32).toUInt32 >>> ((1 : Int32) &&& 31).toUInt32).toInt32)))) → ∀ (f : JFrame) (acts : List Action), f.method = m → f.locked = none → f.entered = [] → (doReturn e (s₁.setTop f) acts (some (.int v1))).1 = s₁.setFrames fs := fun v1 hv1 => k v1 (hv1.trans (if_pos hc11).symm)
          show Steps p.tables e below (s₁.setTop (mkF m 48 #[.val (.int ((xi.toUInt32 >>> ((16 : Int32) &&& 31).toUInt32).toInt32)), .val (.int (15 : Int32))] [])) _
          refine XS.iloadN X0.here hx rfl (hb hby d5_48) rfl ?_
          show Steps p.tables e below (s₁.setTop (mkF m 49 #[.val (.int ((xi.toUInt32 >>> ((16 : Int32) &&& 31).toUInt32).toInt32)), .val (.int (15 : Int32))] [(.int ((xi.toUInt32 >>> ((16 : Int32) &&& 31).toUInt32).toInt32))])) _
          refine XS.bipush X0.here hx rfl (hb hby d5_49) ?_
          show Steps p.tables e below (s₁.setTop (mkF m 51 #[.val (.int ((xi.toUInt32 >>> ((16 : Int32) &&& 31).toUInt32).toInt32)), .val (.int (15 : Int32))] [(.int (16 : Int32)), (.int ((xi.toUInt32 >>> ((16 : Int32) &&& 31).toUInt32).toInt32))])) _
          by_cases hc12 : ((xi.toUInt32 >>> ((16 : Int32) &&& 31).toUInt32).toInt32) < (16 : Int32)
          · refine XS.icmpYes X0.here hx rfl (pc0 := 51) (pc' := 61) rfl (hb hby d5_51) rfl (tlt hc12).1 (by decide) (by decide) ?_
            have k : ∀ (v1 : Int32), v1 = (if ((xi.toUInt32 >>> ((16 : Int32) &&& 31).toUInt32).toInt32) < (4 : Int32) then ((15 : Int32) - ((((xi.toUInt32 >>> ((16 : Int32) &&& 31).toUInt32).toInt32).toUInt32 >>> ((1 : Int32) &&& 31).toUInt32).toInt32)) else ((13 : Int32) - ((((((xi.toUInt32 >>> ((16 : Int32) &&& 31).toUInt32).toInt32).toUInt32 >>> ((2 : Int32) &&& 31).toUInt32).toInt32).toUInt32 >>> ((1 : Int32) &&& 31).toUInt32).toInt32))) → ∀ (f : JFrame) (acts : List Action), f.method = m → f.locked = none → f.entered = [] → (doReturn e (s₁.setTop f) acts (some (.int v1))).1 = s₁.setFrames fs := fun v1 hv1 => k v1 (hv1.trans (if_pos hc12).symm)
            show Steps p.tables e below (s₁.setTop (mkF m 61 #[.val (.int ((xi.toUInt32 >>> ((16 : Int32) &&& 31).toUInt32).toInt32)), .val (.int (15 : Int32))] [])) _
            refine XS.iloadN X0.here hx rfl (hb hby d5_61) rfl ?_
            show Steps p.tables e below (s₁.setTop (mkF m 62 #[.val (.int ((xi.toUInt32 >>> ((16 : Int32) &&& 31).toUInt32).toInt32)), .val (.int (15 : Int32))] [(.int ((xi.toUInt32 >>> ((16 : Int32) &&& 31).toUInt32).toInt32))])) _
            refine XS.iconst X0.here hx rfl (hb hby d5_62) ?_
            show Steps p.tables e below (s₁.setTop (mkF m 63 #[.val (.int ((xi.toUInt32 >>> ((16 : Int32) &&& 31).toUInt32).toInt32)), .val (.int (15 : Int32))] [(.int (4 : Int32)), (.int ((xi.toUInt32 >>> ((16 : Int32) &&& 31).toUInt32).toInt32))])) _
            by_cases hc13 : ((xi.toUInt32 >>> ((16 : Int32) &&& 31).toUInt32).toInt32) < (4 : Int32)
            · refine XS.icmpYes X0.here hx rfl (pc0 := 63) (pc' := 73) rfl (hb hby d5_63) rfl (tlt hc13).1 (by decide) (by decide) ?_
              have k : ∀ (v1 : Int32), v1 = ((15 : Int32) - ((((xi.toUInt32 >>> ((16 : Int32) &&& 31).toUInt32).toInt32).toUInt32 >>> ((1 : Int32) &&& 31).toUInt32).toInt32)) → ∀ (f : JFrame) (acts : List Action), f.method = m → f.locked = none → f.entered = [] → (doReturn e (s₁.setTop f) acts (some (.int v1))).1 = s₁.setFrames fs := fun v1 hv1 => k v1 (hv1.trans (if_pos hc13).symm)
              show Steps p.tables e below (s₁.setTop (mkF m 73 #[.val (.int ((xi.toUInt32 >>> ((16 : Int32) &&& 31).toUInt32).toInt32)), .val (.int (15 : Int32))] [])) _
              refine XS.iloadN X0.here hx rfl (hb hby d5_73) rfl ?_
              show Steps p.tables e below (s₁.setTop (mkF m 74 #[.val (.int ((xi.toUInt32 >>> ((16 : Int32) &&& 31).toUInt32).toInt32)), .val (.int (15 : Int32))] [(.int (15 : Int32))])) _
              refine XS.iloadN X0.here hx rfl (hb hby d5_74) rfl ?_
              show Steps p.tables e below (s₁.setTop (mkF m 75 #[.val (.int ((xi.toUInt32 >>> ((16 : Int32) &&& 31).toUInt32).toInt32)), .val (.int (15 : Int32))] [(.int ((xi.toUInt32 >>> ((16 : Int32) &&& 31).toUInt32).toInt32)), (.int (15 : Int32))])) _
              refine XS.iconst X0.here hx rfl (hb hby d5_75) ?_
              show Steps p.tables e below (s₁.setTop (mkF m 76 #[.val (.int ((xi.toUInt32 >>> ((16 : Int32) &&& 31).toUInt32).toInt32)), .val (.int (15 : Int32))] [(.int (1 : Int32)), (.int ((xi.toUInt32 >>> ((16 : Int32) &&& 31).toUInt32).toInt32)), (.int (15 : Int32))])) _
              refine XS.iushr X0.here hx rfl (hb hby d5_76) rfl ?_
              show Steps p.tables e below (s₁.setTop (mkF m 77 #[.val (.int ((xi.toUInt32 >>> ((16 : Int32) &&& 31).toUInt32).toInt32)), .val (.int (15 : Int32))] [(.int ((((xi.toUInt32 >>> ((16 : Int32) &&& 31).toUInt32).toInt32).toUInt32 >>> ((1 : Int32) &&& 31).toUInt32).toInt32)), (.int (15 : Int32))])) _
              refine XS.isub X0.here hx rfl (hb hby d5_77) rfl ?_
              show Steps p.tables e below (s₁.setTop (mkF m 78 #[.val (.int ((xi.toUInt32 >>> ((16 : Int32) &&& 31).toUInt32).toInt32)), .val (.int (15 : Int32))] [(.int ((15 : Int32) - ((((xi.toUInt32 >>> ((16 : Int32) &&& 31).toUInt32).toInt32).toUInt32 >>> ((1 : Int32) &&& 31).toUInt32).toInt32)))])) _
              exact retI X0 hx Bd.returns (hb hby d5_78) (k _ rfl)
            · refine XS.icmpNo X0.here hx rfl (hb hby d5_63) rfl (flt hc13).1 ?_
              have k : ∀ (v1 : Int32), v1 = ((13 : Int32) - ((((((xi.toUInt32 >>> ((16 : Int32) &&& 31).toUInt32).toInt32).toUInt32 >>> ((2 : Int32) &&& 31).toUInt32).toInt32).toUInt32 >>> ((1 : Int32) &&& 31).toUInt32).toInt32)) → ∀ (f : JFrame) (acts : List Action), f.method = m → f.locked = none → f.entered = [] → (doReturn e (s₁.setTop f) acts (some (.int v1))).1 = s₁.setFrames fs := fun v1 hv1 => k v1 (hv1.trans (if_neg hc13).symm)
              show Steps p.tables e below (s₁.setTop (mkF m 66 #[.val (.int ((xi.toUInt32 >>> ((16 : Int32) &&& 31).toUInt32).toInt32)), .val (.int (15 : Int32))] [])) _
              refine XS.iinc X0.here hx rfl (hb hby d5_66) rfl (l' := #[.val (.int ((xi.toUInt32 >>> ((16 : Int32) &&& 31).toUInt32).toInt32)), .val (.int (13 : Int32))]) rfl ?_
              show Steps p.tables e below (s₁.setTop (mkF m 69 #[.val (.int ((xi.toUInt32 >>> ((16 : Int32) &&& 31).toUInt32).toInt32)), .val (.int (13 : Int32))] [])) _
              refine XS.iloadN X0.here hx rfl (hb hby d5_69) rfl ?_
              show Steps p.tables e below (s₁.setTop (mkF m 70 #[.val (.int ((xi.toUInt32 >>> ((16 : Int32) &&& 31).toUInt32).toInt32)), .val (.int (13 : Int32))] [(.int ((xi.toUInt32 >>> ((16 : Int32) &&& 31).toUInt32).toInt32))])) _
              refine XS.iconst X0.here hx rfl (hb hby d5_70) ?_
              show Steps p.tables e below (s₁.setTop (mkF m 71 #[.val (.int ((xi.toUInt32 >>> ((16 : Int32) &&& 31).toUInt32).toInt32)), .val (.int (13 : Int32))] [(.int (2 : Int32)), (.int ((xi.toUInt32 >>> ((16 : Int32) &&& 31).toUInt32).toInt32))])) _
              refine XS.iushr X0.here hx rfl (hb hby d5_71) rfl ?_
              show Steps p.tables e below (s₁.setTop (mkF m 72 #[.val (.int ((xi.toUInt32 >>> ((16 : Int32) &&& 31).toUInt32).toInt32)), .val (.int (13 : Int32))] [(.int ((((xi.toUInt32 >>> ((16 : Int32) &&& 31).toUInt32).toInt32).toUInt32 >>> ((2 : Int32) &&& 31).toUInt32).toInt32))])) _
              refine XS.istoreN X0.here hx rfl (hb hby d5_72) rfl (l' := #[.val (.int ((((xi.toUInt32 >>> ((16 : Int32) &&& 31).toUInt32).toInt32).toUInt32 >>> ((2 : Int32) &&& 31).toUInt32).toInt32)), .val (.int (13 : Int32))]) rfl ?_
              show Steps p.tables e below (s₁.setTop (mkF m 73 #[.val (.int ((((xi.toUInt32 >>> ((16 : Int32) &&& 31).toUInt32).toInt32).toUInt32 >>> ((2 : Int32) &&& 31).toUInt32).toInt32)), .val (.int (13 : Int32))] [])) _
              refine XS.iloadN X0.here hx rfl (hb hby d5_73) rfl ?_
              show Steps p.tables e below (s₁.setTop (mkF m 74 #[.val (.int ((((xi.toUInt32 >>> ((16 : Int32) &&& 31).toUInt32).toInt32).toUInt32 >>> ((2 : Int32) &&& 31).toUInt32).toInt32)), .val (.int (13 : Int32))] [(.int (13 : Int32))])) _
              refine XS.iloadN X0.here hx rfl (hb hby d5_74) rfl ?_
              show Steps p.tables e below (s₁.setTop (mkF m 75 #[.val (.int ((((xi.toUInt32 >>> ((16 : Int32) &&& 31).toUInt32).toInt32).toUInt32 >>> ((2 : Int32) &&& 31).toUInt32).toInt32)), .val (.int (13 : Int32))] [(.int ((((xi.toUInt32 >>> ((16 : Int32) &&& 31).toUInt32).toInt32).toUInt32 >>> ((2 : Int32) &&& 31).toUInt32).toInt32)), (.int (13 : Int32))])) _
              refine XS.iconst X0.here hx rfl (hb hby d5_75) ?_
              show Steps p.tables e below (s₁.setTop (mkF m 76 #[.val (.int ((((xi.toUInt32 >>> ((16 : Int32) &&& 31).toUInt32).toInt32).toUInt32 >>> ((2 : Int32) &&& 31).toUInt32).toInt32)), .val (.int (13 : Int32))] [(.int (1 : Int32)), (.int ((((xi.toUInt32 >>> ((16 : Int32) &&& 31).toUInt32).toInt32).toUInt32 >>> ((2 : Int32) &&& 31).toUInt32).toInt32)), (.int (13 : Int32))])) _
              refine XS.iushr X0.here hx rfl (hb hby d5_76) rfl ?_
              show Steps p.tables e below (s₁.setTop (mkF m 77 #[.val (.int ((((xi.toUInt32 >>> ((16 : Int32) &&& 31).toUInt32).toInt32).toUInt32 >>> ((2 : Int32) &&& 31).toUInt32).toInt32)), .val (.int (13 : Int32))] [(.int ((((((xi.toUInt32 >>> ((16 : Int32) &&& 31).toUInt32).toInt32).toUInt32 >>> ((2 : Int32) &&& 31).toUInt32).toInt32).toUInt32 >>> ((1 : Int32) &&& 31).toUInt32).toInt32)), (.int (13 : Int32))])) _
              refine XS.isub X0.here hx rfl (hb hby d5_77) rfl ?_
              show Steps p.tables e below (s₁.setTop (mkF m 78 #[.val (.int ((((xi.toUInt32 >>> ((16 : Int32) &&& 31).toUInt32).toInt32).toUInt32 >>> ((2 : Int32) &&& 31).toUInt32).toInt32)), .val (.int (13 : Int32))] [(.int ((13 : Int32) - ((((((xi.toUInt32 >>> ((16 : Int32) &&& 31).toUInt32).toInt32).toUInt32 >>> ((2 : Int32) &&& 31).toUInt32).toInt32).toUInt32 >>> ((1 : Int32) &&& 31).toUInt32).toInt32)))])) _
              exact retI X0 hx Bd.returns (hb hby d5_78) (k _ rfl)
          · refine XS.icmpNo X0.here hx rfl (hb hby d5_51) rfl (flt hc12).1 ?_
            have k : ∀ (v1 : Int32), v1 = (if ((((xi.toUInt32 >>> ((16 : Int32) &&& 31).toUInt32).toInt32).toUInt32 >>> ((4 : Int32) &&& 31).toUInt32).toInt32) < (4 : Int32) then ((11 : Int32) - ((((((xi.toUInt32 >>> ((16 : Int32) &&& 31).toUInt32).toInt32).toUInt32 >>> ((4 : Int32) &&& 31).toUInt32).toInt32).toUInt32 >>> ((1 : Int32) &&& 31).toUInt32).toInt32)) else ((9 : Int32) - ((((((((xi.toUInt32 >>> ((16 : Int32) &&& 31).toUInt32).toInt32).toUInt32 >>> ((4 : Int32) &&& 31).toUInt32).toInt32).toUInt32 >>> ((2 : Int32) &&& 31).toUInt32).toInt32).toUInt32 >>> ((1 : Int32) &&& 31).toUInt32).toInt32))) → ∀ (f : JFrame) (acts : List Action), f.method = m → f.locked = none → f.entered = [] → (doReturn e (s₁.setTop f) acts (some (.int v1))).1 = s₁.setFrames fs := fun v1 hv1 => k v1 (hv1.trans (if_neg hc12).symm)
            show Steps p.tables e below (s₁.setTop (mkF m 54 #[.val (.int ((xi.toUInt32 >>> ((16 : Int32) &&& 31).toUInt32).toInt32)), .val (.int (15 : Int32))] [])) _
            refine XS.iinc X0.here hx rfl (hb hby d5_54) rfl (l' := #[.val (.int ((xi.toUInt32 >>> ((16 : Int32) &&& 31).toUInt32).toInt32)), .val (.int (11 : Int32))]) rfl ?_
            show Steps p.tables e below (s₁.setTop (mkF m 57 #[.val (.int ((xi.toUInt32 >>> ((16 : Int32) &&& 31).toUInt32).toInt32)), .val (.int (11 : Int32))] [])) _
            refine XS.iloadN X0.here hx rfl (hb hby d5_57) rfl ?_
            show Steps p.tables e below (s₁.setTop (mkF m 58 #[.val (.int ((xi.toUInt32 >>> ((16 : Int32) &&& 31).toUInt32).toInt32)), .val (.int (11 : Int32))] [(.int ((xi.toUInt32 >>> ((16 : Int32) &&& 31).toUInt32).toInt32))])) _
            refine XS.iconst X0.here hx rfl (hb hby d5_58) ?_
            show Steps p.tables e below (s₁.setTop (mkF m 59 #[.val (.int ((xi.toUInt32 >>> ((16 : Int32) &&& 31).toUInt32).toInt32)), .val (.int (11 : Int32))] [(.int (4 : Int32)), (.int ((xi.toUInt32 >>> ((16 : Int32) &&& 31).toUInt32).toInt32))])) _
            refine XS.iushr X0.here hx rfl (hb hby d5_59) rfl ?_
            show Steps p.tables e below (s₁.setTop (mkF m 60 #[.val (.int ((xi.toUInt32 >>> ((16 : Int32) &&& 31).toUInt32).toInt32)), .val (.int (11 : Int32))] [(.int ((((xi.toUInt32 >>> ((16 : Int32) &&& 31).toUInt32).toInt32).toUInt32 >>> ((4 : Int32) &&& 31).toUInt32).toInt32))])) _
            refine XS.istoreN X0.here hx rfl (hb hby d5_60) rfl (l' := #[.val (.int ((((xi.toUInt32 >>> ((16 : Int32) &&& 31).toUInt32).toInt32).toUInt32 >>> ((4 : Int32) &&& 31).toUInt32).toInt32)), .val (.int (11 : Int32))]) rfl ?_
            show Steps p.tables e below (s₁.setTop (mkF m 61 #[.val (.int ((((xi.toUInt32 >>> ((16 : Int32) &&& 31).toUInt32).toInt32).toUInt32 >>> ((4 : Int32) &&& 31).toUInt32).toInt32)), .val (.int (11 : Int32))] [])) _
            refine XS.iloadN X0.here hx rfl (hb hby d5_61) rfl ?_
            show Steps p.tables e below (s₁.setTop (mkF m 62 #[.val (.int ((((xi.toUInt32 >>> ((16 : Int32) &&& 31).toUInt32).toInt32).toUInt32 >>> ((4 : Int32) &&& 31).toUInt32).toInt32)), .val (.int (11 : Int32))] [(.int ((((xi.toUInt32 >>> ((16 : Int32) &&& 31).toUInt32).toInt32).toUInt32 >>> ((4 : Int32) &&& 31).toUInt32).toInt32))])) _
            refine XS.iconst X0.here hx rfl (hb hby d5_62) ?_
            show Steps p.tables e below (s₁.setTop (mkF m 63 #[.val (.int ((((xi.toUInt32 >>> ((16 : Int32) &&& 31).toUInt32).toInt32).toUInt32 >>> ((4 : Int32) &&& 31).toUInt32).toInt32)), .val (.int (11 : Int32))] [(.int (4 : Int32)), (.int ((((xi.toUInt32 >>> ((16 : Int32) &&& 31).toUInt32).toInt32).toUInt32 >>> ((4 : Int32) &&& 31).toUInt32).toInt32))])) _
            by_cases hc14 : ((((xi.toUInt32 >>> ((16 : Int32) &&& 31).toUInt32).toInt32).toUInt32 >>> ((4 : Int32) &&& 31).toUInt32).toInt32) < (4 : Int32)
            · refine XS.icmpYes X0.here hx rfl (pc0 := 63) (pc' := 73) rfl (hb hby d5_63) rfl (tlt hc14).1 (by decide) (by decide) ?_
              have k : ∀ (v1 : Int32), v1 = ((11 : Int32) - ((((((xi.toUInt32 >>> ((16 : Int32) &&& 31).toUInt32).toInt32).toUInt32 >>> ((4 : Int32) &&& 31).toUInt32).toInt32).toUInt32 >>> ((1 : Int32) &&& 31).toUInt32).toInt32)) → ∀ (f : JFrame) (acts : List Action), f.method = m → f.locked = none → f.entered = [] → (doReturn e (s₁.setTop f) acts (some (.int v1))).1 = s₁.setFrames fs := fun v1 hv1 => k v1 (hv1.trans (if_pos hc14).symm)
              show Steps p.tables e below (s₁.setTop (mkF m 73 #[.val (.int ((((xi.toUInt32 >>> ((16 : Int32) &&& 31).toUInt32).toInt32).toUInt32 >>> ((4 : Int32) &&& 31).toUInt32).toInt32)), .val (.int (11 : Int32))] [])) _
              refine XS.iloadN X0.here hx rfl (hb hby d5_73) rfl ?_
              show Steps p.tables e below (s₁.setTop (mkF m 74 #[.val (.int ((((xi.toUInt32 >>> ((16 : Int32) &&& 31).toUInt32).toInt32).toUInt32 >>> ((4 : Int32) &&& 31).toUInt32).toInt32)), .val (.int (11 : Int32))] [(.int (11 : Int32))])) _
              refine XS.iloadN X0.here hx rfl (hb hby d5_74) rfl ?_
              show Steps p.tables e below (s₁.setTop (mkF m 75 #[.val (.int ((((xi.toUInt32 >>> ((16 : Int32) &&& 31).toUInt32).toInt32).toUInt32 >>> ((4 : Int32) &&& 31).toUInt32).toInt32)), .val (.int (11 : Int32))] [(.int ((((xi.toUInt32 >>> ((16 : Int32) &&& 31).toUInt32).toInt32).toUInt32 >>> ((4 : Int32) &&& 31).toUInt32).toInt32)), (.int (11 : Int32))])) _
              refine XS.iconst X0.here hx rfl (hb hby d5_75) ?_
              show Steps p.tables e below (s₁.setTop (mkF m 76 #[.val (.int ((((xi.toUInt32 >>> ((16 : Int32) &&& 31).toUInt32).toInt32).toUInt32 >>> ((4 : Int32) &&& 31).toUInt32).toInt32)), .val (.int (11 : Int32))] [(.int (1 : Int32)), (.int ((((xi.toUInt32 >>> ((16 : Int32) &&& 31).toUInt32).toInt32).toUInt32 >>> ((4 : Int32) &&& 31).toUInt32).toInt32)), (.int (11 : Int32))])) _
              refine XS.iushr X0.here hx rfl (hb hby d5_76) rfl ?_
              show Steps p.tables e below (s₁.setTop (mkF m 77 #[.val (.int ((((xi.toUInt32 >>> ((16 : Int32) &&& 31).toUInt32).toInt32).toUInt32 >>> ((4 : Int32) &&& 31).toUInt32).toInt32)), .val (.int (11 : Int32))] [(.int ((((((xi.toUInt32 >>> ((16 : Int32) &&& 31).toUInt32).toInt32).toUInt32 >>> ((4 : Int32) &&& 31).toUInt32).toInt32).toUInt32 >>> ((1 : Int32) &&& 31).toUInt32).toInt32)), (.int (11 : Int32))])) _
              refine XS.isub X0.here hx rfl (hb hby d5_77) rfl ?_
              show Steps p.tables e below (s₁.setTop (mkF m 78 #[.val (.int ((((xi.toUInt32 >>> ((16 : Int32) &&& 31).toUInt32).toInt32).toUInt32 >>> ((4 : Int32) &&& 31).toUInt32).toInt32)), .val (.int (11 : Int32))] [(.int ((11 : Int32) - ((((((xi.toUInt32 >>> ((16 : Int32) &&& 31).toUInt32).toInt32).toUInt32 >>> ((4 : Int32) &&& 31).toUInt32).toInt32).toUInt32 >>> ((1 : Int32) &&& 31).toUInt32).toInt32)))])) _
              exact retI X0 hx Bd.returns (hb hby d5_78) (k _ rfl)
            · refine XS.icmpNo X0.here hx rfl (hb hby d5_63) rfl (flt hc14).1 ?_
              have k : ∀ (v1 : Int32), v1 = ((9 : Int32) - ((((((((xi.toUInt32 >>> ((16 : Int32) &&& 31).toUInt32).toInt32).toUInt32 >>> ((4 : Int32) &&& 31).toUInt32).toInt32).toUInt32 >>> ((2 : Int32) &&& 31).toUInt32).toInt32).toUInt32 >>> ((1 : Int32) &&& 31).toUInt32).toInt32)) → ∀ (f : JFrame) (acts : List Action), f.method = m → f.locked = none → f.entered = [] → (doReturn e (s₁.setTop f) acts (some (.int v1))).1 = s₁.setFrames fs := fun v1 hv1 => k v1 (hv1.trans (if_neg hc14).symm)
              show Steps p.tables e below (s₁.setTop (mkF m 66 #[.val (.int ((((xi.toUInt32 >>> ((16 : Int32) &&& 31).toUInt32).toInt32).toUInt32 >>> ((4 : Int32) &&& 31).toUInt32).toInt32)), .val (.int (11 : Int32))] [])) _
              refine XS.iinc X0.here hx rfl (hb hby d5_66) rfl (l' := #[.val (.int ((((xi.toUInt32 >>> ((16 : Int32) &&& 31).toUInt32).toInt32).toUInt32 >>> ((4 : Int32) &&& 31).toUInt32).toInt32)), .val (.int (9 : Int32))]) rfl ?_
              show Steps p.tables e below (s₁.setTop (mkF m 69 #[.val (.int ((((xi.toUInt32 >>> ((16 : Int32) &&& 31).toUInt32).toInt32).toUInt32 >>> ((4 : Int32) &&& 31).toUInt32).toInt32)), .val (.int (9 : Int32))] [])) _
              refine XS.iloadN X0.here hx rfl (hb hby d5_69) rfl ?_
              show Steps p.tables e below (s₁.setTop (mkF m 70 #[.val (.int ((((xi.toUInt32 >>> ((16 : Int32) &&& 31).toUInt32).toInt32).toUInt32 >>> ((4 : Int32) &&& 31).toUInt32).toInt32)), .val (.int (9 : Int32))] [(.int ((((xi.toUInt32 >>> ((16 : Int32) &&& 31).toUInt32).toInt32).toUInt32 >>> ((4 : Int32) &&& 31).toUInt32).toInt32))])) _
              refine XS.iconst X0.here hx rfl (hb hby d5_70) ?_
              show Steps p.tables e below (s₁.setTop (mkF m 71 #[.val (.int ((((xi.toUInt32 >>> ((16 : Int32) &&& 31).toUInt32).toInt32).toUInt32 >>> ((4 : Int32) &&& 31).toUInt32).toInt32)), .val (.int (9 : Int32))] [(.int (2 : Int32)), (.int ((((xi.toUInt32 >>> ((16 : Int32) &&& 31).toUInt32).toInt32).toUInt32 >>> ((4 : Int32) &&& 31).toUInt32).toInt32))])) _
              refine XS.iushr X0.here hx rfl (hb hby d5_71) rfl ?_
              show Steps p.tables e below (s₁.setTop (mkF m 72 #[.val (.int ((((xi.toUInt32 >>> ((16 : Int32) &&& 31).toUInt32).toInt32).toUInt32 >>> ((4 : Int32) &&& 31).toUInt32).toInt32)), .val (.int (9 : Int32))] [(.int ((((((xi.toUInt32 >>> ((16 : Int32) &&& 31).toUInt32).toInt32).toUInt32 >>> ((4 : Int32) &&& 31).toUInt32).toInt32).toUInt32 >>> ((2 : Int32) &&& 31).toUInt32).toInt32))])) _
              refine XS.istoreN X0.here hx rfl (hb hby d5_72) rfl (l' := #[.val (.int ((((((xi.toUInt32 >>> ((16 : Int32) &&& 31).toUInt32).toInt32).toUInt32 >>> ((4 : Int32) &&& 31).toUInt32).toInt32).toUInt32 >>> ((2 : Int32) &&& 31).toUInt32).toInt32)), .val (.int (9 : Int32))]) rfl ?_
              show Steps p.tables e below (s₁.setTop (mkF m 73 #[.val (.int ((((((xi.toUInt32 >>> ((16 : Int32) &&& 31).toUInt32).toInt32).toUInt32 >>> ((4 : Int32) &&& 31).toUInt32).toInt32).toUInt32 >>> ((2 : Int32) &&& 31).toUInt32).toInt32)), .val (.int (9 : Int32))] [])) _
              refine XS.iloadN X0.here hx rfl (hb hby d5_73) rfl ?_
              show Steps p.tables e below (s₁.setTop (mkF m 74 #[.val (.int ((((((xi.toUInt32 >>> ((16 : Int32) &&& 31).toUInt32).toInt32).toUInt32 >>> ((4 : Int32) &&& 31).toUInt32).toInt32).toUInt32 >>> ((2 : Int32) &&& 31).toUInt32).toInt32)), .val (.int (9 : Int32))] [(.int (9 : Int32))])) _
              refine XS.iloadN X0.here hx rfl (hb hby d5_74) rfl ?_
              show Steps p.tables e below (s₁.setTop (mkF m 75 #[.val (.int ((((((xi.toUInt32 >>> ((16 : Int32) &&& 31).toUInt32).toInt32).toUInt32 >>> ((4 : Int32) &&& 31).toUInt32).toInt32).toUInt32 >>> ((2 : Int32) &&& 31).toUInt32).toInt32)), .val (.int (9 : Int32))] [(.int ((((((xi.toUInt32 >>> ((16 : Int32) &&& 31).toUInt32).toInt32).toUInt32 >>> ((4 : Int32) &&& 31).toUInt32).toInt32).toUInt32 >>> ((2 : Int32) &&& 31).toUInt32).toInt32)), (.int (9 : Int32))])) _
              refine XS.iconst X0.here hx rfl (hb hby d5_75) ?_
              show Steps p.tables e below (s₁.setTop (mkF m 76 #[.val (.int ((((((xi.toUInt32 >>> ((16 : Int32) &&& 31).toUInt32).toInt32).toUInt32 >>> ((4 : Int32) &&& 31).toUInt32).toInt32).toUInt32 >>> ((2 : Int32) &&& 31).toUInt32).toInt32)), .val (.int (9 : Int32))] [(.int (1 : Int32)), (.int ((((((xi.toUInt32 >>> ((16 : Int32) &&& 31).toUInt32).toInt32).toUInt32 >>> ((4 : Int32) &&& 31).toUInt32).toInt32).toUInt32 >>> ((2 : Int32) &&& 31).toUInt32).toInt32)), (.int (9 : Int32))])) _
              refine XS.iushr X0.here hx rfl (hb hby d5_76) rfl ?_
              show Steps p.tables e below (s₁.setTop (mkF m 77 #[.val (.int ((((((xi.toUInt32 >>> ((16 : Int32) &&& 31).toUInt32).toInt32).toUInt32 >>> ((4 : Int32) &&& 31).toUInt32).toInt32).toUInt32 >>> ((2 : Int32) &&& 31).toUInt32).toInt32)), .val (.int (9 : Int32))] [(.int ((((((((xi.toUInt32 >>> ((16 : Int32) &&& 31).toUInt32).toInt32).toUInt32 >>> ((4 : Int32) &&& 31).toUInt32).toInt32).toUInt32 >>> ((2 : Int32) &&& 31).toUInt32).toInt32).toUInt32 >>> ((1 : Int32) &&& 31).toUInt32).toInt32)), (.int (9 : Int32))])) _
              refine XS.isub X0.here hx rfl (hb hby d5_77) rfl ?_
              show Steps p.tables e below (s₁.setTop (mkF m 78 #[.val (.int ((((((xi.toUInt32 >>> ((16 : Int32) &&& 31).toUInt32).toInt32).toUInt32 >>> ((4 : Int32) &&& 31).toUInt32).toInt32).toUInt32 >>> ((2 : Int32) &&& 31).toUInt32).toInt32)), .val (.int (9 : Int32))] [(.int ((9 : Int32) - ((((((((xi.toUInt32 >>> ((16 : Int32) &&& 31).toUInt32).toInt32).toUInt32 >>> ((4 : Int32) &&& 31).toUInt32).toInt32).toUInt32 >>> ((2 : Int32) &&& 31).toUInt32).toInt32).toUInt32 >>> ((1 : Int32) &&& 31).toUInt32).toInt32)))])) _
              exact retI X0 hx Bd.returns (hb hby d5_78) (k _ rfl)
        · refine XS.icmpNo X0.here hx rfl (hb hby d5_37) rfl (flt hc11).1 ?_
          have k : ∀ (v1 : Int32), v1 = (if ((((xi.toUInt32 >>> ((16 : Int32) &&& 31).toUInt32).toInt32).toUInt32 >>> ((8 : Int32) &&& 31).toUInt32).toInt32) < (16 : Int32) then (if ((((xi.toUInt32 >>> ((16 : Int32) &&& 31).toUInt32).toInt32).toUInt32 >>> ((8 : Int32) &&& 31).toUInt32).toInt32) < (4 : Int32) then ((7 : Int32) - ((((((xi.toUInt32 >>> ((16 : Int32) &&& 31).toUInt32).toInt32).toUInt32 >>> ((8 : Int32) &&& 31).toUInt32).toInt32).toUInt32 >>> ((1 : Int32) &&& 31).toUInt32).toInt32)) else ((5 : Int32) - ((((((((xi.toUInt32 >>> ((16 : Int32) &&& 31).toUInt32).toInt32).toUInt32 >>> ((8 : Int32) &&& 31).toUInt32).toInt32).toUInt32 >>> ((2 : Int32) &&& 31).toUInt32).toInt32).toUInt32 >>> ((1 : Int32) &&& 31).toUInt32).toInt32))) else (if ((((((xi.toUInt32 >>> ((16 : Int32) &&& 31).toUInt32).toInt32).toUInt32 >>> ((8 : Int32) &&& 31).toUInt32).toInt32).toUInt32 >>> ((4 : Int32) &&& 31).toUInt32).toInt32) < (4 : Int32) then ((3 : Int32) - ((((((((xi.toUInt32 >>> ((16 : Int32) &&& 31).toUInt32).toInt32).toUInt32 >>> ((8 : Int32) &&& 31).toUInt32).toInt32).toUInt32 >>> ((4 : Int32) &&& 31).toUInt32).toInt32).toUInt32 >>> ((1 : Int32) &&& 31).toUInt32).toInt32)) else ((1 : Int32) - ((((((((((xi.toUInt32 >>> ((16 : Int32) &&& 31).toUInt32).toInt32).toUInt32 >>> ((8 : Int32) &&& 31).toUInt32).toInt32).toUInt32 >>> ((4 : Int32) &&& 31).toUInt32).toInt32).toUInt32 >>> ((2 : Int32) &&& 31).toUInt32).toInt32).toUInt32 >>> ((1 : Int32) &&& 31).toUInt32).toInt32)))) → ∀ (f : JFrame) (acts : List Action), f.method = m → f.locked = none → f.entered = [] → (doReturn e (s₁.setTop f) acts (some (.int v1))).1 = s₁.setFrames fs := fun v1 hv1 => k v1 (hv1.trans (if_neg hc11).symm)
          show Steps p.tables e below (s₁.setTop (mkF m 40 #[.val (.int ((xi.toUInt32 >>> ((16 : Int32) &&& 31).toUInt32).toInt32)), .val (.int (15 : Int32))] [])) _
          refine XS.iinc X0.here hx rfl (hb hby d5_40) rfl (l' := #[.val (.int ((xi.toUInt32 >>> ((16 : Int32) &&& 31).toUInt32).toInt32)), .val (.int (7 : Int32))]) rfl ?_
          show Steps p.tables e below (s₁.setTop (mkF m 43 #[.val (.int ((xi.toUInt32 >>> ((16 : Int32) &&& 31).toUInt32).toInt32)), .val (.int (7 : Int32))] [])) _
          refine XS.iloadN X0.here hx rfl (hb hby d5_43) rfl ?_
          show Steps p.tables e below (s₁.setTop (mkF m 44 #[.val (.int ((xi.toUInt32 >>> ((16 : Int32) &&& 31).toUInt32).toInt32)), .val (.int (7 : Int32))] [(.int ((xi.toUInt32 >>> ((16 : Int32) &&& 31).toUInt32).toInt32))])) _
          refine XS.bipush X0.here hx rfl (hb hby d5_44) ?_
          show Steps p.tables e below (s₁.setTop (mkF m 46 #[.val (.int ((xi.toUInt32 >>> ((16 : Int32) &&& 31).toUInt32).toInt32)), .val (.int (7 : Int32))] [(.int (8 : Int32)), (.int ((xi.toUInt32 >>> ((16 : Int32) &&& 31).toUInt32).toInt32))])) _
          refine XS.iushr X0.here hx rfl (hb hby d5_46) rfl ?_
          show Steps p.tables e below (s₁.setTop (mkF m 47 #[.val (.int ((xi.toUInt32 >>> ((16 : Int32) &&& 31).toUInt32).toInt32)), .val (.int (7 : Int32))] [(.int ((((xi.toUInt32 >>> ((16 : Int32) &&& 31).toUInt32).toInt32).toUInt32 >>> ((8 : Int32) &&& 31).toUInt32).toInt32))])) _
          refine XS.istoreN X0.here hx rfl (hb hby d5_47) rfl (l' := #[.val (.int ((((xi.toUInt32 >>> ((16 : Int32) &&& 31).toUInt32).toInt32).toUInt32 >>> ((8 : Int32) &&& 31).toUInt32).toInt32)), .val (.int (7 : Int32))]) rfl ?_
          show Steps p.tables e below (s₁.setTop (mkF m 48 #[.val (.int ((((xi.toUInt32 >>> ((16 : Int32) &&& 31).toUInt32).toInt32).toUInt32 >>> ((8 : Int32) &&& 31).toUInt32).toInt32)), .val (.int (7 : Int32))] [])) _
          refine XS.iloadN X0.here hx rfl (hb hby d5_48) rfl ?_
          show Steps p.tables e below (s₁.setTop (mkF m 49 #[.val (.int ((((xi.toUInt32 >>> ((16 : Int32) &&& 31).toUInt32).toInt32).toUInt32 >>> ((8 : Int32) &&& 31).toUInt32).toInt32)), .val (.int (7 : Int32))] [(.int ((((xi.toUInt32 >>> ((16 : Int32) &&& 31).toUInt32).toInt32).toUInt32 >>> ((8 : Int32) &&& 31).toUInt32).toInt32))])) _
          refine XS.bipush X0.here hx rfl (hb hby d5_49) ?_
          show Steps p.tables e below (s₁.setTop (mkF m 51 #[.val (.int ((((xi.toUInt32 >>> ((16 : Int32) &&& 31).toUInt32).toInt32).toUInt32 >>> ((8 : Int32) &&& 31).toUInt32).toInt32)), .val (.int (7 : Int32))] [(.int (16 : Int32)), (.int ((((xi.toUInt32 >>> ((16 : Int32) &&& 31).toUInt32).toInt32).toUInt32 >>> ((8 : Int32) &&& 31).toUInt32).toInt32))])) _
          by_cases hc15 : ((((xi.toUInt32 >>> ((16 : Int32) &&& 31).toUInt32).toInt32).toUInt32 >>> ((8 : Int32) &&& 31).toUInt32).toInt32) < (16 : Int32)
          · refine XS.icmpYes X0.here hx rfl (pc0 := 51) (pc' := 61) rfl (hb hby d5_51) rfl (tlt hc15).1 (by decide) (by decide) ?_
            have k : ∀ (v1 : Int32), v1 = (if ((((xi.toUInt32 >>> ((16 : Int32) &&& 31).toUInt32).toInt32).toUInt32 >>> ((8 : Int32) &&& 31).toUInt32).toInt32) < (4 : Int32) then ((7 : Int32) - ((((((xi.toUInt32 >>> ((16 : Int32) &&& 31).toUInt32).toInt32).toUInt32 >>> ((8 : Int32) &&& 31).toUInt32).toInt32).toUInt32 >>> ((1 : Int32) &&& 31).toUInt32).toInt32)) else ((5 : Int32) - ((((((((xi.toUInt32 >>> ((16 : Int32) &&& 31).toUInt32).toInt32).toUInt32 >>> ((8 : Int32) &&& 31).toUInt32).toInt32).toUInt32 >>> ((2 : Int32) &&& 31).toUInt32).toInt32).toUInt32 >>> ((1 : Int32) &&& 31).toUInt32).toInt32))) → ∀ (f : JFrame) (acts : List Action), f.method = m → f.locked = none → f.entered = [] → (doReturn e (s₁.setTop f) acts (some (.int v1))).1 = s₁.setFrames fs := fun v1 hv1 => k v1 (hv1.trans (if_pos hc15).symm)
            show Steps p.tables e below (s₁.setTop (mkF m 61 #[.val (.int ((((xi.toUInt32 >>> ((16 : Int32) &&& 31).toUInt32).toInt32).toUInt32 >>> ((8 : Int32) &&& 31).toUInt32).toInt32)), .val (.int (7 : Int32))] [])) _
            refine XS.iloadN X0.here hx rfl (hb hby d5_61) rfl ?_
            show Steps p.tables e below (s₁.setTop (mkF m 62 #[.val (.int ((((xi.toUInt32 >>> ((16 : Int32) &&& 31).toUInt32).toInt32).toUInt32 >>> ((8 : Int32) &&& 31).toUInt32).toInt32)), .val (.int (7 : Int32))] [(.int ((((xi.toUInt32 >>> ((16 : Int32) &&& 31).toUInt32).toInt32).toUInt32 >>> ((8 : Int32) &&& 31).toUInt32).toInt32))])) _
            refine XS.iconst X0.here hx rfl (hb hby d5_62) ?_
            show Steps p.tables e below (s₁.setTop (mkF m 63 #[.val (.int ((((xi.toUInt32 >>> ((16 : Int32) &&& 31).toUInt32).toInt32).toUInt32 >>> ((8 : Int32) &&& 31).toUInt32).toInt32)), .val (.int (7 : Int32))] [(.int (4 : Int32)), (.int ((((xi.toUInt32 >>> ((16 : Int32) &&& 31).toUInt32).toInt32).toUInt32 >>> ((8 : Int32) &&& 31).toUInt32).toInt32))])) _
            by_cases hc16 : ((((xi.toUInt32 >>> ((16 : Int32) &&& 31).toUInt32).toInt32).toUInt32 >>> ((8 : Int32) &&& 31).toUInt32).toInt32) < (4 : Int32)
            · refine XS.icmpYes X0.here hx rfl (pc0 := 63) (pc' := 73) rfl (hb hby d5_63) rfl (tlt hc16).1 (by decide) (by decide) ?_
              have k : ∀ (v1 : Int32), v1 = ((7 : Int32) - ((((((xi.toUInt32 >>> ((16 : Int32) &&& 31).toUInt32).toInt32).toUInt32 >>> ((8 : Int32) &&& 31).toUInt32).toInt32).toUInt32 >>> ((1 : Int32) &&& 31).toUInt32).toInt32)) → ∀ (f : JFrame) (acts : List Action), f.method = m → f.locked = none → f.entered = [] → (doReturn e (s₁.setTop f) acts (some (.int v1))).1 = s₁.setFrames fs := fun v1 hv1 => k v1 (hv1.trans (if_pos hc16).symm)
              show Steps p.tables e below (s₁.setTop (mkF m 73 #[.val (.int ((((xi.toUInt32 >>> ((16 : Int32) &&& 31).toUInt32).toInt32).toUInt32 >>> ((8 : Int32) &&& 31).toUInt32).toInt32)), .val (.int (7 : Int32))] [])) _
              refine XS.iloadN X0.here hx rfl (hb hby d5_73) rfl ?_
              show Steps p.tables e below (s₁.setTop (mkF m 74 #[.val (.int ((((xi.toUInt32 >>> ((16 : Int32) &&& 31).toUInt32).toInt32).toUInt32 >>> ((8 : Int32) &&& 31).toUInt32).toInt32)), .val (.int (7 : Int32))] [(.int (7 : Int32))])) _
              refine XS.iloadN X0.here hx rfl (hb hby d5_74) rfl ?_
              show Steps p.tables e below (s₁.setTop (mkF m 75 #[.val (.int ((((xi.toUInt32 >>> ((16 : Int32) &&& 31).toUInt32).toInt32).toUInt32 >>> ((8 : Int32) &&& 31).toUInt32).toInt32)), .val (.int (7 : Int32))] [(.int ((((xi.toUInt32 >>> ((16 : Int32) &&& 31).toUInt32).toInt32).toUInt32 >>> ((8 : Int32) &&& 31).toUInt32).toInt32)), (.int (7 : Int32))])) _
              refine XS.iconst X0.here hx rfl (hb hby d5_75) ?_
              show Steps p.tables e below (s₁.setTop (mkF m 76 #[.val (.int ((((xi.toUInt32 >>> ((16 : Int32) &&& 31).toUInt32).toInt32).toUInt32 >>> ((8 : Int32) &&& 31).toUInt32).toInt32)), .val (.int (7 : Int32))] [(.int (1 : Int32)), (.int ((((xi.toUInt32 >>> ((16 : Int32) &&& 31).toUInt32).toInt32).toUInt32 >>> ((8 : Int32) &&& 31).toUInt32).toInt32)), (.int (7 : Int32))])) _
              refine XS.iushr X0.here hx rfl (hb hby d5_76) rfl ?_
              show Steps p.tables e below (s₁.setTop (mkF m 77 #[.val (.int ((((xi.toUInt32 >>> ((16 : Int32) &&& 31).toUInt32).toInt32).toUInt32 >>> ((8 : Int32) &&& 31).toUInt32).toInt32)), .val (.int (7 : Int32))] [(.int ((((((xi.toUInt32 >>> ((16 : Int32) &&& 31).toUInt32).toInt32).toUInt32 >>> ((8 : Int32) &&& 31).toUInt32).toInt32).toUInt32 >>> ((1 : Int32) &&& 31).toUInt32).toInt32)), (.int (7 : Int32))])) _
              refine XS.isub X0.here hx rfl (hb hby d5_77) rfl ?_
              show Steps p.tables e below (s₁.setTop (mkF m 78 #[.val (.int ((((xi.toUInt32 >>> ((16 : Int32) &&& 31).toUInt32).toInt32).toUInt32 >>> ((8 : Int32) &&& 31).toUInt32).toInt32)), .val (.int (7 : Int32))] [(.int ((7 : Int32) - ((((((xi.toUInt32 >>> ((16 : Int32) &&& 31).toUInt32).toInt32).toUInt32 >>> ((8 : Int32) &&& 31).toUInt32).toInt32).toUInt32 >>> ((1 : Int32) &&& 31).toUInt32).toInt32)))])) _
              exact retI X0 hx Bd.returns (hb hby d5_78) (k _ rfl)
            · refine XS.icmpNo X0.here hx rfl (hb hby d5_63) rfl (flt hc16).1 ?_
              have k : ∀ (v1 : Int32), v1 = ((5 : Int32) - ((((((((xi.toUInt32 >>> ((16 : Int32) &&& 31).toUInt32).toInt32).toUInt32 >>> ((8 : Int32) &&& 31).toUInt32).toInt32).toUInt32 >>> ((2 : Int32) &&& 31).toUInt32).toInt32).toUInt32 >>> ((1 : Int32) &&& 31).toUInt32).toInt32)) → ∀ (f : JFrame) (acts : List Action), f.method = m → f.locked = none → f.entered = [] → (doReturn e (s₁.setTop f) acts (some (.int v1))).1 = s₁.setFrames fs := fun v1 hv1 => k v1 (hv1.trans (if_neg hc16).symm)
              show Steps p.tables e below (s₁.setTop (mkF m 66 #[.val (.int ((((xi.toUInt32 >>> ((16 : Int32) &&& 31).toUInt32).toInt32).toUInt32 >>> ((8 : Int32) &&& 31).toUInt32).toInt32)), .val (.int (7 : Int32))] [])) _
              refine XS.iinc X0.here hx rfl (hb hby d5_66) rfl (l' := #[.val (.int ((((xi.toUInt32 >>> ((16 : Int32) &&& 31).toUInt32).toInt32).toUInt32 >>> ((8 : Int32) &&& 31).toUInt32).toInt32)), .val (.int (5 : Int32))]) rfl ?_
              show Steps p.tables e below (s₁.setTop (mkF m 69 #[.val (.int ((((xi.toUInt32 >>> ((16 : Int32) &&& 31).toUInt32).toInt32).toUInt32 >>> ((8 : Int32) &&& 31).toUInt32).toInt32)), .val (.int (5 : Int32))] [])) _
              refine XS.iloadN X0.here hx rfl (hb hby d5_69) rfl ?_
              show Steps p.tables e below (s₁.setTop (mkF m 70 #[.val (.int ((((xi.toUInt32 >>> ((16 : Int32) &&& 31).toUInt32).toInt32).toUInt32 >>> ((8 : Int32) &&& 31).toUInt32).toInt32)), .val (.int (5 : Int32))] [(.int ((((xi.toUInt32 >>> ((16 : Int32) &&& 31).toUInt32).toInt32).toUInt32 >>> ((8 : Int32) &&& 31).toUInt32).toInt32))])) _
              refine XS.iconst X0.here hx rfl (hb hby d5_70) ?_
              show Steps p.tables e below (s₁.setTop (mkF m 71 #[.val (.int ((((xi.toUInt32 >>> ((16 : Int32) &&& 31).toUInt32).toInt32).toUInt32 >>> ((8 : Int32) &&& 31).toUInt32).toInt32)), .val (.int (5 : Int32))] [(.int (2 : Int32)), (.int ((((xi.toUInt32 >>> ((16 : Int32) &&& 31).toUInt32).toInt32).toUInt32 >>> ((8 : Int32) &&& 31).toUInt32).toInt32))])) _
              refine XS.iushr X0.here hx rfl (hb hby d5_71) rfl ?_
              show Steps p.tables e below (s₁.setTop (mkF m 72 #[.val (.int ((((xi.toUInt32 >>> ((16 : Int32) &&& 31).toUInt32).toInt32).toUInt32 >>> ((8 : Int32) &&& 31).toUInt32).toInt32)), .val (.int (5 : Int32))] [(.int ((((((xi.toUInt32 >>> ((16 : Int32) &&& 31).toUInt32).toInt32).toUInt32 >>> ((8 : Int32) &&& 31).toUInt32).toInt32).toUInt32 >>> ((2 : Int32) &&& 31).toUInt32).toInt32))])) _
              refine XS.istoreN X0.here hx rfl (hb hby d5_72) rfl (l' := #[.val (.int ((((((xi.toUInt32 >>> ((16 : Int32) &&& 31).toUInt32).toInt32).toUInt32 >>> ((8 : Int32) &&& 31).toUInt32).toInt32).toUInt32 >>> ((2 : Int32) &&& 31).toUInt32).toInt32)), .val (.int (5 : Int32))]) rfl ?_
              show Steps p.tables e below (s₁.setTop (mkF m 73 #[.val (.int ((((((xi.toUInt32 >>> ((16 : Int32) &&& 31).toUInt32).toInt32).toUInt32 >>> ((8 : Int32) &&& 31).toUInt32).toInt32).toUInt32 >>> ((2 : Int32) &&& 31).toUInt32).toInt32)), .val (.int (5 : Int32))] [])) _
              refine XS.iloadN X0.here hx rfl (hb hby d5_73) rfl ?_
              show Steps p.tables e below (s₁.setTop (mkF m 74 #[.val (.int ((((((xi.toUInt32 >>> ((16 : Int32) &&& 31).toUInt32).toInt32).toUInt32 >>> ((8 : Int32) &&& 31).toUInt32).toInt32).toUInt32 >>> ((2 : Int32) &&& 31).toUInt32).toInt32)), .val (.int (5 : Int32))] [(.int (5 : Int32))])) _
              refine XS.iloadN X0.here hx rfl (hb hby d5_74) rfl ?_
              show Steps p.tables e below (s₁.setTop (mkF m 75 #[.val (.int ((((((xi.toUInt32 >>> ((16 : Int32) &&& 31).toUInt32).toInt32).toUInt32 >>> ((8 : Int32) &&& 31).toUInt32).toInt32).toUInt32 >>> ((2 : Int32) &&& 31).toUInt32).toInt32)), .val (.int (5 : Int32))] [(.int ((((((xi.toUInt32 >>> ((16 : Int32) &&& 31).toUInt32).toInt32).toUInt32 >>> ((8 : Int32) &&& 31).toUInt32).toInt32).toUInt32 >>> ((2 : Int32) &&& 31).toUInt32).toInt32)), (.int (5 : Int32))])) _
              refine XS.iconst X0.here hx rfl (hb hby d5_75) ?_
              show Steps p.tables e below (s₁.setTop (mkF m 76 #[.val (.int ((((((xi.toUInt32 >>> ((16 : Int32) &&& 31).toUInt32).toInt32).toUInt32 >>> ((8 : Int32) &&& 31).toUInt32).toInt32).toUInt32 >>> ((2 : Int32) &&& 31).toUInt32).toInt32)), .val (.int (5 : Int32))] [(.int (1 : Int32)), (.int ((((((xi.toUInt32 >>> ((16 : Int32) &&& 31).toUInt32).toInt32).toUInt32 >>> ((8 : Int32) &&& 31).toUInt32).toInt32).toUInt32 >>> ((2 : Int32) &&& 31).toUInt32).toInt32)), (.int (5 : Int32))])) _
              refine XS.iushr X0.here hx rfl (hb hby d5_76) rfl ?_
              show Steps p.tables e below (s₁.setTop (mkF m 77 #[.val (.int ((((((xi.toUInt32 >>> ((16 : Int32) &&& 31).toUInt32).toInt32).toUInt32 >>> ((8 : Int32) &&& 31).toUInt32).toInt32).toUInt32 >>> ((2 : Int32) &&& 31).toUInt32).toInt32)), .val (.int (5 : Int32))] [(.int ((((((((xi.toUInt32 >>> ((16 : Int32) &&& 31).toUInt32).toInt32).toUInt32 >>> ((8 : Int32) &&& 31).toUInt32).toInt32).toUInt32 >>> ((2 : Int32) &&& 31).toUInt32).toInt32).toUInt32 >>> ((1 : Int32) &&& 31).toUInt32).toInt32)), (.int (5 : Int32))])) _
              refine XS.isub X0.here hx rfl (hb hby d5_77) rfl ?_
              show Steps p.tables e below (s₁.setTop (mkF m 78 #[.val (.int ((((((xi.toUInt32 >>> ((16 : Int32) &&& 31).toUInt32).toInt32).toUInt32 >>> ((8 : Int32) &&& 31).toUInt32).toInt32).toUInt32 >>> ((2 : Int32) &&& 31).toUInt32).toInt32)), .val (.int (5 : Int32))] [(.int ((5 : Int32) - ((((((((xi.toUInt32 >>> ((16 : Int32) &&& 31).toUInt32).toInt32).toUInt32 >>> ((8 : Int32) &&& 31).toUInt32).toInt32).toUInt32 >>> ((2 : Int32) &&& 31).toUInt32).toInt32).toUInt32 >>> ((1 : Int32) &&& 31).toUInt32).toInt32)))])) _
              exact retI X0 hx Bd.returns (hb hby d5_78) (k _ rfl)
          · refine XS.icmpNo X0.here hx rfl (hb hby d5_51) rfl (flt hc15).1 ?_
            have k : ∀ (v1 : Int32), v1 = (if ((((((xi.toUInt32 >>> ((16 : Int32) &&& 31).toUInt32).toInt32).toUInt32 >>> ((8 : Int32) &&& 31).toUInt32).toInt32).toUInt32 >>> ((4 : Int32) &&& 31).toUInt32).toInt32) < (4 : Int32) then ((3 : Int32) - ((((((((xi.toUInt32 >>> ((16 : Int32) &&& 31).toUInt32).toInt32).toUInt32 >>> ((8 : Int32) &&& 31).toUInt32).toInt32).toUInt32 >>> ((4 : Int32) &&& 31).toUInt32).toInt32).toUInt32 >>> ((1 : Int32) &&& 31).toUInt32).toInt32)) else ((1 : Int32) - ((((((((((xi.toUInt32 >>> ((16 : Int32) &&& 31).toUInt32).toInt32).toUInt32 >>> ((8 : Int32) &&& 31).toUInt32).toInt32).toUInt32 >>> ((4 : Int32) &&& 31).toUInt32).toInt32).toUInt32 >>> ((2 : Int32) &&& 31).toUInt32).toInt32).toUInt32 >>> ((1 : Int32) &&& 31).toUInt32).toInt32))) → ∀ (f : JFrame) (acts : List Action), f.method = m → f.locked = none → f.entered = [] → (doReturn e (s₁.setTop f) acts (some (.int v1))).1 = s₁.setFrames fs := fun v1 hv1 => k v1 (hv1.trans (if_neg hc15).symm)
            show Steps p.tables e below (s₁.setTop (mkF m 54 #[.val (.int ((((xi.toUInt32 >>> ((16 : Int32) &&& 31).toUInt32).toInt32).toUInt32 >>> ((8 : Int32) &&& 31).toUInt32).toInt32)), .val (.int (7 : Int32))] [])) _
            refine XS.iinc X0.here hx rfl (hb hby d5_54) rfl (l' := #[.val (.int ((((xi.toUInt32 >>> ((16 : Int32) &&& 31).toUInt32).toInt32).toUInt32 >>> ((8 : Int32) &&& 31).toUInt32).toInt32)), .val (.int (3 : Int32))]) rfl ?_
            show Steps p.tables e below (s₁.setTop (mkF m 57 #[.val (.int ((((xi.toUInt32 >>> ((16 : Int32) &&& 31).toUInt32).toInt32).toUInt32 >>> ((8 : Int32) &&& 31).toUInt32).toInt32)), .val (.int (3 : Int32))] [])) _
            refine XS.iloadN X0.here hx rfl (hb hby d5_57) rfl ?_
            show Steps p.tables e below (s₁.setTop (mkF m 58 #[.val (.int ((((xi.toUInt32 >>> ((16 : Int32) &&& 31).toUInt32).toInt32).toUInt32 >>> ((8 : Int32) &&& 31).toUInt32).toInt32)), .val (.int (3 : Int32))] [(.int ((((xi.toUInt32 >>> ((16 : Int32) &&& 31).toUInt32).toInt32).toUInt32 >>> ((8 : Int32) &&& 31).toUInt32).toInt32))])) _
            refine XS.iconst X0.here hx rfl (hb hby d5_58) ?_
            show Steps p.tables e below (s₁.setTop (mkF m 59 #[.val (.int ((((xi.toUInt32 >>> ((16 : Int32) &&& 31).toUInt32).toInt32).toUInt32 >>> ((8 : Int32) &&& 31).toUInt32).toInt32)), .val (.int (3 : Int32))] [(.int (4 : Int32)), (.int ((((xi.toUInt32 >>> ((16 : Int32) &&& 31).toUInt32).toInt32).toUInt32 >>> ((8 : Int32) &&& 31).toUInt32).toInt32))])) _
            refine XS.iushr X0.here hx rfl (hb hby d5_59) rfl ?_
            show Steps p.tables e below (s₁.setTop (mkF m 60 #[.val (.int ((((xi.toUInt32 >>> ((16 : Int32) &&& 31).toUInt32).toInt32).toUInt32 >>> ((8 : Int32) &&& 31).toUInt32).toInt32)), .val (.int (3 : Int32))] [(.int ((((((xi.toUInt32 >>> ((16 : Int32) &&& 31).toUInt32).toInt32).toUInt32 >>> ((8 : Int32) &&& 31).toUInt32).toInt32).toUInt32 >>> ((4 : Int32) &&& 31).toUInt32).toInt32))])) _
            refine XS.istoreN X0.here hx rfl (hb hby d5_60) rfl (l' := #[.val (.int ((((((xi.toUInt32 >>> ((16 : Int32) &&& 31).toUInt32).toInt32).toUInt32 >>> ((8 : Int32) &&& 31).toUInt32).toInt32).toUInt32 >>> ((4 : Int32) &&& 31).toUInt32).toInt32)), .val (.int (3 : Int32))]) rfl ?_
            show Steps p.tables e below (s₁.setTop (mkF m 61 #[.val (.int ((((((xi.toUInt32 >>> ((16 : Int32) &&& 31).toUInt32).toInt32).toUInt32 >>> ((8 : Int32) &&& 31).toUInt32).toInt32).toUInt32 >>> ((4 : Int32) &&& 31).toUInt32).toInt32)), .val (.int (3 : Int32))] [])) _
            refine XS.iloadN X0.here hx rfl (hb hby d5_61) rfl ?_
            show Steps p.tables e below (s₁.setTop (mkF m 62 #[.val (.int ((((((xi.toUInt32 >>> ((16 : Int32) &&& 31).toUInt32).toInt32).toUInt32 >>> ((8 : Int32) &&& 31).toUInt32).toInt32).toUInt32 >>> ((4 : Int32) &&& 31).toUInt32).toInt32)), .val (.int (3 : Int32))] [(.int ((((((xi.toUInt32 >>> ((16 : Int32) &&& 31).toUInt32).toInt32).toUInt32 >>> ((8 : Int32) &&& 31).toUInt32).toInt32).toUInt32 >>> ((4 : Int32) &&& 31).toUInt32).toInt32))])) _
            refine XS.iconst X0.here hx rfl (hb hby d5_62) ?_
            show Steps p.tables e below (s₁.setTop (mkF m 63 #[.val (.int ((((((xi.toUInt32 >>> ((16 : Int32) &&& 31).toUInt32).toInt32).toUInt32 >>> ((8 : Int32) &&& 31).toUInt32).toInt32).toUInt32 >>> ((4 : Int32) &&& 31).toUInt32).toInt32)), .val (.int (3 : Int32))] [(.int (4 : Int32)), (.int ((((((xi.toUInt32 >>> ((16 : Int32) &&& 31).toUInt32).toInt32).toUInt32 >>> ((8 : Int32) &&& 31).toUInt32).toInt32).toUInt32 >>> ((4 : Int32) &&& 31).toUInt32).toInt32))])) _
            by_cases hc17 : ((((((xi.toUInt32 >>> ((16 : Int32) &&& 31).toUInt32).toInt32).toUInt32 >>> ((8 : Int32) &&& 31).toUInt32).toInt32).toUInt32 >>> ((4 : Int32) &&& 31).toUInt32).toInt32) < (4 : Int32)
            · refine XS.icmpYes X0.here hx rfl (pc0 := 63) (pc' := 73) rfl (hb hby d5_63) rfl (tlt hc17).1 (by decide) (by decide) ?_
              have k : ∀ (v1 : Int32), v1 = ((3 : Int32) - ((((((((xi.toUInt32 >>> ((16 : Int32) &&& 31).toUInt32).toInt32).toUInt32 >>> ((8 : Int32) &&& 31).toUInt32).toInt32).toUInt32 >>> ((4 : Int32) &&& 31).toUInt32).toInt32).toUInt32 >>> ((1 : Int32) &&& 31).toUInt32).toInt32)) → ∀ (f : JFrame) (acts : List Action), f.method = m → f.locked = none → f.entered = [] → (doReturn e (s₁.setTop f) acts (some (.int v1))).1 = s₁.setFrames fs := fun v1 hv1 => k v1 (hv1.trans (if_pos hc17).symm)
              show Steps p.tables e below (s₁.setTop (mkF m 73 #[.val (.int ((((((xi.toUInt32 >>> ((16 : Int32) &&& 31).toUInt32).toInt32).toUInt32 >>> ((8 : Int32) &&& 31).toUInt32).toInt32).toUInt32 >>> ((4 : Int32) &&& 31).toUInt32).toInt32)), .val (.int (3 : Int32))] [])) _
              refine XS.iloadN X0.here hx rfl (hb hby d5_73) rfl ?_
              show Steps p.tables e below (s₁.setTop (mkF m 74 #[.val (.int ((((((xi.toUInt32 >>> ((16 : Int32) &&& 31).toUInt32).toInt32).toUInt32 >>> ((8 : Int32) &&& 31).toUInt32).toInt32).toUInt32 >>> ((4 : Int32) &&& 31).toUInt32).toInt32)), .val (.int (3 : Int32))] [(.int (3 : Int32))])) _
              refine XS.iloadN X0.here hx rfl (hb hby d5_74) rfl ?_
              show Steps p.tables e below (s₁.setTop (mkF m 75 #[.val (.int ((((((xi.toUInt32 >>> ((16 : Int32) &&& 31).toUInt32).toInt32).toUInt32 >>> ((8 : Int32) &&& 31).toUInt32).toInt32).toUInt32 >>> ((4 : Int32) &&& 31).toUInt32).toInt32)), .val (.int (3 : Int32))] [(.int ((((((xi.toUInt32 >>> ((16 : Int32) &&& 31).toUInt32).toInt32).toUInt32 >>> ((8 : Int32) &&& 31).toUInt32).toInt32).toUInt32 >>> ((4 : Int32) &&& 31).toUInt32).toInt32)), (.int (3 : Int32))])) _
              refine XS.iconst X0.here hx rfl (hb hby d5_75) ?_
              show Steps p.tables e below (s₁.setTop (mkF m 76 #[.val (.int ((((((xi.toUInt32 >>> ((16 : Int32) &&& 31).toUInt32).toInt32).toUInt32 >>> ((8 : Int32) &&& 31).toUInt32).toInt32).toUInt32 >>> ((4 : Int32) &&& 31).toUInt32).toInt32)), .val (.int (3 : Int32))] [(.int (1 : Int32)), (.int ((((((xi.toUInt32 >>> ((16 : Int32) &&& 31).toUInt32).toInt32).toUInt32 >>> ((8 : Int32) &&& 31).toUInt32).toInt32).toUInt32 >>> ((4 : Int32) &&& 31).toUInt32).toInt32)), (.int (3 : Int32))])) _
              refine XS.iushr X0.here hx rfl (hb hby d5_76) rfl ?_
              show Steps p.tables e below (s₁.setTop (mkF m 77 #[.val (.int ((((((xi.toUInt32 >>> ((16 : Int32) &&& 31).toUInt32).toInt32).toUInt32 >>> ((8 : Int32) &&& 31).toUInt32).toInt32).toUInt32 >>> ((4 : Int32) &&& 31).toUInt32).toInt32)), .val (.int (3 : Int32))] [(.int ((((((((xi.toUInt32 >>> ((16 : Int32) &&& 31).toUInt32).toInt32).toUInt32 >>> ((8 : Int32) &&& 31).toUInt32).toInt32).toUInt32 >>> ((4 : Int32) &&& 31).toUInt32).toInt32).toUInt32 >>> ((1 : Int32) &&& 31).toUInt32).toInt32)), (.int (3 : Int32))])) _
              refine XS.isub X0.here hx rfl (hb hby d5_77) rfl ?_
              show Steps p.tables e below (s₁.setTop (mkF m 78 #[.val (.int ((((((xi.toUInt32 >>> ((16 : Int32) &&& 31).toUInt32).toInt32).toUInt32 >>> ((8 : Int32) &&& 31).toUInt32).toInt32).toUInt32 >>> ((4 : Int32) &&& 31).toUInt32).toInt32)), .val (.int (3 : Int32))] [(.int ((3 : Int32) - ((((((((xi.toUInt32 >>> ((16 : Int32) &&& 31).toUInt32).toInt32).toUInt32 >>> ((8 : Int32) &&& 31).toUInt32).toInt32).toUInt32 >>> ((4 : Int32) &&& 31).toUInt32).toInt32).toUInt32 >>> ((1 : Int32) &&& 31).toUInt32).toInt32)))])) _
              exact retI X0 hx Bd.returns (hb hby d5_78) (k _ rfl)
            · refine XS.icmpNo X0.here hx rfl (hb hby d5_63) rfl (flt hc17).1 ?_
              have k : ∀ (v1 : Int32), v1 = ((1 : Int32) - ((((((((((xi.toUInt32 >>> ((16 : Int32) &&& 31).toUInt32).toInt32).toUInt32 >>> ((8 : Int32) &&& 31).toUInt32).toInt32).toUInt32 >>> ((4 : Int32) &&& 31).toUInt32).toInt32).toUInt32 >>> ((2 : Int32) &&& 31).toUInt32).toInt32).toUInt32 >>> ((1 : Int32) &&& 31).toUInt32).toInt32)) → ∀ (f : JFrame) (acts : List Action), f.method = m → f.locked = none → f.entered = [] → (doReturn e (s₁.setTop f) acts (some (.int v1))).1 = s₁.setFrames fs := fun v1 hv1 => k v1 (hv1.trans (if_neg hc17).symm)
              show Steps p.tables e below (s₁.setTop (mkF m 66 #[.val (.int ((((((xi.toUInt32 >>> ((16 : Int32) &&& 31).toUInt32).toInt32).toUInt32 >>> ((8 : Int32) &&& 31).toUInt32).toInt32).toUInt32 >>> ((4 : Int32) &&& 31).toUInt32).toInt32)), .val (.int (3 : Int32))] [])) _
              refine XS.iinc X0.here hx rfl (hb hby d5_66) rfl (l' := #[.val (.int ((((((xi.toUInt32 >>> ((16 : Int32) &&& 31).toUInt32).toInt32).toUInt32 >>> ((8 : Int32) &&& 31).toUInt32).toInt32).toUInt32 >>> ((4 : Int32) &&& 31).toUInt32).toInt32)), .val (.int (1 : Int32))]) rfl ?_
              show Steps p.tables e below (s₁.setTop (mkF m 69 #[.val (.int ((((((xi.toUInt32 >>> ((16 : Int32) &&& 31).toUInt32).toInt32).toUInt32 >>> ((8 : Int32) &&& 31).toUInt32).toInt32).toUInt32 >>> ((4 : Int32) &&& 31).toUInt32).toInt32)), .val (.int (1 : Int32))] [])) _
              refine XS.iloadN X0.here hx rfl (hb hby d5_69) rfl ?_
              show Steps p.tables e below (s₁.setTop (mkF m 70 #[.val (.int ((((((xi.toUInt32 >>> ((16 : Int32) &&& 31).toUInt32).toInt32).toUInt32 >>> ((8 : Int32) &&& 31).toUInt32).toInt32).toUInt32 >>> ((4 : Int32) &&& 31).toUInt32).toInt32)), .val (.int (1 : Int32))] [(.int ((((((xi.toUInt32 >>> ((16 : Int32) &&& 31).toUInt32).toInt32).toUInt32 >>> ((8 : Int32) &&& 31).toUInt32).toInt32).toUInt32 >>> ((4 : Int32) &&& 31).toUInt32).toInt32))])) _
              refine XS.iconst X0.here hx rfl (hb hby d5_70) ?_
              show Steps p.tables e below (s₁.setTop (mkF m 71 #[.val (.int ((((((xi.toUInt32 >>> ((16 : Int32) &&& 31).toUInt32).toInt32).toUInt32 >>> ((8 : Int32) &&& 31).toUInt32).toInt32).toUInt32 >>> ((4 : Int32) &&& 31).toUInt32).toInt32)), .val (.int (1 : Int32))] [(.int (2 : Int32)), (.int ((((((xi.toUInt32 >>> ((16 : Int32) &&& 31).toUInt32).toInt32).toUInt32 >>> ((8 : Int32) &&& 31).toUInt32).toInt32).toUInt32 >>> ((4 : Int32) &&& 31).toUInt32).toInt32))])) _
              refine XS.iushr X0.here hx rfl (hb hby d5_71) rfl ?_
              show Steps p.tables e below (s₁.setTop (mkF m 72 #[.val (.int ((((((xi.toUInt32 >>> ((16 : Int32) &&& 31).toUInt32).toInt32).toUInt32 >>> ((8 : Int32) &&& 31).toUInt32).toInt32).toUInt32 >>> ((4 : Int32) &&& 31).toUInt32).toInt32)), .val (.int (1 : Int32))] [(.int ((((((((xi.toUInt32 >>> ((16 : Int32) &&& 31).toUInt32).toInt32).toUInt32 >>> ((8 : Int32) &&& 31).toUInt32).toInt32).toUInt32 >>> ((4 : Int32) &&& 31).toUInt32).toInt32).toUInt32 >>> ((2 : Int32) &&& 31).toUInt32).toInt32))])) _
              refine XS.istoreN X0.here hx rfl (hb hby d5_72) rfl (l' := #[.val (.int ((((((((xi.toUInt32 >>> ((16 : Int32) &&& 31).toUInt32).toInt32).toUInt32 >>> ((8 : Int32) &&& 31).toUInt32).toInt32).toUInt32 >>> ((4 : Int32) &&& 31).toUInt32).toInt32).toUInt32 >>> ((2 : Int32) &&& 31).toUInt32).toInt32)), .val (.int (1 : Int32))]) rfl ?_
              show Steps p.tables e below (s₁.setTop (mkF m 73 #[.val (.int ((((((((xi.toUInt32 >>> ((16 : Int32) &&& 31).toUInt32).toInt32).toUInt32 >>> ((8 : Int32) &&& 31).toUInt32).toInt32).toUInt32 >>> ((4 : Int32) &&& 31).toUInt32).toInt32).toUInt32 >>> ((2 : Int32) &&& 31).toUInt32).toInt32)), .val (.int (1 : Int32))] [])) _
              refine XS.iloadN X0.here hx rfl (hb hby d5_73) rfl ?_
              show Steps p.tables e below (s₁.setTop (mkF m 74 #[.val (.int ((((((((xi.toUInt32 >>> ((16 : Int32) &&& 31).toUInt32).toInt32).toUInt32 >>> ((8 : Int32) &&& 31).toUInt32).toInt32).toUInt32 >>> ((4 : Int32) &&& 31).toUInt32).toInt32).toUInt32 >>> ((2 : Int32) &&& 31).toUInt32).toInt32)), .val (.int (1 : Int32))] [(.int (1 : Int32))])) _
              refine XS.iloadN X0.here hx rfl (hb hby d5_74) rfl ?_
              show Steps p.tables e below (s₁.setTop (mkF m 75 #[.val (.int ((((((((xi.toUInt32 >>> ((16 : Int32) &&& 31).toUInt32).toInt32).toUInt32 >>> ((8 : Int32) &&& 31).toUInt32).toInt32).toUInt32 >>> ((4 : Int32) &&& 31).toUInt32).toInt32).toUInt32 >>> ((2 : Int32) &&& 31).toUInt32).toInt32)), .val (.int (1 : Int32))] [(.int ((((((((xi.toUInt32 >>> ((16 : Int32) &&& 31).toUInt32).toInt32).toUInt32 >>> ((8 : Int32) &&& 31).toUInt32).toInt32).toUInt32 >>> ((4 : Int32) &&& 31).toUInt32).toInt32).toUInt32 >>> ((2 : Int32) &&& 31).toUInt32).toInt32)), (.int (1 : Int32))])) _
              refine XS.iconst X0.here hx rfl (hb hby d5_75) ?_
              show Steps p.tables e below (s₁.setTop (mkF m 76 #[.val (.int ((((((((xi.toUInt32 >>> ((16 : Int32) &&& 31).toUInt32).toInt32).toUInt32 >>> ((8 : Int32) &&& 31).toUInt32).toInt32).toUInt32 >>> ((4 : Int32) &&& 31).toUInt32).toInt32).toUInt32 >>> ((2 : Int32) &&& 31).toUInt32).toInt32)), .val (.int (1 : Int32))] [(.int (1 : Int32)), (.int ((((((((xi.toUInt32 >>> ((16 : Int32) &&& 31).toUInt32).toInt32).toUInt32 >>> ((8 : Int32) &&& 31).toUInt32).toInt32).toUInt32 >>> ((4 : Int32) &&& 31).toUInt32).toInt32).toUInt32 >>> ((2 : Int32) &&& 31).toUInt32).toInt32)), (.int (1 : Int32))])) _
              refine XS.iushr X0.here hx rfl (hb hby d5_76) rfl ?_
              show Steps p.tables e below (s₁.setTop (mkF m 77 #[.val (.int ((((((((xi.toUInt32 >>> ((16 : Int32) &&& 31).toUInt32).toInt32).toUInt32 >>> ((8 : Int32) &&& 31).toUInt32).toInt32).toUInt32 >>> ((4 : Int32) &&& 31).toUInt32).toInt32).toUInt32 >>> ((2 : Int32) &&& 31).toUInt32).toInt32)), .val (.int (1 : Int32))] [(.int ((((((((((xi.toUInt32 >>> ((16 : Int32) &&& 31).toUInt32).toInt32).toUInt32 >>> ((8 : Int32) &&& 31).toUInt32).toInt32).toUInt32 >>> ((4 : Int32) &&& 31).toUInt32).toInt32).toUInt32 >>> ((2 : Int32) &&& 31).toUInt32).toInt32).toUInt32 >>> ((1 : Int32) &&& 31).toUInt32).toInt32)), (.int (1 : Int32))])) _
              refine XS.isub X0.here hx rfl (hb hby d5_77) rfl ?_
              show Steps p.tables e below (s₁.setTop (mkF m 78 #[.val (.int ((((((((xi.toUInt32 >>> ((16 : Int32) &&& 31).toUInt32).toInt32).toUInt32 >>> ((8 : Int32) &&& 31).toUInt32).toInt32).toUInt32 >>> ((4 : Int32) &&& 31).toUInt32).toInt32).toUInt32 >>> ((2 : Int32) &&& 31).toUInt32).toInt32)), .val (.int (1 : Int32))] [(.int ((1 : Int32) - ((((((((((xi.toUInt32 >>> ((16 : Int32) &&& 31).toUInt32).toInt32).toUInt32 >>> ((8 : Int32) &&& 31).toUInt32).toInt32).toUInt32 >>> ((4 : Int32) &&& 31).toUInt32).toInt32).toUInt32 >>> ((2 : Int32) &&& 31).toUInt32).toInt32).toUInt32 >>> ((1 : Int32) &&& 31).toUInt32).toInt32)))])) _
              exact retI X0 hx Bd.returns (hb hby d5_78) (k _ rfl)
    · refine XS.ifNo X0.here hx rfl (hb hby d5_1) rfl ((if0 _ _).trans (flt hc2).2.2.1) ?_
      have k : ∀ (v1 : Int32), v1 = (if xi = (0 : Int32) then (32 : Int32) else (0 : Int32)) → ∀ (f : JFrame) (acts : List Action), f.method = m → f.locked = none → f.entered = [] → (doReturn e (s₁.setTop f) acts (some (.int v1))).1 = s₁.setFrames fs := fun v1 hv1 => k v1 (hv1.trans (if_neg hc2).symm)
      show Steps p.tables e below (s₁.setTop (mkF m 4 #[.val (.int xi), .unset] [])) _
      refine XS.iloadN X0.here hx rfl (hb hby d5_4) rfl ?_
      show Steps p.tables e below (s₁.setTop (mkF m 5 #[.val (.int xi), .unset] [(.int xi)])) _
      by_cases hc18 : xi = (0 : Int32)
      · refine XS.ifNo X0.here hx rfl (hb hby d5_5) rfl ((if0 _ _).trans (teq hc18).2) ?_
        have k : ∀ (v1 : Int32), v1 = (32 : Int32) → ∀ (f : JFrame) (acts : List Action), f.method = m → f.locked = none → f.entered = [] → (doReturn e (s₁.setTop f) acts (some (.int v1))).1 = s₁.setFrames fs := fun v1 hv1 => k v1 (hv1.trans (if_pos hc18).symm)
        show Steps p.tables e below (s₁.setTop (mkF m 8 #[.val (.int xi), .unset] [])) _
        refine XS.bipush X0.here hx rfl (hb hby d5_8) ?_
        show Steps p.tables e below (s₁.setTop (mkF m 10 #[.val (.int xi), .unset] [(.int (32 : Int32))])) _
        refine XS.goto X0.here hx rfl (pc0 := 10) (pc' := 14) rfl (hb hby d5_10) (by decide) (by decide) ?_
        show Steps p.tables e below (s₁.setTop (mkF m 14 #[.val (.int xi), .unset] [(.int (32 : Int32))])) _
        exact retI X0 hx Bd.returns (hb hby d5_14) (k _ rfl)
      · refine XS.ifYes X0.here hx rfl (pc0 := 5) (pc' := 13) rfl (hb hby d5_5) rfl ((if0 _ _).trans (feq hc18).2) (by decide) (by decide) ?_
        have k : ∀ (v1 : Int32), v1 = (0 : Int32) → ∀ (f : JFrame) (acts : List Action), f.method = m → f.locked = none → f.entered = [] → (doReturn e (s₁.setTop f) acts (some (.int v1))).1 = s₁.setFrames fs := fun v1 hv1 => k v1 (hv1.trans (if_neg hc18).symm)
        show Steps p.tables e below (s₁.setTop (mkF m 13 #[.val (.int xi), .unset] [])) _
        refine XS.iconst X0.here hx rfl (hb hby d5_13) ?_
        show Steps p.tables e below (s₁.setTop (mkF m 14 #[.val (.int xi), .unset] [(.int (0 : Int32))])) _
        exact retI X0 hx Bd.returns (hb hby d5_14) (k _ rfl)
  · show Q5 Z xi h0 n0 _ s₁.heap _
    rw [e0]
    exact ⟨rfl, N0, rfl⟩
theorem d4_0 : decode jdk_33_method_45_code 0 = .ok (.iload_n 0, 1) := by decide +kernel
theorem d4_1 : decode jdk_33_method_45_code 1 = .ok (.ldc 127, 2) := by decide +kernel
theorem d4_3 : decode jdk_33_method_45_code 3 = .ok (.iload_n 0, 1) := by decide +kernel
theorem d4_4 : decode jdk_33_method_45_code 4 = .ok (.invokestatic 51, 3) := by decide +kernel
theorem d4_7 : decode jdk_33_method_45_code 7 = .ok (.iushr, 1) := by decide +kernel
theorem d4_8 : decode jdk_33_method_45_code 8 = .ok (.iand, 1) := by decide +kernel
theorem d4_9 : decode jdk_33_method_45_code 9 = .ok (.ireturn, 1) := by decide +kernel
theorem pd_3 : parseMethodDescriptor "(I)I" = some ⟨[.int], some .int⟩ := by decide +kernel
theorem ef_4 (m : MethodId) (x0 : Int32) : entryFrame m #[(.int x0)] 1 = mkF m 0 #[.val (.int x0)] [] := by first | (simp [entryFrame, mkF, argsToLocals, Value.category]; done) | rfl
def Fhob (xi : Int32) : Int32 := (xi &&& (((-2147483648 : Int32).toUInt32 >>> ((Fnlz xi) &&& 31).toUInt32).toInt32))
def Q4 (Z : State) (xi : Int32) (h0 : Heap) (n0 : Nat) (v : Option Value) (h : Heap) (L : List Loc) : Prop := v = some (.int (Fhob xi)) ∧ Fr n0 L ∧ h = h0
set_option maxRecDepth 65536 in
set_option maxHeartbeats 40000000 in
theorem rm4 (l : Launch) (Z : State) (a0 : Array Value) (hw : ∀ d ∈ tables_1, d.before a0 Z = true) (ws : List Jvm.Cond) (xi : Int32) (h0 : Heap) (n0 : Nat) (Z0 : n0 ≤ h0.size) :
    MetFree l (⟨"java/lang/Integer", "highestOneBit", "(I)I"⟩ : MethodName) (head1 (Jvm.Cond.code (⟨"java/lang/Integer", "highestOneBit", "(I)I"⟩ : MethodName) jdk_33_method_45_code 1 (some .int) :: ws) ({ frames := 1, cells := 0, slots := 0, locals := 15 } : Room)) (fun a U => a = #[(.int xi)] ∧ Z.Warmed39 U.vm ∧ U.heap = h0) (fun _ _ _ _ _ => True) (fun _ U o U' => ∃ v L, o = .returned v ∧ Q4 Z xi h0 n0 v U'.heap L ∧ FrameEnd U o U' L ({ frames := 1, cells := 0, slots := 0, locals := 15 } : Room).cells ({ frames := 1, cells := 0, slots := 0, locals := 15 } : Room).slots) := by
  refine MetFree.of_bodySF (plainFor_of_name pn_5) hisR ?_
  intro p e s m args below meth c s₁ Bd hml0 hP hK
  obtain ⟨rfl, hZ, hh⟩ := hP
  have hx := Bd.exec
  have hby := Bd.bytes
  have hml : c.maxLocals = 1 := hml0
  have hown : s.vm.findClass "java/lang/Integer" = some m.cls := findClass_of_methodNamed Bd.named
  have hnm := (name_of_methodNamed Bd.named Bd.method).1
  have X0 : Stand p l e ({ frames := 1, cells := 0, slots := 0, locals := 15 } : Room) s m #[(.int xi)] below meth c s₁ [] 0 0 := Stand.of_body Bd
  have e0 : s₁.heap = h0 := by rw [← hh, Bd.state]; rfl
  have N0 := Fr.nil n0
  have pre0 : ∀ t, Steps p.tables e below (s₁.setTop (mkF m 0 #[.val (.int xi)] [])) t → Steps p.tables e below (s₁.setTop (entryFrame m #[(.int xi)] 1)) t := fun t k => castTop (ef_4 m xi) k
  obtain ⟨_, _, ⟨T1, L1, k1, n1⟩, -, X1, ⟨Lc1, hQ1, l1, y1, z1⟩, st1⟩ := Jvm.LawKit.callS X0 hx (y := (⟨"java/lang/Integer", "numberOfLeadingZeros", "(I)I"⟩ : MethodName)) hown (mvT hZ (hw _ (List.mem_of_getElem? (i := 25) rfl))) (mvT hZ (hw _ (List.mem_of_getElem? (i := 26) rfl))) (mvT hZ (hw _ (List.mem_of_getElem? (i := 22) rfl))) (mvT hZ (hw _ (List.mem_of_getElem? (i := 27) rfl))) (by decide) (backOf (W := 2) (rm5 l Z a0 hw [] xi h0 n0 Z0) hZ (hw _ (List.mem_of_getElem? (i := 27) rfl)) (hw _ (List.mem_of_getElem? (i := 22) rfl)) (by decide) (by decide)) (g := (mkF m 4 #[.val (.int xi)] [(.int xi), (.int (-2147483648 : Int32)), (.int xi)])) rfl (by rw [hml]; rfl) (argsL := [(.int xi)]) (rest := [(.int (-2147483648 : Int32)), (.int xi)]) (lenOf pd_3 rfl) rfl (by show 2 * 0 + _ ≤ _; exact Nat.le_of_eq rfl) (hb hby d4_4) (fun _ _ => ⟨rfl, e0, (by decide : 0 + 0 ≤ _), (by decide : 0 + 0 ≤ _)⟩)
  dsimp only [Pt.U, Pt.locs, Pt.cells, Pt.slots] at X1 l1 y1 z1 st1 hQ1
  subst y1 z1
  obtain ⟨rfl, N1q, e1⟩ := hQ1
  have N1 : Fr n0 L1 := by rw [l1]; exact Fr.app N0 N1q
  have pre2 : ∀ t, Steps p.tables e below (T1.setTop (mkF m 9 #[.val (.int xi)] [(.int (xi &&& (((-2147483648 : Int32).toUInt32 >>> ((Fnlz xi) &&& 31).toUInt32).toInt32)))])) t → Steps p.tables e below (s₁.setTop (entryFrame m #[(.int xi)] 1)) t := by
    intro t k
    refine pre0 t ?_
    show Steps p.tables e below (s₁.setTop (mkF m 0 #[.val (.int xi)] [])) _
    refine XS.iloadN X0.here hx rfl (hb hby d4_0) rfl ?_
    show Steps p.tables e below (s₁.setTop (mkF m 1 #[.val (.int xi)] [(.int xi)])) _
    refine X0.ldcInt hx hown (mvT hZ (hw _ (List.mem_of_getElem? (i := 24) rfl))) (g := (mkF m 1 #[.val (.int xi)] [(.int xi)])) rfl (hb hby d4_1) _ ?_
    show Steps p.tables e below (s₁.setTop (mkF m 3 #[.val (.int xi)] [(.int (-2147483648 : Int32)), (.int xi)])) _
    refine XS.iloadN X0.here hx rfl (hb hby d4_3) rfl ?_
    show Steps p.tables e below (s₁.setTop (mkF m 4 #[.val (.int xi)] [(.int xi), (.int (-2147483648 : Int32)), (.int xi)])) _
    refine st1 _ ?_
    show Steps p.tables e below (T1.setTop (mkF m 7 #[.val (.int xi)] [(.int (Fnlz xi)), (.int (-2147483648 : Int32)), (.int xi)])) _
    refine XS.iushr X1.here hx rfl (hb hby d4_7) rfl ?_
    show Steps p.tables e below (T1.setTop (mkF m 8 #[.val (.int xi)] [(.int (((-2147483648 : Int32).toUInt32 >>> ((Fnlz xi) &&& 31).toUInt32).toInt32)), (.int xi)])) _
    refine XS.iand X1.here hx rfl (hb hby d4_8) rfl ?_
    exact k
  obtain ⟨fs, hr, hrun, hended, hW, hsame⟩ := X1.leave (v := some (.int (Fhob xi))) (fun h => by rw [Bd.returns] at h; cases h) (BodyLoose.notSynchronized Bd)
  refine ⟨_, _, pre2 _ ?_, hrun, hended, _, _, rfl, ?_, ⟨_, rfl⟩, hW, hsame.mono (by decide) (by decide)⟩
  · show Steps p.tables e below (T1.setTop (mkF m 9 #[.val (.int xi)] [(.int (xi &&& (((-2147483648 : Int32).toUInt32 >>> ((Fnlz xi) &&& 31).toUInt32).toInt32)))])) _
    exact retI X1 hx Bd.returns (hb hby d4_9) hr
  · show Q4 Z xi h0 n0 _ T1.heap _
    rw [e1]
    exact ⟨rfl, N1, rfl⟩
theorem d1_0 : decode method_3_code 0 = .ok (.iload_n 2, 1) := by decide +kernel
theorem d1_1 : decode method_3_code 1 = .ok (.iload_n 3, 1) := by decide +kernel
theorem d1_2 : decode method_3_code 2 = .ok (.if_icmp .lt 5, 3) := by decide +kernel
theorem d1_5 : decode method_3_code 5 = .ok (.iconst 0, 1) := by decide +kernel
theorem d1_6 : decode method_3_code 6 = .ok (.ireturn, 1) := by decide +kernel
theorem d1_7 : decode method_3_code 7 = .ok (.iload_n 1, 1) := by decide +kernel
theorem d1_8 : decode method_3_code 8 = .ok (.iconst 3, 1) := by decide +kernel
theorem d1_9 : decode method_3_code 9 = .ok (.iload_n 2, 1) := by decide +kernel
theorem d1_10 : decode method_3_code 10 = .ok (.iadd, 1) := by decide +kernel
theorem d1_11 : decode method_3_code 11 = .ok (.iushr, 1) := by decide +kernel
theorem d1_12 : decode method_3_code 12 = .ok (.iconst 1, 1) := by decide +kernel
theorem d1_13 : decode method_3_code 13 = .ok (.iand, 1) := by decide +kernel
theorem d1_14 : decode method_3_code 14 = .ok (.ifCond .eq 5, 3) := by decide +kernel
theorem d1_17 : decode method_3_code 17 = .ok (.iconst 0, 1) := by decide +kernel
theorem d1_18 : decode method_3_code 18 = .ok (.ireturn, 1) := by decide +kernel
theorem d1_19 : decode method_3_code 19 = .ok (.iload_n 0, 1) := by decide +kernel
theorem d1_20 : decode method_3_code 20 = .ok (.ldc 34, 2) := by decide +kernel
theorem d1_22 : decode method_3_code 22 = .ok (.iand, 1) := by decide +kernel
theorem d1_23 : decode method_3_code 23 = .ok (.ireturn, 1) := by decide +kernel
theorem pn_1 : plainName "com/example/dealer/dealer/ChangingSharesIndexAtPinLaw" = true := by first | (simp [plainName, overriddenIn]; done) | decide +kernel
theorem ef_1 (m : MethodId) (x0 : Int32) (x1 : Int32) (x2 : Int32) (x3 : Int32) : entryFrame m #[(.int x0), (.int x1), (.int x2), (.int x3)] 4 = mkF m 0 #[.val (.int x0), .val (.int x1), .val (.int x2), .val (.int x3)] [] := by first | (simp [entryFrame, mkF, argsToLocals, Value.category]; done) | rfl
def Fshare (xs : Int32) (fv : Int32) (kv : Int32) (cv : Int32) : Int32 := (if kv < cv then (if (((fv.toUInt32 >>> (((3 : Int32) + kv) &&& 31).toUInt32).toInt32) &&& (1 : Int32)) = (0 : Int32) then (xs &&& (2147483647 : Int32)) else (0 : Int32)) else (0 : Int32))
def Q1 (Z : State) (xs : Int32) (fv : Int32) (kv : Int32) (cv : Int32) (h0 : Heap) (n0 : Nat) (v : Option Value) (h : Heap) (L : List Loc) : Prop := v = some (.int (Fshare xs fv kv cv)) ∧ Fr n0 L ∧ h = h0
set_option maxRecDepth 65536 in
set_option maxHeartbeats 40000000 in
theorem rm1 (l : Launch) (Z : State) (a0 : Array Value) (hw : ∀ d ∈ tables_1, d.before a0 Z = true) (ws : List Jvm.Cond) (xs : Int32) (fv : Int32) (kv : Int32) (cv : Int32) (h0 : Heap) (n0 : Nat) (Z0 : n0 ≤ h0.size) :
    MetFree l (⟨"com/example/dealer/dealer/ChangingSharesIndexAtPinLaw", "share", "(IIII)I"⟩ : MethodName) (head1 (Jvm.Cond.code (⟨"com/example/dealer/dealer/ChangingSharesIndexAtPinLaw", "share", "(IIII)I"⟩ : MethodName) method_3_code 4 (some .int) :: ws) ({ frames := 0, cells := 0, slots := 0, locals := 0 } : Room)) (fun a U => a = #[(.int xs), (.int fv), (.int kv), (.int cv)] ∧ Z.Warmed39 U.vm ∧ U.heap = h0) (fun _ _ _ _ _ => True) (fun _ U o U' => ∃ v L, o = .returned v ∧ Q1 Z xs fv kv cv h0 n0 v U'.heap L ∧ FrameEnd U o U' L ({ frames := 0, cells := 0, slots := 0, locals := 0 } : Room).cells ({ frames := 0, cells := 0, slots := 0, locals := 0 } : Room).slots) := by
  refine MetFree.of_bodySF (plainFor_of_name pn_1) hisR ?_
  intro p e s m args below meth c s₁ Bd hml0 hP hK
  obtain ⟨rfl, hZ, hh⟩ := hP
  have hx := Bd.exec
  have hby := Bd.bytes
  have hml : c.maxLocals = 4 := hml0
  have hown : s.vm.findClass "com/example/dealer/dealer/ChangingSharesIndexAtPinLaw" = some m.cls := findClass_of_methodNamed Bd.named
  have hnm := (name_of_methodNamed Bd.named Bd.method).1
  have X0 : Stand p l e ({ frames := 0, cells := 0, slots := 0, locals := 0 } : Room) s m #[(.int xs), (.int fv), (.int kv), (.int cv)] below meth c s₁ [] 0 0 := Stand.of_body Bd
  have e0 : s₁.heap = h0 := by rw [← hh, Bd.state]; rfl
  have N0 := Fr.nil n0
  have pre0 : ∀ t, Steps p.tables e below (s₁.setTop (mkF m 0 #[.val (.int xs), .val (.int fv), .val (.int kv), .val (.int cv)] [])) t → Steps p.tables e below (s₁.setTop (entryFrame m #[(.int xs), (.int fv), (.int kv), (.int cv)] 4)) t := fun t k => castTop (ef_1 m xs fv kv cv) k
  have pre1 : ∀ t, Steps p.tables e below (s₁.setTop (mkF m 2 #[.val (.int xs), .val (.int fv), .val (.int kv), .val (.int cv)] [(.int cv), (.int kv)])) t → Steps p.tables e below (s₁.setTop (entryFrame m #[(.int xs), (.int fv), (.int kv), (.int cv)] 4)) t := by
    intro t k
    refine pre0 t ?_
    show Steps p.tables e below (s₁.setTop (mkF m 0 #[.val (.int xs), .val (.int fv), .val (.int kv), .val (.int cv)] [])) _
    refine XS.iloadN X0.here hx rfl (hb hby d1_0) rfl ?_
    show Steps p.tables e below (s₁.setTop (mkF m 1 #[.val (.int xs), .val (.int fv), .val (.int kv), .val (.int cv)] [(.int kv)])) _
    refine XS.iloadN X0.here hx rfl (hb hby d1_1) rfl ?_
    exact k
  obtain ⟨fs, hr, hrun, hended, hW, hsame⟩ := X0.leave (v := some (.int (Fshare xs fv kv cv))) (fun h => by rw [Bd.returns] at h; cases h) (BodyLoose.notSynchronized Bd)
  refine ⟨_, _, pre1 _ ?_, hrun, hended, _, _, rfl, ?_, ⟨_, rfl⟩, hW, hsame.mono (by decide) (by decide)⟩
  · have k : ∀ (v1 : Int32), v1 = (if kv < cv then (if (((fv.toUInt32 >>> (((3 : Int32) + kv) &&& 31).toUInt32).toInt32) &&& (1 : Int32)) = (0 : Int32) then (xs &&& (2147483647 : Int32)) else (0 : Int32)) else (0 : Int32)) → ∀ (f : JFrame) (acts : List Action), f.method = m → f.locked = none → f.entered = [] → (doReturn e (s₁.setTop f) acts (some (.int v1))).1 = s₁.setFrames fs := fun v1 hv1 => by subst hv1; exact hr
    show Steps p.tables e below (s₁.setTop (mkF m 2 #[.val (.int xs), .val (.int fv), .val (.int kv), .val (.int cv)] [(.int cv), (.int kv)])) _
    by_cases hc2 : kv < cv
    · refine XS.icmpYes X0.here hx rfl (pc0 := 2) (pc' := 7) rfl (hb hby d1_2) rfl (tlt hc2).1 (by decide) (by decide) ?_
      have k : ∀ (v1 : Int32), v1 = (if (((fv.toUInt32 >>> (((3 : Int32) + kv) &&& 31).toUInt32).toInt32) &&& (1 : Int32)) = (0 : Int32) then (xs &&& (2147483647 : Int32)) else (0 : Int32)) → ∀ (f : JFrame) (acts : List Action), f.method = m → f.locked = none → f.entered = [] → (doReturn e (s₁.setTop f) acts (some (.int v1))).1 = s₁.setFrames fs := fun v1 hv1 => k v1 (hv1.trans (if_pos hc2).symm)
      show Steps p.tables e below (s₁.setTop (mkF m 7 #[.val (.int xs), .val (.int fv), .val (.int kv), .val (.int cv)] [])) _
      refine XS.iloadN X0.here hx rfl (hb hby d1_7) rfl ?_
      show Steps p.tables e below (s₁.setTop (mkF m 8 #[.val (.int xs), .val (.int fv), .val (.int kv), .val (.int cv)] [(.int fv)])) _
      refine XS.iconst X0.here hx rfl (hb hby d1_8) ?_
      show Steps p.tables e below (s₁.setTop (mkF m 9 #[.val (.int xs), .val (.int fv), .val (.int kv), .val (.int cv)] [(.int (3 : Int32)), (.int fv)])) _
      refine XS.iloadN X0.here hx rfl (hb hby d1_9) rfl ?_
      show Steps p.tables e below (s₁.setTop (mkF m 10 #[.val (.int xs), .val (.int fv), .val (.int kv), .val (.int cv)] [(.int kv), (.int (3 : Int32)), (.int fv)])) _
      refine XS.iadd X0.here hx rfl (hb hby d1_10) rfl ?_
      show Steps p.tables e below (s₁.setTop (mkF m 11 #[.val (.int xs), .val (.int fv), .val (.int kv), .val (.int cv)] [(.int ((3 : Int32) + kv)), (.int fv)])) _
      refine XS.iushr X0.here hx rfl (hb hby d1_11) rfl ?_
      show Steps p.tables e below (s₁.setTop (mkF m 12 #[.val (.int xs), .val (.int fv), .val (.int kv), .val (.int cv)] [(.int ((fv.toUInt32 >>> (((3 : Int32) + kv) &&& 31).toUInt32).toInt32))])) _
      refine XS.iconst X0.here hx rfl (hb hby d1_12) ?_
      show Steps p.tables e below (s₁.setTop (mkF m 13 #[.val (.int xs), .val (.int fv), .val (.int kv), .val (.int cv)] [(.int (1 : Int32)), (.int ((fv.toUInt32 >>> (((3 : Int32) + kv) &&& 31).toUInt32).toInt32))])) _
      refine XS.iand X0.here hx rfl (hb hby d1_13) rfl ?_
      show Steps p.tables e below (s₁.setTop (mkF m 14 #[.val (.int xs), .val (.int fv), .val (.int kv), .val (.int cv)] [(.int (((fv.toUInt32 >>> (((3 : Int32) + kv) &&& 31).toUInt32).toInt32) &&& (1 : Int32)))])) _
      by_cases hc3 : (((fv.toUInt32 >>> (((3 : Int32) + kv) &&& 31).toUInt32).toInt32) &&& (1 : Int32)) = (0 : Int32)
      · refine XS.ifYes X0.here hx rfl (pc0 := 14) (pc' := 19) rfl (hb hby d1_14) rfl ((if0 _ _).trans (teq hc3).1) (by decide) (by decide) ?_
        have k : ∀ (v1 : Int32), v1 = (xs &&& (2147483647 : Int32)) → ∀ (f : JFrame) (acts : List Action), f.method = m → f.locked = none → f.entered = [] → (doReturn e (s₁.setTop f) acts (some (.int v1))).1 = s₁.setFrames fs := fun v1 hv1 => k v1 (hv1.trans (if_pos hc3).symm)
        show Steps p.tables e below (s₁.setTop (mkF m 19 #[.val (.int xs), .val (.int fv), .val (.int kv), .val (.int cv)] [])) _
        refine XS.iloadN X0.here hx rfl (hb hby d1_19) rfl ?_
        show Steps p.tables e below (s₁.setTop (mkF m 20 #[.val (.int xs), .val (.int fv), .val (.int kv), .val (.int cv)] [(.int xs)])) _
        refine X0.ldcInt hx hown (mvT hZ (hw _ (List.mem_of_getElem? (i := 4) rfl))) (g := (mkF m 20 #[.val (.int xs), .val (.int fv), .val (.int kv), .val (.int cv)] [(.int xs)])) rfl (hb hby d1_20) _ ?_
        show Steps p.tables e below (s₁.setTop (mkF m 22 #[.val (.int xs), .val (.int fv), .val (.int kv), .val (.int cv)] [(.int (2147483647 : Int32)), (.int xs)])) _
        refine XS.iand X0.here hx rfl (hb hby d1_22) rfl ?_
        show Steps p.tables e below (s₁.setTop (mkF m 23 #[.val (.int xs), .val (.int fv), .val (.int kv), .val (.int cv)] [(.int (xs &&& (2147483647 : Int32)))])) _
        exact retI X0 hx Bd.returns (hb hby d1_23) (k _ rfl)
      · refine XS.ifNo X0.here hx rfl (hb hby d1_14) rfl ((if0 _ _).trans (feq hc3).1) ?_
        have k : ∀ (v1 : Int32), v1 = (0 : Int32) → ∀ (f : JFrame) (acts : List Action), f.method = m → f.locked = none → f.entered = [] → (doReturn e (s₁.setTop f) acts (some (.int v1))).1 = s₁.setFrames fs := fun v1 hv1 => k v1 (hv1.trans (if_neg hc3).symm)
        show Steps p.tables e below (s₁.setTop (mkF m 17 #[.val (.int xs), .val (.int fv), .val (.int kv), .val (.int cv)] [])) _
        refine XS.iconst X0.here hx rfl (hb hby d1_17) ?_
        show Steps p.tables e below (s₁.setTop (mkF m 18 #[.val (.int xs), .val (.int fv), .val (.int kv), .val (.int cv)] [(.int (0 : Int32))])) _
        exact retI X0 hx Bd.returns (hb hby d1_18) (k _ rfl)
    · refine XS.icmpNo X0.here hx rfl (hb hby d1_2) rfl (flt hc2).1 ?_
      have k : ∀ (v1 : Int32), v1 = (0 : Int32) → ∀ (f : JFrame) (acts : List Action), f.method = m → f.locked = none → f.entered = [] → (doReturn e (s₁.setTop f) acts (some (.int v1))).1 = s₁.setFrames fs := fun v1 hv1 => k v1 (hv1.trans (if_neg hc2).symm)
      show Steps p.tables e below (s₁.setTop (mkF m 5 #[.val (.int xs), .val (.int fv), .val (.int kv), .val (.int cv)] [])) _
      refine XS.iconst X0.here hx rfl (hb hby d1_5) ?_
      show Steps p.tables e below (s₁.setTop (mkF m 6 #[.val (.int xs), .val (.int fv), .val (.int kv), .val (.int cv)] [(.int (0 : Int32))])) _
      exact retI X0 hx Bd.returns (hb hby d1_6) (k _ rfl)
  · show Q1 Z xs fv kv cv h0 n0 _ s₁.heap _
    rw [e0]
    exact ⟨rfl, N0, rfl⟩
theorem d2_0 : decode prog_6_method_1_code 0 = .ok (.aload_n 0, 1) := by decide +kernel
theorem d2_1 : decode prog_6_method_1_code 1 = .ok (.invokespecial 1, 3) := by decide +kernel
theorem d2_4 : decode prog_6_method_1_code 4 = .ok (.aload_n 0, 1) := by decide +kernel
theorem d2_5 : decode prog_6_method_1_code 5 = .ok (.iload_n 1, 1) := by decide +kernel
theorem d2_6 : decode prog_6_method_1_code 6 = .ok (.iconst 1, 1) := by decide +kernel
theorem d2_7 : decode prog_6_method_1_code 7 = .ok (.iadd, 1) := by decide +kernel
theorem d2_8 : decode prog_6_method_1_code 8 = .ok (.newarray .long, 2) := by decide +kernel
theorem d2_10 : decode prog_6_method_1_code 10 = .ok (.putfield 7, 3) := by decide +kernel
theorem d2_13 : decode prog_6_method_1_code 13 = .ok (.aload_n 0, 1) := by decide +kernel
theorem d2_14 : decode prog_6_method_1_code 14 = .ok (.iload_n 1, 1) := by decide +kernel
theorem d2_15 : decode prog_6_method_1_code 15 = .ok (.newarray .int, 2) := by decide +kernel
theorem d2_17 : decode prog_6_method_1_code 17 = .ok (.putfield 13, 3) := by decide +kernel
theorem d2_20 : decode prog_6_method_1_code 20 = .ok (.aload_n 0, 1) := by decide +kernel
theorem d2_21 : decode prog_6_method_1_code 21 = .ok (.iload_n 1, 1) := by decide +kernel
theorem d2_22 : decode prog_6_method_1_code 22 = .ok (.ifCond .ne 7, 3) := by decide +kernel
theorem d2_29 : decode prog_6_method_1_code 29 = .ok (.iload_n 1, 1) := by decide +kernel
theorem d2_30 : decode prog_6_method_1_code 30 = .ok (.invokestatic 17, 3) := by decide +kernel
theorem d2_33 : decode prog_6_method_1_code 33 = .ok (.putfield 23, 3) := by decide +kernel
theorem d2_36 : decode prog_6_method_1_code 36 = .ok (.return_, 1) := by decide +kernel
theorem pn_2 : plainName "com/example/dealer/dealer/ChangingShares" = true := by first | (simp [plainName, overriddenIn]; done) | decide +kernel
theorem ef_2 (m : MethodId) (x0 : Addr) (x1 : Int32) : entryFrame m #[(.ref x0), (.int x1)] 2 = mkF m 0 #[.val (.ref x0), .val (.int x1)] [] := by first | (simp [entryFrame, mkF, argsToLocals, Value.category]; done) | rfl
def Q2 (Z : State) (ob : Addr) (p0 : Int32) (h0 : Heap) (n0 : Nat) (v : Option Value) (h : Heap) (L : List Loc) : Prop := v = none ∧ Fr n0 L ∧ ∃ an as : Addr, ((CS Z h n0 ob an as (Fhob p0) 0 (p0 + (1 : Int32)) (fun _ => 0) p0 (fun _ => 0)) ∧ (∀ x : Addr, x < h0.size → x ≠ an) ∧ ∀ x : Addr, x < h0.size → x ≠ as) ∧ Keep h0 h [ob]
set_option maxRecDepth 65536 in
set_option maxHeartbeats 40000000 in
theorem rm2 (l : Launch) (Z : State) (a0 : Array Value) (hw : ∀ d ∈ tables_1, d.before a0 Z = true) (ws : List Jvm.Cond) (ob : Addr) (p0 : Int32) (h0 : Heap) (n0 : Nat) (Z0 : n0 ≤ h0.size) (I0 : CS0 Z h0 n0 ob) (hp0 : ¬ (p0 = (0 : Int32))) (hp1 : 0 ≤ p0.toInt) (hp2 : p0.toInt ≤ 8) :
    MetFree l (⟨"com/example/dealer/dealer/ChangingShares", "<init>", "(I)V"⟩ : MethodName) (head1 (Jvm.Cond.code (⟨"com/example/dealer/dealer/ChangingShares", "<init>", "(I)V"⟩ : MethodName) prog_6_method_1_code 2 none :: ws) ({ frames := 2, cells := 2, slots := 17, locals := 28 } : Room)) (fun a U => a = #[(.ref ob), (.int p0)] ∧ Z.Warmed39 U.vm ∧ U.heap = h0) (fun _ _ _ _ _ => True) (fun _ U o U' => ∃ v L, o = .returned v ∧ Q2 Z ob p0 h0 n0 v U'.heap L ∧ FrameEnd U o U' L ({ frames := 2, cells := 2, slots := 17, locals := 28 } : Room).cells ({ frames := 2, cells := 2, slots := 17, locals := 28 } : Room).slots) := by
  refine MetFree.of_bodySF (plainFor_of_name pn_2) hisR ?_
  intro p e s m args below meth c s₁ Bd hml0 hP hK
  obtain ⟨rfl, hZ, hh⟩ := hP
  have hx := Bd.exec
  have hby := Bd.bytes
  have hml : c.maxLocals = 2 := hml0
  have hown : s.vm.findClass "com/example/dealer/dealer/ChangingShares" = some m.cls := findClass_of_methodNamed Bd.named
  have hnm := (name_of_methodNamed Bd.named Bd.method).1
  have X0 : Stand p l e ({ frames := 2, cells := 2, slots := 17, locals := 28 } : Room) s m #[(.ref ob), (.int p0)] below meth c s₁ [] 0 0 := Stand.of_body Bd
  have e0 : s₁.heap = h0 := by rw [← hh, Bd.state]; rfl
  have N0 := Fr.nil n0
  have pre0 : ∀ t, Steps p.tables e below (s₁.setTop (mkF m 0 #[.val (.ref ob), .val (.int p0)] [])) t → Steps p.tables e below (s₁.setTop (entryFrame m #[(.ref ob), (.int p0)] 2)) t := fun t k => castTop (ef_2 m ob p0) k
  obtain ⟨k1_0, k1_1, k1_2, k1_3, k1_4, k1_g_ob, k1_sz⟩ := I0
  obtain ⟨T2, X2, e2, st2⟩ := initO X0 hx hZ hown (hw _ (List.mem_of_getElem? (i := 11) rfl)) (hw _ (List.mem_of_getElem? (i := 12) rfl)) (hw _ (List.mem_of_getElem? (i := 13) rfl)) e0 (g := (mkF m 1 #[.val (.ref ob), .val (.int p0)] [(.ref ob)])) rfl (by rw [hml]; rfl) rfl (hb hby d2_1) (by decide) (W := 0) (by show 2 * 0 + _ ≤ _; exact Nat.le_of_eq rfl) (by decide)
  obtain ⟨T3, h3, k3, X3, e3, E3, A3, st3⟩ := newP X2 hx hZ (hw _ (List.mem_of_getElem? (i := 14) rfl)) e2 (g := (mkF m 8 #[.val (.ref ob), .val (.int p0)] [(.int (p0 + (1 : Int32))), (.ref ob)])) rfl (hb hby d2_8) rfl (own_p1n p0 hp1 hp2) (cap := 9) (own_p1c p0 hp1 hp2) (by decide) (by decide) (by decide)
  obtain ⟨b3, g3⟩ : ∃ z, z = h0.size := ⟨_, rfl⟩
  rw [← g3] at A3 st3
  have ne_ob_b3 : ob ≠ b3 := Nat.ne_of_lt (Nat.lt_of_lt_of_le k1_0.lt (Nat.le_of_eq g3.symm))
  have ge_b3 : n0 ≤ b3 := Nat.le_trans Z0 (Nat.le_of_eq g3.symm)
  have sz_b3 : h0.size ≤ b3 := Nat.le_trans (Keep.refl h0 [ob]).1 (Nat.le_of_eq g3.symm)
  have Z3 : n0 ≤ h3.size := Nat.le_trans Z0 E3.1
  have K3 := (Keep.refl h0 [ob]).ext E3
  have V3 := AJ.new A3 (own_p1n p0 hp1 hp2)
  obtain ⟨T4, h4, X4, e4, W4, st4⟩ := putF X3 hx hZ hown (host := "") (Or.inl (hw _ (List.mem_of_getElem? (i := 15) rfl))) Via.refl e3 (k1_1.ext E3) (k1_0.ext E3) (Or.inr ⟨(hw _ (List.mem_of_getElem? (i := 16) rfl)), rfl, hnm⟩) (hw _ (List.mem_of_getElem? (i := 6) rfl)) (ty := (.array .long)) (by decide) rfl rfl (g := (mkF m 10 #[.val (.ref ob), .val (.int p0)] [(.ref b3), (.ref ob)])) rfl rfl (hb hby d2_10)
  have f5 := ((k1_2.ext E3).other W4 (Or.inr (slot_ne (Or.inr (hw _ (List.mem_of_getElem? (i := 19) rfl))) (Or.inr (hw _ (List.mem_of_getElem? (i := 16) rfl))) (by decide) (t := (.array .int)) (t' := (.array .long)) (by decide) (by decide))))
  have f6 := ((k1_3.ext E3).other W4 (Or.inr (slot_ne (Or.inr (hw _ (List.mem_of_getElem? (i := 30) rfl))) (Or.inr (hw _ (List.mem_of_getElem? (i := 16) rfl))) (by decide) (t := .int) (t' := (.array .long)) (by decide) (by decide))))
  have f7 := ((k1_4.ext E3).other W4 (Or.inr (slot_ne (Or.inl (hw _ (List.mem_of_getElem? (i := 37) rfl))) (Or.inr (hw _ (List.mem_of_getElem? (i := 16) rfl))) (by decide) (t := .long) (t' := (.array .long)) (by decide) (by decide))))
  have Z4 : n0 ≤ h4.size := Nat.le_trans Z3 (Keep.of_wr W4).1
  have N4 := Fr.snoc X4 N0 k1_g_ob
  have K4 := K3.wr W4 (Or.inl (List.mem_of_getElem? (i := 0) rfl))
  obtain ⟨T8, h8, k8, X8, e8, E8, A8, st8⟩ := newP X4 hx hZ (hw _ (List.mem_of_getElem? (i := 17) rfl)) e4 (g := (mkF m 15 #[.val (.ref ob), .val (.int p0)] [(.int p0), (.ref ob)])) rfl (hb hby d2_15) rfl (own_pn p0 hp1 hp2) (cap := 8) (own_pc p0 hp1 hp2) (by decide) (by decide) (by decide)
  obtain ⟨b8, g8⟩ : ∃ z, z = h4.size := ⟨_, rfl⟩
  rw [← g8] at A8 st8
  have ne_ob_b8 : ob ≠ b8 := Nat.ne_of_lt (Nat.lt_of_lt_of_le ((k1_0.ext E3).wr W4).lt (Nat.le_of_eq g8.symm))
  have ne_b3_b8 : b3 ≠ b8 := Nat.ne_of_lt (Nat.lt_of_lt_of_le (V3.other W4 (Ne.symm ne_ob_b3)).lt (Nat.le_of_eq g8.symm))
  have ge_b8 : n0 ≤ b8 := Nat.le_trans Z4 (Nat.le_of_eq g8.symm)
  have sz_b8 : h0.size ≤ b8 := Nat.le_trans K4.1 (Nat.le_of_eq g8.symm)
  have Z8 : n0 ≤ h8.size := Nat.le_trans Z4 E8.1
  have K8 := K4.ext E8
  have V8 := AI.new A8 (own_pn p0 hp1 hp2)
  obtain ⟨T9, h9, X9, e9, W9, st9⟩ := putF X8 hx hZ hown (host := "") (Or.inl (hw _ (List.mem_of_getElem? (i := 18) rfl))) Via.refl e8 (f5.ext E8) (((k1_0.ext E3).wr W4).ext E8) (Or.inr ⟨(hw _ (List.mem_of_getElem? (i := 19) rfl)), rfl, hnm⟩) (hw _ (List.mem_of_getElem? (i := 6) rfl)) (ty := (.array .int)) (by decide) rfl rfl (g := (mkF m 17 #[.val (.ref ob), .val (.int p0)] [(.ref b8), (.ref ob)])) rfl rfl (hb hby d2_17)
  have f10 := ((((k1_1.ext E3).same W4).ext E8).other W9 (Or.inr (slot_ne (Or.inr (hw _ (List.mem_of_getElem? (i := 16) rfl))) (Or.inr (hw _ (List.mem_of_getElem? (i := 19) rfl))) (by decide) (t := (.array .long)) (t' := (.array .int)) (by decide) (by decide))))
  have f11 := ((f6.ext E8).other W9 (Or.inr (slot_ne (Or.inr (hw _ (List.mem_of_getElem? (i := 30) rfl))) (Or.inr (hw _ (List.mem_of_getElem? (i := 19) rfl))) (by decide) (t := .int) (t' := (.array .int)) (by decide) (by decide))))
  have f12 := ((f7.ext E8).other W9 (Or.inr (slot_ne (Or.inl (hw _ (List.mem_of_getElem? (i := 37) rfl))) (Or.inr (hw _ (List.mem_of_getElem? (i := 19) rfl))) (by decide) (t := .long) (t' := (.array .int)) (by decide) (by decide))))
  have Z9 : n0 ≤ h9.size := Nat.le_trans Z8 (Keep.of_wr W9).1
  have N9 := Fr.snoc X9 N4 k1_g_ob
  have K9 := K8.wr W9 (Or.inl (List.mem_of_getElem? (i := 0) rfl))
  obtain ⟨_, _, ⟨T13, L13, k13, n13⟩, -, X13, ⟨Lc13, hQ13, l13, y13, z13⟩, st13⟩ := Jvm.LawKit.callS X9 hx (y := (⟨"java/lang/Integer", "highestOneBit", "(I)I"⟩ : MethodName)) hown (mvT hZ (hw _ (List.mem_of_getElem? (i := 20) rfl))) (mvT hZ (hw _ (List.mem_of_getElem? (i := 21) rfl))) (mvT hZ (hw _ (List.mem_of_getElem? (i := 22) rfl))) (mvT hZ (hw _ (List.mem_of_getElem? (i := 23) rfl))) (by decide) (backOf (W := 1) (rm4 l Z a0 hw [] p0 h9 n0 Z9) hZ (hw _ (List.mem_of_getElem? (i := 23) rfl)) (hw _ (List.mem_of_getElem? (i := 22) rfl)) (by decide) (by decide)) (g := (mkF m 30 #[.val (.ref ob), .val (.int p0)] [(.int p0), (.ref ob)])) rfl (by rw [hml]; rfl) (argsL := [(.int p0)]) (rest := [(.ref ob)]) (lenOf pd_3 rfl) rfl (by show 2 * 0 + _ ≤ _; exact Nat.le_of_eq rfl) (hb hby d2_30) (fun _ _ => ⟨rfl, e9, (by decide : 2 + 0 ≤ _), (by decide : 17 + 0 ≤ _)⟩)
  dsimp only [Pt.U, Pt.locs, Pt.cells, Pt.slots] at X13 l13 y13 z13 st13 hQ13
  subst y13 z13
  obtain ⟨rfl, N13q, e13⟩ := hQ13
  have N13 : Fr n0 L13 := by rw [l13]; exact Fr.app N9 N13q
  obtain ⟨T14, h14, X14, e14, W14, st14⟩ := putF X13 hx hZ hown (host := "") (Or.inl (hw _ (List.mem_of_getElem? (i := 29) rfl))) Via.refl e13 f11 ((((k1_0.ext E3).wr W4).ext E8).wr W9) (Or.inr ⟨(hw _ (List.mem_of_getElem? (i := 30) rfl)), rfl, hnm⟩) (hw _ (List.mem_of_getElem? (i := 6) rfl)) (ty := .int) (by decide) rfl rfl (g := (mkF m 33 #[.val (.ref ob), .val (.int p0)] [(.int (Fhob p0)), (.ref ob)])) rfl rfl (hb hby d2_33)
  have f15 := (f10.other W14 (Or.inr (slot_ne (Or.inr (hw _ (List.mem_of_getElem? (i := 16) rfl))) (Or.inr (hw _ (List.mem_of_getElem? (i := 30) rfl))) (by decide) (t := (.array .long)) (t' := .int) (by decide) (by decide))))
  have f16 := (((f5.ext E8).same W9).other W14 (Or.inr (slot_ne (Or.inr (hw _ (List.mem_of_getElem? (i := 19) rfl))) (Or.inr (hw _ (List.mem_of_getElem? (i := 30) rfl))) (by decide) (t := (.array .int)) (t' := .int) (by decide) (by decide))))
  have f17 := (f12.other W14 (Or.inr (slot_ne (Or.inl (hw _ (List.mem_of_getElem? (i := 37) rfl))) (Or.inr (hw _ (List.mem_of_getElem? (i := 30) rfl))) (by decide) (t := .long) (t' := .int) (by decide) (by decide))))
  have Z14 : n0 ≤ h14.size := Nat.le_trans Z9 (Keep.of_wr W14).1
  have N14 := Fr.snoc X14 N13 k1_g_ob
  have K14 := K9.wr W14 (Or.inl (List.mem_of_getElem? (i := 0) rfl))
  have pre18 : ∀ t, Steps p.tables e below (T14.setTop (mkF m 36 #[.val (.ref ob), .val (.int p0)] [])) t → Steps p.tables e below (s₁.setTop (entryFrame m #[(.ref ob), (.int p0)] 2)) t := by
    intro t k
    refine pre0 t ?_
    show Steps p.tables e below (s₁.setTop (mkF m 0 #[.val (.ref ob), .val (.int p0)] [])) _
    refine XS.aloadN X0.here hx rfl (hb hby d2_0) rfl rfl ?_
    show Steps p.tables e below (s₁.setTop (mkF m 1 #[.val (.ref ob), .val (.int p0)] [(.ref ob)])) _
    refine st2 _ ?_
    show Steps p.tables e below (T2.setTop (mkF m 4 #[.val (.ref ob), .val (.int p0)] [])) _
    refine XS.aloadN X2.here hx rfl (hb hby d2_4) rfl rfl ?_
    show Steps p.tables e below (T2.setTop (mkF m 5 #[.val (.ref ob), .val (.int p0)] [(.ref ob)])) _
    refine XS.iloadN X2.here hx rfl (hb hby d2_5) rfl ?_
    show Steps p.tables e below (T2.setTop (mkF m 6 #[.val (.ref ob), .val (.int p0)] [(.int p0), (.ref ob)])) _
    refine XS.iconst X2.here hx rfl (hb hby d2_6) ?_
    show Steps p.tables e below (T2.setTop (mkF m 7 #[.val (.ref ob), .val (.int p0)] [(.int (1 : Int32)), (.int p0), (.ref ob)])) _
    refine XS.iadd X2.here hx rfl (hb hby d2_7) rfl ?_
    show Steps p.tables e below (T2.setTop (mkF m 8 #[.val (.ref ob), .val (.int p0)] [(.int (p0 + (1 : Int32))), (.ref ob)])) _
    refine st3 _ ?_
    show Steps p.tables e below (T3.setTop (mkF m 10 #[.val (.ref ob), .val (.int p0)] [(.ref b3), (.ref ob)])) _
    refine st4 _ ?_
    show Steps p.tables e below (T4.setTop (mkF m 13 #[.val (.ref ob), .val (.int p0)] [])) _
    refine XS.aloadN X4.here hx rfl (hb hby d2_13) rfl rfl ?_
    show Steps p.tables e below (T4.setTop (mkF m 14 #[.val (.ref ob), .val (.int p0)] [(.ref ob)])) _
    refine XS.iloadN X4.here hx rfl (hb hby d2_14) rfl ?_
    show Steps p.tables e below (T4.setTop (mkF m 15 #[.val (.ref ob), .val (.int p0)] [(.int p0), (.ref ob)])) _
    refine st8 _ ?_
    show Steps p.tables e below (T8.setTop (mkF m 17 #[.val (.ref ob), .val (.int p0)] [(.ref b8), (.ref ob)])) _
    refine st9 _ ?_
    show Steps p.tables e below (T9.setTop (mkF m 20 #[.val (.ref ob), .val (.int p0)] [])) _
    refine XS.aloadN X9.here hx rfl (hb hby d2_20) rfl rfl ?_
    show Steps p.tables e below (T9.setTop (mkF m 21 #[.val (.ref ob), .val (.int p0)] [(.ref ob)])) _
    refine XS.iloadN X9.here hx rfl (hb hby d2_21) rfl ?_
    show Steps p.tables e below (T9.setTop (mkF m 22 #[.val (.ref ob), .val (.int p0)] [(.int p0), (.ref ob)])) _
    refine XS.ifYes X9.here hx rfl (pc0 := 22) (pc' := 29) rfl (hb hby d2_22) rfl ((if0 _ _).trans (feq hp0).2) (by decide) (by decide) ?_
    show Steps p.tables e below (T9.setTop (mkF m 29 #[.val (.ref ob), .val (.int p0)] [(.ref ob)])) _
    refine XS.iloadN X9.here hx rfl (hb hby d2_29) rfl ?_
    show Steps p.tables e below (T9.setTop (mkF m 30 #[.val (.ref ob), .val (.int p0)] [(.int p0), (.ref ob)])) _
    refine st13 _ ?_
    show Steps p.tables e below (T13.setTop (mkF m 33 #[.val (.ref ob), .val (.int p0)] [(.int (Fhob p0)), (.ref ob)])) _
    refine st14 _ ?_
    exact k
  obtain ⟨fs, hr, hrun, hended, hW, hsame⟩ := X14.leave (v := none) (fun _ => rfl) (BodyLoose.notSynchronized Bd)
  refine ⟨_, _, pre18 _ ?_, hrun, hended, _, _, rfl, ?_, ⟨_, rfl⟩, hW, hsame.mono (by decide) (by decide)⟩
  · show Steps p.tables e below (T14.setTop (mkF m 36 #[.val (.ref ob), .val (.int p0)] [])) _
    exact X14.returnOut hx Bd.returns (hb hby d2_36) hr
  · show Q2 Z ob p0 h0 n0 _ T14.heap _
    rw [e14]
    exact ⟨rfl, N14, b3, b8, ⟨⟨(((((k1_0.ext E3).wr W4).ext E8).wr W9).wr W14), f15, f16, (f11.same W14), f17, ((((V3.other W4 (Ne.symm ne_ob_b3)).ext E8).other W9 (Ne.symm ne_ob_b3)).other W14 (Ne.symm ne_ob_b3)), ((V8.other W9 (Ne.symm ne_ob_b8)).other W14 (Ne.symm ne_ob_b8)), k1_g_ob, ge_b3, ge_b8, ne_ob_b3, ne_ob_b8, ne_b3_b8, Z14⟩, fun x hx => Nat.ne_of_lt (Nat.lt_of_lt_of_le hx sz_b3), fun x hx => Nat.ne_of_lt (Nat.lt_of_lt_of_le hx sz_b8)⟩, K14⟩
def own_dl (ix sh : Int32) (sf : Int32 → Int32) : Int64 := ((sh - (sf ix)).toInt64)
theorem d6_39 : decode prog_6_method_3_code 39 = .ok (.iload 5, 2) := by decide +kernel
theorem d6_41 : decode prog_6_method_3_code 41 = .ok (.aload_n 0, 1) := by decide +kernel
theorem d6_42 : decode prog_6_method_3_code 42 = .ok (.getfield 7, 3) := by decide +kernel
theorem d6_45 : decode prog_6_method_3_code 45 = .ok (.arraylength, 1) := by decide +kernel
theorem d6_46 : decode prog_6_method_3_code 46 = .ok (.if_icmp .ge 28, 3) := by decide +kernel
theorem d6_49 : decode prog_6_method_3_code 49 = .ok (.aload_n 0, 1) := by decide +kernel
theorem d6_50 : decode prog_6_method_3_code 50 = .ok (.getfield 7, 3) := by decide +kernel
theorem d6_53 : decode prog_6_method_3_code 53 = .ok (.iload 5, 2) := by decide +kernel
theorem d6_55 : decode prog_6_method_3_code 55 = .ok (.dup2, 1) := by decide +kernel
theorem d6_56 : decode prog_6_method_3_code 56 = .ok (.laload, 1) := by decide +kernel
theorem d6_57 : decode prog_6_method_3_code 57 = .ok (.lload_n 3, 1) := by decide +kernel
theorem d6_58 : decode prog_6_method_3_code 58 = .ok (.ladd, 1) := by decide +kernel
theorem d6_59 : decode prog_6_method_3_code 59 = .ok (.lastore, 1) := by decide +kernel
theorem d6_60 : decode prog_6_method_3_code 60 = .ok (.iload 5, 2) := by decide +kernel
theorem d6_62 : decode prog_6_method_3_code 62 = .ok (.iload 5, 2) := by decide +kernel
theorem d6_64 : decode prog_6_method_3_code 64 = .ok (.iload 5, 2) := by decide +kernel
theorem d6_66 : decode prog_6_method_3_code 66 = .ok (.ineg, 1) := by decide +kernel
theorem d6_67 : decode prog_6_method_3_code 67 = .ok (.iand, 1) := by decide +kernel
theorem d6_68 : decode prog_6_method_3_code 68 = .ok (.iadd, 1) := by decide +kernel
theorem d6_69 : decode prog_6_method_3_code 69 = .ok (.istore 5, 2) := by decide +kernel
theorem d6_71 : decode prog_6_method_3_code 71 = .ok (.goto (-32), 3) := by decide +kernel
def st_k (kk : Int32) : Int32 := (kk + (kk &&& ((-kk))))
def st_f (dl : Int64) (kk : Int32) (nf : Int32 → Int64) : Int32 → Int64 := (@upA Int64 nf kk ((nf kk) + dl))
set_option maxRecDepth 65536 in
set_option maxHeartbeats 40000000 in
theorem stTurn {p : Program} {l : Launch} {e : Env} {R : Room} {s : State} {m : MethodId} {args : Array Value} {below : List Frame} {meth : Method} {c : Code} {T0 : State} {locs : List Loc} {cells slots : Nat} {Z : State} {a0 : Array Value} {h0 : Heap} {n0 : Nat} (ix : Int32) (sh : Int32) (dl : Int64) (kk : Int32) (ob : Addr) (an : Addr) (as : Addr) (fst : Int32) (tt : Int64) (nn : Int32) (nf : Int32 → Int64) (ns : Int32) (sf : Int32 → Int32)
    (X0 : Stand p l e R s m args below meth c T0 locs cells slots) (hx : p.tables.exec = Jvm.exec) (hZ : Z.Warmed39 s.vm) (hw : ∀ d ∈ tables_1, d.before a0 Z = true) (hby : c.code = prog_6_method_3_code) (hml : c.maxLocals = 6) (hown : s.vm.findClass "com/example/dealer/dealer/ChangingShares" = some m.cls) (e0 : T0.heap = h0) (N0 : Fr n0 locs) (Z0 : n0 ≤ h0.size) (I0 : CS Z h0 n0 ob an as fst tt nn nf ns sf) (hlt : kk < nn) (h0k : ¬ kk < 0) :
    ∃ (T' : State) (h' : Heap) (locs' : List Loc), Stand p l e R s m args below meth c T' locs' cells slots ∧ T'.heap = h' ∧ Fr n0 locs' ∧ (CS Z h' n0 ob an as fst tt nn (st_f dl kk nf) ns sf) ∧ ∀ t, Steps p.tables e below (T'.setTop (mkF m 39 #[.val (.ref ob), .val (.int ix), .val (.int sh), .val (.long dl), .second, .val (.int (st_k kk))] [])) t → Steps p.tables e below (T0.setTop (mkF m 39 #[.val (.ref ob), .val (.int ix), .val (.int sh), .val (.long dl), .second, .val (.int kk)] [])) t := by
  have pre0 : ∀ t, Steps p.tables e below (T0.setTop (mkF m 39 #[.val (.ref ob), .val (.int ix), .val (.int sh), .val (.long dl), .second, .val (.int kk)] [])) t → Steps p.tables e below (T0.setTop (mkF m 39 #[.val (.ref ob), .val (.int ix), .val (.int sh), .val (.long dl), .second, .val (.int kk)] [])) t := fun t k => k
  obtain ⟨k1_0, k1_1, k1_2, k1_3, k1_4, k1_5, k1_6, k1_g_ob, k1_g_an, k1_g_as, k1_n_ob_an, k1_n_ob_as, k1_n_an_as, k1_sz⟩ := I0
  obtain ⟨T2, X2, e2, st2⟩ := getF X0 hx hZ hown (host := "") (Or.inl (hw _ (List.mem_of_getElem? (i := 15) rfl))) Via.refl e0 k1_1 (g := (mkF m 42 #[.val (.ref ob), .val (.int ix), .val (.int sh), .val (.long dl), .second, .val (.int kk)] [(.ref ob), (.int kk)])) rfl rfl (hb hby d6_42)
  obtain ⟨T3, X3, e3, st3⟩ := getF X2 hx hZ hown (host := "") (Or.inl (hw _ (List.mem_of_getElem? (i := 15) rfl))) Via.refl e2 k1_1 (g := (mkF m 50 #[.val (.ref ob), .val (.int ix), .val (.int sh), .val (.long dl), .second, .val (.int kk)] [(.ref ob)])) rfl rfl (hb hby d6_50)
  obtain ⟨T4, h4, X4, e4, W4, V4, st4⟩ := wrJ X3 hx hZ e3 k1_5 (j := kk) ⟨h0k, hlt⟩  (g := (mkF m 59 #[.val (.ref ob), .val (.int ix), .val (.int sh), .val (.long dl), .second, .val (.int kk)] [(.long ((nf kk) + dl)), (.int kk), (.ref an)])) rfl rfl (hb hby d6_59)
  have Z4 : n0 ≤ h4.size := Nat.le_trans Z0 (Keep.of_wr W4).1
  have N4 := Fr.snoc X4 N0 k1_g_an
  have pre5 : ∀ t, Steps p.tables e below (T4.setTop (mkF m 39 #[.val (.ref ob), .val (.int ix), .val (.int sh), .val (.long dl), .second, .val (.int (kk + (kk &&& ((-kk)))))] [])) t → Steps p.tables e below (T0.setTop (mkF m 39 #[.val (.ref ob), .val (.int ix), .val (.int sh), .val (.long dl), .second, .val (.int kk)] [])) t := by
    intro t k
    refine pre0 t ?_
    show Steps p.tables e below (T0.setTop (mkF m 39 #[.val (.ref ob), .val (.int ix), .val (.int sh), .val (.long dl), .second, .val (.int kk)] [])) _
    refine XS.iload X0.here hx rfl (hb hby d6_39) rfl ?_
    show Steps p.tables e below (T0.setTop (mkF m 41 #[.val (.ref ob), .val (.int ix), .val (.int sh), .val (.long dl), .second, .val (.int kk)] [(.int kk)])) _
    refine XS.aloadN X0.here hx rfl (hb hby d6_41) rfl rfl ?_
    show Steps p.tables e below (T0.setTop (mkF m 42 #[.val (.ref ob), .val (.int ix), .val (.int sh), .val (.long dl), .second, .val (.int kk)] [(.ref ob), (.int kk)])) _
    refine st2 _ ?_
    show Steps p.tables e below (T2.setTop (mkF m 45 #[.val (.ref ob), .val (.int ix), .val (.int sh), .val (.long dl), .second, .val (.int kk)] [(.ref an), (.int kk)])) _
    refine lnG X2 hx hZ e2 k1_5 (g := (mkF m 45 #[.val (.ref ob), .val (.int ix), .val (.int sh), .val (.long dl), .second, .val (.int kk)] [(.ref an), (.int kk)])) rfl rfl (hb hby d6_45) _ ?_
    show Steps p.tables e below (T2.setTop (mkF m 46 #[.val (.ref ob), .val (.int ix), .val (.int sh), .val (.long dl), .second, .val (.int kk)] [(.int nn), (.int kk)])) _
    refine XS.icmpNo X2.here hx rfl (hb hby d6_46) rfl (tlt hlt).2.1 ?_
    show Steps p.tables e below (T2.setTop (mkF m 49 #[.val (.ref ob), .val (.int ix), .val (.int sh), .val (.long dl), .second, .val (.int kk)] [])) _
    refine XS.aloadN X2.here hx rfl (hb hby d6_49) rfl rfl ?_
    show Steps p.tables e below (T2.setTop (mkF m 50 #[.val (.ref ob), .val (.int ix), .val (.int sh), .val (.long dl), .second, .val (.int kk)] [(.ref ob)])) _
    refine st3 _ ?_
    show Steps p.tables e below (T3.setTop (mkF m 53 #[.val (.ref ob), .val (.int ix), .val (.int sh), .val (.long dl), .second, .val (.int kk)] [(.ref an)])) _
    refine XS.iload X3.here hx rfl (hb hby d6_53) rfl ?_
    show Steps p.tables e below (T3.setTop (mkF m 55 #[.val (.ref ob), .val (.int ix), .val (.int sh), .val (.long dl), .second, .val (.int kk)] [(.int kk), (.ref an)])) _
    refine Jvm.Free.XT.dup2 X3.here hx rfl (hb hby d6_55) rfl rfl rfl ?_
    show Steps p.tables e below (T3.setTop (mkF m 56 #[.val (.ref ob), .val (.int ix), .val (.int sh), .val (.long dl), .second, .val (.int kk)] [(.int kk), (.ref an), (.int kk), (.ref an)])) _
    refine rdJ X3 hx hZ e3 k1_5 (j := kk) ⟨h0k, hlt⟩ rfl (g := (mkF m 56 #[.val (.ref ob), .val (.int ix), .val (.int sh), .val (.long dl), .second, .val (.int kk)] [(.int kk), (.ref an), (.int kk), (.ref an)])) rfl rfl (hb hby d6_56) _ ?_
    show Steps p.tables e below (T3.setTop (mkF m 57 #[.val (.ref ob), .val (.int ix), .val (.int sh), .val (.long dl), .second, .val (.int kk)] [(.long (nf kk)), (.int kk), (.ref an)])) _
    refine XS.lloadN X3.here hx rfl (hb hby d6_57) rfl ?_
    show Steps p.tables e below (T3.setTop (mkF m 58 #[.val (.ref ob), .val (.int ix), .val (.int sh), .val (.long dl), .second, .val (.int kk)] [(.long dl), (.long (nf kk)), (.int kk), (.ref an)])) _
    refine XS.ladd X3.here hx rfl (hb hby d6_58) rfl ?_
    show Steps p.tables e below (T3.setTop (mkF m 59 #[.val (.ref ob), .val (.int ix), .val (.int sh), .val (.long dl), .second, .val (.int kk)] [(.long ((nf kk) + dl)), (.int kk), (.ref an)])) _
    refine st4 _ ?_
    show Steps p.tables e below (T4.setTop (mkF m 60 #[.val (.ref ob), .val (.int ix), .val (.int sh), .val (.long dl), .second, .val (.int kk)] [])) _
    refine XS.iload X4.here hx rfl (hb hby d6_60) rfl ?_
    show Steps p.tables e below (T4.setTop (mkF m 62 #[.val (.ref ob), .val (.int ix), .val (.int sh), .val (.long dl), .second, .val (.int kk)] [(.int kk)])) _
    refine XS.iload X4.here hx rfl (hb hby d6_62) rfl ?_
    show Steps p.tables e below (T4.setTop (mkF m 64 #[.val (.ref ob), .val (.int ix), .val (.int sh), .val (.long dl), .second, .val (.int kk)] [(.int kk), (.int kk)])) _
    refine XS.iload X4.here hx rfl (hb hby d6_64) rfl ?_
    show Steps p.tables e below (T4.setTop (mkF m 66 #[.val (.ref ob), .val (.int ix), .val (.int sh), .val (.long dl), .second, .val (.int kk)] [(.int kk), (.int kk), (.int kk)])) _
    refine XS.ineg X4.here hx rfl (hb hby d6_66) rfl ?_
    show Steps p.tables e below (T4.setTop (mkF m 67 #[.val (.ref ob), .val (.int ix), .val (.int sh), .val (.long dl), .second, .val (.int kk)] [(.int ((-kk))), (.int kk), (.int kk)])) _
    refine XS.iand X4.here hx rfl (hb hby d6_67) rfl ?_
    show Steps p.tables e below (T4.setTop (mkF m 68 #[.val (.ref ob), .val (.int ix), .val (.int sh), .val (.long dl), .second, .val (.int kk)] [(.int (kk &&& ((-kk)))), (.int kk)])) _
    refine XS.iadd X4.here hx rfl (hb hby d6_68) rfl ?_
    show Steps p.tables e below (T4.setTop (mkF m 69 #[.val (.ref ob), .val (.int ix), .val (.int sh), .val (.long dl), .second, .val (.int kk)] [(.int (kk + (kk &&& ((-kk)))))])) _
    refine XS.istore X4.here hx rfl (hb hby d6_69) rfl (l' := #[.val (.ref ob), .val (.int ix), .val (.int sh), .val (.long dl), .second, .val (.int (kk + (kk &&& ((-kk)))))]) rfl ?_
    show Steps p.tables e below (T4.setTop (mkF m 71 #[.val (.ref ob), .val (.int ix), .val (.int sh), .val (.long dl), .second, .val (.int (kk + (kk &&& ((-kk)))))] [])) _
    refine XS.goto X4.here hx rfl (pc0 := 71) (pc' := 39) rfl (hb hby d6_71) (by decide) (by decide) ?_
    exact k
  refine ⟨T4, _, _, X4, e4, N4, ⟨(k1_0.wr W4), (k1_1.other W4 (Or.inl k1_n_ob_an)), (k1_2.other W4 (Or.inl k1_n_ob_an)), (k1_3.other W4 (Or.inl k1_n_ob_an)), (k1_4.other W4 (Or.inl k1_n_ob_an)), (by rw [(show (st_f dl kk nf) = (@upA Int64 nf kk ((nf kk) + dl)) from rfl)]; exact V4), (k1_6.other W4 (Ne.symm k1_n_an_as)), k1_g_ob, k1_g_an, k1_g_as, k1_n_ob_an, k1_n_ob_as, k1_n_an_as, Z4⟩, fun t k => ?_⟩
  rw [(show (st_k kk) = (kk + (kk &&& ((-kk)))) from rfl)] at k
  exact pre5 t k
def stK (nn : Int32) : Nat → Int32 → Int32
  | 0, k => k
  | n + 1, k => if k < nn then stK nn n (st_k k) else k
def stF (nn : Int32) (dl : Int64) : Nat → Int32 → (Int32 → Int64) → (Int32 → Int64)
  | 0, _, f => f
  | n + 1, k, f => if k < nn then stF nn dl n (st_k k) (st_f dl k f) else f
def stOk (nn : Int32) : Nat → Int32 → Bool
  | 0, _ => true
  | n + 1, k => if k < nn then (if k < 0 then false else stOk nn n (st_k k)) else true
set_option maxHeartbeats 4000000 in
theorem stLoop {p : Program} {l : Launch} {e : Env} {R : Room} {s : State} {m : MethodId} {args : Array Value} {below : List Frame} {meth : Method} {c : Code} {cells slots : Nat} {Z : State} {a0 : Array Value} {n0 : Nat} (ix sh : Int32) (dl : Int64) (ob an as : Addr) (fst : Int32) (tt : Int64) (nn ns : Int32) (sf : Int32 → Int32)
    (hx : p.tables.exec = Jvm.exec) (hZ : Z.Warmed39 s.vm) (hw : ∀ d ∈ tables_1, d.before a0 Z = true) (hby : c.code = prog_6_method_3_code) (hml : c.maxLocals = 6) (hown : s.vm.findClass "com/example/dealer/dealer/ChangingShares" = some m.cls) (n : Nat) : ∀ {T0 : State} {locs : List Loc} {h0 : Heap} (kk : Int32) (nf : Int32 → Int64) (X0 : Stand p l e R s m args below meth c T0 locs cells slots) (e0 : T0.heap = h0) (N0 : Fr n0 locs) (I0 : CS Z h0 n0 ob an as fst tt nn nf ns sf) (hok : stOk nn n kk = true),
    ∃ (T' : State) (h' : Heap) (locs' : List Loc), Stand p l e R s m args below meth c T' locs' cells slots ∧ T'.heap = h' ∧ Fr n0 locs' ∧ CS Z h' n0 ob an as fst tt nn (stF nn dl n kk nf) ns sf ∧ ∀ t, Steps p.tables e below (T'.setTop (mkF m 39 #[.val (.ref ob), .val (.int ix), .val (.int sh), .val (.long dl), .second, .val (.int (stK nn n kk))] [])) t → Steps p.tables e below (T0.setTop (mkF m 39 #[.val (.ref ob), .val (.int ix), .val (.int sh), .val (.long dl), .second, .val (.int kk)] [])) t := by
  induction n with
  | zero =>
    intro T0 locs h0 kk nf X0 e0 N0 I0 hok
    exact ⟨T0, h0, locs, X0, e0, N0, I0, fun t k => k⟩
  | succ n ih =>
    intro T0 locs h0 kk nf X0 e0 N0 I0 hok
    by_cases hlt : kk < nn
    · have h0k : ¬ kk < 0 := fun q => by
        have w : stOk nn (n + 1) kk = false := (if_pos hlt).trans (if_pos q)
        rw [w] at hok; cases hok
      have hok2 : stOk nn n (st_k kk) = true := by
        have w : stOk nn (n + 1) kk = stOk nn n (st_k kk) := (if_pos hlt).trans (if_neg h0k)
        rw [← w]; exact hok
      obtain ⟨T1, h1, locs1, X1, q1, N1, I1, st1⟩ := stTurn ix sh dl kk ob an as fst tt nn nf ns sf X0 hx hZ hw hby hml hown e0 N0 I0.2.2.2.2.2.2.2.2.2.2.2.2.2 I0 hlt h0k
      obtain ⟨T2, h2, locs2, X2, q2, N2, I2, st2⟩ := ih (st_k kk) (st_f dl kk nf) X1 q1 N1 I1 hok2
      have e1 : stK nn (n + 1) kk = stK nn n (st_k kk) := if_pos hlt
      have e2 : stF nn dl (n + 1) kk nf = stF nn dl n (st_k kk) (st_f dl kk nf) := if_pos hlt
      rw [e1, e2]
      exact ⟨T2, h2, locs2, X2, q2, N2, I2, fun t k => st1 t (st2 t k)⟩
    · have e1 : stK nn (n + 1) kk = kk := if_neg hlt
      have e2 : stF nn dl (n + 1) kk nf = nf := if_neg hlt
      rw [e1, e2]
      exact ⟨T0, h0, locs, X0, e0, N0, I0, fun t k => k⟩
theorem d6_0 : decode prog_6_method_3_code 0 = .ok (.iload_n 2, 1) := by decide +kernel
theorem d6_1 : decode prog_6_method_3_code 1 = .ok (.aload_n 0, 1) := by decide +kernel
theorem d6_2 : decode prog_6_method_3_code 2 = .ok (.getfield 13, 3) := by decide +kernel
theorem d6_5 : decode prog_6_method_3_code 5 = .ok (.iload_n 1, 1) := by decide +kernel
theorem d6_6 : decode prog_6_method_3_code 6 = .ok (.iaload, 1) := by decide +kernel
theorem d6_7 : decode prog_6_method_3_code 7 = .ok (.isub, 1) := by decide +kernel
theorem d6_8 : decode prog_6_method_3_code 8 = .ok (.i2l, 1) := by decide +kernel
theorem d6_9 : decode prog_6_method_3_code 9 = .ok (.lstore_n 3, 1) := by decide +kernel
theorem d6_10 : decode prog_6_method_3_code 10 = .ok (.aload_n 0, 1) := by decide +kernel
theorem d6_11 : decode prog_6_method_3_code 11 = .ok (.getfield 13, 3) := by decide +kernel
theorem d6_14 : decode prog_6_method_3_code 14 = .ok (.iload_n 1, 1) := by decide +kernel
theorem d6_15 : decode prog_6_method_3_code 15 = .ok (.iload_n 2, 1) := by decide +kernel
theorem d6_16 : decode prog_6_method_3_code 16 = .ok (.iastore, 1) := by decide +kernel
theorem d6_17 : decode prog_6_method_3_code 17 = .ok (.lload_n 3, 1) := by decide +kernel
theorem d6_18 : decode prog_6_method_3_code 18 = .ok (.lconst 0, 1) := by decide +kernel
theorem d6_19 : decode prog_6_method_3_code 19 = .ok (.lcmp, 1) := by decide +kernel
theorem d6_20 : decode prog_6_method_3_code 20 = .ok (.ifCond .ne 4, 3) := by decide +kernel
theorem d6_23 : decode prog_6_method_3_code 23 = .ok (.return_, 1) := by decide +kernel
theorem d6_24 : decode prog_6_method_3_code 24 = .ok (.aload_n 0, 1) := by decide +kernel
theorem d6_25 : decode prog_6_method_3_code 25 = .ok (.dup, 1) := by decide +kernel
theorem d6_26 : decode prog_6_method_3_code 26 = .ok (.getfield 27, 3) := by decide +kernel
theorem d6_29 : decode prog_6_method_3_code 29 = .ok (.lload_n 3, 1) := by decide +kernel
theorem d6_30 : decode prog_6_method_3_code 30 = .ok (.ladd, 1) := by decide +kernel
theorem d6_31 : decode prog_6_method_3_code 31 = .ok (.putfield 27, 3) := by decide +kernel
theorem d6_34 : decode prog_6_method_3_code 34 = .ok (.iload_n 1, 1) := by decide +kernel
theorem d6_35 : decode prog_6_method_3_code 35 = .ok (.iconst 1, 1) := by decide +kernel
theorem d6_36 : decode prog_6_method_3_code 36 = .ok (.iadd, 1) := by decide +kernel
theorem d6_37 : decode prog_6_method_3_code 37 = .ok (.istore 5, 2) := by decide +kernel
theorem d6_74 : decode prog_6_method_3_code 74 = .ok (.return_, 1) := by decide +kernel
theorem ef_6 (m : MethodId) (x0 : Addr) (x1 : Int32) (x2 : Int32) : entryFrame m #[(.ref x0), (.int x1), (.int x2)] 6 = mkF m 0 #[.val (.ref x0), .val (.int x1), .val (.int x2), .unset, .unset, .unset] [] := by first | (simp [entryFrame, mkF, argsToLocals, Value.category]; done) | rfl
def Fset_t (ix : Int32) (sh : Int32) (tt : Int64) (sf : Int32 → Int32) : Int64 := (if (own_dl ix sh sf) = (0 : Int64) then tt else (tt + (own_dl ix sh sf)))
def Fset_n (ix : Int32) (sh : Int32) (nn : Int32) (nf : Int32 → Int64) (sf : Int32 → Int32) : Int32 → Int64 := (if (own_dl ix sh sf) = (0 : Int64) then nf else (stF nn (own_dl ix sh sf) 4 (ix + (1 : Int32)) nf))
def Fset_s (ix : Int32) (sh : Int32) (sf : Int32 → Int32) : Int32 → Int32 := (@upA Int32 sf ix sh)
def Q6 (Z : State) (ob : Addr) (ix : Int32) (sh : Int32) (an : Addr) (as : Addr) (fst : Int32) (tt : Int64) (nn : Int32) (nf : Int32 → Int64) (ns : Int32) (sf : Int32 → Int32) (h0 : Heap) (n0 : Nat) (v : Option Value) (h : Heap) (L : List Loc) : Prop := v = none ∧ Fr n0 L ∧ CS Z h n0 ob an as fst (Fset_t ix sh tt sf) nn (Fset_n ix sh nn nf sf) ns (Fset_s ix sh sf)
set_option maxRecDepth 65536 in
set_option maxHeartbeats 40000000 in
theorem rm6 (l : Launch) (Z : State) (a0 : Array Value) (hw : ∀ d ∈ tables_1, d.before a0 Z = true) (ws : List Jvm.Cond) (ob : Addr) (ix : Int32) (sh : Int32) (an : Addr) (as : Addr) (fst : Int32) (tt : Int64) (nn : Int32) (nf : Int32 → Int64) (ns : Int32) (sf : Int32 → Int32) (h0 : Heap) (n0 : Nat) (Z0 : n0 ≤ h0.size) (I0 : CS Z h0 n0 ob an as fst tt nn nf ns sf) (hix : ¬ ix < 0 ∧ ix < ns) (hok : stOk nn 4 (ix + (1 : Int32)) = true) (hex : ¬ (stK nn 4 (ix + (1 : Int32))) < nn) :
    MetFree l (⟨"com/example/dealer/dealer/ChangingShares", "set", "(II)V"⟩ : MethodName) (head1 (Jvm.Cond.code (⟨"com/example/dealer/dealer/ChangingShares", "set", "(II)V"⟩ : MethodName) prog_6_method_3_code 6 none :: ws) ({ frames := 0, cells := 0, slots := 0, locals := 0 } : Room)) (fun a U => a = #[(.ref ob), (.int ix), (.int sh)] ∧ Z.Warmed39 U.vm ∧ U.heap = h0) (fun _ _ _ _ _ => True) (fun _ U o U' => ∃ v L, o = .returned v ∧ Q6 Z ob ix sh an as fst tt nn nf ns sf h0 n0 v U'.heap L ∧ FrameEnd U o U' L ({ frames := 0, cells := 0, slots := 0, locals := 0 } : Room).cells ({ frames := 0, cells := 0, slots := 0, locals := 0 } : Room).slots) := by
  refine MetFree.of_bodySF (plainFor_of_name pn_2) hisR ?_
  intro p e s m args below meth c s₁ Bd hml0 hP hK
  obtain ⟨rfl, hZ, hh⟩ := hP
  have hx := Bd.exec
  have hby := Bd.bytes
  have hml : c.maxLocals = 6 := hml0
  have hown : s.vm.findClass "com/example/dealer/dealer/ChangingShares" = some m.cls := findClass_of_methodNamed Bd.named
  have hnm := (name_of_methodNamed Bd.named Bd.method).1
  have X0 : Stand p l e ({ frames := 0, cells := 0, slots := 0, locals := 0 } : Room) s m #[(.ref ob), (.int ix), (.int sh)] below meth c s₁ [] 0 0 := Stand.of_body Bd
  have e0 : s₁.heap = h0 := by rw [← hh, Bd.state]; rfl
  have N0 := Fr.nil n0
  have pre0 : ∀ t, Steps p.tables e below (s₁.setTop (mkF m 0 #[.val (.ref ob), .val (.int ix), .val (.int sh), .unset, .unset, .unset] [])) t → Steps p.tables e below (s₁.setTop (entryFrame m #[(.ref ob), (.int ix), (.int sh)] 6)) t := fun t k => castTop (ef_6 m ob ix sh) k
  obtain ⟨k1_0, k1_1, k1_2, k1_3, k1_4, k1_5, k1_6, k1_g_ob, k1_g_an, k1_g_as, k1_n_ob_an, k1_n_ob_as, k1_n_an_as, k1_sz⟩ := I0
  obtain ⟨T2, X2, e2, st2⟩ := getF X0 hx hZ hown (host := "") (Or.inl (hw _ (List.mem_of_getElem? (i := 18) rfl))) Via.refl e0 k1_2 (g := (mkF m 2 #[.val (.ref ob), .val (.int ix), .val (.int sh), .unset, .unset, .unset] [(.ref ob), (.int sh)])) rfl rfl (hb hby d6_2)
  obtain ⟨T3, X3, e3, st3⟩ := getF X2 hx hZ hown (host := "") (Or.inl (hw _ (List.mem_of_getElem? (i := 18) rfl))) Via.refl e2 k1_2 (g := (mkF m 11 #[.val (.ref ob), .val (.int ix), .val (.int sh), .val (.long (own_dl ix sh sf)), .second, .unset] [(.ref ob)])) rfl rfl (hb hby d6_11)
  obtain ⟨T4, h4, X4, e4, W4, V4, st4⟩ := wrI X3 hx hZ e3 k1_6 (j := ix) hix  (g := (mkF m 16 #[.val (.ref ob), .val (.int ix), .val (.int sh), .val (.long (own_dl ix sh sf)), .second, .unset] [(.int sh), (.int ix), (.ref as)])) rfl rfl (hb hby d6_16)
  have Z4 : n0 ≤ h4.size := Nat.le_trans Z0 (Keep.of_wr W4).1
  have N4 := Fr.snoc X4 N0 k1_g_as
  have pre5 : ∀ t, Steps p.tables e below (T4.setTop (mkF m 20 #[.val (.ref ob), .val (.int ix), .val (.int sh), .val (.long (own_dl ix sh sf)), .second, .unset] [(.int (lcmpW (own_dl ix sh sf) (0 : Int64)))])) t → Steps p.tables e below (s₁.setTop (entryFrame m #[(.ref ob), (.int ix), (.int sh)] 6)) t := by
    intro t k
    refine pre0 t ?_
    show Steps p.tables e below (s₁.setTop (mkF m 0 #[.val (.ref ob), .val (.int ix), .val (.int sh), .unset, .unset, .unset] [])) _
    refine XS.iloadN X0.here hx rfl (hb hby d6_0) rfl ?_
    show Steps p.tables e below (s₁.setTop (mkF m 1 #[.val (.ref ob), .val (.int ix), .val (.int sh), .unset, .unset, .unset] [(.int sh)])) _
    refine XS.aloadN X0.here hx rfl (hb hby d6_1) rfl rfl ?_
    show Steps p.tables e below (s₁.setTop (mkF m 2 #[.val (.ref ob), .val (.int ix), .val (.int sh), .unset, .unset, .unset] [(.ref ob), (.int sh)])) _
    refine st2 _ ?_
    show Steps p.tables e below (T2.setTop (mkF m 5 #[.val (.ref ob), .val (.int ix), .val (.int sh), .unset, .unset, .unset] [(.ref as), (.int sh)])) _
    refine XS.iloadN X2.here hx rfl (hb hby d6_5) rfl ?_
    show Steps p.tables e below (T2.setTop (mkF m 6 #[.val (.ref ob), .val (.int ix), .val (.int sh), .unset, .unset, .unset] [(.int ix), (.ref as), (.int sh)])) _
    refine rdI X2 hx hZ e2 k1_6 (j := ix) hix rfl (g := (mkF m 6 #[.val (.ref ob), .val (.int ix), .val (.int sh), .unset, .unset, .unset] [(.int ix), (.ref as), (.int sh)])) rfl rfl (hb hby d6_6) _ ?_
    show Steps p.tables e below (T2.setTop (mkF m 7 #[.val (.ref ob), .val (.int ix), .val (.int sh), .unset, .unset, .unset] [(.int (sf ix)), (.int sh)])) _
    refine XS.isub X2.here hx rfl (hb hby d6_7) rfl ?_
    show Steps p.tables e below (T2.setTop (mkF m 8 #[.val (.ref ob), .val (.int ix), .val (.int sh), .unset, .unset, .unset] [(.int (sh - (sf ix)))])) _
    refine XS.i2l X2.here hx rfl (hb hby d6_8) rfl ?_
    show Steps p.tables e below (T2.setTop (mkF m 9 #[.val (.ref ob), .val (.int ix), .val (.int sh), .unset, .unset, .unset] [(.long ((sh - (sf ix)).toInt64))])) _
    refine XS.lstoreN X2.here hx rfl (hb hby d6_9) rfl (l' := #[.val (.ref ob), .val (.int ix), .val (.int sh), .val (.long (own_dl ix sh sf)), .second, .unset]) rfl ?_
    show Steps p.tables e below (T2.setTop (mkF m 10 #[.val (.ref ob), .val (.int ix), .val (.int sh), .val (.long (own_dl ix sh sf)), .second, .unset] [])) _
    refine XS.aloadN X2.here hx rfl (hb hby d6_10) rfl rfl ?_
    show Steps p.tables e below (T2.setTop (mkF m 11 #[.val (.ref ob), .val (.int ix), .val (.int sh), .val (.long (own_dl ix sh sf)), .second, .unset] [(.ref ob)])) _
    refine st3 _ ?_
    show Steps p.tables e below (T3.setTop (mkF m 14 #[.val (.ref ob), .val (.int ix), .val (.int sh), .val (.long (own_dl ix sh sf)), .second, .unset] [(.ref as)])) _
    refine XS.iloadN X3.here hx rfl (hb hby d6_14) rfl ?_
    show Steps p.tables e below (T3.setTop (mkF m 15 #[.val (.ref ob), .val (.int ix), .val (.int sh), .val (.long (own_dl ix sh sf)), .second, .unset] [(.int ix), (.ref as)])) _
    refine XS.iloadN X3.here hx rfl (hb hby d6_15) rfl ?_
    show Steps p.tables e below (T3.setTop (mkF m 16 #[.val (.ref ob), .val (.int ix), .val (.int sh), .val (.long (own_dl ix sh sf)), .second, .unset] [(.int sh), (.int ix), (.ref as)])) _
    refine st4 _ ?_
    show Steps p.tables e below (T4.setTop (mkF m 17 #[.val (.ref ob), .val (.int ix), .val (.int sh), .val (.long (own_dl ix sh sf)), .second, .unset] [])) _
    refine XS.lloadN X4.here hx rfl (hb hby d6_17) rfl ?_
    show Steps p.tables e below (T4.setTop (mkF m 18 #[.val (.ref ob), .val (.int ix), .val (.int sh), .val (.long (own_dl ix sh sf)), .second, .unset] [(.long (own_dl ix sh sf))])) _
    refine XS.lconst X4.here hx rfl (hb hby d6_18) ?_
    show Steps p.tables e below (T4.setTop (mkF m 19 #[.val (.ref ob), .val (.int ix), .val (.int sh), .val (.long (own_dl ix sh sf)), .second, .unset] [(.long (0 : Int64)), (.long (own_dl ix sh sf))])) _
    refine XS.lcmp X4.here hx rfl (hb hby d6_19) rfl ?_
    exact k
  by_cases hc6 : (own_dl ix sh sf) = (0 : Int64)
  ·
    have pre7 : ∀ t, Steps p.tables e below (T4.setTop (mkF m 23 #[.val (.ref ob), .val (.int ix), .val (.int sh), .val (.long (own_dl ix sh sf)), .second, .unset] [])) t → Steps p.tables e below (s₁.setTop (entryFrame m #[(.ref ob), (.int ix), (.int sh)] 6)) t := by
      intro t k
      refine pre5 t ?_
      show Steps p.tables e below (T4.setTop (mkF m 20 #[.val (.ref ob), .val (.int ix), .val (.int sh), .val (.long (own_dl ix sh sf)), .second, .unset] [(.int (lcmpW (own_dl ix sh sf) (0 : Int64)))])) _
      refine XS.ifNo X4.here hx rfl (hb hby d6_20) rfl ((if0 _ _).trans (teq ((lw_eq _ _).mpr hc6)).2) ?_
      exact k
    obtain ⟨fs, hr, hrun, hended, hW, hsame⟩ := X4.leave (v := none) (fun _ => rfl) (BodyLoose.notSynchronized Bd)
    refine ⟨_, _, pre7 _ ?_, hrun, hended, _, _, rfl, ?_, ⟨_, rfl⟩, hW, hsame.mono (by decide) (by decide)⟩
    · show Steps p.tables e below (T4.setTop (mkF m 23 #[.val (.ref ob), .val (.int ix), .val (.int sh), .val (.long (own_dl ix sh sf)), .second, .unset] [])) _
      exact X4.returnOut hx Bd.returns (hb hby d6_23) hr
    · show Q6 Z ob ix sh an as fst tt nn nf ns sf h0 n0 _ T4.heap _
      rw [e4]
      exact ⟨rfl, N4, ⟨(k1_0.wr W4), (k1_1.other W4 (Or.inl k1_n_ob_as)), (k1_2.other W4 (Or.inl k1_n_ob_as)), (k1_3.other W4 (Or.inl k1_n_ob_as)), (by rw [(show (Fset_t ix sh tt sf) = tt from ((if_pos hc6).trans rfl))]; exact (k1_4.other W4 (Or.inl k1_n_ob_as))), (by rw [(show (Fset_n ix sh nn nf sf) = nf from ((if_pos hc6).trans rfl))]; exact (k1_5.other W4 k1_n_an_as)), (by rw [(show (Fset_s ix sh sf) = (@upA Int32 sf ix sh) from rfl)]; exact V4), k1_g_ob, k1_g_an, k1_g_as, k1_n_ob_an, k1_n_ob_as, k1_n_an_as, Z4⟩⟩
  ·
    obtain ⟨T8, X8, e8, st8⟩ := getF X4 hx hZ hown (host := "") (Or.inl (hw _ (List.mem_of_getElem? (i := 36) rfl))) Via.refl e4 (k1_4.other W4 (Or.inl k1_n_ob_as)) (g := (mkF m 26 #[.val (.ref ob), .val (.int ix), .val (.int sh), .val (.long (own_dl ix sh sf)), .second, .unset] [(.ref ob), (.ref ob)])) rfl rfl (hb hby d6_26)
    obtain ⟨T9, h9, X9, e9, W9, st9⟩ := putF X8 hx hZ hown (host := "") (Or.inl (hw _ (List.mem_of_getElem? (i := 36) rfl))) Via.refl e8 (k1_4.other W4 (Or.inl k1_n_ob_as)) (k1_0.wr W4) (Or.inl (hw _ (List.mem_of_getElem? (i := 37) rfl))) (hw _ (List.mem_of_getElem? (i := 6) rfl)) (ty := .long) (by decide) rfl rfl (g := (mkF m 31 #[.val (.ref ob), .val (.int ix), .val (.int sh), .val (.long (own_dl ix sh sf)), .second, .unset] [(.long (tt + (own_dl ix sh sf))), (.ref ob)])) rfl rfl (hb hby d6_31)
    have f10 := ((k1_1.other W4 (Or.inl k1_n_ob_as)).other W9 (Or.inr (slot_ne (Or.inr (hw _ (List.mem_of_getElem? (i := 16) rfl))) (Or.inl (hw _ (List.mem_of_getElem? (i := 37) rfl))) (by decide) (t := (.array .long)) (t' := .long) (by decide) (by decide))))
    have f11 := ((k1_2.other W4 (Or.inl k1_n_ob_as)).other W9 (Or.inr (slot_ne (Or.inr (hw _ (List.mem_of_getElem? (i := 19) rfl))) (Or.inl (hw _ (List.mem_of_getElem? (i := 37) rfl))) (by decide) (t := (.array .int)) (t' := .long) (by decide) (by decide))))
    have f12 := ((k1_3.other W4 (Or.inl k1_n_ob_as)).other W9 (Or.inr (slot_ne (Or.inr (hw _ (List.mem_of_getElem? (i := 30) rfl))) (Or.inl (hw _ (List.mem_of_getElem? (i := 37) rfl))) (by decide) (t := .int) (t' := .long) (by decide) (by decide))))
    have Z9 : n0 ≤ h9.size := Nat.le_trans Z4 (Keep.of_wr W9).1
    have N9 := Fr.snoc X9 N4 k1_g_ob
    have pre13 : ∀ t, Steps p.tables e below (T9.setTop (mkF m 39 #[.val (.ref ob), .val (.int ix), .val (.int sh), .val (.long (own_dl ix sh sf)), .second, .val (.int (ix + (1 : Int32)))] [])) t → Steps p.tables e below (s₁.setTop (entryFrame m #[(.ref ob), (.int ix), (.int sh)] 6)) t := by
      intro t k
      refine pre5 t ?_
      show Steps p.tables e below (T4.setTop (mkF m 20 #[.val (.ref ob), .val (.int ix), .val (.int sh), .val (.long (own_dl ix sh sf)), .second, .unset] [(.int (lcmpW (own_dl ix sh sf) (0 : Int64)))])) _
      refine XS.ifYes X4.here hx rfl (pc0 := 20) (pc' := 24) rfl (hb hby d6_20) rfl ((if0 _ _).trans (feq (fun q => hc6 ((lw_eq _ _).mp q))).2) (by decide) (by decide) ?_
      show Steps p.tables e below (T4.setTop (mkF m 24 #[.val (.ref ob), .val (.int ix), .val (.int sh), .val (.long (own_dl ix sh sf)), .second, .unset] [])) _
      refine XS.aloadN X4.here hx rfl (hb hby d6_24) rfl rfl ?_
      show Steps p.tables e below (T4.setTop (mkF m 25 #[.val (.ref ob), .val (.int ix), .val (.int sh), .val (.long (own_dl ix sh sf)), .second, .unset] [(.ref ob)])) _
      refine XS.dup X4.here hx rfl (hb hby d6_25) rfl rfl ?_
      show Steps p.tables e below (T4.setTop (mkF m 26 #[.val (.ref ob), .val (.int ix), .val (.int sh), .val (.long (own_dl ix sh sf)), .second, .unset] [(.ref ob), (.ref ob)])) _
      refine st8 _ ?_
      show Steps p.tables e below (T8.setTop (mkF m 29 #[.val (.ref ob), .val (.int ix), .val (.int sh), .val (.long (own_dl ix sh sf)), .second, .unset] [(.long tt), (.ref ob)])) _
      refine XS.lloadN X8.here hx rfl (hb hby d6_29) rfl ?_
      show Steps p.tables e below (T8.setTop (mkF m 30 #[.val (.ref ob), .val (.int ix), .val (.int sh), .val (.long (own_dl ix sh sf)), .second, .unset] [(.long (own_dl ix sh sf)), (.long tt), (.ref ob)])) _
      refine XS.ladd X8.here hx rfl (hb hby d6_30) rfl ?_
      show Steps p.tables e below (T8.setTop (mkF m 31 #[.val (.ref ob), .val (.int ix), .val (.int sh), .val (.long (own_dl ix sh sf)), .second, .unset] [(.long (tt + (own_dl ix sh sf))), (.ref ob)])) _
      refine st9 _ ?_
      show Steps p.tables e below (T9.setTop (mkF m 34 #[.val (.ref ob), .val (.int ix), .val (.int sh), .val (.long (own_dl ix sh sf)), .second, .unset] [])) _
      refine XS.iloadN X9.here hx rfl (hb hby d6_34) rfl ?_
      show Steps p.tables e below (T9.setTop (mkF m 35 #[.val (.ref ob), .val (.int ix), .val (.int sh), .val (.long (own_dl ix sh sf)), .second, .unset] [(.int ix)])) _
      refine XS.iconst X9.here hx rfl (hb hby d6_35) ?_
      show Steps p.tables e below (T9.setTop (mkF m 36 #[.val (.ref ob), .val (.int ix), .val (.int sh), .val (.long (own_dl ix sh sf)), .second, .unset] [(.int (1 : Int32)), (.int ix)])) _
      refine XS.iadd X9.here hx rfl (hb hby d6_36) rfl ?_
      show Steps p.tables e below (T9.setTop (mkF m 37 #[.val (.ref ob), .val (.int ix), .val (.int sh), .val (.long (own_dl ix sh sf)), .second, .unset] [(.int (ix + (1 : Int32)))])) _
      refine XS.istore X9.here hx rfl (hb hby d6_37) rfl (l' := #[.val (.ref ob), .val (.int ix), .val (.int sh), .val (.long (own_dl ix sh sf)), .second, .val (.int (ix + (1 : Int32)))]) rfl ?_
      exact k
    obtain ⟨T14, h14, L14, X14, e14, N14, I14, st14⟩ := stLoop ix sh (own_dl ix sh sf) ob an as fst (tt + (own_dl ix sh sf)) nn ns (@upA Int32 sf ix sh) hx hZ hw hby hml hown 4 (ix + (1 : Int32)) nf X9 e9 N9 ⟨((k1_0.wr W4).wr W9), f10, f11, f12, ((k1_4.other W4 (Or.inl k1_n_ob_as)).same W9), ((k1_5.other W4 k1_n_an_as).other W9 (Ne.symm k1_n_ob_an)), (V4.other W9 (Ne.symm k1_n_ob_as)), k1_g_ob, k1_g_an, k1_g_as, k1_n_ob_an, k1_n_ob_as, k1_n_an_as, Z9⟩ hok
    obtain ⟨k15_0, k15_1, k15_2, k15_3, k15_4, k15_5, k15_6, k15_g_ob, k15_g_an, k15_g_as, k15_n_ob_an, k15_n_ob_as, k15_n_an_as, k15_sz⟩ := I14
    have pre14 : ∀ t, Steps p.tables e below (T14.setTop (mkF m 39 #[.val (.ref ob), .val (.int ix), .val (.int sh), .val (.long (own_dl ix sh sf)), .second, .val (.int (stK nn 4 (ix + (1 : Int32))))] [])) t → Steps p.tables e below (s₁.setTop (entryFrame m #[(.ref ob), (.int ix), (.int sh)] 6)) t := fun t k => pre13 t (st14 t k)
    obtain ⟨T16, X16, e16, st16⟩ := getF X14 hx hZ hown (host := "") (Or.inl (hw _ (List.mem_of_getElem? (i := 15) rfl))) Via.refl e14 k15_1 (g := (mkF m 42 #[.val (.ref ob), .val (.int ix), .val (.int sh), .val (.long (own_dl ix sh sf)), .second, .val (.int (stK nn 4 (ix + (1 : Int32))))] [(.ref ob), (.int (stK nn 4 (ix + (1 : Int32))))])) rfl rfl (hb hby d6_42)
    have pre17 : ∀ t, Steps p.tables e below (T16.setTop (mkF m 74 #[.val (.ref ob), .val (.int ix), .val (.int sh), .val (.long (own_dl ix sh sf)), .second, .val (.int (stK nn 4 (ix + (1 : Int32))))] [])) t → Steps p.tables e below (s₁.setTop (entryFrame m #[(.ref ob), (.int ix), (.int sh)] 6)) t := by
      intro t k
      refine pre14 t ?_
      show Steps p.tables e below (T14.setTop (mkF m 39 #[.val (.ref ob), .val (.int ix), .val (.int sh), .val (.long (own_dl ix sh sf)), .second, .val (.int (stK nn 4 (ix + (1 : Int32))))] [])) _
      refine XS.iload X14.here hx rfl (hb hby d6_39) rfl ?_
      show Steps p.tables e below (T14.setTop (mkF m 41 #[.val (.ref ob), .val (.int ix), .val (.int sh), .val (.long (own_dl ix sh sf)), .second, .val (.int (stK nn 4 (ix + (1 : Int32))))] [(.int (stK nn 4 (ix + (1 : Int32))))])) _
      refine XS.aloadN X14.here hx rfl (hb hby d6_41) rfl rfl ?_
      show Steps p.tables e below (T14.setTop (mkF m 42 #[.val (.ref ob), .val (.int ix), .val (.int sh), .val (.long (own_dl ix sh sf)), .second, .val (.int (stK nn 4 (ix + (1 : Int32))))] [(.ref ob), (.int (stK nn 4 (ix + (1 : Int32))))])) _
      refine st16 _ ?_
      show Steps p.tables e below (T16.setTop (mkF m 45 #[.val (.ref ob), .val (.int ix), .val (.int sh), .val (.long (own_dl ix sh sf)), .second, .val (.int (stK nn 4 (ix + (1 : Int32))))] [(.ref an), (.int (stK nn 4 (ix + (1 : Int32))))])) _
      refine lnG X16 hx hZ e16 k15_5 (g := (mkF m 45 #[.val (.ref ob), .val (.int ix), .val (.int sh), .val (.long (own_dl ix sh sf)), .second, .val (.int (stK nn 4 (ix + (1 : Int32))))] [(.ref an), (.int (stK nn 4 (ix + (1 : Int32))))])) rfl rfl (hb hby d6_45) _ ?_
      show Steps p.tables e below (T16.setTop (mkF m 46 #[.val (.ref ob), .val (.int ix), .val (.int sh), .val (.long (own_dl ix sh sf)), .second, .val (.int (stK nn 4 (ix + (1 : Int32))))] [(.int nn), (.int (stK nn 4 (ix + (1 : Int32))))])) _
      refine XS.icmpYes X16.here hx rfl (pc0 := 46) (pc' := 74) rfl (hb hby d6_46) rfl (flt hex).2.1 (by decide) (by decide) ?_
      exact k
    obtain ⟨fs, hr, hrun, hended, hW, hsame⟩ := X16.leave (v := none) (fun _ => rfl) (BodyLoose.notSynchronized Bd)
    refine ⟨_, _, pre17 _ ?_, hrun, hended, _, _, rfl, ?_, ⟨_, rfl⟩, hW, hsame.mono (by decide) (by decide)⟩
    · show Steps p.tables e below (T16.setTop (mkF m 74 #[.val (.ref ob), .val (.int ix), .val (.int sh), .val (.long (own_dl ix sh sf)), .second, .val (.int (stK nn 4 (ix + (1 : Int32))))] [])) _
      exact X16.returnOut hx Bd.returns (hb hby d6_74) hr
    · show Q6 Z ob ix sh an as fst tt nn nf ns sf h0 n0 _ T16.heap _
      rw [e16]
      exact ⟨rfl, N14, ⟨k15_0, k15_1, k15_2, k15_3, (by rw [(show (Fset_t ix sh tt sf) = (tt + (own_dl ix sh sf)) from ((if_neg hc6).trans rfl))]; exact k15_4), (by rw [(show (Fset_n ix sh nn nf sf) = (stF nn (own_dl ix sh sf) 4 (ix + (1 : Int32)) nf) from ((if_neg hc6).trans rfl))]; exact k15_5), (by rw [(show (Fset_s ix sh sf) = (@upA Int32 sf ix sh) from rfl)]; exact k15_6), k15_g_ob, k15_g_an, k15_g_as, k15_n_ob_an, k15_n_ob_as, k15_n_an_as, k15_sz⟩⟩
theorem d7_0 : decode prog_6_method_5_code 0 = .ok (.aload_n 0, 1) := by decide +kernel
theorem d7_1 : decode prog_6_method_5_code 1 = .ok (.getfield 27, 3) := by decide +kernel
theorem d7_4 : decode prog_6_method_5_code 4 = .ok (.lreturn, 1) := by decide +kernel
theorem ef_7 (m : MethodId) (x0 : Addr) : entryFrame m #[(.ref x0)] 1 = mkF m 0 #[.val (.ref x0)] [] := by first | (simp [entryFrame, mkF, argsToLocals, Value.category]; done) | rfl
def Ftot (tt : Int64) : Int64 := tt
def Q7 (Z : State) (ob : Addr) (an : Addr) (as : Addr) (fst : Int32) (tt : Int64) (nn : Int32) (nf : Int32 → Int64) (ns : Int32) (sf : Int32 → Int32) (h0 : Heap) (n0 : Nat) (v : Option Value) (h : Heap) (L : List Loc) : Prop := v = some (.long (Ftot tt)) ∧ Fr n0 L ∧ h = h0
set_option maxRecDepth 65536 in
set_option maxHeartbeats 40000000 in
theorem rm7 (l : Launch) (Z : State) (a0 : Array Value) (hw : ∀ d ∈ tables_1, d.before a0 Z = true) (ws : List Jvm.Cond) (ob : Addr) (an : Addr) (as : Addr) (fst : Int32) (tt : Int64) (nn : Int32) (nf : Int32 → Int64) (ns : Int32) (sf : Int32 → Int32) (h0 : Heap) (n0 : Nat) (Z0 : n0 ≤ h0.size) (I0 : CS Z h0 n0 ob an as fst tt nn nf ns sf) :
    MetFree l (⟨"com/example/dealer/dealer/ChangingShares", "total", "()J"⟩ : MethodName) (head1 (Jvm.Cond.code (⟨"com/example/dealer/dealer/ChangingShares", "total", "()J"⟩ : MethodName) prog_6_method_5_code 1 (some .long) :: ws) ({ frames := 0, cells := 0, slots := 0, locals := 0 } : Room)) (fun a U => a = #[(.ref ob)] ∧ Z.Warmed39 U.vm ∧ U.heap = h0) (fun _ _ _ _ _ => True) (fun _ U o U' => ∃ v L, o = .returned v ∧ Q7 Z ob an as fst tt nn nf ns sf h0 n0 v U'.heap L ∧ FrameEnd U o U' L ({ frames := 0, cells := 0, slots := 0, locals := 0 } : Room).cells ({ frames := 0, cells := 0, slots := 0, locals := 0 } : Room).slots) := by
  refine MetFree.of_bodySF (plainFor_of_name pn_2) hisR ?_
  intro p e s m args below meth c s₁ Bd hml0 hP hK
  obtain ⟨rfl, hZ, hh⟩ := hP
  have hx := Bd.exec
  have hby := Bd.bytes
  have hml : c.maxLocals = 1 := hml0
  have hown : s.vm.findClass "com/example/dealer/dealer/ChangingShares" = some m.cls := findClass_of_methodNamed Bd.named
  have hnm := (name_of_methodNamed Bd.named Bd.method).1
  have X0 : Stand p l e ({ frames := 0, cells := 0, slots := 0, locals := 0 } : Room) s m #[(.ref ob)] below meth c s₁ [] 0 0 := Stand.of_body Bd
  have e0 : s₁.heap = h0 := by rw [← hh, Bd.state]; rfl
  have N0 := Fr.nil n0
  have pre0 : ∀ t, Steps p.tables e below (s₁.setTop (mkF m 0 #[.val (.ref ob)] [])) t → Steps p.tables e below (s₁.setTop (entryFrame m #[(.ref ob)] 1)) t := fun t k => castTop (ef_7 m ob) k
  obtain ⟨k1_0, k1_1, k1_2, k1_3, k1_4, k1_5, k1_6, k1_g_ob, k1_g_an, k1_g_as, k1_n_ob_an, k1_n_ob_as, k1_n_an_as, k1_sz⟩ := I0
  obtain ⟨T2, X2, e2, st2⟩ := getF X0 hx hZ hown (host := "") (Or.inl (hw _ (List.mem_of_getElem? (i := 36) rfl))) Via.refl e0 k1_4 (g := (mkF m 1 #[.val (.ref ob)] [(.ref ob)])) rfl rfl (hb hby d7_1)
  have pre3 : ∀ t, Steps p.tables e below (T2.setTop (mkF m 4 #[.val (.ref ob)] [(.long tt)])) t → Steps p.tables e below (s₁.setTop (entryFrame m #[(.ref ob)] 1)) t := by
    intro t k
    refine pre0 t ?_
    show Steps p.tables e below (s₁.setTop (mkF m 0 #[.val (.ref ob)] [])) _
    refine XS.aloadN X0.here hx rfl (hb hby d7_0) rfl rfl ?_
    show Steps p.tables e below (s₁.setTop (mkF m 1 #[.val (.ref ob)] [(.ref ob)])) _
    refine st2 _ ?_
    exact k
  obtain ⟨fs, hr, hrun, hended, hW, hsame⟩ := X2.leave (v := some (.long (Ftot tt))) (fun h => by rw [Bd.returns] at h; cases h) (BodyLoose.notSynchronized Bd)
  refine ⟨_, _, pre3 _ ?_, hrun, hended, _, _, rfl, ?_, ⟨_, rfl⟩, hW, hsame.mono (by decide) (by decide)⟩
  · show Steps p.tables e below (T2.setTop (mkF m 4 #[.val (.ref ob)] [(.long tt)])) _
    have hr2 := hr
    rw [(show (Ftot tt) = tt from rfl)] at hr2
    exact X2.lreturnOut hx Bd.returns (hb hby d7_4) hr2
  · show Q7 Z ob an as fst tt nn nf ns sf h0 n0 _ T2.heap _
    rw [e2]
    exact ⟨rfl, N0, rfl⟩
def Two (a b : Slot) : Prop := (a = .unset ∧ b = .unset) ∨ ∃ x : Int64, a = .val (.long x) ∧ b = .second
def own_mk (ii : Int32) (r : Int64) (sp : Int32) (nf : Int32 → Int64) : Int64 := ((((nf (ii + sp)) - r) - (1 : Int64)) >>> ((63 : Int32) &&& 0x3f).toInt64)
theorem d8_11 : decode prog_6_method_6_code 11 = .ok (.iload 6, 2) := by decide +kernel
theorem d8_13 : decode prog_6_method_6_code 13 = .ok (.ifCond .le 68, 3) := by decide +kernel
theorem d8_16 : decode prog_6_method_6_code 16 = .ok (.iload_n 3, 1) := by decide +kernel
theorem d8_17 : decode prog_6_method_6_code 17 = .ok (.iload 6, 2) := by decide +kernel
theorem d8_19 : decode prog_6_method_6_code 19 = .ok (.iadd, 1) := by decide +kernel
theorem d8_20 : decode prog_6_method_6_code 20 = .ok (.istore 7, 2) := by decide +kernel
theorem d8_22 : decode prog_6_method_6_code 22 = .ok (.iload 7, 2) := by decide +kernel
theorem d8_24 : decode prog_6_method_6_code 24 = .ok (.aload_n 0, 1) := by decide +kernel
theorem d8_25 : decode prog_6_method_6_code 25 = .ok (.getfield 7, 3) := by decide +kernel
theorem d8_28 : decode prog_6_method_6_code 28 = .ok (.arraylength, 1) := by decide +kernel
theorem d8_29 : decode prog_6_method_6_code 29 = .ok (.if_icmp .ge 43, 3) := by decide +kernel
theorem d8_32 : decode prog_6_method_6_code 32 = .ok (.aload_n 0, 1) := by decide +kernel
theorem d8_33 : decode prog_6_method_6_code 33 = .ok (.getfield 7, 3) := by decide +kernel
theorem d8_36 : decode prog_6_method_6_code 36 = .ok (.iload 7, 2) := by decide +kernel
theorem d8_38 : decode prog_6_method_6_code 38 = .ok (.laload, 1) := by decide +kernel
theorem d8_39 : decode prog_6_method_6_code 39 = .ok (.lstore 8, 2) := by decide +kernel
theorem d8_41 : decode prog_6_method_6_code 41 = .ok (.lload 8, 2) := by decide +kernel
theorem d8_43 : decode prog_6_method_6_code 43 = .ok (.lload 4, 2) := by decide +kernel
theorem d8_45 : decode prog_6_method_6_code 45 = .ok (.lsub, 1) := by decide +kernel
theorem d8_46 : decode prog_6_method_6_code 46 = .ok (.lconst 1, 1) := by decide +kernel
theorem d8_47 : decode prog_6_method_6_code 47 = .ok (.lsub, 1) := by decide +kernel
theorem d8_48 : decode prog_6_method_6_code 48 = .ok (.bipush 63, 2) := by decide +kernel
theorem d8_50 : decode prog_6_method_6_code 50 = .ok (.lshr, 1) := by decide +kernel
theorem d8_51 : decode prog_6_method_6_code 51 = .ok (.lstore 10, 2) := by decide +kernel
theorem d8_53 : decode prog_6_method_6_code 53 = .ok (.iload_n 3, 1) := by decide +kernel
theorem d8_54 : decode prog_6_method_6_code 54 = .ok (.iload 6, 2) := by decide +kernel
theorem d8_56 : decode prog_6_method_6_code 56 = .ok (.lload 10, 2) := by decide +kernel
theorem d8_58 : decode prog_6_method_6_code 58 = .ok (.l2i, 1) := by decide +kernel
theorem d8_59 : decode prog_6_method_6_code 59 = .ok (.iand, 1) := by decide +kernel
theorem d8_60 : decode prog_6_method_6_code 60 = .ok (.iadd, 1) := by decide +kernel
theorem d8_61 : decode prog_6_method_6_code 61 = .ok (.istore_n 3, 1) := by decide +kernel
theorem d8_62 : decode prog_6_method_6_code 62 = .ok (.lload 4, 2) := by decide +kernel
theorem d8_64 : decode prog_6_method_6_code 64 = .ok (.lload 8, 2) := by decide +kernel
theorem d8_66 : decode prog_6_method_6_code 66 = .ok (.lload 10, 2) := by decide +kernel
theorem d8_68 : decode prog_6_method_6_code 68 = .ok (.land, 1) := by decide +kernel
theorem d8_69 : decode prog_6_method_6_code 69 = .ok (.lsub, 1) := by decide +kernel
theorem d8_70 : decode prog_6_method_6_code 70 = .ok (.lstore 4, 2) := by decide +kernel
theorem d8_72 : decode prog_6_method_6_code 72 = .ok (.iload 6, 2) := by decide +kernel
theorem d8_74 : decode prog_6_method_6_code 74 = .ok (.iconst 1, 1) := by decide +kernel
theorem d8_75 : decode prog_6_method_6_code 75 = .ok (.iushr, 1) := by decide +kernel
theorem d8_76 : decode prog_6_method_6_code 76 = .ok (.istore 6, 2) := by decide +kernel
theorem d8_78 : decode prog_6_method_6_code 78 = .ok (.goto (-67), 3) := by decide +kernel
def ix_i (ii : Int32) (r : Int64) (sp : Int32) (nn : Int32) (nf : Int32 → Int64) : Int32 := (if (ii + sp) < nn then (ii + (sp &&& ((own_mk ii r sp nf).toInt32))) else ii)
def ix_r (ii : Int32) (r : Int64) (sp : Int32) (nn : Int32) (nf : Int32 → Int64) : Int64 := (if (ii + sp) < nn then (r - ((nf (ii + sp)) &&& (own_mk ii r sp nf))) else r)
def ix_s (sp : Int32) : Int32 := ((sp.toUInt32 >>> ((1 : Int32) &&& 31).toUInt32).toInt32)
set_option maxRecDepth 65536 in
set_option maxHeartbeats 40000000 in
theorem ixTurn {p : Program} {l : Launch} {e : Env} {R : Room} {s : State} {m : MethodId} {args : Array Value} {below : List Frame} {meth : Method} {c : Code} {T0 : State} {locs : List Loc} {cells slots : Nat} {Z : State} {a0 : Array Value} {h0 : Heap} {n0 : Nat} (pt : Int64) (ii : Int32) (r : Int64) (sp : Int32) (s7 : Slot) (s8 : Slot) (s9 : Slot) (s10 : Slot) (s11 : Slot) (ob : Addr) (an : Addr) (as : Addr) (fst : Int32) (tt : Int64) (nn : Int32) (nf : Int32 → Int64) (ns : Int32) (sf : Int32 → Int32)
    (X0 : Stand p l e R s m args below meth c T0 locs cells slots) (hx : p.tables.exec = Jvm.exec) (hZ : Z.Warmed39 s.vm) (hw : ∀ d ∈ tables_1, d.before a0 Z = true) (hby : c.code = prog_6_method_6_code) (hml : c.maxLocals = 12) (hown : s.vm.findClass "com/example/dealer/dealer/ChangingShares" = some m.cls) (e0 : T0.heap = h0) (N0 : Fr n0 locs) (Z0 : n0 ≤ h0.size) (I0 : CS Z h0 n0 ob an as fst tt nn nf ns sf) (hs7 : One s7) (hs8 : Two s8 s9) (hs10 : Two s10 s11) (hsp : (0 : Int32) < sp) (hin : (ii + sp) < nn → ¬ (ii + sp) < 0 ∧ (ii + sp) < nn) :
    ∃ (T' : State) (h' : Heap) (locs' : List Loc) (s7' : Slot) (s8' : Slot) (s9' : Slot) (s10' : Slot) (s11' : Slot), Stand p l e R s m args below meth c T' locs' cells slots ∧ T'.heap = h' ∧ Fr n0 locs' ∧ (h' = h0) ∧ (One s7' ∧ Two s8' s9' ∧ Two s10' s11') ∧ ∀ t, Steps p.tables e below (T'.setTop (mkF m 11 #[.val (.ref ob), .val (.long pt), .second, .val (.int (ix_i ii r sp nn nf)), .val (.long (ix_r ii r sp nn nf)), .second, .val (.int (ix_s sp)), s7', s8', s9', s10', s11'] [])) t → Steps p.tables e below (T0.setTop (mkF m 11 #[.val (.ref ob), .val (.long pt), .second, .val (.int ii), .val (.long r), .second, .val (.int sp), s7, s8, s9, s10, s11] [])) t := by
  have pre0 : ∀ t, Steps p.tables e below (T0.setTop (mkF m 11 #[.val (.ref ob), .val (.long pt), .second, .val (.int ii), .val (.long r), .second, .val (.int sp), s7, s8, s9, s10, s11] [])) t → Steps p.tables e below (T0.setTop (mkF m 11 #[.val (.ref ob), .val (.long pt), .second, .val (.int ii), .val (.long r), .second, .val (.int sp), s7, s8, s9, s10, s11] [])) t := fun t k => k
  obtain ⟨k1_0, k1_1, k1_2, k1_3, k1_4, k1_5, k1_6, k1_g_ob, k1_g_an, k1_g_as, k1_n_ob_an, k1_n_ob_as, k1_n_an_as, k1_sz⟩ := I0
  obtain ⟨T2, X2, e2, st2⟩ := getF X0 hx hZ hown (host := "") (Or.inl (hw _ (List.mem_of_getElem? (i := 15) rfl))) Via.refl e0 k1_1 (g := (mkF m 25 #[.val (.ref ob), .val (.long pt), .second, .val (.int ii), .val (.long r), .second, .val (.int sp), .val (.int (ii + sp)), s8, s9, s10, s11] [(.ref ob), (.int (ii + sp))])) rfl rfl (hb hby d8_25)
  have pre3 : ∀ t, Steps p.tables e below (T2.setTop (mkF m 29 #[.val (.ref ob), .val (.long pt), .second, .val (.int ii), .val (.long r), .second, .val (.int sp), .val (.int (ii + sp)), s8, s9, s10, s11] [(.int nn), (.int (ii + sp))])) t → Steps p.tables e below (T0.setTop (mkF m 11 #[.val (.ref ob), .val (.long pt), .second, .val (.int ii), .val (.long r), .second, .val (.int sp), s7, s8, s9, s10, s11] [])) t := by
    intro t k
    refine pre0 t ?_
    show Steps p.tables e below (T0.setTop (mkF m 11 #[.val (.ref ob), .val (.long pt), .second, .val (.int ii), .val (.long r), .second, .val (.int sp), s7, s8, s9, s10, s11] [])) _
    refine XS.iload X0.here hx rfl (hb hby d8_11) rfl ?_
    show Steps p.tables e below (T0.setTop (mkF m 13 #[.val (.ref ob), .val (.long pt), .second, .val (.int ii), .val (.long r), .second, .val (.int sp), s7, s8, s9, s10, s11] [(.int sp)])) _
    refine XS.ifNo X0.here hx rfl (hb hby d8_13) rfl ((if0 _ _).trans (tlt hsp).2.2.2) ?_
    show Steps p.tables e below (T0.setTop (mkF m 16 #[.val (.ref ob), .val (.long pt), .second, .val (.int ii), .val (.long r), .second, .val (.int sp), s7, s8, s9, s10, s11] [])) _
    refine XS.iloadN X0.here hx rfl (hb hby d8_16) rfl ?_
    show Steps p.tables e below (T0.setTop (mkF m 17 #[.val (.ref ob), .val (.long pt), .second, .val (.int ii), .val (.long r), .second, .val (.int sp), s7, s8, s9, s10, s11] [(.int ii)])) _
    refine XS.iload X0.here hx rfl (hb hby d8_17) rfl ?_
    show Steps p.tables e below (T0.setTop (mkF m 19 #[.val (.ref ob), .val (.long pt), .second, .val (.int ii), .val (.long r), .second, .val (.int sp), s7, s8, s9, s10, s11] [(.int sp), (.int ii)])) _
    refine XS.iadd X0.here hx rfl (hb hby d8_19) rfl ?_
    show Steps p.tables e below (T0.setTop (mkF m 20 #[.val (.ref ob), .val (.long pt), .second, .val (.int ii), .val (.long r), .second, .val (.int sp), s7, s8, s9, s10, s11] [(.int (ii + sp))])) _
    refine XS.istore X0.here hx rfl (hb hby d8_20) rfl (l' := #[.val (.ref ob), .val (.long pt), .second, .val (.int ii), .val (.long r), .second, .val (.int sp), .val (.int (ii + sp)), s8, s9, s10, s11]) (by rcases hs7 with rfl | ⟨w, rfl, hw7⟩ <;> first | rfl | (cases w <;> first | rfl | (simp [Value.category] at hw7))) ?_
    show Steps p.tables e below (T0.setTop (mkF m 22 #[.val (.ref ob), .val (.long pt), .second, .val (.int ii), .val (.long r), .second, .val (.int sp), .val (.int (ii + sp)), s8, s9, s10, s11] [])) _
    refine XS.iload X0.here hx rfl (hb hby d8_22) rfl ?_
    show Steps p.tables e below (T0.setTop (mkF m 24 #[.val (.ref ob), .val (.long pt), .second, .val (.int ii), .val (.long r), .second, .val (.int sp), .val (.int (ii + sp)), s8, s9, s10, s11] [(.int (ii + sp))])) _
    refine XS.aloadN X0.here hx rfl (hb hby d8_24) rfl rfl ?_
    show Steps p.tables e below (T0.setTop (mkF m 25 #[.val (.ref ob), .val (.long pt), .second, .val (.int ii), .val (.long r), .second, .val (.int sp), .val (.int (ii + sp)), s8, s9, s10, s11] [(.ref ob), (.int (ii + sp))])) _
    refine st2 _ ?_
    show Steps p.tables e below (T2.setTop (mkF m 28 #[.val (.ref ob), .val (.long pt), .second, .val (.int ii), .val (.long r), .second, .val (.int sp), .val (.int (ii + sp)), s8, s9, s10, s11] [(.ref an), (.int (ii + sp))])) _
    refine lnG X2 hx hZ e2 k1_5 (g := (mkF m 28 #[.val (.ref ob), .val (.long pt), .second, .val (.int ii), .val (.long r), .second, .val (.int sp), .val (.int (ii + sp)), s8, s9, s10, s11] [(.ref an), (.int (ii + sp))])) rfl rfl (hb hby d8_28) _ ?_
    exact k
  by_cases hc4 : (ii + sp) < nn
  ·
    obtain ⟨T5, X5, e5, st5⟩ := getF X2 hx hZ hown (host := "") (Or.inl (hw _ (List.mem_of_getElem? (i := 15) rfl))) Via.refl e2 k1_1 (g := (mkF m 33 #[.val (.ref ob), .val (.long pt), .second, .val (.int ii), .val (.long r), .second, .val (.int sp), .val (.int (ii + sp)), s8, s9, s10, s11] [(.ref ob)])) rfl rfl (hb hby d8_33)
    have pre6 : ∀ t, Steps p.tables e below (T5.setTop (mkF m 11 #[.val (.ref ob), .val (.long pt), .second, .val (.int (ii + (sp &&& ((own_mk ii r sp nf).toInt32)))), .val (.long (r - ((nf (ii + sp)) &&& (own_mk ii r sp nf)))), .second, .val (.int ((sp.toUInt32 >>> ((1 : Int32) &&& 31).toUInt32).toInt32)), .val (.int (ii + sp)), .val (.long (nf (ii + sp))), .second, .val (.long (own_mk ii r sp nf)), .second] [])) t → Steps p.tables e below (T0.setTop (mkF m 11 #[.val (.ref ob), .val (.long pt), .second, .val (.int ii), .val (.long r), .second, .val (.int sp), s7, s8, s9, s10, s11] [])) t := by
      intro t k
      refine pre3 t ?_
      show Steps p.tables e below (T2.setTop (mkF m 29 #[.val (.ref ob), .val (.long pt), .second, .val (.int ii), .val (.long r), .second, .val (.int sp), .val (.int (ii + sp)), s8, s9, s10, s11] [(.int nn), (.int (ii + sp))])) _
      refine XS.icmpNo X2.here hx rfl (hb hby d8_29) rfl (tlt hc4).2.1 ?_
      show Steps p.tables e below (T2.setTop (mkF m 32 #[.val (.ref ob), .val (.long pt), .second, .val (.int ii), .val (.long r), .second, .val (.int sp), .val (.int (ii + sp)), s8, s9, s10, s11] [])) _
      refine XS.aloadN X2.here hx rfl (hb hby d8_32) rfl rfl ?_
      show Steps p.tables e below (T2.setTop (mkF m 33 #[.val (.ref ob), .val (.long pt), .second, .val (.int ii), .val (.long r), .second, .val (.int sp), .val (.int (ii + sp)), s8, s9, s10, s11] [(.ref ob)])) _
      refine st5 _ ?_
      show Steps p.tables e below (T5.setTop (mkF m 36 #[.val (.ref ob), .val (.long pt), .second, .val (.int ii), .val (.long r), .second, .val (.int sp), .val (.int (ii + sp)), s8, s9, s10, s11] [(.ref an)])) _
      refine XS.iload X5.here hx rfl (hb hby d8_36) rfl ?_
      show Steps p.tables e below (T5.setTop (mkF m 38 #[.val (.ref ob), .val (.long pt), .second, .val (.int ii), .val (.long r), .second, .val (.int sp), .val (.int (ii + sp)), s8, s9, s10, s11] [(.int (ii + sp)), (.ref an)])) _
      refine rdJ X5 hx hZ e5 k1_5 (j := (ii + sp)) (hin hc4) rfl (g := (mkF m 38 #[.val (.ref ob), .val (.long pt), .second, .val (.int ii), .val (.long r), .second, .val (.int sp), .val (.int (ii + sp)), s8, s9, s10, s11] [(.int (ii + sp)), (.ref an)])) rfl rfl (hb hby d8_38) _ ?_
      show Steps p.tables e below (T5.setTop (mkF m 39 #[.val (.ref ob), .val (.long pt), .second, .val (.int ii), .val (.long r), .second, .val (.int sp), .val (.int (ii + sp)), s8, s9, s10, s11] [(.long (nf (ii + sp)))])) _
      refine XS.lstore X5.here hx rfl (hb hby d8_39) rfl (l' := #[.val (.ref ob), .val (.long pt), .second, .val (.int ii), .val (.long r), .second, .val (.int sp), .val (.int (ii + sp)), .val (.long (nf (ii + sp))), .second, s10, s11]) (by rcases hs8 with ⟨rfl, rfl⟩ | ⟨x, rfl, rfl⟩ <;> rfl) ?_
      show Steps p.tables e below (T5.setTop (mkF m 41 #[.val (.ref ob), .val (.long pt), .second, .val (.int ii), .val (.long r), .second, .val (.int sp), .val (.int (ii + sp)), .val (.long (nf (ii + sp))), .second, s10, s11] [])) _
      refine XS.lload X5.here hx rfl (hb hby d8_41) rfl ?_
      show Steps p.tables e below (T5.setTop (mkF m 43 #[.val (.ref ob), .val (.long pt), .second, .val (.int ii), .val (.long r), .second, .val (.int sp), .val (.int (ii + sp)), .val (.long (nf (ii + sp))), .second, s10, s11] [(.long (nf (ii + sp)))])) _
      refine XS.lload X5.here hx rfl (hb hby d8_43) rfl ?_
      show Steps p.tables e below (T5.setTop (mkF m 45 #[.val (.ref ob), .val (.long pt), .second, .val (.int ii), .val (.long r), .second, .val (.int sp), .val (.int (ii + sp)), .val (.long (nf (ii + sp))), .second, s10, s11] [(.long r), (.long (nf (ii + sp)))])) _
      refine XS.lsub X5.here hx rfl (hb hby d8_45) rfl ?_
      show Steps p.tables e below (T5.setTop (mkF m 46 #[.val (.ref ob), .val (.long pt), .second, .val (.int ii), .val (.long r), .second, .val (.int sp), .val (.int (ii + sp)), .val (.long (nf (ii + sp))), .second, s10, s11] [(.long ((nf (ii + sp)) - r))])) _
      refine XS.lconst X5.here hx rfl (hb hby d8_46) ?_
      show Steps p.tables e below (T5.setTop (mkF m 47 #[.val (.ref ob), .val (.long pt), .second, .val (.int ii), .val (.long r), .second, .val (.int sp), .val (.int (ii + sp)), .val (.long (nf (ii + sp))), .second, s10, s11] [(.long (1 : Int64)), (.long ((nf (ii + sp)) - r))])) _
      refine XS.lsub X5.here hx rfl (hb hby d8_47) rfl ?_
      show Steps p.tables e below (T5.setTop (mkF m 48 #[.val (.ref ob), .val (.long pt), .second, .val (.int ii), .val (.long r), .second, .val (.int sp), .val (.int (ii + sp)), .val (.long (nf (ii + sp))), .second, s10, s11] [(.long (((nf (ii + sp)) - r) - (1 : Int64)))])) _
      refine XS.bipush X5.here hx rfl (hb hby d8_48) ?_
      show Steps p.tables e below (T5.setTop (mkF m 50 #[.val (.ref ob), .val (.long pt), .second, .val (.int ii), .val (.long r), .second, .val (.int sp), .val (.int (ii + sp)), .val (.long (nf (ii + sp))), .second, s10, s11] [(.int (63 : Int32)), (.long (((nf (ii + sp)) - r) - (1 : Int64)))])) _
      refine XS.lshr X5.here hx rfl (hb hby d8_50) rfl ?_
      show Steps p.tables e below (T5.setTop (mkF m 51 #[.val (.ref ob), .val (.long pt), .second, .val (.int ii), .val (.long r), .second, .val (.int sp), .val (.int (ii + sp)), .val (.long (nf (ii + sp))), .second, s10, s11] [(.long ((((nf (ii + sp)) - r) - (1 : Int64)) >>> ((63 : Int32) &&& 0x3f).toInt64))])) _
      refine XS.lstore X5.here hx rfl (hb hby d8_51) rfl (l' := #[.val (.ref ob), .val (.long pt), .second, .val (.int ii), .val (.long r), .second, .val (.int sp), .val (.int (ii + sp)), .val (.long (nf (ii + sp))), .second, .val (.long (own_mk ii r sp nf)), .second]) (by rcases hs10 with ⟨rfl, rfl⟩ | ⟨x, rfl, rfl⟩ <;> rfl) ?_
      show Steps p.tables e below (T5.setTop (mkF m 53 #[.val (.ref ob), .val (.long pt), .second, .val (.int ii), .val (.long r), .second, .val (.int sp), .val (.int (ii + sp)), .val (.long (nf (ii + sp))), .second, .val (.long (own_mk ii r sp nf)), .second] [])) _
      refine XS.iloadN X5.here hx rfl (hb hby d8_53) rfl ?_
      show Steps p.tables e below (T5.setTop (mkF m 54 #[.val (.ref ob), .val (.long pt), .second, .val (.int ii), .val (.long r), .second, .val (.int sp), .val (.int (ii + sp)), .val (.long (nf (ii + sp))), .second, .val (.long (own_mk ii r sp nf)), .second] [(.int ii)])) _
      refine XS.iload X5.here hx rfl (hb hby d8_54) rfl ?_
      show Steps p.tables e below (T5.setTop (mkF m 56 #[.val (.ref ob), .val (.long pt), .second, .val (.int ii), .val (.long r), .second, .val (.int sp), .val (.int (ii + sp)), .val (.long (nf (ii + sp))), .second, .val (.long (own_mk ii r sp nf)), .second] [(.int sp), (.int ii)])) _
      refine XS.lload X5.here hx rfl (hb hby d8_56) rfl ?_
      show Steps p.tables e below (T5.setTop (mkF m 58 #[.val (.ref ob), .val (.long pt), .second, .val (.int ii), .val (.long r), .second, .val (.int sp), .val (.int (ii + sp)), .val (.long (nf (ii + sp))), .second, .val (.long (own_mk ii r sp nf)), .second] [(.long (own_mk ii r sp nf)), (.int sp), (.int ii)])) _
      refine XS.l2i X5.here hx rfl (hb hby d8_58) rfl ?_
      show Steps p.tables e below (T5.setTop (mkF m 59 #[.val (.ref ob), .val (.long pt), .second, .val (.int ii), .val (.long r), .second, .val (.int sp), .val (.int (ii + sp)), .val (.long (nf (ii + sp))), .second, .val (.long (own_mk ii r sp nf)), .second] [(.int ((own_mk ii r sp nf).toInt32)), (.int sp), (.int ii)])) _
      refine XS.iand X5.here hx rfl (hb hby d8_59) rfl ?_
      show Steps p.tables e below (T5.setTop (mkF m 60 #[.val (.ref ob), .val (.long pt), .second, .val (.int ii), .val (.long r), .second, .val (.int sp), .val (.int (ii + sp)), .val (.long (nf (ii + sp))), .second, .val (.long (own_mk ii r sp nf)), .second] [(.int (sp &&& ((own_mk ii r sp nf).toInt32))), (.int ii)])) _
      refine XS.iadd X5.here hx rfl (hb hby d8_60) rfl ?_
      show Steps p.tables e below (T5.setTop (mkF m 61 #[.val (.ref ob), .val (.long pt), .second, .val (.int ii), .val (.long r), .second, .val (.int sp), .val (.int (ii + sp)), .val (.long (nf (ii + sp))), .second, .val (.long (own_mk ii r sp nf)), .second] [(.int (ii + (sp &&& ((own_mk ii r sp nf).toInt32))))])) _
      refine XS.istoreN X5.here hx rfl (hb hby d8_61) rfl (l' := #[.val (.ref ob), .val (.long pt), .second, .val (.int (ii + (sp &&& ((own_mk ii r sp nf).toInt32)))), .val (.long r), .second, .val (.int sp), .val (.int (ii + sp)), .val (.long (nf (ii + sp))), .second, .val (.long (own_mk ii r sp nf)), .second]) rfl ?_
      show Steps p.tables e below (T5.setTop (mkF m 62 #[.val (.ref ob), .val (.long pt), .second, .val (.int (ii + (sp &&& ((own_mk ii r sp nf).toInt32)))), .val (.long r), .second, .val (.int sp), .val (.int (ii + sp)), .val (.long (nf (ii + sp))), .second, .val (.long (own_mk ii r sp nf)), .second] [])) _
      refine XS.lload X5.here hx rfl (hb hby d8_62) rfl ?_
      show Steps p.tables e below (T5.setTop (mkF m 64 #[.val (.ref ob), .val (.long pt), .second, .val (.int (ii + (sp &&& ((own_mk ii r sp nf).toInt32)))), .val (.long r), .second, .val (.int sp), .val (.int (ii + sp)), .val (.long (nf (ii + sp))), .second, .val (.long (own_mk ii r sp nf)), .second] [(.long r)])) _
      refine XS.lload X5.here hx rfl (hb hby d8_64) rfl ?_
      show Steps p.tables e below (T5.setTop (mkF m 66 #[.val (.ref ob), .val (.long pt), .second, .val (.int (ii + (sp &&& ((own_mk ii r sp nf).toInt32)))), .val (.long r), .second, .val (.int sp), .val (.int (ii + sp)), .val (.long (nf (ii + sp))), .second, .val (.long (own_mk ii r sp nf)), .second] [(.long (nf (ii + sp))), (.long r)])) _
      refine XS.lload X5.here hx rfl (hb hby d8_66) rfl ?_
      show Steps p.tables e below (T5.setTop (mkF m 68 #[.val (.ref ob), .val (.long pt), .second, .val (.int (ii + (sp &&& ((own_mk ii r sp nf).toInt32)))), .val (.long r), .second, .val (.int sp), .val (.int (ii + sp)), .val (.long (nf (ii + sp))), .second, .val (.long (own_mk ii r sp nf)), .second] [(.long (own_mk ii r sp nf)), (.long (nf (ii + sp))), (.long r)])) _
      refine XS.land X5.here hx rfl (hb hby d8_68) rfl ?_
      show Steps p.tables e below (T5.setTop (mkF m 69 #[.val (.ref ob), .val (.long pt), .second, .val (.int (ii + (sp &&& ((own_mk ii r sp nf).toInt32)))), .val (.long r), .second, .val (.int sp), .val (.int (ii + sp)), .val (.long (nf (ii + sp))), .second, .val (.long (own_mk ii r sp nf)), .second] [(.long ((nf (ii + sp)) &&& (own_mk ii r sp nf))), (.long r)])) _
      refine XS.lsub X5.here hx rfl (hb hby d8_69) rfl ?_
      show Steps p.tables e below (T5.setTop (mkF m 70 #[.val (.ref ob), .val (.long pt), .second, .val (.int (ii + (sp &&& ((own_mk ii r sp nf).toInt32)))), .val (.long r), .second, .val (.int sp), .val (.int (ii + sp)), .val (.long (nf (ii + sp))), .second, .val (.long (own_mk ii r sp nf)), .second] [(.long (r - ((nf (ii + sp)) &&& (own_mk ii r sp nf))))])) _
      refine XS.lstore X5.here hx rfl (hb hby d8_70) rfl (l' := #[.val (.ref ob), .val (.long pt), .second, .val (.int (ii + (sp &&& ((own_mk ii r sp nf).toInt32)))), .val (.long (r - ((nf (ii + sp)) &&& (own_mk ii r sp nf)))), .second, .val (.int sp), .val (.int (ii + sp)), .val (.long (nf (ii + sp))), .second, .val (.long (own_mk ii r sp nf)), .second]) rfl ?_
      show Steps p.tables e below (T5.setTop (mkF m 72 #[.val (.ref ob), .val (.long pt), .second, .val (.int (ii + (sp &&& ((own_mk ii r sp nf).toInt32)))), .val (.long (r - ((nf (ii + sp)) &&& (own_mk ii r sp nf)))), .second, .val (.int sp), .val (.int (ii + sp)), .val (.long (nf (ii + sp))), .second, .val (.long (own_mk ii r sp nf)), .second] [])) _
      refine XS.iload X5.here hx rfl (hb hby d8_72) rfl ?_
      show Steps p.tables e below (T5.setTop (mkF m 74 #[.val (.ref ob), .val (.long pt), .second, .val (.int (ii + (sp &&& ((own_mk ii r sp nf).toInt32)))), .val (.long (r - ((nf (ii + sp)) &&& (own_mk ii r sp nf)))), .second, .val (.int sp), .val (.int (ii + sp)), .val (.long (nf (ii + sp))), .second, .val (.long (own_mk ii r sp nf)), .second] [(.int sp)])) _
      refine XS.iconst X5.here hx rfl (hb hby d8_74) ?_
      show Steps p.tables e below (T5.setTop (mkF m 75 #[.val (.ref ob), .val (.long pt), .second, .val (.int (ii + (sp &&& ((own_mk ii r sp nf).toInt32)))), .val (.long (r - ((nf (ii + sp)) &&& (own_mk ii r sp nf)))), .second, .val (.int sp), .val (.int (ii + sp)), .val (.long (nf (ii + sp))), .second, .val (.long (own_mk ii r sp nf)), .second] [(.int (1 : Int32)), (.int sp)])) _
      refine XS.iushr X5.here hx rfl (hb hby d8_75) rfl ?_
      show Steps p.tables e below (T5.setTop (mkF m 76 #[.val (.ref ob), .val (.long pt), .second, .val (.int (ii + (sp &&& ((own_mk ii r sp nf).toInt32)))), .val (.long (r - ((nf (ii + sp)) &&& (own_mk ii r sp nf)))), .second, .val (.int sp), .val (.int (ii + sp)), .val (.long (nf (ii + sp))), .second, .val (.long (own_mk ii r sp nf)), .second] [(.int ((sp.toUInt32 >>> ((1 : Int32) &&& 31).toUInt32).toInt32))])) _
      refine XS.istore X5.here hx rfl (hb hby d8_76) rfl (l' := #[.val (.ref ob), .val (.long pt), .second, .val (.int (ii + (sp &&& ((own_mk ii r sp nf).toInt32)))), .val (.long (r - ((nf (ii + sp)) &&& (own_mk ii r sp nf)))), .second, .val (.int ((sp.toUInt32 >>> ((1 : Int32) &&& 31).toUInt32).toInt32)), .val (.int (ii + sp)), .val (.long (nf (ii + sp))), .second, .val (.long (own_mk ii r sp nf)), .second]) rfl ?_
      show Steps p.tables e below (T5.setTop (mkF m 78 #[.val (.ref ob), .val (.long pt), .second, .val (.int (ii + (sp &&& ((own_mk ii r sp nf).toInt32)))), .val (.long (r - ((nf (ii + sp)) &&& (own_mk ii r sp nf)))), .second, .val (.int ((sp.toUInt32 >>> ((1 : Int32) &&& 31).toUInt32).toInt32)), .val (.int (ii + sp)), .val (.long (nf (ii + sp))), .second, .val (.long (own_mk ii r sp nf)), .second] [])) _
      refine XS.goto X5.here hx rfl (pc0 := 78) (pc' := 11) rfl (hb hby d8_78) (by decide) (by decide) ?_
      exact k
    refine ⟨T5, _, _, (.val (.int (ii + sp))), (.val (.long (nf (ii + sp)))), (.second), (.val (.long (own_mk ii r sp nf))), (.second), X5, e5, N0, rfl, ⟨One.val rfl, Or.inr ⟨_, rfl, rfl⟩, Or.inr ⟨_, rfl, rfl⟩⟩, fun t k => ?_⟩
    rw [(show (ix_i ii r sp nn nf) = (ii + (sp &&& ((own_mk ii r sp nf).toInt32))) from ((if_pos hc4).trans rfl)), (show (ix_r ii r sp nn nf) = (r - ((nf (ii + sp)) &&& (own_mk ii r sp nf))) from ((if_pos hc4).trans rfl)), (show (ix_s sp) = ((sp.toUInt32 >>> ((1 : Int32) &&& 31).toUInt32).toInt32) from rfl)] at k
    exact pre6 t k
  ·
    have pre7 : ∀ t, Steps p.tables e below (T2.setTop (mkF m 11 #[.val (.ref ob), .val (.long pt), .second, .val (.int ii), .val (.long r), .second, .val (.int ((sp.toUInt32 >>> ((1 : Int32) &&& 31).toUInt32).toInt32)), .val (.int (ii + sp)), s8, s9, s10, s11] [])) t → Steps p.tables e below (T0.setTop (mkF m 11 #[.val (.ref ob), .val (.long pt), .second, .val (.int ii), .val (.long r), .second, .val (.int sp), s7, s8, s9, s10, s11] [])) t := by
      intro t k
      refine pre3 t ?_
      show Steps p.tables e below (T2.setTop (mkF m 29 #[.val (.ref ob), .val (.long pt), .second, .val (.int ii), .val (.long r), .second, .val (.int sp), .val (.int (ii + sp)), s8, s9, s10, s11] [(.int nn), (.int (ii + sp))])) _
      refine XS.icmpYes X2.here hx rfl (pc0 := 29) (pc' := 72) rfl (hb hby d8_29) rfl (flt hc4).2.1 (by decide) (by decide) ?_
      show Steps p.tables e below (T2.setTop (mkF m 72 #[.val (.ref ob), .val (.long pt), .second, .val (.int ii), .val (.long r), .second, .val (.int sp), .val (.int (ii + sp)), s8, s9, s10, s11] [])) _
      refine XS.iload X2.here hx rfl (hb hby d8_72) rfl ?_
      show Steps p.tables e below (T2.setTop (mkF m 74 #[.val (.ref ob), .val (.long pt), .second, .val (.int ii), .val (.long r), .second, .val (.int sp), .val (.int (ii + sp)), s8, s9, s10, s11] [(.int sp)])) _
      refine XS.iconst X2.here hx rfl (hb hby d8_74) ?_
      show Steps p.tables e below (T2.setTop (mkF m 75 #[.val (.ref ob), .val (.long pt), .second, .val (.int ii), .val (.long r), .second, .val (.int sp), .val (.int (ii + sp)), s8, s9, s10, s11] [(.int (1 : Int32)), (.int sp)])) _
      refine XS.iushr X2.here hx rfl (hb hby d8_75) rfl ?_
      show Steps p.tables e below (T2.setTop (mkF m 76 #[.val (.ref ob), .val (.long pt), .second, .val (.int ii), .val (.long r), .second, .val (.int sp), .val (.int (ii + sp)), s8, s9, s10, s11] [(.int ((sp.toUInt32 >>> ((1 : Int32) &&& 31).toUInt32).toInt32))])) _
      refine XS.istore X2.here hx rfl (hb hby d8_76) rfl (l' := #[.val (.ref ob), .val (.long pt), .second, .val (.int ii), .val (.long r), .second, .val (.int ((sp.toUInt32 >>> ((1 : Int32) &&& 31).toUInt32).toInt32)), .val (.int (ii + sp)), s8, s9, s10, s11]) rfl ?_
      show Steps p.tables e below (T2.setTop (mkF m 78 #[.val (.ref ob), .val (.long pt), .second, .val (.int ii), .val (.long r), .second, .val (.int ((sp.toUInt32 >>> ((1 : Int32) &&& 31).toUInt32).toInt32)), .val (.int (ii + sp)), s8, s9, s10, s11] [])) _
      refine XS.goto X2.here hx rfl (pc0 := 78) (pc' := 11) rfl (hb hby d8_78) (by decide) (by decide) ?_
      exact k
    refine ⟨T2, _, _, (.val (.int (ii + sp))), (s8), (s9), (s10), (s11), X2, e2, N0, rfl, ⟨One.val rfl, hs8, hs10⟩, fun t k => ?_⟩
    rw [(show (ix_i ii r sp nn nf) = ii from ((if_neg hc4).trans rfl)), (show (ix_r ii r sp nn nf) = r from ((if_neg hc4).trans rfl)), (show (ix_s sp) = ((sp.toUInt32 >>> ((1 : Int32) &&& 31).toUInt32).toInt32) from rfl)] at k
    exact pre7 t k
def ixS (nn : Int32) (nf : Int32 → Int64) : Nat → Int32 → Int64 → Int32 → Int32 × Int64 × Int32
  | 0, ii, r, sp => (ii, r, sp)
  | n + 1, ii, r, sp => if (0 : Int32) < sp then ixS nn nf n (ix_i ii r sp nn nf) (ix_r ii r sp nn nf) (ix_s sp) else (ii, r, sp)
theorem own_mk01 (ii : Int32) (r : Int64) (sp : Int32) (nf : Int32 → Int64) : (own_mk ii r sp nf = 0 ∧ 0 ≤ (((nf (ii + sp)) - r) - (1 : Int64)).toInt) ∨ (own_mk ii r sp nf = -1 ∧ (((nf (ii + sp)) - r) - (1 : Int64)).toInt < 0) := by
  have a := c_lshr (((nf (ii + sp)) - r) - (1 : Int64)) 63 63 (by decide)
  have b := rng64 (((nf (ii + sp)) - r) - (1 : Int64))
  have e : (own_mk ii r sp nf).toInt = (((nf (ii + sp)) - r) - (1 : Int64)).toInt / (2 ^ 63 : Nat) := a
  have l0 : (0 : Int64).toInt = 0 := by decide
  have l1 : (-1 : Int64).toInt = -1 := by decide
  rw [← Int64.toInt_inj, ← Int64.toInt_inj, l0, l1]
  omega
theorem own_ixs (sp : Int32) (h : 0 ≤ sp.toInt) : (ix_s sp).toInt = sp.toInt / 2 := by
  have a := c_iushr sp 1 1 (by decide) (by decide)
  have b := rng32 sp
  have e : (ix_s sp).toInt = (sp.toInt % 4294967296) / (2 ^ 1 : Nat) := a
  omega
theorem own_ixi (ii : Int32) (r : Int64) (sp nn : Int32) (nf : Int32 → Int64) (h0 : 0 ≤ ii.toInt) (h1 : 0 ≤ sp.toInt) (h2 : ii.toInt + sp.toInt ≤ 1000) : ix_i ii r sp nn nf = ii ∨ ix_i ii r sp nn nf = ii + sp := by
  unfold ix_i
  split
  · rcases own_mk01 ii r sp nf with ⟨e, -⟩ | ⟨e, -⟩
    · rw [e]
      have z : (0 : Int64).toInt32 = 0 := by decide
      rw [z, Int32.and_zero, Int32.add_zero]; exact Or.inl rfl
    · rw [e]
      have z : (-1 : Int64).toInt32 = -1 := by decide
      rw [z, Int32.and_neg_one]; exact Or.inr rfl
  · exact Or.inl rfl
set_option maxHeartbeats 4000000 in
theorem ixLoop {p : Program} {l : Launch} {e : Env} {R : Room} {s : State} {m : MethodId} {args : Array Value} {below : List Frame} {meth : Method} {c : Code} {cells slots : Nat} {Z : State} {a0 : Array Value} {h0 : Heap} {n0 : Nat} (pt : Int64) (ob an as : Addr) (fst : Int32) (tt : Int64) (nn : Int32) (nf : Int32 → Int64) (ns : Int32) (sf : Int32 → Int32)
    (hx : p.tables.exec = Jvm.exec) (hZ : Z.Warmed39 s.vm) (hw : ∀ d ∈ tables_1, d.before a0 Z = true) (hby : c.code = prog_6_method_6_code) (hml : c.maxLocals = 12) (hown : s.vm.findClass "com/example/dealer/dealer/ChangingShares" = some m.cls) (I0 : CS Z h0 n0 ob an as fst tt nn nf ns sf) (n : Nat) : ∀ {T0 : State} {locs : List Loc} (ii : Int32) (r : Int64) (sp : Int32) (s7 s8 s9 s10 s11 : Slot) (hs7 : One s7) (hs8 : Two s8 s9) (hs10 : Two s10 s11) (X0 : Stand p l e R s m args below meth c T0 locs cells slots) (e0 : T0.heap = h0) (N0 : Fr n0 locs) (h0i : 0 ≤ ii.toInt) (h0s : 0 ≤ sp.toInt) (hb : ii.toInt + 2 * sp.toInt ≤ 64),
    ∃ (T' : State) (locs' : List Loc) (s7' s8' s9' s10' s11' : Slot), Stand p l e R s m args below meth c T' locs' cells slots ∧ T'.heap = h0 ∧ Fr n0 locs' ∧ ∀ t, Steps p.tables e below (T'.setTop (mkF m 11 #[.val (.ref ob), .val (.long pt), .second, .val (.int (ixS nn nf n ii r sp).1), .val (.long (ixS nn nf n ii r sp).2.1), .second, .val (.int (ixS nn nf n ii r sp).2.2), s7', s8', s9', s10', s11'] [])) t → Steps p.tables e below (T0.setTop (mkF m 11 #[.val (.ref ob), .val (.long pt), .second, .val (.int ii), .val (.long r), .second, .val (.int sp), s7, s8, s9, s10, s11] [])) t := by
  induction n with
  | zero =>
    intro T0 locs ii r sp s7 s8 s9 s10 s11 hs7 hs8 hs10 X0 e0 N0 h0i h0s hb
    exact ⟨T0, locs, s7, s8, s9, s10, s11, X0, e0, N0, fun t k => k⟩
  | succ n ih =>
    intro T0 locs ii r sp s7 s8 s9 s10 s11 hs7 hs8 hs10 X0 e0 N0 h0i h0s hb
    by_cases hsp : (0 : Int32) < sp
    · have l0 : (0 : Int32).toInt = 0 := by decide
      have a := c_iadd ii sp
      have b := rng32 (ii + sp)
      have es := own_ixs sp h0s
      have ei := own_ixi ii r sp nn nf h0i h0s (by omega)
      obtain ⟨T1, h1, locs1, t7, t8, t9, t10, t11, X1, q1, N1, rfl, ⟨c7, c8, c10⟩, st1⟩ := ixTurn pt ii r sp s7 s8 s9 s10 s11 ob an as fst tt nn nf ns sf X0 hx hZ hw hby hml hown e0 N0 I0.2.2.2.2.2.2.2.2.2.2.2.2.2 I0 hs7 hs8 hs10 hsp (fun q => ⟨by rw [Int32.lt_iff_toInt_lt, l0]; omega, q⟩)
      have hs : ixS nn nf (n + 1) ii r sp = ixS nn nf n (ix_i ii r sp nn nf) (ix_r ii r sp nn nf) (ix_s sp) := if_pos hsp
      rw [hs]
      have bi : 0 ≤ (ix_i ii r sp nn nf).toInt ∧ (ix_i ii r sp nn nf).toInt ≤ ii.toInt + sp.toInt := by
        rcases ei with w | w <;> rw [w] <;> omega
      obtain ⟨T2, locs2, u7, u8, u9, u10, u11, X2, q2, N2, st2⟩ := ih (ix_i ii r sp nn nf) (ix_r ii r sp nn nf) (ix_s sp) t7 t8 t9 t10 t11 c7 c8 c10 X1 q1 N1 bi.1 (by omega) (by omega)
      exact ⟨T2, locs2, u7, u8, u9, u10, u11, X2, q2, N2, fun t k => st1 t (st2 t k)⟩
    · have hs : ixS nn nf (n + 1) ii r sp = (ii, r, sp) := if_neg hsp
      rw [hs]
      exact ⟨T0, locs, s7, s8, s9, s10, s11, X0, e0, N0, fun t k => k⟩
theorem own_ixend (nn : Int32) (nf : Int32 → Int64) (n : Nat) : ∀ (ii : Int32) (r : Int64) (sp : Int32), 0 ≤ sp.toInt → sp.toInt < 2 ^ n → ¬ (0 : Int32) < (ixS nn nf n ii r sp).2.2 := by
  have l0 : (0 : Int32).toInt = 0 := by decide
  induction n with
  | zero => intro ii r sp h0 h1; rw [Int32.lt_iff_toInt_lt, l0]; show ¬ 0 < sp.toInt; omega
  | succ n ih =>
    intro ii r sp h0 h1
    by_cases hsp : (0 : Int32) < sp
    · have hs : ixS nn nf (n + 1) ii r sp = ixS nn nf n (ix_i ii r sp nn nf) (ix_r ii r sp nn nf) (ix_s sp) := if_pos hsp
      rw [hs]
      have es := own_ixs sp h0
      have e2 : (2 : Int) ^ (n + 1) = 2 * 2 ^ n := by rw [Int.pow_succ]; omega
      exact ih _ _ _ (by omega) (by omega)
    · have hs : ixS nn nf (n + 1) ii r sp = (ii, r, sp) := if_neg hsp
      rw [hs]; exact hsp
theorem d8_0 : decode prog_6_method_6_code 0 = .ok (.iconst 0, 1) := by decide +kernel
theorem d8_1 : decode prog_6_method_6_code 1 = .ok (.istore_n 3, 1) := by decide +kernel
theorem d8_2 : decode prog_6_method_6_code 2 = .ok (.lload_n 1, 1) := by decide +kernel
theorem d8_3 : decode prog_6_method_6_code 3 = .ok (.lstore 4, 2) := by decide +kernel
theorem d8_5 : decode prog_6_method_6_code 5 = .ok (.aload_n 0, 1) := by decide +kernel
theorem d8_6 : decode prog_6_method_6_code 6 = .ok (.getfield 23, 3) := by decide +kernel
theorem d8_9 : decode prog_6_method_6_code 9 = .ok (.istore 6, 2) := by decide +kernel
theorem d8_81 : decode prog_6_method_6_code 81 = .ok (.iload_n 3, 1) := by decide +kernel
theorem d8_82 : decode prog_6_method_6_code 82 = .ok (.ireturn, 1) := by decide +kernel
theorem ef_8 (m : MethodId) (x0 : Addr) (x1 : Int64) : entryFrame m #[(.ref x0), (.long x1)] 12 = mkF m 0 #[.val (.ref x0), .val (.long x1), .second, .unset, .unset, .unset, .unset, .unset, .unset, .unset, .unset, .unset] [] := by first | (simp [entryFrame, mkF, argsToLocals, Value.category]; done) | rfl
def Fix (pt : Int64) (fst : Int32) (nn : Int32) (nf : Int32 → Int64) : Int32 := (ixS nn nf 5 (0 : Int32) pt fst).1
def Q8 (Z : State) (ob : Addr) (pt : Int64) (an : Addr) (as : Addr) (fst : Int32) (tt : Int64) (nn : Int32) (nf : Int32 → Int64) (ns : Int32) (sf : Int32 → Int32) (h0 : Heap) (n0 : Nat) (v : Option Value) (h : Heap) (L : List Loc) : Prop := v = some (.int (Fix pt fst nn nf)) ∧ Fr n0 L ∧ h = h0
set_option maxRecDepth 65536 in
set_option maxHeartbeats 40000000 in
theorem rm8 (l : Launch) (Z : State) (a0 : Array Value) (hw : ∀ d ∈ tables_1, d.before a0 Z = true) (ws : List Jvm.Cond) (ob : Addr) (pt : Int64) (an : Addr) (as : Addr) (fst : Int32) (tt : Int64) (nn : Int32) (nf : Int32 → Int64) (ns : Int32) (sf : Int32 → Int32) (h0 : Heap) (n0 : Nat) (Z0 : n0 ≤ h0.size) (I0 : CS Z h0 n0 ob an as fst tt nn nf ns sf) (hfs0 : 0 ≤ fst.toInt) (hfs1 : fst.toInt ≤ 15) :
    MetFree l (⟨"com/example/dealer/dealer/ChangingShares", "indexAt", "(J)I"⟩ : MethodName) (head1 (Jvm.Cond.code (⟨"com/example/dealer/dealer/ChangingShares", "indexAt", "(J)I"⟩ : MethodName) prog_6_method_6_code 12 (some .int) :: ws) ({ frames := 0, cells := 0, slots := 0, locals := 0 } : Room)) (fun a U => a = #[(.ref ob), (.long pt)] ∧ Z.Warmed39 U.vm ∧ U.heap = h0) (fun _ _ _ _ _ => True) (fun _ U o U' => ∃ v L, o = .returned v ∧ Q8 Z ob pt an as fst tt nn nf ns sf h0 n0 v U'.heap L ∧ FrameEnd U o U' L ({ frames := 0, cells := 0, slots := 0, locals := 0 } : Room).cells ({ frames := 0, cells := 0, slots := 0, locals := 0 } : Room).slots) := by
  refine MetFree.of_bodySF (plainFor_of_name pn_2) hisR ?_
  intro p e s m args below meth c s₁ Bd hml0 hP hK
  obtain ⟨rfl, hZ, hh⟩ := hP
  have hx := Bd.exec
  have hby := Bd.bytes
  have hml : c.maxLocals = 12 := hml0
  have hown : s.vm.findClass "com/example/dealer/dealer/ChangingShares" = some m.cls := findClass_of_methodNamed Bd.named
  have hnm := (name_of_methodNamed Bd.named Bd.method).1
  have X0 : Stand p l e ({ frames := 0, cells := 0, slots := 0, locals := 0 } : Room) s m #[(.ref ob), (.long pt)] below meth c s₁ [] 0 0 := Stand.of_body Bd
  have e0 : s₁.heap = h0 := by rw [← hh, Bd.state]; rfl
  have N0 := Fr.nil n0
  have pre0 : ∀ t, Steps p.tables e below (s₁.setTop (mkF m 0 #[.val (.ref ob), .val (.long pt), .second, .unset, .unset, .unset, .unset, .unset, .unset, .unset, .unset, .unset] [])) t → Steps p.tables e below (s₁.setTop (entryFrame m #[(.ref ob), (.long pt)] 12)) t := fun t k => castTop (ef_8 m ob pt) k
  obtain ⟨k1_0, k1_1, k1_2, k1_3, k1_4, k1_5, k1_6, k1_g_ob, k1_g_an, k1_g_as, k1_n_ob_an, k1_n_ob_as, k1_n_an_as, k1_sz⟩ := I0
  obtain ⟨T2, X2, e2, st2⟩ := getF X0 hx hZ hown (host := "") (Or.inl (hw _ (List.mem_of_getElem? (i := 29) rfl))) Via.refl e0 k1_3 (g := (mkF m 6 #[.val (.ref ob), .val (.long pt), .second, .val (.int (0 : Int32)), .val (.long pt), .second, .unset, .unset, .unset, .unset, .unset, .unset] [(.ref ob)])) rfl rfl (hb hby d8_6)
  have pre3 : ∀ t, Steps p.tables e below (T2.setTop (mkF m 11 #[.val (.ref ob), .val (.long pt), .second, .val (.int (0 : Int32)), .val (.long pt), .second, .val (.int fst), .unset, .unset, .unset, .unset, .unset] [])) t → Steps p.tables e below (s₁.setTop (entryFrame m #[(.ref ob), (.long pt)] 12)) t := by
    intro t k
    refine pre0 t ?_
    show Steps p.tables e below (s₁.setTop (mkF m 0 #[.val (.ref ob), .val (.long pt), .second, .unset, .unset, .unset, .unset, .unset, .unset, .unset, .unset, .unset] [])) _
    refine XS.iconst X0.here hx rfl (hb hby d8_0) ?_
    show Steps p.tables e below (s₁.setTop (mkF m 1 #[.val (.ref ob), .val (.long pt), .second, .unset, .unset, .unset, .unset, .unset, .unset, .unset, .unset, .unset] [(.int (0 : Int32))])) _
    refine XS.istoreN X0.here hx rfl (hb hby d8_1) rfl (l' := #[.val (.ref ob), .val (.long pt), .second, .val (.int (0 : Int32)), .unset, .unset, .unset, .unset, .unset, .unset, .unset, .unset]) rfl ?_
    show Steps p.tables e below (s₁.setTop (mkF m 2 #[.val (.ref ob), .val (.long pt), .second, .val (.int (0 : Int32)), .unset, .unset, .unset, .unset, .unset, .unset, .unset, .unset] [])) _
    refine XS.lloadN X0.here hx rfl (hb hby d8_2) rfl ?_
    show Steps p.tables e below (s₁.setTop (mkF m 3 #[.val (.ref ob), .val (.long pt), .second, .val (.int (0 : Int32)), .unset, .unset, .unset, .unset, .unset, .unset, .unset, .unset] [(.long pt)])) _
    refine XS.lstore X0.here hx rfl (hb hby d8_3) rfl (l' := #[.val (.ref ob), .val (.long pt), .second, .val (.int (0 : Int32)), .val (.long pt), .second, .unset, .unset, .unset, .unset, .unset, .unset]) rfl ?_
    show Steps p.tables e below (s₁.setTop (mkF m 5 #[.val (.ref ob), .val (.long pt), .second, .val (.int (0 : Int32)), .val (.long pt), .second, .unset, .unset, .unset, .unset, .unset, .unset] [])) _
    refine XS.aloadN X0.here hx rfl (hb hby d8_5) rfl rfl ?_
    show Steps p.tables e below (s₁.setTop (mkF m 6 #[.val (.ref ob), .val (.long pt), .second, .val (.int (0 : Int32)), .val (.long pt), .second, .unset, .unset, .unset, .unset, .unset, .unset] [(.ref ob)])) _
    refine st2 _ ?_
    show Steps p.tables e below (T2.setTop (mkF m 9 #[.val (.ref ob), .val (.long pt), .second, .val (.int (0 : Int32)), .val (.long pt), .second, .unset, .unset, .unset, .unset, .unset, .unset] [(.int fst)])) _
    refine XS.istore X2.here hx rfl (hb hby d8_9) rfl (l' := #[.val (.ref ob), .val (.long pt), .second, .val (.int (0 : Int32)), .val (.long pt), .second, .val (.int fst), .unset, .unset, .unset, .unset, .unset]) rfl ?_
    exact k
  obtain ⟨T4, L4, u7_4, u8_4, u9_4, u10_4, u11_4, X4, e4, N4, st4⟩ := ixLoop pt ob an as fst tt nn nf ns sf hx hZ hw hby hml hown ⟨k1_0, k1_1, k1_2, k1_3, k1_4, k1_5, k1_6, k1_g_ob, k1_g_an, k1_g_as, k1_n_ob_an, k1_n_ob_as, k1_n_an_as, Z0⟩ 5 (0 : Int32) pt fst .unset .unset .unset .unset .unset One.u (Or.inl ⟨rfl, rfl⟩) (Or.inl ⟨rfl, rfl⟩) X2 e2 N0 (by decide) hfs0 (by have q : (0 : Int32).toInt = 0 := (by decide); omega)
  have pre4 : ∀ t, Steps p.tables e below (T4.setTop (mkF m 11 #[.val (.ref ob), .val (.long pt), .second, .val (.int (ixS nn nf 5 (0 : Int32) pt fst).1), .val (.long (ixS nn nf 5 (0 : Int32) pt fst).2.1), .second, .val (.int (ixS nn nf 5 (0 : Int32) pt fst).2.2), u7_4, u8_4, u9_4, u10_4, u11_4] [])) t → Steps p.tables e below (s₁.setTop (entryFrame m #[(.ref ob), (.long pt)] 12)) t := fun t k => pre3 t (st4 t k)
  have pre5 : ∀ t, Steps p.tables e below (T4.setTop (mkF m 82 #[.val (.ref ob), .val (.long pt), .second, .val (.int (ixS nn nf 5 (0 : Int32) pt fst).1), .val (.long (ixS nn nf 5 (0 : Int32) pt fst).2.1), .second, .val (.int (ixS nn nf 5 (0 : Int32) pt fst).2.2), u7_4, u8_4, u9_4, u10_4, u11_4] [(.int (ixS nn nf 5 (0 : Int32) pt fst).1)])) t → Steps p.tables e below (s₁.setTop (entryFrame m #[(.ref ob), (.long pt)] 12)) t := by
    intro t k
    refine pre4 t ?_
    show Steps p.tables e below (T4.setTop (mkF m 11 #[.val (.ref ob), .val (.long pt), .second, .val (.int (ixS nn nf 5 (0 : Int32) pt fst).1), .val (.long (ixS nn nf 5 (0 : Int32) pt fst).2.1), .second, .val (.int (ixS nn nf 5 (0 : Int32) pt fst).2.2), u7_4, u8_4, u9_4, u10_4, u11_4] [])) _
    refine XS.iload X4.here hx rfl (hb hby d8_11) rfl ?_
    show Steps p.tables e below (T4.setTop (mkF m 13 #[.val (.ref ob), .val (.long pt), .second, .val (.int (ixS nn nf 5 (0 : Int32) pt fst).1), .val (.long (ixS nn nf 5 (0 : Int32) pt fst).2.1), .second, .val (.int (ixS nn nf 5 (0 : Int32) pt fst).2.2), u7_4, u8_4, u9_4, u10_4, u11_4] [(.int (ixS nn nf 5 (0 : Int32) pt fst).2.2)])) _
    refine XS.ifYes X4.here hx rfl (pc0 := 13) (pc' := 81) rfl (hb hby d8_13) rfl ((if0 _ _).trans (flt (own_ixend nn nf 5 _ _ _ hfs0 (by omega))).2.2.2) (by decide) (by decide) ?_
    show Steps p.tables e below (T4.setTop (mkF m 81 #[.val (.ref ob), .val (.long pt), .second, .val (.int (ixS nn nf 5 (0 : Int32) pt fst).1), .val (.long (ixS nn nf 5 (0 : Int32) pt fst).2.1), .second, .val (.int (ixS nn nf 5 (0 : Int32) pt fst).2.2), u7_4, u8_4, u9_4, u10_4, u11_4] [])) _
    refine XS.iloadN X4.here hx rfl (hb hby d8_81) rfl ?_
    exact k
  obtain ⟨fs, hr, hrun, hended, hW, hsame⟩ := X4.leave (v := some (.int (Fix pt fst nn nf))) (fun h => by rw [Bd.returns] at h; cases h) (BodyLoose.notSynchronized Bd)
  refine ⟨_, _, pre5 _ ?_, hrun, hended, _, _, rfl, ?_, ⟨_, rfl⟩, hW, hsame.mono (by decide) (by decide)⟩
  · show Steps p.tables e below (T4.setTop (mkF m 82 #[.val (.ref ob), .val (.long pt), .second, .val (.int (ixS nn nf 5 (0 : Int32) pt fst).1), .val (.long (ixS nn nf 5 (0 : Int32) pt fst).2.1), .second, .val (.int (ixS nn nf 5 (0 : Int32) pt fst).2.2), u7_4, u8_4, u9_4, u10_4, u11_4] [(.int (ixS nn nf 5 (0 : Int32) pt fst).1)])) _
    have hr2 := hr
    rw [(show (Fix pt fst nn nf) = (ixS nn nf 5 (0 : Int32) pt fst).1 from rfl)] at hr2
    exact retI X4 hx Bd.returns (hb hby d8_82) hr2
  · show Q8 Z ob pt an as fst tt nn nf ns sf h0 n0 _ T4.heap _
    rw [e4]
    exact ⟨rfl, N4, rfl⟩
theorem ixS_go (nn : Int32) (nf : Int32 → Int64) (n : Nat) (ii : Int32) (r : Int64) (sp : Int32) (h : (0 : Int32) < sp) : ixS nn nf (n + 1) ii r sp = ixS nn nf n (ix_i ii r sp nn nf) (ix_r ii r sp nn nf) (ix_s sp) := if_pos h
theorem ixS_no (nn : Int32) (nf : Int32 → Int64) (n : Nat) (ii : Int32) (r : Int64) (sp : Int32) (h : ¬ (0 : Int32) < sp) : ixS nn nf (n + 1) ii r sp = (ii, r, sp) := if_neg h
theorem ix_out (nn : Int32) (nf : Int32 → Int64) (ii : Int32) (r : Int64) (sp : Int32) (h : ¬ (ii + sp) < nn) : ix_i ii r sp nn nf = ii ∧ ix_r ii r sp nn nf = r := ⟨if_neg h, if_neg h⟩
theorem ix_in (nn : Int32) (nf : Int32 → Int64) (ii : Int32) (r : Int64) (sp q : Int32) (V : Int) (h : (ii + sp) < nn) (hq : ii + sp = q) (hV : (nf q).toInt = V) (h0 : 0 ≤ V) (h1 : V ≤ 100000000000) (h2 : 0 ≤ r.toInt) (h3 : r.toInt ≤ 100000000000) :
    (V ≤ r.toInt ∧ ix_i ii r sp nn nf = q ∧ (ix_r ii r sp nn nf).toInt = r.toInt - V) ∨ (r.toInt < V ∧ ix_i ii r sp nn nf = ii ∧ ix_r ii r sp nn nf = r) := by
  have a := c_lsub (nf q) r
  have b := rng64 (nf q - r)
  have c := c_lsub (nf q - r) 1
  have d := rng64 (nf q - r - 1)
  have l : (1 : Int64).toInt = 1 := by decide
  have e := own_mk01 ii r sp nf
  have ei : ix_i ii r sp nn nf = (ii + (sp &&& ((own_mk ii r sp nf).toInt32))) := if_pos h
  have er : ix_r ii r sp nn nf = (r - ((nf (ii + sp)) &&& (own_mk ii r sp nf))) := if_pos h
  rw [ei, er]
  rw [hq] at e ⊢
  rcases e with ⟨e1, e2⟩ | ⟨e1, e2⟩
  · refine Or.inr ⟨by omega, ?_, ?_⟩
    · rw [e1, show (0 : Int64).toInt32 = 0 from by decide, Int32.and_zero, Int32.add_zero]
    · rw [e1, Int64.and_zero, Int64.sub_zero]
  · refine Or.inl ⟨by omega, ?_, ?_⟩
    · rw [e1, show (-1 : Int64).toInt32 = -1 from by decide, Int32.and_neg_one, hq]
    · rw [e1, Int64.and_neg_one]
      have f := c_lsub r (nf q)
      have g := rng64 (r - nf q)
      omega
theorem own_ixc1 (nf : Int32 → Int64) (S0 : Int) (h0 : 0 ≤ S0 ∧ S0 < 2147483648) (n1 : (nf 1).toInt = S0) (pt : Int64) (x : Int) (hx : (0 ≤ pt.toInt ∧ pt.toInt < S0 ∧ x = 0)) : (ixS 2 nf 5 0 pt 1).1.toInt = x := by
  rw [ixS_go _ _ _ _ _ _ (by decide), show ix_s 1 = 0 from by decide]
  rcases ix_in 2 nf 0 pt 1 1 _ (by decide) (by decide) n1 (by omega) (by omega) (by omega) (by omega) with ⟨c1, e1, f1⟩ | ⟨c1, e1, f1⟩
  · rw [e1]
    generalize ix_r 0 pt 1 2 nf = r1 at *
    rw [ixS_no _ _ _ _ _ _ (by decide)]
    show (1 : Int32).toInt = x
    rw [show (1 : Int32).toInt = 1 from by decide]
    omega
  · rw [e1, f1]
    rw [ixS_no _ _ _ _ _ _ (by decide)]
    show (0 : Int32).toInt = x
    rw [show (0 : Int32).toInt = 0 from by decide]
    omega
theorem own_ixc2 (nf : Int32 → Int64) (S0 S1 : Int) (h0 : 0 ≤ S0 ∧ S0 < 2147483648) (h1 : 0 ≤ S1 ∧ S1 < 2147483648) (n1 : (nf 1).toInt = S0) (n2 : (nf 2).toInt = S0 + S1) (pt : Int64) (x : Int) (hx : (0 ≤ pt.toInt ∧ pt.toInt < S0 ∧ x = 0) ∨ (S0 ≤ pt.toInt ∧ pt.toInt < S0 + S1 ∧ x = 1)) : (ixS 3 nf 5 0 pt 2).1.toInt = x := by
  rw [ixS_go _ _ _ _ _ _ (by decide), show ix_s 2 = 1 from by decide]
  rcases ix_in 3 nf 0 pt 2 2 _ (by decide) (by decide) n2 (by omega) (by omega) (by omega) (by omega) with ⟨c1, e1, f1⟩ | ⟨c1, e1, f1⟩
  · rw [e1]
    generalize ix_r 0 pt 2 3 nf = r1 at *
    rw [ixS_go _ _ _ _ _ _ (by decide), show ix_s 1 = 0 from by decide]
    rw [(ix_out 3 nf 2 r1 1 (by decide)).1, (ix_out 3 nf 2 r1 1 (by decide)).2]
    rw [ixS_no _ _ _ _ _ _ (by decide)]
    show (2 : Int32).toInt = x
    rw [show (2 : Int32).toInt = 2 from by decide]
    omega
  · rw [e1, f1]
    rw [ixS_go _ _ _ _ _ _ (by decide), show ix_s 1 = 0 from by decide]
    rcases ix_in 3 nf 0 pt 1 1 _ (by decide) (by decide) n1 (by omega) (by omega) (by omega) (by omega) with ⟨c3, e3, f3⟩ | ⟨c3, e3, f3⟩
    · rw [e3]
      generalize ix_r 0 pt 1 3 nf = r3 at *
      rw [ixS_no _ _ _ _ _ _ (by decide)]
      show (1 : Int32).toInt = x
      rw [show (1 : Int32).toInt = 1 from by decide]
      omega
    · rw [e3, f3]
      rw [ixS_no _ _ _ _ _ _ (by decide)]
      show (0 : Int32).toInt = x
      rw [show (0 : Int32).toInt = 0 from by decide]
      omega
theorem own_ixc3 (nf : Int32 → Int64) (S0 S1 S2 : Int) (h0 : 0 ≤ S0 ∧ S0 < 2147483648) (h1 : 0 ≤ S1 ∧ S1 < 2147483648) (h2 : 0 ≤ S2 ∧ S2 < 2147483648) (n1 : (nf 1).toInt = S0) (n2 : (nf 2).toInt = S0 + S1) (n3 : (nf 3).toInt = S2) (pt : Int64) (x : Int) (hx : (0 ≤ pt.toInt ∧ pt.toInt < S0 ∧ x = 0) ∨ (S0 ≤ pt.toInt ∧ pt.toInt < S0 + S1 ∧ x = 1) ∨ (S0 + S1 ≤ pt.toInt ∧ pt.toInt < S0 + S1 + S2 ∧ x = 2)) : (ixS 4 nf 5 0 pt 2).1.toInt = x := by
  rw [ixS_go _ _ _ _ _ _ (by decide), show ix_s 2 = 1 from by decide]
  rcases ix_in 4 nf 0 pt 2 2 _ (by decide) (by decide) n2 (by omega) (by omega) (by omega) (by omega) with ⟨c1, e1, f1⟩ | ⟨c1, e1, f1⟩
  · rw [e1]
    generalize ix_r 0 pt 2 4 nf = r1 at *
    rw [ixS_go _ _ _ _ _ _ (by decide), show ix_s 1 = 0 from by decide]
    rcases ix_in 4 nf 2 r1 1 3 _ (by decide) (by decide) n3 (by omega) (by omega) (by omega) (by omega) with ⟨c2, e2, f2⟩ | ⟨c2, e2, f2⟩
    · rw [e2]
      generalize ix_r 2 r1 1 4 nf = r2 at *
      rw [ixS_no _ _ _ _ _ _ (by decide)]
      show (3 : Int32).toInt = x
      rw [show (3 : Int32).toInt = 3 from by decide]
      omega
    · rw [e2, f2]
      rw [ixS_no _ _ _ _ _ _ (by decide)]
      show (2 : Int32).toInt = x
      rw [show (2 : Int32).toInt = 2 from by decide]
      omega
  · rw [e1, f1]
    rw [ixS_go _ _ _ _ _ _ (by decide), show ix_s 1 = 0 from by decide]
    rcases ix_in 4 nf 0 pt 1 1 _ (by decide) (by decide) n1 (by omega) (by omega) (by omega) (by omega) with ⟨c3, e3, f3⟩ | ⟨c3, e3, f3⟩
    · rw [e3]
      generalize ix_r 0 pt 1 4 nf = r3 at *
      rw [ixS_no _ _ _ _ _ _ (by decide)]
      show (1 : Int32).toInt = x
      rw [show (1 : Int32).toInt = 1 from by decide]
      omega
    · rw [e3, f3]
      rw [ixS_no _ _ _ _ _ _ (by decide)]
      show (0 : Int32).toInt = x
      rw [show (0 : Int32).toInt = 0 from by decide]
      omega
theorem own_ixc4 (nf : Int32 → Int64) (S0 S1 S2 S3 : Int) (h0 : 0 ≤ S0 ∧ S0 < 2147483648) (h1 : 0 ≤ S1 ∧ S1 < 2147483648) (h2 : 0 ≤ S2 ∧ S2 < 2147483648) (h3 : 0 ≤ S3 ∧ S3 < 2147483648) (n1 : (nf 1).toInt = S0) (n2 : (nf 2).toInt = S0 + S1) (n3 : (nf 3).toInt = S2) (n4 : (nf 4).toInt = S0 + S1 + S2 + S3) (pt : Int64) (x : Int) (hx : (0 ≤ pt.toInt ∧ pt.toInt < S0 ∧ x = 0) ∨ (S0 ≤ pt.toInt ∧ pt.toInt < S0 + S1 ∧ x = 1) ∨ (S0 + S1 ≤ pt.toInt ∧ pt.toInt < S0 + S1 + S2 ∧ x = 2) ∨ (S0 + S1 + S2 ≤ pt.toInt ∧ pt.toInt < S0 + S1 + S2 + S3 ∧ x = 3)) : (ixS 5 nf 5 0 pt 4).1.toInt = x := by
  rw [ixS_go _ _ _ _ _ _ (by decide), show ix_s 4 = 2 from by decide]
  rcases ix_in 5 nf 0 pt 4 4 _ (by decide) (by decide) n4 (by omega) (by omega) (by omega) (by omega) with ⟨c1, e1, f1⟩ | ⟨c1, e1, f1⟩
  · rw [e1]
    generalize ix_r 0 pt 4 5 nf = r1 at *
    rw [ixS_go _ _ _ _ _ _ (by decide), show ix_s 2 = 1 from by decide]
    rw [(ix_out 5 nf 4 r1 2 (by decide)).1, (ix_out 5 nf 4 r1 2 (by decide)).2]
    rw [ixS_go _ _ _ _ _ _ (by decide), show ix_s 1 = 0 from by decide]
    rw [(ix_out 5 nf 4 r1 1 (by decide)).1, (ix_out 5 nf 4 r1 1 (by decide)).2]
    rw [ixS_no _ _ _ _ _ _ (by decide)]
    show (4 : Int32).toInt = x
    rw [show (4 : Int32).toInt = 4 from by decide]
    omega
  · rw [e1, f1]
    rw [ixS_go _ _ _ _ _ _ (by decide), show ix_s 2 = 1 from by decide]
    rcases ix_in 5 nf 0 pt 2 2 _ (by decide) (by decide) n2 (by omega) (by omega) (by omega) (by omega) with ⟨c4, e4, f4⟩ | ⟨c4, e4, f4⟩
    · rw [e4]
      generalize ix_r 0 pt 2 5 nf = r4 at *
      rw [ixS_go _ _ _ _ _ _ (by decide), show ix_s 1 = 0 from by decide]
      rcases ix_in 5 nf 2 r4 1 3 _ (by decide) (by decide) n3 (by omega) (by omega) (by omega) (by omega) with ⟨c5, e5, f5⟩ | ⟨c5, e5, f5⟩
      · rw [e5]
        generalize ix_r 2 r4 1 5 nf = r5 at *
        rw [ixS_no _ _ _ _ _ _ (by decide)]
        show (3 : Int32).toInt = x
        rw [show (3 : Int32).toInt = 3 from by decide]
        omega
      · rw [e5, f5]
        rw [ixS_no _ _ _ _ _ _ (by decide)]
        show (2 : Int32).toInt = x
        rw [show (2 : Int32).toInt = 2 from by decide]
        omega
    · rw [e4, f4]
      rw [ixS_go _ _ _ _ _ _ (by decide), show ix_s 1 = 0 from by decide]
      rcases ix_in 5 nf 0 pt 1 1 _ (by decide) (by decide) n1 (by omega) (by omega) (by omega) (by omega) with ⟨c6, e6, f6⟩ | ⟨c6, e6, f6⟩
      · rw [e6]
        generalize ix_r 0 pt 1 5 nf = r6 at *
        rw [ixS_no _ _ _ _ _ _ (by decide)]
        show (1 : Int32).toInt = x
        rw [show (1 : Int32).toInt = 1 from by decide]
        omega
      · rw [e6, f6]
        rw [ixS_no _ _ _ _ _ _ (by decide)]
        show (0 : Int32).toInt = x
        rw [show (0 : Int32).toInt = 0 from by decide]
        omega
theorem own_ixc5 (nf : Int32 → Int64) (S0 S1 S2 S3 : Int) (h0 : 0 ≤ S0 ∧ S0 < 2147483648) (h1 : 0 ≤ S1 ∧ S1 < 2147483648) (h2 : 0 ≤ S2 ∧ S2 < 2147483648) (h3 : 0 ≤ S3 ∧ S3 < 2147483648) (n1 : (nf 1).toInt = S0) (n2 : (nf 2).toInt = S0 + S1) (n3 : (nf 3).toInt = S2) (n4 : (nf 4).toInt = S0 + S1 + S2 + S3) (n5 : (nf 5).toInt = 0) (pt : Int64) (x : Int) (hx : (0 ≤ pt.toInt ∧ pt.toInt < S0 ∧ x = 0) ∨ (S0 ≤ pt.toInt ∧ pt.toInt < S0 + S1 ∧ x = 1) ∨ (S0 + S1 ≤ pt.toInt ∧ pt.toInt < S0 + S1 + S2 ∧ x = 2) ∨ (S0 + S1 + S2 ≤ pt.toInt ∧ pt.toInt < S0 + S1 + S2 + S3 ∧ x = 3)) : (ixS 6 nf 5 0 pt 4).1.toInt = x := by
  rw [ixS_go _ _ _ _ _ _ (by decide), show ix_s 4 = 2 from by decide]
  rcases ix_in 6 nf 0 pt 4 4 _ (by decide) (by decide) n4 (by omega) (by omega) (by omega) (by omega) with ⟨c1, e1, f1⟩ | ⟨c1, e1, f1⟩
  · rw [e1]
    generalize ix_r 0 pt 4 6 nf = r1 at *
    rw [ixS_go _ _ _ _ _ _ (by decide), show ix_s 2 = 1 from by decide]
    rw [(ix_out 6 nf 4 r1 2 (by decide)).1, (ix_out 6 nf 4 r1 2 (by decide)).2]
    rw [ixS_go _ _ _ _ _ _ (by decide), show ix_s 1 = 0 from by decide]
    rcases ix_in 6 nf 4 r1 1 5 _ (by decide) (by decide) n5 (by omega) (by omega) (by omega) (by omega) with ⟨c3, e3, f3⟩ | ⟨c3, e3, f3⟩
    · rw [e3]
      generalize ix_r 4 r1 1 6 nf = r3 at *
      rw [ixS_no _ _ _ _ _ _ (by decide)]
      show (5 : Int32).toInt = x
      rw [show (5 : Int32).toInt = 5 from by decide]
      omega
    · rw [e3, f3]
      rw [ixS_no _ _ _ _ _ _ (by decide)]
      show (4 : Int32).toInt = x
      rw [show (4 : Int32).toInt = 4 from by decide]
      omega
  · rw [e1, f1]
    rw [ixS_go _ _ _ _ _ _ (by decide), show ix_s 2 = 1 from by decide]
    rcases ix_in 6 nf 0 pt 2 2 _ (by decide) (by decide) n2 (by omega) (by omega) (by omega) (by omega) with ⟨c4, e4, f4⟩ | ⟨c4, e4, f4⟩
    · rw [e4]
      generalize ix_r 0 pt 2 6 nf = r4 at *
      rw [ixS_go _ _ _ _ _ _ (by decide), show ix_s 1 = 0 from by decide]
      rcases ix_in 6 nf 2 r4 1 3 _ (by decide) (by decide) n3 (by omega) (by omega) (by omega) (by omega) with ⟨c5, e5, f5⟩ | ⟨c5, e5, f5⟩
      · rw [e5]
        generalize ix_r 2 r4 1 6 nf = r5 at *
        rw [ixS_no _ _ _ _ _ _ (by decide)]
        show (3 : Int32).toInt = x
        rw [show (3 : Int32).toInt = 3 from by decide]
        omega
      · rw [e5, f5]
        rw [ixS_no _ _ _ _ _ _ (by decide)]
        show (2 : Int32).toInt = x
        rw [show (2 : Int32).toInt = 2 from by decide]
        omega
    · rw [e4, f4]
      rw [ixS_go _ _ _ _ _ _ (by decide), show ix_s 1 = 0 from by decide]
      rcases ix_in 6 nf 0 pt 1 1 _ (by decide) (by decide) n1 (by omega) (by omega) (by omega) (by omega) with ⟨c6, e6, f6⟩ | ⟨c6, e6, f6⟩
      · rw [e6]
        generalize ix_r 0 pt 1 6 nf = r6 at *
        rw [ixS_no _ _ _ _ _ _ (by decide)]
        show (1 : Int32).toInt = x
        rw [show (1 : Int32).toInt = 1 from by decide]
        omega
      · rw [e6, f6]
        rw [ixS_no _ _ _ _ _ _ (by decide)]
        show (0 : Int32).toInt = x
        rw [show (0 : Int32).toInt = 0 from by decide]
        omega
theorem own_ixc6 (nf : Int32 → Int64) (S0 S1 S2 S3 : Int) (h0 : 0 ≤ S0 ∧ S0 < 2147483648) (h1 : 0 ≤ S1 ∧ S1 < 2147483648) (h2 : 0 ≤ S2 ∧ S2 < 2147483648) (h3 : 0 ≤ S3 ∧ S3 < 2147483648) (n1 : (nf 1).toInt = S0) (n2 : (nf 2).toInt = S0 + S1) (n3 : (nf 3).toInt = S2) (n4 : (nf 4).toInt = S0 + S1 + S2 + S3) (n5 : (nf 5).toInt = 0) (n6 : (nf 6).toInt = 0) (pt : Int64) (x : Int) (hx : (0 ≤ pt.toInt ∧ pt.toInt < S0 ∧ x = 0) ∨ (S0 ≤ pt.toInt ∧ pt.toInt < S0 + S1 ∧ x = 1) ∨ (S0 + S1 ≤ pt.toInt ∧ pt.toInt < S0 + S1 + S2 ∧ x = 2) ∨ (S0 + S1 + S2 ≤ pt.toInt ∧ pt.toInt < S0 + S1 + S2 + S3 ∧ x = 3)) : (ixS 7 nf 5 0 pt 4).1.toInt = x := by
  rw [ixS_go _ _ _ _ _ _ (by decide), show ix_s 4 = 2 from by decide]
  rcases ix_in 7 nf 0 pt 4 4 _ (by decide) (by decide) n4 (by omega) (by omega) (by omega) (by omega) with ⟨c1, e1, f1⟩ | ⟨c1, e1, f1⟩
  · rw [e1]
    generalize ix_r 0 pt 4 7 nf = r1 at *
    rw [ixS_go _ _ _ _ _ _ (by decide), show ix_s 2 = 1 from by decide]
    rcases ix_in 7 nf 4 r1 2 6 _ (by decide) (by decide) n6 (by omega) (by omega) (by omega) (by omega) with ⟨c2, e2, f2⟩ | ⟨c2, e2, f2⟩
    · rw [e2]
      generalize ix_r 4 r1 2 7 nf = r2 at *
      rw [ixS_go _ _ _ _ _ _ (by decide), show ix_s 1 = 0 from by decide]
      rw [(ix_out 7 nf 6 r2 1 (by decide)).1, (ix_out 7 nf 6 r2 1 (by decide)).2]
      rw [ixS_no _ _ _ _ _ _ (by decide)]
      show (6 : Int32).toInt = x
      rw [show (6 : Int32).toInt = 6 from by decide]
      omega
    · rw [e2, f2]
      rw [ixS_go _ _ _ _ _ _ (by decide), show ix_s 1 = 0 from by decide]
      rcases ix_in 7 nf 4 r1 1 5 _ (by decide) (by decide) n5 (by omega) (by omega) (by omega) (by omega) with ⟨c4, e4, f4⟩ | ⟨c4, e4, f4⟩
      · rw [e4]
        generalize ix_r 4 r1 1 7 nf = r4 at *
        rw [ixS_no _ _ _ _ _ _ (by decide)]
        show (5 : Int32).toInt = x
        rw [show (5 : Int32).toInt = 5 from by decide]
        omega
      · rw [e4, f4]
        rw [ixS_no _ _ _ _ _ _ (by decide)]
        show (4 : Int32).toInt = x
        rw [show (4 : Int32).toInt = 4 from by decide]
        omega
  · rw [e1, f1]
    rw [ixS_go _ _ _ _ _ _ (by decide), show ix_s 2 = 1 from by decide]
    rcases ix_in 7 nf 0 pt 2 2 _ (by decide) (by decide) n2 (by omega) (by omega) (by omega) (by omega) with ⟨c5, e5, f5⟩ | ⟨c5, e5, f5⟩
    · rw [e5]
      generalize ix_r 0 pt 2 7 nf = r5 at *
      rw [ixS_go _ _ _ _ _ _ (by decide), show ix_s 1 = 0 from by decide]
      rcases ix_in 7 nf 2 r5 1 3 _ (by decide) (by decide) n3 (by omega) (by omega) (by omega) (by omega) with ⟨c6, e6, f6⟩ | ⟨c6, e6, f6⟩
      · rw [e6]
        generalize ix_r 2 r5 1 7 nf = r6 at *
        rw [ixS_no _ _ _ _ _ _ (by decide)]
        show (3 : Int32).toInt = x
        rw [show (3 : Int32).toInt = 3 from by decide]
        omega
      · rw [e6, f6]
        rw [ixS_no _ _ _ _ _ _ (by decide)]
        show (2 : Int32).toInt = x
        rw [show (2 : Int32).toInt = 2 from by decide]
        omega
    · rw [e5, f5]
      rw [ixS_go _ _ _ _ _ _ (by decide), show ix_s 1 = 0 from by decide]
      rcases ix_in 7 nf 0 pt 1 1 _ (by decide) (by decide) n1 (by omega) (by omega) (by omega) (by omega) with ⟨c7, e7, f7⟩ | ⟨c7, e7, f7⟩
      · rw [e7]
        generalize ix_r 0 pt 1 7 nf = r7 at *
        rw [ixS_no _ _ _ _ _ _ (by decide)]
        show (1 : Int32).toInt = x
        rw [show (1 : Int32).toInt = 1 from by decide]
        omega
      · rw [e7, f7]
        rw [ixS_no _ _ _ _ _ _ (by decide)]
        show (0 : Int32).toInt = x
        rw [show (0 : Int32).toInt = 0 from by decide]
        omega
theorem own_ixc7 (nf : Int32 → Int64) (S0 S1 S2 S3 : Int) (h0 : 0 ≤ S0 ∧ S0 < 2147483648) (h1 : 0 ≤ S1 ∧ S1 < 2147483648) (h2 : 0 ≤ S2 ∧ S2 < 2147483648) (h3 : 0 ≤ S3 ∧ S3 < 2147483648) (n1 : (nf 1).toInt = S0) (n2 : (nf 2).toInt = S0 + S1) (n3 : (nf 3).toInt = S2) (n4 : (nf 4).toInt = S0 + S1 + S2 + S3) (n5 : (nf 5).toInt = 0) (n6 : (nf 6).toInt = 0) (n7 : (nf 7).toInt = 0) (pt : Int64) (x : Int) (hx : (0 ≤ pt.toInt ∧ pt.toInt < S0 ∧ x = 0) ∨ (S0 ≤ pt.toInt ∧ pt.toInt < S0 + S1 ∧ x = 1) ∨ (S0 + S1 ≤ pt.toInt ∧ pt.toInt < S0 + S1 + S2 ∧ x = 2) ∨ (S0 + S1 + S2 ≤ pt.toInt ∧ pt.toInt < S0 + S1 + S2 + S3 ∧ x = 3)) : (ixS 8 nf 5 0 pt 4).1.toInt = x := by
  rw [ixS_go _ _ _ _ _ _ (by decide), show ix_s 4 = 2 from by decide]
  rcases ix_in 8 nf 0 pt 4 4 _ (by decide) (by decide) n4 (by omega) (by omega) (by omega) (by omega) with ⟨c1, e1, f1⟩ | ⟨c1, e1, f1⟩
  · rw [e1]
    generalize ix_r 0 pt 4 8 nf = r1 at *
    rw [ixS_go _ _ _ _ _ _ (by decide), show ix_s 2 = 1 from by decide]
    rcases ix_in 8 nf 4 r1 2 6 _ (by decide) (by decide) n6 (by omega) (by omega) (by omega) (by omega) with ⟨c2, e2, f2⟩ | ⟨c2, e2, f2⟩
    · rw [e2]
      generalize ix_r 4 r1 2 8 nf = r2 at *
      rw [ixS_go _ _ _ _ _ _ (by decide), show ix_s 1 = 0 from by decide]
      rcases ix_in 8 nf 6 r2 1 7 _ (by decide) (by decide) n7 (by omega) (by omega) (by omega) (by omega) with ⟨c3, e3, f3⟩ | ⟨c3, e3, f3⟩
      · rw [e3]
        generalize ix_r 6 r2 1 8 nf = r3 at *
        rw [ixS_no _ _ _ _ _ _ (by decide)]
        show (7 : Int32).toInt = x
        rw [show (7 : Int32).toInt = 7 from by decide]
        omega
      · rw [e3, f3]
        rw [ixS_no _ _ _ _ _ _ (by decide)]
        show (6 : Int32).toInt = x
        rw [show (6 : Int32).toInt = 6 from by decide]
        omega
    · rw [e2, f2]
      rw [ixS_go _ _ _ _ _ _ (by decide), show ix_s 1 = 0 from by decide]
      rcases ix_in 8 nf 4 r1 1 5 _ (by decide) (by decide) n5 (by omega) (by omega) (by omega) (by omega) with ⟨c4, e4, f4⟩ | ⟨c4, e4, f4⟩
      · rw [e4]
        generalize ix_r 4 r1 1 8 nf = r4 at *
        rw [ixS_no _ _ _ _ _ _ (by decide)]
        show (5 : Int32).toInt = x
        rw [show (5 : Int32).toInt = 5 from by decide]
        omega
      · rw [e4, f4]
        rw [ixS_no _ _ _ _ _ _ (by decide)]
        show (4 : Int32).toInt = x
        rw [show (4 : Int32).toInt = 4 from by decide]
        omega
  · rw [e1, f1]
    rw [ixS_go _ _ _ _ _ _ (by decide), show ix_s 2 = 1 from by decide]
    rcases ix_in 8 nf 0 pt 2 2 _ (by decide) (by decide) n2 (by omega) (by omega) (by omega) (by omega) with ⟨c5, e5, f5⟩ | ⟨c5, e5, f5⟩
    · rw [e5]
      generalize ix_r 0 pt 2 8 nf = r5 at *
      rw [ixS_go _ _ _ _ _ _ (by decide), show ix_s 1 = 0 from by decide]
      rcases ix_in 8 nf 2 r5 1 3 _ (by decide) (by decide) n3 (by omega) (by omega) (by omega) (by omega) with ⟨c6, e6, f6⟩ | ⟨c6, e6, f6⟩
      · rw [e6]
        generalize ix_r 2 r5 1 8 nf = r6 at *
        rw [ixS_no _ _ _ _ _ _ (by decide)]
        show (3 : Int32).toInt = x
        rw [show (3 : Int32).toInt = 3 from by decide]
        omega
      · rw [e6, f6]
        rw [ixS_no _ _ _ _ _ _ (by decide)]
        show (2 : Int32).toInt = x
        rw [show (2 : Int32).toInt = 2 from by decide]
        omega
    · rw [e5, f5]
      rw [ixS_go _ _ _ _ _ _ (by decide), show ix_s 1 = 0 from by decide]
      rcases ix_in 8 nf 0 pt 1 1 _ (by decide) (by decide) n1 (by omega) (by omega) (by omega) (by omega) with ⟨c7, e7, f7⟩ | ⟨c7, e7, f7⟩
      · rw [e7]
        generalize ix_r 0 pt 1 8 nf = r7 at *
        rw [ixS_no _ _ _ _ _ _ (by decide)]
        show (1 : Int32).toInt = x
        rw [show (1 : Int32).toInt = 1 from by decide]
        omega
      · rw [e7, f7]
        rw [ixS_no _ _ _ _ _ _ (by decide)]
        show (0 : Int32).toInt = x
        rw [show (0 : Int32).toInt = 0 from by decide]
        omega
theorem own_ixc8 (nf : Int32 → Int64) (S0 S1 S2 S3 : Int) (h0 : 0 ≤ S0 ∧ S0 < 2147483648) (h1 : 0 ≤ S1 ∧ S1 < 2147483648) (h2 : 0 ≤ S2 ∧ S2 < 2147483648) (h3 : 0 ≤ S3 ∧ S3 < 2147483648) (n1 : (nf 1).toInt = S0) (n2 : (nf 2).toInt = S0 + S1) (n3 : (nf 3).toInt = S2) (n4 : (nf 4).toInt = S0 + S1 + S2 + S3) (n5 : (nf 5).toInt = 0) (n6 : (nf 6).toInt = 0) (n7 : (nf 7).toInt = 0) (n8 : (nf 8).toInt = S0 + S1 + S2 + S3) (pt : Int64) (x : Int) (hx : (0 ≤ pt.toInt ∧ pt.toInt < S0 ∧ x = 0) ∨ (S0 ≤ pt.toInt ∧ pt.toInt < S0 + S1 ∧ x = 1) ∨ (S0 + S1 ≤ pt.toInt ∧ pt.toInt < S0 + S1 + S2 ∧ x = 2) ∨ (S0 + S1 + S2 ≤ pt.toInt ∧ pt.toInt < S0 + S1 + S2 + S3 ∧ x = 3)) : (ixS 9 nf 5 0 pt 8).1.toInt = x := by
  rw [ixS_go _ _ _ _ _ _ (by decide), show ix_s 8 = 4 from by decide]
  rcases ix_in 9 nf 0 pt 8 8 _ (by decide) (by decide) n8 (by omega) (by omega) (by omega) (by omega) with ⟨c1, e1, f1⟩ | ⟨c1, e1, f1⟩
  · rw [e1]
    generalize ix_r 0 pt 8 9 nf = r1 at *
    rw [ixS_go _ _ _ _ _ _ (by decide), show ix_s 4 = 2 from by decide]
    rw [(ix_out 9 nf 8 r1 4 (by decide)).1, (ix_out 9 nf 8 r1 4 (by decide)).2]
    rw [ixS_go _ _ _ _ _ _ (by decide), show ix_s 2 = 1 from by decide]
    rw [(ix_out 9 nf 8 r1 2 (by decide)).1, (ix_out 9 nf 8 r1 2 (by decide)).2]
    rw [ixS_go _ _ _ _ _ _ (by decide), show ix_s 1 = 0 from by decide]
    rw [(ix_out 9 nf 8 r1 1 (by decide)).1, (ix_out 9 nf 8 r1 1 (by decide)).2]
    rw [ixS_no _ _ _ _ _ _ (by decide)]
    show (8 : Int32).toInt = x
    rw [show (8 : Int32).toInt = 8 from by decide]
    omega
  · rw [e1, f1]
    rw [ixS_go _ _ _ _ _ _ (by decide), show ix_s 4 = 2 from by decide]
    rcases ix_in 9 nf 0 pt 4 4 _ (by decide) (by decide) n4 (by omega) (by omega) (by omega) (by omega) with ⟨c5, e5, f5⟩ | ⟨c5, e5, f5⟩
    · rw [e5]
      generalize ix_r 0 pt 4 9 nf = r5 at *
      rw [ixS_go _ _ _ _ _ _ (by decide), show ix_s 2 = 1 from by decide]
      rcases ix_in 9 nf 4 r5 2 6 _ (by decide) (by decide) n6 (by omega) (by omega) (by omega) (by omega) with ⟨c6, e6, f6⟩ | ⟨c6, e6, f6⟩
      · rw [e6]
        generalize ix_r 4 r5 2 9 nf = r6 at *
        rw [ixS_go _ _ _ _ _ _ (by decide), show ix_s 1 = 0 from by decide]
        rcases ix_in 9 nf 6 r6 1 7 _ (by decide) (by decide) n7 (by omega) (by omega) (by omega) (by omega) with ⟨c7, e7, f7⟩ | ⟨c7, e7, f7⟩
        · rw [e7]
          generalize ix_r 6 r6 1 9 nf = r7 at *
          rw [ixS_no _ _ _ _ _ _ (by decide)]
          show (7 : Int32).toInt = x
          rw [show (7 : Int32).toInt = 7 from by decide]
          omega
        · rw [e7, f7]
          rw [ixS_no _ _ _ _ _ _ (by decide)]
          show (6 : Int32).toInt = x
          rw [show (6 : Int32).toInt = 6 from by decide]
          omega
      · rw [e6, f6]
        rw [ixS_go _ _ _ _ _ _ (by decide), show ix_s 1 = 0 from by decide]
        rcases ix_in 9 nf 4 r5 1 5 _ (by decide) (by decide) n5 (by omega) (by omega) (by omega) (by omega) with ⟨c8, e8, f8⟩ | ⟨c8, e8, f8⟩
        · rw [e8]
          generalize ix_r 4 r5 1 9 nf = r8 at *
          rw [ixS_no _ _ _ _ _ _ (by decide)]
          show (5 : Int32).toInt = x
          rw [show (5 : Int32).toInt = 5 from by decide]
          omega
        · rw [e8, f8]
          rw [ixS_no _ _ _ _ _ _ (by decide)]
          show (4 : Int32).toInt = x
          rw [show (4 : Int32).toInt = 4 from by decide]
          omega
    · rw [e5, f5]
      rw [ixS_go _ _ _ _ _ _ (by decide), show ix_s 2 = 1 from by decide]
      rcases ix_in 9 nf 0 pt 2 2 _ (by decide) (by decide) n2 (by omega) (by omega) (by omega) (by omega) with ⟨c9, e9, f9⟩ | ⟨c9, e9, f9⟩
      · rw [e9]
        generalize ix_r 0 pt 2 9 nf = r9 at *
        rw [ixS_go _ _ _ _ _ _ (by decide), show ix_s 1 = 0 from by decide]
        rcases ix_in 9 nf 2 r9 1 3 _ (by decide) (by decide) n3 (by omega) (by omega) (by omega) (by omega) with ⟨c10, e10, f10⟩ | ⟨c10, e10, f10⟩
        · rw [e10]
          generalize ix_r 2 r9 1 9 nf = r10 at *
          rw [ixS_no _ _ _ _ _ _ (by decide)]
          show (3 : Int32).toInt = x
          rw [show (3 : Int32).toInt = 3 from by decide]
          omega
        · rw [e10, f10]
          rw [ixS_no _ _ _ _ _ _ (by decide)]
          show (2 : Int32).toInt = x
          rw [show (2 : Int32).toInt = 2 from by decide]
          omega
      · rw [e9, f9]
        rw [ixS_go _ _ _ _ _ _ (by decide), show ix_s 1 = 0 from by decide]
        rcases ix_in 9 nf 0 pt 1 1 _ (by decide) (by decide) n1 (by omega) (by omega) (by omega) (by omega) with ⟨c11, e11, f11⟩ | ⟨c11, e11, f11⟩
        · rw [e11]
          generalize ix_r 0 pt 1 9 nf = r11 at *
          rw [ixS_no _ _ _ _ _ _ (by decide)]
          show (1 : Int32).toInt = x
          rw [show (1 : Int32).toInt = 1 from by decide]
          omega
        · rw [e11, f11]
          rw [ixS_no _ _ _ _ _ _ (by decide)]
          show (0 : Int32).toInt = x
          rw [show (0 : Int32).toInt = 0 from by decide]
          omega
def addn : Nat → Int64 → Int64 → Int64
  | 0, a, _ => a
  | n + 1, a, d => addn n (a + d) d
def cntC (nn : Int32) : Nat → Int32 → Int32 → Nat
  | 0, _, _ => 0
  | n + 1, k, x => if k < nn then (if x = k then cntC nn n (st_k k) x + 1 else cntC nn n (st_k k) x) else 0
theorem stF_at (nn : Int32) (dl : Int64) (x : Int32) (n : Nat) : ∀ (k : Int32) (nf : Int32 → Int64), stF nn dl n k nf x = addn (cntC nn n k x) (nf x) dl := by
  induction n with
  | zero => intro k nf; rfl
  | succ n ih =>
    intro k nf
    by_cases h : k < nn
    · have e1 : stF nn dl (n + 1) k nf = stF nn dl n (st_k k) (st_f dl k nf) := if_pos h
      rw [e1, ih]
      by_cases q : x = k
      · have e2 : cntC nn (n + 1) k x = cntC nn n (st_k k) x + 1 := (if_pos h).trans (if_pos q)
        rw [e2]
        have e3 : st_f dl k nf x = nf x + dl := by rw [q]; exact upA_hit
        rw [e3]; rfl
      · have e2 : cntC nn (n + 1) k x = cntC nn n (st_k k) x := (if_pos h).trans (if_neg q)
        rw [e2]
        have e3 : st_f dl k nf x = nf x := upA_miss q
        rw [e3]
    · have e1 : stF nn dl (n + 1) k nf = nf := if_neg h
      have e2 : cntC nn (n + 1) k x = 0 := if_neg h
      rw [e1, e2]; rfl
theorem Fset_0 (ix sh nn : Int32) (nf : Int32 → Int64) (sf : Int32 → Int32) (x : Int32) (h : cntC nn 4 (ix + 1) x = 0) : Fset_n ix sh nn nf sf x = nf x := by
  unfold Fset_n
  split
  · rfl
  · rw [stF_at, h]; rfl
theorem Fset_1 (ix sh nn : Int32) (nf : Int32 → Int64) (sf : Int32 → Int32) (x : Int32) (h : cntC nn 4 (ix + 1) x = 1) (hs : 0 ≤ sh.toInt) (hf : sf ix = 0) (V : Int) (hV : (nf x).toInt = V) (h0 : 0 ≤ V) (h1 : V ≤ 100000000000) : (Fset_n ix sh nn nf sf x).toInt = V + sh.toInt := by
  have r := rng32 sh
  have d0 : own_dl ix sh sf = sh.toInt64 := by
    unfold own_dl
    rw [hf, Int32.sub_zero]
  unfold Fset_n
  by_cases q : own_dl ix sh sf = 0
  · rw [if_pos q, hV]
    rw [d0, ← Int64.toInt_inj, c_i2l, show (0 : Int64).toInt = 0 from by decide] at q
    omega
  · rw [if_neg q, stF_at, h]
    show (nf x + own_dl ix sh sf).toInt = _
    rw [d0]
    have a := c_ladd (nf x) sh.toInt64
    have b := rng64 (nf x + sh.toInt64)
    rw [c_i2l] at a
    omega
theorem Fset_tv (ix sh : Int32) (tt : Int64) (sf : Int32 → Int32) (hs : 0 ≤ sh.toInt) (hf : sf ix = 0) (V : Int) (hV : tt.toInt = V) (h0 : 0 ≤ V) (h1 : V ≤ 100000000000) : (Fset_t ix sh tt sf).toInt = V + sh.toInt := by
  have r := rng32 sh
  have d0 : own_dl ix sh sf = sh.toInt64 := by
    unfold own_dl
    rw [hf, Int32.sub_zero]
  unfold Fset_t
  by_cases q : own_dl ix sh sf = 0
  · rw [if_pos q, hV]
    rw [d0, ← Int64.toInt_inj, c_i2l, show (0 : Int64).toInt = 0 from by decide] at q
    omega
  · rw [if_neg q, d0]
    have a := c_ladd tt sh.toInt64
    have b := rng64 (tt + sh.toInt64)
    rw [c_i2l] at a
    omega
theorem pd_0 : parseMethodDescriptor "(IIII)I" = some ⟨[.int, .int, .int, .int], some .int⟩ := by decide +kernel
theorem pd_1 : parseMethodDescriptor "(I)V" = some ⟨[.int], none⟩ := by decide +kernel
theorem pd_4 : parseMethodDescriptor "(II)V" = some ⟨[.int, .int], none⟩ := by decide +kernel
theorem pd_5 : parseMethodDescriptor "()J" = some ⟨[], some .long⟩ := by decide +kernel
theorem pd_6 : parseMethodDescriptor "(J)I" = some ⟨[.long], some .int⟩ := by decide +kernel
theorem ef_0 (m : MethodId) (x0 : Int32) (x1 : Int32) (x2 : Int32) (x3 : Int32) (x4 : Int64) (x5 : Int32) : entryFrame m #[(.int x0), (.int x1), (.int x2), (.int x3), (.long x4), (.int x5)] maxLocals = mkF m 0 #[.val (.int x0), .val (.int x1), .val (.int x2), .val (.int x3), .val (.long x4), .second, .val (.int x5), .unset, .unset, .unset, .unset, .unset, .unset, .unset, .unset, .unset, .unset, .unset, .unset, .unset, .unset, .unset, .unset, .unset] [] := by first | (simp [entryFrame, mkF, argsToLocals, Value.category, maxLocals]; done) | rfl
def v_cap (fl : Int32) : Int32 := ((1 : Int32) + (fl &&& (7 : Int32)))
def v_s0 (ai : Int32) (fl : Int32) : Int32 := (Fshare ai fl (0 : Int32) (v_cap fl))
def v_s1 (bi : Int32) (fl : Int32) : Int32 := (Fshare bi fl (1 : Int32) (v_cap fl))
def v_s2 (ci : Int32) (fl : Int32) : Int32 := (Fshare ci fl (2 : Int32) (v_cap fl))
def v_s3 (di : Int32) (fl : Int32) : Int32 := (Fshare di fl (3 : Int32) (v_cap fl))
def v_tA (ai : Int32) (fl : Int32) : Int64 := (Fset_t (0 : Int32) (v_s0 ai fl) (0 : Int64) (fun _ => 0))
def v_nA (ai : Int32) (fl : Int32) : Int32 → Int64 := (Fset_n (0 : Int32) (v_s0 ai fl) ((v_cap fl) + (1 : Int32)) (fun _ => 0) (fun _ => 0))
def v_sA (ai : Int32) (fl : Int32) : Int32 → Int32 := (Fset_s (0 : Int32) (v_s0 ai fl) (fun _ => 0))
def v_tB (ai : Int32) (bi : Int32) (fl : Int32) : Int64 := (if (1 : Int32) < (v_cap fl) then (Fset_t (1 : Int32) (v_s1 bi fl) (v_tA ai fl) (v_sA ai fl)) else (v_tA ai fl))
def v_nB (ai : Int32) (bi : Int32) (fl : Int32) : Int32 → Int64 := (if (1 : Int32) < (v_cap fl) then (Fset_n (1 : Int32) (v_s1 bi fl) ((v_cap fl) + (1 : Int32)) (v_nA ai fl) (v_sA ai fl)) else (v_nA ai fl))
def v_sB (ai : Int32) (bi : Int32) (fl : Int32) : Int32 → Int32 := (if (1 : Int32) < (v_cap fl) then (Fset_s (1 : Int32) (v_s1 bi fl) (v_sA ai fl)) else (v_sA ai fl))
def v_tC (ai : Int32) (bi : Int32) (ci : Int32) (fl : Int32) : Int64 := (if (2 : Int32) < (v_cap fl) then (Fset_t (2 : Int32) (v_s2 ci fl) (v_tB ai bi fl) (v_sB ai bi fl)) else (v_tB ai bi fl))
def v_nC (ai : Int32) (bi : Int32) (ci : Int32) (fl : Int32) : Int32 → Int64 := (if (2 : Int32) < (v_cap fl) then (Fset_n (2 : Int32) (v_s2 ci fl) ((v_cap fl) + (1 : Int32)) (v_nB ai bi fl) (v_sB ai bi fl)) else (v_nB ai bi fl))
def v_sC (ai : Int32) (bi : Int32) (ci : Int32) (fl : Int32) : Int32 → Int32 := (if (2 : Int32) < (v_cap fl) then (Fset_s (2 : Int32) (v_s2 ci fl) (v_sB ai bi fl)) else (v_sB ai bi fl))
def v_tD (ai : Int32) (bi : Int32) (ci : Int32) (di : Int32) (fl : Int32) : Int64 := (if (3 : Int32) < (v_cap fl) then (Fset_t (3 : Int32) (v_s3 di fl) (v_tC ai bi ci fl) (v_sC ai bi ci fl)) else (v_tC ai bi ci fl))
def v_nD (ai : Int32) (bi : Int32) (ci : Int32) (di : Int32) (fl : Int32) : Int32 → Int64 := (if (3 : Int32) < (v_cap fl) then (Fset_n (3 : Int32) (v_s3 di fl) ((v_cap fl) + (1 : Int32)) (v_nC ai bi ci fl) (v_sC ai bi ci fl)) else (v_nC ai bi ci fl))
def v_sD (ai : Int32) (bi : Int32) (ci : Int32) (di : Int32) (fl : Int32) : Int32 → Int32 := (if (3 : Int32) < (v_cap fl) then (Fset_s (3 : Int32) (v_s3 di fl) (v_sC ai bi ci fl)) else (v_sC ai bi ci fl))
def v_p0 (ai : Int32) (fl : Int32) : Int64 := ((v_s0 ai fl).toInt64)
def v_p1 (ai : Int32) (bi : Int32) (fl : Int32) : Int64 := ((v_p0 ai fl) + ((v_s1 bi fl).toInt64))
def v_p2 (ai : Int32) (bi : Int32) (ci : Int32) (fl : Int32) : Int64 := ((v_p1 ai bi fl) + ((v_s2 ci fl).toInt64))
def v_tot (ai : Int32) (bi : Int32) (ci : Int32) (di : Int32) (fl : Int32) : Int64 := ((v_p2 ai bi ci fl) + ((v_s3 di fl).toInt64))
def v_pt (ai : Int32) (bi : Int32) (ci : Int32) (di : Int32) (pj : Int64) (fl : Int32) : Int64 := ((pj &&& (9223372036854775807 : Int64)) - ((pj &&& (9223372036854775807 : Int64)) / (v_tot ai bi ci di fl)) * (v_tot ai bi ci di fl))
def v_ex (ai : Int32) (bi : Int32) (ci : Int32) (di : Int32) (pj : Int64) (fl : Int32) : Int32 := (if (v_pt ai bi ci di pj fl) < (v_p0 ai fl) then (0 : Int32) else (if (v_pt ai bi ci di pj fl) < (v_p1 ai bi fl) then (1 : Int32) else (if (v_pt ai bi ci di pj fl) < (v_p2 ai bi ci fl) then (2 : Int32) else (3 : Int32))))
def lawE1 (ai : Int32) (bi : Int32) (ci : Int32) (di : Int32) (pj : Int64) (fl : Int32) : Bool := (if (Fix (v_pt ai bi ci di pj fl) (Fhob (v_cap fl)) ((v_cap fl) + (1 : Int32)) (v_nD ai bi ci di fl)) = (v_ex ai bi ci di pj fl) then true else false)
theorem own_cap8 (fl : Int32) : v_cap fl = 1 ∨ v_cap fl = 2 ∨ v_cap fl = 3 ∨ v_cap fl = 4 ∨ v_cap fl = 5 ∨ v_cap fl = 6 ∨ v_cap fl = 7 ∨ v_cap fl = 8 := by
  have a := c_mask fl 7 3 (by decide) (by decide)
  have b := c_iadd 1 (fl &&& 7)
  have c := rng32 (1 + (fl &&& 7))
  have l1 : (1 : Int32).toInt = 1 := by decide
  have l2 : (2 : Int32).toInt = 2 := by decide
  have l3 : (3 : Int32).toInt = 3 := by decide
  have l4 : (4 : Int32).toInt = 4 := by decide
  have l5 : (5 : Int32).toInt = 5 := by decide
  have l6 : (6 : Int32).toInt = 6 := by decide
  have l7 : (7 : Int32).toInt = 7 := by decide
  have l8 : (8 : Int32).toInt = 8 := by decide
  have e : v_cap fl = 1 + (fl &&& 7) := rfl
  simp only [← Int32.toInt_inj, e, l1, l2, l3, l4, l5, l6, l7, l8]
  omega
theorem own_capv (fl : Int32) : ¬ (v_cap fl = (0 : Int32)) ∧ 0 ≤ (v_cap fl).toInt ∧ (v_cap fl).toInt ≤ 8 := by
  rcases own_cap8 fl with h | h | h | h | h | h | h | h <;> rw [h] <;> decide
theorem own_cap1 (fl : Int32) : (0 : Int32) < v_cap fl := by
  rcases own_cap8 fl with h | h | h | h | h | h | h | h <;> rw [h] <;> decide
theorem own_hobv (fl : Int32) : 0 ≤ (Fhob (v_cap fl)).toInt ∧ (Fhob (v_cap fl)).toInt ≤ 15 := by
  rcases own_cap8 fl with h | h | h | h | h | h | h | h <;> rw [h] <;> decide +kernel
theorem own_set84 : ∀ (c : Fin 9) (k : Fin 4), (Int32.ofInt (k.1 : Int)) < (Int32.ofInt (c.1 : Int)) → (¬ (Int32.ofInt (k.1 : Int)) < 0 ∧ (Int32.ofInt (k.1 : Int)) < (Int32.ofInt (c.1 : Int))) ∧ stOk ((Int32.ofInt (c.1 : Int)) + (1 : Int32)) 4 ((Int32.ofInt (k.1 : Int)) + (1 : Int32)) = true ∧ ¬ (stK ((Int32.ofInt (c.1 : Int)) + (1 : Int32)) 4 ((Int32.ofInt (k.1 : Int)) + (1 : Int32))) < ((Int32.ofInt (c.1 : Int)) + (1 : Int32)) := by decide +kernel
theorem own_setp (fl k : Int32) (hk : k = 0 ∨ k = 1 ∨ k = 2 ∨ k = 3) (h : k < v_cap fl) : (¬ k < 0 ∧ k < v_cap fl) ∧ stOk ((v_cap fl) + (1 : Int32)) 4 (k + (1 : Int32)) = true ∧ ¬ (stK ((v_cap fl) + (1 : Int32)) 4 (k + (1 : Int32))) < ((v_cap fl) + (1 : Int32)) := by
  obtain ⟨c, hc⟩ : ∃ c : Fin 9, v_cap fl = Int32.ofInt (c.1 : Int) := by
    rcases own_cap8 fl with h | h | h | h | h | h | h | h
    · exact ⟨1, h⟩
    · exact ⟨2, h⟩
    · exact ⟨3, h⟩
    · exact ⟨4, h⟩
    · exact ⟨5, h⟩
    · exact ⟨6, h⟩
    · exact ⟨7, h⟩
    · exact ⟨8, h⟩
  obtain ⟨q, hq⟩ : ∃ q : Fin 4, k = Int32.ofInt (q.1 : Int) := by
    rcases hk with h | h | h | h
    · exact ⟨(0 : Fin 4), h⟩
    · exact ⟨1, h⟩
    · exact ⟨2, h⟩
    · exact ⟨3, h⟩
  rw [hc, hq] at h ⊢
  exact own_set84 c q h
theorem own_fsh (xs fv kv cv : Int32) : 0 ≤ (Fshare xs fv kv cv).toInt ∧ (¬ kv < cv → (Fshare xs fv kv cv).toInt = 0) := by
  have l0 : (0 : Int32).toInt = 0 := by decide
  have a := c_mask xs 2147483647 31 (by decide) (by decide)
  unfold Fshare
  repeat' split
  all_goals first | exact ⟨by omega, fun _ => by omega⟩ | (refine ⟨by omega, fun q => ?_⟩; contradiction)
theorem own_sA1 (ai fl : Int32) : v_sA ai fl 1 = 0 := by
  show upA (fun _ => (0 : Int32)) 0 (v_s0 ai fl) 1 = 0
  rw [upA_miss (by decide)]
theorem own_sA2 (ai fl : Int32) : v_sA ai fl 2 = 0 := by
  show upA (fun _ => (0 : Int32)) 0 (v_s0 ai fl) 2 = 0
  rw [upA_miss (by decide)]
theorem own_sA3 (ai fl : Int32) : v_sA ai fl 3 = 0 := by
  show upA (fun _ => (0 : Int32)) 0 (v_s0 ai fl) 3 = 0
  rw [upA_miss (by decide)]
theorem own_sB2 (ai bi fl : Int32) : v_sB ai bi fl 2 = 0 := by
  unfold v_sB
  split
  · show upA (v_sA ai fl) 1 (v_s1 bi fl) 2 = 0
    rw [upA_miss (by decide)]; exact own_sA2 ai fl
  · exact own_sA2 ai fl
theorem own_sB3 (ai bi fl : Int32) : v_sB ai bi fl 3 = 0 := by
  unfold v_sB
  split
  · show upA (v_sA ai fl) 1 (v_s1 bi fl) 3 = 0
    rw [upA_miss (by decide)]; exact own_sA3 ai fl
  · exact own_sA3 ai fl
theorem own_sC3 (ai bi ci fl : Int32) : v_sC ai bi ci fl 3 = 0 := by
  unfold v_sC
  split
  · show upA (v_sB ai bi fl) 2 (v_s2 ci fl) 3 = 0
    rw [upA_miss (by decide)]; exact own_sB3 ai bi fl
  · exact own_sB3 ai bi fl
theorem own_sums (ai bi ci di fl : Int32) : (v_p0 ai fl).toInt = (v_s0 ai fl).toInt ∧ (v_p1 ai bi fl).toInt = (v_s0 ai fl).toInt + (v_s1 bi fl).toInt ∧ (v_p2 ai bi ci fl).toInt = (v_s0 ai fl).toInt + (v_s1 bi fl).toInt + (v_s2 ci fl).toInt ∧ (v_tot ai bi ci di fl).toInt = (v_s0 ai fl).toInt + (v_s1 bi fl).toInt + (v_s2 ci fl).toInt + (v_s3 di fl).toInt := by
  have r0 := rng32 (v_s0 ai fl)
  have r1 := rng32 (v_s1 bi fl)
  have r2 := rng32 (v_s2 ci fl)
  have r3 := rng32 (v_s3 di fl)
  have e0 : (v_p0 ai fl).toInt = (v_s0 ai fl).toInt := c_i2l _
  have a1 := c_ladd (v_p0 ai fl) (v_s1 bi fl).toInt64
  have b1 := rng64 (v_p0 ai fl + (v_s1 bi fl).toInt64)
  rw [c_i2l] at a1
  have e1 : (v_p1 ai bi fl).toInt = (v_p0 ai fl + (v_s1 bi fl).toInt64).toInt := rfl
  have a2 := c_ladd (v_p1 ai bi fl) (v_s2 ci fl).toInt64
  have b2 := rng64 (v_p1 ai bi fl + (v_s2 ci fl).toInt64)
  rw [c_i2l] at a2
  have e2 : (v_p2 ai bi ci fl).toInt = (v_p1 ai bi fl + (v_s2 ci fl).toInt64).toInt := rfl
  have a3 := c_ladd (v_p2 ai bi ci fl) (v_s3 di fl).toInt64
  have b3 := rng64 (v_p2 ai bi ci fl + (v_s3 di fl).toInt64)
  rw [c_i2l] at a3
  have e3 : (v_tot ai bi ci di fl).toInt = (v_p2 ai bi ci fl + (v_s3 di fl).toInt64).toInt := rfl
  omega
theorem own_total (ai bi ci di fl : Int32) : Ftot (v_tD ai bi ci di fl) = v_tot ai bi ci di fl := by
  have s0 := own_fsh ai fl 0 (v_cap fl)
  have s1 := own_fsh bi fl 1 (v_cap fl)
  have s2 := own_fsh ci fl 2 (v_cap fl)
  have s3 := own_fsh di fl 3 (v_cap fl)
  have z0 : 0 ≤ (v_s0 ai fl).toInt := s0.1
  have z1 : 0 ≤ (v_s1 bi fl).toInt ∧ (¬ (1 : Int32) < v_cap fl → (v_s1 bi fl).toInt = 0) := s1
  have z2 : 0 ≤ (v_s2 ci fl).toInt ∧ (¬ (2 : Int32) < v_cap fl → (v_s2 ci fl).toInt = 0) := s2
  have z3 : 0 ≤ (v_s3 di fl).toInt ∧ (¬ (3 : Int32) < v_cap fl → (v_s3 di fl).toInt = 0) := s3
  have r0 := rng32 (v_s0 ai fl)
  have r1 := rng32 (v_s1 bi fl)
  have r2 := rng32 (v_s2 ci fl)
  have r3 := rng32 (v_s3 di fl)
  have tA : (v_tA ai fl).toInt = 0 + (v_s0 ai fl).toInt := Fset_tv 0 _ _ _ z0 rfl 0 (by decide) (by decide) (by decide)
  have tB : (v_tB ai bi fl).toInt = (v_s0 ai fl).toInt + (v_s1 bi fl).toInt := by
    unfold v_tB
    split
    · exact Fset_tv 1 _ _ _ z1.1 (own_sA1 ai fl) _ (by omega) (by omega) (by omega)
    · rename_i q; have := z1.2 q; omega
  have tC : (v_tC ai bi ci fl).toInt = (v_s0 ai fl).toInt + (v_s1 bi fl).toInt + (v_s2 ci fl).toInt := by
    unfold v_tC
    split
    · exact Fset_tv 2 _ _ _ z2.1 (own_sB2 ai bi fl) _ tB (by omega) (by omega)
    · rename_i q; have := z2.2 q; omega
  have tD : (v_tD ai bi ci di fl).toInt = (v_s0 ai fl).toInt + (v_s1 bi fl).toInt + (v_s2 ci fl).toInt + (v_s3 di fl).toInt := by
    unfold v_tD
    split
    · exact Fset_tv 3 _ _ _ z3.1 (own_sC3 ai bi ci fl) _ tC (by omega) (by omega)
    · rename_i q; have := z3.2 q; omega
  show v_tD ai bi ci di fl = _
  rw [← Int64.toInt_inj, tD]
  exact (own_sums ai bi ci di fl).2.2.2.symm
set_option maxHeartbeats 4000000 in
theorem own_node1 (ai bi ci di fl : Int32) (hc : v_cap fl = 1) (z0 : 0 ≤ (v_s0 ai fl).toInt) (z1 : 0 ≤ (v_s1 bi fl).toInt) (z2 : 0 ≤ (v_s2 ci fl).toInt) (z3 : 0 ≤ (v_s3 di fl).toInt) : (v_nD ai bi ci di fl 1).toInt = (v_s0 ai fl).toInt := by
  have r0 := rng32 (v_s0 ai fl)
  have r1 := rng32 (v_s1 bi fl)
  have r2 := rng32 (v_s2 ci fl)
  have r3 := rng32 (v_s3 di fl)
  have a1 : (v_nA ai fl 1).toInt = (v_s0 ai fl).toInt := by
    unfold v_nA
    rw [hc]
    rw [Fset_1 0 _ _ _ _ 1 (by decide) z0 rfl (0) (by decide) (by omega) (by omega)]; omega
  have b1 : (v_nB ai bi fl 1).toInt = (v_s0 ai fl).toInt := by
    unfold v_nB
    rw [hc, if_neg (by decide)]
    exact a1
  have c1 : (v_nC ai bi ci fl 1).toInt = (v_s0 ai fl).toInt := by
    unfold v_nC
    rw [hc, if_neg (by decide)]
    exact b1
  have d1 : (v_nD ai bi ci di fl 1).toInt = (v_s0 ai fl).toInt := by
    unfold v_nD
    rw [hc, if_neg (by decide)]
    exact c1
  exact d1
set_option maxHeartbeats 4000000 in
theorem own_node2 (ai bi ci di fl : Int32) (hc : v_cap fl = 2) (z0 : 0 ≤ (v_s0 ai fl).toInt) (z1 : 0 ≤ (v_s1 bi fl).toInt) (z2 : 0 ≤ (v_s2 ci fl).toInt) (z3 : 0 ≤ (v_s3 di fl).toInt) : (v_nD ai bi ci di fl 1).toInt = (v_s0 ai fl).toInt ∧ (v_nD ai bi ci di fl 2).toInt = (v_s0 ai fl).toInt + (v_s1 bi fl).toInt := by
  have r0 := rng32 (v_s0 ai fl)
  have r1 := rng32 (v_s1 bi fl)
  have r2 := rng32 (v_s2 ci fl)
  have r3 := rng32 (v_s3 di fl)
  have a1 : (v_nA ai fl 1).toInt = (v_s0 ai fl).toInt := by
    unfold v_nA
    rw [hc]
    rw [Fset_1 0 _ _ _ _ 1 (by decide) z0 rfl (0) (by decide) (by omega) (by omega)]; omega
  have a2 : (v_nA ai fl 2).toInt = (v_s0 ai fl).toInt := by
    unfold v_nA
    rw [hc]
    rw [Fset_1 0 _ _ _ _ 2 (by decide) z0 rfl (0) (by decide) (by omega) (by omega)]; omega
  have b1 : (v_nB ai bi fl 1).toInt = (v_s0 ai fl).toInt := by
    unfold v_nB
    rw [hc, if_pos (by decide)]
    rw [Fset_0 1 _ _ _ _ 1 (by decide)]; exact a1
  have b2 : (v_nB ai bi fl 2).toInt = (v_s0 ai fl).toInt + (v_s1 bi fl).toInt := by
    unfold v_nB
    rw [hc, if_pos (by decide)]
    rw [Fset_1 1 _ _ _ _ 2 (by decide) z1 (own_sA1 ai fl) ((v_s0 ai fl).toInt) a2 (by omega) (by omega)]
  have c1 : (v_nC ai bi ci fl 1).toInt = (v_s0 ai fl).toInt := by
    unfold v_nC
    rw [hc, if_neg (by decide)]
    exact b1
  have c2 : (v_nC ai bi ci fl 2).toInt = (v_s0 ai fl).toInt + (v_s1 bi fl).toInt := by
    unfold v_nC
    rw [hc, if_neg (by decide)]
    exact b2
  have d1 : (v_nD ai bi ci di fl 1).toInt = (v_s0 ai fl).toInt := by
    unfold v_nD
    rw [hc, if_neg (by decide)]
    exact c1
  have d2 : (v_nD ai bi ci di fl 2).toInt = (v_s0 ai fl).toInt + (v_s1 bi fl).toInt := by
    unfold v_nD
    rw [hc, if_neg (by decide)]
    exact c2
  exact ⟨d1, d2⟩
set_option maxHeartbeats 4000000 in
theorem own_node3 (ai bi ci di fl : Int32) (hc : v_cap fl = 3) (z0 : 0 ≤ (v_s0 ai fl).toInt) (z1 : 0 ≤ (v_s1 bi fl).toInt) (z2 : 0 ≤ (v_s2 ci fl).toInt) (z3 : 0 ≤ (v_s3 di fl).toInt) : (v_nD ai bi ci di fl 1).toInt = (v_s0 ai fl).toInt ∧ (v_nD ai bi ci di fl 2).toInt = (v_s0 ai fl).toInt + (v_s1 bi fl).toInt ∧ (v_nD ai bi ci di fl 3).toInt = (v_s2 ci fl).toInt := by
  have r0 := rng32 (v_s0 ai fl)
  have r1 := rng32 (v_s1 bi fl)
  have r2 := rng32 (v_s2 ci fl)
  have r3 := rng32 (v_s3 di fl)
  have a1 : (v_nA ai fl 1).toInt = (v_s0 ai fl).toInt := by
    unfold v_nA
    rw [hc]
    rw [Fset_1 0 _ _ _ _ 1 (by decide) z0 rfl (0) (by decide) (by omega) (by omega)]; omega
  have a2 : (v_nA ai fl 2).toInt = (v_s0 ai fl).toInt := by
    unfold v_nA
    rw [hc]
    rw [Fset_1 0 _ _ _ _ 2 (by decide) z0 rfl (0) (by decide) (by omega) (by omega)]; omega
  have a3 : (v_nA ai fl 3).toInt = 0 := by
    unfold v_nA
    rw [hc]
    rw [Fset_0 0 _ _ _ _ 3 (by decide)]; exact (by decide)
  have b1 : (v_nB ai bi fl 1).toInt = (v_s0 ai fl).toInt := by
    unfold v_nB
    rw [hc, if_pos (by decide)]
    rw [Fset_0 1 _ _ _ _ 1 (by decide)]; exact a1
  have b2 : (v_nB ai bi fl 2).toInt = (v_s0 ai fl).toInt + (v_s1 bi fl).toInt := by
    unfold v_nB
    rw [hc, if_pos (by decide)]
    rw [Fset_1 1 _ _ _ _ 2 (by decide) z1 (own_sA1 ai fl) ((v_s0 ai fl).toInt) a2 (by omega) (by omega)]
  have b3 : (v_nB ai bi fl 3).toInt = 0 := by
    unfold v_nB
    rw [hc, if_pos (by decide)]
    rw [Fset_0 1 _ _ _ _ 3 (by decide)]; exact a3
  have c1 : (v_nC ai bi ci fl 1).toInt = (v_s0 ai fl).toInt := by
    unfold v_nC
    rw [hc, if_pos (by decide)]
    rw [Fset_0 2 _ _ _ _ 1 (by decide)]; exact b1
  have c2 : (v_nC ai bi ci fl 2).toInt = (v_s0 ai fl).toInt + (v_s1 bi fl).toInt := by
    unfold v_nC
    rw [hc, if_pos (by decide)]
    rw [Fset_0 2 _ _ _ _ 2 (by decide)]; exact b2
  have c3 : (v_nC ai bi ci fl 3).toInt = (v_s2 ci fl).toInt := by
    unfold v_nC
    rw [hc, if_pos (by decide)]
    rw [Fset_1 2 _ _ _ _ 3 (by decide) z2 (own_sB2 ai bi fl) (0) b3 (by omega) (by omega)]; omega
  have d1 : (v_nD ai bi ci di fl 1).toInt = (v_s0 ai fl).toInt := by
    unfold v_nD
    rw [hc, if_neg (by decide)]
    exact c1
  have d2 : (v_nD ai bi ci di fl 2).toInt = (v_s0 ai fl).toInt + (v_s1 bi fl).toInt := by
    unfold v_nD
    rw [hc, if_neg (by decide)]
    exact c2
  have d3 : (v_nD ai bi ci di fl 3).toInt = (v_s2 ci fl).toInt := by
    unfold v_nD
    rw [hc, if_neg (by decide)]
    exact c3
  exact ⟨d1, d2, d3⟩
set_option maxHeartbeats 4000000 in
theorem own_node4 (ai bi ci di fl : Int32) (hc : v_cap fl = 4) (z0 : 0 ≤ (v_s0 ai fl).toInt) (z1 : 0 ≤ (v_s1 bi fl).toInt) (z2 : 0 ≤ (v_s2 ci fl).toInt) (z3 : 0 ≤ (v_s3 di fl).toInt) : (v_nD ai bi ci di fl 1).toInt = (v_s0 ai fl).toInt ∧ (v_nD ai bi ci di fl 2).toInt = (v_s0 ai fl).toInt + (v_s1 bi fl).toInt ∧ (v_nD ai bi ci di fl 3).toInt = (v_s2 ci fl).toInt ∧ (v_nD ai bi ci di fl 4).toInt = (v_s0 ai fl).toInt + (v_s1 bi fl).toInt + (v_s2 ci fl).toInt + (v_s3 di fl).toInt := by
  have r0 := rng32 (v_s0 ai fl)
  have r1 := rng32 (v_s1 bi fl)
  have r2 := rng32 (v_s2 ci fl)
  have r3 := rng32 (v_s3 di fl)
  have a1 : (v_nA ai fl 1).toInt = (v_s0 ai fl).toInt := by
    unfold v_nA
    rw [hc]
    rw [Fset_1 0 _ _ _ _ 1 (by decide) z0 rfl (0) (by decide) (by omega) (by omega)]; omega
  have a2 : (v_nA ai fl 2).toInt = (v_s0 ai fl).toInt := by
    unfold v_nA
    rw [hc]
    rw [Fset_1 0 _ _ _ _ 2 (by decide) z0 rfl (0) (by decide) (by omega) (by omega)]; omega
  have a3 : (v_nA ai fl 3).toInt = 0 := by
    unfold v_nA
    rw [hc]
    rw [Fset_0 0 _ _ _ _ 3 (by decide)]; exact (by decide)
  have a4 : (v_nA ai fl 4).toInt = (v_s0 ai fl).toInt := by
    unfold v_nA
    rw [hc]
    rw [Fset_1 0 _ _ _ _ 4 (by decide) z0 rfl (0) (by decide) (by omega) (by omega)]; omega
  have b1 : (v_nB ai bi fl 1).toInt = (v_s0 ai fl).toInt := by
    unfold v_nB
    rw [hc, if_pos (by decide)]
    rw [Fset_0 1 _ _ _ _ 1 (by decide)]; exact a1
  have b2 : (v_nB ai bi fl 2).toInt = (v_s0 ai fl).toInt + (v_s1 bi fl).toInt := by
    unfold v_nB
    rw [hc, if_pos (by decide)]
    rw [Fset_1 1 _ _ _ _ 2 (by decide) z1 (own_sA1 ai fl) ((v_s0 ai fl).toInt) a2 (by omega) (by omega)]
  have b3 : (v_nB ai bi fl 3).toInt = 0 := by
    unfold v_nB
    rw [hc, if_pos (by decide)]
    rw [Fset_0 1 _ _ _ _ 3 (by decide)]; exact a3
  have b4 : (v_nB ai bi fl 4).toInt = (v_s0 ai fl).toInt + (v_s1 bi fl).toInt := by
    unfold v_nB
    rw [hc, if_pos (by decide)]
    rw [Fset_1 1 _ _ _ _ 4 (by decide) z1 (own_sA1 ai fl) ((v_s0 ai fl).toInt) a4 (by omega) (by omega)]
  have c1 : (v_nC ai bi ci fl 1).toInt = (v_s0 ai fl).toInt := by
    unfold v_nC
    rw [hc, if_pos (by decide)]
    rw [Fset_0 2 _ _ _ _ 1 (by decide)]; exact b1
  have c2 : (v_nC ai bi ci fl 2).toInt = (v_s0 ai fl).toInt + (v_s1 bi fl).toInt := by
    unfold v_nC
    rw [hc, if_pos (by decide)]
    rw [Fset_0 2 _ _ _ _ 2 (by decide)]; exact b2
  have c3 : (v_nC ai bi ci fl 3).toInt = (v_s2 ci fl).toInt := by
    unfold v_nC
    rw [hc, if_pos (by decide)]
    rw [Fset_1 2 _ _ _ _ 3 (by decide) z2 (own_sB2 ai bi fl) (0) b3 (by omega) (by omega)]; omega
  have c4 : (v_nC ai bi ci fl 4).toInt = (v_s0 ai fl).toInt + (v_s1 bi fl).toInt + (v_s2 ci fl).toInt := by
    unfold v_nC
    rw [hc, if_pos (by decide)]
    rw [Fset_1 2 _ _ _ _ 4 (by decide) z2 (own_sB2 ai bi fl) ((v_s0 ai fl).toInt + (v_s1 bi fl).toInt) b4 (by omega) (by omega)]
  have d1 : (v_nD ai bi ci di fl 1).toInt = (v_s0 ai fl).toInt := by
    unfold v_nD
    rw [hc, if_pos (by decide)]
    rw [Fset_0 3 _ _ _ _ 1 (by decide)]; exact c1
  have d2 : (v_nD ai bi ci di fl 2).toInt = (v_s0 ai fl).toInt + (v_s1 bi fl).toInt := by
    unfold v_nD
    rw [hc, if_pos (by decide)]
    rw [Fset_0 3 _ _ _ _ 2 (by decide)]; exact c2
  have d3 : (v_nD ai bi ci di fl 3).toInt = (v_s2 ci fl).toInt := by
    unfold v_nD
    rw [hc, if_pos (by decide)]
    rw [Fset_0 3 _ _ _ _ 3 (by decide)]; exact c3
  have d4 : (v_nD ai bi ci di fl 4).toInt = (v_s0 ai fl).toInt + (v_s1 bi fl).toInt + (v_s2 ci fl).toInt + (v_s3 di fl).toInt := by
    unfold v_nD
    rw [hc, if_pos (by decide)]
    rw [Fset_1 3 _ _ _ _ 4 (by decide) z3 (own_sC3 ai bi ci fl) ((v_s0 ai fl).toInt + (v_s1 bi fl).toInt + (v_s2 ci fl).toInt) c4 (by omega) (by omega)]
  exact ⟨d1, d2, d3, d4⟩
set_option maxHeartbeats 4000000 in
theorem own_node5 (ai bi ci di fl : Int32) (hc : v_cap fl = 5) (z0 : 0 ≤ (v_s0 ai fl).toInt) (z1 : 0 ≤ (v_s1 bi fl).toInt) (z2 : 0 ≤ (v_s2 ci fl).toInt) (z3 : 0 ≤ (v_s3 di fl).toInt) : (v_nD ai bi ci di fl 1).toInt = (v_s0 ai fl).toInt ∧ (v_nD ai bi ci di fl 2).toInt = (v_s0 ai fl).toInt + (v_s1 bi fl).toInt ∧ (v_nD ai bi ci di fl 3).toInt = (v_s2 ci fl).toInt ∧ (v_nD ai bi ci di fl 4).toInt = (v_s0 ai fl).toInt + (v_s1 bi fl).toInt + (v_s2 ci fl).toInt + (v_s3 di fl).toInt ∧ (v_nD ai bi ci di fl 5).toInt = 0 := by
  have r0 := rng32 (v_s0 ai fl)
  have r1 := rng32 (v_s1 bi fl)
  have r2 := rng32 (v_s2 ci fl)
  have r3 := rng32 (v_s3 di fl)
  have a1 : (v_nA ai fl 1).toInt = (v_s0 ai fl).toInt := by
    unfold v_nA
    rw [hc]
    rw [Fset_1 0 _ _ _ _ 1 (by decide) z0 rfl (0) (by decide) (by omega) (by omega)]; omega
  have a2 : (v_nA ai fl 2).toInt = (v_s0 ai fl).toInt := by
    unfold v_nA
    rw [hc]
    rw [Fset_1 0 _ _ _ _ 2 (by decide) z0 rfl (0) (by decide) (by omega) (by omega)]; omega
  have a3 : (v_nA ai fl 3).toInt = 0 := by
    unfold v_nA
    rw [hc]
    rw [Fset_0 0 _ _ _ _ 3 (by decide)]; exact (by decide)
  have a4 : (v_nA ai fl 4).toInt = (v_s0 ai fl).toInt := by
    unfold v_nA
    rw [hc]
    rw [Fset_1 0 _ _ _ _ 4 (by decide) z0 rfl (0) (by decide) (by omega) (by omega)]; omega
  have a5 : (v_nA ai fl 5).toInt = 0 := by
    unfold v_nA
    rw [hc]
    rw [Fset_0 0 _ _ _ _ 5 (by decide)]; exact (by decide)
  have b1 : (v_nB ai bi fl 1).toInt = (v_s0 ai fl).toInt := by
    unfold v_nB
    rw [hc, if_pos (by decide)]
    rw [Fset_0 1 _ _ _ _ 1 (by decide)]; exact a1
  have b2 : (v_nB ai bi fl 2).toInt = (v_s0 ai fl).toInt + (v_s1 bi fl).toInt := by
    unfold v_nB
    rw [hc, if_pos (by decide)]
    rw [Fset_1 1 _ _ _ _ 2 (by decide) z1 (own_sA1 ai fl) ((v_s0 ai fl).toInt) a2 (by omega) (by omega)]
  have b3 : (v_nB ai bi fl 3).toInt = 0 := by
    unfold v_nB
    rw [hc, if_pos (by decide)]
    rw [Fset_0 1 _ _ _ _ 3 (by decide)]; exact a3
  have b4 : (v_nB ai bi fl 4).toInt = (v_s0 ai fl).toInt + (v_s1 bi fl).toInt := by
    unfold v_nB
    rw [hc, if_pos (by decide)]
    rw [Fset_1 1 _ _ _ _ 4 (by decide) z1 (own_sA1 ai fl) ((v_s0 ai fl).toInt) a4 (by omega) (by omega)]
  have b5 : (v_nB ai bi fl 5).toInt = 0 := by
    unfold v_nB
    rw [hc, if_pos (by decide)]
    rw [Fset_0 1 _ _ _ _ 5 (by decide)]; exact a5
  have c1 : (v_nC ai bi ci fl 1).toInt = (v_s0 ai fl).toInt := by
    unfold v_nC
    rw [hc, if_pos (by decide)]
    rw [Fset_0 2 _ _ _ _ 1 (by decide)]; exact b1
  have c2 : (v_nC ai bi ci fl 2).toInt = (v_s0 ai fl).toInt + (v_s1 bi fl).toInt := by
    unfold v_nC
    rw [hc, if_pos (by decide)]
    rw [Fset_0 2 _ _ _ _ 2 (by decide)]; exact b2
  have c3 : (v_nC ai bi ci fl 3).toInt = (v_s2 ci fl).toInt := by
    unfold v_nC
    rw [hc, if_pos (by decide)]
    rw [Fset_1 2 _ _ _ _ 3 (by decide) z2 (own_sB2 ai bi fl) (0) b3 (by omega) (by omega)]; omega
  have c4 : (v_nC ai bi ci fl 4).toInt = (v_s0 ai fl).toInt + (v_s1 bi fl).toInt + (v_s2 ci fl).toInt := by
    unfold v_nC
    rw [hc, if_pos (by decide)]
    rw [Fset_1 2 _ _ _ _ 4 (by decide) z2 (own_sB2 ai bi fl) ((v_s0 ai fl).toInt + (v_s1 bi fl).toInt) b4 (by omega) (by omega)]
  have c5 : (v_nC ai bi ci fl 5).toInt = 0 := by
    unfold v_nC
    rw [hc, if_pos (by decide)]
    rw [Fset_0 2 _ _ _ _ 5 (by decide)]; exact b5
  have d1 : (v_nD ai bi ci di fl 1).toInt = (v_s0 ai fl).toInt := by
    unfold v_nD
    rw [hc, if_pos (by decide)]
    rw [Fset_0 3 _ _ _ _ 1 (by decide)]; exact c1
  have d2 : (v_nD ai bi ci di fl 2).toInt = (v_s0 ai fl).toInt + (v_s1 bi fl).toInt := by
    unfold v_nD
    rw [hc, if_pos (by decide)]
    rw [Fset_0 3 _ _ _ _ 2 (by decide)]; exact c2
  have d3 : (v_nD ai bi ci di fl 3).toInt = (v_s2 ci fl).toInt := by
    unfold v_nD
    rw [hc, if_pos (by decide)]
    rw [Fset_0 3 _ _ _ _ 3 (by decide)]; exact c3
  have d4 : (v_nD ai bi ci di fl 4).toInt = (v_s0 ai fl).toInt + (v_s1 bi fl).toInt + (v_s2 ci fl).toInt + (v_s3 di fl).toInt := by
    unfold v_nD
    rw [hc, if_pos (by decide)]
    rw [Fset_1 3 _ _ _ _ 4 (by decide) z3 (own_sC3 ai bi ci fl) ((v_s0 ai fl).toInt + (v_s1 bi fl).toInt + (v_s2 ci fl).toInt) c4 (by omega) (by omega)]
  have d5 : (v_nD ai bi ci di fl 5).toInt = 0 := by
    unfold v_nD
    rw [hc, if_pos (by decide)]
    rw [Fset_0 3 _ _ _ _ 5 (by decide)]; exact c5
  exact ⟨d1, d2, d3, d4, d5⟩
set_option maxHeartbeats 4000000 in
theorem own_node6 (ai bi ci di fl : Int32) (hc : v_cap fl = 6) (z0 : 0 ≤ (v_s0 ai fl).toInt) (z1 : 0 ≤ (v_s1 bi fl).toInt) (z2 : 0 ≤ (v_s2 ci fl).toInt) (z3 : 0 ≤ (v_s3 di fl).toInt) : (v_nD ai bi ci di fl 1).toInt = (v_s0 ai fl).toInt ∧ (v_nD ai bi ci di fl 2).toInt = (v_s0 ai fl).toInt + (v_s1 bi fl).toInt ∧ (v_nD ai bi ci di fl 3).toInt = (v_s2 ci fl).toInt ∧ (v_nD ai bi ci di fl 4).toInt = (v_s0 ai fl).toInt + (v_s1 bi fl).toInt + (v_s2 ci fl).toInt + (v_s3 di fl).toInt ∧ (v_nD ai bi ci di fl 5).toInt = 0 ∧ (v_nD ai bi ci di fl 6).toInt = 0 := by
  have r0 := rng32 (v_s0 ai fl)
  have r1 := rng32 (v_s1 bi fl)
  have r2 := rng32 (v_s2 ci fl)
  have r3 := rng32 (v_s3 di fl)
  have a1 : (v_nA ai fl 1).toInt = (v_s0 ai fl).toInt := by
    unfold v_nA
    rw [hc]
    rw [Fset_1 0 _ _ _ _ 1 (by decide) z0 rfl (0) (by decide) (by omega) (by omega)]; omega
  have a2 : (v_nA ai fl 2).toInt = (v_s0 ai fl).toInt := by
    unfold v_nA
    rw [hc]
    rw [Fset_1 0 _ _ _ _ 2 (by decide) z0 rfl (0) (by decide) (by omega) (by omega)]; omega
  have a3 : (v_nA ai fl 3).toInt = 0 := by
    unfold v_nA
    rw [hc]
    rw [Fset_0 0 _ _ _ _ 3 (by decide)]; exact (by decide)
  have a4 : (v_nA ai fl 4).toInt = (v_s0 ai fl).toInt := by
    unfold v_nA
    rw [hc]
    rw [Fset_1 0 _ _ _ _ 4 (by decide) z0 rfl (0) (by decide) (by omega) (by omega)]; omega
  have a5 : (v_nA ai fl 5).toInt = 0 := by
    unfold v_nA
    rw [hc]
    rw [Fset_0 0 _ _ _ _ 5 (by decide)]; exact (by decide)
  have a6 : (v_nA ai fl 6).toInt = 0 := by
    unfold v_nA
    rw [hc]
    rw [Fset_0 0 _ _ _ _ 6 (by decide)]; exact (by decide)
  have b1 : (v_nB ai bi fl 1).toInt = (v_s0 ai fl).toInt := by
    unfold v_nB
    rw [hc, if_pos (by decide)]
    rw [Fset_0 1 _ _ _ _ 1 (by decide)]; exact a1
  have b2 : (v_nB ai bi fl 2).toInt = (v_s0 ai fl).toInt + (v_s1 bi fl).toInt := by
    unfold v_nB
    rw [hc, if_pos (by decide)]
    rw [Fset_1 1 _ _ _ _ 2 (by decide) z1 (own_sA1 ai fl) ((v_s0 ai fl).toInt) a2 (by omega) (by omega)]
  have b3 : (v_nB ai bi fl 3).toInt = 0 := by
    unfold v_nB
    rw [hc, if_pos (by decide)]
    rw [Fset_0 1 _ _ _ _ 3 (by decide)]; exact a3
  have b4 : (v_nB ai bi fl 4).toInt = (v_s0 ai fl).toInt + (v_s1 bi fl).toInt := by
    unfold v_nB
    rw [hc, if_pos (by decide)]
    rw [Fset_1 1 _ _ _ _ 4 (by decide) z1 (own_sA1 ai fl) ((v_s0 ai fl).toInt) a4 (by omega) (by omega)]
  have b5 : (v_nB ai bi fl 5).toInt = 0 := by
    unfold v_nB
    rw [hc, if_pos (by decide)]
    rw [Fset_0 1 _ _ _ _ 5 (by decide)]; exact a5
  have b6 : (v_nB ai bi fl 6).toInt = 0 := by
    unfold v_nB
    rw [hc, if_pos (by decide)]
    rw [Fset_0 1 _ _ _ _ 6 (by decide)]; exact a6
  have c1 : (v_nC ai bi ci fl 1).toInt = (v_s0 ai fl).toInt := by
    unfold v_nC
    rw [hc, if_pos (by decide)]
    rw [Fset_0 2 _ _ _ _ 1 (by decide)]; exact b1
  have c2 : (v_nC ai bi ci fl 2).toInt = (v_s0 ai fl).toInt + (v_s1 bi fl).toInt := by
    unfold v_nC
    rw [hc, if_pos (by decide)]
    rw [Fset_0 2 _ _ _ _ 2 (by decide)]; exact b2
  have c3 : (v_nC ai bi ci fl 3).toInt = (v_s2 ci fl).toInt := by
    unfold v_nC
    rw [hc, if_pos (by decide)]
    rw [Fset_1 2 _ _ _ _ 3 (by decide) z2 (own_sB2 ai bi fl) (0) b3 (by omega) (by omega)]; omega
  have c4 : (v_nC ai bi ci fl 4).toInt = (v_s0 ai fl).toInt + (v_s1 bi fl).toInt + (v_s2 ci fl).toInt := by
    unfold v_nC
    rw [hc, if_pos (by decide)]
    rw [Fset_1 2 _ _ _ _ 4 (by decide) z2 (own_sB2 ai bi fl) ((v_s0 ai fl).toInt + (v_s1 bi fl).toInt) b4 (by omega) (by omega)]
  have c5 : (v_nC ai bi ci fl 5).toInt = 0 := by
    unfold v_nC
    rw [hc, if_pos (by decide)]
    rw [Fset_0 2 _ _ _ _ 5 (by decide)]; exact b5
  have c6 : (v_nC ai bi ci fl 6).toInt = 0 := by
    unfold v_nC
    rw [hc, if_pos (by decide)]
    rw [Fset_0 2 _ _ _ _ 6 (by decide)]; exact b6
  have d1 : (v_nD ai bi ci di fl 1).toInt = (v_s0 ai fl).toInt := by
    unfold v_nD
    rw [hc, if_pos (by decide)]
    rw [Fset_0 3 _ _ _ _ 1 (by decide)]; exact c1
  have d2 : (v_nD ai bi ci di fl 2).toInt = (v_s0 ai fl).toInt + (v_s1 bi fl).toInt := by
    unfold v_nD
    rw [hc, if_pos (by decide)]
    rw [Fset_0 3 _ _ _ _ 2 (by decide)]; exact c2
  have d3 : (v_nD ai bi ci di fl 3).toInt = (v_s2 ci fl).toInt := by
    unfold v_nD
    rw [hc, if_pos (by decide)]
    rw [Fset_0 3 _ _ _ _ 3 (by decide)]; exact c3
  have d4 : (v_nD ai bi ci di fl 4).toInt = (v_s0 ai fl).toInt + (v_s1 bi fl).toInt + (v_s2 ci fl).toInt + (v_s3 di fl).toInt := by
    unfold v_nD
    rw [hc, if_pos (by decide)]
    rw [Fset_1 3 _ _ _ _ 4 (by decide) z3 (own_sC3 ai bi ci fl) ((v_s0 ai fl).toInt + (v_s1 bi fl).toInt + (v_s2 ci fl).toInt) c4 (by omega) (by omega)]
  have d5 : (v_nD ai bi ci di fl 5).toInt = 0 := by
    unfold v_nD
    rw [hc, if_pos (by decide)]
    rw [Fset_0 3 _ _ _ _ 5 (by decide)]; exact c5
  have d6 : (v_nD ai bi ci di fl 6).toInt = 0 := by
    unfold v_nD
    rw [hc, if_pos (by decide)]
    rw [Fset_0 3 _ _ _ _ 6 (by decide)]; exact c6
  exact ⟨d1, d2, d3, d4, d5, d6⟩
set_option maxHeartbeats 4000000 in
theorem own_node7 (ai bi ci di fl : Int32) (hc : v_cap fl = 7) (z0 : 0 ≤ (v_s0 ai fl).toInt) (z1 : 0 ≤ (v_s1 bi fl).toInt) (z2 : 0 ≤ (v_s2 ci fl).toInt) (z3 : 0 ≤ (v_s3 di fl).toInt) : (v_nD ai bi ci di fl 1).toInt = (v_s0 ai fl).toInt ∧ (v_nD ai bi ci di fl 2).toInt = (v_s0 ai fl).toInt + (v_s1 bi fl).toInt ∧ (v_nD ai bi ci di fl 3).toInt = (v_s2 ci fl).toInt ∧ (v_nD ai bi ci di fl 4).toInt = (v_s0 ai fl).toInt + (v_s1 bi fl).toInt + (v_s2 ci fl).toInt + (v_s3 di fl).toInt ∧ (v_nD ai bi ci di fl 5).toInt = 0 ∧ (v_nD ai bi ci di fl 6).toInt = 0 ∧ (v_nD ai bi ci di fl 7).toInt = 0 := by
  have r0 := rng32 (v_s0 ai fl)
  have r1 := rng32 (v_s1 bi fl)
  have r2 := rng32 (v_s2 ci fl)
  have r3 := rng32 (v_s3 di fl)
  have a1 : (v_nA ai fl 1).toInt = (v_s0 ai fl).toInt := by
    unfold v_nA
    rw [hc]
    rw [Fset_1 0 _ _ _ _ 1 (by decide) z0 rfl (0) (by decide) (by omega) (by omega)]; omega
  have a2 : (v_nA ai fl 2).toInt = (v_s0 ai fl).toInt := by
    unfold v_nA
    rw [hc]
    rw [Fset_1 0 _ _ _ _ 2 (by decide) z0 rfl (0) (by decide) (by omega) (by omega)]; omega
  have a3 : (v_nA ai fl 3).toInt = 0 := by
    unfold v_nA
    rw [hc]
    rw [Fset_0 0 _ _ _ _ 3 (by decide)]; exact (by decide)
  have a4 : (v_nA ai fl 4).toInt = (v_s0 ai fl).toInt := by
    unfold v_nA
    rw [hc]
    rw [Fset_1 0 _ _ _ _ 4 (by decide) z0 rfl (0) (by decide) (by omega) (by omega)]; omega
  have a5 : (v_nA ai fl 5).toInt = 0 := by
    unfold v_nA
    rw [hc]
    rw [Fset_0 0 _ _ _ _ 5 (by decide)]; exact (by decide)
  have a6 : (v_nA ai fl 6).toInt = 0 := by
    unfold v_nA
    rw [hc]
    rw [Fset_0 0 _ _ _ _ 6 (by decide)]; exact (by decide)
  have a7 : (v_nA ai fl 7).toInt = 0 := by
    unfold v_nA
    rw [hc]
    rw [Fset_0 0 _ _ _ _ 7 (by decide)]; exact (by decide)
  have b1 : (v_nB ai bi fl 1).toInt = (v_s0 ai fl).toInt := by
    unfold v_nB
    rw [hc, if_pos (by decide)]
    rw [Fset_0 1 _ _ _ _ 1 (by decide)]; exact a1
  have b2 : (v_nB ai bi fl 2).toInt = (v_s0 ai fl).toInt + (v_s1 bi fl).toInt := by
    unfold v_nB
    rw [hc, if_pos (by decide)]
    rw [Fset_1 1 _ _ _ _ 2 (by decide) z1 (own_sA1 ai fl) ((v_s0 ai fl).toInt) a2 (by omega) (by omega)]
  have b3 : (v_nB ai bi fl 3).toInt = 0 := by
    unfold v_nB
    rw [hc, if_pos (by decide)]
    rw [Fset_0 1 _ _ _ _ 3 (by decide)]; exact a3
  have b4 : (v_nB ai bi fl 4).toInt = (v_s0 ai fl).toInt + (v_s1 bi fl).toInt := by
    unfold v_nB
    rw [hc, if_pos (by decide)]
    rw [Fset_1 1 _ _ _ _ 4 (by decide) z1 (own_sA1 ai fl) ((v_s0 ai fl).toInt) a4 (by omega) (by omega)]
  have b5 : (v_nB ai bi fl 5).toInt = 0 := by
    unfold v_nB
    rw [hc, if_pos (by decide)]
    rw [Fset_0 1 _ _ _ _ 5 (by decide)]; exact a5
  have b6 : (v_nB ai bi fl 6).toInt = 0 := by
    unfold v_nB
    rw [hc, if_pos (by decide)]
    rw [Fset_0 1 _ _ _ _ 6 (by decide)]; exact a6
  have b7 : (v_nB ai bi fl 7).toInt = 0 := by
    unfold v_nB
    rw [hc, if_pos (by decide)]
    rw [Fset_0 1 _ _ _ _ 7 (by decide)]; exact a7
  have c1 : (v_nC ai bi ci fl 1).toInt = (v_s0 ai fl).toInt := by
    unfold v_nC
    rw [hc, if_pos (by decide)]
    rw [Fset_0 2 _ _ _ _ 1 (by decide)]; exact b1
  have c2 : (v_nC ai bi ci fl 2).toInt = (v_s0 ai fl).toInt + (v_s1 bi fl).toInt := by
    unfold v_nC
    rw [hc, if_pos (by decide)]
    rw [Fset_0 2 _ _ _ _ 2 (by decide)]; exact b2
  have c3 : (v_nC ai bi ci fl 3).toInt = (v_s2 ci fl).toInt := by
    unfold v_nC
    rw [hc, if_pos (by decide)]
    rw [Fset_1 2 _ _ _ _ 3 (by decide) z2 (own_sB2 ai bi fl) (0) b3 (by omega) (by omega)]; omega
  have c4 : (v_nC ai bi ci fl 4).toInt = (v_s0 ai fl).toInt + (v_s1 bi fl).toInt + (v_s2 ci fl).toInt := by
    unfold v_nC
    rw [hc, if_pos (by decide)]
    rw [Fset_1 2 _ _ _ _ 4 (by decide) z2 (own_sB2 ai bi fl) ((v_s0 ai fl).toInt + (v_s1 bi fl).toInt) b4 (by omega) (by omega)]
  have c5 : (v_nC ai bi ci fl 5).toInt = 0 := by
    unfold v_nC
    rw [hc, if_pos (by decide)]
    rw [Fset_0 2 _ _ _ _ 5 (by decide)]; exact b5
  have c6 : (v_nC ai bi ci fl 6).toInt = 0 := by
    unfold v_nC
    rw [hc, if_pos (by decide)]
    rw [Fset_0 2 _ _ _ _ 6 (by decide)]; exact b6
  have c7 : (v_nC ai bi ci fl 7).toInt = 0 := by
    unfold v_nC
    rw [hc, if_pos (by decide)]
    rw [Fset_0 2 _ _ _ _ 7 (by decide)]; exact b7
  have d1 : (v_nD ai bi ci di fl 1).toInt = (v_s0 ai fl).toInt := by
    unfold v_nD
    rw [hc, if_pos (by decide)]
    rw [Fset_0 3 _ _ _ _ 1 (by decide)]; exact c1
  have d2 : (v_nD ai bi ci di fl 2).toInt = (v_s0 ai fl).toInt + (v_s1 bi fl).toInt := by
    unfold v_nD
    rw [hc, if_pos (by decide)]
    rw [Fset_0 3 _ _ _ _ 2 (by decide)]; exact c2
  have d3 : (v_nD ai bi ci di fl 3).toInt = (v_s2 ci fl).toInt := by
    unfold v_nD
    rw [hc, if_pos (by decide)]
    rw [Fset_0 3 _ _ _ _ 3 (by decide)]; exact c3
  have d4 : (v_nD ai bi ci di fl 4).toInt = (v_s0 ai fl).toInt + (v_s1 bi fl).toInt + (v_s2 ci fl).toInt + (v_s3 di fl).toInt := by
    unfold v_nD
    rw [hc, if_pos (by decide)]
    rw [Fset_1 3 _ _ _ _ 4 (by decide) z3 (own_sC3 ai bi ci fl) ((v_s0 ai fl).toInt + (v_s1 bi fl).toInt + (v_s2 ci fl).toInt) c4 (by omega) (by omega)]
  have d5 : (v_nD ai bi ci di fl 5).toInt = 0 := by
    unfold v_nD
    rw [hc, if_pos (by decide)]
    rw [Fset_0 3 _ _ _ _ 5 (by decide)]; exact c5
  have d6 : (v_nD ai bi ci di fl 6).toInt = 0 := by
    unfold v_nD
    rw [hc, if_pos (by decide)]
    rw [Fset_0 3 _ _ _ _ 6 (by decide)]; exact c6
  have d7 : (v_nD ai bi ci di fl 7).toInt = 0 := by
    unfold v_nD
    rw [hc, if_pos (by decide)]
    rw [Fset_0 3 _ _ _ _ 7 (by decide)]; exact c7
  exact ⟨d1, d2, d3, d4, d5, d6, d7⟩
set_option maxHeartbeats 4000000 in
theorem own_node8 (ai bi ci di fl : Int32) (hc : v_cap fl = 8) (z0 : 0 ≤ (v_s0 ai fl).toInt) (z1 : 0 ≤ (v_s1 bi fl).toInt) (z2 : 0 ≤ (v_s2 ci fl).toInt) (z3 : 0 ≤ (v_s3 di fl).toInt) : (v_nD ai bi ci di fl 1).toInt = (v_s0 ai fl).toInt ∧ (v_nD ai bi ci di fl 2).toInt = (v_s0 ai fl).toInt + (v_s1 bi fl).toInt ∧ (v_nD ai bi ci di fl 3).toInt = (v_s2 ci fl).toInt ∧ (v_nD ai bi ci di fl 4).toInt = (v_s0 ai fl).toInt + (v_s1 bi fl).toInt + (v_s2 ci fl).toInt + (v_s3 di fl).toInt ∧ (v_nD ai bi ci di fl 5).toInt = 0 ∧ (v_nD ai bi ci di fl 6).toInt = 0 ∧ (v_nD ai bi ci di fl 7).toInt = 0 ∧ (v_nD ai bi ci di fl 8).toInt = (v_s0 ai fl).toInt + (v_s1 bi fl).toInt + (v_s2 ci fl).toInt + (v_s3 di fl).toInt := by
  have r0 := rng32 (v_s0 ai fl)
  have r1 := rng32 (v_s1 bi fl)
  have r2 := rng32 (v_s2 ci fl)
  have r3 := rng32 (v_s3 di fl)
  have a1 : (v_nA ai fl 1).toInt = (v_s0 ai fl).toInt := by
    unfold v_nA
    rw [hc]
    rw [Fset_1 0 _ _ _ _ 1 (by decide) z0 rfl (0) (by decide) (by omega) (by omega)]; omega
  have a2 : (v_nA ai fl 2).toInt = (v_s0 ai fl).toInt := by
    unfold v_nA
    rw [hc]
    rw [Fset_1 0 _ _ _ _ 2 (by decide) z0 rfl (0) (by decide) (by omega) (by omega)]; omega
  have a3 : (v_nA ai fl 3).toInt = 0 := by
    unfold v_nA
    rw [hc]
    rw [Fset_0 0 _ _ _ _ 3 (by decide)]; exact (by decide)
  have a4 : (v_nA ai fl 4).toInt = (v_s0 ai fl).toInt := by
    unfold v_nA
    rw [hc]
    rw [Fset_1 0 _ _ _ _ 4 (by decide) z0 rfl (0) (by decide) (by omega) (by omega)]; omega
  have a5 : (v_nA ai fl 5).toInt = 0 := by
    unfold v_nA
    rw [hc]
    rw [Fset_0 0 _ _ _ _ 5 (by decide)]; exact (by decide)
  have a6 : (v_nA ai fl 6).toInt = 0 := by
    unfold v_nA
    rw [hc]
    rw [Fset_0 0 _ _ _ _ 6 (by decide)]; exact (by decide)
  have a7 : (v_nA ai fl 7).toInt = 0 := by
    unfold v_nA
    rw [hc]
    rw [Fset_0 0 _ _ _ _ 7 (by decide)]; exact (by decide)
  have a8 : (v_nA ai fl 8).toInt = (v_s0 ai fl).toInt := by
    unfold v_nA
    rw [hc]
    rw [Fset_1 0 _ _ _ _ 8 (by decide) z0 rfl (0) (by decide) (by omega) (by omega)]; omega
  have b1 : (v_nB ai bi fl 1).toInt = (v_s0 ai fl).toInt := by
    unfold v_nB
    rw [hc, if_pos (by decide)]
    rw [Fset_0 1 _ _ _ _ 1 (by decide)]; exact a1
  have b2 : (v_nB ai bi fl 2).toInt = (v_s0 ai fl).toInt + (v_s1 bi fl).toInt := by
    unfold v_nB
    rw [hc, if_pos (by decide)]
    rw [Fset_1 1 _ _ _ _ 2 (by decide) z1 (own_sA1 ai fl) ((v_s0 ai fl).toInt) a2 (by omega) (by omega)]
  have b3 : (v_nB ai bi fl 3).toInt = 0 := by
    unfold v_nB
    rw [hc, if_pos (by decide)]
    rw [Fset_0 1 _ _ _ _ 3 (by decide)]; exact a3
  have b4 : (v_nB ai bi fl 4).toInt = (v_s0 ai fl).toInt + (v_s1 bi fl).toInt := by
    unfold v_nB
    rw [hc, if_pos (by decide)]
    rw [Fset_1 1 _ _ _ _ 4 (by decide) z1 (own_sA1 ai fl) ((v_s0 ai fl).toInt) a4 (by omega) (by omega)]
  have b5 : (v_nB ai bi fl 5).toInt = 0 := by
    unfold v_nB
    rw [hc, if_pos (by decide)]
    rw [Fset_0 1 _ _ _ _ 5 (by decide)]; exact a5
  have b6 : (v_nB ai bi fl 6).toInt = 0 := by
    unfold v_nB
    rw [hc, if_pos (by decide)]
    rw [Fset_0 1 _ _ _ _ 6 (by decide)]; exact a6
  have b7 : (v_nB ai bi fl 7).toInt = 0 := by
    unfold v_nB
    rw [hc, if_pos (by decide)]
    rw [Fset_0 1 _ _ _ _ 7 (by decide)]; exact a7
  have b8 : (v_nB ai bi fl 8).toInt = (v_s0 ai fl).toInt + (v_s1 bi fl).toInt := by
    unfold v_nB
    rw [hc, if_pos (by decide)]
    rw [Fset_1 1 _ _ _ _ 8 (by decide) z1 (own_sA1 ai fl) ((v_s0 ai fl).toInt) a8 (by omega) (by omega)]
  have c1 : (v_nC ai bi ci fl 1).toInt = (v_s0 ai fl).toInt := by
    unfold v_nC
    rw [hc, if_pos (by decide)]
    rw [Fset_0 2 _ _ _ _ 1 (by decide)]; exact b1
  have c2 : (v_nC ai bi ci fl 2).toInt = (v_s0 ai fl).toInt + (v_s1 bi fl).toInt := by
    unfold v_nC
    rw [hc, if_pos (by decide)]
    rw [Fset_0 2 _ _ _ _ 2 (by decide)]; exact b2
  have c3 : (v_nC ai bi ci fl 3).toInt = (v_s2 ci fl).toInt := by
    unfold v_nC
    rw [hc, if_pos (by decide)]
    rw [Fset_1 2 _ _ _ _ 3 (by decide) z2 (own_sB2 ai bi fl) (0) b3 (by omega) (by omega)]; omega
  have c4 : (v_nC ai bi ci fl 4).toInt = (v_s0 ai fl).toInt + (v_s1 bi fl).toInt + (v_s2 ci fl).toInt := by
    unfold v_nC
    rw [hc, if_pos (by decide)]
    rw [Fset_1 2 _ _ _ _ 4 (by decide) z2 (own_sB2 ai bi fl) ((v_s0 ai fl).toInt + (v_s1 bi fl).toInt) b4 (by omega) (by omega)]
  have c5 : (v_nC ai bi ci fl 5).toInt = 0 := by
    unfold v_nC
    rw [hc, if_pos (by decide)]
    rw [Fset_0 2 _ _ _ _ 5 (by decide)]; exact b5
  have c6 : (v_nC ai bi ci fl 6).toInt = 0 := by
    unfold v_nC
    rw [hc, if_pos (by decide)]
    rw [Fset_0 2 _ _ _ _ 6 (by decide)]; exact b6
  have c7 : (v_nC ai bi ci fl 7).toInt = 0 := by
    unfold v_nC
    rw [hc, if_pos (by decide)]
    rw [Fset_0 2 _ _ _ _ 7 (by decide)]; exact b7
  have c8 : (v_nC ai bi ci fl 8).toInt = (v_s0 ai fl).toInt + (v_s1 bi fl).toInt + (v_s2 ci fl).toInt := by
    unfold v_nC
    rw [hc, if_pos (by decide)]
    rw [Fset_1 2 _ _ _ _ 8 (by decide) z2 (own_sB2 ai bi fl) ((v_s0 ai fl).toInt + (v_s1 bi fl).toInt) b8 (by omega) (by omega)]
  have d1 : (v_nD ai bi ci di fl 1).toInt = (v_s0 ai fl).toInt := by
    unfold v_nD
    rw [hc, if_pos (by decide)]
    rw [Fset_0 3 _ _ _ _ 1 (by decide)]; exact c1
  have d2 : (v_nD ai bi ci di fl 2).toInt = (v_s0 ai fl).toInt + (v_s1 bi fl).toInt := by
    unfold v_nD
    rw [hc, if_pos (by decide)]
    rw [Fset_0 3 _ _ _ _ 2 (by decide)]; exact c2
  have d3 : (v_nD ai bi ci di fl 3).toInt = (v_s2 ci fl).toInt := by
    unfold v_nD
    rw [hc, if_pos (by decide)]
    rw [Fset_0 3 _ _ _ _ 3 (by decide)]; exact c3
  have d4 : (v_nD ai bi ci di fl 4).toInt = (v_s0 ai fl).toInt + (v_s1 bi fl).toInt + (v_s2 ci fl).toInt + (v_s3 di fl).toInt := by
    unfold v_nD
    rw [hc, if_pos (by decide)]
    rw [Fset_1 3 _ _ _ _ 4 (by decide) z3 (own_sC3 ai bi ci fl) ((v_s0 ai fl).toInt + (v_s1 bi fl).toInt + (v_s2 ci fl).toInt) c4 (by omega) (by omega)]
  have d5 : (v_nD ai bi ci di fl 5).toInt = 0 := by
    unfold v_nD
    rw [hc, if_pos (by decide)]
    rw [Fset_0 3 _ _ _ _ 5 (by decide)]; exact c5
  have d6 : (v_nD ai bi ci di fl 6).toInt = 0 := by
    unfold v_nD
    rw [hc, if_pos (by decide)]
    rw [Fset_0 3 _ _ _ _ 6 (by decide)]; exact c6
  have d7 : (v_nD ai bi ci di fl 7).toInt = 0 := by
    unfold v_nD
    rw [hc, if_pos (by decide)]
    rw [Fset_0 3 _ _ _ _ 7 (by decide)]; exact c7
  have d8 : (v_nD ai bi ci di fl 8).toInt = (v_s0 ai fl).toInt + (v_s1 bi fl).toInt + (v_s2 ci fl).toInt + (v_s3 di fl).toInt := by
    unfold v_nD
    rw [hc, if_pos (by decide)]
    rw [Fset_1 3 _ _ _ _ 8 (by decide) z3 (own_sC3 ai bi ci fl) ((v_s0 ai fl).toInt + (v_s1 bi fl).toInt + (v_s2 ci fl).toInt) c8 (by omega) (by omega)]
  exact ⟨d1, d2, d3, d4, d5, d6, d7, d8⟩
theorem own_pt (ai bi ci di : Int32) (pj : Int64) (fl : Int32) (h : 0 < (v_tot ai bi ci di fl).toInt) : 0 ≤ (v_pt ai bi ci di pj fl).toInt ∧ (v_pt ai bi ci di pj fl).toInt < (v_tot ai bi ci di fl).toInt := by
  have m := c_maskL pj 9223372036854775807 63 (by decide) (by decide)
  have hx : 0 ≤ (pj &&& 9223372036854775807).toInt := by omega
  have e := (c_lrem (pj &&& 9223372036854775807) (v_tot ai bi ci di fl) _ rfl).1 hx
  have e0 := Int.emod_nonneg (pj &&& 9223372036854775807).toInt (Int.ne_of_gt h)
  have e1 := Int.emod_lt_of_pos (pj &&& 9223372036854775807).toInt h
  rw [← e] at e0 e1
  exact ⟨e0, e1⟩
theorem own_exv (ai bi ci di : Int32) (pj : Int64) (fl : Int32) (z0 : 0 ≤ (v_s0 ai fl).toInt) (z1 : 0 ≤ (v_s1 bi fl).toInt) (z2 : 0 ≤ (v_s2 ci fl).toInt) (z3 : 0 ≤ (v_s3 di fl).toInt) (hp : 0 ≤ (v_pt ai bi ci di pj fl).toInt ∧ (v_pt ai bi ci di pj fl).toInt < (v_tot ai bi ci di fl).toInt) :
    (0 ≤ (v_pt ai bi ci di pj fl).toInt ∧ (v_pt ai bi ci di pj fl).toInt < (v_s0 ai fl).toInt ∧ (v_ex ai bi ci di pj fl).toInt = 0) ∨ ((v_s0 ai fl).toInt ≤ (v_pt ai bi ci di pj fl).toInt ∧ (v_pt ai bi ci di pj fl).toInt < (v_s0 ai fl).toInt + (v_s1 bi fl).toInt ∧ (v_ex ai bi ci di pj fl).toInt = 1) ∨ ((v_s0 ai fl).toInt + (v_s1 bi fl).toInt ≤ (v_pt ai bi ci di pj fl).toInt ∧ (v_pt ai bi ci di pj fl).toInt < (v_s0 ai fl).toInt + (v_s1 bi fl).toInt + (v_s2 ci fl).toInt ∧ (v_ex ai bi ci di pj fl).toInt = 2) ∨ ((v_s0 ai fl).toInt + (v_s1 bi fl).toInt + (v_s2 ci fl).toInt ≤ (v_pt ai bi ci di pj fl).toInt ∧ (v_pt ai bi ci di pj fl).toInt < (v_s0 ai fl).toInt + (v_s1 bi fl).toInt + (v_s2 ci fl).toInt + (v_s3 di fl).toInt ∧ (v_ex ai bi ci di pj fl).toInt = 3) := by
  obtain ⟨p0, p1, p2, p3⟩ := own_sums ai bi ci di fl
  have l0 : (0 : Int32).toInt = 0 := by decide
  have l1 : (1 : Int32).toInt = 1 := by decide
  have l2 : (2 : Int32).toInt = 2 := by decide
  have l3 : (3 : Int32).toInt = 3 := by decide
  unfold v_ex
  simp only [Int64.lt_iff_toInt_lt]
  repeat' split
  all_goals omega
theorem own_law1 (ai : Int32) (bi : Int32) (ci : Int32) (di : Int32) (pj : Int64) (fl : Int32) (hcN : ¬ ((v_tot ai bi ci di fl) = (0 : Int64))) : lawE1 ai bi ci di pj fl = true := by
  have s0 := own_fsh ai fl 0 (v_cap fl)
  have s1 := own_fsh bi fl 1 (v_cap fl)
  have s2 := own_fsh ci fl 2 (v_cap fl)
  have s3 := own_fsh di fl 3 (v_cap fl)
  have z0 : 0 ≤ (v_s0 ai fl).toInt := s0.1
  have z1 : 0 ≤ (v_s1 bi fl).toInt ∧ (¬ (1 : Int32) < v_cap fl → (v_s1 bi fl).toInt = 0) := s1
  have z2 : 0 ≤ (v_s2 ci fl).toInt ∧ (¬ (2 : Int32) < v_cap fl → (v_s2 ci fl).toInt = 0) := s2
  have z3 : 0 ≤ (v_s3 di fl).toInt ∧ (¬ (3 : Int32) < v_cap fl → (v_s3 di fl).toInt = 0) := s3
  have r0 := rng32 (v_s0 ai fl)
  have r1 := rng32 (v_s1 bi fl)
  have r2 := rng32 (v_s2 ci fl)
  have r3 := rng32 (v_s3 di fl)
  obtain ⟨p0, p1, p2, p3⟩ := own_sums ai bi ci di fl
  have l0 : (0 : Int64).toInt = 0 := by decide
  rw [← Int64.toInt_inj, l0] at hcN
  have hp := own_pt ai bi ci di pj fl (by omega)
  have hx := own_exv ai bi ci di pj fl z0 z1.1 z2.1 z3.1 hp
  refine if_pos ?_
  rw [← Int32.toInt_inj]
  show (ixS ((v_cap fl) + (1 : Int32)) (v_nD ai bi ci di fl) 5 0 (v_pt ai bi ci di pj fl) (Fhob (v_cap fl))).1.toInt = _
  rcases own_cap8 fl with hc | hc | hc | hc | hc | hc | hc | hc
  · obtain n1 := own_node1 ai bi ci di fl hc z0 z1.1 z2.1 z3.1
    have w1 := z1.2 (by rw [hc]; decide)
    have w2 := z2.2 (by rw [hc]; decide)
    have w3 := z3.2 (by rw [hc]; decide)
    rw [hc, show (1 : Int32) + 1 = 2 from by decide, show Fhob 1 = 1 from by decide +kernel]
    exact own_ixc1 _ _ ⟨z0, by omega⟩ n1 _ _ (by omega)
  · obtain ⟨n1, n2⟩ := own_node2 ai bi ci di fl hc z0 z1.1 z2.1 z3.1
    have w2 := z2.2 (by rw [hc]; decide)
    have w3 := z3.2 (by rw [hc]; decide)
    rw [hc, show (2 : Int32) + 1 = 3 from by decide, show Fhob 2 = 2 from by decide +kernel]
    exact own_ixc2 _ _ _ ⟨z0, by omega⟩ ⟨z1.1, by omega⟩ n1 n2 _ _ (by omega)
  · obtain ⟨n1, n2, n3⟩ := own_node3 ai bi ci di fl hc z0 z1.1 z2.1 z3.1
    have w3 := z3.2 (by rw [hc]; decide)
    rw [hc, show (3 : Int32) + 1 = 4 from by decide, show Fhob 3 = 2 from by decide +kernel]
    exact own_ixc3 _ _ _ _ ⟨z0, by omega⟩ ⟨z1.1, by omega⟩ ⟨z2.1, by omega⟩ n1 n2 n3 _ _ (by omega)
  · obtain ⟨n1, n2, n3, n4⟩ := own_node4 ai bi ci di fl hc z0 z1.1 z2.1 z3.1
    rw [hc, show (4 : Int32) + 1 = 5 from by decide, show Fhob 4 = 4 from by decide +kernel]
    exact own_ixc4 _ _ _ _ _ ⟨z0, by omega⟩ ⟨z1.1, by omega⟩ ⟨z2.1, by omega⟩ ⟨z3.1, by omega⟩ n1 n2 n3 n4 _ _ (by omega)
  · obtain ⟨n1, n2, n3, n4, n5⟩ := own_node5 ai bi ci di fl hc z0 z1.1 z2.1 z3.1
    rw [hc, show (5 : Int32) + 1 = 6 from by decide, show Fhob 5 = 4 from by decide +kernel]
    exact own_ixc5 _ _ _ _ _ ⟨z0, by omega⟩ ⟨z1.1, by omega⟩ ⟨z2.1, by omega⟩ ⟨z3.1, by omega⟩ n1 n2 n3 n4 n5 _ _ (by omega)
  · obtain ⟨n1, n2, n3, n4, n5, n6⟩ := own_node6 ai bi ci di fl hc z0 z1.1 z2.1 z3.1
    rw [hc, show (6 : Int32) + 1 = 7 from by decide, show Fhob 6 = 4 from by decide +kernel]
    exact own_ixc6 _ _ _ _ _ ⟨z0, by omega⟩ ⟨z1.1, by omega⟩ ⟨z2.1, by omega⟩ ⟨z3.1, by omega⟩ n1 n2 n3 n4 n5 n6 _ _ (by omega)
  · obtain ⟨n1, n2, n3, n4, n5, n6, n7⟩ := own_node7 ai bi ci di fl hc z0 z1.1 z2.1 z3.1
    rw [hc, show (7 : Int32) + 1 = 8 from by decide, show Fhob 7 = 4 from by decide +kernel]
    exact own_ixc7 _ _ _ _ _ ⟨z0, by omega⟩ ⟨z1.1, by omega⟩ ⟨z2.1, by omega⟩ ⟨z3.1, by omega⟩ n1 n2 n3 n4 n5 n6 n7 _ _ (by omega)
  · obtain ⟨n1, n2, n3, n4, n5, n6, n7, n8⟩ := own_node8 ai bi ci di fl hc z0 z1.1 z2.1 z3.1
    rw [hc, show (8 : Int32) + 1 = 9 from by decide, show Fhob 8 = 8 from by decide +kernel]
    exact own_ixc8 _ _ _ _ _ ⟨z0, by omega⟩ ⟨z1.1, by omega⟩ ⟨z2.1, by omega⟩ ⟨z3.1, by omega⟩ n1 n2 n3 n4 n5 n6 n7 n8 _ _ (by omega)
def Q0 (Z : State) (ai : Int32) (bi : Int32) (ci : Int32) (di : Int32) (pj : Int64) (fl : Int32) (h0 : Heap) (n0 : Nat) (v : Option Value) (h : Heap) (L : List Loc) : Prop := v = some (.int (1 : Int32)) ∧ Fr n0 L
set_option maxRecDepth 65536 in
set_option maxHeartbeats 40000000 in
theorem rm0 (l : Launch) (Z : State) (a0 : Array Value) (hw : ∀ d ∈ tables_1, d.before a0 Z = true) (ws : List Jvm.Cond) (ai : Int32) (bi : Int32) (ci : Int32) (di : Int32) (pj : Int64) (fl : Int32) (h0 : Heap) (n0 : Nat) (Z0 : n0 ≤ h0.size) :
    MetFree l x (head1 (Jvm.Cond.code x code maxLocals ret :: ws) room_1) (fun a U => a = #[(.int ai), (.int bi), (.int ci), (.int di), (.long pj), (.int fl)] ∧ Z.Warmed39 U.vm ∧ U.heap = h0) (fun _ _ _ _ _ => True) (fun _ U o U' => ∃ v L, o = .returned v ∧ Q0 Z ai bi ci di pj fl h0 n0 v U'.heap L ∧ FrameEnd U o U' L room_1.cells room_1.slots) := by
  refine MetFree.of_bodySF (plainFor_of_name pn_1) hisR ?_
  intro p e s m args below meth c s₁ Bd hml0 hP hK
  obtain ⟨rfl, hZ, hh⟩ := hP
  have hx := Bd.exec
  have hby := Bd.bytes
  have hml : c.maxLocals = 24 := hml0
  have hown : s.vm.findClass "com/example/dealer/dealer/ChangingSharesIndexAtPinLaw" = some m.cls := findClass_of_methodNamed Bd.named
  have hnm := (name_of_methodNamed Bd.named Bd.method).1
  have X0 : Stand p l e room_1 s m #[(.int ai), (.int bi), (.int ci), (.int di), (.long pj), (.int fl)] below meth c s₁ [] 0 0 := Stand.of_body Bd
  have e0 : s₁.heap = h0 := by rw [← hh, Bd.state]; rfl
  have N0 := Fr.nil n0
  have pre0 : ∀ t, Steps p.tables e below (s₁.setTop (mkF m 0 #[.val (.int ai), .val (.int bi), .val (.int ci), .val (.int di), .val (.long pj), .second, .val (.int fl), .unset, .unset, .unset, .unset, .unset, .unset, .unset, .unset, .unset, .unset, .unset, .unset, .unset, .unset, .unset, .unset, .unset] [])) t → Steps p.tables e below (s₁.setTop (entryFrame m #[(.int ai), (.int bi), (.int ci), (.int di), (.long pj), (.int fl)] maxLocals)) t := fun t k => castTop (ef_0 m ai bi ci di pj fl) k
  obtain ⟨_, _, ⟨T1, L1, k1, n1⟩, -, X1, ⟨Lc1, hQ1, l1, y1, z1⟩, st1⟩ := Jvm.LawKit.callS X0 hx (y := (⟨"com/example/dealer/dealer/ChangingSharesIndexAtPinLaw", "share", "(IIII)I"⟩ : MethodName)) hown (mvT hZ (hw _ (List.mem_of_getElem? (i := 0) rfl))) (mvT hZ (hw _ (List.mem_of_getElem? (i := 1) rfl))) (mvT hZ (hw _ (List.mem_of_getElem? (i := 2) rfl))) (mvT hZ (hw _ (List.mem_of_getElem? (i := 3) rfl))) (by decide) (backOf (W := 0) (rm1 l Z a0 hw [] ai fl (0 : Int32) (v_cap fl) h0 n0 Z0) hZ (hw _ (List.mem_of_getElem? (i := 3) rfl)) (hw _ (List.mem_of_getElem? (i := 2) rfl)) (by decide) (by decide)) (g := (mkF m 15 #[.val (.int ai), .val (.int bi), .val (.int ci), .val (.int di), .val (.long pj), .second, .val (.int fl), .val (.int (v_cap fl)), .unset, .unset, .unset, .unset, .unset, .unset, .unset, .unset, .unset, .unset, .unset, .unset, .unset, .unset, .unset, .unset] [(.int (v_cap fl)), (.int (0 : Int32)), (.int fl), (.int ai)])) rfl (by rw [hml]; rfl) (argsL := [(.int ai), (.int fl), (.int (0 : Int32)), (.int (v_cap fl))]) (rest := []) (lenOf pd_0 rfl) rfl (by show 2 * 0 + _ ≤ _; exact Nat.le_of_eq rfl) (hb hby at_15) (fun _ _ => ⟨rfl, e0, (by decide : 0 + 0 ≤ _), (by decide : 0 + 0 ≤ _)⟩)
  dsimp only [Pt.U, Pt.locs, Pt.cells, Pt.slots] at X1 l1 y1 z1 st1 hQ1
  subst y1 z1
  obtain ⟨rfl, N1q, e1⟩ := hQ1
  have N1 : Fr n0 L1 := by rw [l1]; exact Fr.app N0 N1q
  obtain ⟨_, _, ⟨T2, L2, k2, n2⟩, -, X2, ⟨Lc2, hQ2, l2, y2, z2⟩, st2⟩ := Jvm.LawKit.callS X1 hx (y := (⟨"com/example/dealer/dealer/ChangingSharesIndexAtPinLaw", "share", "(IIII)I"⟩ : MethodName)) hown (mvT hZ (hw _ (List.mem_of_getElem? (i := 0) rfl))) (mvT hZ (hw _ (List.mem_of_getElem? (i := 1) rfl))) (mvT hZ (hw _ (List.mem_of_getElem? (i := 2) rfl))) (mvT hZ (hw _ (List.mem_of_getElem? (i := 3) rfl))) (by decide) (backOf (W := 0) (rm1 l Z a0 hw [] bi fl (1 : Int32) (v_cap fl) h0 n0 Z0) hZ (hw _ (List.mem_of_getElem? (i := 3) rfl)) (hw _ (List.mem_of_getElem? (i := 2) rfl)) (by decide) (by decide)) (g := (mkF m 26 #[.val (.int ai), .val (.int bi), .val (.int ci), .val (.int di), .val (.long pj), .second, .val (.int fl), .val (.int (v_cap fl)), .val (.int (v_s0 ai fl)), .unset, .unset, .unset, .unset, .unset, .unset, .unset, .unset, .unset, .unset, .unset, .unset, .unset, .unset, .unset] [(.int (v_cap fl)), (.int (1 : Int32)), (.int fl), (.int bi)])) rfl (by rw [hml]; rfl) (argsL := [(.int bi), (.int fl), (.int (1 : Int32)), (.int (v_cap fl))]) (rest := []) (lenOf pd_0 rfl) rfl (by show 2 * 0 + _ ≤ _; exact Nat.le_of_eq rfl) (hb hby at_26) (fun _ _ => ⟨rfl, e1, (by decide : 0 + 0 ≤ _), (by decide : 0 + 0 ≤ _)⟩)
  dsimp only [Pt.U, Pt.locs, Pt.cells, Pt.slots] at X2 l2 y2 z2 st2 hQ2
  subst y2 z2
  obtain ⟨rfl, N2q, e2⟩ := hQ2
  have N2 : Fr n0 L2 := by rw [l2]; exact Fr.app N1 N2q
  obtain ⟨_, _, ⟨T3, L3, k3, n3⟩, -, X3, ⟨Lc3, hQ3, l3, y3, z3⟩, st3⟩ := Jvm.LawKit.callS X2 hx (y := (⟨"com/example/dealer/dealer/ChangingSharesIndexAtPinLaw", "share", "(IIII)I"⟩ : MethodName)) hown (mvT hZ (hw _ (List.mem_of_getElem? (i := 0) rfl))) (mvT hZ (hw _ (List.mem_of_getElem? (i := 1) rfl))) (mvT hZ (hw _ (List.mem_of_getElem? (i := 2) rfl))) (mvT hZ (hw _ (List.mem_of_getElem? (i := 3) rfl))) (by decide) (backOf (W := 0) (rm1 l Z a0 hw [] ci fl (2 : Int32) (v_cap fl) h0 n0 Z0) hZ (hw _ (List.mem_of_getElem? (i := 3) rfl)) (hw _ (List.mem_of_getElem? (i := 2) rfl)) (by decide) (by decide)) (g := (mkF m 37 #[.val (.int ai), .val (.int bi), .val (.int ci), .val (.int di), .val (.long pj), .second, .val (.int fl), .val (.int (v_cap fl)), .val (.int (v_s0 ai fl)), .val (.int (v_s1 bi fl)), .unset, .unset, .unset, .unset, .unset, .unset, .unset, .unset, .unset, .unset, .unset, .unset, .unset, .unset] [(.int (v_cap fl)), (.int (2 : Int32)), (.int fl), (.int ci)])) rfl (by rw [hml]; rfl) (argsL := [(.int ci), (.int fl), (.int (2 : Int32)), (.int (v_cap fl))]) (rest := []) (lenOf pd_0 rfl) rfl (by show 2 * 0 + _ ≤ _; exact Nat.le_of_eq rfl) (hb hby at_37) (fun _ _ => ⟨rfl, e2, (by decide : 0 + 0 ≤ _), (by decide : 0 + 0 ≤ _)⟩)
  dsimp only [Pt.U, Pt.locs, Pt.cells, Pt.slots] at X3 l3 y3 z3 st3 hQ3
  subst y3 z3
  obtain ⟨rfl, N3q, e3⟩ := hQ3
  have N3 : Fr n0 L3 := by rw [l3]; exact Fr.app N2 N3q
  obtain ⟨_, _, ⟨T4, L4, k4, n4⟩, -, X4, ⟨Lc4, hQ4, l4, y4, z4⟩, st4⟩ := Jvm.LawKit.callS X3 hx (y := (⟨"com/example/dealer/dealer/ChangingSharesIndexAtPinLaw", "share", "(IIII)I"⟩ : MethodName)) hown (mvT hZ (hw _ (List.mem_of_getElem? (i := 0) rfl))) (mvT hZ (hw _ (List.mem_of_getElem? (i := 1) rfl))) (mvT hZ (hw _ (List.mem_of_getElem? (i := 2) rfl))) (mvT hZ (hw _ (List.mem_of_getElem? (i := 3) rfl))) (by decide) (backOf (W := 0) (rm1 l Z a0 hw [] di fl (3 : Int32) (v_cap fl) h0 n0 Z0) hZ (hw _ (List.mem_of_getElem? (i := 3) rfl)) (hw _ (List.mem_of_getElem? (i := 2) rfl)) (by decide) (by decide)) (g := (mkF m 48 #[.val (.int ai), .val (.int bi), .val (.int ci), .val (.int di), .val (.long pj), .second, .val (.int fl), .val (.int (v_cap fl)), .val (.int (v_s0 ai fl)), .val (.int (v_s1 bi fl)), .val (.int (v_s2 ci fl)), .unset, .unset, .unset, .unset, .unset, .unset, .unset, .unset, .unset, .unset, .unset, .unset, .unset] [(.int (v_cap fl)), (.int (3 : Int32)), (.int fl), (.int di)])) rfl (by rw [hml]; rfl) (argsL := [(.int di), (.int fl), (.int (3 : Int32)), (.int (v_cap fl))]) (rest := []) (lenOf pd_0 rfl) rfl (by show 2 * 0 + _ ≤ _; exact Nat.le_of_eq rfl) (hb hby at_48) (fun _ _ => ⟨rfl, e3, (by decide : 0 + 0 ≤ _), (by decide : 0 + 0 ≤ _)⟩)
  dsimp only [Pt.U, Pt.locs, Pt.cells, Pt.slots] at X4 l4 y4 z4 st4 hQ4
  subst y4 z4
  obtain ⟨rfl, N4q, e4⟩ := hQ4
  have N4 : Fr n0 L4 := by rw [l4]; exact Fr.app N3 N4q
  obtain ⟨T5, h5, X5, e5, E5, A5, D5, -, st5⟩ := newO X4 hx hZ hown (hw _ (List.mem_of_getElem? (i := 5) rfl)) (hw _ (List.mem_of_getElem? (i := 6) rfl)) (hw _ (List.mem_of_getElem? (i := 7) rfl)) e4 (g := (mkF m 53 #[.val (.int ai), .val (.int bi), .val (.int ci), .val (.int di), .val (.long pj), .second, .val (.int fl), .val (.int (v_cap fl)), .val (.int (v_s0 ai fl)), .val (.int (v_s1 bi fl)), .val (.int (v_s2 ci fl)), .val (.int (v_s3 di fl)), .unset, .unset, .unset, .unset, .unset, .unset, .unset, .unset, .unset, .unset, .unset, .unset] [])) rfl (hb hby at_53) (by decide) (by decide)
  obtain ⟨b5, g5⟩ : ∃ z, z = h0.size := ⟨_, rfl⟩
  rw [← g5] at A5 D5 st5
  have ge_b5 : n0 ≤ b5 := Nat.le_trans Z0 (Nat.le_of_eq g5.symm)
  have Z5 : n0 ≤ h5.size := Nat.le_trans Z0 E5.1
  have F5_nodes : Fld Z h5 b5 "com/example/dealer/dealer/ChangingShares" "nodes" "[J" .null := D5 (Or.inr (hw _ (List.mem_of_getElem? (i := 16) rfl))) (ty := (.array .long)) (by decide)
  have F5_shares : Fld Z h5 b5 "com/example/dealer/dealer/ChangingShares" "shares" "[I" .null := D5 (Or.inr (hw _ (List.mem_of_getElem? (i := 19) rfl))) (ty := (.array .int)) (by decide)
  have F5_firstStep : Fld Z h5 b5 "com/example/dealer/dealer/ChangingShares" "firstStep" "I" (.int (0 : Int32)) := D5 (Or.inr (hw _ (List.mem_of_getElem? (i := 30) rfl))) (ty := .int) (by decide)
  have F5_total : Fld Z h5 b5 "com/example/dealer/dealer/ChangingShares" "total" "J" (.long (0 : Int64)) := D5 (Or.inl (hw _ (List.mem_of_getElem? (i := 37) rfl))) (ty := .long) (by decide)
  obtain ⟨_, _, ⟨T6, L6, k6, n6⟩, -, X6, ⟨Lc6, hQ6, l6, y6, z6⟩, st6⟩ := X5.specialBack hx (y := (⟨"com/example/dealer/dealer/ChangingShares", "<init>", "(I)V"⟩ : MethodName)) rfl hown (mvT hZ (hw _ (List.mem_of_getElem? (i := 8) rfl))) (mvT hZ (hw _ (List.mem_of_getElem? (i := 9) rfl))) (mvT hZ (hw _ (List.mem_of_getElem? (i := 10) rfl))) (by decide) (backOf (W := 1) (rm2 l Z a0 hw [] b5 (v_cap fl) h5 n0 Z5 ⟨A5, F5_nodes, F5_shares, F5_firstStep, F5_total, ge_b5, Z5⟩ (own_capv fl).1 (own_capv fl).2.1 (own_capv fl).2.2) hZ (hw _ (List.mem_of_getElem? (i := 10) rfl)) (hw _ (List.mem_of_getElem? (i := 7) rfl)) (by decide) (by decide)) (g := (mkF m 59 #[.val (.int ai), .val (.int bi), .val (.int ci), .val (.int di), .val (.long pj), .second, .val (.int fl), .val (.int (v_cap fl)), .val (.int (v_s0 ai fl)), .val (.int (v_s1 bi fl)), .val (.int (v_s2 ci fl)), .val (.int (v_s3 di fl)), .unset, .unset, .unset, .unset, .unset, .unset, .unset, .unset, .unset, .unset, .unset, .unset] [(.int (v_cap fl)), (.ref b5), (.ref b5)])) rfl (by rw [hml]; rfl) (Steps.refl _) (a := b5) (argsL := [(.int (v_cap fl))]) (rest := [(.ref b5)]) (lenOf pd_1 rfl) rfl (by show 2 * 0 + _ ≤ _; exact Nat.le_of_eq rfl) (hb hby at_59) (fun _ _ => ⟨rfl, e5, (by decide : 1 + 2 ≤ _), (by decide : 4 + 17 ≤ _)⟩)
  dsimp only [Pt.U, Pt.locs, Pt.cells, Pt.slots] at X6 l6 y6 z6 st6 hQ6
  subst y6 z6
  obtain ⟨rfl, N6q, an6, as6, I6, Kq6⟩ := hQ6
  have N6 : Fr n0 L6 := by rw [l6]; exact Fr.app N4 N6q
  have Z6 : n0 ≤ T6.heap.size := Nat.le_trans Z5 Kq6.1
  obtain ⟨k7_0, k7_1, k7_2, k7_3, k7_4, k7_5, k7_6, k7_g_ob, k7_g_an, k7_g_as, k7_n_ob_an, k7_n_ob_as, k7_n_an_as, k7_sz⟩ := I6.1
  obtain ⟨cq8, kq8, q8a, q8b, q8c⟩ := isOf hZ rfl k7_0
  obtain ⟨_, _, ⟨T8, L8, k8, n8⟩, -, X8, ⟨Lc8, hQ8, l8, y8, z8⟩, st8⟩ := X6.virtualBack hx (y := (⟨"com/example/dealer/dealer/ChangingShares", "set", "(II)V"⟩ : MethodName)) (z := (⟨"com/example/dealer/dealer/ChangingShares", "set", "(II)V"⟩ : MethodName)) hown (mvT hZ (hw _ (List.mem_of_getElem? (i := 31) rfl))) (mvT hZ (hw _ (List.mem_of_getElem? (i := 32) rfl))) (notFace_of_selects (args := #[]) (mvT hZ (hw _ (List.mem_of_getElem? (i := 34) rfl)))) (mvT hZ (hw _ (List.mem_of_getElem? (i := 34) rfl))) (mvT hZ (hw _ (List.mem_of_getElem? (i := 33) rfl))) (by decide) (backOf (W := 0) (rm6 l Z a0 hw [] b5 (0 : Int32) (v_s0 ai fl) an6 as6 (Fhob (v_cap fl)) (0 : Int64) ((v_cap fl) + (1 : Int32)) (fun _ => 0) (v_cap fl) (fun _ => 0) T6.heap n0 k7_sz ⟨k7_0, k7_1, k7_2, k7_3, k7_4, k7_5, k7_6, k7_g_ob, k7_g_an, k7_g_as, k7_n_ob_an, k7_n_ob_as, k7_n_an_as, k7_sz⟩ (own_setp fl 0 (by decide) (own_cap1 fl)).1 (own_setp fl 0 (by decide) (own_cap1 fl)).2.1 (own_setp fl 0 (by decide) (own_cap1 fl)).2.2) hZ (hw _ (List.mem_of_getElem? (i := 35) rfl)) (hw _ (List.mem_of_getElem? (i := 7) rfl)) (by decide) (by decide)) q8a q8c (g := (mkF m 69 #[.val (.int ai), .val (.int bi), .val (.int ci), .val (.int di), .val (.long pj), .second, .val (.int fl), .val (.int (v_cap fl)), .val (.int (v_s0 ai fl)), .val (.int (v_s1 bi fl)), .val (.int (v_s2 ci fl)), .val (.int (v_s3 di fl)), .val (.ref b5), .unset, .unset, .unset, .unset, .unset, .unset, .unset, .unset, .unset, .unset, .unset] [(.int (v_s0 ai fl)), (.int (0 : Int32)), (.ref b5)])) rfl (by rw [hml]; rfl) (Steps.refl _) (argsL := [(.int (0 : Int32)), (.int (v_s0 ai fl))]) (rest := []) (lenOf pd_4 rfl) rfl (by show 2 * 0 + _ ≤ _; exact Nat.le_of_eq rfl) (hb hby at_69) (fun _ _ => ⟨rfl, rfl, (by decide : 3 + 0 ≤ _), (by decide : 21 + 0 ≤ _)⟩)
  dsimp only [Pt.U, Pt.locs, Pt.cells, Pt.slots] at X8 l8 y8 z8 st8 hQ8
  subst y8 z8
  obtain ⟨rfl, N8q, I8⟩ := hQ8
  obtain ⟨k9_0, k9_1, k9_2, k9_3, k9_4, k9_5, k9_6, k9_g_ob, k9_g_an, k9_g_as, k9_n_ob_an, k9_n_ob_as, k9_n_an_as, k9_sz⟩ := I8
  have N8 : Fr n0 L8 := by rw [l8]; exact Fr.app N6 N8q
  have pre10 : ∀ t, Steps p.tables e below (T8.setTop (mkF m 75 #[.val (.int ai), .val (.int bi), .val (.int ci), .val (.int di), .val (.long pj), .second, .val (.int fl), .val (.int (v_cap fl)), .val (.int (v_s0 ai fl)), .val (.int (v_s1 bi fl)), .val (.int (v_s2 ci fl)), .val (.int (v_s3 di fl)), .val (.ref b5), .unset, .unset, .unset, .unset, .unset, .unset, .unset, .unset, .unset, .unset, .unset] [(.int (v_cap fl)), (.int (1 : Int32))])) t → Steps p.tables e below (s₁.setTop (entryFrame m #[(.int ai), (.int bi), (.int ci), (.int di), (.long pj), (.int fl)] maxLocals)) t := by
    intro t k
    refine pre0 t ?_
    show Steps p.tables e below (s₁.setTop (mkF m 0 #[.val (.int ai), .val (.int bi), .val (.int ci), .val (.int di), .val (.long pj), .second, .val (.int fl), .unset, .unset, .unset, .unset, .unset, .unset, .unset, .unset, .unset, .unset, .unset, .unset, .unset, .unset, .unset, .unset, .unset] [])) _
    refine XS.iconst X0.here hx rfl (hb hby at_0) ?_
    show Steps p.tables e below (s₁.setTop (mkF m 1 #[.val (.int ai), .val (.int bi), .val (.int ci), .val (.int di), .val (.long pj), .second, .val (.int fl), .unset, .unset, .unset, .unset, .unset, .unset, .unset, .unset, .unset, .unset, .unset, .unset, .unset, .unset, .unset, .unset, .unset] [(.int (1 : Int32))])) _
    refine XS.iload X0.here hx rfl (hb hby at_1) rfl ?_
    show Steps p.tables e below (s₁.setTop (mkF m 3 #[.val (.int ai), .val (.int bi), .val (.int ci), .val (.int di), .val (.long pj), .second, .val (.int fl), .unset, .unset, .unset, .unset, .unset, .unset, .unset, .unset, .unset, .unset, .unset, .unset, .unset, .unset, .unset, .unset, .unset] [(.int fl), (.int (1 : Int32))])) _
    refine XS.bipush X0.here hx rfl (hb hby at_3) ?_
    show Steps p.tables e below (s₁.setTop (mkF m 5 #[.val (.int ai), .val (.int bi), .val (.int ci), .val (.int di), .val (.long pj), .second, .val (.int fl), .unset, .unset, .unset, .unset, .unset, .unset, .unset, .unset, .unset, .unset, .unset, .unset, .unset, .unset, .unset, .unset, .unset] [(.int (7 : Int32)), (.int fl), (.int (1 : Int32))])) _
    refine XS.iand X0.here hx rfl (hb hby at_5) rfl ?_
    show Steps p.tables e below (s₁.setTop (mkF m 6 #[.val (.int ai), .val (.int bi), .val (.int ci), .val (.int di), .val (.long pj), .second, .val (.int fl), .unset, .unset, .unset, .unset, .unset, .unset, .unset, .unset, .unset, .unset, .unset, .unset, .unset, .unset, .unset, .unset, .unset] [(.int (fl &&& (7 : Int32))), (.int (1 : Int32))])) _
    refine XS.iadd X0.here hx rfl (hb hby at_6) rfl ?_
    show Steps p.tables e below (s₁.setTop (mkF m 7 #[.val (.int ai), .val (.int bi), .val (.int ci), .val (.int di), .val (.long pj), .second, .val (.int fl), .unset, .unset, .unset, .unset, .unset, .unset, .unset, .unset, .unset, .unset, .unset, .unset, .unset, .unset, .unset, .unset, .unset] [(.int ((1 : Int32) + (fl &&& (7 : Int32))))])) _
    refine XS.istore X0.here hx rfl (hb hby at_7) rfl (l' := #[.val (.int ai), .val (.int bi), .val (.int ci), .val (.int di), .val (.long pj), .second, .val (.int fl), .val (.int (v_cap fl)), .unset, .unset, .unset, .unset, .unset, .unset, .unset, .unset, .unset, .unset, .unset, .unset, .unset, .unset, .unset, .unset]) rfl ?_
    show Steps p.tables e below (s₁.setTop (mkF m 9 #[.val (.int ai), .val (.int bi), .val (.int ci), .val (.int di), .val (.long pj), .second, .val (.int fl), .val (.int (v_cap fl)), .unset, .unset, .unset, .unset, .unset, .unset, .unset, .unset, .unset, .unset, .unset, .unset, .unset, .unset, .unset, .unset] [])) _
    refine XS.iloadN X0.here hx rfl (hb hby at_9) rfl ?_
    show Steps p.tables e below (s₁.setTop (mkF m 10 #[.val (.int ai), .val (.int bi), .val (.int ci), .val (.int di), .val (.long pj), .second, .val (.int fl), .val (.int (v_cap fl)), .unset, .unset, .unset, .unset, .unset, .unset, .unset, .unset, .unset, .unset, .unset, .unset, .unset, .unset, .unset, .unset] [(.int ai)])) _
    refine XS.iload X0.here hx rfl (hb hby at_10) rfl ?_
    show Steps p.tables e below (s₁.setTop (mkF m 12 #[.val (.int ai), .val (.int bi), .val (.int ci), .val (.int di), .val (.long pj), .second, .val (.int fl), .val (.int (v_cap fl)), .unset, .unset, .unset, .unset, .unset, .unset, .unset, .unset, .unset, .unset, .unset, .unset, .unset, .unset, .unset, .unset] [(.int fl), (.int ai)])) _
    refine XS.iconst X0.here hx rfl (hb hby at_12) ?_
    show Steps p.tables e below (s₁.setTop (mkF m 13 #[.val (.int ai), .val (.int bi), .val (.int ci), .val (.int di), .val (.long pj), .second, .val (.int fl), .val (.int (v_cap fl)), .unset, .unset, .unset, .unset, .unset, .unset, .unset, .unset, .unset, .unset, .unset, .unset, .unset, .unset, .unset, .unset] [(.int (0 : Int32)), (.int fl), (.int ai)])) _
    refine XS.iload X0.here hx rfl (hb hby at_13) rfl ?_
    show Steps p.tables e below (s₁.setTop (mkF m 15 #[.val (.int ai), .val (.int bi), .val (.int ci), .val (.int di), .val (.long pj), .second, .val (.int fl), .val (.int (v_cap fl)), .unset, .unset, .unset, .unset, .unset, .unset, .unset, .unset, .unset, .unset, .unset, .unset, .unset, .unset, .unset, .unset] [(.int (v_cap fl)), (.int (0 : Int32)), (.int fl), (.int ai)])) _
    refine st1 _ ?_
    show Steps p.tables e below (T1.setTop (mkF m 18 #[.val (.int ai), .val (.int bi), .val (.int ci), .val (.int di), .val (.long pj), .second, .val (.int fl), .val (.int (v_cap fl)), .unset, .unset, .unset, .unset, .unset, .unset, .unset, .unset, .unset, .unset, .unset, .unset, .unset, .unset, .unset, .unset] [(.int (Fshare ai fl (0 : Int32) (v_cap fl)))])) _
    refine XS.istore X1.here hx rfl (hb hby at_18) rfl (l' := #[.val (.int ai), .val (.int bi), .val (.int ci), .val (.int di), .val (.long pj), .second, .val (.int fl), .val (.int (v_cap fl)), .val (.int (v_s0 ai fl)), .unset, .unset, .unset, .unset, .unset, .unset, .unset, .unset, .unset, .unset, .unset, .unset, .unset, .unset, .unset]) rfl ?_
    show Steps p.tables e below (T1.setTop (mkF m 20 #[.val (.int ai), .val (.int bi), .val (.int ci), .val (.int di), .val (.long pj), .second, .val (.int fl), .val (.int (v_cap fl)), .val (.int (v_s0 ai fl)), .unset, .unset, .unset, .unset, .unset, .unset, .unset, .unset, .unset, .unset, .unset, .unset, .unset, .unset, .unset] [])) _
    refine XS.iloadN X1.here hx rfl (hb hby at_20) rfl ?_
    show Steps p.tables e below (T1.setTop (mkF m 21 #[.val (.int ai), .val (.int bi), .val (.int ci), .val (.int di), .val (.long pj), .second, .val (.int fl), .val (.int (v_cap fl)), .val (.int (v_s0 ai fl)), .unset, .unset, .unset, .unset, .unset, .unset, .unset, .unset, .unset, .unset, .unset, .unset, .unset, .unset, .unset] [(.int bi)])) _
    refine XS.iload X1.here hx rfl (hb hby at_21) rfl ?_
    show Steps p.tables e below (T1.setTop (mkF m 23 #[.val (.int ai), .val (.int bi), .val (.int ci), .val (.int di), .val (.long pj), .second, .val (.int fl), .val (.int (v_cap fl)), .val (.int (v_s0 ai fl)), .unset, .unset, .unset, .unset, .unset, .unset, .unset, .unset, .unset, .unset, .unset, .unset, .unset, .unset, .unset] [(.int fl), (.int bi)])) _
    refine XS.iconst X1.here hx rfl (hb hby at_23) ?_
    show Steps p.tables e below (T1.setTop (mkF m 24 #[.val (.int ai), .val (.int bi), .val (.int ci), .val (.int di), .val (.long pj), .second, .val (.int fl), .val (.int (v_cap fl)), .val (.int (v_s0 ai fl)), .unset, .unset, .unset, .unset, .unset, .unset, .unset, .unset, .unset, .unset, .unset, .unset, .unset, .unset, .unset] [(.int (1 : Int32)), (.int fl), (.int bi)])) _
    refine XS.iload X1.here hx rfl (hb hby at_24) rfl ?_
    show Steps p.tables e below (T1.setTop (mkF m 26 #[.val (.int ai), .val (.int bi), .val (.int ci), .val (.int di), .val (.long pj), .second, .val (.int fl), .val (.int (v_cap fl)), .val (.int (v_s0 ai fl)), .unset, .unset, .unset, .unset, .unset, .unset, .unset, .unset, .unset, .unset, .unset, .unset, .unset, .unset, .unset] [(.int (v_cap fl)), (.int (1 : Int32)), (.int fl), (.int bi)])) _
    refine st2 _ ?_
    show Steps p.tables e below (T2.setTop (mkF m 29 #[.val (.int ai), .val (.int bi), .val (.int ci), .val (.int di), .val (.long pj), .second, .val (.int fl), .val (.int (v_cap fl)), .val (.int (v_s0 ai fl)), .unset, .unset, .unset, .unset, .unset, .unset, .unset, .unset, .unset, .unset, .unset, .unset, .unset, .unset, .unset] [(.int (Fshare bi fl (1 : Int32) (v_cap fl)))])) _
    refine XS.istore X2.here hx rfl (hb hby at_29) rfl (l' := #[.val (.int ai), .val (.int bi), .val (.int ci), .val (.int di), .val (.long pj), .second, .val (.int fl), .val (.int (v_cap fl)), .val (.int (v_s0 ai fl)), .val (.int (v_s1 bi fl)), .unset, .unset, .unset, .unset, .unset, .unset, .unset, .unset, .unset, .unset, .unset, .unset, .unset, .unset]) rfl ?_
    show Steps p.tables e below (T2.setTop (mkF m 31 #[.val (.int ai), .val (.int bi), .val (.int ci), .val (.int di), .val (.long pj), .second, .val (.int fl), .val (.int (v_cap fl)), .val (.int (v_s0 ai fl)), .val (.int (v_s1 bi fl)), .unset, .unset, .unset, .unset, .unset, .unset, .unset, .unset, .unset, .unset, .unset, .unset, .unset, .unset] [])) _
    refine XS.iloadN X2.here hx rfl (hb hby at_31) rfl ?_
    show Steps p.tables e below (T2.setTop (mkF m 32 #[.val (.int ai), .val (.int bi), .val (.int ci), .val (.int di), .val (.long pj), .second, .val (.int fl), .val (.int (v_cap fl)), .val (.int (v_s0 ai fl)), .val (.int (v_s1 bi fl)), .unset, .unset, .unset, .unset, .unset, .unset, .unset, .unset, .unset, .unset, .unset, .unset, .unset, .unset] [(.int ci)])) _
    refine XS.iload X2.here hx rfl (hb hby at_32) rfl ?_
    show Steps p.tables e below (T2.setTop (mkF m 34 #[.val (.int ai), .val (.int bi), .val (.int ci), .val (.int di), .val (.long pj), .second, .val (.int fl), .val (.int (v_cap fl)), .val (.int (v_s0 ai fl)), .val (.int (v_s1 bi fl)), .unset, .unset, .unset, .unset, .unset, .unset, .unset, .unset, .unset, .unset, .unset, .unset, .unset, .unset] [(.int fl), (.int ci)])) _
    refine XS.iconst X2.here hx rfl (hb hby at_34) ?_
    show Steps p.tables e below (T2.setTop (mkF m 35 #[.val (.int ai), .val (.int bi), .val (.int ci), .val (.int di), .val (.long pj), .second, .val (.int fl), .val (.int (v_cap fl)), .val (.int (v_s0 ai fl)), .val (.int (v_s1 bi fl)), .unset, .unset, .unset, .unset, .unset, .unset, .unset, .unset, .unset, .unset, .unset, .unset, .unset, .unset] [(.int (2 : Int32)), (.int fl), (.int ci)])) _
    refine XS.iload X2.here hx rfl (hb hby at_35) rfl ?_
    show Steps p.tables e below (T2.setTop (mkF m 37 #[.val (.int ai), .val (.int bi), .val (.int ci), .val (.int di), .val (.long pj), .second, .val (.int fl), .val (.int (v_cap fl)), .val (.int (v_s0 ai fl)), .val (.int (v_s1 bi fl)), .unset, .unset, .unset, .unset, .unset, .unset, .unset, .unset, .unset, .unset, .unset, .unset, .unset, .unset] [(.int (v_cap fl)), (.int (2 : Int32)), (.int fl), (.int ci)])) _
    refine st3 _ ?_
    show Steps p.tables e below (T3.setTop (mkF m 40 #[.val (.int ai), .val (.int bi), .val (.int ci), .val (.int di), .val (.long pj), .second, .val (.int fl), .val (.int (v_cap fl)), .val (.int (v_s0 ai fl)), .val (.int (v_s1 bi fl)), .unset, .unset, .unset, .unset, .unset, .unset, .unset, .unset, .unset, .unset, .unset, .unset, .unset, .unset] [(.int (Fshare ci fl (2 : Int32) (v_cap fl)))])) _
    refine XS.istore X3.here hx rfl (hb hby at_40) rfl (l' := #[.val (.int ai), .val (.int bi), .val (.int ci), .val (.int di), .val (.long pj), .second, .val (.int fl), .val (.int (v_cap fl)), .val (.int (v_s0 ai fl)), .val (.int (v_s1 bi fl)), .val (.int (v_s2 ci fl)), .unset, .unset, .unset, .unset, .unset, .unset, .unset, .unset, .unset, .unset, .unset, .unset, .unset]) rfl ?_
    show Steps p.tables e below (T3.setTop (mkF m 42 #[.val (.int ai), .val (.int bi), .val (.int ci), .val (.int di), .val (.long pj), .second, .val (.int fl), .val (.int (v_cap fl)), .val (.int (v_s0 ai fl)), .val (.int (v_s1 bi fl)), .val (.int (v_s2 ci fl)), .unset, .unset, .unset, .unset, .unset, .unset, .unset, .unset, .unset, .unset, .unset, .unset, .unset] [])) _
    refine XS.iloadN X3.here hx rfl (hb hby at_42) rfl ?_
    show Steps p.tables e below (T3.setTop (mkF m 43 #[.val (.int ai), .val (.int bi), .val (.int ci), .val (.int di), .val (.long pj), .second, .val (.int fl), .val (.int (v_cap fl)), .val (.int (v_s0 ai fl)), .val (.int (v_s1 bi fl)), .val (.int (v_s2 ci fl)), .unset, .unset, .unset, .unset, .unset, .unset, .unset, .unset, .unset, .unset, .unset, .unset, .unset] [(.int di)])) _
    refine XS.iload X3.here hx rfl (hb hby at_43) rfl ?_
    show Steps p.tables e below (T3.setTop (mkF m 45 #[.val (.int ai), .val (.int bi), .val (.int ci), .val (.int di), .val (.long pj), .second, .val (.int fl), .val (.int (v_cap fl)), .val (.int (v_s0 ai fl)), .val (.int (v_s1 bi fl)), .val (.int (v_s2 ci fl)), .unset, .unset, .unset, .unset, .unset, .unset, .unset, .unset, .unset, .unset, .unset, .unset, .unset] [(.int fl), (.int di)])) _
    refine XS.iconst X3.here hx rfl (hb hby at_45) ?_
    show Steps p.tables e below (T3.setTop (mkF m 46 #[.val (.int ai), .val (.int bi), .val (.int ci), .val (.int di), .val (.long pj), .second, .val (.int fl), .val (.int (v_cap fl)), .val (.int (v_s0 ai fl)), .val (.int (v_s1 bi fl)), .val (.int (v_s2 ci fl)), .unset, .unset, .unset, .unset, .unset, .unset, .unset, .unset, .unset, .unset, .unset, .unset, .unset] [(.int (3 : Int32)), (.int fl), (.int di)])) _
    refine XS.iload X3.here hx rfl (hb hby at_46) rfl ?_
    show Steps p.tables e below (T3.setTop (mkF m 48 #[.val (.int ai), .val (.int bi), .val (.int ci), .val (.int di), .val (.long pj), .second, .val (.int fl), .val (.int (v_cap fl)), .val (.int (v_s0 ai fl)), .val (.int (v_s1 bi fl)), .val (.int (v_s2 ci fl)), .unset, .unset, .unset, .unset, .unset, .unset, .unset, .unset, .unset, .unset, .unset, .unset, .unset] [(.int (v_cap fl)), (.int (3 : Int32)), (.int fl), (.int di)])) _
    refine st4 _ ?_
    show Steps p.tables e below (T4.setTop (mkF m 51 #[.val (.int ai), .val (.int bi), .val (.int ci), .val (.int di), .val (.long pj), .second, .val (.int fl), .val (.int (v_cap fl)), .val (.int (v_s0 ai fl)), .val (.int (v_s1 bi fl)), .val (.int (v_s2 ci fl)), .unset, .unset, .unset, .unset, .unset, .unset, .unset, .unset, .unset, .unset, .unset, .unset, .unset] [(.int (Fshare di fl (3 : Int32) (v_cap fl)))])) _
    refine XS.istore X4.here hx rfl (hb hby at_51) rfl (l' := #[.val (.int ai), .val (.int bi), .val (.int ci), .val (.int di), .val (.long pj), .second, .val (.int fl), .val (.int (v_cap fl)), .val (.int (v_s0 ai fl)), .val (.int (v_s1 bi fl)), .val (.int (v_s2 ci fl)), .val (.int (v_s3 di fl)), .unset, .unset, .unset, .unset, .unset, .unset, .unset, .unset, .unset, .unset, .unset, .unset]) rfl ?_
    show Steps p.tables e below (T4.setTop (mkF m 53 #[.val (.int ai), .val (.int bi), .val (.int ci), .val (.int di), .val (.long pj), .second, .val (.int fl), .val (.int (v_cap fl)), .val (.int (v_s0 ai fl)), .val (.int (v_s1 bi fl)), .val (.int (v_s2 ci fl)), .val (.int (v_s3 di fl)), .unset, .unset, .unset, .unset, .unset, .unset, .unset, .unset, .unset, .unset, .unset, .unset] [])) _
    refine st5 _ ?_
    show Steps p.tables e below (T5.setTop (mkF m 56 #[.val (.int ai), .val (.int bi), .val (.int ci), .val (.int di), .val (.long pj), .second, .val (.int fl), .val (.int (v_cap fl)), .val (.int (v_s0 ai fl)), .val (.int (v_s1 bi fl)), .val (.int (v_s2 ci fl)), .val (.int (v_s3 di fl)), .unset, .unset, .unset, .unset, .unset, .unset, .unset, .unset, .unset, .unset, .unset, .unset] [(.ref b5)])) _
    refine XS.dup X5.here hx rfl (hb hby at_56) rfl rfl ?_
    show Steps p.tables e below (T5.setTop (mkF m 57 #[.val (.int ai), .val (.int bi), .val (.int ci), .val (.int di), .val (.long pj), .second, .val (.int fl), .val (.int (v_cap fl)), .val (.int (v_s0 ai fl)), .val (.int (v_s1 bi fl)), .val (.int (v_s2 ci fl)), .val (.int (v_s3 di fl)), .unset, .unset, .unset, .unset, .unset, .unset, .unset, .unset, .unset, .unset, .unset, .unset] [(.ref b5), (.ref b5)])) _
    refine XS.iload X5.here hx rfl (hb hby at_57) rfl ?_
    show Steps p.tables e below (T5.setTop (mkF m 59 #[.val (.int ai), .val (.int bi), .val (.int ci), .val (.int di), .val (.long pj), .second, .val (.int fl), .val (.int (v_cap fl)), .val (.int (v_s0 ai fl)), .val (.int (v_s1 bi fl)), .val (.int (v_s2 ci fl)), .val (.int (v_s3 di fl)), .unset, .unset, .unset, .unset, .unset, .unset, .unset, .unset, .unset, .unset, .unset, .unset] [(.int (v_cap fl)), (.ref b5), (.ref b5)])) _
    refine st6.trans ?_
    show Steps p.tables e below (T6.setTop (mkF m 62 #[.val (.int ai), .val (.int bi), .val (.int ci), .val (.int di), .val (.long pj), .second, .val (.int fl), .val (.int (v_cap fl)), .val (.int (v_s0 ai fl)), .val (.int (v_s1 bi fl)), .val (.int (v_s2 ci fl)), .val (.int (v_s3 di fl)), .unset, .unset, .unset, .unset, .unset, .unset, .unset, .unset, .unset, .unset, .unset, .unset] [(.ref b5)])) _
    refine XS.astore X6.here hx rfl (hb hby at_62) rfl rfl (l' := #[.val (.int ai), .val (.int bi), .val (.int ci), .val (.int di), .val (.long pj), .second, .val (.int fl), .val (.int (v_cap fl)), .val (.int (v_s0 ai fl)), .val (.int (v_s1 bi fl)), .val (.int (v_s2 ci fl)), .val (.int (v_s3 di fl)), .val (.ref b5), .unset, .unset, .unset, .unset, .unset, .unset, .unset, .unset, .unset, .unset, .unset]) rfl ?_
    show Steps p.tables e below (T6.setTop (mkF m 64 #[.val (.int ai), .val (.int bi), .val (.int ci), .val (.int di), .val (.long pj), .second, .val (.int fl), .val (.int (v_cap fl)), .val (.int (v_s0 ai fl)), .val (.int (v_s1 bi fl)), .val (.int (v_s2 ci fl)), .val (.int (v_s3 di fl)), .val (.ref b5), .unset, .unset, .unset, .unset, .unset, .unset, .unset, .unset, .unset, .unset, .unset] [])) _
    refine XS.aload X6.here hx rfl (hb hby at_64) rfl rfl ?_
    show Steps p.tables e below (T6.setTop (mkF m 66 #[.val (.int ai), .val (.int bi), .val (.int ci), .val (.int di), .val (.long pj), .second, .val (.int fl), .val (.int (v_cap fl)), .val (.int (v_s0 ai fl)), .val (.int (v_s1 bi fl)), .val (.int (v_s2 ci fl)), .val (.int (v_s3 di fl)), .val (.ref b5), .unset, .unset, .unset, .unset, .unset, .unset, .unset, .unset, .unset, .unset, .unset] [(.ref b5)])) _
    refine XS.iconst X6.here hx rfl (hb hby at_66) ?_
    show Steps p.tables e below (T6.setTop (mkF m 67 #[.val (.int ai), .val (.int bi), .val (.int ci), .val (.int di), .val (.long pj), .second, .val (.int fl), .val (.int (v_cap fl)), .val (.int (v_s0 ai fl)), .val (.int (v_s1 bi fl)), .val (.int (v_s2 ci fl)), .val (.int (v_s3 di fl)), .val (.ref b5), .unset, .unset, .unset, .unset, .unset, .unset, .unset, .unset, .unset, .unset, .unset] [(.int (0 : Int32)), (.ref b5)])) _
    refine XS.iload X6.here hx rfl (hb hby at_67) rfl ?_
    show Steps p.tables e below (T6.setTop (mkF m 69 #[.val (.int ai), .val (.int bi), .val (.int ci), .val (.int di), .val (.long pj), .second, .val (.int fl), .val (.int (v_cap fl)), .val (.int (v_s0 ai fl)), .val (.int (v_s1 bi fl)), .val (.int (v_s2 ci fl)), .val (.int (v_s3 di fl)), .val (.ref b5), .unset, .unset, .unset, .unset, .unset, .unset, .unset, .unset, .unset, .unset, .unset] [(.int (v_s0 ai fl)), (.int (0 : Int32)), (.ref b5)])) _
    refine st8.trans ?_
    show Steps p.tables e below (T8.setTop (mkF m 72 #[.val (.int ai), .val (.int bi), .val (.int ci), .val (.int di), .val (.long pj), .second, .val (.int fl), .val (.int (v_cap fl)), .val (.int (v_s0 ai fl)), .val (.int (v_s1 bi fl)), .val (.int (v_s2 ci fl)), .val (.int (v_s3 di fl)), .val (.ref b5), .unset, .unset, .unset, .unset, .unset, .unset, .unset, .unset, .unset, .unset, .unset] [])) _
    refine XS.iconst X8.here hx rfl (hb hby at_72) ?_
    show Steps p.tables e below (T8.setTop (mkF m 73 #[.val (.int ai), .val (.int bi), .val (.int ci), .val (.int di), .val (.long pj), .second, .val (.int fl), .val (.int (v_cap fl)), .val (.int (v_s0 ai fl)), .val (.int (v_s1 bi fl)), .val (.int (v_s2 ci fl)), .val (.int (v_s3 di fl)), .val (.ref b5), .unset, .unset, .unset, .unset, .unset, .unset, .unset, .unset, .unset, .unset, .unset] [(.int (1 : Int32))])) _
    refine XS.iload X8.here hx rfl (hb hby at_73) rfl ?_
    exact k
  obtain ⟨T16, hh16, L16, X16, e16, N16, I16, pre16⟩ : ∃ (T : State) (hh16 : Heap) (L : List Loc), Stand p l e room_1 s m #[(.int ai), (.int bi), (.int ci), (.int di), (.long pj), (.int fl)] below meth c T L 3 21 ∧ T.heap = hh16 ∧ Fr n0 L ∧ (CS Z hh16 n0 b5 an6 as6 (Fhob (v_cap fl)) (v_tB ai bi fl) ((v_cap fl) + (1 : Int32)) (v_nB ai bi fl) (v_cap fl) (v_sB ai bi fl)) ∧ ∀ t, Steps p.tables e below (T.setTop (mkF m 86 #[.val (.int ai), .val (.int bi), .val (.int ci), .val (.int di), .val (.long pj), .second, .val (.int fl), .val (.int (v_cap fl)), .val (.int (v_s0 ai fl)), .val (.int (v_s1 bi fl)), .val (.int (v_s2 ci fl)), .val (.int (v_s3 di fl)), .val (.ref b5), .unset, .unset, .unset, .unset, .unset, .unset, .unset, .unset, .unset, .unset, .unset] [])) t → Steps p.tables e below (s₁.setTop (entryFrame m #[(.int ai), (.int bi), (.int ci), (.int di), (.long pj), (.int fl)] maxLocals)) t := by
    by_cases hc11 : (1 : Int32) < (v_cap fl)
    ·
      obtain ⟨cq12, kq12, q12a, q12b, q12c⟩ := isOf hZ rfl k9_0
      obtain ⟨_, _, ⟨T12, L12, k12, n12⟩, -, X12, ⟨Lc12, hQ12, l12, y12, z12⟩, st12⟩ := X8.virtualBack hx (y := (⟨"com/example/dealer/dealer/ChangingShares", "set", "(II)V"⟩ : MethodName)) (z := (⟨"com/example/dealer/dealer/ChangingShares", "set", "(II)V"⟩ : MethodName)) hown (mvT hZ (hw _ (List.mem_of_getElem? (i := 31) rfl))) (mvT hZ (hw _ (List.mem_of_getElem? (i := 32) rfl))) (notFace_of_selects (args := #[]) (mvT hZ (hw _ (List.mem_of_getElem? (i := 34) rfl)))) (mvT hZ (hw _ (List.mem_of_getElem? (i := 34) rfl))) (mvT hZ (hw _ (List.mem_of_getElem? (i := 33) rfl))) (by decide) (backOf (W := 0) (rm6 l Z a0 hw [] b5 (1 : Int32) (v_s1 bi fl) an6 as6 (Fhob (v_cap fl)) (v_tA ai fl) ((v_cap fl) + (1 : Int32)) (v_nA ai fl) (v_cap fl) (v_sA ai fl) T8.heap n0 k9_sz ⟨k9_0, k9_1, k9_2, k9_3, k9_4, k9_5, k9_6, k9_g_ob, k9_g_an, k9_g_as, k9_n_ob_an, k9_n_ob_as, k9_n_an_as, k9_sz⟩ (own_setp fl 1 (by decide) hc11).1 (own_setp fl 1 (by decide) hc11).2.1 (own_setp fl 1 (by decide) hc11).2.2) hZ (hw _ (List.mem_of_getElem? (i := 35) rfl)) (hw _ (List.mem_of_getElem? (i := 7) rfl)) (by decide) (by decide)) q12a q12c (g := (mkF m 83 #[.val (.int ai), .val (.int bi), .val (.int ci), .val (.int di), .val (.long pj), .second, .val (.int fl), .val (.int (v_cap fl)), .val (.int (v_s0 ai fl)), .val (.int (v_s1 bi fl)), .val (.int (v_s2 ci fl)), .val (.int (v_s3 di fl)), .val (.ref b5), .unset, .unset, .unset, .unset, .unset, .unset, .unset, .unset, .unset, .unset, .unset] [(.int (v_s1 bi fl)), (.int (1 : Int32)), (.ref b5)])) rfl (by rw [hml]; rfl) (Steps.refl _) (argsL := [(.int (1 : Int32)), (.int (v_s1 bi fl))]) (rest := []) (lenOf pd_4 rfl) rfl (by show 2 * 0 + _ ≤ _; exact Nat.le_of_eq rfl) (hb hby at_83) (fun _ _ => ⟨rfl, rfl, (by decide : 3 + 0 ≤ _), (by decide : 21 + 0 ≤ _)⟩)
      dsimp only [Pt.U, Pt.locs, Pt.cells, Pt.slots] at X12 l12 y12 z12 st12 hQ12
      subst y12 z12
      obtain ⟨rfl, N12q, I12⟩ := hQ12
      obtain ⟨k13_0, k13_1, k13_2, k13_3, k13_4, k13_5, k13_6, k13_g_ob, k13_g_an, k13_g_as, k13_n_ob_an, k13_n_ob_as, k13_n_an_as, k13_sz⟩ := I12
      have N12 : Fr n0 L12 := by rw [l12]; exact Fr.app N8 N12q
      have pre14 : ∀ t, Steps p.tables e below (T12.setTop (mkF m 86 #[.val (.int ai), .val (.int bi), .val (.int ci), .val (.int di), .val (.long pj), .second, .val (.int fl), .val (.int (v_cap fl)), .val (.int (v_s0 ai fl)), .val (.int (v_s1 bi fl)), .val (.int (v_s2 ci fl)), .val (.int (v_s3 di fl)), .val (.ref b5), .unset, .unset, .unset, .unset, .unset, .unset, .unset, .unset, .unset, .unset, .unset] [])) t → Steps p.tables e below (s₁.setTop (entryFrame m #[(.int ai), (.int bi), (.int ci), (.int di), (.long pj), (.int fl)] maxLocals)) t := by
        intro t k
        refine pre10 t ?_
        show Steps p.tables e below (T8.setTop (mkF m 75 #[.val (.int ai), .val (.int bi), .val (.int ci), .val (.int di), .val (.long pj), .second, .val (.int fl), .val (.int (v_cap fl)), .val (.int (v_s0 ai fl)), .val (.int (v_s1 bi fl)), .val (.int (v_s2 ci fl)), .val (.int (v_s3 di fl)), .val (.ref b5), .unset, .unset, .unset, .unset, .unset, .unset, .unset, .unset, .unset, .unset, .unset] [(.int (v_cap fl)), (.int (1 : Int32))])) _
        refine XS.icmpNo X8.here hx rfl (hb hby at_75) rfl (tlt hc11).2.1 ?_
        show Steps p.tables e below (T8.setTop (mkF m 78 #[.val (.int ai), .val (.int bi), .val (.int ci), .val (.int di), .val (.long pj), .second, .val (.int fl), .val (.int (v_cap fl)), .val (.int (v_s0 ai fl)), .val (.int (v_s1 bi fl)), .val (.int (v_s2 ci fl)), .val (.int (v_s3 di fl)), .val (.ref b5), .unset, .unset, .unset, .unset, .unset, .unset, .unset, .unset, .unset, .unset, .unset] [])) _
        refine XS.aload X8.here hx rfl (hb hby at_78) rfl rfl ?_
        show Steps p.tables e below (T8.setTop (mkF m 80 #[.val (.int ai), .val (.int bi), .val (.int ci), .val (.int di), .val (.long pj), .second, .val (.int fl), .val (.int (v_cap fl)), .val (.int (v_s0 ai fl)), .val (.int (v_s1 bi fl)), .val (.int (v_s2 ci fl)), .val (.int (v_s3 di fl)), .val (.ref b5), .unset, .unset, .unset, .unset, .unset, .unset, .unset, .unset, .unset, .unset, .unset] [(.ref b5)])) _
        refine XS.iconst X8.here hx rfl (hb hby at_80) ?_
        show Steps p.tables e below (T8.setTop (mkF m 81 #[.val (.int ai), .val (.int bi), .val (.int ci), .val (.int di), .val (.long pj), .second, .val (.int fl), .val (.int (v_cap fl)), .val (.int (v_s0 ai fl)), .val (.int (v_s1 bi fl)), .val (.int (v_s2 ci fl)), .val (.int (v_s3 di fl)), .val (.ref b5), .unset, .unset, .unset, .unset, .unset, .unset, .unset, .unset, .unset, .unset, .unset] [(.int (1 : Int32)), (.ref b5)])) _
        refine XS.iload X8.here hx rfl (hb hby at_81) rfl ?_
        show Steps p.tables e below (T8.setTop (mkF m 83 #[.val (.int ai), .val (.int bi), .val (.int ci), .val (.int di), .val (.long pj), .second, .val (.int fl), .val (.int (v_cap fl)), .val (.int (v_s0 ai fl)), .val (.int (v_s1 bi fl)), .val (.int (v_s2 ci fl)), .val (.int (v_s3 di fl)), .val (.ref b5), .unset, .unset, .unset, .unset, .unset, .unset, .unset, .unset, .unset, .unset, .unset] [(.int (v_s1 bi fl)), (.int (1 : Int32)), (.ref b5)])) _
        refine st12.trans ?_
        exact k
      refine ⟨T12, _, _, X12, rfl, N12, ⟨k13_0, k13_1, k13_2, k13_3, (by rw [(show (v_tB ai bi fl) = (Fset_t (1 : Int32) (v_s1 bi fl) (v_tA ai fl) (v_sA ai fl)) from ((if_pos hc11).trans rfl))]; exact k13_4), (by rw [(show (v_nB ai bi fl) = (Fset_n (1 : Int32) (v_s1 bi fl) ((v_cap fl) + (1 : Int32)) (v_nA ai fl) (v_sA ai fl)) from ((if_pos hc11).trans rfl))]; exact k13_5), (by rw [(show (v_sB ai bi fl) = (Fset_s (1 : Int32) (v_s1 bi fl) (v_sA ai fl)) from ((if_pos hc11).trans rfl))]; exact k13_6), k13_g_ob, k13_g_an, k13_g_as, k13_n_ob_an, k13_n_ob_as, k13_n_an_as, k13_sz⟩, fun t k => ?_⟩
      exact pre14 t k
    ·
      have pre15 : ∀ t, Steps p.tables e below (T8.setTop (mkF m 86 #[.val (.int ai), .val (.int bi), .val (.int ci), .val (.int di), .val (.long pj), .second, .val (.int fl), .val (.int (v_cap fl)), .val (.int (v_s0 ai fl)), .val (.int (v_s1 bi fl)), .val (.int (v_s2 ci fl)), .val (.int (v_s3 di fl)), .val (.ref b5), .unset, .unset, .unset, .unset, .unset, .unset, .unset, .unset, .unset, .unset, .unset] [])) t → Steps p.tables e below (s₁.setTop (entryFrame m #[(.int ai), (.int bi), (.int ci), (.int di), (.long pj), (.int fl)] maxLocals)) t := by
        intro t k
        refine pre10 t ?_
        show Steps p.tables e below (T8.setTop (mkF m 75 #[.val (.int ai), .val (.int bi), .val (.int ci), .val (.int di), .val (.long pj), .second, .val (.int fl), .val (.int (v_cap fl)), .val (.int (v_s0 ai fl)), .val (.int (v_s1 bi fl)), .val (.int (v_s2 ci fl)), .val (.int (v_s3 di fl)), .val (.ref b5), .unset, .unset, .unset, .unset, .unset, .unset, .unset, .unset, .unset, .unset, .unset] [(.int (v_cap fl)), (.int (1 : Int32))])) _
        refine XS.icmpYes X8.here hx rfl (pc0 := 75) (pc' := 86) rfl (hb hby at_75) rfl (flt hc11).2.1 (by decide) (by decide) ?_
        exact k
      refine ⟨T8, _, _, X8, rfl, N8, ⟨k9_0, k9_1, k9_2, k9_3, (by rw [(show (v_tB ai bi fl) = (v_tA ai fl) from ((if_neg hc11).trans rfl))]; exact k9_4), (by rw [(show (v_nB ai bi fl) = (v_nA ai fl) from ((if_neg hc11).trans rfl))]; exact k9_5), (by rw [(show (v_sB ai bi fl) = (v_sA ai fl) from ((if_neg hc11).trans rfl))]; exact k9_6), k9_g_ob, k9_g_an, k9_g_as, k9_n_ob_an, k9_n_ob_as, k9_n_an_as, k9_sz⟩, fun t k => ?_⟩
      exact pre15 t k
  obtain ⟨k17_0, k17_1, k17_2, k17_3, k17_4, k17_5, k17_6, k17_g_ob, k17_g_an, k17_g_as, k17_n_ob_an, k17_n_ob_as, k17_n_an_as, k17_sz⟩ := I16
  have pre18 : ∀ t, Steps p.tables e below (T16.setTop (mkF m 89 #[.val (.int ai), .val (.int bi), .val (.int ci), .val (.int di), .val (.long pj), .second, .val (.int fl), .val (.int (v_cap fl)), .val (.int (v_s0 ai fl)), .val (.int (v_s1 bi fl)), .val (.int (v_s2 ci fl)), .val (.int (v_s3 di fl)), .val (.ref b5), .unset, .unset, .unset, .unset, .unset, .unset, .unset, .unset, .unset, .unset, .unset] [(.int (v_cap fl)), (.int (2 : Int32))])) t → Steps p.tables e below (s₁.setTop (entryFrame m #[(.int ai), (.int bi), (.int ci), (.int di), (.long pj), (.int fl)] maxLocals)) t := by
    intro t k
    refine pre16 t ?_
    show Steps p.tables e below (T16.setTop (mkF m 86 #[.val (.int ai), .val (.int bi), .val (.int ci), .val (.int di), .val (.long pj), .second, .val (.int fl), .val (.int (v_cap fl)), .val (.int (v_s0 ai fl)), .val (.int (v_s1 bi fl)), .val (.int (v_s2 ci fl)), .val (.int (v_s3 di fl)), .val (.ref b5), .unset, .unset, .unset, .unset, .unset, .unset, .unset, .unset, .unset, .unset, .unset] [])) _
    refine XS.iconst X16.here hx rfl (hb hby at_86) ?_
    show Steps p.tables e below (T16.setTop (mkF m 87 #[.val (.int ai), .val (.int bi), .val (.int ci), .val (.int di), .val (.long pj), .second, .val (.int fl), .val (.int (v_cap fl)), .val (.int (v_s0 ai fl)), .val (.int (v_s1 bi fl)), .val (.int (v_s2 ci fl)), .val (.int (v_s3 di fl)), .val (.ref b5), .unset, .unset, .unset, .unset, .unset, .unset, .unset, .unset, .unset, .unset, .unset] [(.int (2 : Int32))])) _
    refine XS.iload X16.here hx rfl (hb hby at_87) rfl ?_
    exact k
  obtain ⟨T24, hh24, L24, X24, e24, N24, I24, pre24⟩ : ∃ (T : State) (hh24 : Heap) (L : List Loc), Stand p l e room_1 s m #[(.int ai), (.int bi), (.int ci), (.int di), (.long pj), (.int fl)] below meth c T L 3 21 ∧ T.heap = hh24 ∧ Fr n0 L ∧ (CS Z hh24 n0 b5 an6 as6 (Fhob (v_cap fl)) (v_tC ai bi ci fl) ((v_cap fl) + (1 : Int32)) (v_nC ai bi ci fl) (v_cap fl) (v_sC ai bi ci fl)) ∧ ∀ t, Steps p.tables e below (T.setTop (mkF m 100 #[.val (.int ai), .val (.int bi), .val (.int ci), .val (.int di), .val (.long pj), .second, .val (.int fl), .val (.int (v_cap fl)), .val (.int (v_s0 ai fl)), .val (.int (v_s1 bi fl)), .val (.int (v_s2 ci fl)), .val (.int (v_s3 di fl)), .val (.ref b5), .unset, .unset, .unset, .unset, .unset, .unset, .unset, .unset, .unset, .unset, .unset] [])) t → Steps p.tables e below (s₁.setTop (entryFrame m #[(.int ai), (.int bi), (.int ci), (.int di), (.long pj), (.int fl)] maxLocals)) t := by
    by_cases hc19 : (2 : Int32) < (v_cap fl)
    ·
      obtain ⟨cq20, kq20, q20a, q20b, q20c⟩ := isOf hZ e16 k17_0
      obtain ⟨_, _, ⟨T20, L20, k20, n20⟩, -, X20, ⟨Lc20, hQ20, l20, y20, z20⟩, st20⟩ := X16.virtualBack hx (y := (⟨"com/example/dealer/dealer/ChangingShares", "set", "(II)V"⟩ : MethodName)) (z := (⟨"com/example/dealer/dealer/ChangingShares", "set", "(II)V"⟩ : MethodName)) hown (mvT hZ (hw _ (List.mem_of_getElem? (i := 31) rfl))) (mvT hZ (hw _ (List.mem_of_getElem? (i := 32) rfl))) (notFace_of_selects (args := #[]) (mvT hZ (hw _ (List.mem_of_getElem? (i := 34) rfl)))) (mvT hZ (hw _ (List.mem_of_getElem? (i := 34) rfl))) (mvT hZ (hw _ (List.mem_of_getElem? (i := 33) rfl))) (by decide) (backOf (W := 0) (rm6 l Z a0 hw [] b5 (2 : Int32) (v_s2 ci fl) an6 as6 (Fhob (v_cap fl)) (v_tB ai bi fl) ((v_cap fl) + (1 : Int32)) (v_nB ai bi fl) (v_cap fl) (v_sB ai bi fl) hh16 n0 k17_sz ⟨k17_0, k17_1, k17_2, k17_3, k17_4, k17_5, k17_6, k17_g_ob, k17_g_an, k17_g_as, k17_n_ob_an, k17_n_ob_as, k17_n_an_as, k17_sz⟩ (own_setp fl 2 (by decide) hc19).1 (own_setp fl 2 (by decide) hc19).2.1 (own_setp fl 2 (by decide) hc19).2.2) hZ (hw _ (List.mem_of_getElem? (i := 35) rfl)) (hw _ (List.mem_of_getElem? (i := 7) rfl)) (by decide) (by decide)) q20a q20c (g := (mkF m 97 #[.val (.int ai), .val (.int bi), .val (.int ci), .val (.int di), .val (.long pj), .second, .val (.int fl), .val (.int (v_cap fl)), .val (.int (v_s0 ai fl)), .val (.int (v_s1 bi fl)), .val (.int (v_s2 ci fl)), .val (.int (v_s3 di fl)), .val (.ref b5), .unset, .unset, .unset, .unset, .unset, .unset, .unset, .unset, .unset, .unset, .unset] [(.int (v_s2 ci fl)), (.int (2 : Int32)), (.ref b5)])) rfl (by rw [hml]; rfl) (Steps.refl _) (argsL := [(.int (2 : Int32)), (.int (v_s2 ci fl))]) (rest := []) (lenOf pd_4 rfl) rfl (by show 2 * 0 + _ ≤ _; exact Nat.le_of_eq rfl) (hb hby at_97) (fun _ _ => ⟨rfl, e16, (by decide : 3 + 0 ≤ _), (by decide : 21 + 0 ≤ _)⟩)
      dsimp only [Pt.U, Pt.locs, Pt.cells, Pt.slots] at X20 l20 y20 z20 st20 hQ20
      subst y20 z20
      obtain ⟨rfl, N20q, I20⟩ := hQ20
      obtain ⟨k21_0, k21_1, k21_2, k21_3, k21_4, k21_5, k21_6, k21_g_ob, k21_g_an, k21_g_as, k21_n_ob_an, k21_n_ob_as, k21_n_an_as, k21_sz⟩ := I20
      have N20 : Fr n0 L20 := by rw [l20]; exact Fr.app N16 N20q
      have pre22 : ∀ t, Steps p.tables e below (T20.setTop (mkF m 100 #[.val (.int ai), .val (.int bi), .val (.int ci), .val (.int di), .val (.long pj), .second, .val (.int fl), .val (.int (v_cap fl)), .val (.int (v_s0 ai fl)), .val (.int (v_s1 bi fl)), .val (.int (v_s2 ci fl)), .val (.int (v_s3 di fl)), .val (.ref b5), .unset, .unset, .unset, .unset, .unset, .unset, .unset, .unset, .unset, .unset, .unset] [])) t → Steps p.tables e below (s₁.setTop (entryFrame m #[(.int ai), (.int bi), (.int ci), (.int di), (.long pj), (.int fl)] maxLocals)) t := by
        intro t k
        refine pre18 t ?_
        show Steps p.tables e below (T16.setTop (mkF m 89 #[.val (.int ai), .val (.int bi), .val (.int ci), .val (.int di), .val (.long pj), .second, .val (.int fl), .val (.int (v_cap fl)), .val (.int (v_s0 ai fl)), .val (.int (v_s1 bi fl)), .val (.int (v_s2 ci fl)), .val (.int (v_s3 di fl)), .val (.ref b5), .unset, .unset, .unset, .unset, .unset, .unset, .unset, .unset, .unset, .unset, .unset] [(.int (v_cap fl)), (.int (2 : Int32))])) _
        refine XS.icmpNo X16.here hx rfl (hb hby at_89) rfl (tlt hc19).2.1 ?_
        show Steps p.tables e below (T16.setTop (mkF m 92 #[.val (.int ai), .val (.int bi), .val (.int ci), .val (.int di), .val (.long pj), .second, .val (.int fl), .val (.int (v_cap fl)), .val (.int (v_s0 ai fl)), .val (.int (v_s1 bi fl)), .val (.int (v_s2 ci fl)), .val (.int (v_s3 di fl)), .val (.ref b5), .unset, .unset, .unset, .unset, .unset, .unset, .unset, .unset, .unset, .unset, .unset] [])) _
        refine XS.aload X16.here hx rfl (hb hby at_92) rfl rfl ?_
        show Steps p.tables e below (T16.setTop (mkF m 94 #[.val (.int ai), .val (.int bi), .val (.int ci), .val (.int di), .val (.long pj), .second, .val (.int fl), .val (.int (v_cap fl)), .val (.int (v_s0 ai fl)), .val (.int (v_s1 bi fl)), .val (.int (v_s2 ci fl)), .val (.int (v_s3 di fl)), .val (.ref b5), .unset, .unset, .unset, .unset, .unset, .unset, .unset, .unset, .unset, .unset, .unset] [(.ref b5)])) _
        refine XS.iconst X16.here hx rfl (hb hby at_94) ?_
        show Steps p.tables e below (T16.setTop (mkF m 95 #[.val (.int ai), .val (.int bi), .val (.int ci), .val (.int di), .val (.long pj), .second, .val (.int fl), .val (.int (v_cap fl)), .val (.int (v_s0 ai fl)), .val (.int (v_s1 bi fl)), .val (.int (v_s2 ci fl)), .val (.int (v_s3 di fl)), .val (.ref b5), .unset, .unset, .unset, .unset, .unset, .unset, .unset, .unset, .unset, .unset, .unset] [(.int (2 : Int32)), (.ref b5)])) _
        refine XS.iload X16.here hx rfl (hb hby at_95) rfl ?_
        show Steps p.tables e below (T16.setTop (mkF m 97 #[.val (.int ai), .val (.int bi), .val (.int ci), .val (.int di), .val (.long pj), .second, .val (.int fl), .val (.int (v_cap fl)), .val (.int (v_s0 ai fl)), .val (.int (v_s1 bi fl)), .val (.int (v_s2 ci fl)), .val (.int (v_s3 di fl)), .val (.ref b5), .unset, .unset, .unset, .unset, .unset, .unset, .unset, .unset, .unset, .unset, .unset] [(.int (v_s2 ci fl)), (.int (2 : Int32)), (.ref b5)])) _
        refine st20.trans ?_
        exact k
      refine ⟨T20, _, _, X20, rfl, N20, ⟨k21_0, k21_1, k21_2, k21_3, (by rw [(show (v_tC ai bi ci fl) = (Fset_t (2 : Int32) (v_s2 ci fl) (v_tB ai bi fl) (v_sB ai bi fl)) from ((if_pos hc19).trans rfl))]; exact k21_4), (by rw [(show (v_nC ai bi ci fl) = (Fset_n (2 : Int32) (v_s2 ci fl) ((v_cap fl) + (1 : Int32)) (v_nB ai bi fl) (v_sB ai bi fl)) from ((if_pos hc19).trans rfl))]; exact k21_5), (by rw [(show (v_sC ai bi ci fl) = (Fset_s (2 : Int32) (v_s2 ci fl) (v_sB ai bi fl)) from ((if_pos hc19).trans rfl))]; exact k21_6), k21_g_ob, k21_g_an, k21_g_as, k21_n_ob_an, k21_n_ob_as, k21_n_an_as, k21_sz⟩, fun t k => ?_⟩
      exact pre22 t k
    ·
      have pre23 : ∀ t, Steps p.tables e below (T16.setTop (mkF m 100 #[.val (.int ai), .val (.int bi), .val (.int ci), .val (.int di), .val (.long pj), .second, .val (.int fl), .val (.int (v_cap fl)), .val (.int (v_s0 ai fl)), .val (.int (v_s1 bi fl)), .val (.int (v_s2 ci fl)), .val (.int (v_s3 di fl)), .val (.ref b5), .unset, .unset, .unset, .unset, .unset, .unset, .unset, .unset, .unset, .unset, .unset] [])) t → Steps p.tables e below (s₁.setTop (entryFrame m #[(.int ai), (.int bi), (.int ci), (.int di), (.long pj), (.int fl)] maxLocals)) t := by
        intro t k
        refine pre18 t ?_
        show Steps p.tables e below (T16.setTop (mkF m 89 #[.val (.int ai), .val (.int bi), .val (.int ci), .val (.int di), .val (.long pj), .second, .val (.int fl), .val (.int (v_cap fl)), .val (.int (v_s0 ai fl)), .val (.int (v_s1 bi fl)), .val (.int (v_s2 ci fl)), .val (.int (v_s3 di fl)), .val (.ref b5), .unset, .unset, .unset, .unset, .unset, .unset, .unset, .unset, .unset, .unset, .unset] [(.int (v_cap fl)), (.int (2 : Int32))])) _
        refine XS.icmpYes X16.here hx rfl (pc0 := 89) (pc' := 100) rfl (hb hby at_89) rfl (flt hc19).2.1 (by decide) (by decide) ?_
        exact k
      refine ⟨T16, _, _, X16, e16, N16, ⟨k17_0, k17_1, k17_2, k17_3, (by rw [(show (v_tC ai bi ci fl) = (v_tB ai bi fl) from ((if_neg hc19).trans rfl))]; exact k17_4), (by rw [(show (v_nC ai bi ci fl) = (v_nB ai bi fl) from ((if_neg hc19).trans rfl))]; exact k17_5), (by rw [(show (v_sC ai bi ci fl) = (v_sB ai bi fl) from ((if_neg hc19).trans rfl))]; exact k17_6), k17_g_ob, k17_g_an, k17_g_as, k17_n_ob_an, k17_n_ob_as, k17_n_an_as, k17_sz⟩, fun t k => ?_⟩
      exact pre23 t k
  obtain ⟨k25_0, k25_1, k25_2, k25_3, k25_4, k25_5, k25_6, k25_g_ob, k25_g_an, k25_g_as, k25_n_ob_an, k25_n_ob_as, k25_n_an_as, k25_sz⟩ := I24
  have pre26 : ∀ t, Steps p.tables e below (T24.setTop (mkF m 103 #[.val (.int ai), .val (.int bi), .val (.int ci), .val (.int di), .val (.long pj), .second, .val (.int fl), .val (.int (v_cap fl)), .val (.int (v_s0 ai fl)), .val (.int (v_s1 bi fl)), .val (.int (v_s2 ci fl)), .val (.int (v_s3 di fl)), .val (.ref b5), .unset, .unset, .unset, .unset, .unset, .unset, .unset, .unset, .unset, .unset, .unset] [(.int (v_cap fl)), (.int (3 : Int32))])) t → Steps p.tables e below (s₁.setTop (entryFrame m #[(.int ai), (.int bi), (.int ci), (.int di), (.long pj), (.int fl)] maxLocals)) t := by
    intro t k
    refine pre24 t ?_
    show Steps p.tables e below (T24.setTop (mkF m 100 #[.val (.int ai), .val (.int bi), .val (.int ci), .val (.int di), .val (.long pj), .second, .val (.int fl), .val (.int (v_cap fl)), .val (.int (v_s0 ai fl)), .val (.int (v_s1 bi fl)), .val (.int (v_s2 ci fl)), .val (.int (v_s3 di fl)), .val (.ref b5), .unset, .unset, .unset, .unset, .unset, .unset, .unset, .unset, .unset, .unset, .unset] [])) _
    refine XS.iconst X24.here hx rfl (hb hby at_100) ?_
    show Steps p.tables e below (T24.setTop (mkF m 101 #[.val (.int ai), .val (.int bi), .val (.int ci), .val (.int di), .val (.long pj), .second, .val (.int fl), .val (.int (v_cap fl)), .val (.int (v_s0 ai fl)), .val (.int (v_s1 bi fl)), .val (.int (v_s2 ci fl)), .val (.int (v_s3 di fl)), .val (.ref b5), .unset, .unset, .unset, .unset, .unset, .unset, .unset, .unset, .unset, .unset, .unset] [(.int (3 : Int32))])) _
    refine XS.iload X24.here hx rfl (hb hby at_101) rfl ?_
    exact k
  obtain ⟨T32, hh32, L32, X32, e32, N32, I32, pre32⟩ : ∃ (T : State) (hh32 : Heap) (L : List Loc), Stand p l e room_1 s m #[(.int ai), (.int bi), (.int ci), (.int di), (.long pj), (.int fl)] below meth c T L 3 21 ∧ T.heap = hh32 ∧ Fr n0 L ∧ (CS Z hh32 n0 b5 an6 as6 (Fhob (v_cap fl)) (v_tD ai bi ci di fl) ((v_cap fl) + (1 : Int32)) (v_nD ai bi ci di fl) (v_cap fl) (v_sD ai bi ci di fl)) ∧ ∀ t, Steps p.tables e below (T.setTop (mkF m 114 #[.val (.int ai), .val (.int bi), .val (.int ci), .val (.int di), .val (.long pj), .second, .val (.int fl), .val (.int (v_cap fl)), .val (.int (v_s0 ai fl)), .val (.int (v_s1 bi fl)), .val (.int (v_s2 ci fl)), .val (.int (v_s3 di fl)), .val (.ref b5), .unset, .unset, .unset, .unset, .unset, .unset, .unset, .unset, .unset, .unset, .unset] [])) t → Steps p.tables e below (s₁.setTop (entryFrame m #[(.int ai), (.int bi), (.int ci), (.int di), (.long pj), (.int fl)] maxLocals)) t := by
    by_cases hc27 : (3 : Int32) < (v_cap fl)
    ·
      obtain ⟨cq28, kq28, q28a, q28b, q28c⟩ := isOf hZ e24 k25_0
      obtain ⟨_, _, ⟨T28, L28, k28, n28⟩, -, X28, ⟨Lc28, hQ28, l28, y28, z28⟩, st28⟩ := X24.virtualBack hx (y := (⟨"com/example/dealer/dealer/ChangingShares", "set", "(II)V"⟩ : MethodName)) (z := (⟨"com/example/dealer/dealer/ChangingShares", "set", "(II)V"⟩ : MethodName)) hown (mvT hZ (hw _ (List.mem_of_getElem? (i := 31) rfl))) (mvT hZ (hw _ (List.mem_of_getElem? (i := 32) rfl))) (notFace_of_selects (args := #[]) (mvT hZ (hw _ (List.mem_of_getElem? (i := 34) rfl)))) (mvT hZ (hw _ (List.mem_of_getElem? (i := 34) rfl))) (mvT hZ (hw _ (List.mem_of_getElem? (i := 33) rfl))) (by decide) (backOf (W := 0) (rm6 l Z a0 hw [] b5 (3 : Int32) (v_s3 di fl) an6 as6 (Fhob (v_cap fl)) (v_tC ai bi ci fl) ((v_cap fl) + (1 : Int32)) (v_nC ai bi ci fl) (v_cap fl) (v_sC ai bi ci fl) hh24 n0 k25_sz ⟨k25_0, k25_1, k25_2, k25_3, k25_4, k25_5, k25_6, k25_g_ob, k25_g_an, k25_g_as, k25_n_ob_an, k25_n_ob_as, k25_n_an_as, k25_sz⟩ (own_setp fl 3 (by decide) hc27).1 (own_setp fl 3 (by decide) hc27).2.1 (own_setp fl 3 (by decide) hc27).2.2) hZ (hw _ (List.mem_of_getElem? (i := 35) rfl)) (hw _ (List.mem_of_getElem? (i := 7) rfl)) (by decide) (by decide)) q28a q28c (g := (mkF m 111 #[.val (.int ai), .val (.int bi), .val (.int ci), .val (.int di), .val (.long pj), .second, .val (.int fl), .val (.int (v_cap fl)), .val (.int (v_s0 ai fl)), .val (.int (v_s1 bi fl)), .val (.int (v_s2 ci fl)), .val (.int (v_s3 di fl)), .val (.ref b5), .unset, .unset, .unset, .unset, .unset, .unset, .unset, .unset, .unset, .unset, .unset] [(.int (v_s3 di fl)), (.int (3 : Int32)), (.ref b5)])) rfl (by rw [hml]; rfl) (Steps.refl _) (argsL := [(.int (3 : Int32)), (.int (v_s3 di fl))]) (rest := []) (lenOf pd_4 rfl) rfl (by show 2 * 0 + _ ≤ _; exact Nat.le_of_eq rfl) (hb hby at_111) (fun _ _ => ⟨rfl, e24, (by decide : 3 + 0 ≤ _), (by decide : 21 + 0 ≤ _)⟩)
      dsimp only [Pt.U, Pt.locs, Pt.cells, Pt.slots] at X28 l28 y28 z28 st28 hQ28
      subst y28 z28
      obtain ⟨rfl, N28q, I28⟩ := hQ28
      obtain ⟨k29_0, k29_1, k29_2, k29_3, k29_4, k29_5, k29_6, k29_g_ob, k29_g_an, k29_g_as, k29_n_ob_an, k29_n_ob_as, k29_n_an_as, k29_sz⟩ := I28
      have N28 : Fr n0 L28 := by rw [l28]; exact Fr.app N24 N28q
      have pre30 : ∀ t, Steps p.tables e below (T28.setTop (mkF m 114 #[.val (.int ai), .val (.int bi), .val (.int ci), .val (.int di), .val (.long pj), .second, .val (.int fl), .val (.int (v_cap fl)), .val (.int (v_s0 ai fl)), .val (.int (v_s1 bi fl)), .val (.int (v_s2 ci fl)), .val (.int (v_s3 di fl)), .val (.ref b5), .unset, .unset, .unset, .unset, .unset, .unset, .unset, .unset, .unset, .unset, .unset] [])) t → Steps p.tables e below (s₁.setTop (entryFrame m #[(.int ai), (.int bi), (.int ci), (.int di), (.long pj), (.int fl)] maxLocals)) t := by
        intro t k
        refine pre26 t ?_
        show Steps p.tables e below (T24.setTop (mkF m 103 #[.val (.int ai), .val (.int bi), .val (.int ci), .val (.int di), .val (.long pj), .second, .val (.int fl), .val (.int (v_cap fl)), .val (.int (v_s0 ai fl)), .val (.int (v_s1 bi fl)), .val (.int (v_s2 ci fl)), .val (.int (v_s3 di fl)), .val (.ref b5), .unset, .unset, .unset, .unset, .unset, .unset, .unset, .unset, .unset, .unset, .unset] [(.int (v_cap fl)), (.int (3 : Int32))])) _
        refine XS.icmpNo X24.here hx rfl (hb hby at_103) rfl (tlt hc27).2.1 ?_
        show Steps p.tables e below (T24.setTop (mkF m 106 #[.val (.int ai), .val (.int bi), .val (.int ci), .val (.int di), .val (.long pj), .second, .val (.int fl), .val (.int (v_cap fl)), .val (.int (v_s0 ai fl)), .val (.int (v_s1 bi fl)), .val (.int (v_s2 ci fl)), .val (.int (v_s3 di fl)), .val (.ref b5), .unset, .unset, .unset, .unset, .unset, .unset, .unset, .unset, .unset, .unset, .unset] [])) _
        refine XS.aload X24.here hx rfl (hb hby at_106) rfl rfl ?_
        show Steps p.tables e below (T24.setTop (mkF m 108 #[.val (.int ai), .val (.int bi), .val (.int ci), .val (.int di), .val (.long pj), .second, .val (.int fl), .val (.int (v_cap fl)), .val (.int (v_s0 ai fl)), .val (.int (v_s1 bi fl)), .val (.int (v_s2 ci fl)), .val (.int (v_s3 di fl)), .val (.ref b5), .unset, .unset, .unset, .unset, .unset, .unset, .unset, .unset, .unset, .unset, .unset] [(.ref b5)])) _
        refine XS.iconst X24.here hx rfl (hb hby at_108) ?_
        show Steps p.tables e below (T24.setTop (mkF m 109 #[.val (.int ai), .val (.int bi), .val (.int ci), .val (.int di), .val (.long pj), .second, .val (.int fl), .val (.int (v_cap fl)), .val (.int (v_s0 ai fl)), .val (.int (v_s1 bi fl)), .val (.int (v_s2 ci fl)), .val (.int (v_s3 di fl)), .val (.ref b5), .unset, .unset, .unset, .unset, .unset, .unset, .unset, .unset, .unset, .unset, .unset] [(.int (3 : Int32)), (.ref b5)])) _
        refine XS.iload X24.here hx rfl (hb hby at_109) rfl ?_
        show Steps p.tables e below (T24.setTop (mkF m 111 #[.val (.int ai), .val (.int bi), .val (.int ci), .val (.int di), .val (.long pj), .second, .val (.int fl), .val (.int (v_cap fl)), .val (.int (v_s0 ai fl)), .val (.int (v_s1 bi fl)), .val (.int (v_s2 ci fl)), .val (.int (v_s3 di fl)), .val (.ref b5), .unset, .unset, .unset, .unset, .unset, .unset, .unset, .unset, .unset, .unset, .unset] [(.int (v_s3 di fl)), (.int (3 : Int32)), (.ref b5)])) _
        refine st28.trans ?_
        exact k
      refine ⟨T28, _, _, X28, rfl, N28, ⟨k29_0, k29_1, k29_2, k29_3, (by rw [(show (v_tD ai bi ci di fl) = (Fset_t (3 : Int32) (v_s3 di fl) (v_tC ai bi ci fl) (v_sC ai bi ci fl)) from ((if_pos hc27).trans rfl))]; exact k29_4), (by rw [(show (v_nD ai bi ci di fl) = (Fset_n (3 : Int32) (v_s3 di fl) ((v_cap fl) + (1 : Int32)) (v_nC ai bi ci fl) (v_sC ai bi ci fl)) from ((if_pos hc27).trans rfl))]; exact k29_5), (by rw [(show (v_sD ai bi ci di fl) = (Fset_s (3 : Int32) (v_s3 di fl) (v_sC ai bi ci fl)) from ((if_pos hc27).trans rfl))]; exact k29_6), k29_g_ob, k29_g_an, k29_g_as, k29_n_ob_an, k29_n_ob_as, k29_n_an_as, k29_sz⟩, fun t k => ?_⟩
      exact pre30 t k
    ·
      have pre31 : ∀ t, Steps p.tables e below (T24.setTop (mkF m 114 #[.val (.int ai), .val (.int bi), .val (.int ci), .val (.int di), .val (.long pj), .second, .val (.int fl), .val (.int (v_cap fl)), .val (.int (v_s0 ai fl)), .val (.int (v_s1 bi fl)), .val (.int (v_s2 ci fl)), .val (.int (v_s3 di fl)), .val (.ref b5), .unset, .unset, .unset, .unset, .unset, .unset, .unset, .unset, .unset, .unset, .unset] [])) t → Steps p.tables e below (s₁.setTop (entryFrame m #[(.int ai), (.int bi), (.int ci), (.int di), (.long pj), (.int fl)] maxLocals)) t := by
        intro t k
        refine pre26 t ?_
        show Steps p.tables e below (T24.setTop (mkF m 103 #[.val (.int ai), .val (.int bi), .val (.int ci), .val (.int di), .val (.long pj), .second, .val (.int fl), .val (.int (v_cap fl)), .val (.int (v_s0 ai fl)), .val (.int (v_s1 bi fl)), .val (.int (v_s2 ci fl)), .val (.int (v_s3 di fl)), .val (.ref b5), .unset, .unset, .unset, .unset, .unset, .unset, .unset, .unset, .unset, .unset, .unset] [(.int (v_cap fl)), (.int (3 : Int32))])) _
        refine XS.icmpYes X24.here hx rfl (pc0 := 103) (pc' := 114) rfl (hb hby at_103) rfl (flt hc27).2.1 (by decide) (by decide) ?_
        exact k
      refine ⟨T24, _, _, X24, e24, N24, ⟨k25_0, k25_1, k25_2, k25_3, (by rw [(show (v_tD ai bi ci di fl) = (v_tC ai bi ci fl) from ((if_neg hc27).trans rfl))]; exact k25_4), (by rw [(show (v_nD ai bi ci di fl) = (v_nC ai bi ci fl) from ((if_neg hc27).trans rfl))]; exact k25_5), (by rw [(show (v_sD ai bi ci di fl) = (v_sC ai bi ci fl) from ((if_neg hc27).trans rfl))]; exact k25_6), k25_g_ob, k25_g_an, k25_g_as, k25_n_ob_an, k25_n_ob_as, k25_n_an_as, k25_sz⟩, fun t k => ?_⟩
      exact pre31 t k
  obtain ⟨k33_0, k33_1, k33_2, k33_3, k33_4, k33_5, k33_6, k33_g_ob, k33_g_an, k33_g_as, k33_n_ob_an, k33_n_ob_as, k33_n_an_as, k33_sz⟩ := I32
  obtain ⟨cq34, kq34, q34a, q34b, q34c⟩ := isOf hZ e32 k33_0
  obtain ⟨_, _, ⟨T34, L34, k34, n34⟩, -, X34, ⟨Lc34, hQ34, l34, y34, z34⟩, st34⟩ := X32.virtualBack hx (y := (⟨"com/example/dealer/dealer/ChangingShares", "total", "()J"⟩ : MethodName)) (z := (⟨"com/example/dealer/dealer/ChangingShares", "total", "()J"⟩ : MethodName)) hown (mvT hZ (hw _ (List.mem_of_getElem? (i := 38) rfl))) (mvT hZ (hw _ (List.mem_of_getElem? (i := 39) rfl))) (notFace_of_selects (args := #[]) (mvT hZ (hw _ (List.mem_of_getElem? (i := 41) rfl)))) (mvT hZ (hw _ (List.mem_of_getElem? (i := 41) rfl))) (mvT hZ (hw _ (List.mem_of_getElem? (i := 40) rfl))) (by decide) (backOf (W := 0) (rm7 l Z a0 hw [] b5 an6 as6 (Fhob (v_cap fl)) (v_tD ai bi ci di fl) ((v_cap fl) + (1 : Int32)) (v_nD ai bi ci di fl) (v_cap fl) (v_sD ai bi ci di fl) hh32 n0 k33_sz ⟨k33_0, k33_1, k33_2, k33_3, k33_4, k33_5, k33_6, k33_g_ob, k33_g_an, k33_g_as, k33_n_ob_an, k33_n_ob_as, k33_n_an_as, k33_sz⟩) hZ (hw _ (List.mem_of_getElem? (i := 42) rfl)) (hw _ (List.mem_of_getElem? (i := 7) rfl)) (by decide) (by decide)) q34a q34c (g := (mkF m 145 #[.val (.int ai), .val (.int bi), .val (.int ci), .val (.int di), .val (.long pj), .second, .val (.int fl), .val (.int (v_cap fl)), .val (.int (v_s0 ai fl)), .val (.int (v_s1 bi fl)), .val (.int (v_s2 ci fl)), .val (.int (v_s3 di fl)), .val (.ref b5), .val (.long (v_p0 ai fl)), .second, .val (.long (v_p1 ai bi fl)), .second, .val (.long (v_p2 ai bi ci fl)), .second, .val (.long (v_tot ai bi ci di fl)), .second, .unset, .unset, .unset] [(.ref b5)])) rfl (by rw [hml]; rfl) (Steps.refl _) (argsL := []) (rest := []) (lenOf pd_5 rfl) rfl (by show 2 * 0 + _ ≤ _; exact Nat.le_of_eq rfl) (hb hby at_145) (fun _ _ => ⟨rfl, e32, (by decide : 3 + 0 ≤ _), (by decide : 21 + 0 ≤ _)⟩)
  dsimp only [Pt.U, Pt.locs, Pt.cells, Pt.slots] at X34 l34 y34 z34 st34 hQ34
  subst y34 z34
  obtain ⟨rfl, N34q, e34⟩ := hQ34
  have N34 : Fr n0 L34 := by rw [l34]; exact Fr.app N32 N34q
  have pre35 : ∀ t, Steps p.tables e below (T34.setTop (mkF m 160 #[.val (.int ai), .val (.int bi), .val (.int ci), .val (.int di), .val (.long pj), .second, .val (.int fl), .val (.int (v_cap fl)), .val (.int (v_s0 ai fl)), .val (.int (v_s1 bi fl)), .val (.int (v_s2 ci fl)), .val (.int (v_s3 di fl)), .val (.ref b5), .val (.long (v_p0 ai fl)), .second, .val (.long (v_p1 ai bi fl)), .second, .val (.long (v_p2 ai bi ci fl)), .second, .val (.long (v_tot ai bi ci di fl)), .second, .unset, .unset, .unset] [(.int (lcmpW (v_tot ai bi ci di fl) (0 : Int64)))])) t → Steps p.tables e below (s₁.setTop (entryFrame m #[(.int ai), (.int bi), (.int ci), (.int di), (.long pj), (.int fl)] maxLocals)) t := by
    intro t k
    refine pre32 t ?_
    show Steps p.tables e below (T32.setTop (mkF m 114 #[.val (.int ai), .val (.int bi), .val (.int ci), .val (.int di), .val (.long pj), .second, .val (.int fl), .val (.int (v_cap fl)), .val (.int (v_s0 ai fl)), .val (.int (v_s1 bi fl)), .val (.int (v_s2 ci fl)), .val (.int (v_s3 di fl)), .val (.ref b5), .unset, .unset, .unset, .unset, .unset, .unset, .unset, .unset, .unset, .unset, .unset] [])) _
    refine XS.iload X32.here hx rfl (hb hby at_114) rfl ?_
    show Steps p.tables e below (T32.setTop (mkF m 116 #[.val (.int ai), .val (.int bi), .val (.int ci), .val (.int di), .val (.long pj), .second, .val (.int fl), .val (.int (v_cap fl)), .val (.int (v_s0 ai fl)), .val (.int (v_s1 bi fl)), .val (.int (v_s2 ci fl)), .val (.int (v_s3 di fl)), .val (.ref b5), .unset, .unset, .unset, .unset, .unset, .unset, .unset, .unset, .unset, .unset, .unset] [(.int (v_s0 ai fl))])) _
    refine XS.i2l X32.here hx rfl (hb hby at_116) rfl ?_
    show Steps p.tables e below (T32.setTop (mkF m 117 #[.val (.int ai), .val (.int bi), .val (.int ci), .val (.int di), .val (.long pj), .second, .val (.int fl), .val (.int (v_cap fl)), .val (.int (v_s0 ai fl)), .val (.int (v_s1 bi fl)), .val (.int (v_s2 ci fl)), .val (.int (v_s3 di fl)), .val (.ref b5), .unset, .unset, .unset, .unset, .unset, .unset, .unset, .unset, .unset, .unset, .unset] [(.long ((v_s0 ai fl).toInt64))])) _
    refine XS.lstore X32.here hx rfl (hb hby at_117) rfl (l' := #[.val (.int ai), .val (.int bi), .val (.int ci), .val (.int di), .val (.long pj), .second, .val (.int fl), .val (.int (v_cap fl)), .val (.int (v_s0 ai fl)), .val (.int (v_s1 bi fl)), .val (.int (v_s2 ci fl)), .val (.int (v_s3 di fl)), .val (.ref b5), .val (.long (v_p0 ai fl)), .second, .unset, .unset, .unset, .unset, .unset, .unset, .unset, .unset, .unset]) rfl ?_
    show Steps p.tables e below (T32.setTop (mkF m 119 #[.val (.int ai), .val (.int bi), .val (.int ci), .val (.int di), .val (.long pj), .second, .val (.int fl), .val (.int (v_cap fl)), .val (.int (v_s0 ai fl)), .val (.int (v_s1 bi fl)), .val (.int (v_s2 ci fl)), .val (.int (v_s3 di fl)), .val (.ref b5), .val (.long (v_p0 ai fl)), .second, .unset, .unset, .unset, .unset, .unset, .unset, .unset, .unset, .unset] [])) _
    refine XS.lload X32.here hx rfl (hb hby at_119) rfl ?_
    show Steps p.tables e below (T32.setTop (mkF m 121 #[.val (.int ai), .val (.int bi), .val (.int ci), .val (.int di), .val (.long pj), .second, .val (.int fl), .val (.int (v_cap fl)), .val (.int (v_s0 ai fl)), .val (.int (v_s1 bi fl)), .val (.int (v_s2 ci fl)), .val (.int (v_s3 di fl)), .val (.ref b5), .val (.long (v_p0 ai fl)), .second, .unset, .unset, .unset, .unset, .unset, .unset, .unset, .unset, .unset] [(.long (v_p0 ai fl))])) _
    refine XS.iload X32.here hx rfl (hb hby at_121) rfl ?_
    show Steps p.tables e below (T32.setTop (mkF m 123 #[.val (.int ai), .val (.int bi), .val (.int ci), .val (.int di), .val (.long pj), .second, .val (.int fl), .val (.int (v_cap fl)), .val (.int (v_s0 ai fl)), .val (.int (v_s1 bi fl)), .val (.int (v_s2 ci fl)), .val (.int (v_s3 di fl)), .val (.ref b5), .val (.long (v_p0 ai fl)), .second, .unset, .unset, .unset, .unset, .unset, .unset, .unset, .unset, .unset] [(.int (v_s1 bi fl)), (.long (v_p0 ai fl))])) _
    refine XS.i2l X32.here hx rfl (hb hby at_123) rfl ?_
    show Steps p.tables e below (T32.setTop (mkF m 124 #[.val (.int ai), .val (.int bi), .val (.int ci), .val (.int di), .val (.long pj), .second, .val (.int fl), .val (.int (v_cap fl)), .val (.int (v_s0 ai fl)), .val (.int (v_s1 bi fl)), .val (.int (v_s2 ci fl)), .val (.int (v_s3 di fl)), .val (.ref b5), .val (.long (v_p0 ai fl)), .second, .unset, .unset, .unset, .unset, .unset, .unset, .unset, .unset, .unset] [(.long ((v_s1 bi fl).toInt64)), (.long (v_p0 ai fl))])) _
    refine XS.ladd X32.here hx rfl (hb hby at_124) rfl ?_
    show Steps p.tables e below (T32.setTop (mkF m 125 #[.val (.int ai), .val (.int bi), .val (.int ci), .val (.int di), .val (.long pj), .second, .val (.int fl), .val (.int (v_cap fl)), .val (.int (v_s0 ai fl)), .val (.int (v_s1 bi fl)), .val (.int (v_s2 ci fl)), .val (.int (v_s3 di fl)), .val (.ref b5), .val (.long (v_p0 ai fl)), .second, .unset, .unset, .unset, .unset, .unset, .unset, .unset, .unset, .unset] [(.long ((v_p0 ai fl) + ((v_s1 bi fl).toInt64)))])) _
    refine XS.lstore X32.here hx rfl (hb hby at_125) rfl (l' := #[.val (.int ai), .val (.int bi), .val (.int ci), .val (.int di), .val (.long pj), .second, .val (.int fl), .val (.int (v_cap fl)), .val (.int (v_s0 ai fl)), .val (.int (v_s1 bi fl)), .val (.int (v_s2 ci fl)), .val (.int (v_s3 di fl)), .val (.ref b5), .val (.long (v_p0 ai fl)), .second, .val (.long (v_p1 ai bi fl)), .second, .unset, .unset, .unset, .unset, .unset, .unset, .unset]) rfl ?_
    show Steps p.tables e below (T32.setTop (mkF m 127 #[.val (.int ai), .val (.int bi), .val (.int ci), .val (.int di), .val (.long pj), .second, .val (.int fl), .val (.int (v_cap fl)), .val (.int (v_s0 ai fl)), .val (.int (v_s1 bi fl)), .val (.int (v_s2 ci fl)), .val (.int (v_s3 di fl)), .val (.ref b5), .val (.long (v_p0 ai fl)), .second, .val (.long (v_p1 ai bi fl)), .second, .unset, .unset, .unset, .unset, .unset, .unset, .unset] [])) _
    refine XS.lload X32.here hx rfl (hb hby at_127) rfl ?_
    show Steps p.tables e below (T32.setTop (mkF m 129 #[.val (.int ai), .val (.int bi), .val (.int ci), .val (.int di), .val (.long pj), .second, .val (.int fl), .val (.int (v_cap fl)), .val (.int (v_s0 ai fl)), .val (.int (v_s1 bi fl)), .val (.int (v_s2 ci fl)), .val (.int (v_s3 di fl)), .val (.ref b5), .val (.long (v_p0 ai fl)), .second, .val (.long (v_p1 ai bi fl)), .second, .unset, .unset, .unset, .unset, .unset, .unset, .unset] [(.long (v_p1 ai bi fl))])) _
    refine XS.iload X32.here hx rfl (hb hby at_129) rfl ?_
    show Steps p.tables e below (T32.setTop (mkF m 131 #[.val (.int ai), .val (.int bi), .val (.int ci), .val (.int di), .val (.long pj), .second, .val (.int fl), .val (.int (v_cap fl)), .val (.int (v_s0 ai fl)), .val (.int (v_s1 bi fl)), .val (.int (v_s2 ci fl)), .val (.int (v_s3 di fl)), .val (.ref b5), .val (.long (v_p0 ai fl)), .second, .val (.long (v_p1 ai bi fl)), .second, .unset, .unset, .unset, .unset, .unset, .unset, .unset] [(.int (v_s2 ci fl)), (.long (v_p1 ai bi fl))])) _
    refine XS.i2l X32.here hx rfl (hb hby at_131) rfl ?_
    show Steps p.tables e below (T32.setTop (mkF m 132 #[.val (.int ai), .val (.int bi), .val (.int ci), .val (.int di), .val (.long pj), .second, .val (.int fl), .val (.int (v_cap fl)), .val (.int (v_s0 ai fl)), .val (.int (v_s1 bi fl)), .val (.int (v_s2 ci fl)), .val (.int (v_s3 di fl)), .val (.ref b5), .val (.long (v_p0 ai fl)), .second, .val (.long (v_p1 ai bi fl)), .second, .unset, .unset, .unset, .unset, .unset, .unset, .unset] [(.long ((v_s2 ci fl).toInt64)), (.long (v_p1 ai bi fl))])) _
    refine XS.ladd X32.here hx rfl (hb hby at_132) rfl ?_
    show Steps p.tables e below (T32.setTop (mkF m 133 #[.val (.int ai), .val (.int bi), .val (.int ci), .val (.int di), .val (.long pj), .second, .val (.int fl), .val (.int (v_cap fl)), .val (.int (v_s0 ai fl)), .val (.int (v_s1 bi fl)), .val (.int (v_s2 ci fl)), .val (.int (v_s3 di fl)), .val (.ref b5), .val (.long (v_p0 ai fl)), .second, .val (.long (v_p1 ai bi fl)), .second, .unset, .unset, .unset, .unset, .unset, .unset, .unset] [(.long ((v_p1 ai bi fl) + ((v_s2 ci fl).toInt64)))])) _
    refine XS.lstore X32.here hx rfl (hb hby at_133) rfl (l' := #[.val (.int ai), .val (.int bi), .val (.int ci), .val (.int di), .val (.long pj), .second, .val (.int fl), .val (.int (v_cap fl)), .val (.int (v_s0 ai fl)), .val (.int (v_s1 bi fl)), .val (.int (v_s2 ci fl)), .val (.int (v_s3 di fl)), .val (.ref b5), .val (.long (v_p0 ai fl)), .second, .val (.long (v_p1 ai bi fl)), .second, .val (.long (v_p2 ai bi ci fl)), .second, .unset, .unset, .unset, .unset, .unset]) rfl ?_
    show Steps p.tables e below (T32.setTop (mkF m 135 #[.val (.int ai), .val (.int bi), .val (.int ci), .val (.int di), .val (.long pj), .second, .val (.int fl), .val (.int (v_cap fl)), .val (.int (v_s0 ai fl)), .val (.int (v_s1 bi fl)), .val (.int (v_s2 ci fl)), .val (.int (v_s3 di fl)), .val (.ref b5), .val (.long (v_p0 ai fl)), .second, .val (.long (v_p1 ai bi fl)), .second, .val (.long (v_p2 ai bi ci fl)), .second, .unset, .unset, .unset, .unset, .unset] [])) _
    refine XS.lload X32.here hx rfl (hb hby at_135) rfl ?_
    show Steps p.tables e below (T32.setTop (mkF m 137 #[.val (.int ai), .val (.int bi), .val (.int ci), .val (.int di), .val (.long pj), .second, .val (.int fl), .val (.int (v_cap fl)), .val (.int (v_s0 ai fl)), .val (.int (v_s1 bi fl)), .val (.int (v_s2 ci fl)), .val (.int (v_s3 di fl)), .val (.ref b5), .val (.long (v_p0 ai fl)), .second, .val (.long (v_p1 ai bi fl)), .second, .val (.long (v_p2 ai bi ci fl)), .second, .unset, .unset, .unset, .unset, .unset] [(.long (v_p2 ai bi ci fl))])) _
    refine XS.iload X32.here hx rfl (hb hby at_137) rfl ?_
    show Steps p.tables e below (T32.setTop (mkF m 139 #[.val (.int ai), .val (.int bi), .val (.int ci), .val (.int di), .val (.long pj), .second, .val (.int fl), .val (.int (v_cap fl)), .val (.int (v_s0 ai fl)), .val (.int (v_s1 bi fl)), .val (.int (v_s2 ci fl)), .val (.int (v_s3 di fl)), .val (.ref b5), .val (.long (v_p0 ai fl)), .second, .val (.long (v_p1 ai bi fl)), .second, .val (.long (v_p2 ai bi ci fl)), .second, .unset, .unset, .unset, .unset, .unset] [(.int (v_s3 di fl)), (.long (v_p2 ai bi ci fl))])) _
    refine XS.i2l X32.here hx rfl (hb hby at_139) rfl ?_
    show Steps p.tables e below (T32.setTop (mkF m 140 #[.val (.int ai), .val (.int bi), .val (.int ci), .val (.int di), .val (.long pj), .second, .val (.int fl), .val (.int (v_cap fl)), .val (.int (v_s0 ai fl)), .val (.int (v_s1 bi fl)), .val (.int (v_s2 ci fl)), .val (.int (v_s3 di fl)), .val (.ref b5), .val (.long (v_p0 ai fl)), .second, .val (.long (v_p1 ai bi fl)), .second, .val (.long (v_p2 ai bi ci fl)), .second, .unset, .unset, .unset, .unset, .unset] [(.long ((v_s3 di fl).toInt64)), (.long (v_p2 ai bi ci fl))])) _
    refine XS.ladd X32.here hx rfl (hb hby at_140) rfl ?_
    show Steps p.tables e below (T32.setTop (mkF m 141 #[.val (.int ai), .val (.int bi), .val (.int ci), .val (.int di), .val (.long pj), .second, .val (.int fl), .val (.int (v_cap fl)), .val (.int (v_s0 ai fl)), .val (.int (v_s1 bi fl)), .val (.int (v_s2 ci fl)), .val (.int (v_s3 di fl)), .val (.ref b5), .val (.long (v_p0 ai fl)), .second, .val (.long (v_p1 ai bi fl)), .second, .val (.long (v_p2 ai bi ci fl)), .second, .unset, .unset, .unset, .unset, .unset] [(.long ((v_p2 ai bi ci fl) + ((v_s3 di fl).toInt64)))])) _
    refine XS.lstore X32.here hx rfl (hb hby at_141) rfl (l' := #[.val (.int ai), .val (.int bi), .val (.int ci), .val (.int di), .val (.long pj), .second, .val (.int fl), .val (.int (v_cap fl)), .val (.int (v_s0 ai fl)), .val (.int (v_s1 bi fl)), .val (.int (v_s2 ci fl)), .val (.int (v_s3 di fl)), .val (.ref b5), .val (.long (v_p0 ai fl)), .second, .val (.long (v_p1 ai bi fl)), .second, .val (.long (v_p2 ai bi ci fl)), .second, .val (.long (v_tot ai bi ci di fl)), .second, .unset, .unset, .unset]) rfl ?_
    show Steps p.tables e below (T32.setTop (mkF m 143 #[.val (.int ai), .val (.int bi), .val (.int ci), .val (.int di), .val (.long pj), .second, .val (.int fl), .val (.int (v_cap fl)), .val (.int (v_s0 ai fl)), .val (.int (v_s1 bi fl)), .val (.int (v_s2 ci fl)), .val (.int (v_s3 di fl)), .val (.ref b5), .val (.long (v_p0 ai fl)), .second, .val (.long (v_p1 ai bi fl)), .second, .val (.long (v_p2 ai bi ci fl)), .second, .val (.long (v_tot ai bi ci di fl)), .second, .unset, .unset, .unset] [])) _
    refine XS.aload X32.here hx rfl (hb hby at_143) rfl rfl ?_
    show Steps p.tables e below (T32.setTop (mkF m 145 #[.val (.int ai), .val (.int bi), .val (.int ci), .val (.int di), .val (.long pj), .second, .val (.int fl), .val (.int (v_cap fl)), .val (.int (v_s0 ai fl)), .val (.int (v_s1 bi fl)), .val (.int (v_s2 ci fl)), .val (.int (v_s3 di fl)), .val (.ref b5), .val (.long (v_p0 ai fl)), .second, .val (.long (v_p1 ai bi fl)), .second, .val (.long (v_p2 ai bi ci fl)), .second, .val (.long (v_tot ai bi ci di fl)), .second, .unset, .unset, .unset] [(.ref b5)])) _
    refine st34.trans ?_
    show Steps p.tables e below (T34.setTop (mkF m 148 #[.val (.int ai), .val (.int bi), .val (.int ci), .val (.int di), .val (.long pj), .second, .val (.int fl), .val (.int (v_cap fl)), .val (.int (v_s0 ai fl)), .val (.int (v_s1 bi fl)), .val (.int (v_s2 ci fl)), .val (.int (v_s3 di fl)), .val (.ref b5), .val (.long (v_p0 ai fl)), .second, .val (.long (v_p1 ai bi fl)), .second, .val (.long (v_p2 ai bi ci fl)), .second, .val (.long (v_tot ai bi ci di fl)), .second, .unset, .unset, .unset] [(.long (Ftot (v_tD ai bi ci di fl)))])) _
    refine XS.lload X34.here hx rfl (hb hby at_148) rfl ?_
    show Steps p.tables e below (T34.setTop (mkF m 150 #[.val (.int ai), .val (.int bi), .val (.int ci), .val (.int di), .val (.long pj), .second, .val (.int fl), .val (.int (v_cap fl)), .val (.int (v_s0 ai fl)), .val (.int (v_s1 bi fl)), .val (.int (v_s2 ci fl)), .val (.int (v_s3 di fl)), .val (.ref b5), .val (.long (v_p0 ai fl)), .second, .val (.long (v_p1 ai bi fl)), .second, .val (.long (v_p2 ai bi ci fl)), .second, .val (.long (v_tot ai bi ci di fl)), .second, .unset, .unset, .unset] [(.long (v_tot ai bi ci di fl)), (.long (Ftot (v_tD ai bi ci di fl)))])) _
    refine XS.lcmp X34.here hx rfl (hb hby at_150) rfl ?_
    show Steps p.tables e below (T34.setTop (mkF m 151 #[.val (.int ai), .val (.int bi), .val (.int ci), .val (.int di), .val (.long pj), .second, .val (.int fl), .val (.int (v_cap fl)), .val (.int (v_s0 ai fl)), .val (.int (v_s1 bi fl)), .val (.int (v_s2 ci fl)), .val (.int (v_s3 di fl)), .val (.ref b5), .val (.long (v_p0 ai fl)), .second, .val (.long (v_p1 ai bi fl)), .second, .val (.long (v_p2 ai bi ci fl)), .second, .val (.long (v_tot ai bi ci di fl)), .second, .unset, .unset, .unset] [(.int (lcmpW (Ftot (v_tD ai bi ci di fl)) (v_tot ai bi ci di fl)))])) _
    refine XS.ifYes X34.here hx rfl (pc0 := 151) (pc' := 156) rfl (hb hby at_151) rfl ((if0 _ _).trans (teq ((lw_eq _ _).mpr (own_total ai bi ci di fl))).1) (by decide) (by decide) ?_
    show Steps p.tables e below (T34.setTop (mkF m 156 #[.val (.int ai), .val (.int bi), .val (.int ci), .val (.int di), .val (.long pj), .second, .val (.int fl), .val (.int (v_cap fl)), .val (.int (v_s0 ai fl)), .val (.int (v_s1 bi fl)), .val (.int (v_s2 ci fl)), .val (.int (v_s3 di fl)), .val (.ref b5), .val (.long (v_p0 ai fl)), .second, .val (.long (v_p1 ai bi fl)), .second, .val (.long (v_p2 ai bi ci fl)), .second, .val (.long (v_tot ai bi ci di fl)), .second, .unset, .unset, .unset] [])) _
    refine XS.lload X34.here hx rfl (hb hby at_156) rfl ?_
    show Steps p.tables e below (T34.setTop (mkF m 158 #[.val (.int ai), .val (.int bi), .val (.int ci), .val (.int di), .val (.long pj), .second, .val (.int fl), .val (.int (v_cap fl)), .val (.int (v_s0 ai fl)), .val (.int (v_s1 bi fl)), .val (.int (v_s2 ci fl)), .val (.int (v_s3 di fl)), .val (.ref b5), .val (.long (v_p0 ai fl)), .second, .val (.long (v_p1 ai bi fl)), .second, .val (.long (v_p2 ai bi ci fl)), .second, .val (.long (v_tot ai bi ci di fl)), .second, .unset, .unset, .unset] [(.long (v_tot ai bi ci di fl))])) _
    refine XS.lconst X34.here hx rfl (hb hby at_158) ?_
    show Steps p.tables e below (T34.setTop (mkF m 159 #[.val (.int ai), .val (.int bi), .val (.int ci), .val (.int di), .val (.long pj), .second, .val (.int fl), .val (.int (v_cap fl)), .val (.int (v_s0 ai fl)), .val (.int (v_s1 bi fl)), .val (.int (v_s2 ci fl)), .val (.int (v_s3 di fl)), .val (.ref b5), .val (.long (v_p0 ai fl)), .second, .val (.long (v_p1 ai bi fl)), .second, .val (.long (v_p2 ai bi ci fl)), .second, .val (.long (v_tot ai bi ci di fl)), .second, .unset, .unset, .unset] [(.long (0 : Int64)), (.long (v_tot ai bi ci di fl))])) _
    refine XS.lcmp X34.here hx rfl (hb hby at_159) rfl ?_
    exact k
  by_cases hc36 : (v_tot ai bi ci di fl) = (0 : Int64)
  ·
    have pre37 : ∀ t, Steps p.tables e below (T34.setTop (mkF m 164 #[.val (.int ai), .val (.int bi), .val (.int ci), .val (.int di), .val (.long pj), .second, .val (.int fl), .val (.int (v_cap fl)), .val (.int (v_s0 ai fl)), .val (.int (v_s1 bi fl)), .val (.int (v_s2 ci fl)), .val (.int (v_s3 di fl)), .val (.ref b5), .val (.long (v_p0 ai fl)), .second, .val (.long (v_p1 ai bi fl)), .second, .val (.long (v_p2 ai bi ci fl)), .second, .val (.long (v_tot ai bi ci di fl)), .second, .unset, .unset, .unset] [(.int (1 : Int32))])) t → Steps p.tables e below (s₁.setTop (entryFrame m #[(.int ai), (.int bi), (.int ci), (.int di), (.long pj), (.int fl)] maxLocals)) t := by
      intro t k
      refine pre35 t ?_
      show Steps p.tables e below (T34.setTop (mkF m 160 #[.val (.int ai), .val (.int bi), .val (.int ci), .val (.int di), .val (.long pj), .second, .val (.int fl), .val (.int (v_cap fl)), .val (.int (v_s0 ai fl)), .val (.int (v_s1 bi fl)), .val (.int (v_s2 ci fl)), .val (.int (v_s3 di fl)), .val (.ref b5), .val (.long (v_p0 ai fl)), .second, .val (.long (v_p1 ai bi fl)), .second, .val (.long (v_p2 ai bi ci fl)), .second, .val (.long (v_tot ai bi ci di fl)), .second, .unset, .unset, .unset] [(.int (lcmpW (v_tot ai bi ci di fl) (0 : Int64)))])) _
      refine XS.ifNo X34.here hx rfl (hb hby at_160) rfl ((if0 _ _).trans (teq ((lw_eq _ _).mpr hc36)).2) ?_
      show Steps p.tables e below (T34.setTop (mkF m 163 #[.val (.int ai), .val (.int bi), .val (.int ci), .val (.int di), .val (.long pj), .second, .val (.int fl), .val (.int (v_cap fl)), .val (.int (v_s0 ai fl)), .val (.int (v_s1 bi fl)), .val (.int (v_s2 ci fl)), .val (.int (v_s3 di fl)), .val (.ref b5), .val (.long (v_p0 ai fl)), .second, .val (.long (v_p1 ai bi fl)), .second, .val (.long (v_p2 ai bi ci fl)), .second, .val (.long (v_tot ai bi ci di fl)), .second, .unset, .unset, .unset] [])) _
      refine XS.iconst X34.here hx rfl (hb hby at_163) ?_
      exact k
    obtain ⟨fs, hr, hrun, hended, hW, hsame⟩ := X34.leave (v := some (.int (1 : Int32))) (fun h => by rw [Bd.returns] at h; cases h) (BodyLoose.notSynchronized Bd)
    refine ⟨_, _, pre37 _ ?_, hrun, hended, _, _, rfl, ?_, ⟨_, rfl⟩, hW, hsame.mono (by decide) (by decide)⟩
    · show Steps p.tables e below (T34.setTop (mkF m 164 #[.val (.int ai), .val (.int bi), .val (.int ci), .val (.int di), .val (.long pj), .second, .val (.int fl), .val (.int (v_cap fl)), .val (.int (v_s0 ai fl)), .val (.int (v_s1 bi fl)), .val (.int (v_s2 ci fl)), .val (.int (v_s3 di fl)), .val (.ref b5), .val (.long (v_p0 ai fl)), .second, .val (.long (v_p1 ai bi fl)), .second, .val (.long (v_p2 ai bi ci fl)), .second, .val (.long (v_tot ai bi ci di fl)), .second, .unset, .unset, .unset] [(.int (1 : Int32))])) _
      exact retN X34 hx (t := .boolean) Bd.returns (by simp) (hb hby at_164) hr
    · show Q0 Z ai bi ci di pj fl h0 n0 _ T34.heap _
      rw [e34]
      exact ⟨rfl, N34⟩
  ·
    have pre38 : ∀ t, Steps p.tables e below (T34.setTop (mkF m 181 #[.val (.int ai), .val (.int bi), .val (.int ci), .val (.int di), .val (.long pj), .second, .val (.int fl), .val (.int (v_cap fl)), .val (.int (v_s0 ai fl)), .val (.int (v_s1 bi fl)), .val (.int (v_s2 ci fl)), .val (.int (v_s3 di fl)), .val (.ref b5), .val (.long (v_p0 ai fl)), .second, .val (.long (v_p1 ai bi fl)), .second, .val (.long (v_p2 ai bi ci fl)), .second, .val (.long (v_tot ai bi ci di fl)), .second, .val (.long (v_pt ai bi ci di pj fl)), .second, .unset] [(.int (lcmpW (v_pt ai bi ci di pj fl) (v_p0 ai fl)))])) t → Steps p.tables e below (s₁.setTop (entryFrame m #[(.int ai), (.int bi), (.int ci), (.int di), (.long pj), (.int fl)] maxLocals)) t := by
      intro t k
      refine pre35 t ?_
      show Steps p.tables e below (T34.setTop (mkF m 160 #[.val (.int ai), .val (.int bi), .val (.int ci), .val (.int di), .val (.long pj), .second, .val (.int fl), .val (.int (v_cap fl)), .val (.int (v_s0 ai fl)), .val (.int (v_s1 bi fl)), .val (.int (v_s2 ci fl)), .val (.int (v_s3 di fl)), .val (.ref b5), .val (.long (v_p0 ai fl)), .second, .val (.long (v_p1 ai bi fl)), .second, .val (.long (v_p2 ai bi ci fl)), .second, .val (.long (v_tot ai bi ci di fl)), .second, .unset, .unset, .unset] [(.int (lcmpW (v_tot ai bi ci di fl) (0 : Int64)))])) _
      refine XS.ifYes X34.here hx rfl (pc0 := 160) (pc' := 165) rfl (hb hby at_160) rfl ((if0 _ _).trans (feq (fun q => hc36 ((lw_eq _ _).mp q))).2) (by decide) (by decide) ?_
      show Steps p.tables e below (T34.setTop (mkF m 165 #[.val (.int ai), .val (.int bi), .val (.int ci), .val (.int di), .val (.long pj), .second, .val (.int fl), .val (.int (v_cap fl)), .val (.int (v_s0 ai fl)), .val (.int (v_s1 bi fl)), .val (.int (v_s2 ci fl)), .val (.int (v_s3 di fl)), .val (.ref b5), .val (.long (v_p0 ai fl)), .second, .val (.long (v_p1 ai bi fl)), .second, .val (.long (v_p2 ai bi ci fl)), .second, .val (.long (v_tot ai bi ci di fl)), .second, .unset, .unset, .unset] [])) _
      refine XS.lload X34.here hx rfl (hb hby at_165) rfl ?_
      show Steps p.tables e below (T34.setTop (mkF m 167 #[.val (.int ai), .val (.int bi), .val (.int ci), .val (.int di), .val (.long pj), .second, .val (.int fl), .val (.int (v_cap fl)), .val (.int (v_s0 ai fl)), .val (.int (v_s1 bi fl)), .val (.int (v_s2 ci fl)), .val (.int (v_s3 di fl)), .val (.ref b5), .val (.long (v_p0 ai fl)), .second, .val (.long (v_p1 ai bi fl)), .second, .val (.long (v_p2 ai bi ci fl)), .second, .val (.long (v_tot ai bi ci di fl)), .second, .unset, .unset, .unset] [(.long pj)])) _
      refine X34.ldc2Long hx hown (mvT hZ (hw _ (List.mem_of_getElem? (i := 43) rfl))) (g := (mkF m 167 #[.val (.int ai), .val (.int bi), .val (.int ci), .val (.int di), .val (.long pj), .second, .val (.int fl), .val (.int (v_cap fl)), .val (.int (v_s0 ai fl)), .val (.int (v_s1 bi fl)), .val (.int (v_s2 ci fl)), .val (.int (v_s3 di fl)), .val (.ref b5), .val (.long (v_p0 ai fl)), .second, .val (.long (v_p1 ai bi fl)), .second, .val (.long (v_p2 ai bi ci fl)), .second, .val (.long (v_tot ai bi ci di fl)), .second, .unset, .unset, .unset] [(.long pj)])) rfl (hb hby at_167) _ ?_
      show Steps p.tables e below (T34.setTop (mkF m 170 #[.val (.int ai), .val (.int bi), .val (.int ci), .val (.int di), .val (.long pj), .second, .val (.int fl), .val (.int (v_cap fl)), .val (.int (v_s0 ai fl)), .val (.int (v_s1 bi fl)), .val (.int (v_s2 ci fl)), .val (.int (v_s3 di fl)), .val (.ref b5), .val (.long (v_p0 ai fl)), .second, .val (.long (v_p1 ai bi fl)), .second, .val (.long (v_p2 ai bi ci fl)), .second, .val (.long (v_tot ai bi ci di fl)), .second, .unset, .unset, .unset] [(.long (9223372036854775807 : Int64)), (.long pj)])) _
      refine XS.land X34.here hx rfl (hb hby at_170) rfl ?_
      show Steps p.tables e below (T34.setTop (mkF m 171 #[.val (.int ai), .val (.int bi), .val (.int ci), .val (.int di), .val (.long pj), .second, .val (.int fl), .val (.int (v_cap fl)), .val (.int (v_s0 ai fl)), .val (.int (v_s1 bi fl)), .val (.int (v_s2 ci fl)), .val (.int (v_s3 di fl)), .val (.ref b5), .val (.long (v_p0 ai fl)), .second, .val (.long (v_p1 ai bi fl)), .second, .val (.long (v_p2 ai bi ci fl)), .second, .val (.long (v_tot ai bi ci di fl)), .second, .unset, .unset, .unset] [(.long (pj &&& (9223372036854775807 : Int64)))])) _
      refine XS.lload X34.here hx rfl (hb hby at_171) rfl ?_
      show Steps p.tables e below (T34.setTop (mkF m 173 #[.val (.int ai), .val (.int bi), .val (.int ci), .val (.int di), .val (.long pj), .second, .val (.int fl), .val (.int (v_cap fl)), .val (.int (v_s0 ai fl)), .val (.int (v_s1 bi fl)), .val (.int (v_s2 ci fl)), .val (.int (v_s3 di fl)), .val (.ref b5), .val (.long (v_p0 ai fl)), .second, .val (.long (v_p1 ai bi fl)), .second, .val (.long (v_p2 ai bi ci fl)), .second, .val (.long (v_tot ai bi ci di fl)), .second, .unset, .unset, .unset] [(.long (v_tot ai bi ci di fl)), (.long (pj &&& (9223372036854775807 : Int64)))])) _
      refine XS.lrem X34.here hx rfl (hb hby at_173) rfl hc36 ?_
      show Steps p.tables e below (T34.setTop (mkF m 174 #[.val (.int ai), .val (.int bi), .val (.int ci), .val (.int di), .val (.long pj), .second, .val (.int fl), .val (.int (v_cap fl)), .val (.int (v_s0 ai fl)), .val (.int (v_s1 bi fl)), .val (.int (v_s2 ci fl)), .val (.int (v_s3 di fl)), .val (.ref b5), .val (.long (v_p0 ai fl)), .second, .val (.long (v_p1 ai bi fl)), .second, .val (.long (v_p2 ai bi ci fl)), .second, .val (.long (v_tot ai bi ci di fl)), .second, .unset, .unset, .unset] [(.long ((pj &&& (9223372036854775807 : Int64)) - ((pj &&& (9223372036854775807 : Int64)) / (v_tot ai bi ci di fl)) * (v_tot ai bi ci di fl)))])) _
      refine XS.lstore X34.here hx rfl (hb hby at_174) rfl (l' := #[.val (.int ai), .val (.int bi), .val (.int ci), .val (.int di), .val (.long pj), .second, .val (.int fl), .val (.int (v_cap fl)), .val (.int (v_s0 ai fl)), .val (.int (v_s1 bi fl)), .val (.int (v_s2 ci fl)), .val (.int (v_s3 di fl)), .val (.ref b5), .val (.long (v_p0 ai fl)), .second, .val (.long (v_p1 ai bi fl)), .second, .val (.long (v_p2 ai bi ci fl)), .second, .val (.long (v_tot ai bi ci di fl)), .second, .val (.long (v_pt ai bi ci di pj fl)), .second, .unset]) rfl ?_
      show Steps p.tables e below (T34.setTop (mkF m 176 #[.val (.int ai), .val (.int bi), .val (.int ci), .val (.int di), .val (.long pj), .second, .val (.int fl), .val (.int (v_cap fl)), .val (.int (v_s0 ai fl)), .val (.int (v_s1 bi fl)), .val (.int (v_s2 ci fl)), .val (.int (v_s3 di fl)), .val (.ref b5), .val (.long (v_p0 ai fl)), .second, .val (.long (v_p1 ai bi fl)), .second, .val (.long (v_p2 ai bi ci fl)), .second, .val (.long (v_tot ai bi ci di fl)), .second, .val (.long (v_pt ai bi ci di pj fl)), .second, .unset] [])) _
      refine XS.lload X34.here hx rfl (hb hby at_176) rfl ?_
      show Steps p.tables e below (T34.setTop (mkF m 178 #[.val (.int ai), .val (.int bi), .val (.int ci), .val (.int di), .val (.long pj), .second, .val (.int fl), .val (.int (v_cap fl)), .val (.int (v_s0 ai fl)), .val (.int (v_s1 bi fl)), .val (.int (v_s2 ci fl)), .val (.int (v_s3 di fl)), .val (.ref b5), .val (.long (v_p0 ai fl)), .second, .val (.long (v_p1 ai bi fl)), .second, .val (.long (v_p2 ai bi ci fl)), .second, .val (.long (v_tot ai bi ci di fl)), .second, .val (.long (v_pt ai bi ci di pj fl)), .second, .unset] [(.long (v_pt ai bi ci di pj fl))])) _
      refine XS.lload X34.here hx rfl (hb hby at_178) rfl ?_
      show Steps p.tables e below (T34.setTop (mkF m 180 #[.val (.int ai), .val (.int bi), .val (.int ci), .val (.int di), .val (.long pj), .second, .val (.int fl), .val (.int (v_cap fl)), .val (.int (v_s0 ai fl)), .val (.int (v_s1 bi fl)), .val (.int (v_s2 ci fl)), .val (.int (v_s3 di fl)), .val (.ref b5), .val (.long (v_p0 ai fl)), .second, .val (.long (v_p1 ai bi fl)), .second, .val (.long (v_p2 ai bi ci fl)), .second, .val (.long (v_tot ai bi ci di fl)), .second, .val (.long (v_pt ai bi ci di pj fl)), .second, .unset] [(.long (v_p0 ai fl)), (.long (v_pt ai bi ci di pj fl))])) _
      refine XS.lcmp X34.here hx rfl (hb hby at_180) rfl ?_
      exact k
    have pre39 : ∀ t, Steps p.tables e below (T34.setTop (mkF m 221 #[.val (.int ai), .val (.int bi), .val (.int ci), .val (.int di), .val (.long pj), .second, .val (.int fl), .val (.int (v_cap fl)), .val (.int (v_s0 ai fl)), .val (.int (v_s1 bi fl)), .val (.int (v_s2 ci fl)), .val (.int (v_s3 di fl)), .val (.ref b5), .val (.long (v_p0 ai fl)), .second, .val (.long (v_p1 ai bi fl)), .second, .val (.long (v_p2 ai bi ci fl)), .second, .val (.long (v_tot ai bi ci di fl)), .second, .val (.long (v_pt ai bi ci di pj fl)), .second, .val (.int (v_ex ai bi ci di pj fl))] [])) t → Steps p.tables e below (s₁.setTop (entryFrame m #[(.int ai), (.int bi), (.int ci), (.int di), (.long pj), (.int fl)] maxLocals)) t := by
      intro t k
      refine pre38 t ?_
      have k : ∀ (v1 : Int32), v1 = (if (v_pt ai bi ci di pj fl) < (v_p0 ai fl) then (0 : Int32) else (if (v_pt ai bi ci di pj fl) < (v_p1 ai bi fl) then (1 : Int32) else (if (v_pt ai bi ci di pj fl) < (v_p2 ai bi ci fl) then (2 : Int32) else (3 : Int32)))) → Steps p.tables e below (T34.setTop (mkF m 221 #[.val (.int ai), .val (.int bi), .val (.int ci), .val (.int di), .val (.long pj), .second, .val (.int fl), .val (.int (v_cap fl)), .val (.int (v_s0 ai fl)), .val (.int (v_s1 bi fl)), .val (.int (v_s2 ci fl)), .val (.int (v_s3 di fl)), .val (.ref b5), .val (.long (v_p0 ai fl)), .second, .val (.long (v_p1 ai bi fl)), .second, .val (.long (v_p2 ai bi ci fl)), .second, .val (.long (v_tot ai bi ci di fl)), .second, .val (.long (v_pt ai bi ci di pj fl)), .second, .val (.int v1)] [])) t := fun v1 hv1 => by subst hv1; exact k
      show Steps p.tables e below (T34.setTop (mkF m 181 #[.val (.int ai), .val (.int bi), .val (.int ci), .val (.int di), .val (.long pj), .second, .val (.int fl), .val (.int (v_cap fl)), .val (.int (v_s0 ai fl)), .val (.int (v_s1 bi fl)), .val (.int (v_s2 ci fl)), .val (.int (v_s3 di fl)), .val (.ref b5), .val (.long (v_p0 ai fl)), .second, .val (.long (v_p1 ai bi fl)), .second, .val (.long (v_p2 ai bi ci fl)), .second, .val (.long (v_tot ai bi ci di fl)), .second, .val (.long (v_pt ai bi ci di pj fl)), .second, .unset] [(.int (lcmpW (v_pt ai bi ci di pj fl) (v_p0 ai fl)))])) _
      by_cases hc40 : (v_pt ai bi ci di pj fl) < (v_p0 ai fl)
      · refine XS.ifNo X34.here hx rfl (hb hby at_181) rfl ((if0 _ _).trans (tlt ((lw_lt _ _).mpr hc40)).2.1) ?_
        have k : ∀ (v1 : Int32), v1 = (0 : Int32) → Steps p.tables e below (T34.setTop (mkF m 221 #[.val (.int ai), .val (.int bi), .val (.int ci), .val (.int di), .val (.long pj), .second, .val (.int fl), .val (.int (v_cap fl)), .val (.int (v_s0 ai fl)), .val (.int (v_s1 bi fl)), .val (.int (v_s2 ci fl)), .val (.int (v_s3 di fl)), .val (.ref b5), .val (.long (v_p0 ai fl)), .second, .val (.long (v_p1 ai bi fl)), .second, .val (.long (v_p2 ai bi ci fl)), .second, .val (.long (v_tot ai bi ci di fl)), .second, .val (.long (v_pt ai bi ci di pj fl)), .second, .val (.int v1)] [])) t := fun v1 hv1 => k v1 (hv1.trans (if_pos hc40).symm)
        show Steps p.tables e below (T34.setTop (mkF m 184 #[.val (.int ai), .val (.int bi), .val (.int ci), .val (.int di), .val (.long pj), .second, .val (.int fl), .val (.int (v_cap fl)), .val (.int (v_s0 ai fl)), .val (.int (v_s1 bi fl)), .val (.int (v_s2 ci fl)), .val (.int (v_s3 di fl)), .val (.ref b5), .val (.long (v_p0 ai fl)), .second, .val (.long (v_p1 ai bi fl)), .second, .val (.long (v_p2 ai bi ci fl)), .second, .val (.long (v_tot ai bi ci di fl)), .second, .val (.long (v_pt ai bi ci di pj fl)), .second, .unset] [])) _
        refine XS.iconst X34.here hx rfl (hb hby at_184) ?_
        show Steps p.tables e below (T34.setTop (mkF m 185 #[.val (.int ai), .val (.int bi), .val (.int ci), .val (.int di), .val (.long pj), .second, .val (.int fl), .val (.int (v_cap fl)), .val (.int (v_s0 ai fl)), .val (.int (v_s1 bi fl)), .val (.int (v_s2 ci fl)), .val (.int (v_s3 di fl)), .val (.ref b5), .val (.long (v_p0 ai fl)), .second, .val (.long (v_p1 ai bi fl)), .second, .val (.long (v_p2 ai bi ci fl)), .second, .val (.long (v_tot ai bi ci di fl)), .second, .val (.long (v_pt ai bi ci di pj fl)), .second, .unset] [(.int (0 : Int32))])) _
        refine XS.istore X34.here hx rfl (hb hby at_185) rfl (l' := #[.val (.int ai), .val (.int bi), .val (.int ci), .val (.int di), .val (.long pj), .second, .val (.int fl), .val (.int (v_cap fl)), .val (.int (v_s0 ai fl)), .val (.int (v_s1 bi fl)), .val (.int (v_s2 ci fl)), .val (.int (v_s3 di fl)), .val (.ref b5), .val (.long (v_p0 ai fl)), .second, .val (.long (v_p1 ai bi fl)), .second, .val (.long (v_p2 ai bi ci fl)), .second, .val (.long (v_tot ai bi ci di fl)), .second, .val (.long (v_pt ai bi ci di pj fl)), .second, .val (.int (0 : Int32))]) rfl ?_
        show Steps p.tables e below (T34.setTop (mkF m 187 #[.val (.int ai), .val (.int bi), .val (.int ci), .val (.int di), .val (.long pj), .second, .val (.int fl), .val (.int (v_cap fl)), .val (.int (v_s0 ai fl)), .val (.int (v_s1 bi fl)), .val (.int (v_s2 ci fl)), .val (.int (v_s3 di fl)), .val (.ref b5), .val (.long (v_p0 ai fl)), .second, .val (.long (v_p1 ai bi fl)), .second, .val (.long (v_p2 ai bi ci fl)), .second, .val (.long (v_tot ai bi ci di fl)), .second, .val (.long (v_pt ai bi ci di pj fl)), .second, .val (.int (0 : Int32))] [])) _
        refine XS.goto X34.here hx rfl (pc0 := 187) (pc' := 221) rfl (hb hby at_187) (by decide) (by decide) ?_
        exact k _ rfl
      · refine XS.ifYes X34.here hx rfl (pc0 := 181) (pc' := 190) rfl (hb hby at_181) rfl ((if0 _ _).trans (flt (fun q => hc40 ((lw_lt _ _).mp q))).2.1) (by decide) (by decide) ?_
        have k : ∀ (v1 : Int32), v1 = (if (v_pt ai bi ci di pj fl) < (v_p1 ai bi fl) then (1 : Int32) else (if (v_pt ai bi ci di pj fl) < (v_p2 ai bi ci fl) then (2 : Int32) else (3 : Int32))) → Steps p.tables e below (T34.setTop (mkF m 221 #[.val (.int ai), .val (.int bi), .val (.int ci), .val (.int di), .val (.long pj), .second, .val (.int fl), .val (.int (v_cap fl)), .val (.int (v_s0 ai fl)), .val (.int (v_s1 bi fl)), .val (.int (v_s2 ci fl)), .val (.int (v_s3 di fl)), .val (.ref b5), .val (.long (v_p0 ai fl)), .second, .val (.long (v_p1 ai bi fl)), .second, .val (.long (v_p2 ai bi ci fl)), .second, .val (.long (v_tot ai bi ci di fl)), .second, .val (.long (v_pt ai bi ci di pj fl)), .second, .val (.int v1)] [])) t := fun v1 hv1 => k v1 (hv1.trans (if_neg hc40).symm)
        show Steps p.tables e below (T34.setTop (mkF m 190 #[.val (.int ai), .val (.int bi), .val (.int ci), .val (.int di), .val (.long pj), .second, .val (.int fl), .val (.int (v_cap fl)), .val (.int (v_s0 ai fl)), .val (.int (v_s1 bi fl)), .val (.int (v_s2 ci fl)), .val (.int (v_s3 di fl)), .val (.ref b5), .val (.long (v_p0 ai fl)), .second, .val (.long (v_p1 ai bi fl)), .second, .val (.long (v_p2 ai bi ci fl)), .second, .val (.long (v_tot ai bi ci di fl)), .second, .val (.long (v_pt ai bi ci di pj fl)), .second, .unset] [])) _
        refine XS.lload X34.here hx rfl (hb hby at_190) rfl ?_
        show Steps p.tables e below (T34.setTop (mkF m 192 #[.val (.int ai), .val (.int bi), .val (.int ci), .val (.int di), .val (.long pj), .second, .val (.int fl), .val (.int (v_cap fl)), .val (.int (v_s0 ai fl)), .val (.int (v_s1 bi fl)), .val (.int (v_s2 ci fl)), .val (.int (v_s3 di fl)), .val (.ref b5), .val (.long (v_p0 ai fl)), .second, .val (.long (v_p1 ai bi fl)), .second, .val (.long (v_p2 ai bi ci fl)), .second, .val (.long (v_tot ai bi ci di fl)), .second, .val (.long (v_pt ai bi ci di pj fl)), .second, .unset] [(.long (v_pt ai bi ci di pj fl))])) _
        refine XS.lload X34.here hx rfl (hb hby at_192) rfl ?_
        show Steps p.tables e below (T34.setTop (mkF m 194 #[.val (.int ai), .val (.int bi), .val (.int ci), .val (.int di), .val (.long pj), .second, .val (.int fl), .val (.int (v_cap fl)), .val (.int (v_s0 ai fl)), .val (.int (v_s1 bi fl)), .val (.int (v_s2 ci fl)), .val (.int (v_s3 di fl)), .val (.ref b5), .val (.long (v_p0 ai fl)), .second, .val (.long (v_p1 ai bi fl)), .second, .val (.long (v_p2 ai bi ci fl)), .second, .val (.long (v_tot ai bi ci di fl)), .second, .val (.long (v_pt ai bi ci di pj fl)), .second, .unset] [(.long (v_p1 ai bi fl)), (.long (v_pt ai bi ci di pj fl))])) _
        refine XS.lcmp X34.here hx rfl (hb hby at_194) rfl ?_
        show Steps p.tables e below (T34.setTop (mkF m 195 #[.val (.int ai), .val (.int bi), .val (.int ci), .val (.int di), .val (.long pj), .second, .val (.int fl), .val (.int (v_cap fl)), .val (.int (v_s0 ai fl)), .val (.int (v_s1 bi fl)), .val (.int (v_s2 ci fl)), .val (.int (v_s3 di fl)), .val (.ref b5), .val (.long (v_p0 ai fl)), .second, .val (.long (v_p1 ai bi fl)), .second, .val (.long (v_p2 ai bi ci fl)), .second, .val (.long (v_tot ai bi ci di fl)), .second, .val (.long (v_pt ai bi ci di pj fl)), .second, .unset] [(.int (lcmpW (v_pt ai bi ci di pj fl) (v_p1 ai bi fl)))])) _
        by_cases hc41 : (v_pt ai bi ci di pj fl) < (v_p1 ai bi fl)
        · refine XS.ifNo X34.here hx rfl (hb hby at_195) rfl ((if0 _ _).trans (tlt ((lw_lt _ _).mpr hc41)).2.1) ?_
          have k : ∀ (v1 : Int32), v1 = (1 : Int32) → Steps p.tables e below (T34.setTop (mkF m 221 #[.val (.int ai), .val (.int bi), .val (.int ci), .val (.int di), .val (.long pj), .second, .val (.int fl), .val (.int (v_cap fl)), .val (.int (v_s0 ai fl)), .val (.int (v_s1 bi fl)), .val (.int (v_s2 ci fl)), .val (.int (v_s3 di fl)), .val (.ref b5), .val (.long (v_p0 ai fl)), .second, .val (.long (v_p1 ai bi fl)), .second, .val (.long (v_p2 ai bi ci fl)), .second, .val (.long (v_tot ai bi ci di fl)), .second, .val (.long (v_pt ai bi ci di pj fl)), .second, .val (.int v1)] [])) t := fun v1 hv1 => k v1 (hv1.trans (if_pos hc41).symm)
          show Steps p.tables e below (T34.setTop (mkF m 198 #[.val (.int ai), .val (.int bi), .val (.int ci), .val (.int di), .val (.long pj), .second, .val (.int fl), .val (.int (v_cap fl)), .val (.int (v_s0 ai fl)), .val (.int (v_s1 bi fl)), .val (.int (v_s2 ci fl)), .val (.int (v_s3 di fl)), .val (.ref b5), .val (.long (v_p0 ai fl)), .second, .val (.long (v_p1 ai bi fl)), .second, .val (.long (v_p2 ai bi ci fl)), .second, .val (.long (v_tot ai bi ci di fl)), .second, .val (.long (v_pt ai bi ci di pj fl)), .second, .unset] [])) _
          refine XS.iconst X34.here hx rfl (hb hby at_198) ?_
          show Steps p.tables e below (T34.setTop (mkF m 199 #[.val (.int ai), .val (.int bi), .val (.int ci), .val (.int di), .val (.long pj), .second, .val (.int fl), .val (.int (v_cap fl)), .val (.int (v_s0 ai fl)), .val (.int (v_s1 bi fl)), .val (.int (v_s2 ci fl)), .val (.int (v_s3 di fl)), .val (.ref b5), .val (.long (v_p0 ai fl)), .second, .val (.long (v_p1 ai bi fl)), .second, .val (.long (v_p2 ai bi ci fl)), .second, .val (.long (v_tot ai bi ci di fl)), .second, .val (.long (v_pt ai bi ci di pj fl)), .second, .unset] [(.int (1 : Int32))])) _
          refine XS.istore X34.here hx rfl (hb hby at_199) rfl (l' := #[.val (.int ai), .val (.int bi), .val (.int ci), .val (.int di), .val (.long pj), .second, .val (.int fl), .val (.int (v_cap fl)), .val (.int (v_s0 ai fl)), .val (.int (v_s1 bi fl)), .val (.int (v_s2 ci fl)), .val (.int (v_s3 di fl)), .val (.ref b5), .val (.long (v_p0 ai fl)), .second, .val (.long (v_p1 ai bi fl)), .second, .val (.long (v_p2 ai bi ci fl)), .second, .val (.long (v_tot ai bi ci di fl)), .second, .val (.long (v_pt ai bi ci di pj fl)), .second, .val (.int (1 : Int32))]) rfl ?_
          show Steps p.tables e below (T34.setTop (mkF m 201 #[.val (.int ai), .val (.int bi), .val (.int ci), .val (.int di), .val (.long pj), .second, .val (.int fl), .val (.int (v_cap fl)), .val (.int (v_s0 ai fl)), .val (.int (v_s1 bi fl)), .val (.int (v_s2 ci fl)), .val (.int (v_s3 di fl)), .val (.ref b5), .val (.long (v_p0 ai fl)), .second, .val (.long (v_p1 ai bi fl)), .second, .val (.long (v_p2 ai bi ci fl)), .second, .val (.long (v_tot ai bi ci di fl)), .second, .val (.long (v_pt ai bi ci di pj fl)), .second, .val (.int (1 : Int32))] [])) _
          refine XS.goto X34.here hx rfl (pc0 := 201) (pc' := 221) rfl (hb hby at_201) (by decide) (by decide) ?_
          exact k _ rfl
        · refine XS.ifYes X34.here hx rfl (pc0 := 195) (pc' := 204) rfl (hb hby at_195) rfl ((if0 _ _).trans (flt (fun q => hc41 ((lw_lt _ _).mp q))).2.1) (by decide) (by decide) ?_
          have k : ∀ (v1 : Int32), v1 = (if (v_pt ai bi ci di pj fl) < (v_p2 ai bi ci fl) then (2 : Int32) else (3 : Int32)) → Steps p.tables e below (T34.setTop (mkF m 221 #[.val (.int ai), .val (.int bi), .val (.int ci), .val (.int di), .val (.long pj), .second, .val (.int fl), .val (.int (v_cap fl)), .val (.int (v_s0 ai fl)), .val (.int (v_s1 bi fl)), .val (.int (v_s2 ci fl)), .val (.int (v_s3 di fl)), .val (.ref b5), .val (.long (v_p0 ai fl)), .second, .val (.long (v_p1 ai bi fl)), .second, .val (.long (v_p2 ai bi ci fl)), .second, .val (.long (v_tot ai bi ci di fl)), .second, .val (.long (v_pt ai bi ci di pj fl)), .second, .val (.int v1)] [])) t := fun v1 hv1 => k v1 (hv1.trans (if_neg hc41).symm)
          show Steps p.tables e below (T34.setTop (mkF m 204 #[.val (.int ai), .val (.int bi), .val (.int ci), .val (.int di), .val (.long pj), .second, .val (.int fl), .val (.int (v_cap fl)), .val (.int (v_s0 ai fl)), .val (.int (v_s1 bi fl)), .val (.int (v_s2 ci fl)), .val (.int (v_s3 di fl)), .val (.ref b5), .val (.long (v_p0 ai fl)), .second, .val (.long (v_p1 ai bi fl)), .second, .val (.long (v_p2 ai bi ci fl)), .second, .val (.long (v_tot ai bi ci di fl)), .second, .val (.long (v_pt ai bi ci di pj fl)), .second, .unset] [])) _
          refine XS.lload X34.here hx rfl (hb hby at_204) rfl ?_
          show Steps p.tables e below (T34.setTop (mkF m 206 #[.val (.int ai), .val (.int bi), .val (.int ci), .val (.int di), .val (.long pj), .second, .val (.int fl), .val (.int (v_cap fl)), .val (.int (v_s0 ai fl)), .val (.int (v_s1 bi fl)), .val (.int (v_s2 ci fl)), .val (.int (v_s3 di fl)), .val (.ref b5), .val (.long (v_p0 ai fl)), .second, .val (.long (v_p1 ai bi fl)), .second, .val (.long (v_p2 ai bi ci fl)), .second, .val (.long (v_tot ai bi ci di fl)), .second, .val (.long (v_pt ai bi ci di pj fl)), .second, .unset] [(.long (v_pt ai bi ci di pj fl))])) _
          refine XS.lload X34.here hx rfl (hb hby at_206) rfl ?_
          show Steps p.tables e below (T34.setTop (mkF m 208 #[.val (.int ai), .val (.int bi), .val (.int ci), .val (.int di), .val (.long pj), .second, .val (.int fl), .val (.int (v_cap fl)), .val (.int (v_s0 ai fl)), .val (.int (v_s1 bi fl)), .val (.int (v_s2 ci fl)), .val (.int (v_s3 di fl)), .val (.ref b5), .val (.long (v_p0 ai fl)), .second, .val (.long (v_p1 ai bi fl)), .second, .val (.long (v_p2 ai bi ci fl)), .second, .val (.long (v_tot ai bi ci di fl)), .second, .val (.long (v_pt ai bi ci di pj fl)), .second, .unset] [(.long (v_p2 ai bi ci fl)), (.long (v_pt ai bi ci di pj fl))])) _
          refine XS.lcmp X34.here hx rfl (hb hby at_208) rfl ?_
          show Steps p.tables e below (T34.setTop (mkF m 209 #[.val (.int ai), .val (.int bi), .val (.int ci), .val (.int di), .val (.long pj), .second, .val (.int fl), .val (.int (v_cap fl)), .val (.int (v_s0 ai fl)), .val (.int (v_s1 bi fl)), .val (.int (v_s2 ci fl)), .val (.int (v_s3 di fl)), .val (.ref b5), .val (.long (v_p0 ai fl)), .second, .val (.long (v_p1 ai bi fl)), .second, .val (.long (v_p2 ai bi ci fl)), .second, .val (.long (v_tot ai bi ci di fl)), .second, .val (.long (v_pt ai bi ci di pj fl)), .second, .unset] [(.int (lcmpW (v_pt ai bi ci di pj fl) (v_p2 ai bi ci fl)))])) _
          by_cases hc42 : (v_pt ai bi ci di pj fl) < (v_p2 ai bi ci fl)
          · refine XS.ifNo X34.here hx rfl (hb hby at_209) rfl ((if0 _ _).trans (tlt ((lw_lt _ _).mpr hc42)).2.1) ?_
            have k : ∀ (v1 : Int32), v1 = (2 : Int32) → Steps p.tables e below (T34.setTop (mkF m 221 #[.val (.int ai), .val (.int bi), .val (.int ci), .val (.int di), .val (.long pj), .second, .val (.int fl), .val (.int (v_cap fl)), .val (.int (v_s0 ai fl)), .val (.int (v_s1 bi fl)), .val (.int (v_s2 ci fl)), .val (.int (v_s3 di fl)), .val (.ref b5), .val (.long (v_p0 ai fl)), .second, .val (.long (v_p1 ai bi fl)), .second, .val (.long (v_p2 ai bi ci fl)), .second, .val (.long (v_tot ai bi ci di fl)), .second, .val (.long (v_pt ai bi ci di pj fl)), .second, .val (.int v1)] [])) t := fun v1 hv1 => k v1 (hv1.trans (if_pos hc42).symm)
            show Steps p.tables e below (T34.setTop (mkF m 212 #[.val (.int ai), .val (.int bi), .val (.int ci), .val (.int di), .val (.long pj), .second, .val (.int fl), .val (.int (v_cap fl)), .val (.int (v_s0 ai fl)), .val (.int (v_s1 bi fl)), .val (.int (v_s2 ci fl)), .val (.int (v_s3 di fl)), .val (.ref b5), .val (.long (v_p0 ai fl)), .second, .val (.long (v_p1 ai bi fl)), .second, .val (.long (v_p2 ai bi ci fl)), .second, .val (.long (v_tot ai bi ci di fl)), .second, .val (.long (v_pt ai bi ci di pj fl)), .second, .unset] [])) _
            refine XS.iconst X34.here hx rfl (hb hby at_212) ?_
            show Steps p.tables e below (T34.setTop (mkF m 213 #[.val (.int ai), .val (.int bi), .val (.int ci), .val (.int di), .val (.long pj), .second, .val (.int fl), .val (.int (v_cap fl)), .val (.int (v_s0 ai fl)), .val (.int (v_s1 bi fl)), .val (.int (v_s2 ci fl)), .val (.int (v_s3 di fl)), .val (.ref b5), .val (.long (v_p0 ai fl)), .second, .val (.long (v_p1 ai bi fl)), .second, .val (.long (v_p2 ai bi ci fl)), .second, .val (.long (v_tot ai bi ci di fl)), .second, .val (.long (v_pt ai bi ci di pj fl)), .second, .unset] [(.int (2 : Int32))])) _
            refine XS.istore X34.here hx rfl (hb hby at_213) rfl (l' := #[.val (.int ai), .val (.int bi), .val (.int ci), .val (.int di), .val (.long pj), .second, .val (.int fl), .val (.int (v_cap fl)), .val (.int (v_s0 ai fl)), .val (.int (v_s1 bi fl)), .val (.int (v_s2 ci fl)), .val (.int (v_s3 di fl)), .val (.ref b5), .val (.long (v_p0 ai fl)), .second, .val (.long (v_p1 ai bi fl)), .second, .val (.long (v_p2 ai bi ci fl)), .second, .val (.long (v_tot ai bi ci di fl)), .second, .val (.long (v_pt ai bi ci di pj fl)), .second, .val (.int (2 : Int32))]) rfl ?_
            show Steps p.tables e below (T34.setTop (mkF m 215 #[.val (.int ai), .val (.int bi), .val (.int ci), .val (.int di), .val (.long pj), .second, .val (.int fl), .val (.int (v_cap fl)), .val (.int (v_s0 ai fl)), .val (.int (v_s1 bi fl)), .val (.int (v_s2 ci fl)), .val (.int (v_s3 di fl)), .val (.ref b5), .val (.long (v_p0 ai fl)), .second, .val (.long (v_p1 ai bi fl)), .second, .val (.long (v_p2 ai bi ci fl)), .second, .val (.long (v_tot ai bi ci di fl)), .second, .val (.long (v_pt ai bi ci di pj fl)), .second, .val (.int (2 : Int32))] [])) _
            refine XS.goto X34.here hx rfl (pc0 := 215) (pc' := 221) rfl (hb hby at_215) (by decide) (by decide) ?_
            exact k _ rfl
          · refine XS.ifYes X34.here hx rfl (pc0 := 209) (pc' := 218) rfl (hb hby at_209) rfl ((if0 _ _).trans (flt (fun q => hc42 ((lw_lt _ _).mp q))).2.1) (by decide) (by decide) ?_
            have k : ∀ (v1 : Int32), v1 = (3 : Int32) → Steps p.tables e below (T34.setTop (mkF m 221 #[.val (.int ai), .val (.int bi), .val (.int ci), .val (.int di), .val (.long pj), .second, .val (.int fl), .val (.int (v_cap fl)), .val (.int (v_s0 ai fl)), .val (.int (v_s1 bi fl)), .val (.int (v_s2 ci fl)), .val (.int (v_s3 di fl)), .val (.ref b5), .val (.long (v_p0 ai fl)), .second, .val (.long (v_p1 ai bi fl)), .second, .val (.long (v_p2 ai bi ci fl)), .second, .val (.long (v_tot ai bi ci di fl)), .second, .val (.long (v_pt ai bi ci di pj fl)), .second, .val (.int v1)] [])) t := fun v1 hv1 => k v1 (hv1.trans (if_neg hc42).symm)
            show Steps p.tables e below (T34.setTop (mkF m 218 #[.val (.int ai), .val (.int bi), .val (.int ci), .val (.int di), .val (.long pj), .second, .val (.int fl), .val (.int (v_cap fl)), .val (.int (v_s0 ai fl)), .val (.int (v_s1 bi fl)), .val (.int (v_s2 ci fl)), .val (.int (v_s3 di fl)), .val (.ref b5), .val (.long (v_p0 ai fl)), .second, .val (.long (v_p1 ai bi fl)), .second, .val (.long (v_p2 ai bi ci fl)), .second, .val (.long (v_tot ai bi ci di fl)), .second, .val (.long (v_pt ai bi ci di pj fl)), .second, .unset] [])) _
            refine XS.iconst X34.here hx rfl (hb hby at_218) ?_
            show Steps p.tables e below (T34.setTop (mkF m 219 #[.val (.int ai), .val (.int bi), .val (.int ci), .val (.int di), .val (.long pj), .second, .val (.int fl), .val (.int (v_cap fl)), .val (.int (v_s0 ai fl)), .val (.int (v_s1 bi fl)), .val (.int (v_s2 ci fl)), .val (.int (v_s3 di fl)), .val (.ref b5), .val (.long (v_p0 ai fl)), .second, .val (.long (v_p1 ai bi fl)), .second, .val (.long (v_p2 ai bi ci fl)), .second, .val (.long (v_tot ai bi ci di fl)), .second, .val (.long (v_pt ai bi ci di pj fl)), .second, .unset] [(.int (3 : Int32))])) _
            refine XS.istore X34.here hx rfl (hb hby at_219) rfl (l' := #[.val (.int ai), .val (.int bi), .val (.int ci), .val (.int di), .val (.long pj), .second, .val (.int fl), .val (.int (v_cap fl)), .val (.int (v_s0 ai fl)), .val (.int (v_s1 bi fl)), .val (.int (v_s2 ci fl)), .val (.int (v_s3 di fl)), .val (.ref b5), .val (.long (v_p0 ai fl)), .second, .val (.long (v_p1 ai bi fl)), .second, .val (.long (v_p2 ai bi ci fl)), .second, .val (.long (v_tot ai bi ci di fl)), .second, .val (.long (v_pt ai bi ci di pj fl)), .second, .val (.int (3 : Int32))]) rfl ?_
            exact k _ rfl
    obtain ⟨cq43, kq43, q43a, q43b, q43c⟩ := isOf hZ e34 k33_0
    obtain ⟨_, _, ⟨T43, L43, k43, n43⟩, -, X43, ⟨Lc43, hQ43, l43, y43, z43⟩, st43⟩ := X34.virtualBack hx (y := (⟨"com/example/dealer/dealer/ChangingShares", "indexAt", "(J)I"⟩ : MethodName)) (z := (⟨"com/example/dealer/dealer/ChangingShares", "indexAt", "(J)I"⟩ : MethodName)) hown (mvT hZ (hw _ (List.mem_of_getElem? (i := 44) rfl))) (mvT hZ (hw _ (List.mem_of_getElem? (i := 45) rfl))) (notFace_of_selects (args := #[]) (mvT hZ (hw _ (List.mem_of_getElem? (i := 47) rfl)))) (mvT hZ (hw _ (List.mem_of_getElem? (i := 47) rfl))) (mvT hZ (hw _ (List.mem_of_getElem? (i := 46) rfl))) (by decide) (backOf (W := 0) (rm8 l Z a0 hw [] b5 (v_pt ai bi ci di pj fl) an6 as6 (Fhob (v_cap fl)) (v_tD ai bi ci di fl) ((v_cap fl) + (1 : Int32)) (v_nD ai bi ci di fl) (v_cap fl) (v_sD ai bi ci di fl) hh32 n0 k33_sz ⟨k33_0, k33_1, k33_2, k33_3, k33_4, k33_5, k33_6, k33_g_ob, k33_g_an, k33_g_as, k33_n_ob_an, k33_n_ob_as, k33_n_an_as, k33_sz⟩ (own_hobv fl).1 (own_hobv fl).2) hZ (hw _ (List.mem_of_getElem? (i := 48) rfl)) (hw _ (List.mem_of_getElem? (i := 7) rfl)) (by decide) (by decide)) q43a q43c (g := (mkF m 225 #[.val (.int ai), .val (.int bi), .val (.int ci), .val (.int di), .val (.long pj), .second, .val (.int fl), .val (.int (v_cap fl)), .val (.int (v_s0 ai fl)), .val (.int (v_s1 bi fl)), .val (.int (v_s2 ci fl)), .val (.int (v_s3 di fl)), .val (.ref b5), .val (.long (v_p0 ai fl)), .second, .val (.long (v_p1 ai bi fl)), .second, .val (.long (v_p2 ai bi ci fl)), .second, .val (.long (v_tot ai bi ci di fl)), .second, .val (.long (v_pt ai bi ci di pj fl)), .second, .val (.int (v_ex ai bi ci di pj fl))] [(.long (v_pt ai bi ci di pj fl)), (.ref b5)])) rfl (by rw [hml]; rfl) (Steps.refl _) (argsL := [(.long (v_pt ai bi ci di pj fl))]) (rest := []) (lenOf pd_6 rfl) rfl (by show 2 * 0 + _ ≤ _; exact Nat.le_of_eq rfl) (hb hby at_225) (fun _ _ => ⟨rfl, e34, (by decide : 3 + 0 ≤ _), (by decide : 21 + 0 ≤ _)⟩)
    dsimp only [Pt.U, Pt.locs, Pt.cells, Pt.slots] at X43 l43 y43 z43 st43 hQ43
    subst y43 z43
    obtain ⟨rfl, N43q, e43⟩ := hQ43
    have N43 : Fr n0 L43 := by rw [l43]; exact Fr.app N34 N43q
    have pre44 : ∀ t, Steps p.tables e below (T43.setTop (mkF m 230 #[.val (.int ai), .val (.int bi), .val (.int ci), .val (.int di), .val (.long pj), .second, .val (.int fl), .val (.int (v_cap fl)), .val (.int (v_s0 ai fl)), .val (.int (v_s1 bi fl)), .val (.int (v_s2 ci fl)), .val (.int (v_s3 di fl)), .val (.ref b5), .val (.long (v_p0 ai fl)), .second, .val (.long (v_p1 ai bi fl)), .second, .val (.long (v_p2 ai bi ci fl)), .second, .val (.long (v_tot ai bi ci di fl)), .second, .val (.long (v_pt ai bi ci di pj fl)), .second, .val (.int (v_ex ai bi ci di pj fl))] [(.int (v_ex ai bi ci di pj fl)), (.int (Fix (v_pt ai bi ci di pj fl) (Fhob (v_cap fl)) ((v_cap fl) + (1 : Int32)) (v_nD ai bi ci di fl)))])) t → Steps p.tables e below (s₁.setTop (entryFrame m #[(.int ai), (.int bi), (.int ci), (.int di), (.long pj), (.int fl)] maxLocals)) t := by
      intro t k
      refine pre39 t ?_
      show Steps p.tables e below (T34.setTop (mkF m 221 #[.val (.int ai), .val (.int bi), .val (.int ci), .val (.int di), .val (.long pj), .second, .val (.int fl), .val (.int (v_cap fl)), .val (.int (v_s0 ai fl)), .val (.int (v_s1 bi fl)), .val (.int (v_s2 ci fl)), .val (.int (v_s3 di fl)), .val (.ref b5), .val (.long (v_p0 ai fl)), .second, .val (.long (v_p1 ai bi fl)), .second, .val (.long (v_p2 ai bi ci fl)), .second, .val (.long (v_tot ai bi ci di fl)), .second, .val (.long (v_pt ai bi ci di pj fl)), .second, .val (.int (v_ex ai bi ci di pj fl))] [])) _
      refine XS.aload X34.here hx rfl (hb hby at_221) rfl rfl ?_
      show Steps p.tables e below (T34.setTop (mkF m 223 #[.val (.int ai), .val (.int bi), .val (.int ci), .val (.int di), .val (.long pj), .second, .val (.int fl), .val (.int (v_cap fl)), .val (.int (v_s0 ai fl)), .val (.int (v_s1 bi fl)), .val (.int (v_s2 ci fl)), .val (.int (v_s3 di fl)), .val (.ref b5), .val (.long (v_p0 ai fl)), .second, .val (.long (v_p1 ai bi fl)), .second, .val (.long (v_p2 ai bi ci fl)), .second, .val (.long (v_tot ai bi ci di fl)), .second, .val (.long (v_pt ai bi ci di pj fl)), .second, .val (.int (v_ex ai bi ci di pj fl))] [(.ref b5)])) _
      refine XS.lload X34.here hx rfl (hb hby at_223) rfl ?_
      show Steps p.tables e below (T34.setTop (mkF m 225 #[.val (.int ai), .val (.int bi), .val (.int ci), .val (.int di), .val (.long pj), .second, .val (.int fl), .val (.int (v_cap fl)), .val (.int (v_s0 ai fl)), .val (.int (v_s1 bi fl)), .val (.int (v_s2 ci fl)), .val (.int (v_s3 di fl)), .val (.ref b5), .val (.long (v_p0 ai fl)), .second, .val (.long (v_p1 ai bi fl)), .second, .val (.long (v_p2 ai bi ci fl)), .second, .val (.long (v_tot ai bi ci di fl)), .second, .val (.long (v_pt ai bi ci di pj fl)), .second, .val (.int (v_ex ai bi ci di pj fl))] [(.long (v_pt ai bi ci di pj fl)), (.ref b5)])) _
      refine st43.trans ?_
      show Steps p.tables e below (T43.setTop (mkF m 228 #[.val (.int ai), .val (.int bi), .val (.int ci), .val (.int di), .val (.long pj), .second, .val (.int fl), .val (.int (v_cap fl)), .val (.int (v_s0 ai fl)), .val (.int (v_s1 bi fl)), .val (.int (v_s2 ci fl)), .val (.int (v_s3 di fl)), .val (.ref b5), .val (.long (v_p0 ai fl)), .second, .val (.long (v_p1 ai bi fl)), .second, .val (.long (v_p2 ai bi ci fl)), .second, .val (.long (v_tot ai bi ci di fl)), .second, .val (.long (v_pt ai bi ci di pj fl)), .second, .val (.int (v_ex ai bi ci di pj fl))] [(.int (Fix (v_pt ai bi ci di pj fl) (Fhob (v_cap fl)) ((v_cap fl) + (1 : Int32)) (v_nD ai bi ci di fl)))])) _
      refine XS.iload X43.here hx rfl (hb hby at_228) rfl ?_
      exact k
    have pre45 : ∀ t, Steps p.tables e below (T43.setTop (mkF m 238 #[.val (.int ai), .val (.int bi), .val (.int ci), .val (.int di), .val (.long pj), .second, .val (.int fl), .val (.int (v_cap fl)), .val (.int (v_s0 ai fl)), .val (.int (v_s1 bi fl)), .val (.int (v_s2 ci fl)), .val (.int (v_s3 di fl)), .val (.ref b5), .val (.long (v_p0 ai fl)), .second, .val (.long (v_p1 ai bi fl)), .second, .val (.long (v_p2 ai bi ci fl)), .second, .val (.long (v_tot ai bi ci di fl)), .second, .val (.long (v_pt ai bi ci di pj fl)), .second, .val (.int (v_ex ai bi ci di pj fl))] [(.int (b2i (if (Fix (v_pt ai bi ci di pj fl) (Fhob (v_cap fl)) ((v_cap fl) + (1 : Int32)) (v_nD ai bi ci di fl)) = (v_ex ai bi ci di pj fl) then true else false)))])) t → Steps p.tables e below (s₁.setTop (entryFrame m #[(.int ai), (.int bi), (.int ci), (.int di), (.long pj), (.int fl)] maxLocals)) t := by
      intro t k
      refine pre44 t ?_
      have k : ∀ (v1 : Bool), v1 = (if (Fix (v_pt ai bi ci di pj fl) (Fhob (v_cap fl)) ((v_cap fl) + (1 : Int32)) (v_nD ai bi ci di fl)) = (v_ex ai bi ci di pj fl) then true else false) → Steps p.tables e below (T43.setTop (mkF m 238 #[.val (.int ai), .val (.int bi), .val (.int ci), .val (.int di), .val (.long pj), .second, .val (.int fl), .val (.int (v_cap fl)), .val (.int (v_s0 ai fl)), .val (.int (v_s1 bi fl)), .val (.int (v_s2 ci fl)), .val (.int (v_s3 di fl)), .val (.ref b5), .val (.long (v_p0 ai fl)), .second, .val (.long (v_p1 ai bi fl)), .second, .val (.long (v_p2 ai bi ci fl)), .second, .val (.long (v_tot ai bi ci di fl)), .second, .val (.long (v_pt ai bi ci di pj fl)), .second, .val (.int (v_ex ai bi ci di pj fl))] [(.int (b2i v1))])) t := fun v1 hv1 => by subst hv1; exact k
      show Steps p.tables e below (T43.setTop (mkF m 230 #[.val (.int ai), .val (.int bi), .val (.int ci), .val (.int di), .val (.long pj), .second, .val (.int fl), .val (.int (v_cap fl)), .val (.int (v_s0 ai fl)), .val (.int (v_s1 bi fl)), .val (.int (v_s2 ci fl)), .val (.int (v_s3 di fl)), .val (.ref b5), .val (.long (v_p0 ai fl)), .second, .val (.long (v_p1 ai bi fl)), .second, .val (.long (v_p2 ai bi ci fl)), .second, .val (.long (v_tot ai bi ci di fl)), .second, .val (.long (v_pt ai bi ci di pj fl)), .second, .val (.int (v_ex ai bi ci di pj fl))] [(.int (v_ex ai bi ci di pj fl)), (.int (Fix (v_pt ai bi ci di pj fl) (Fhob (v_cap fl)) ((v_cap fl) + (1 : Int32)) (v_nD ai bi ci di fl)))])) _
      by_cases hc46 : (Fix (v_pt ai bi ci di pj fl) (Fhob (v_cap fl)) ((v_cap fl) + (1 : Int32)) (v_nD ai bi ci di fl)) = (v_ex ai bi ci di pj fl)
      · refine XS.icmpNo X43.here hx rfl (hb hby at_230) rfl (teq hc46).2 ?_
        have k : ∀ (v1 : Bool), v1 = true → Steps p.tables e below (T43.setTop (mkF m 238 #[.val (.int ai), .val (.int bi), .val (.int ci), .val (.int di), .val (.long pj), .second, .val (.int fl), .val (.int (v_cap fl)), .val (.int (v_s0 ai fl)), .val (.int (v_s1 bi fl)), .val (.int (v_s2 ci fl)), .val (.int (v_s3 di fl)), .val (.ref b5), .val (.long (v_p0 ai fl)), .second, .val (.long (v_p1 ai bi fl)), .second, .val (.long (v_p2 ai bi ci fl)), .second, .val (.long (v_tot ai bi ci di fl)), .second, .val (.long (v_pt ai bi ci di pj fl)), .second, .val (.int (v_ex ai bi ci di pj fl))] [(.int (b2i v1))])) t := fun v1 hv1 => k v1 (hv1.trans (if_pos hc46).symm)
        show Steps p.tables e below (T43.setTop (mkF m 233 #[.val (.int ai), .val (.int bi), .val (.int ci), .val (.int di), .val (.long pj), .second, .val (.int fl), .val (.int (v_cap fl)), .val (.int (v_s0 ai fl)), .val (.int (v_s1 bi fl)), .val (.int (v_s2 ci fl)), .val (.int (v_s3 di fl)), .val (.ref b5), .val (.long (v_p0 ai fl)), .second, .val (.long (v_p1 ai bi fl)), .second, .val (.long (v_p2 ai bi ci fl)), .second, .val (.long (v_tot ai bi ci di fl)), .second, .val (.long (v_pt ai bi ci di pj fl)), .second, .val (.int (v_ex ai bi ci di pj fl))] [])) _
        refine XS.iconst X43.here hx rfl (hb hby at_233) ?_
        show Steps p.tables e below (T43.setTop (mkF m 234 #[.val (.int ai), .val (.int bi), .val (.int ci), .val (.int di), .val (.long pj), .second, .val (.int fl), .val (.int (v_cap fl)), .val (.int (v_s0 ai fl)), .val (.int (v_s1 bi fl)), .val (.int (v_s2 ci fl)), .val (.int (v_s3 di fl)), .val (.ref b5), .val (.long (v_p0 ai fl)), .second, .val (.long (v_p1 ai bi fl)), .second, .val (.long (v_p2 ai bi ci fl)), .second, .val (.long (v_tot ai bi ci di fl)), .second, .val (.long (v_pt ai bi ci di pj fl)), .second, .val (.int (v_ex ai bi ci di pj fl))] [(.int (1 : Int32))])) _
        refine XS.goto X43.here hx rfl (pc0 := 234) (pc' := 238) rfl (hb hby at_234) (by decide) (by decide) ?_
        exact k true rfl
      · refine XS.icmpYes X43.here hx rfl (pc0 := 230) (pc' := 237) rfl (hb hby at_230) rfl (feq hc46).2 (by decide) (by decide) ?_
        have k : ∀ (v1 : Bool), v1 = false → Steps p.tables e below (T43.setTop (mkF m 238 #[.val (.int ai), .val (.int bi), .val (.int ci), .val (.int di), .val (.long pj), .second, .val (.int fl), .val (.int (v_cap fl)), .val (.int (v_s0 ai fl)), .val (.int (v_s1 bi fl)), .val (.int (v_s2 ci fl)), .val (.int (v_s3 di fl)), .val (.ref b5), .val (.long (v_p0 ai fl)), .second, .val (.long (v_p1 ai bi fl)), .second, .val (.long (v_p2 ai bi ci fl)), .second, .val (.long (v_tot ai bi ci di fl)), .second, .val (.long (v_pt ai bi ci di pj fl)), .second, .val (.int (v_ex ai bi ci di pj fl))] [(.int (b2i v1))])) t := fun v1 hv1 => k v1 (hv1.trans (if_neg hc46).symm)
        show Steps p.tables e below (T43.setTop (mkF m 237 #[.val (.int ai), .val (.int bi), .val (.int ci), .val (.int di), .val (.long pj), .second, .val (.int fl), .val (.int (v_cap fl)), .val (.int (v_s0 ai fl)), .val (.int (v_s1 bi fl)), .val (.int (v_s2 ci fl)), .val (.int (v_s3 di fl)), .val (.ref b5), .val (.long (v_p0 ai fl)), .second, .val (.long (v_p1 ai bi fl)), .second, .val (.long (v_p2 ai bi ci fl)), .second, .val (.long (v_tot ai bi ci di fl)), .second, .val (.long (v_pt ai bi ci di pj fl)), .second, .val (.int (v_ex ai bi ci di pj fl))] [])) _
        refine XS.iconst X43.here hx rfl (hb hby at_237) ?_
        exact k false rfl
    have hlaw : (if (Fix (v_pt ai bi ci di pj fl) (Fhob (v_cap fl)) ((v_cap fl) + (1 : Int32)) (v_nD ai bi ci di fl)) = (v_ex ai bi ci di pj fl) then true else false) = true := own_law1 ai bi ci di pj fl hc36
    obtain ⟨fs, hr, hrun, hended, hW, hsame⟩ := X43.leave (v := some (.int (1 : Int32))) (fun h => by rw [Bd.returns] at h; cases h) (BodyLoose.notSynchronized Bd)
    refine ⟨_, _, pre45 _ ?_, hrun, hended, _, _, rfl, ?_, ⟨_, rfl⟩, hW, hsame.mono (by decide) (by decide)⟩
    · show Steps p.tables e below (T43.setTop (mkF m 238 #[.val (.int ai), .val (.int bi), .val (.int ci), .val (.int di), .val (.long pj), .second, .val (.int fl), .val (.int (v_cap fl)), .val (.int (v_s0 ai fl)), .val (.int (v_s1 bi fl)), .val (.int (v_s2 ci fl)), .val (.int (v_s3 di fl)), .val (.ref b5), .val (.long (v_p0 ai fl)), .second, .val (.long (v_p1 ai bi fl)), .second, .val (.long (v_p2 ai bi ci fl)), .second, .val (.long (v_tot ai bi ci di fl)), .second, .val (.long (v_pt ai bi ci di pj fl)), .second, .val (.int (v_ex ai bi ci di pj fl))] [(.int (b2i (if (Fix (v_pt ai bi ci di pj fl) (Fhob (v_cap fl)) ((v_cap fl) + (1 : Int32)) (v_nD ai bi ci di fl)) = (v_ex ai bi ci di pj fl) then true else false)))])) _
      exact retN X43 hx (t := .boolean) Bd.returns (by simp) (hb hby at_238) (by rw [b2i_one hlaw]; exact hr)
    · show Q0 Z ai bi ci di pj fl h0 n0 _ T43.heap _
      rw [e43]
      exact ⟨rfl, N43⟩
set_option maxRecDepth 65536 in
set_option maxHeartbeats 40000000 in
theorem comes_1 {Post : Tables → Env → Array Value → State → Outcome → State → Prop} (hpost : ∀ tb e args s v u, (limb_1_1.after args s (.returned v) u = true ∧ limb_1_2.after args s (.returned v) u = true ∧ True) → FrameEnd s (.returned v) u (Jvm.fieldLocs frame_1_writes args s ++ Jvm.arrayLocs frame_1_arrays args s ++ Jvm.staticLocs frame_1_statics s) 16 128 → Post tb e args s (.returned v) u) :
    ArmFor flags0 classFile x code maxLocals ret World_1 tables_1 room_1 Calls_1 rest_1 Pre_1 Post := by
  intro l hfl _ _ p e ha hc hk s m args below hf hA hF happ hP
  obtain ⟨hcalls, hrest, hpre⟩ := hP
  obtain ⟨-, -, -, hnamed, -, -, -, hat⟩ := (Spec.applies_iff hf).mp happ
  obtain ⟨hg, hn⟩ := and_e (Cond.before_iff.mp (show (Jvm.Cond.and given_1 narrow_1).before args s = true from hpre))
  obtain ⟨g1, g2⟩ := and_e hg
  obtain ⟨g3, g4⟩ := and_e g2
  obtain ⟨g5, g6⟩ := and_e g4
  obtain ⟨g7, g8⟩ := and_e g6
  obtain ⟨g9, g10⟩ := and_e g8
  obtain ⟨g11, g12⟩ := and_e g10
  obtain ⟨w0, w1, w2, w3, w4, w5, rfl⟩ : ∃ w0 w1 w2 w3 w4 w5 : Value, args = #[w0, w1, w2, w3, w4, w5] := by
    have hs : args.size = 6 := by simpa [Cond.value, given_1] using g1
    obtain ⟨L⟩ := args
    match L, hs with
    | [w0, w1, w2, w3, w4, w5], _ => exact ⟨w0, w1, w2, w3, w4, w5, rfl⟩
  have hw := fun d (hd : d ∈ tables_1) => atoms_spec (ws := Jvm.Cond.code x code maxLocals ret :: tables_1) hat d (List.mem_cons_of_mem _ hd)
  obtain ⟨i0, ei0⟩ := is_v g3
  obtain rfl : w0 = (.int i0) := Option.some.inj ei0
  obtain ⟨i1, ei1⟩ := is_v g5
  obtain rfl : w1 = (.int i1) := Option.some.inj ei1
  obtain ⟨i2, ei2⟩ := is_v g7
  obtain rfl : w2 = (.int i2) := Option.some.inj ei2
  obtain ⟨i3, ei3⟩ := is_v g9
  obtain rfl : w3 = (.int i3) := Option.some.inj ei3
  obtain ⟨i4, ei4⟩ := isL_v g11
  obtain rfl : w4 = (.long i4) := Option.some.inj ei4
  obtain ⟨i5, ei5⟩ := is_v g12
  obtain rfl : w5 = (.int i5) := Option.some.inj ei5
  obtain ⟨n, o, h1, h2, h3, _, L, rfl, ⟨rfl, N⟩, hq⟩ := rm0 l s _ hw tables_1 i0 i1 i2 i3 i4 i5 s.heap s.heap.size (Nat.le_refl _) p e ha hc hk s m _ below hf ((Spec.applies_iff_loose hf).mp happ).1 ⟨rfl, State.Warmed39.refl s, rfl⟩ trivial
  refine ⟨n, _, h1, h2, h3, hpost _ _ _ _ _ _ ⟨Cond.after_iff.mpr rfl, Cond.after_iff.mpr (eq_i res_at (Term.int_eval (1)) rfl), trivial⟩ ⟨hq.1, hq.2.1, (hq.2.2.sift fun y hy => Or.inr (N y hy)).mono (by decide) (by decide)⟩⟩
theorem main_1_1 : Claimed_1_1 := comes_1 fun _ _ _ _ _ _ h hF => ⟨h.1, hF⟩
theorem main_1_2 : Claimed_1_2 := comes_1 fun _ _ _ _ _ _ h hF => ⟨h.2.1, hF⟩
end Jvm.Pilot.@@N@@
namespace Jvm.Pilot.@@N@@
open Jvm Jvm.ClassFile Sem Op Lib Jvm.Free Jvm.Stand Jvm.Pilot.@@N@@.Jvm.D
/-! MADE BY PROGRAM (witnessworld.py) out of the Statement's table words and the real class files: 16 classes; the members and pool entries that the words name. The judged class is class 1, her method 1. -/
namespace start1
open Jvm.ClassFile
def u (s : String) : CpInfo := .utf8 (stringToUtf16 s)
/-- a pool by its gaps: so many unusable entries, then the entry; so many at the end -/
def gap : Nat → List CpInfo → List CpInfo
  | 0, r => r
  | n + 1, r => .unusable :: gap n r
def poolList (es : List (Nat × CpInfo)) (last : Nat) : List CpInfo := es.foldr (fun e r => gap e.1 (e.2 :: r)) (gap last [])
def pool (es : List (Nat × CpInfo)) (last : Nat) : Array CpInfo := ⟨poolList es last⟩
def fileOf (pool : Array CpInfo) (this : Nat) (attrs : Array Attribute := #[]) (ms : Array MethodInfo := #[]) (fl : Nat := 33) (sup : Nat := 0) (ifs : Array Nat := #[]) (fds : Array FieldInfo := #[]) : ClassFile where
  minorVersion := 0
  majorVersion := 65
  constantPool := pool
  accessFlags := fl
  thisClass := this
  superClass := sup
  interfaces := ifs
  fields := fds
  methods := ms
  attributes := attrs
def plain (name : String) (sup : Option ClassId) : Class where
  name := name
  kind := .ordinary
  loader := none
  accessFlags := 33
  super := sup
  interfaces := #[]
  cf := none
  fields := #[]
  methods := #[]
  instanceTypes := #[]
  staticTypes := #[]
  resolved := #[]
  callSites := []
  init := .initialized
  statics := none
  mirror := none

def pool0 : Array CpInfo := pool [(5, u "<init>"), (0, u "()V"), (1, .class_ 10), (1, u "java/lang/Object")] 113

def k0c0 : Code := { maxStack := 0, maxLocals := 1, code := object_method_1_code, exceptionTable := #[], attributes := #[] }
def k0m0 : Method := { name := "<init>", desc := "()V", sig := { parameters := [], returnType := none }, accessFlags := 1, code := some k0c0 }
/-- java/lang/Object -/
def k0 : Class := { plain "java/lang/Object" none with
  accessFlags := 33
  interfaces := #[]
  cf := some (fileOf pool0 8 #[] #[{ accessFlags := 1, nameIndex := 5, descriptorIndex := 6, attributes := #[] }] 33 0 #[] #[])
  fields := #[]
  methods := #[k0m0]
  instanceTypes := #[]
  staticTypes := #[]
  resolved := Array.replicate 124 none
  statics := none }

def pool1 : Array CpInfo := pool [(2, .class_ 4), (1, u "java/lang/Object"), (0, u "<init>"), (0, u "()V"), (0, .methodref 8 9), (0, .class_ 10), (0, .nameAndType 11 12), (0, u "com/example/dealer/dealer/ChangingSharesIndexAtPinLaw"), (0, u "share"), (0, u "(IIII)I"), (0, .class_ 14), (0, u "com/example/dealer/dealer/ChangingShares"), (0, .methodref 13 16), (0, .nameAndType 5 17), (0, u "(I)V"), (0, .methodref 13 19), (0, .nameAndType 20 21), (0, u "set"), (0, u "(II)V"), (0, .methodref 13 23), (0, .nameAndType 24 25), (0, u "total"), (0, u "()J"), (2, .long 9223372036854775807), (1, .methodref 13 31), (0, .nameAndType 32 33), (0, u "indexAt"), (0, u "(J)I"), (0, .integer 2147483647), (2, u "law"), (0, u "(IIIIJI)Z")] 3

def k1m0 : Method := { name := "<init>", desc := "()V", sig := { parameters := [], returnType := none }, accessFlags := 2, code := none }
def k1c1 : Code := { maxStack := 4, maxLocals := 24, code := code, exceptionTable := #[], attributes := #[] }
def k1m1 : Method := { name := "law", desc := "(IIIIJI)Z", sig := { parameters := [.int, .int, .int, .int, .long, .int], returnType := some .boolean }, accessFlags := 9, code := some k1c1 }
def k1c2 : Code := { maxStack := 3, maxLocals := 4, code := method_3_code, exceptionTable := #[], attributes := #[] }
def k1m2 : Method := { name := "share", desc := "(IIII)I", sig := { parameters := [.int, .int, .int, .int], returnType := some .int }, accessFlags := 10, code := some k1c2 }
/-- com/example/dealer/dealer/ChangingSharesIndexAtPinLaw -/
def k1 : Class := { plain "com/example/dealer/dealer/ChangingSharesIndexAtPinLaw" (some 0) with
  accessFlags := 49
  interfaces := #[]
  cf := some (fileOf pool1 8 #[] #[{ accessFlags := 2, nameIndex := 5, descriptorIndex := 6, attributes := #[] }, { accessFlags := 9, nameIndex := 37, descriptorIndex := 38, attributes := #[] }, { accessFlags := 10, nameIndex := 11, descriptorIndex := 12, attributes := #[] }] 49 2 #[] #[])
  fields := #[]
  methods := #[k1m0, k1m1, k1m2]
  instanceTypes := #[]
  staticTypes := #[]
  resolved := Array.replicate 42 none
  statics := none }

def pool2 : Array CpInfo := pool [(1, .methodref 2 3), (0, .class_ 4), (0, .nameAndType 5 6), (0, u "java/lang/Object"), (0, u "<init>"), (0, u "()V"), (0, .fieldref 8 9), (0, .class_ 10), (0, .nameAndType 11 12), (0, u "com/example/dealer/dealer/ChangingShares"), (0, u "nodes"), (0, u "[J"), (0, .fieldref 8 14), (0, .nameAndType 15 16), (0, u "shares"), (0, u "[I"), (0, .methodref 18 19), (0, .class_ 20), (0, .nameAndType 21 22), (0, u "java/lang/Integer"), (0, u "highestOneBit"), (0, u "(I)I"), (0, .fieldref 8 24), (0, .nameAndType 25 26), (0, u "firstStep"), (0, u "I"), (0, .fieldref 8 28), (0, .nameAndType 29 30), (0, u "total"), (0, u "J"), (6, u "(I)V"), (5, u "set"), (0, u "(II)V"), (1, u "()J"), (0, u "indexAt"), (0, u "(J)I")] 2

def k2c0 : Code := { maxStack := 3, maxLocals := 2, code := prog_6_method_1_code, exceptionTable := #[], attributes := #[] }
def k2m0 : Method := { name := "<init>", desc := "(I)V", sig := { parameters := [.int], returnType := none }, accessFlags := 0, code := some k2c0 }
def k2c1 : Code := { maxStack := 6, maxLocals := 6, code := prog_6_method_3_code, exceptionTable := #[], attributes := #[] }
def k2m1 : Method := { name := "set", desc := "(II)V", sig := { parameters := [.int, .int], returnType := none }, accessFlags := 0, code := some k2c1 }
def k2c2 : Code := { maxStack := 2, maxLocals := 1, code := prog_6_method_5_code, exceptionTable := #[], attributes := #[] }
def k2m2 : Method := { name := "total", desc := "()J", sig := { parameters := [], returnType := some .long }, accessFlags := 0, code := some k2c2 }
def k2c3 : Code := { maxStack := 6, maxLocals := 12, code := prog_6_method_6_code, exceptionTable := #[], attributes := #[] }
def k2m3 : Method := { name := "indexAt", desc := "(J)I", sig := { parameters := [.long], returnType := some .int }, accessFlags := 0, code := some k2c3 }
/-- com/example/dealer/dealer/ChangingShares -/
def k2 : Class := { plain "com/example/dealer/dealer/ChangingShares" (some 0) with
  accessFlags := 32
  interfaces := #[]
  cf := some (fileOf pool2 8 #[] #[{ accessFlags := 0, nameIndex := 5, descriptorIndex := 37, attributes := #[] }, { accessFlags := 0, nameIndex := 43, descriptorIndex := 44, attributes := #[] }, { accessFlags := 0, nameIndex := 29, descriptorIndex := 46, attributes := #[] }, { accessFlags := 0, nameIndex := 47, descriptorIndex := 48, attributes := #[] }] 32 2 #[] #[{ accessFlags := 18, nameIndex := 11, descriptorIndex := 12, attributes := #[] }, { accessFlags := 18, nameIndex := 15, descriptorIndex := 16, attributes := #[] }, { accessFlags := 18, nameIndex := 25, descriptorIndex := 26, attributes := #[] }, { accessFlags := 2, nameIndex := 29, descriptorIndex := 30, attributes := #[] }])
  fields := #[{ name := "nodes", type := (.array .long), accessFlags := 18, slot := 0, constantValue := 0 }, { name := "shares", type := (.array .int), accessFlags := 18, slot := 1, constantValue := 0 }, { name := "firstStep", type := .int, accessFlags := 18, slot := 2, constantValue := 0 }, { name := "total", type := .long, accessFlags := 2, slot := 3, constantValue := 0 }]
  methods := #[k2m0, k2m1, k2m2, k2m3]
  instanceTypes := #[(.array .long), (.array .int), .int, .long]
  staticTypes := #[]
  resolved := Array.replicate 51 none
  statics := none }

def pool3 : Array CpInfo := pool [(1, .class_ 2), (0, u "java/io/Serializable"), (0, .class_ 4), (0, u "java/lang/Object")] 2

/-- java/io/Serializable -/
def k3 : Class := { plain "java/io/Serializable" (some 0) with
  accessFlags := 1537
  interfaces := #[]
  cf := some (fileOf pool3 1 #[] #[] 1537 3 #[] #[])
  fields := #[]
  methods := #[]
  instanceTypes := #[]
  staticTypes := #[]
  resolved := Array.replicate 7 none
  statics := none }

def pool4 : Array CpInfo := pool [(2, .class_ 4), (1, u "java/lang/Object"), (0, u "<init>"), (0, u "()V"), (1, .class_ 10), (1, u "java/lang/Number"), (2, .class_ 14), (0, u "java/io/Serializable"), (0, u "serialVersionUID"), (0, u "J")] 20

def k4m0 : Method := { name := "<init>", desc := "()V", sig := { parameters := [], returnType := none }, accessFlags := 1, code := none }
/-- java/lang/Number -/
def k4 : Class := { plain "java/lang/Number" (some 0) with
  accessFlags := 1057
  interfaces := #[3]
  cf := some (fileOf pool4 8 #[] #[{ accessFlags := 1, nameIndex := 5, descriptorIndex := 6, attributes := #[] }] 1057 2 #[13] #[{ accessFlags := 26, nameIndex := 15, descriptorIndex := 16, attributes := #[] }])
  fields := #[{ name := "serialVersionUID", type := .long, accessFlags := 26, slot := 0, constantValue := 0 }]
  methods := #[k4m0]
  instanceTypes := #[]
  staticTypes := #[.long]
  resolved := Array.replicate 37 none
  statics := none }

def pool5 : Array CpInfo := pool [(1, .class_ 2), (0, u "java/lang/Comparable"), (0, .class_ 4), (0, u "java/lang/Object")] 7

/-- java/lang/Comparable -/
def k5 : Class := { plain "java/lang/Comparable" (some 0) with
  accessFlags := 1537
  interfaces := #[]
  cf := some (fileOf pool5 1 #[] #[] 1537 3 #[] #[])
  fields := #[]
  methods := #[]
  instanceTypes := #[]
  staticTypes := #[]
  resolved := Array.replicate 12 none
  statics := none }

def pool6 : Array CpInfo := pool [(1, .class_ 2), (0, u "java/lang/constant/Constable"), (0, .class_ 4), (0, u "java/lang/Object")] 6

/-- java/lang/constant/Constable -/
def k6 : Class := { plain "java/lang/constant/Constable" (some 0) with
  accessFlags := 1537
  interfaces := #[]
  cf := some (fileOf pool6 1 #[] #[] 1537 3 #[] #[])
  fields := #[]
  methods := #[]
  instanceTypes := #[]
  staticTypes := #[]
  resolved := Array.replicate 11 none
  statics := none }

def pool7 : Array CpInfo := pool [(1, .class_ 2), (0, u "java/lang/constant/ConstantDesc"), (0, .class_ 4), (0, u "java/lang/Object")] 32

/-- java/lang/constant/ConstantDesc -/
def k7 : Class := { plain "java/lang/constant/ConstantDesc" (some 0) with
  accessFlags := 1537
  interfaces := #[]
  cf := some (fileOf pool7 1 #[] #[] 1537 3 #[] #[])
  fields := #[]
  methods := #[]
  instanceTypes := #[]
  staticTypes := #[]
  resolved := Array.replicate 37 none
  statics := none }

def pool8 : Array CpInfo := pool [(1, .class_ 2), (0, u "java/lang/Integer"), (16, u "digits"), (0, u "[C"), (30, .methodref 1 52), (0, .nameAndType 53 54), (0, u "numberOfLeadingZeros"), (0, u "(I)I"), (30, u "DigitOnes"), (0, u "[B"), (2, u "DigitTens"), (37, .integer 2147483648), (61, .class_ 190), (0, u "java/lang/Integer$IntegerCache"), (3, u "I"), (8, .class_ 204), (0, u "java/lang/Number"), (2, u "value"), (56, .integer 65536), (37, u "TYPE"), (0, u "Ljava/lang/Class;"), (0, .class_ 305), (0, u "java/lang/Comparable"), (0, .class_ 307), (0, u "java/lang/constant/Constable"), (0, .class_ 309), (0, u "java/lang/constant/ConstantDesc"), (0, u "MIN_VALUE"), (1, u "MAX_VALUE"), (3, u "SIZE"), (1, u "BYTES"), (1, u "serialVersionUID"), (0, u "J"), (81, u "highestOneBit")] 49

def k8c0 : Code := { maxStack := 3, maxLocals := 1, code := jdk_33_method_45_code, exceptionTable := #[], attributes := #[] }
def k8m0 : Method := { name := "highestOneBit", desc := "(I)I", sig := { parameters := [.int], returnType := some .int }, accessFlags := 9, code := some k8c0 }
def k8c1 : Code := { maxStack := 3, maxLocals := 2, code := jdk_33_method_47_code, exceptionTable := #[], attributes := #[] }
def k8m1 : Method := { name := "numberOfLeadingZeros", desc := "(I)I", sig := { parameters := [.int], returnType := some .int }, accessFlags := 9, code := some k8c1 }
/-- java/lang/Integer -/
def k8 : Class := { plain "java/lang/Integer" (some 4) with
  accessFlags := 49
  interfaces := #[5, 6, 7]
  cf := some (fileOf pool8 1 #[.nestMembers #[189]] #[{ accessFlags := 9, nameIndex := 403, descriptorIndex := 54, attributes := #[] }, { accessFlags := 9, nameIndex := 53, descriptorIndex := 54, attributes := #[] }] 49 203 #[304, 306, 308] #[{ accessFlags := 25, nameIndex := 310, descriptorIndex := 194, attributes := #[] }, { accessFlags := 25, nameIndex := 312, descriptorIndex := 194, attributes := #[] }, { accessFlags := 25, nameIndex := 302, descriptorIndex := 303, attributes := #[] }, { accessFlags := 24, nameIndex := 19, descriptorIndex := 20, attributes := #[] }, { accessFlags := 24, nameIndex := 89, descriptorIndex := 86, attributes := #[] }, { accessFlags := 24, nameIndex := 85, descriptorIndex := 86, attributes := #[] }, { accessFlags := 18, nameIndex := 207, descriptorIndex := 194, attributes := #[] }, { accessFlags := 25, nameIndex := 316, descriptorIndex := 194, attributes := #[] }, { accessFlags := 25, nameIndex := 318, descriptorIndex := 194, attributes := #[] }, { accessFlags := 26, nameIndex := 320, descriptorIndex := 321, attributes := #[] }])
  fields := #[{ name := "MIN_VALUE", type := .int, accessFlags := 25, slot := 0, constantValue := 0 }, { name := "MAX_VALUE", type := .int, accessFlags := 25, slot := 1, constantValue := 0 }, { name := "TYPE", type := (.object "java/lang/Class"), accessFlags := 25, slot := 2, constantValue := 0 }, { name := "digits", type := (.array .char), accessFlags := 24, slot := 3, constantValue := 0 }, { name := "DigitTens", type := (.array .byte), accessFlags := 24, slot := 4, constantValue := 0 }, { name := "DigitOnes", type := (.array .byte), accessFlags := 24, slot := 5, constantValue := 0 }, { name := "value", type := .int, accessFlags := 18, slot := 0, constantValue := 0 }, { name := "SIZE", type := .int, accessFlags := 25, slot := 6, constantValue := 0 }, { name := "BYTES", type := .int, accessFlags := 25, slot := 7, constantValue := 0 }, { name := "serialVersionUID", type := .long, accessFlags := 26, slot := 8, constantValue := 0 }]
  methods := #[k8m0, k8m1]
  instanceTypes := #[.int]
  staticTypes := #[.int, .int, (.object "java/lang/Class"), (.array .char), (.array .byte), (.array .byte), .int, .int, .long]
  resolved := Array.replicate 453 none
  statics := none }

def pool9 : Array CpInfo := pool [(1, u "java/lang/Cloneable"), (0, .class_ 1), (0, u "java/lang/Object"), (0, .class_ 3)] 3

/-- java/lang/Cloneable -/
def k9 : Class := { plain "java/lang/Cloneable" (some 0) with
  accessFlags := 1537
  interfaces := #[]
  cf := some (fileOf pool9 2 #[] #[] 1537 4 #[] #[])
  fields := #[]
  methods := #[]
  instanceTypes := #[]
  staticTypes := #[]
  resolved := Array.replicate 8 none
  statics := none }

/-- the primitive byte -/
def k10 : Class := { plain "byte" none with kind := .primitive 'B', accessFlags := 0x411 }
/-- [B -/
def k11 : Class := { plain "[B" (some 0) with kind := .array 10 .byte, interfaces := #[9, 3], accessFlags := 1041 }

/-- the primitive int -/
def k12 : Class := { plain "int" none with kind := .primitive 'I', accessFlags := 0x411 }
/-- [I -/
def k13 : Class := { plain "[I" (some 0) with kind := .array 12 .int, interfaces := #[9, 3], accessFlags := 1041 }

/-- the primitive long -/
def k14 : Class := { plain "long" none with kind := .primitive 'J', accessFlags := 0x411 }
/-- [J -/
def k15 : Class := { plain "[J" (some 0) with kind := .array 14 .long, interfaces := #[9, 3], accessFlags := 1041 }

def heap : Heap := #[]
def classes : Array Class := #[k0, k1, k2, k3, k4, k5, k6, k7, k8, k9, k10, k11, k12, k13, k14, k15]
def interned : List (Array UInt16 × Addr) := []
def slotsUsed : Nat := 0
def theMethod : MethodId := ⟨1, 1⟩
def args0 : Array Value := #[.int 5, .int 3, .int 7, .int 4, .long 9, .int 5]
def aboutOver (below : List Frame) : State where
  vm := { classes := classes, interned := interned.toArray }
  heap := heap
  slotsUsed := slotsUsed
  threads := #[{ frames := .invoking theMethod args0 :: below }]
def below0 : List Frame := [.native { method := ⟨0, 0⟩, args := #[] }]
def about1 : State := aboutOver below0
def p0 : Program := .bare "" "" ""
def e0 : Env := launch0.env 0 0 0
theorem w_frames : about1.frames = Frame.invoking theMethod args0 :: below0 := rfl
set_option maxRecDepth 65536 in
theorem w_args : argsFit about1.vm theMethod args0 = true := by decide +kernel
set_option maxRecDepth 65536 in
theorem w_heap : heapFits about1 = true := by decide +kernel
set_option maxRecDepth 65536 in
theorem w_runnable : about1.curStatus? = some .runnable := by decide +kernel
set_option maxRecDepth 65536 in
theorem w_alone : about1.alone = true := by decide +kernel
set_option maxRecDepth 65536 in
theorem w_named : about1.methodNamed? x = some theMethod := by decide +kernel
set_option maxRecDepth 65536 in
theorem w_hears : about1.hears theMethod below0 = true := by decide +kernel
set_option maxRecDepth 65536 in
theorem w_ripe : about1.ripe theMethod args0 below0 = true := by decide +kernel
theorem w_running : about1.status = .running := rfl
set_option maxRecDepth 65536 in
theorem w_room : about1.hasRoom e0.platform room_1 = true :=
  launch0.hasRoom_least _ room_1 (by decide +kernel) (by decide +kernel) (by decide +kernel) (by decide +kernel) (by decide +kernel) (by decide +kernel)
theorem allAtoms_all (ts : List Jvm.Cond) (a : Array Jvm.Value) (st : Jvm.State) : (allAtoms ts).before a st = ts.all (fun c => c.before a st) := by
  induction ts with
  | nil => rfl
  | cons c t ih =>
    show (Jvm.Cond.and c (allAtoms t)).before a st = _
    rw [Jvm.Cond.before_and, ih, List.all_cons]
def words1 : List Jvm.Cond := Jvm.Cond.code x code maxLocals ret :: tables_1
/-- a 'code' word, met by the world's own term for the bytes: nothing is compared byte by byte -/
theorem code_word {y : MethodName} {bytes : ByteArray} {mx : Nat} {rt : Option FieldType} {a : Array Value} {s : State} {m : MethodId} {meth : Method} {c : Code} (h1 : s.methodNamed? y = some m) (h2 : s.vm.method? m = some meth) (h3 : meth.code = some c) (h4 : c.code = bytes)
    (h5 : (c.maxLocals == mx && c.exceptionTable.isEmpty && decide (c.maxStack ≤ mostOperands) && decide (meth.sig.returnType = rt) && !meth.locks && decide (parseMethodDescriptor y.desc = some meth.sig)) = true) : (Jvm.Cond.code y bytes mx rt).before a s = true := by
  simp only [Bool.and_eq_true, beq_iff_eq, Bool.not_eq_true', decide_eq_true_eq] at h5
  obtain ⟨⟨⟨⟨⟨g1, g2⟩, g3⟩, g4⟩, g5⟩, g6⟩ := h5
  simp [Cond.before, Cond.holds, Cond.value, h1, h2, h3, h4, g1, g2, g3, g4, g5, g6]
def isCode : Jvm.Cond → Bool
  | .code _ _ _ _ => true
  | _ => false
theorem all_split {L : List Jvm.Cond} {P : Jvm.Cond → Bool} (h1 : L.all (fun c => isCode c || P c) = true) (h2 : ∀ c ∈ L.filter isCode, P c = true) : L.all P = true := by
  refine List.all_eq_true.mpr fun c hc => ?_
  have h := List.all_eq_true.mp h1 c hc
  rcases Bool.eq_false_or_eq_true (isCode c) with hi | hi
  · exact h2 c (List.mem_filter.mpr ⟨hc, hi⟩)
  · simpa [hi] using h
set_option maxRecDepth 65536 in
theorem w_c0 : (Jvm.Cond.code x code maxLocals ret).before args0 about1 = true := code_word (m := ⟨1, 1⟩) (meth := k1m1) (c := k1c1) (by decide +kernel) rfl rfl rfl (by decide +kernel)
set_option maxRecDepth 65536 in
theorem w_c1 : (Jvm.Cond.code ({ cls := "com/example/dealer/dealer/ChangingSharesIndexAtPinLaw", name := "share", desc := "(IIII)I" } : Jvm.MethodName) method_3_code (4 : Nat) (Option.some Jvm.ClassFile.FieldType.int)).before args0 about1 = true := code_word (m := ⟨1, 2⟩) (meth := k1m2) (c := k1c2) (by decide +kernel) rfl rfl rfl (by decide +kernel)
set_option maxRecDepth 65536 in
theorem w_c2 : (Jvm.Cond.code ({ cls := "com/example/dealer/dealer/ChangingShares", name := "<init>", desc := "(I)V" } : Jvm.MethodName) prog_6_method_1_code (2 : Nat) (Option.none : Option Jvm.ClassFile.FieldType)).before args0 about1 = true := code_word (m := ⟨2, 0⟩) (meth := k2m0) (c := k2c0) (by decide +kernel) rfl rfl rfl (by decide +kernel)
set_option maxRecDepth 65536 in
theorem w_c3 : (Jvm.Cond.code ({ cls := "java/lang/Object", name := "<init>", desc := "()V" } : Jvm.MethodName) object_method_1_code (1 : Nat) (Option.none : Option Jvm.ClassFile.FieldType)).before args0 about1 = true := code_word (m := ⟨0, 0⟩) (meth := k0m0) (c := k0c0) (by decide +kernel) rfl rfl rfl (by decide +kernel)
set_option maxRecDepth 65536 in
theorem w_c4 : (Jvm.Cond.code ({ cls := "java/lang/Integer", name := "highestOneBit", desc := "(I)I" } : Jvm.MethodName) jdk_33_method_45_code (1 : Nat) (Option.some Jvm.ClassFile.FieldType.int)).before args0 about1 = true := code_word (m := ⟨8, 0⟩) (meth := k8m0) (c := k8c0) (by decide +kernel) rfl rfl rfl (by decide +kernel)
set_option maxRecDepth 65536 in
theorem w_c5 : (Jvm.Cond.code ({ cls := "java/lang/Integer", name := "numberOfLeadingZeros", desc := "(I)I" } : Jvm.MethodName) jdk_33_method_47_code (2 : Nat) (Option.some Jvm.ClassFile.FieldType.int)).before args0 about1 = true := code_word (m := ⟨8, 1⟩) (meth := k8m1) (c := k8c1) (by decide +kernel) rfl rfl rfl (by decide +kernel)
set_option maxRecDepth 65536 in
theorem w_c6 : (Jvm.Cond.code ({ cls := "com/example/dealer/dealer/ChangingShares", name := "set", desc := "(II)V" } : Jvm.MethodName) prog_6_method_3_code (6 : Nat) (Option.none : Option Jvm.ClassFile.FieldType)).before args0 about1 = true := code_word (m := ⟨2, 1⟩) (meth := k2m1) (c := k2c1) (by decide +kernel) rfl rfl rfl (by decide +kernel)
set_option maxRecDepth 65536 in
theorem w_c7 : (Jvm.Cond.code ({ cls := "com/example/dealer/dealer/ChangingShares", name := "total", desc := "()J" } : Jvm.MethodName) prog_6_method_5_code (1 : Nat) (Option.some Jvm.ClassFile.FieldType.long)).before args0 about1 = true := code_word (m := ⟨2, 2⟩) (meth := k2m2) (c := k2c2) (by decide +kernel) rfl rfl rfl (by decide +kernel)
set_option maxRecDepth 65536 in
theorem w_c8 : (Jvm.Cond.code ({ cls := "com/example/dealer/dealer/ChangingShares", name := "indexAt", desc := "(J)I" } : Jvm.MethodName) prog_6_method_6_code (12 : Nat) (Option.some Jvm.ClassFile.FieldType.int)).before args0 about1 = true := code_word (m := ⟨2, 3⟩) (meth := k2m3) (c := k2c3) (by decide +kernel) rfl rfl rfl (by decide +kernel)
def codes1 : List Jvm.Cond := [Jvm.Cond.code x code maxLocals ret, Jvm.Cond.code ({ cls := "com/example/dealer/dealer/ChangingSharesIndexAtPinLaw", name := "share", desc := "(IIII)I" } : Jvm.MethodName) method_3_code (4 : Nat) (Option.some Jvm.ClassFile.FieldType.int), Jvm.Cond.code ({ cls := "com/example/dealer/dealer/ChangingShares", name := "<init>", desc := "(I)V" } : Jvm.MethodName) prog_6_method_1_code (2 : Nat) (Option.none : Option Jvm.ClassFile.FieldType), Jvm.Cond.code ({ cls := "java/lang/Object", name := "<init>", desc := "()V" } : Jvm.MethodName) object_method_1_code (1 : Nat) (Option.none : Option Jvm.ClassFile.FieldType), Jvm.Cond.code ({ cls := "java/lang/Integer", name := "highestOneBit", desc := "(I)I" } : Jvm.MethodName) jdk_33_method_45_code (1 : Nat) (Option.some Jvm.ClassFile.FieldType.int), Jvm.Cond.code ({ cls := "java/lang/Integer", name := "numberOfLeadingZeros", desc := "(I)I" } : Jvm.MethodName) jdk_33_method_47_code (2 : Nat) (Option.some Jvm.ClassFile.FieldType.int), Jvm.Cond.code ({ cls := "com/example/dealer/dealer/ChangingShares", name := "set", desc := "(II)V" } : Jvm.MethodName) prog_6_method_3_code (6 : Nat) (Option.none : Option Jvm.ClassFile.FieldType), Jvm.Cond.code ({ cls := "com/example/dealer/dealer/ChangingShares", name := "total", desc := "()J" } : Jvm.MethodName) prog_6_method_5_code (1 : Nat) (Option.some Jvm.ClassFile.FieldType.long), Jvm.Cond.code ({ cls := "com/example/dealer/dealer/ChangingShares", name := "indexAt", desc := "(J)I" } : Jvm.MethodName) prog_6_method_6_code (12 : Nat) (Option.some Jvm.ClassFile.FieldType.int)]
set_option maxRecDepth 65536 in
theorem codes_eq : words1.filter isCode = codes1 := rfl
theorem w_codes : ∀ c ∈ words1.filter isCode, c.before args0 about1 = true := by
  rw [codes_eq]
  intro c hc
  simp only [codes1, List.mem_cons, List.not_mem_nil, or_false] at hc
  rcases hc with rfl | rfl | rfl | rfl | rfl | rfl | rfl | rfl | rfl
  · exact w_c0
  · exact w_c1
  · exact w_c2
  · exact w_c3
  · exact w_c4
  · exact w_c5
  · exact w_c6
  · exact w_c7
  · exact w_c8
set_option maxRecDepth 65536 in
theorem w_t1 : (words1.take 24).all (fun c => isCode c || c.before args0 about1) = true := by decide +kernel
set_option maxRecDepth 65536 in
theorem w_t2 : ((words1.drop 24).take 24).all (fun c => isCode c || c.before args0 about1) = true := by decide +kernel
set_option maxRecDepth 65536 in
theorem w_t3 : ((words1.drop 24).drop 24).all (fun c => isCode c || c.before args0 about1) = true := by decide +kernel
theorem w_tables : (allAtoms (Jvm.Cond.code x code maxLocals ret :: tables_1)).before args0 about1 = true := by
  rw [allAtoms_all]
  show words1.all (fun c => c.before args0 about1) = true
  refine all_split ?_ w_codes
  rw [← List.take_append_drop 24 words1, List.all_append, w_t1, ← List.take_append_drop 24 (words1.drop 24), List.all_append, w_t2, w_t3]
  rfl
set_option maxRecDepth 65536 in
theorem w_case : (Jvm.Cond.and given_1 narrow_1).before args0 about1 = true := by decide +kernel
theorem w_applies : (headSpec (Jvm.Cond.code x code maxLocals ret :: tables_1) room_1).applies x e0.platform about1 = true :=
  (Spec.applies_iff w_frames).mpr ⟨w_running, w_runnable, w_alone, w_named, w_hears, w_ripe, w_room, w_tables⟩
theorem atStart : AtStart classFile x code maxLocals ret World_1 tables_1 room_1 Calls_1 rest_1 Pre_1 launch0 p0 e0 about1 theMethod args0 below0 :=
  ⟨lists_1, trivial, launch0.admits_env _ _ _, launch0.least_env, fairChoices_fair.cas, fairChoices_fair.clock, w_frames, w_args, w_heap, w_applies, trivial, trivial, w_case⟩
end start1
theorem witness_1 : WitnessClaimed_1 := ⟨start1.p0, start1.e0, start1.about1, start1.theMethod, start1.args0, start1.below0, start1.atStart⟩
end Jvm.Pilot.@@N@@
