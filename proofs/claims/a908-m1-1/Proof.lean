import JvmDerived
import JvmDerived.Pilot.@@N@@Statement
import JvmDerived.Pilot.@@N@@Code
set_option linter.unusedVariables false
set_option linter.unusedSimpArgs false
namespace Jvm.RoadKit
open Sem ClassFile Op Lib Jvm.Stand Jvm.Free Jvm.LawKit
section New
variable {p : Program} {l : Launch} {e : Env} {R : Room} {s : State} {m : MethodId} {args : Array Value} {below : List Frame} {meth : Method} {c : Code} {T : State} {locs : List Loc} {cells slots : Nat}
theorem retI (X : Stand p l e R s m args below meth c T locs cells slots) (hx : p.tables.exec = Jvm.exec) {pc : Nat} {Ls : Array Slot} {z : Int32} {rest : List Value} (hret : meth.sig.returnType = some .int) (hd : decode c.code pc = .ok (.ireturn, 1)) {fs : List Frame}
    (hl : ∀ (f : JFrame) (acts : List Action), f.method = m → f.locked = none → f.entered = [] → (doReturn e (T.setTop f) acts (some (.int z))).1 = T.setFrames fs) : Steps p.tables e below (T.setTop (mkF m pc Ls (.int z :: rest))) (T.setFrames fs) := by
  have hm' : T.vm.method? m = some meth := X.method'
  have hn : narrow .int (.int z) = .int z := rfl
  show Steps p.tables e below (T.setTop { method := m, pc := pc, locals := Ls, stack := _ :: rest, locked := none }) _
  jvm_step X.here [X.here.top, hx, hd, hm', hret, hn]
  first | (intro acts; rw [hl _ acts rfl rfl rfl]) | rw [hl _ _ rfl rfl rfl]
  exact Steps.refl _
end New
end Jvm.RoadKit
namespace Jvm.OwnKit
open Sem ClassFile Op Lib Jvm.Stand Jvm.Free Jvm.LawKit Jvm.RoadKit
def b2i (b : Bool) : Int32 := if b = true then 1 else 0
theorem b2i_eq {b : Bool} (h : ¬ b = true) : b2i b = 0 := if_neg h
theorem b2i_ne {b : Bool} (h : b = true) : ¬ b2i b = 0 := by rw [b2i, if_pos h]; decide
theorem nar_b2i (b : Bool) : nar .boolean (b2i b) = b2i b := by cases b <;> decide
theorem b2i_one {b : Bool} (h : b = true) : nar .boolean (b2i b) = 1 := by rw [h]; decide
end Jvm.OwnKit
namespace Jvm.OwnKit
open Sem ClassFile Op Lib Jvm.Stand Jvm.Free Jvm.LawKit Jvm.RoadKit
section Arrays
variable {Z : State} {h h' : Heap} {a b : Addr} {ty : FieldType} {z : Int32} {G : Int32 → Value}
def AG (Z : State) (h : Heap) (a : Addr) (ty : FieldType) (z : Int32) (G : Int32 → Value) : Prop := ∃ c : Cell, Arr Z h a c ty ∧ c.slots.size = z.toNatClampNeg ∧ ¬ z < 0 ∧ ∀ j : Int32, ¬ j < 0 → j < z → c.slots[j.toNatClampNeg]? = some (G j)
def AJ (Z : State) (h : Heap) (a : Addr) (z : Int32) (f : Int32 → Int64) : Prop := AG Z h a .long z (fun i => .long (f i))
def AI (Z : State) (h : Heap) (a : Addr) (ty : FieldType) (z : Int32) (f : Int32 → Int32) : Prop := AG Z h a ty z (fun i => .int (f i))
def upA {α : Type} (f : Int32 → α) (j : Int32) (v : α) : Int32 → α := fun i => if i = j then v else f i
theorem upA_hit {α : Type} {f : Int32 → α} {j : Int32} {v : α} : upA f j v j = v := if_pos rfl
theorem upA_miss {α : Type} {f : Int32 → α} {i j : Int32} {v : α} (q : ¬ i = j) : upA f j v i = f i := if_neg q
theorem AG.lt (F : AG Z h a ty z G) : a < h.size := by obtain ⟨c, A, -⟩ := F; exact A.lt
theorem AG.ext (F : AG Z h a ty z G) (E : Ext h h') : AG Z h' a ty z G := by obtain ⟨c, A, r⟩ := F; exact ⟨c, A.ext E, r⟩
theorem AG.other (F : AG Z h b ty z G) {sl : Nat} {v : Value} (W : Wr h h' a sl v) (q : b ≠ a) : AG Z h' b ty z G := by obtain ⟨c, A, r⟩ := F; exact ⟨c, A.other W q, r⟩
theorem AG.new {k : ClassId} (A : Arr Z h a (newA k ty z) ty) (q : ¬ z < 0) : AG Z h a ty z (fun _ => defaultValue ty) :=
  ⟨_, A, sz_new _ _ _, q, fun j h1 h2 => get_new (by have w := inb_of (sz_new k ty z) ⟨h1, h2⟩; rwa [sz_new] at w)⟩
theorem AG.set (F : AG Z h a ty z G) {j : Int32} {v : Value} (W : Wr h h' a j.toNatClampNeg v) (q : ¬ j < 0 ∧ j < z) : AG Z h' a ty z (upA G j v) := by
  obtain ⟨c, A, S, M, H⟩ := F
  refine ⟨_, A.same W, by rw [sz_set]; exact S, M, fun i h1 h2 => ?_⟩
  by_cases e : i = j
  · rw [upA, if_pos e]; exact get_hit (inb_of S q) e
  · rw [upA, if_neg e, get_miss q.1 h1 e]; exact H i h1 h2
theorem AG.keep (F : AG Z h a ty z G) {ws : List Addr} (K : Keep h h' ws) (q : a ∉ ws) : AG Z h' a ty z G := by obtain ⟨c, A, r⟩ := F; exact ⟨c, ⟨K.2.1 a c A.1 q, A.2⟩, r⟩
theorem AJ.keep {f : Int32 → Int64} (F : AJ Z h a z f) {ws : List Addr} (K : Keep h h' ws) (q : a ∉ ws) : AJ Z h' a z f := AG.keep F K q
theorem AI.keep {f : Int32 → Int32} (F : AI Z h a ty z f) {ws : List Addr} (K : Keep h h' ws) (q : a ∉ ws) : AI Z h' a ty z f := AG.keep F K q
theorem AJ.lt {f : Int32 → Int64} (F : AJ Z h a z f) : a < h.size := AG.lt F
theorem AI.lt {f : Int32 → Int32} (F : AI Z h a ty z f) : a < h.size := AG.lt F
theorem AJ.ext {f : Int32 → Int64} (F : AJ Z h a z f) (E : Ext h h') : AJ Z h' a z f := AG.ext F E
theorem AI.ext {f : Int32 → Int32} (F : AI Z h a ty z f) (E : Ext h h') : AI Z h' a ty z f := AG.ext F E
theorem AJ.other {f : Int32 → Int64} (F : AJ Z h b z f) {sl : Nat} {v : Value} (W : Wr h h' a sl v) (q : b ≠ a) : AJ Z h' b z f := AG.other F W q
theorem AI.other {f : Int32 → Int32} (F : AI Z h b ty z f) {sl : Nat} {v : Value} (W : Wr h h' a sl v) (q : b ≠ a) : AI Z h' b ty z f := AG.other F W q
theorem AJ.set {f : Int32 → Int64} (F : AJ Z h a z f) {j : Int32} {v : Int64} (W : Wr h h' a j.toNatClampNeg (.long v)) (q : ¬ j < 0 ∧ j < z) : AJ Z h' a z (upA f j v) := by
  have e : (fun i => Value.long (upA f j v i)) = upA (fun i => Value.long (f i)) j (.long v) := funext fun i => by unfold upA; split <;> rfl
  unfold AJ; rw [e]; exact AG.set F W q
theorem AI.set {f : Int32 → Int32} (F : AI Z h a ty z f) {j v : Int32} (W : Wr h h' a j.toNatClampNeg (.int v)) (q : ¬ j < 0 ∧ j < z) : AI Z h' a ty z (upA f j v) := by
  have e : (fun i => Value.int (upA f j v i)) = upA (fun i => Value.int (f i)) j (.int v) := funext fun i => by unfold upA; split <;> rfl
  unfold AI; rw [e]; exact AG.set F W q
theorem AJ.congr {f g : Int32 → Int64} (F : AJ Z h a z f) (q : ∀ j : Int32, ¬ j < 0 → j < z → f j = g j) : AJ Z h a z g := by
  obtain ⟨c, A, S, M, H⟩ := F; exact ⟨c, A, S, M, fun j h1 h2 => (H j h1 h2).trans (congrArg (fun v => some (Value.long v)) (q j h1 h2))⟩
theorem AI.congr {f g : Int32 → Int32} (F : AI Z h a ty z f) (q : ∀ j : Int32, ¬ j < 0 → j < z → f j = g j) : AI Z h a ty z g := by
  obtain ⟨c, A, S, M, H⟩ := F; exact ⟨c, A, S, M, fun j h1 h2 => (H j h1 h2).trans (congrArg (fun v => some (Value.int v)) (q j h1 h2))⟩
theorem AJ.new {k : ClassId} (A : Arr Z h a (newA k .long z) .long) (q : ¬ z < 0) : AJ Z h a z (fun _ => 0) := AG.new A q
theorem AI.new {k : ClassId} (A : Arr Z h a (newA k .int z) .int) (q : ¬ z < 0) : AI Z h a .int z (fun _ => 0) := AG.new A q
theorem AI.newB {k : ClassId} (A : Arr Z h a (newA k .byte z) .byte) (q : ¬ z < 0) : AI Z h a .byte z (fun _ => 0) := AG.new A q
theorem AI.newZ {k : ClassId} (A : Arr Z h a (newA k .boolean z) .boolean) (q : ¬ z < 0) : AI Z h a .boolean z (fun _ => 0) := AG.new A q
variable {p : Program} {l : Launch} {e : Env} {R : Room} {s : State} {m : MethodId} {args : Array Value} {below : List Frame} {meth : Method} {c : Code} {T : State} {locs : List Loc} {cells slots : Nat} {g : JFrame} {rest : List Value} {j : Int32}
theorem rdJ {f : Int32 → Int64} {y : Int64} (X : Stand p l e R s m args below meth c T locs cells slots) (hx : p.tables.exec = Jvm.exec) (hZ : Z.Warmed39 s.vm) (eT : T.heap = h) (F : AJ Z h a z f) (q : ¬ j < 0 ∧ j < z) (hv : f j = y) (hg : g.method = m) (hs : g.stack = .int j :: .ref a :: rest) (hd : decode c.code g.pc = .ok (.laload, 1)) (target : State)
    (hr : Steps p.tables e below (T.setTop { g with pc := g.pc + 1, stack := .long y :: rest }) target) : Steps p.tables e below (T.setTop g) target := by
  subst hv
  obtain ⟨cl, A, S, M, H⟩ := F
  exact X.laload hx (by rw [eT]; exact A.1) (State.isArrayOf_alike hZ.alike A.2.1) A.2.2 (inb_of S q) (H j q.1 q.2) hg hs hd target hr
theorem rdI {f : Int32 → Int32} {y : Int32} (X : Stand p l e R s m args below meth c T locs cells slots) (hx : p.tables.exec = Jvm.exec) (hZ : Z.Warmed39 s.vm) (eT : T.heap = h) (F : AI Z h a .int z f) (q : ¬ j < 0 ∧ j < z) (hv : f j = y) (hg : g.method = m) (hs : g.stack = .int j :: .ref a :: rest) (hd : decode c.code g.pc = .ok (.iaload, 1)) (target : State)
    (hr : Steps p.tables e below (T.setTop { g with pc := g.pc + 1, stack := .int y :: rest }) target) : Steps p.tables e below (T.setTop g) target := by
  subst hv
  obtain ⟨cl, A, S, M, H⟩ := F
  exact X.iaload hx (by rw [eT]; exact A.1) (State.isArrayOf_alike hZ.alike A.2.1) A.2.2 (inb_of S q) (H j q.1 q.2) hg hs hd target hr
theorem rdB {f : Int32 → Int32} {y : Int32} (X : Stand p l e R s m args below meth c T locs cells slots) (hx : p.tables.exec = Jvm.exec) (hZ : Z.Warmed39 s.vm) (eT : T.heap = h) (F : AI Z h a .byte z f) (q : ¬ j < 0 ∧ j < z) (hv : f j = y) (hg : g.method = m) (hs : g.stack = .int j :: .ref a :: rest) (hd : decode c.code g.pc = .ok (.baload, 1)) (target : State)
    (hr : Steps p.tables e below (T.setTop { g with pc := g.pc + 1, stack := .int y :: rest }) target) : Steps p.tables e below (T.setTop g) target := by
  subst hv
  obtain ⟨cl, A, S, M, H⟩ := F
  exact X.baloadBytes hx (by rw [eT]; exact A.1) (State.isArrayOf_alike hZ.alike A.2.1) A.2.2 (inb_of S q) (H j q.1 q.2) hg hs hd target hr
theorem rdZ {f : Int32 → Int32} {y : Int32} (X : Stand p l e R s m args below meth c T locs cells slots) (hx : p.tables.exec = Jvm.exec) (hZ : Z.Warmed39 s.vm) (eT : T.heap = h) (F : AI Z h a .boolean z f) (q : ¬ j < 0 ∧ j < z) (hv : f j = y) (hg : g.method = m) (hs : g.stack = .int j :: .ref a :: rest) (hd : decode c.code g.pc = .ok (.baload, 1)) (target : State)
    (hr : Steps p.tables e below (T.setTop { g with pc := g.pc + 1, stack := .int y :: rest }) target) : Steps p.tables e below (T.setTop g) target := by
  subst hv
  obtain ⟨cl, A, S, M, H⟩ := F
  exact X.baloadBooleans hx (by rw [eT]; exact A.1) (State.isArrayOf_alike hZ.alike A.2.1) A.2.2 (inb_of S q) (H j q.1 q.2) hg hs hd target hr
theorem lnG (X : Stand p l e R s m args below meth c T locs cells slots) (hx : p.tables.exec = Jvm.exec) (hZ : Z.Warmed39 s.vm) (eT : T.heap = h) (F : AG Z h a ty z G) (hg : g.method = m) (hs : g.stack = .ref a :: rest) (hd : decode c.code g.pc = .ok (.arraylength, 1)) (target : State)
    (hr : Steps p.tables e below (T.setTop { g with pc := g.pc + 1, stack := .int z :: rest }) target) : Steps p.tables e below (T.setTop g) target := by
  obtain ⟨cl, A, S, M, H⟩ := F
  refine X.arraylength hx (by rw [eT]; exact A.1) (State.isArrayOf_alike hZ.alike A.2.1) hg hs hd target ?_
  rw [len_of S M]; exact hr
theorem wrJ {f : Int32 → Int64} {x : Int64} (X : Stand p l e R s m args below meth c T locs cells slots) (hx : p.tables.exec = Jvm.exec) (hZ : Z.Warmed39 s.vm) (eT : T.heap = h) (F : AJ Z h a z f) (q : ¬ j < 0 ∧ j < z) (hg : g.method = m) (hs : g.stack = .long x :: .int j :: .ref a :: rest) (hd : decode c.code g.pc = .ok (.lastore, 1)) :
    ∃ T' h', Stand p l e R s m args below meth c T' (locs ++ [⟨a, j.toNatClampNeg⟩]) cells slots ∧ T'.heap = h' ∧ Wr h h' a j.toNatClampNeg (.long x) ∧ AJ Z h' a z (upA f j x) ∧ ∀ target, Steps p.tables e below (T'.setTop { g with pc := g.pc + 1, stack := rest }) target → Steps p.tables e below (T.setTop g) target := by
  have F' := F
  obtain ⟨cl, A, S, M, H⟩ := F
  obtain ⟨T', h', X', e', W, st⟩ := stJ X hx hZ eT A (inb_of S q) hg hs hd
  exact ⟨T', h', X', e', W, AJ.set F' W q, st⟩
theorem wrI {f : Int32 → Int32} {x : Int32} (X : Stand p l e R s m args below meth c T locs cells slots) (hx : p.tables.exec = Jvm.exec) (hZ : Z.Warmed39 s.vm) (eT : T.heap = h) (F : AI Z h a .int z f) (q : ¬ j < 0 ∧ j < z) (hg : g.method = m) (hs : g.stack = .int x :: .int j :: .ref a :: rest) (hd : decode c.code g.pc = .ok (.iastore, 1)) :
    ∃ T' h', Stand p l e R s m args below meth c T' (locs ++ [⟨a, j.toNatClampNeg⟩]) cells slots ∧ T'.heap = h' ∧ Wr h h' a j.toNatClampNeg (.int x) ∧ AI Z h' a .int z (upA f j x) ∧ ∀ target, Steps p.tables e below (T'.setTop { g with pc := g.pc + 1, stack := rest }) target → Steps p.tables e below (T.setTop g) target := by
  have F' := F
  obtain ⟨cl, A, S, M, H⟩ := F
  obtain ⟨T', h', X', e', W, st⟩ := stI X hx hZ eT A (inb_of S q) hg hs hd
  exact ⟨T', h', X', e', W, AI.set F' W q, st⟩
theorem wrB {f : Int32 → Int32} {x y : Int32} (X : Stand p l e R s m args below meth c T locs cells slots) (hx : p.tables.exec = Jvm.exec) (hZ : Z.Warmed39 s.vm) (eT : T.heap = h) (F : AI Z h a .byte z f) (q : ¬ j < 0 ∧ j < z) (hn : nar .byte x = y) (hg : g.method = m) (hs : g.stack = .int x :: .int j :: .ref a :: rest) (hd : decode c.code g.pc = .ok (.bastore, 1)) :
    ∃ T' h', Stand p l e R s m args below meth c T' (locs ++ [⟨a, j.toNatClampNeg⟩]) cells slots ∧ T'.heap = h' ∧ Wr h h' a j.toNatClampNeg (.int y) ∧ AI Z h' a .byte z (upA f j y) ∧ ∀ target, Steps p.tables e below (T'.setTop { g with pc := g.pc + 1, stack := rest }) target → Steps p.tables e below (T.setTop g) target := by
  have F' := F
  obtain ⟨cl, A, S, M, H⟩ := F
  obtain ⟨T', h', X', e', W, st⟩ := stB X hx hZ eT A (inb_of S q) hg hs hd
  rw [hn] at W
  exact ⟨T', h', X', e', W, AI.set F' W q, st⟩
theorem wrZ {f : Int32 → Int32} {x y : Int32} (X : Stand p l e R s m args below meth c T locs cells slots) (hx : p.tables.exec = Jvm.exec) (hZ : Z.Warmed39 s.vm) (eT : T.heap = h) (F : AI Z h a .boolean z f) (q : ¬ j < 0 ∧ j < z) (hn : nar .boolean x = y) (hg : g.method = m) (hs : g.stack = .int x :: .int j :: .ref a :: rest) (hd : decode c.code g.pc = .ok (.bastore, 1)) :
    ∃ T' h', Stand p l e R s m args below meth c T' (locs ++ [⟨a, j.toNatClampNeg⟩]) cells slots ∧ T'.heap = h' ∧ Wr h h' a j.toNatClampNeg (.int y) ∧ AI Z h' a .boolean z (upA f j y) ∧ ∀ target, Steps p.tables e below (T'.setTop { g with pc := g.pc + 1, stack := rest }) target → Steps p.tables e below (T.setTop g) target := by
  have F' := F
  obtain ⟨cl, A, S, M, H⟩ := F
  obtain ⟨T', h', X', e', W, st⟩ := stZ X hx hZ eT A (inb_of S q) hg hs hd
  rw [hn] at W
  exact ⟨T', h', X', e', W, AI.set F' W q, st⟩
theorem nar_byte (x : Int32) : nar .byte x.toInt8.toInt32 = x.toInt8.toInt32 := by
  show x.toInt8.toInt32.toInt8.toInt32 = x.toInt8.toInt32
  rw [Int8.toInt8_toInt32]
end Arrays
end Jvm.OwnKit
namespace Jvm.Pilot.@@N@@
open Jvm Jvm.ClassFile Sem Op Lib Jvm.Free Jvm.Stand Jvm.LawKit Jvm.RoadKit Jvm.OwnKit Bundle Jvm.Pilot.@@N@@.Jvm.D
def CS0 (Z : State) (h : Heap) (n0 : Nat) (ob : Addr) : Prop := Exa Z h ob "com/example/dealer/dealer/ChangingShares" ∧ Fld Z h ob "com/example/dealer/dealer/ChangingShares" "nodes" "[J" .null ∧ Fld Z h ob "com/example/dealer/dealer/ChangingShares" "shares" "[I" .null ∧ Fld Z h ob "com/example/dealer/dealer/ChangingShares" "firstStep" "I" (.int (0 : Int32)) ∧ Fld Z h ob "com/example/dealer/dealer/ChangingShares" "total" "J" (.long (0 : Int64)) ∧ n0 ≤ ob ∧ n0 ≤ h.size
def CS (Z : State) (h : Heap) (n0 : Nat) (ob : Addr) (an : Addr) (as : Addr) (fst : Int32) (tt : Int64) (nn : Int32) (nf : Int32 → Int64) (ns : Int32) (sf : Int32 → Int32) : Prop := Exa Z h ob "com/example/dealer/dealer/ChangingShares" ∧ Fld Z h ob "com/example/dealer/dealer/ChangingShares" "nodes" "[J" (.ref an) ∧ Fld Z h ob "com/example/dealer/dealer/ChangingShares" "shares" "[I" (.ref as) ∧ Fld Z h ob "com/example/dealer/dealer/ChangingShares" "firstStep" "I" (.int fst) ∧ Fld Z h ob "com/example/dealer/dealer/ChangingShares" "total" "J" (.long tt) ∧ AJ Z h an nn nf ∧ AI Z h as .int ns sf ∧ n0 ≤ ob ∧ n0 ≤ an ∧ n0 ≤ as ∧ ob ≠ an ∧ ob ≠ as ∧ an ≠ as ∧ n0 ≤ h.size
def PF (Z : State) (h : Heap) (n0 : Nat) (ob : Addr) (an : Addr) (as : Addr) (sa : Addr) (ca : Addr) (fst : Int32) (tt : Int64) (nf : Int32 → Int64) (sf : Int32 → Int32) (zn : Int32) (gs : Int32 → Int32) (gc : Int32 → Int32) : Prop := Exa Z h ob "com/example/dealer/dealer/ChangingShares" ∧ Fld Z h ob "com/example/dealer/dealer/ChangingShares" "nodes" "[J" (.ref an) ∧ Fld Z h ob "com/example/dealer/dealer/ChangingShares" "shares" "[I" (.ref as) ∧ Fld Z h ob "com/example/dealer/dealer/ChangingShares" "firstStep" "I" (.int fst) ∧ Fld Z h ob "com/example/dealer/dealer/ChangingShares" "total" "J" (.long tt) ∧ AJ Z h an (6 : Int32) nf ∧ AI Z h as .int (5 : Int32) sf ∧ AI Z h sa .int zn gs ∧ AI Z h ca .boolean zn gc ∧ n0 ≤ ob ∧ n0 ≤ an ∧ n0 ≤ as ∧ n0 ≤ sa ∧ n0 ≤ ca ∧ ob ≠ an ∧ ob ≠ as ∧ ob ≠ sa ∧ ob ≠ ca ∧ an ≠ as ∧ an ≠ sa ∧ an ≠ ca ∧ as ≠ sa ∧ as ≠ ca ∧ sa ≠ ca ∧ n0 ≤ h.size
def PA4 (Z : State) (h : Heap) (n0 : Nat) (fa : Addr) (ga : Addr) (sa : Addr) (ca : Addr) (ff : Int32 → Int32) (gf : Int32 → Int32) (zn : Int32) (gs : Int32 → Int32) (gc : Int32 → Int32) : Prop := AI Z h fa .int (5 : Int32) ff ∧ AI Z h ga .boolean (5 : Int32) gf ∧ AI Z h sa .int zn gs ∧ AI Z h ca .boolean zn gc ∧ n0 ≤ fa ∧ n0 ≤ ga ∧ n0 ≤ sa ∧ n0 ≤ ca ∧ fa ≠ ga ∧ fa ≠ sa ∧ fa ≠ ca ∧ ga ≠ sa ∧ ga ≠ ca ∧ sa ≠ ca ∧ n0 ≤ h.size
theorem own_p1v (p : Int32) (h0 : 0 ≤ p.toInt) (h1 : p.toInt ≤ 8) : (p + (1 : Int32)).toInt = p.toInt + 1 := by
  have a := c_iadd p 1
  have b := rng32 (p + 1)
  have l : (1 : Int32).toInt = 1 := by decide
  omega
theorem own_capn (z : Int32) (h0 : 0 ≤ z.toInt) : ¬ z < 0 := by
  rw [Int32.lt_iff_toInt_lt]
  have l : (0 : Int32).toInt = 0 := by decide
  omega
theorem own_capc (z : Int32) (n : Nat) (h0 : 0 ≤ z.toInt) (h1 : z.toInt ≤ n) : z.toNatClampNeg ≤ n := by
  have := nat_of (own_capn z h0)
  omega
theorem own_p1n (p : Int32) (h0 : 0 ≤ p.toInt) (h1 : p.toInt ≤ 8) : ¬ (p + (1 : Int32)) < 0 := own_capn _ (by rw [own_p1v p h0 h1]; omega)
theorem own_p1c (p : Int32) (h0 : 0 ≤ p.toInt) (h1 : p.toInt ≤ 8) : (p + (1 : Int32)).toNatClampNeg ≤ 9 := own_capc _ 9 (by rw [own_p1v p h0 h1]; omega) (by rw [own_p1v p h0 h1]; omega)
theorem own_pn (p : Int32) (h0 : 0 ≤ p.toInt) (h1 : p.toInt ≤ 8) : ¬ p < 0 := own_capn _ h0
theorem own_pc (p : Int32) (h0 : 0 ≤ p.toInt) (h1 : p.toInt ≤ 8) : p.toNatClampNeg ≤ 8 := own_capc _ 8 h0 (by omega)
theorem own_five (pn : Int32) (h0 : ¬ pn = 0) (h1 : ¬ pn = 1) (h2 : ¬ pn = 2) (h3 : ¬ pn = 3) (h4 : ¬ pn = 4) (h : 0 ≤ pn.toInt ∧ pn.toInt ≤ 5) : pn = 5 := by
  have l0 : (0 : Int32).toInt = 0 := by decide
  have l1 : (1 : Int32).toInt = 1 := by decide
  have l2 : (2 : Int32).toInt = 2 := by decide
  have l3 : (3 : Int32).toInt = 3 := by decide
  have l4 : (4 : Int32).toInt = 4 := by decide
  have l5 : (5 : Int32).toInt = 5 := by decide
  rw [← Int32.toInt_inj] at *
  omega
theorem d6_0 : decode jdk_33_method_47_code 0 = .ok (.iload_n 0, 1) := by decide +kernel
theorem d6_1 : decode jdk_33_method_47_code 1 = .ok (.ifCond .gt 14, 3) := by decide +kernel
theorem d6_4 : decode jdk_33_method_47_code 4 = .ok (.iload_n 0, 1) := by decide +kernel
theorem d6_5 : decode jdk_33_method_47_code 5 = .ok (.ifCond .ne 8, 3) := by decide +kernel
theorem d6_8 : decode jdk_33_method_47_code 8 = .ok (.bipush 32, 2) := by decide +kernel
theorem d6_10 : decode jdk_33_method_47_code 10 = .ok (.goto 4, 3) := by decide +kernel
theorem d6_13 : decode jdk_33_method_47_code 13 = .ok (.iconst 0, 1) := by decide +kernel
theorem d6_14 : decode jdk_33_method_47_code 14 = .ok (.ireturn, 1) := by decide +kernel
theorem d6_15 : decode jdk_33_method_47_code 15 = .ok (.bipush 31, 2) := by decide +kernel
theorem d6_17 : decode jdk_33_method_47_code 17 = .ok (.istore_n 1, 1) := by decide +kernel
theorem d6_18 : decode jdk_33_method_47_code 18 = .ok (.iload_n 0, 1) := by decide +kernel
theorem d6_19 : decode jdk_33_method_47_code 19 = .ok (.ldc_w 264, 3) := by decide +kernel
theorem d6_22 : decode jdk_33_method_47_code 22 = .ok (.if_icmp .lt 11, 3) := by decide +kernel
theorem d6_25 : decode jdk_33_method_47_code 25 = .ok (.iinc 1 (-16), 3) := by decide +kernel
theorem d6_28 : decode jdk_33_method_47_code 28 = .ok (.iload_n 0, 1) := by decide +kernel
theorem d6_29 : decode jdk_33_method_47_code 29 = .ok (.bipush 16, 2) := by decide +kernel
theorem d6_31 : decode jdk_33_method_47_code 31 = .ok (.iushr, 1) := by decide +kernel
theorem d6_32 : decode jdk_33_method_47_code 32 = .ok (.istore_n 0, 1) := by decide +kernel
theorem d6_33 : decode jdk_33_method_47_code 33 = .ok (.iload_n 0, 1) := by decide +kernel
theorem d6_34 : decode jdk_33_method_47_code 34 = .ok (.sipush 256, 3) := by decide +kernel
theorem d6_37 : decode jdk_33_method_47_code 37 = .ok (.if_icmp .lt 11, 3) := by decide +kernel
theorem d6_40 : decode jdk_33_method_47_code 40 = .ok (.iinc 1 (-8), 3) := by decide +kernel
theorem d6_43 : decode jdk_33_method_47_code 43 = .ok (.iload_n 0, 1) := by decide +kernel
theorem d6_44 : decode jdk_33_method_47_code 44 = .ok (.bipush 8, 2) := by decide +kernel
theorem d6_46 : decode jdk_33_method_47_code 46 = .ok (.iushr, 1) := by decide +kernel
theorem d6_47 : decode jdk_33_method_47_code 47 = .ok (.istore_n 0, 1) := by decide +kernel
theorem d6_48 : decode jdk_33_method_47_code 48 = .ok (.iload_n 0, 1) := by decide +kernel
theorem d6_49 : decode jdk_33_method_47_code 49 = .ok (.bipush 16, 2) := by decide +kernel
theorem d6_51 : decode jdk_33_method_47_code 51 = .ok (.if_icmp .lt 10, 3) := by decide +kernel
theorem d6_54 : decode jdk_33_method_47_code 54 = .ok (.iinc 1 (-4), 3) := by decide +kernel
theorem d6_57 : decode jdk_33_method_47_code 57 = .ok (.iload_n 0, 1) := by decide +kernel
theorem d6_58 : decode jdk_33_method_47_code 58 = .ok (.iconst 4, 1) := by decide +kernel
theorem d6_59 : decode jdk_33_method_47_code 59 = .ok (.iushr, 1) := by decide +kernel
theorem d6_60 : decode jdk_33_method_47_code 60 = .ok (.istore_n 0, 1) := by decide +kernel
theorem d6_61 : decode jdk_33_method_47_code 61 = .ok (.iload_n 0, 1) := by decide +kernel
theorem d6_62 : decode jdk_33_method_47_code 62 = .ok (.iconst 4, 1) := by decide +kernel
theorem d6_63 : decode jdk_33_method_47_code 63 = .ok (.if_icmp .lt 10, 3) := by decide +kernel
theorem d6_66 : decode jdk_33_method_47_code 66 = .ok (.iinc 1 (-2), 3) := by decide +kernel
theorem d6_69 : decode jdk_33_method_47_code 69 = .ok (.iload_n 0, 1) := by decide +kernel
theorem d6_70 : decode jdk_33_method_47_code 70 = .ok (.iconst 2, 1) := by decide +kernel
theorem d6_71 : decode jdk_33_method_47_code 71 = .ok (.iushr, 1) := by decide +kernel
theorem d6_72 : decode jdk_33_method_47_code 72 = .ok (.istore_n 0, 1) := by decide +kernel
theorem d6_73 : decode jdk_33_method_47_code 73 = .ok (.iload_n 1, 1) := by decide +kernel
theorem d6_74 : decode jdk_33_method_47_code 74 = .ok (.iload_n 0, 1) := by decide +kernel
theorem d6_75 : decode jdk_33_method_47_code 75 = .ok (.iconst 1, 1) := by decide +kernel
theorem d6_76 : decode jdk_33_method_47_code 76 = .ok (.iushr, 1) := by decide +kernel
theorem d6_77 : decode jdk_33_method_47_code 77 = .ok (.isub, 1) := by decide +kernel
theorem d6_78 : decode jdk_33_method_47_code 78 = .ok (.ireturn, 1) := by decide +kernel
theorem pn_6 : plainName "java/lang/Integer" = true := by first | (simp [plainName, overriddenIn]; done) | decide +kernel
theorem ef_6 (m : MethodId) (x0 : Int32) : entryFrame m #[(.int x0)] 2 = mkF m 0 #[.val (.int x0), .unset] [] := by first | (simp [entryFrame, mkF, argsToLocals, Value.category]; done) | rfl
def Fnlz (xi : Int32) : Int32 := (if (0 : Int32) < xi then (if xi < (65536 : Int32) then (if xi < (256 : Int32) then (if xi < (16 : Int32) then (if xi < (4 : Int32) then ((31 : Int32) - ((xi.toUInt32 >>> ((1 : Int32) &&& 31).toUInt32).toInt32)) else ((29 : Int32) - ((((xi.toUInt32 >>> ((2 : Int32) &&& 31).toUInt32).toInt32).toUInt32 >>> ((1 : Int32) &&& 31).toUInt32).toInt32))) else (if ((xi.toUInt32 >>> ((4 : Int32) &&& 31).toUInt32).toInt32) < (4 : Int32) then ((27 : Int32) - ((((xi.toUInt32 >>> ((4 : Int32) &&& 31).toUInt32).toInt32).toUInt32 >>> ((1 : Int32) &&& 31).toUInt32).toInt32)) else ((25 : Int32) - ((((((xi.toUInt32 >>> ((4 : Int32) &&& 31).toUInt32).toInt32).toUInt32 >>> ((2 : Int32) &&& 31).toUInt32).toInt32).toUInt32 >>> ((1 : Int32) &&& 31).toUInt32).toInt32)))) else (if ((xi.toUInt32 >>> ((8 : Int32) &&& 31).toUInt32).toInt32) < (16 : Int32) then (if ((xi.toUInt32 >>> ((8 : Int32) &&& 31).toUInt32).toInt32) < (4 : Int32) then ((23 : Int32) - ((((xi.toUInt32 >>> ((8 : Int32) &&& 31).toUInt32).toInt32).toUInt32 >>> ((1 : Int32) &&& 31).toUInt32).toInt32)) else ((21 : Int32) - ((((((xi.toUInt32 >>> ((8 : Int32) &&& 31).toUInt32).toInt32).toUInt32 >>> ((2 : Int32) &&& 31).toUInt32).toInt32).toUInt32 >>> ((1 : Int32) &&& 31).toUInt32).toInt32))) else (if ((((xi.toUInt32 >>> ((8 : Int32) &&& 31).toUInt32).toInt32).toUInt32 >>> ((4 : Int32) &&& 31).toUInt32).toInt32) < (4 : Int32) then ((19 : Int32) - ((((((xi.toUInt32 >>> ((8 : Int32) &&& 31).toUInt32).toInt32).toUInt32 >>> ((4 : Int32) &&& 31).toUInt32).toInt32).toUInt32 >>> ((1 : Int32) &&& 31).toUInt32).toInt32)) else ((17 : Int32) - ((((((((xi.toUInt32 >>> ((8 : Int32) &&& 31).toUInt32).toInt32).toUInt32 >>> ((4 : Int32) &&& 31).toUInt32).toInt32).toUInt32 >>> ((2 : Int32) &&& 31).toUInt32).toInt32).toUInt32 >>> ((1 : Int32) &&& 31).toUInt32).toInt32))))) else (if ((xi.toUInt32 >>> ((16 : Int32) &&& 31).toUInt32).toInt32) < (256 : Int32) then (if ((xi.toUInt32 >>> ((16 : Int32) &&& 31).toUInt32).toInt32) < (16 : Int32) then (if ((xi.toUInt32 >>> ((16 : Int32) &&& 31).toUInt32).toInt32) < (4 : Int32) then ((15 : Int32) - ((((xi.toUInt32 >>> ((16 : Int32) &&& 31).toUInt32).toInt32).toUInt32 >>> ((1 : Int32) &&& 31).toUInt32).toInt32)) else ((13 : Int32) - ((((((xi.toUInt32 >>> ((16 : Int32) &&& 31).toUInt32).toInt32).toUInt32 >>> ((2 : Int32) &&& 31).toUInt32).toInt32).toUInt32 >>> ((1 : Int32) &&& 31).toUInt32).toInt32))) else (if ((((xi.toUInt32 >>> ((16 : Int32) &&& 31).toUInt32).toInt32).toUInt32 >>> ((4 : Int32) &&& 31).toUInt32).toInt32) < (4 : Int32) then ((11 : Int32) - ((((((xi.toUInt32 >>> ((16 : Int32) &&& 31).toUInt32).toInt32).toUInt32 >>> ((4 : Int32) &&& 31).toUInt32).toInt32).toUInt32 >>> ((1 : Int32) &&& 31).toUInt32).toInt32)) else ((9 : Int32) - ((((((((xi.toUInt32 >>> ((16 : Int32) &&& 31).toUInt32).toInt32).toUInt32 >>> ((4 : Int32) &&& 31).toUInt32).toInt32).toUInt32 >>> ((2 : Int32) &&& 31).toUInt32).toInt32).toUInt32 >>> ((1 : Int32) &&& 31).toUInt32).toInt32)))) else (if ((((xi.toUInt32 >>> ((16 : Int32) &&& 31).toUInt32).toInt32).toUInt32 >>> ((8 : Int32) &&& 31).toUInt32).toInt32) < (16 : Int32) then (if ((((xi.toUInt32 >>> ((16 : Int32) &&& 31).toUInt32).toInt32).toUInt32 >>> ((8 : Int32) &&& 31).toUInt32).toInt32) < (4 : Int32) then ((7 : Int32) - ((((((xi.toUInt32 >>> ((16 : Int32) &&& 31).toUInt32).toInt32).toUInt32 >>> ((8 : Int32) &&& 31).toUInt32).toInt32).toUInt32 >>> ((1 : Int32) &&& 31).toUInt32).toInt32)) else ((5 : Int32) - ((((((((xi.toUInt32 >>> ((16 : Int32) &&& 31).toUInt32).toInt32).toUInt32 >>> ((8 : Int32) &&& 31).toUInt32).toInt32).toUInt32 >>> ((2 : Int32) &&& 31).toUInt32).toInt32).toUInt32 >>> ((1 : Int32) &&& 31).toUInt32).toInt32))) else (if ((((((xi.toUInt32 >>> ((16 : Int32) &&& 31).toUInt32).toInt32).toUInt32 >>> ((8 : Int32) &&& 31).toUInt32).toInt32).toUInt32 >>> ((4 : Int32) &&& 31).toUInt32).toInt32) < (4 : Int32) then ((3 : Int32) - ((((((((xi.toUInt32 >>> ((16 : Int32) &&& 31).toUInt32).toInt32).toUInt32 >>> ((8 : Int32) &&& 31).toUInt32).toInt32).toUInt32 >>> ((4 : Int32) &&& 31).toUInt32).toInt32).toUInt32 >>> ((1 : Int32) &&& 31).toUInt32).toInt32)) else ((1 : Int32) - ((((((((((xi.toUInt32 >>> ((16 : Int32) &&& 31).toUInt32).toInt32).toUInt32 >>> ((8 : Int32) &&& 31).toUInt32).toInt32).toUInt32 >>> ((4 : Int32) &&& 31).toUInt32).toInt32).toUInt32 >>> ((2 : Int32) &&& 31).toUInt32).toInt32).toUInt32 >>> ((1 : Int32) &&& 31).toUInt32).toInt32)))))) else (if xi = (0 : Int32) then (32 : Int32) else (0 : Int32)))
def Q6 (Z : State) (xi : Int32) (h0 : Heap) (n0 : Nat) (v : Option Value) (h : Heap) (L : List Loc) : Prop := v = some (.int (Fnlz xi)) ∧ Fr n0 L ∧ h = h0
set_option maxRecDepth 65536 in
set_option maxHeartbeats 40000000 in
theorem rm6 (l : Launch) (Z : State) (a0 : Array Value) (hw : ∀ d ∈ tables_1, d.before a0 Z = true) (ws : List Jvm.Cond) (xi : Int32) (h0 : Heap) (n0 : Nat) (Z0 : n0 ≤ h0.size) :
    MetFree l (⟨"java/lang/Integer", "numberOfLeadingZeros", "(I)I"⟩ : MethodName) (head1 (Jvm.Cond.code (⟨"java/lang/Integer", "numberOfLeadingZeros", "(I)I"⟩ : MethodName) jdk_33_method_47_code 2 (some .int) :: ws) ({ frames := 0, cells := 0, slots := 0, locals := 0 } : Room)) (fun a U => a = #[(.int xi)] ∧ Z.Warmed39 U.vm ∧ U.heap = h0) (fun _ _ _ _ _ => True) (fun _ U o U' => ∃ v L, o = .returned v ∧ Q6 Z xi h0 n0 v U'.heap L ∧ FrameEnd U o U' L ({ frames := 0, cells := 0, slots := 0, locals := 0 } : Room).cells ({ frames := 0, cells := 0, slots := 0, locals := 0 } : Room).slots) := by
  refine MetFree.of_bodySF (plainFor_of_name pn_6) hisR ?_
  intro p e s m args below meth c s₁ Bd hml0 hP hK
  obtain ⟨rfl, hZ, hh⟩ := hP
  have hx := Bd.exec
  have hby := Bd.bytes
  have hml : c.maxLocals = 2 := hml0
  have hown : s.vm.findClass "java/lang/Integer" = some m.cls := findClass_of_methodNamed Bd.named
  have hnm := (name_of_methodNamed Bd.named Bd.method).1
  have X0 : Stand p l e ({ frames := 0, cells := 0, slots := 0, locals := 0 } : Room) s m #[(.int xi)] below meth c s₁ [] 0 0 := Stand.of_body Bd
  have e0 : s₁.heap = h0 := by rw [← hh, Bd.state]; rfl
  have N0 := Fr.nil n0
  have pre0 : ∀ t, Steps p.tables e below (s₁.setTop (mkF m 0 #[.val (.int xi), .unset] [])) t → Steps p.tables e below (s₁.setTop (entryFrame m #[(.int xi)] 2)) t := fun t k => castTop (ef_6 m xi) k
  have pre1 : ∀ t, Steps p.tables e below (s₁.setTop (mkF m 1 #[.val (.int xi), .unset] [(.int xi)])) t → Steps p.tables e below (s₁.setTop (entryFrame m #[(.int xi)] 2)) t := by
    intro t k
    refine pre0 t ?_
    show Steps p.tables e below (s₁.setTop (mkF m 0 #[.val (.int xi), .unset] [])) _
    refine XS.iloadN X0.here hx rfl (hb hby d6_0) rfl ?_
    exact k
  obtain ⟨fs, hr, hrun, hended, hW, hsame⟩ := X0.leave (v := some (.int (Fnlz xi))) (fun h => by rw [Bd.returns] at h; cases h) (BodyLoose.notSynchronized Bd)
  refine ⟨_, _, pre1 _ ?_, hrun, hended, _, _, rfl, ?_, ⟨_, rfl⟩, hW, hsame.mono (by decide) (by decide)⟩
  · have k : ∀ (v1 : Int32), v1 = (if (0 : Int32) < xi then (if xi < (65536 : Int32) then (if xi < (256 : Int32) then (if xi < (16 : Int32) then (if xi < (4 : Int32) then ((31 : Int32) - ((xi.toUInt32 >>> ((1 : Int32) &&& 31).toUInt32).toInt32)) else ((29 : Int32) - ((((xi.toUInt32 >>> ((2 : Int32) &&& 31).toUInt32).toInt32).toUInt32 >>> ((1 : Int32) &&& 31).toUInt32).toInt32))) else (if ((xi.toUInt32 >>> ((4 : Int32) &&& 31).toUInt32).toInt32) < (4 : Int32) then ((27 : Int32) - ((((xi.toUInt32 >>> ((4 : Int32) &&& 31).toUInt32).toInt32).toUInt32 >>> ((1 : Int32) &&& 31).toUInt32).toInt32)) else ((25 : Int32) - ((((((xi.toUInt32 >>> ((4 : Int32) &&& 31).toUInt32).toInt32).toUInt32 >>> ((2 : Int32) &&& 31).toUInt32).toInt32).toUInt32 >>> ((1 : Int32) &&& 31).toUInt32).toInt32)))) else (if ((xi.toUInt32 >>> ((8 : Int32) &&& 31).toUInt32).toInt32) < (16 : Int32) then (if ((xi.toUInt32 >>> ((8 : Int32) &&& 31).toUInt32).toInt32) < (4 : Int32) then ((23 : Int32) - ((((xi.toUInt32 >>> ((8 : Int32) &&& 31).toUInt32).toInt32).toUInt32 >>> ((1 : Int32) &&& 31).toUInt32).toInt32)) else ((21 : Int32) - ((((((xi.toUInt32 >>> ((8 : Int32) &&& 31).toUInt32).toInt32).toUInt32 >>> ((2 : Int32) &&& 31).toUInt32).toInt32).toUInt32 >>> ((1 : Int32) &&& 31).toUInt32).toInt32))) else (if ((((xi.toUInt32 >>> ((8 : Int32) &&& 31).toUInt32).toInt32).toUInt32 >>> ((4 : Int32) &&& 31).toUInt32).toInt32) < (4 : Int32) then ((19 : Int32) - ((((((xi.toUInt32 >>> ((8 : Int32) &&& 31).toUInt32).toInt32).toUInt32 >>> ((4 : Int32) &&& 31).toUInt32).toInt32).toUInt32 >>> ((1 : Int32) &&& 31).toUInt32).toInt32)) else ((17 : Int32) - ((((((((xi.toUInt32 >>> ((8 : Int32) &&& 31).toUInt32).toInt32).toUInt32 >>> ((4 : Int32) &&& 31).toUInt32).toInt32).toUInt32 >>> ((2 : Int32) &&& 31).toUInt32).toInt32).toUInt32 >>> ((1 : Int32) &&& 31).toUInt32).toInt32))))) else (if ((xi.toUInt32 >>> ((16 : Int32) &&& 31).toUInt32).toInt32) < (256 : Int32) then (if ((xi.toUInt32 >>> ((16 : Int32) &&& 31).toUInt32).toInt32) < (16 : Int32) then (if ((xi.toUInt32 >>> ((16 : Int32) &&& 31).toUInt32).toInt32) < (4 : Int32) then ((15 : Int32) - ((((xi.toUInt32 >>> ((16 : Int32) &&& 31).toUInt32).toInt32).toUInt32 >>> ((1 : Int32) &&& 31).toUInt32).toInt32)) else ((13 : Int32) - ((((((xi.toUInt32 >>> ((16 : Int32) &&& 31).toUInt32).toInt32).toUInt32 >>> ((2 : Int32) &&& 31).toUInt32).toInt32).toUInt32 >>> ((1 : Int32) &&& 31).toUInt32).toInt32))) else (if ((((xi.toUInt32 >>> ((16 : Int32) &&& 31).toUInt32).toInt32).toUInt32 >>> ((4 : Int32) &&& 31).toUInt32).toInt32) < (4 : Int32) then ((11 : Int32) - ((((((xi.toUInt32 >>> ((16 : Int32) &&& 31).toUInt32).toInt32).toUInt32 >>> ((4 : Int32) &&& 31).toUInt32).toInt32).toUInt32 >>> ((1 : Int32) &&& 31).toUInt32).toInt32)) else ((9 : Int32) - ((((((((xi.toUInt32 >>> ((16 : Int32) &&& 31).toUInt32).toInt32).toUInt32 >>> ((4 : Int32) &&& 31).toUInt32).toInt32).toUInt32 >>> ((2 : Int32) &&& 31).toUInt32).toInt32).toUInt32 >>> ((1 : Int32) &&& 31).toUInt32).toInt32)))) else (if ((((xi.toUInt32 >>> ((16 : Int32) &&& 31).toUInt32).toInt32).toUInt32 >>> ((8 : Int32) &&& 31).toUInt32).toInt32) < (16 : Int32) then (if ((((xi.toUInt32 >>> ((16 : Int32) &&& 31).toUInt32).toInt32).toUInt32 >>> ((8 : Int32) &&& 31).toUInt32).toInt32) < (4 : Int32) then ((7 : Int32) - ((((((xi.toUInt32 >>> ((16 : Int32) &&& 31).toUInt32).toInt32).toUInt32 >>> ((8 : Int32) &&& 31).toUInt32).toInt32).toUInt32 >>> ((1 : Int32) &&& 31).toUInt32).toInt32)) else ((5 : Int32) - ((((((((xi.toUInt32 >>> ((16 : Int32) &&& 31).toUInt32).toInt32).toUInt32 >>> ((8 : Int32) &&& 31).toUInt32).toInt32).toUInt32 >>> ((2 : Int32) &&& 31).toUInt32).toInt32).toUInt32 >>> ((1 : Int32) &&& 31).toUInt32).toInt32))) else (if ((((((xi.toUInt32 >>> ((16 : Int32) &&& 31).toUInt32).toInt32).toUInt32 >>> ((8 : Int32) &&& 31).toUInt32).toInt32).toUInt32 >>> ((4 : Int32) &&& 31).toUInt32).toInt32) < (4 : Int32) then ((3 : Int32) - ((((((((xi.toUInt32 >>> ((16 : Int32) &&& 31).toUInt32).toInt32).toUInt32 >>> ((8 : Int32) &&& 31).toUInt32).toInt32).toUInt32 >>> ((4 : Int32) &&& 31).toUInt32).toInt32).toUInt32 >>> ((1 : Int32) &&& 31).toUInt32).toInt32)) else ((1 : Int32) - ((((((((((xi.toUInt32 >>> ((16 : Int32) &&& 31).toUInt32).toInt32).toUInt32 >>> ((8 : Int32) &&& 31).toUInt32).toInt32).toUInt32 >>> ((4 : Int32) &&& 31).toUInt32).toInt32).toUInt32 >>> ((2 : Int32) &&& 31).toUInt32).toInt32).toUInt32 >>> ((1 : Int32) &&& 31).toUInt32).toInt32)))))) else (if xi = (0 : Int32) then (32 : Int32) else (0 : Int32))) → ∀ (f : JFrame) (acts : List Action), f.method = m → f.locked = none → f.entered = [] → (doReturn e (s₁.setTop f) acts (some (.int v1))).1 = s₁.setFrames fs := fun v1 hv1 => by subst hv1; exact hr
    show Steps p.tables e below (s₁.setTop (mkF m 1 #[.val (.int xi), .unset] [(.int xi)])) _
    by_cases hc2 : (0 : Int32) < xi
    · refine XS.ifYes X0.here hx rfl (pc0 := 1) (pc' := 15) rfl (hb hby d6_1) rfl ((if0 _ _).trans (tlt hc2).2.2.1) (by decide) (by decide) ?_
      have k : ∀ (v1 : Int32), v1 = (if xi < (65536 : Int32) then (if xi < (256 : Int32) then (if xi < (16 : Int32) then (if xi < (4 : Int32) then ((31 : Int32) - ((xi.toUInt32 >>> ((1 : Int32) &&& 31).toUInt32).toInt32)) else ((29 : Int32) - ((((xi.toUInt32 >>> ((2 : Int32) &&& 31).toUInt32).toInt32).toUInt32 >>> ((1 : Int32) &&& 31).toUInt32).toInt32))) else (if ((xi.toUInt32 >>> ((4 : Int32) &&& 31).toUInt32).toInt32) < (4 : Int32) then ((27 : Int32) - ((((xi.toUInt32 >>> ((4 : Int32) &&& 31).toUInt32).toInt32).toUInt32 >>> ((1 : Int32) &&& 31).toUInt32).toInt32)) else ((25 : Int32) - ((((((xi.toUInt32 >>> ((4 : Int32) &&& 31).toUInt32).toInt32).toUInt32 >>> ((2 : Int32) &&& 31).toUInt32).toInt32).toUInt32 >>> ((1 : Int32) &&& 31).toUInt32).toInt32)))) else (if ((xi.toUInt32 >>> ((8 : Int32) &&& 31).toUInt32).toInt32) < (16 : Int32) then (if ((xi.toUInt32 >>> ((8 : Int32) &&& 31).toUInt32).toInt32) < (4 : Int32) then ((23 : Int32) - ((((xi.toUInt32 >>> ((8 : Int32) &&& 31).toUInt32).toInt32).toUInt32 >>> ((1 : Int32) &&& 31).toUInt32).toInt32)) else ((21 : Int32) - ((((((xi.toUInt32 >>> ((8 : Int32) &&& 31).toUInt32).toInt32).toUInt32 >>> ((2 : Int32) &&& 31).toUInt32).toInt32).toUInt32 >>> ((1 : Int32) &&& 31).toUInt32).toInt32))) else (if ((((xi.toUInt32 >>> ((8 : Int32) &&& 31).toUInt32).toInt32).toUInt32 >>> ((4 : Int32) &&& 31).toUInt32).toInt32) < (4 : Int32) then ((19 : Int32) - ((((((xi.toUInt32 >>> ((8 : Int32) &&& 31).toUInt32).toInt32).toUInt32 >>> ((4 : Int32) &&& 31).toUInt32).toInt32).toUInt32 >>> ((1 : Int32) &&& 31).toUInt32).toInt32)) else ((17 : Int32) - ((((((((xi.toUInt32 >>> ((8 : Int32) &&& 31).toUInt32).toInt32).toUInt32 >>> ((4 : Int32) &&& 31).toUInt32).toInt32).toUInt32 >>> ((2 : Int32) &&& 31).toUInt32).toInt32).toUInt32 >>> ((1 : Int32) &&& 31).toUInt32).toInt32))))) else (if ((xi.toUInt32 >>> ((16 : Int32) &&& 31).toUInt32).toInt32) < (256 : Int32) then (if ((xi.toUInt32 >>> ((16 : Int32) &&& 31).toUInt32).toInt32) < (16 : Int32) then (if ((xi.toUInt32 >>> ((16 : Int32) &&& 31).toUInt32).toInt32) < (4 : Int32) then ((15 : Int32) - ((((xi.toUInt32 >>> ((16 : Int32) &&& 31).toUInt32).toInt32).toUInt32 >>> ((1 : Int32) &&& 31).toUInt32).toInt32)) else ((13 : Int32) - ((((((xi.toUInt32 >>> ((16 : Int32) &&& 31).toUInt32).toInt32).toUInt32 >>> ((2 : Int32) &&& 31).toUInt32).toInt32).toUInt32 >>> ((1 : Int32) &&& 31).toUInt32).toInt32))) else (if ((((xi.toUInt32 >>> ((16 : Int32) &&& 31).toUInt32).toInt32).toUInt32 >>> ((4 : Int32) &&& 31).toUInt32).toInt32) < (4 : Int32) then ((11 : Int32) - ((((((xi.toUInt32 >>> ((16 : Int32) &&& 31).toUInt32).toInt32).toUInt32 >>> ((4 : Int32) &&& 31).toUInt32).toInt32).toUInt32 >>> ((1 : Int32) &&& 31).toUInt32).toInt32)) else ((9 : Int32) - ((((((((xi.toUInt32 >>> ((16 : Int32) &&& 31).toUInt32).toInt32).toUInt32 >>> ((4 : Int32) &&& 31).toUInt32).toInt32).toUInt32 >>> ((2 : Int32) &&& 31).toUInt32).toInt32).toUInt32 >>> ((1 : Int32) &&& 31).toUInt32).toInt32)))) else (if ((((xi.toUInt32 >>> ((16 : Int32) &&& 31).toUInt32).toInt32).toUInt32 >>> ((8 : Int32) &&& 31).toUInt32).toInt32) < (16 : Int32) then (if ((((xi.toUInt32 >>> ((16 : Int32) &&& 31).toUInt32).toInt32).toUInt32 >>> ((8 : Int32) &&& 31).toUInt32).toInt32) < (4 : Int32) then ((7 : Int32) - ((((((xi.toUInt32 >>> ((16 : Int32) &&& 31).toUInt32).toInt32).toUInt32 >>> ((8 : Int32) &&& 31).toUInt32).toInt32).toUInt32 >>> ((1 : Int32) &&& 31).toUInt32).toInt32)) else ((5 : Int32) - ((((((((xi.toUInt32 >>> ((16 : Int32) &&& 31).toUInt32).toInt32).toUInt32 >>> ((8 : Int32) &&& 31).toUInt32).toInt32).toUInt32 >>> ((2 : Int32) &&& 31).toUInt32).toInt32).toUInt32 >>> ((1 : Int32) &&& 31).toUInt32).toInt32))) else (if ((((((xi.toUInt32 >>> ((16 : Int32) &&& 31).toUInt32).toInt32).toUInt32 >>> ((8 : Int32) &&& 31).toUInt32).toInt32).toUInt32 >>> ((4 : Int32) &&& 31).toUInt32).toInt32) < (4 : Int32) then ((3 : Int32) - ((((((((xi.toUInt32 >>> ((16 : Int32) &&& 31).toUInt32).toInt32).toUInt32 >>> ((8 : Int32) &&& 31).toUInt32).toInt32).toUInt32 >>> ((4 : Int32) &&& 31).toUInt32).toInt32).toUInt32 >>> ((1 : Int32) &&& 31).toUInt32).toInt32)) else ((1 : Int32) - ((((((((((xi.toUInt32 >>> ((16 : Int32) &&& 31).toUInt32).toInt32).toUInt32 >>> ((8 : Int32) &&& 31).toUInt32).toInt32).toUInt32 >>> ((4 : Int32) &&& 31).toUInt32).toInt32).toUInt32 >>> ((2 : Int32) &&& 31).toUInt32).toInt32).toUInt32 >>> ((1 : Int32) &&& 31).toUInt32).toInt32)))))) → ∀ (f : JFrame) (acts : List Action), f.method = m → f.locked = none → f.entered = [] → (doReturn e (s₁.setTop f) acts (some (.int v1))).1 = s₁.setFrames fs := fun v1 hv1 => k v1 (hv1.trans (if_pos hc2).symm)
      show Steps p.tables e below (s₁.setTop (mkF m 15 #[.val (.int xi), .unset] [])) _
      refine XS.bipush X0.here hx rfl (hb hby d6_15) ?_
      show Steps p.tables e below (s₁.setTop (mkF m 17 #[.val (.int xi), .unset] [(.int (31 : Int32))])) _
      refine XS.istoreN X0.here hx rfl (hb hby d6_17) rfl (l' := #[.val (.int xi), .val (.int (31 : Int32))]) rfl ?_
      show Steps p.tables e below (s₁.setTop (mkF m 18 #[.val (.int xi), .val (.int (31 : Int32))] [])) _
      refine XS.iloadN X0.here hx rfl (hb hby d6_18) rfl ?_
      show Steps p.tables e below (s₁.setTop (mkF m 19 #[.val (.int xi), .val (.int (31 : Int32))] [(.int xi)])) _
      refine X0.ldcwInt hx hown (mvT hZ (hw _ (List.mem_of_getElem? (i := 32) rfl))) (g := (mkF m 19 #[.val (.int xi), .val (.int (31 : Int32))] [(.int xi)])) rfl (hb hby d6_19) _ ?_
      show Steps p.tables e below (s₁.setTop (mkF m 22 #[.val (.int xi), .val (.int (31 : Int32))] [(.int (65536 : Int32)), (.int xi)])) _
      by_cases hc3 : xi < (65536 : Int32)
      · refine XS.icmpYes X0.here hx rfl (pc0 := 22) (pc' := 33) rfl (hb hby d6_22) rfl (tlt hc3).1 (by decide) (by decide) ?_
        have k : ∀ (v1 : Int32), v1 = (if xi < (256 : Int32) then (if xi < (16 : Int32) then (if xi < (4 : Int32) then ((31 : Int32) - ((xi.toUInt32 >>> ((1 : Int32) &&& 31).toUInt32).toInt32)) else ((29 : Int32) - ((((xi.toUInt32 >>> ((2 : Int32) &&& 31).toUInt32).toInt32).toUInt32 >>> ((1 : Int32) &&& 31).toUInt32).toInt32))) else (if ((xi.toUInt32 >>> ((4 : Int32) &&& 31).toUInt32).toInt32) < (4 : Int32) then ((27 : Int32) - ((((xi.toUInt32 >>> ((4 : Int32) &&& 31).toUInt32).toInt32).toUInt32 >>> ((1 : Int32) &&& 31).toUInt32).toInt32)) else ((25 : Int32) - ((((((xi.toUInt32 >>> ((4 : Int32) &&& 31).toUInt32).toInt32).toUInt32 >>> ((2 : Int32) &&& 31).toUInt32).toInt32).toUInt32 >>> ((1 : Int32) &&& 31).toUInt32).toInt32)))) else (if ((xi.toUInt32 >>> ((8 : Int32) &&& 31).toUInt32).toInt32) < (16 : Int32) then (if ((xi.toUInt32 >>> ((8 : Int32) &&& 31).toUInt32).toInt32) < (4 : Int32) then ((23 : Int32) - ((((xi.toUInt32 >>> ((8 : Int32) &&& 31).toUInt32).toInt32).toUInt32 >>> ((1 : Int32) &&& 31).toUInt32).toInt32)) else ((21 : Int32) - ((((((xi.toUInt32 >>> ((8 : Int32) &&& 31).toUInt32).toInt32).toUInt32 >>> ((2 : Int32) &&& 31).toUInt32).toInt32).toUInt32 >>> ((1 : Int32) &&& 31).toUInt32).toInt32))) else (if ((((xi.toUInt32 >>> ((8 : Int32) &&& 31).toUInt32).toInt32).toUInt32 >>> ((4 : Int32) &&& 31).toUInt32).toInt32) < (4 : Int32) then ((19 : Int32) - ((((((xi.toUInt32 >>> ((8 : Int32) &&& 31).toUInt32).toInt32).toUInt32 >>> ((4 : Int32) &&& 31).toUInt32).toInt32).toUInt32 >>> ((1 : Int32) &&& 31).toUInt32).toInt32)) else ((17 : Int32) - ((((((((xi.toUInt32 >>> ((8 : Int32) &&& 31).toUInt32).toInt32).toUInt32 >>> ((4 : Int32) &&& 31).toUInt32).toInt32).toUInt32 >>> ((2 : Int32) &&& 31).toUInt32).toInt32).toUInt32 >>> ((1 : Int32) &&& 31).toUInt32).toInt32))))) → ∀ (f : JFrame) (acts : List Action), f.method = m → f.locked = none → f.entered = [] → (doReturn e (s₁.setTop f) acts (some (.int v1))).1 = s₁.setFrames fs := fun v1 hv1 => k v1 (hv1.trans (if_pos hc3).symm)
        show Steps p.tables e below (s₁.setTop (mkF m 33 #[.val (.int xi), .val (.int (31 : Int32))] [])) _
        refine XS.iloadN X0.here hx rfl (hb hby d6_33) rfl ?_
        show Steps p.tables e below (s₁.setTop (mkF m 34 #[.val (.int xi), .val (.int (31 : Int32))] [(.int xi)])) _
        refine XS.sipush X0.here hx rfl (hb hby d6_34) ?_
        show Steps p.tables e below (s₁.setTop (mkF m 37 #[.val (.int xi), .val (.int (31 : Int32))] [(.int (256 : Int32)), (.int xi)])) _
        by_cases hc4 : xi < (256 : Int32)
        · refine XS.icmpYes X0.here hx rfl (pc0 := 37) (pc' := 48) rfl (hb hby d6_37) rfl (tlt hc4).1 (by decide) (by decide) ?_
          have k : ∀ (v1 : Int32), v1 = (if xi < (16 : Int32) then (if xi < (4 : Int32) then ((31 : Int32) - ((xi.toUInt32 >>> ((1 : Int32) &&& 31).toUInt32).toInt32)) else ((29 : Int32) - ((((xi.toUInt32 >>> ((2 : Int32) &&& 31).toUInt32).toInt32).toUInt32 >>> ((1 : Int32) &&& 31).toUInt32).toInt32))) else (if ((xi.toUInt32 >>> ((4 : Int32) &&& 31).toUInt32).toInt32) < (4 : Int32) then ((27 : Int32) - ((((xi.toUInt32 >>> ((4 : Int32) &&& 31).toUInt32).toInt32).toUInt32 >>> ((1 : Int32) &&& 31).toUInt32).toInt32)) else ((25 : Int32) - ((((((xi.toUInt32 >>> ((4 : Int32) &&& 31).toUInt32).toInt32).toUInt32 >>> ((2 : Int32) &&& 31).toUInt32).toInt32).toUInt32 >>> ((1 : Int32) &&& 31).toUInt32).toInt32)))) → ∀ (f : JFrame) (acts : List Action), f.method = m → f.locked = none → f.entered = [] → (doReturn e (s₁.setTop f) acts (some (.int v1))).1 = s₁.setFrames fs := fun v1 hv1 => k v1 (hv1.trans (if_pos hc4).symm)
          show Steps p.tables e below (s₁.setTop (mkF m 48 #[.val (.int xi), .val (.int (31 : Int32))] [])) _
          refine XS.iloadN X0.here hx rfl (hb hby d6_48) rfl ?_
          show Steps p.tables e below (s₁.setTop (mkF m 49 #[.val (.int xi), .val (.int (31 : Int32))] [(.int xi)])) _
          refine XS.bipush X0.here hx rfl (hb hby d6_49) ?_
          show Steps p.tables e below (s₁.setTop (mkF m 51 #[.val (.int xi), .val (.int (31 : Int32))] [(.int (16 : Int32)), (.int xi)])) _
          by_cases hc5 : xi < (16 : Int32)
          · refine XS.icmpYes X0.here hx rfl (pc0 := 51) (pc' := 61) rfl (hb hby d6_51) rfl (tlt hc5).1 (by decide) (by decide) ?_
            have k : ∀ (v1 : Int32), v1 = (if xi < (4 : Int32) then ((31 : Int32) - ((xi.toUInt32 >>> ((1 : Int32) &&& 31).toUInt32).toInt32)) else ((29 : Int32) - ((((xi.toUInt32 >>> ((2 : Int32) &&& 31).toUInt32).toInt32).toUInt32 >>> ((1 : Int32) &&& 31).toUInt32).toInt32))) → ∀ (f : JFrame) (acts : List Action), f.method = m → f.locked = none → f.entered = [] → (doReturn e (s₁.setTop f) acts (some (.int v1))).1 = s₁.setFrames fs := fun v1 hv1 => k v1 (hv1.trans (if_pos hc5).symm)
            show Steps p.tables e below (s₁.setTop (mkF m 61 #[.val (.int xi), .val (.int (31 : Int32))] [])) _
            refine XS.iloadN X0.here hx rfl (hb hby d6_61) rfl ?_
            show Steps p.tables e below (s₁.setTop (mkF m 62 #[.val (.int xi), .val (.int (31 : Int32))] [(.int xi)])) _
            refine XS.iconst X0.here hx rfl (hb hby d6_62) ?_
            show Steps p.tables e below (s₁.setTop (mkF m 63 #[.val (.int xi), .val (.int (31 : Int32))] [(.int (4 : Int32)), (.int xi)])) _
            by_cases hc6 : xi < (4 : Int32)
            · refine XS.icmpYes X0.here hx rfl (pc0 := 63) (pc' := 73) rfl (hb hby d6_63) rfl (tlt hc6).1 (by decide) (by decide) ?_
              have k : ∀ (v1 : Int32), v1 = ((31 : Int32) - ((xi.toUInt32 >>> ((1 : Int32) &&& 31).toUInt32).toInt32)) → ∀ (f : JFrame) (acts : List Action), f.method = m → f.locked = none → f.entered = [] → (doReturn e (s₁.setTop f) acts (some (.int v1))).1 = s₁.setFrames fs := fun v1 hv1 => k v1 (hv1.trans (if_pos hc6).symm)
              show Steps p.tables e below (s₁.setTop (mkF m 73 #[.val (.int xi), .val (.int (31 : Int32))] [])) _
              refine XS.iloadN X0.here hx rfl (hb hby d6_73) rfl ?_
              show Steps p.tables e below (s₁.setTop (mkF m 74 #[.val (.int xi), .val (.int (31 : Int32))] [(.int (31 : Int32))])) _
              refine XS.iloadN X0.here hx rfl (hb hby d6_74) rfl ?_
              show Steps p.tables e below (s₁.setTop (mkF m 75 #[.val (.int xi), .val (.int (31 : Int32))] [(.int xi), (.int (31 : Int32))])) _
              refine XS.iconst X0.here hx rfl (hb hby d6_75) ?_
              show Steps p.tables e below (s₁.setTop (mkF m 76 #[.val (.int xi), .val (.int (31 : Int32))] [(.int (1 : Int32)), (.int xi), (.int (31 : Int32))])) _
              refine XS.iushr X0.here hx rfl (hb hby d6_76) rfl ?_
              show Steps p.tables e below (s₁.setTop (mkF m 77 #[.val (.int xi), .val (.int (31 : Int32))] [(.int ((xi.toUInt32 >>> ((1 : Int32) &&& 31).toUInt32).toInt32)), (.int (31 : Int32))])) _
              refine XS.isub X0.here hx rfl (hb hby d6_77) rfl ?_
              show Steps p.tables e below (s₁.setTop (mkF m 78 #[.val (.int xi), .val (.int (31 : Int32))] [(.int ((31 : Int32) - ((xi.toUInt32 >>> ((1 : Int32) &&& 31).toUInt32).toInt32)))])) _
              exact retI X0 hx Bd.returns (hb hby d6_78) (k _ rfl)
            · refine XS.icmpNo X0.here hx rfl (hb hby d6_63) rfl (flt hc6).1 ?_
              have k : ∀ (v1 : Int32), v1 = ((29 : Int32) - ((((xi.toUInt32 >>> ((2 : Int32) &&& 31).toUInt32).toInt32).toUInt32 >>> ((1 : Int32) &&& 31).toUInt32).toInt32)) → ∀ (f : JFrame) (acts : List Action), f.method = m → f.locked = none → f.entered = [] → (doReturn e (s₁.setTop f) acts (some (.int v1))).1 = s₁.setFrames fs := fun v1 hv1 => k v1 (hv1.trans (if_neg hc6).symm)
              show Steps p.tables e below (s₁.setTop (mkF m 66 #[.val (.int xi), .val (.int (31 : Int32))] [])) _
              refine XS.iinc X0.here hx rfl (hb hby d6_66) rfl (l' := #[.val (.int xi), .val (.int (29 : Int32))]) rfl ?_
              show Steps p.tables e below (s₁.setTop (mkF m 69 #[.val (.int xi), .val (.int (29 : Int32))] [])) _
              refine XS.iloadN X0.here hx rfl (hb hby d6_69) rfl ?_
              show Steps p.tables e below (s₁.setTop (mkF m 70 #[.val (.int xi), .val (.int (29 : Int32))] [(.int xi)])) _
              refine XS.iconst X0.here hx rfl (hb hby d6_70) ?_
              show Steps p.tables e below (s₁.setTop (mkF m 71 #[.val (.int xi), .val (.int (29 : Int32))] [(.int (2 : Int32)), (.int xi)])) _
              refine XS.iushr X0.here hx rfl (hb hby d6_71) rfl ?_
              show Steps p.tables e below (s₁.setTop (mkF m 72 #[.val (.int xi), .val (.int (29 : Int32))] [(.int ((xi.toUInt32 >>> ((2 : Int32) &&& 31).toUInt32).toInt32))])) _
              refine XS.istoreN X0.here hx rfl (hb hby d6_72) rfl (l' := #[.val (.int ((xi.toUInt32 >>> ((2 : Int32) &&& 31).toUInt32).toInt32)), .val (.int (29 : Int32))]) rfl ?_
              show Steps p.tables e below (s₁.setTop (mkF m 73 #[.val (.int ((xi.toUInt32 >>> ((2 : Int32) &&& 31).toUInt32).toInt32)), .val (.int (29 : Int32))] [])) _
              refine XS.iloadN X0.here hx rfl (hb hby d6_73) rfl ?_
              show Steps p.tables e below (s₁.setTop (mkF m 74 #[.val (.int ((xi.toUInt32 >>> ((2 : Int32) &&& 31).toUInt32).toInt32)), .val (.int (29 : Int32))] [(.int (29 : Int32))])) _
              refine XS.iloadN X0.here hx rfl (hb hby d6_74) rfl ?_
              show Steps p.tables e below (s₁.setTop (mkF m 75 #[.val (.int ((xi.toUInt32 >>> ((2 : Int32) &&& 31).toUInt32).toInt32)), .val (.int (29 : Int32))] [(.int ((xi.toUInt32 >>> ((2 : Int32) &&& 31).toUInt32).toInt32)), (.int (29 : Int32))])) _
              refine XS.iconst X0.here hx rfl (hb hby d6_75) ?_
              show Steps p.tables e below (s₁.setTop (mkF m 76 #[.val (.int ((xi.toUInt32 >>> ((2 : Int32) &&& 31).toUInt32).toInt32)), .val (.int (29 : Int32))] [(.int (1 : Int32)), (.int ((xi.toUInt32 >>> ((2 : Int32) &&& 31).toUInt32).toInt32)), (.int (29 : Int32))])) _
              refine XS.iushr X0.here hx rfl (hb hby d6_76) rfl ?_
              show Steps p.tables e below (s₁.setTop (mkF m 77 #[.val (.int ((xi.toUInt32 >>> ((2 : Int32) &&& 31).toUInt32).toInt32)), .val (.int (29 : Int32))] [(.int ((((xi.toUInt32 >>> ((2 : Int32) &&& 31).toUInt32).toInt32).toUInt32 >>> ((1 : Int32) &&& 31).toUInt32).toInt32)), (.int (29 : Int32))])) _
              refine XS.isub X0.here hx rfl (hb hby d6_77) rfl ?_
              show Steps p.tables e below (s₁.setTop (mkF m 78 #[.val (.int ((xi.toUInt32 >>> ((2 : Int32) &&& 31).toUInt32).toInt32)), .val (.int (29 : Int32))] [(.int ((29 : Int32) - ((((xi.toUInt32 >>> ((2 : Int32) &&& 31).toUInt32).toInt32).toUInt32 >>> ((1 : Int32) &&& 31).toUInt32).toInt32)))])) _
              exact retI X0 hx Bd.returns (hb hby d6_78) (k _ rfl)
          · refine XS.icmpNo X0.here hx rfl (hb hby d6_51) rfl (flt hc5).1 ?_
            have k : ∀ (v1 : Int32), v1 = (if ((xi.toUInt32 >>> ((4 : Int32) &&& 31).toUInt32).toInt32) < (4 : Int32) then ((27 : Int32) - ((((xi.toUInt32 >>> ((4 : Int32) &&& 31).toUInt32).toInt32).toUInt32 >>> ((1 : Int32) &&& 31).toUInt32).toInt32)) else ((25 : Int32) - ((((((xi.toUInt32 >>> ((4 : Int32) &&& 31).toUInt32).toInt32).toUInt32 >>> ((2 : Int32) &&& 31).toUInt32).toInt32).toUInt32 >>> ((1 : Int32) &&& 31).toUInt32).toInt32))) → ∀ (f : JFrame) (acts : List Action), f.method = m → f.locked = none → f.entered = [] → (doReturn e (s₁.setTop f) acts (some (.int v1))).1 = s₁.setFrames fs := fun v1 hv1 => k v1 (hv1.trans (if_neg hc5).symm)
            show Steps p.tables e below (s₁.setTop (mkF m 54 #[.val (.int xi), .val (.int (31 : Int32))] [])) _
            refine XS.iinc X0.here hx rfl (hb hby d6_54) rfl (l' := #[.val (.int xi), .val (.int (27 : Int32))]) rfl ?_
            show Steps p.tables e below (s₁.setTop (mkF m 57 #[.val (.int xi), .val (.int (27 : Int32))] [])) _
            refine XS.iloadN X0.here hx rfl (hb hby d6_57) rfl ?_
            show Steps p.tables e below (s₁.setTop (mkF m 58 #[.val (.int xi), .val (.int (27 : Int32))] [(.int xi)])) _
            refine XS.iconst X0.here hx rfl (hb hby d6_58) ?_
            show Steps p.tables e below (s₁.setTop (mkF m 59 #[.val (.int xi), .val (.int (27 : Int32))] [(.int (4 : Int32)), (.int xi)])) _
            refine XS.iushr X0.here hx rfl (hb hby d6_59) rfl ?_
            show Steps p.tables e below (s₁.setTop (mkF m 60 #[.val (.int xi), .val (.int (27 : Int32))] [(.int ((xi.toUInt32 >>> ((4 : Int32) &&& 31).toUInt32).toInt32))])) _
            refine XS.istoreN X0.here hx rfl (hb hby d6_60) rfl (l' := #[.val (.int ((xi.toUInt32 >>> ((4 : Int32) &&& 31).toUInt32).toInt32)), .val (.int (27 : Int32))]) rfl ?_
            show Steps p.tables e below (s₁.setTop (mkF m 61 #[.val (.int ((xi.toUInt32 >>> ((4 : Int32) &&& 31).toUInt32).toInt32)), .val (.int (27 : Int32))] [])) _
            refine XS.iloadN X0.here hx rfl (hb hby d6_61) rfl ?_
            show Steps p.tables e below (s₁.setTop (mkF m 62 #[.val (.int ((xi.toUInt32 >>> ((4 : Int32) &&& 31).toUInt32).toInt32)), .val (.int (27 : Int32))] [(.int ((xi.toUInt32 >>> ((4 : Int32) &&& 31).toUInt32).toInt32))])) _
            refine XS.iconst X0.here hx rfl (hb hby d6_62) ?_
            show Steps p.tables e below (s₁.setTop (mkF m 63 #[.val (.int ((xi.toUInt32 >>> ((4 : Int32) &&& 31).toUInt32).toInt32)), .val (.int (27 : Int32))] [(.int (4 : Int32)), (.int ((xi.toUInt32 >>> ((4 : Int32) &&& 31).toUInt32).toInt32))])) _
            by_cases hc7 : ((xi.toUInt32 >>> ((4 : Int32) &&& 31).toUInt32).toInt32) < (4 : Int32)
            · refine XS.icmpYes X0.here hx rfl (pc0 := 63) (pc' := 73) rfl (hb hby d6_63) rfl (tlt hc7).1 (by decide) (by decide) ?_
              have k : ∀ (v1 : Int32), v1 = ((27 : Int32) - ((((xi.toUInt32 >>> ((4 : Int32) &&& 31).toUInt32).toInt32).toUInt32 >>> ((1 : Int32) &&& 31).toUInt32).toInt32)) → ∀ (f : JFrame) (acts : List Action), f.method = m → f.locked = none → f.entered = [] → (doReturn e (s₁.setTop f) acts (some (.int v1))).1 = s₁.setFrames fs := fun v1 hv1 => k v1 (hv1.trans (if_pos hc7).symm)
              show Steps p.tables e below (s₁.setTop (mkF m 73 #[.val (.int ((xi.toUInt32 >>> ((4 : Int32) &&& 31).toUInt32).toInt32)), .val (.int (27 : Int32))] [])) _
              refine XS.iloadN X0.here hx rfl (hb hby d6_73) rfl ?_
              show Steps p.tables e below (s₁.setTop (mkF m 74 #[.val (.int ((xi.toUInt32 >>> ((4 : Int32) &&& 31).toUInt32).toInt32)), .val (.int (27 : Int32))] [(.int (27 : Int32))])) _
              refine XS.iloadN X0.here hx rfl (hb hby d6_74) rfl ?_
              show Steps p.tables e below (s₁.setTop (mkF m 75 #[.val (.int ((xi.toUInt32 >>> ((4 : Int32) &&& 31).toUInt32).toInt32)), .val (.int (27 : Int32))] [(.int ((xi.toUInt32 >>> ((4 : Int32) &&& 31).toUInt32).toInt32)), (.int (27 : Int32))])) _
              refine XS.iconst X0.here hx rfl (hb hby d6_75) ?_
              show Steps p.tables e below (s₁.setTop (mkF m 76 #[.val (.int ((xi.toUInt32 >>> ((4 : Int32) &&& 31).toUInt32).toInt32)), .val (.int (27 : Int32))] [(.int (1 : Int32)), (.int ((xi.toUInt32 >>> ((4 : Int32) &&& 31).toUInt32).toInt32)), (.int (27 : Int32))])) _
              refine XS.iushr X0.here hx rfl (hb hby d6_76) rfl ?_
              show Steps p.tables e below (s₁.setTop (mkF m 77 #[.val (.int ((xi.toUInt32 >>> ((4 : Int32) &&& 31).toUInt32).toInt32)), .val (.int (27 : Int32))] [(.int ((((xi.toUInt32 >>> ((4 : Int32) &&& 31).toUInt32).toInt32).toUInt32 >>> ((1 : Int32) &&& 31).toUInt32).toInt32)), (.int (27 : Int32))])) _
              refine XS.isub X0.here hx rfl (hb hby d6_77) rfl ?_
              show Steps p.tables e below (s₁.setTop (mkF m 78 #[.val (.int ((xi.toUInt32 >>> ((4 : Int32) &&& 31).toUInt32).toInt32)), .val (.int (27 : Int32))] [(.int ((27 : Int32) - ((((xi.toUInt32 >>> ((4 : Int32) &&& 31).toUInt32).toInt32).toUInt32 >>> ((1 : Int32) &&& 31).toUInt32).toInt32)))])) _
              exact retI X0 hx Bd.returns (hb hby d6_78) (k _ rfl)
            · refine XS.icmpNo X0.here hx rfl (hb hby d6_63) rfl (flt hc7).1 ?_
              have k : ∀ (v1 : Int32), v1 = ((25 : Int32) - ((((((xi.toUInt32 >>> ((4 : Int32) &&& 31).toUInt32).toInt32).toUInt32 >>> ((2 : Int32) &&& 31).toUInt32).toInt32).toUInt32 >>> ((1 : Int32) &&& 31).toUInt32).toInt32)) → ∀ (f : JFrame) (acts : List Action), f.method = m → f.locked = none → f.entered = [] → (doReturn e (s₁.setTop f) acts (some (.int v1))).1 = s₁.setFrames fs := fun v1 hv1 => k v1 (hv1.trans (if_neg hc7).symm)
              show Steps p.tables e below (s₁.setTop (mkF m 66 #[.val (.int ((xi.toUInt32 >>> ((4 : Int32) &&& 31).toUInt32).toInt32)), .val (.int (27 : Int32))] [])) _
              refine XS.iinc X0.here hx rfl (hb hby d6_66) rfl (l' := #[.val (.int ((xi.toUInt32 >>> ((4 : Int32) &&& 31).toUInt32).toInt32)), .val (.int (25 : Int32))]) rfl ?_
              show Steps p.tables e below (s₁.setTop (mkF m 69 #[.val (.int ((xi.toUInt32 >>> ((4 : Int32) &&& 31).toUInt32).toInt32)), .val (.int (25 : Int32))] [])) _
              refine XS.iloadN X0.here hx rfl (hb hby d6_69) rfl ?_
              show Steps p.tables e below (s₁.setTop (mkF m 70 #[.val (.int ((xi.toUInt32 >>> ((4 : Int32) &&& 31).toUInt32).toInt32)), .val (.int (25 : Int32))] [(.int ((xi.toUInt32 >>> ((4 : Int32) &&& 31).toUInt32).toInt32))])) _
              refine XS.iconst X0.here hx rfl (hb hby d6_70) ?_
              show Steps p.tables e below (s₁.setTop (mkF m 71 #[.val (.int ((xi.toUInt32 >>> ((4 : Int32) &&& 31).toUInt32).toInt32)), .val (.int (25 : Int32))] [(.int (2 : Int32)), (.int ((xi.toUInt32 >>> ((4 : Int32) &&& 31).toUInt32).toInt32))])) _
              refine XS.iushr X0.here hx rfl (hb hby d6_71) rfl ?_
              show Steps p.tables e below (s₁.setTop (mkF m 72 #[.val (.int ((xi.toUInt32 >>> ((4 : Int32) &&& 31).toUInt32).toInt32)), .val (.int (25 : Int32))] [(.int ((((xi.toUInt32 >>> ((4 : Int32) &&& 31).toUInt32).toInt32).toUInt32 >>> ((2 : Int32) &&& 31).toUInt32).toInt32))])) _
              refine XS.istoreN X0.here hx rfl (hb hby d6_72) rfl (l' := #[.val (.int ((((xi.toUInt32 >>> ((4 : Int32) &&& 31).toUInt32).toInt32).toUInt32 >>> ((2 : Int32) &&& 31).toUInt32).toInt32)), .val (.int (25 : Int32))]) rfl ?_
              show Steps p.tables e below (s₁.setTop (mkF m 73 #[.val (.int ((((xi.toUInt32 >>> ((4 : Int32) &&& 31).toUInt32).toInt32).toUInt32 >>> ((2 : Int32) &&& 31).toUInt32).toInt32)), .val (.int (25 : Int32))] [])) _
              refine XS.iloadN X0.here hx rfl (hb hby d6_73) rfl ?_
              show Steps p.tables e below (s₁.setTop (mkF m 74 #[.val (.int ((((xi.toUInt32 >>> ((4 : Int32) &&& 31).toUInt32).toInt32).toUInt32 >>> ((2 : Int32) &&& 31).toUInt32).toInt32)), .val (.int (25 : Int32))] [(.int (25 : Int32))])) _
              refine XS.iloadN X0.here hx rfl (hb hby d6_74) rfl ?_
              show Steps p.tables e below (s₁.setTop (mkF m 75 #[.val (.int ((((xi.toUInt32 >>> ((4 : Int32) &&& 31).toUInt32).toInt32).toUInt32 >>> ((2 : Int32) &&& 31).toUInt32).toInt32)), .val (.int (25 : Int32))] [(.int ((((xi.toUInt32 >>> ((4 : Int32) &&& 31).toUInt32).toInt32).toUInt32 >>> ((2 : Int32) &&& 31).toUInt32).toInt32)), (.int (25 : Int32))])) _
              refine XS.iconst X0.here hx rfl (hb hby d6_75) ?_
              show Steps p.tables e below (s₁.setTop (mkF m 76 #[.val (.int ((((xi.toUInt32 >>> ((4 : Int32) &&& 31).toUInt32).toInt32).toUInt32 >>> ((2 : Int32) &&& 31).toUInt32).toInt32)), .val (.int (25 : Int32))] [(.int (1 : Int32)), (.int ((((xi.toUInt32 >>> ((4 : Int32) &&& 31).toUInt32).toInt32).toUInt32 >>> ((2 : Int32) &&& 31).toUInt32).toInt32)), (.int (25 : Int32))])) _
              refine XS.iushr X0.here hx rfl (hb hby d6_76) rfl ?_
              show Steps p.tables e below (s₁.setTop (mkF m 77 #[.val (.int ((((xi.toUInt32 >>> ((4 : Int32) &&& 31).toUInt32).toInt32).toUInt32 >>> ((2 : Int32) &&& 31).toUInt32).toInt32)), .val (.int (25 : Int32))] [(.int ((((((xi.toUInt32 >>> ((4 : Int32) &&& 31).toUInt32).toInt32).toUInt32 >>> ((2 : Int32) &&& 31).toUInt32).toInt32).toUInt32 >>> ((1 : Int32) &&& 31).toUInt32).toInt32)), (.int (25 : Int32))])) _
              refine XS.isub X0.here hx rfl (hb hby d6_77) rfl ?_
              show Steps p.tables e below (s₁.setTop (mkF m 78 #[.val (.int ((((xi.toUInt32 >>> ((4 : Int32) &&& 31).toUInt32).toInt32).toUInt32 >>> ((2 : Int32) &&& 31).toUInt32).toInt32)), .val (.int (25 : Int32))] [(.int ((25 : Int32) - ((((((xi.toUInt32 >>> ((4 : Int32) &&& 31).toUInt32).toInt32).toUInt32 >>> ((2 : Int32) &&& 31).toUInt32).toInt32).toUInt32 >>> ((1 : Int32) &&& 31).toUInt32).toInt32)))])) _
              exact retI X0 hx Bd.returns (hb hby d6_78) (k _ rfl)
        · refine XS.icmpNo X0.here hx rfl (hb hby d6_37) rfl (flt hc4).1 ?_
          have k : ∀ (v1 : Int32), v1 = (if ((xi.toUInt32 >>> ((8 : Int32) &&& 31).toUInt32).toInt32) < (16 : Int32) then (if ((xi.toUInt32 >>> ((8 : Int32) &&& 31).toUInt32).toInt32) < (4 : Int32) then ((23 : Int32) - ((((xi.toUInt32 >>> ((8 : Int32) &&& 31).toUInt32).toInt32).toUInt32 >>> ((1 : Int32) &&& 31).toUInt32).toInt32)) else ((21 : Int32) - ((((((xi.toUInt32 >>> ((8 : Int32) &&& 31).toUInt32).toInt32).toUInt32 >>> ((2 : Int32) &&& 31).toUInt32).toInt32).toUInt32 >>> ((1 : Int32) &&& 31).toUInt32).toInt32))) else (if ((((xi.toUInt32 >>> ((8 : Int32) &&& 31).toUInt32).toInt32).toUInt32 >>> ((4 : Int32) &&& 31).toUInt32).toInt32) < (4 : Int32) then ((19 : Int32) - ((((((xi.toUInt32 >>> ((8 : Int32) &&& 31).toUInt32).toInt32).toUInt32 >>> ((4 : Int32) &&& 31).toUInt32).toInt32).toUInt32 >>> ((1 : Int32) &&& 31).toUInt32).toInt32)) else ((17 : Int32) - ((((((((xi.toUInt32 >>> ((8 : Int32) &&& 31).toUInt32).toInt32).toUInt32 >>> ((4 : Int32) &&& 31).toUInt32).toInt32).toUInt32 >>> ((2 : Int32) &&& 31).toUInt32).toInt32).toUInt32 >>> ((1 : Int32) &&& 31).toUInt32).toInt32)))) → ∀ (f : JFrame) (acts : List Action), f.method = m → f.locked = none → f.entered = [] → (doReturn e (s₁.setTop f) acts (some (.int v1))).1 = s₁.setFrames fs := fun v1 hv1 => k v1 (hv1.trans (if_neg hc4).symm)
          show Steps p.tables e below (s₁.setTop (mkF m 40 #[.val (.int xi), .val (.int (31 : Int32))] [])) _
          refine XS.iinc X0.here hx rfl (hb hby d6_40) rfl (l' := #[.val (.int xi), .val (.int (23 : Int32))]) rfl ?_
          show Steps p.tables e below (s₁.setTop (mkF m 43 #[.val (.int xi), .val (.int (23 : Int32))] [])) _
          refine XS.iloadN X0.here hx rfl (hb hby d6_43) rfl ?_
          show Steps p.tables e below (s₁.setTop (mkF m 44 #[.val (.int xi), .val (.int (23 : Int32))] [(.int xi)])) _
          refine XS.bipush X0.here hx rfl (hb hby d6_44) ?_
          show Steps p.tables e below (s₁.setTop (mkF m 46 #[.val (.int xi), .val (.int (23 : Int32))] [(.int (8 : Int32)), (.int xi)])) _
          refine XS.iushr X0.here hx rfl (hb hby d6_46) rfl ?_
          show Steps p.tables e below (s₁.setTop (mkF m 47 #[.val (.int xi), .val (.int (23 : Int32))] [(.int ((xi.toUInt32 >>> ((8 : Int32) &&& 31).toUInt32).toInt32))])) _
          refine XS.istoreN X0.here hx rfl (hb hby d6_47) rfl (l' := #[.val (.int ((xi.toUInt32 >>> ((8 : Int32) &&& 31).toUInt32).toInt32)), .val (.int (23 : Int32))]) rfl ?_
          show Steps p.tables e below (s₁.setTop (mkF m 48 #[.val (.int ((xi.toUInt32 >>> ((8 : Int32) &&& 31).toUInt32).toInt32)), .val (.int (23 : Int32))] [])) _
          refine XS.iloadN X0.here hx rfl (hb hby d6_48) rfl ?_
          show Steps p.tables e below (s₁.setTop (mkF m 49 #[.val (.int ((xi.toUInt32 >>> ((8 : Int32) &&& 31).toUInt32).toInt32)), .val (.int (23 : Int32))] [(.int ((xi.toUInt32 >>> ((8 : Int32) &&& 31).toUInt32).toInt32))])) _
          refine XS.bipush X0.here hx rfl (hb hby d6_49) ?_
          show Steps p.tables e below (s₁.setTop (mkF m 51 #[.val (.int ((xi.toUInt32 >>> ((8 : Int32) &&& 31).toUInt32).toInt32)), .val (.int (23 : Int32))] [(.int (16 : Int32)), (.int ((xi.toUInt32 >>> ((8 : Int32) &&& 31).toUInt32).toInt32))])) _
          by_cases hc8 : ((xi.toUInt32 >>> ((8 : Int32) &&& 31).toUInt32).toInt32) < (16 : Int32)
          · refine XS.icmpYes X0.here hx rfl (pc0 := 51) (pc' := 61) rfl (hb hby d6_51) rfl (tlt hc8).1 (by decide) (by decide) ?_
            have k : ∀ (v1 : Int32), v1 = (if ((xi.toUInt32 >>> ((8 : Int32) &&& 31).toUInt32).toInt32) < (4 : Int32) then ((23 : Int32) - ((((xi.toUInt32 >>> ((8 : Int32) &&& 31).toUInt32).toInt32).toUInt32 >>> ((1 : Int32) &&& 31).toUInt32).toInt32)) else ((21 : Int32) - ((((((xi.toUInt32 >>> ((8 : Int32) &&& 31).toUInt32).toInt32).toUInt32 >>> ((2 : Int32) &&& 31).toUInt32).toInt32).toUInt32 >>> ((1 : Int32) &&& 31).toUInt32).toInt32))) → ∀ (f : JFrame) (acts : List Action), f.method = m → f.locked = none → f.entered = [] → (doReturn e (s₁.setTop f) acts (some (.int v1))).1 = s₁.setFrames fs := fun v1 hv1 => k v1 (hv1.trans (if_pos hc8).symm)
            show Steps p.tables e below (s₁.setTop (mkF m 61 #[.val (.int ((xi.toUInt32 >>> ((8 : Int32) &&& 31).toUInt32).toInt32)), .val (.int (23 : Int32))] [])) _
            refine XS.iloadN X0.here hx rfl (hb hby d6_61) rfl ?_
            show Steps p.tables e below (s₁.setTop (mkF m 62 #[.val (.int ((xi.toUInt32 >>> ((8 : Int32) &&& 31).toUInt32).toInt32)), .val (.int (23 : Int32))] [(.int ((xi.toUInt32 >>> ((8 : Int32) &&& 31).toUInt32).toInt32))])) _
            refine XS.iconst X0.here hx rfl (hb hby d6_62) ?_
            show Steps p.tables e below (s₁.setTop (mkF m 63 #[.val (.int ((xi.toUInt32 >>> ((8 : Int32) &&& 31).toUInt32).toInt32)), .val (.int (23 : Int32))] [(.int (4 : Int32)), (.int ((xi.toUInt32 >>> ((8 : Int32) &&& 31).toUInt32).toInt32))])) _
            by_cases hc9 : ((xi.toUInt32 >>> ((8 : Int32) &&& 31).toUInt32).toInt32) < (4 : Int32)
            · refine XS.icmpYes X0.here hx rfl (pc0 := 63) (pc' := 73) rfl (hb hby d6_63) rfl (tlt hc9).1 (by decide) (by decide) ?_
              have k : ∀ (v1 : Int32), v1 = ((23 : Int32) - ((((xi.toUInt32 >>> ((8 : Int32) &&& 31).toUInt32).toInt32).toUInt32 >>> ((1 : Int32) &&& 31).toUInt32).toInt32)) → ∀ (f : JFrame) (acts : List Action), f.method = m → f.locked = none → f.entered = [] → (doReturn e (s₁.setTop f) acts (some (.int v1))).1 = s₁.setFrames fs := fun v1 hv1 => k v1 (hv1.trans (if_pos hc9).symm)
              show Steps p.tables e below (s₁.setTop (mkF m 73 #[.val (.int ((xi.toUInt32 >>> ((8 : Int32) &&& 31).toUInt32).toInt32)), .val (.int (23 : Int32))] [])) _
              refine XS.iloadN X0.here hx rfl (hb hby d6_73) rfl ?_
              show Steps p.tables e below (s₁.setTop (mkF m 74 #[.val (.int ((xi.toUInt32 >>> ((8 : Int32) &&& 31).toUInt32).toInt32)), .val (.int (23 : Int32))] [(.int (23 : Int32))])) _
              refine XS.iloadN X0.here hx rfl (hb hby d6_74) rfl ?_
              show Steps p.tables e below (s₁.setTop (mkF m 75 #[.val (.int ((xi.toUInt32 >>> ((8 : Int32) &&& 31).toUInt32).toInt32)), .val (.int (23 : Int32))] [(.int ((xi.toUInt32 >>> ((8 : Int32) &&& 31).toUInt32).toInt32)), (.int (23 : Int32))])) _
              refine XS.iconst X0.here hx rfl (hb hby d6_75) ?_
              show Steps p.tables e below (s₁.setTop (mkF m 76 #[.val (.int ((xi.toUInt32 >>> ((8 : Int32) &&& 31).toUInt32).toInt32)), .val (.int (23 : Int32))] [(.int (1 : Int32)), (.int ((xi.toUInt32 >>> ((8 : Int32) &&& 31).toUInt32).toInt32)), (.int (23 : Int32))])) _
              refine XS.iushr X0.here hx rfl (hb hby d6_76) rfl ?_
              show Steps p.tables e below (s₁.setTop (mkF m 77 #[.val (.int ((xi.toUInt32 >>> ((8 : Int32) &&& 31).toUInt32).toInt32)), .val (.int (23 : Int32))] [(.int ((((xi.toUInt32 >>> ((8 : Int32) &&& 31).toUInt32).toInt32).toUInt32 >>> ((1 : Int32) &&& 31).toUInt32).toInt32)), (.int (23 : Int32))])) _
              refine XS.isub X0.here hx rfl (hb hby d6_77) rfl ?_
              show Steps p.tables e below (s₁.setTop (mkF m 78 #[.val (.int ((xi.toUInt32 >>> ((8 : Int32) &&& 31).toUInt32).toInt32)), .val (.int (23 : Int32))] [(.int ((23 : Int32) - ((((xi.toUInt32 >>> ((8 : Int32) &&& 31).toUInt32).toInt32).toUInt32 >>> ((1 : Int32) &&& 31).toUInt32).toInt32)))])) _
              exact retI X0 hx Bd.returns (hb hby d6_78) (k _ rfl)
            · refine XS.icmpNo X0.here hx rfl (hb hby d6_63) rfl (flt hc9).1 ?_
              have k : ∀ (v1 : Int32), v1 = ((21 : Int32) - ((((((xi.toUInt32 >>> ((8 : Int32) &&& 31).toUInt32).toInt32).toUInt32 >>> ((2 : Int32) &&& 31).toUInt32).toInt32).toUInt32 >>> ((1 : Int32) &&& 31).toUInt32).toInt32)) → ∀ (f : JFrame) (acts : List Action), f.method = m → f.locked = none → f.entered = [] → (doReturn e (s₁.setTop f) acts (some (.int v1))).1 = s₁.setFrames fs := fun v1 hv1 => k v1 (hv1.trans (if_neg hc9).symm)
              show Steps p.tables e below (s₁.setTop (mkF m 66 #[.val (.int ((xi.toUInt32 >>> ((8 : Int32) &&& 31).toUInt32).toInt32)), .val (.int (23 : Int32))] [])) _
              refine XS.iinc X0.here hx rfl (hb hby d6_66) rfl (l' := #[.val (.int ((xi.toUInt32 >>> ((8 : Int32) &&& 31).toUInt32).toInt32)), .val (.int (21 : Int32))]) rfl ?_
              show Steps p.tables e below (s₁.setTop (mkF m 69 #[.val (.int ((xi.toUInt32 >>> ((8 : Int32) &&& 31).toUInt32).toInt32)), .val (.int (21 : Int32))] [])) _
              refine XS.iloadN X0.here hx rfl (hb hby d6_69) rfl ?_
              show Steps p.tables e below (s₁.setTop (mkF m 70 #[.val (.int ((xi.toUInt32 >>> ((8 : Int32) &&& 31).toUInt32).toInt32)), .val (.int (21 : Int32))] [(.int ((xi.toUInt32 >>> ((8 : Int32) &&& 31).toUInt32).toInt32))])) _
              refine XS.iconst X0.here hx rfl (hb hby d6_70) ?_
              show Steps p.tables e below (s₁.setTop (mkF m 71 #[.val (.int ((xi.toUInt32 >>> ((8 : Int32) &&& 31).toUInt32).toInt32)), .val (.int (21 : Int32))] [(.int (2 : Int32)), (.int ((xi.toUInt32 >>> ((8 : Int32) &&& 31).toUInt32).toInt32))])) _
              refine XS.iushr X0.here hx rfl (hb hby d6_71) rfl ?_
              show Steps p.tables e below (s₁.setTop (mkF m 72 #[.val (.int ((xi.toUInt32 >>> ((8 : Int32) &&& 31).toUInt32).toInt32)), .val (.int (21 : Int32))] [(.int ((((xi.toUInt32 >>> ((8 : Int32) &&& 31).toUInt32).toInt32).toUInt32 >>> ((2 : Int32) &&& 31).toUInt32).toInt32))])) _
              refine XS.istoreN X0.here hx rfl (hb hby d6_72) rfl (l' := #[.val (.int ((((xi.toUInt32 >>> ((8 : Int32) &&& 31).toUInt32).toInt32).toUInt32 >>> ((2 : Int32) &&& 31).toUInt32).toInt32)), .val (.int (21 : Int32))]) rfl ?_
              show Steps p.tables e below (s₁.setTop (mkF m 73 #[.val (.int ((((xi.toUInt32 >>> ((8 : Int32) &&& 31).toUInt32).toInt32).toUInt32 >>> ((2 : Int32) &&& 31).toUInt32).toInt32)), .val (.int (21 : Int32))] [])) _
              refine XS.iloadN X0.here hx rfl (hb hby d6_73) rfl ?_
              show Steps p.tables e below (s₁.setTop (mkF m 74 #[.val (.int ((((xi.toUInt32 >>> ((8 : Int32) &&& 31).toUInt32).toInt32).toUInt32 >>> ((2 : Int32) &&& 31).toUInt32).toInt32)), .val (.int (21 : Int32))] [(.int (21 : Int32))])) _
              refine XS.iloadN X0.here hx rfl (hb hby d6_74) rfl ?_
              show Steps p.tables e below (s₁.setTop (mkF m 75 #[.val (.int ((((xi.toUInt32 >>> ((8 : Int32) &&& 31).toUInt32).toInt32).toUInt32 >>> ((2 : Int32) &&& 31).toUInt32).toInt32)), .val (.int (21 : Int32))] [(.int ((((xi.toUInt32 >>> ((8 : Int32) &&& 31).toUInt32).toInt32).toUInt32 >>> ((2 : Int32) &&& 31).toUInt32).toInt32)), (.int (21 : Int32))])) _
              refine XS.iconst X0.here hx rfl (hb hby d6_75) ?_
              show Steps p.tables e below (s₁.setTop (mkF m 76 #[.val (.int ((((xi.toUInt32 >>> ((8 : Int32) &&& 31).toUInt32).toInt32).toUInt32 >>> ((2 : Int32) &&& 31).toUInt32).toInt32)), .val (.int (21 : Int32))] [(.int (1 : Int32)), (.int ((((xi.toUInt32 >>> ((8 : Int32) &&& 31).toUInt32).toInt32).toUInt32 >>> ((2 : Int32) &&& 31).toUInt32).toInt32)), (.int (21 : Int32))])) _
              refine XS.iushr X0.here hx rfl (hb hby d6_76) rfl ?_
              show Steps p.tables e below (s₁.setTop (mkF m 77 #[.val (.int ((((xi.toUInt32 >>> ((8 : Int32) &&& 31).toUInt32).toInt32).toUInt32 >>> ((2 : Int32) &&& 31).toUInt32).toInt32)), .val (.int (21 : Int32))] [(.int ((((((xi.toUInt32 >>> ((8 : Int32) &&& 31).toUInt32).toInt32).toUInt32 >>> ((2 : Int32) &&& 31).toUInt32).toInt32).toUInt32 >>> ((1 : Int32) &&& 31).toUInt32).toInt32)), (.int (21 : Int32))])) _
              refine XS.isub X0.here hx rfl (hb hby d6_77) rfl ?_
              show Steps p.tables e below (s₁.setTop (mkF m 78 #[.val (.int ((((xi.toUInt32 >>> ((8 : Int32) &&& 31).toUInt32).toInt32).toUInt32 >>> ((2 : Int32) &&& 31).toUInt32).toInt32)), .val (.int (21 : Int32))] [(.int ((21 : Int32) - ((((((xi.toUInt32 >>> ((8 : Int32) &&& 31).toUInt32).toInt32).toUInt32 >>> ((2 : Int32) &&& 31).toUInt32).toInt32).toUInt32 >>> ((1 : Int32) &&& 31).toUInt32).toInt32)))])) _
              exact retI X0 hx Bd.returns (hb hby d6_78) (k _ rfl)
          · refine XS.icmpNo X0.here hx rfl (hb hby d6_51) rfl (flt hc8).1 ?_
            have k : ∀ (v1 : Int32), v1 = (if ((((xi.toUInt32 >>> ((8 : Int32) &&& 31).toUInt32).toInt32).toUInt32 >>> ((4 : Int32) &&& 31).toUInt32).toInt32) < (4 : Int32) then ((19 : Int32) - ((((((xi.toUInt32 >>> ((8 : Int32) &&& 31).toUInt32).toInt32).toUInt32 >>> ((4 : Int32) &&& 31).toUInt32).toInt32).toUInt32 >>> ((1 : Int32) &&& 31).toUInt32).toInt32)) else ((17 : Int32) - ((((((((xi.toUInt32 >>> ((8 : Int32) &&& 31).toUInt32).toInt32).toUInt32 >>> ((4 : Int32) &&& 31).toUInt32).toInt32).toUInt32 >>> ((2 : Int32) &&& 31).toUInt32).toInt32).toUInt32 >>> ((1 : Int32) &&& 31).toUInt32).toInt32))) → ∀ (f : JFrame) (acts : List Action), f.method = m → f.locked = none → f.entered = [] → (doReturn e (s₁.setTop f) acts (some (.int v1))).1 = s₁.setFrames fs := fun v1 hv1 => k v1 (hv1.trans (if_neg hc8).symm)
            show Steps p.tables e below (s₁.setTop (mkF m 54 #[.val (.int ((xi.toUInt32 >>> ((8 : Int32) &&& 31).toUInt32).toInt32)), .val (.int (23 : Int32))] [])) _
            refine XS.iinc X0.here hx rfl (hb hby d6_54) rfl (l' := #[.val (.int ((xi.toUInt32 >>> ((8 : Int32) &&& 31).toUInt32).toInt32)), .val (.int (19 : Int32))]) rfl ?_
            show Steps p.tables e below (s₁.setTop (mkF m 57 #[.val (.int ((xi.toUInt32 >>> ((8 : Int32) &&& 31).toUInt32).toInt32)), .val (.int (19 : Int32))] [])) _
            refine XS.iloadN X0.here hx rfl (hb hby d6_57) rfl ?_
            show Steps p.tables e below (s₁.setTop (mkF m 58 #[.val (.int ((xi.toUInt32 >>> ((8 : Int32) &&& 31).toUInt32).toInt32)), .val (.int (19 : Int32))] [(.int ((xi.toUInt32 >>> ((8 : Int32) &&& 31).toUInt32).toInt32))])) _
            refine XS.iconst X0.here hx rfl (hb hby d6_58) ?_
            show Steps p.tables e below (s₁.setTop (mkF m 59 #[.val (.int ((xi.toUInt32 >>> ((8 : Int32) &&& 31).toUInt32).toInt32)), .val (.int (19 : Int32))] [(.int (4 : Int32)), (.int ((xi.toUInt32 >>> ((8 : Int32) &&& 31).toUInt32).toInt32))])) _
            refine XS.iushr X0.here hx rfl (hb hby d6_59) rfl ?_
            show Steps p.tables e below (s₁.setTop (mkF m 60 #[.val (.int ((xi.toUInt32 >>> ((8 : Int32) &&& 31).toUInt32).toInt32)), .val (.int (19 : Int32))] [(.int ((((xi.toUInt32 >>> ((8 : Int32) &&& 31).toUInt32).toInt32).toUInt32 >>> ((4 : Int32) &&& 31).toUInt32).toInt32))])) _
            refine XS.istoreN X0.here hx rfl (hb hby d6_60) rfl (l' := #[.val (.int ((((xi.toUInt32 >>> ((8 : Int32) &&& 31).toUInt32).toInt32).toUInt32 >>> ((4 : Int32) &&& 31).toUInt32).toInt32)), .val (.int (19 : Int32))]) rfl ?_
            show Steps p.tables e below (s₁.setTop (mkF m 61 #[.val (.int ((((xi.toUInt32 >>> ((8 : Int32) &&& 31).toUInt32).toInt32).toUInt32 >>> ((4 : Int32) &&& 31).toUInt32).toInt32)), .val (.int (19 : Int32))] [])) _
            refine XS.iloadN X0.here hx rfl (hb hby d6_61) rfl ?_
            show Steps p.tables e below (s₁.setTop (mkF m 62 #[.val (.int ((((xi.toUInt32 >>> ((8 : Int32) &&& 31).toUInt32).toInt32).toUInt32 >>> ((4 : Int32) &&& 31).toUInt32).toInt32)), .val (.int (19 : Int32))] [(.int ((((xi.toUInt32 >>> ((8 : Int32) &&& 31).toUInt32).toInt32).toUInt32 >>> ((4 : Int32) &&& 31).toUInt32).toInt32))])) _
            refine XS.iconst X0.here hx rfl (hb hby d6_62) ?_
            show Steps p.tables e below (s₁.setTop (mkF m 63 #[.val (.int ((((xi.toUInt32 >>> ((8 : Int32) &&& 31).toUInt32).toInt32).toUInt32 >>> ((4 : Int32) &&& 31).toUInt32).toInt32)), .val (.int (19 : Int32))] [(.int (4 : Int32)), (.int ((((xi.toUInt32 >>> ((8 : Int32) &&& 31).toUInt32).toInt32).toUInt32 >>> ((4 : Int32) &&& 31).toUInt32).toInt32))])) _
            by_cases hc10 : ((((xi.toUInt32 >>> ((8 : Int32) &&& 31).toUInt32).toInt32).toUInt32 >>> ((4 : Int32) &&& 31).toUInt32).toInt32) < (4 : Int32)
            · refine XS.icmpYes X0.here hx rfl (pc0 := 63) (pc' := 73) rfl (hb hby d6_63) rfl (tlt hc10).1 (by decide) (by decide) ?_
              have k : ∀ (v1 : Int32), v1 = ((19 : Int32) - ((((((xi.toUInt32 >>> ((8 : Int32) &&& 31).toUInt32).toInt32).toUInt32 >>> ((4 : Int32) &&& 31).toUInt32).toInt32).toUInt32 >>> ((1 : Int32) &&& 31).toUInt32).toInt32)) → ∀ (f : JFrame) (acts : List Action), f.method = m → f.locked = none → f.entered = [] → (doReturn e (s₁.setTop f) acts (some (.int v1))).1 = s₁.setFrames fs := fun v1 hv1 => k v1 (hv1.trans (if_pos hc10).symm)
              show Steps p.tables e below (s₁.setTop (mkF m 73 #[.val (.int ((((xi.toUInt32 >>> ((8 : Int32) &&& 31).toUInt32).toInt32).toUInt32 >>> ((4 : Int32) &&& 31).toUInt32).toInt32)), .val (.int (19 : Int32))] [])) _
              refine XS.iloadN X0.here hx rfl (hb hby d6_73) rfl ?_
              show Steps p.tables e below (s₁.setTop (mkF m 74 #[.val (.int ((((xi.toUInt32 >>> ((8 : Int32) &&& 31).toUInt32).toInt32).toUInt32 >>> ((4 : Int32) &&& 31).toUInt32).toInt32)), .val (.int (19 : Int32))] [(.int (19 : Int32))])) _
              refine XS.iloadN X0.here hx rfl (hb hby d6_74) rfl ?_
              show Steps p.tables e below (s₁.setTop (mkF m 75 #[.val (.int ((((xi.toUInt32 >>> ((8 : Int32) &&& 31).toUInt32).toInt32).toUInt32 >>> ((4 : Int32) &&& 31).toUInt32).toInt32)), .val (.int (19 : Int32))] [(.int ((((xi.toUInt32 >>> ((8 : Int32) &&& 31).toUInt32).toInt32).toUInt32 >>> ((4 : Int32) &&& 31).toUInt32).toInt32)), (.int (19 : Int32))])) _
              refine XS.iconst X0.here hx rfl (hb hby d6_75) ?_
              show Steps p.tables e below (s₁.setTop (mkF m 76 #[.val (.int ((((xi.toUInt32 >>> ((8 : Int32) &&& 31).toUInt32).toInt32).toUInt32 >>> ((4 : Int32) &&& 31).toUInt32).toInt32)), .val (.int (19 : Int32))] [(.int (1 : Int32)), (.int ((((xi.toUInt32 >>> ((8 : Int32) &&& 31).toUInt32).toInt32).toUInt32 >>> ((4 : Int32) &&& 31).toUInt32).toInt32)), (.int (19 : Int32))])) _
              refine XS.iushr X0.here hx rfl (hb hby d6_76) rfl ?_
              show Steps p.tables e below (s₁.setTop (mkF m 77 #[.val (.int ((((xi.toUInt32 >>> ((8 : Int32) &&& 31).toUInt32).toInt32).toUInt32 >>> ((4 : Int32) &&& 31).toUInt32).toInt32)), .val (.int (19 : Int32))] [(.int ((((((xi.toUInt32 >>> ((8 : Int32) &&& 31).toUInt32).toInt32).toUInt32 >>> ((4 : Int32) &&& 31).toUInt32).toInt32).toUInt32 >>> ((1 : Int32) &&& 31).toUInt32).toInt32)), (.int (19 : Int32))])) _
              refine XS.isub X0.here hx rfl (hb hby d6_77) rfl ?_
              show Steps p.tables e below (s₁.setTop (mkF m 78 #[.val (.int ((((xi.toUInt32 >>> ((8 : Int32) &&& 31).toUInt32).toInt32).toUInt32 >>> ((4 : Int32) &&& 31).toUInt32).toInt32)), .val (.int (19 : Int32))] [(.int ((19 : Int32) - ((((((xi.toUInt32 >>> ((8 : Int32) &&& 31).toUInt32).toInt32).toUInt32 >>> ((4 : Int32) &&& 31).toUInt32).toInt32).toUInt32 >>> ((1 : Int32) &&& 31).toUInt32).toInt32)))])) _
              exact retI X0 hx Bd.returns (hb hby d6_78) (k _ rfl)
            · refine XS.icmpNo X0.here hx rfl (hb hby d6_63) rfl (flt hc10).1 ?_
              have k : ∀ (v1 : Int32), v1 = ((17 : Int32) - ((((((((xi.toUInt32 >>> ((8 : Int32) &&& 31).toUInt32).toInt32).toUInt32 >>> ((4 : Int32) &&& 31).toUInt32).toInt32).toUInt32 >>> ((2 : Int32) &&& 31).toUInt32).toInt32).toUInt32 >>> ((1 : Int32) &&& 31).toUInt32).toInt32)) → ∀ (f : JFrame) (acts : List Action), f.method = m → f.locked = none → f.entered = [] → (doReturn e (s₁.setTop f) acts (some (.int v1))).1 = s₁.setFrames fs := fun v1 hv1 => k v1 (hv1.trans (if_neg hc10).symm)
              show Steps p.tables e below (s₁.setTop (mkF m 66 #[.val (.int ((((xi.toUInt32 >>> ((8 : Int32) &&& 31).toUInt32).toInt32).toUInt32 >>> ((4 : Int32) &&& 31).toUInt32).toInt32)), .val (.int (19 : Int32))] [])) _
              refine XS.iinc X0.here hx rfl (hb hby d6_66) rfl (l' := #[.val (.int ((((xi.toUInt32 >>> ((8 : Int32) &&& 31).toUInt32).toInt32).toUInt32 >>> ((4 : Int32) &&& 31).toUInt32).toInt32)), .val (.int (17 : Int32))]) rfl ?_
              show Steps p.tables e below (s₁.setTop (mkF m 69 #[.val (.int ((((xi.toUInt32 >>> ((8 : Int32) &&& 31).toUInt32).toInt32).toUInt32 >>> ((4 : Int32) &&& 31).toUInt32).toInt32)), .val (.int (17 : Int32))] [])) _
              refine XS.iloadN X0.here hx rfl (hb hby d6_69) rfl ?_
              show Steps p.tables e below (s₁.setTop (mkF m 70 #[.val (.int ((((xi.toUInt32 >>> ((8 : Int32) &&& 31).toUInt32).toInt32).toUInt32 >>> ((4 : Int32) &&& 31).toUInt32).toInt32)), .val (.int (17 : Int32))] [(.int ((((xi.toUInt32 >>> ((8 : Int32) &&& 31).toUInt32).toInt32).toUInt32 >>> ((4 : Int32) &&& 31).toUInt32).toInt32))])) _
              refine XS.iconst X0.here hx rfl (hb hby d6_70) ?_
              show Steps p.tables e below (s₁.setTop (mkF m 71 #[.val (.int ((((xi.toUInt32 >>> ((8 : Int32) &&& 31).toUInt32).toInt32).toUInt32 >>> ((4 : Int32) &&& 31).toUInt32).toInt32)), .val (.int (17 : Int32))] [(.int (2 : Int32)), (.int ((((xi.toUInt32 >>> ((8 : Int32) &&& 31).toUInt32).toInt32).toUInt32 >>> ((4 : Int32) &&& 31).toUInt32).toInt32))])) _
              refine XS.iushr X0.here hx rfl (hb hby d6_71) rfl ?_
              show Steps p.tables e below (s₁.setTop (mkF m 72 #[.val (.int ((((xi.toUInt32 >>> ((8 : Int32) &&& 31).toUInt32).toInt32).toUInt32 >>> ((4 : Int32) &&& 31).toUInt32).toInt32)), .val (.int (17 : Int32))] [(.int ((((((xi.toUInt32 >>> ((8 : Int32) &&& 31).toUInt32).toInt32).toUInt32 >>> ((4 : Int32) &&& 31).toUInt32).toInt32).toUInt32 >>> ((2 : Int32) &&& 31).toUInt32).toInt32))])) _
              refine XS.istoreN X0.here hx rfl (hb hby d6_72) rfl (l' := #[.val (.int ((((((xi.toUInt32 >>> ((8 : Int32) &&& 31).toUInt32).toInt32).toUInt32 >>> ((4 : Int32) &&& 31).toUInt32).toInt32).toUInt32 >>> ((2 : Int32) &&& 31).toUInt32).toInt32)), .val (.int (17 : Int32))]) rfl ?_
              show Steps p.tables e below (s₁.setTop (mkF m 73 #[.val (.int ((((((xi.toUInt32 >>> ((8 : Int32) &&& 31).toUInt32).toInt32).toUInt32 >>> ((4 : Int32) &&& 31).toUInt32).toInt32).toUInt32 >>> ((2 : Int32) &&& 31).toUInt32).toInt32)), .val (.int (17 : Int32))] [])) _
              refine XS.iloadN X0.here hx rfl (hb hby d6_73) rfl ?_
              show Steps p.tables e below (s₁.setTop (mkF m 74 #[.val (.int ((((((xi.toUInt32 >>> ((8 : Int32) &&& 31).toUInt32).toInt32).toUInt32 >>> ((4 : Int32) &&& 31).toUInt32).toInt32).toUInt32 >>> ((2 : Int32) &&& 31).toUInt32).toInt32)), .val (.int (17 : Int32))] [(.int (17 : Int32))])) _
              refine XS.iloadN X0.here hx rfl (hb hby d6_74) rfl ?_
              show Steps p.tables e below (s₁.setTop (mkF m 75 #[.val (.int ((((((xi.toUInt32 >>> ((8 : Int32) &&& 31).toUInt32).toInt32).toUInt32 >>> ((4 : Int32) &&& 31).toUInt32).toInt32).toUInt32 >>> ((2 : Int32) &&& 31).toUInt32).toInt32)), .val (.int (17 : Int32))] [(.int ((((((xi.toUInt32 >>> ((8 : Int32) &&& 31).toUInt32).toInt32).toUInt32 >>> ((4 : Int32) &&& 31).toUInt32).toInt32).toUInt32 >>> ((2 : Int32) &&& 31).toUInt32).toInt32)), (.int (17 : Int32))])) _
              refine XS.iconst X0.here hx rfl (hb hby d6_75) ?_
              show Steps p.tables e below (s₁.setTop (mkF m 76 #[.val (.int ((((((xi.toUInt32 >>> ((8 : Int32) &&& 31).toUInt32).toInt32).toUInt32 >>> ((4 : Int32) &&& 31).toUInt32).toInt32).toUInt32 >>> ((2 : Int32) &&& 31).toUInt32).toInt32)), .val (.int (17 : Int32))] [(.int (1 : Int32)), (.int ((((((xi.toUInt32 >>> ((8 : Int32) &&& 31).toUInt32).toInt32).toUInt32 >>> ((4 : Int32) &&& 31).toUInt32).toInt32).toUInt32 >>> ((2 : Int32) &&& 31).toUInt32).toInt32)), (.int (17 : Int32))])) _
              refine XS.iushr X0.here hx rfl (hb hby d6_76) rfl ?_
              show Steps p.tables e below (s₁.setTop (mkF m 77 #[.val (.int ((((((xi.toUInt32 >>> ((8 : Int32) &&& 31).toUInt32).toInt32).toUInt32 >>> ((4 : Int32) &&& 31).toUInt32).toInt32).toUInt32 >>> ((2 : Int32) &&& 31).toUInt32).toInt32)), .val (.int (17 : Int32))] [(.int ((((((((xi.toUInt32 >>> ((8 : Int32) &&& 31).toUInt32).toInt32).toUInt32 >>> ((4 : Int32) &&& 31).toUInt32).toInt32).toUInt32 >>> ((2 : Int32) &&& 31).toUInt32).toInt32).toUInt32 >>> ((1 : Int32) &&& 31).toUInt32).toInt32)), (.int (17 : Int32))])) _
              refine XS.isub X0.here hx rfl (hb hby d6_77) rfl ?_
              show Steps p.tables e below (s₁.setTop (mkF m 78 #[.val (.int ((((((xi.toUInt32 >>> ((8 : Int32) &&& 31).toUInt32).toInt32).toUInt32 >>> ((4 : Int32) &&& 31).toUInt32).toInt32).toUInt32 >>> ((2 : Int32) &&& 31).toUInt32).toInt32)), .val (.int (17 : Int32))] [(.int ((17 : Int32) - ((((((((xi.toUInt32 >>> ((8 : Int32) &&& 31).toUInt32).toInt32).toUInt32 >>> ((4 : Int32) &&& 31).toUInt32).toInt32).toUInt32 >>> ((2 : Int32) &&& 31).toUInt32).toInt32).toUInt32 >>> ((1 : Int32) &&& 31).toUInt32).toInt32)))])) _
              exact retI X0 hx Bd.returns (hb hby d6_78) (k _ rfl)
      · refine XS.icmpNo X0.here hx rfl (hb hby d6_22) rfl (flt hc3).1 ?_
        have k : ∀ (v1 : Int32), v1 = (if ((xi.toUInt32 >>> ((16 : Int32) &&& 31).toUInt32).toInt32) < (256 : Int32) then (if ((xi.toUInt32 >>> ((16 : Int32) &&& 31).toUInt32).toInt32) < (16 : Int32) then (if ((xi.toUInt32 >>> ((16 : Int32) &&& 31).toUInt32).toInt32) < (4 : Int32) then ((15 : Int32) - ((((xi.toUInt32 >>> ((16 : Int32) &&& 31).toUInt32).toInt32).toUInt32 >>> ((1 : Int32) &&& 31).toUInt32).toInt32)) else ((13 : Int32) - ((((((xi.toUInt32 >>> ((16 : Int32) &&& 31).toUInt32).toInt32).toUInt32 >>> ((2 : Int32) &&& 31).toUInt32).toInt32).toUInt32 >>> ((1 : Int32) &&& 31).toUInt32).toInt32))) else (if ((((xi.toUInt32 >>> ((16 : Int32) &&& 31).toUInt32).toInt32).toUInt32 >>> ((4 : Int32) &&& 31).toUInt32).toInt32) < (4 : Int32) then ((11 : Int32) - ((((((xi.toUInt32 >>> ((16 : Int32) &&& 31).toUInt32).toInt32).toUInt32 >>> ((4 : Int32) &&& 31).toUInt32).toInt32).toUInt32 >>> ((1 : Int32) &&& 31).toUInt32).toInt32)) else ((9 : Int32) - ((((((((xi.toUInt32 >>> ((16 : Int32) &&& 31).toUInt32).toInt32).toUInt32 >>> ((4 : Int32) &&& 31).toUInt32).toInt32).toUInt32 >>> ((2 : Int32) &&& 31).toUInt32).toInt32).toUInt32 >>> ((1 : Int32) &&& 31).toUInt32).toInt32)))) else (if ((((xi.toUInt32 >>> ((16 : Int32) &&& 31).toUInt32).toInt32).toUInt32 >>> ((8 : Int32) &&& 31).toUInt32).toInt32) < (16 : Int32) then (if ((((xi.toUInt32 >>> ((16 : Int32) &&& 31).toUInt32).toInt32).toUInt32 >>> ((8 : Int32) &&& 31).toUInt32).toInt32) < (4 : Int32) then ((7 : Int32) - ((((((xi.toUInt32 >>> ((16 : Int32) &&& 31).toUInt32).toInt32).toUInt32 >>> ((8 : Int32) &&& 31).toUInt32).toInt32).toUInt32 >>> ((1 : Int32) &&& 31).toUInt32).toInt32)) else ((5 : Int32) - ((((((((xi.toUInt32 >>> ((16 : Int32) &&& 31).toUInt32).toInt32).toUInt32 >>> ((8 : Int32) &&& 31).toUInt32).toInt32).toUInt32 >>> ((2 : Int32) &&& 31).toUInt32).toInt32).toUInt32 >>> ((1 : Int32) &&& 31).toUInt32).toInt32))) else (if ((((((xi.toUInt32 >>> ((16 : Int32) &&& 31).toUInt32).toInt32).toUInt32 >>> ((8 : Int32) &&& 31).toUInt32).toInt32).toUInt32 >>> ((4 : Int32) &&& 31).toUInt32).toInt32) < (4 : Int32) then ((3 : Int32) - ((((((((xi.toUInt32 >>> ((16 : Int32) &&& 31).toUInt32).toInt32).toUInt32 >>> ((8 : Int32) &&& 31).toUInt32).toInt32).toUInt32 >>> ((4 : Int32) &&& 31).toUInt32).toInt32).toUInt32 >>> ((1 : Int32) &&& 31).toUInt32).toInt32)) else ((1 : Int32) - ((((((((((xi.toUInt32 >>> ((16 : Int32) &&& 31).toUInt32).toInt32).toUInt32 >>> ((8 : Int32) &&& 31).toUInt32).toInt32).toUInt32 >>> ((4 : Int32) &&& 31).toUInt32).toInt32).toUInt32 >>> ((2 : Int32) &&& 31).toUInt32).toInt32).toUInt32 >>> ((1 : Int32) &&& 31).toUInt32).toInt32))))) → ∀ (f : JFrame) (acts : List Action), f.method = m → f.locked = none → f.entered = [] → (doReturn e (s₁.setTop f) acts (some (.int v1))).1 = s₁.setFrames fs := fun v1 hv1 => k v1 (hv1.trans (if_neg hc3).symm)
        show Steps p.tables e below (s₁.setTop (mkF m 25 #[.val (.int xi), .val (.int (31 : Int32))] [])) _
        refine XS.iinc X0.here hx rfl (hb hby d6_25) rfl (l' := #[.val (.int xi), .val (.int (15 : Int32))]) rfl ?_
        show Steps p.tables e below (s₁.setTop (mkF m 28 #[.val (.int xi), .val (.int (15 : Int32))] [])) _
        refine XS.iloadN X0.here hx rfl (hb hby d6_28) rfl ?_
        show Steps p.tables e below (s₁.setTop (mkF m 29 #[.val (.int xi), .val (.int (15 : Int32))] [(.int xi)])) _
        refine XS.bipush X0.here hx rfl (hb hby d6_29) ?_
        show Steps p.tables e below (s₁.setTop (mkF m 31 #[.val (.int xi), .val (.int (15 : Int32))] [(.int (16 : Int32)), (.int xi)])) _
        refine XS.iushr X0.here hx rfl (hb hby d6_31) rfl ?_
        show Steps p.tables e below (s₁.setTop (mkF m 32 #[.val (.int xi), .val (.int (15 : Int32))] [(.int ((xi.toUInt32 >>> ((16 : Int32) &&& 31).toUInt32).toInt32))])) _
        refine XS.istoreN X0.here hx rfl (hb hby d6_32) rfl (l' := #[.val (.int ((xi.toUInt32 >>> ((16 : Int32) &&& 31).toUInt32).toInt32)), .val (.int (15 : Int32))]) rfl ?_
        show Steps p.tables e below (s₁.setTop (mkF m 33 #[.val (.int ((xi.toUInt32 >>> ((16 : Int32) &&& 31).toUInt32).toInt32)), .val (.int (15 : Int32))] [])) _
        refine XS.iloadN X0.here hx rfl (hb hby d6_33) rfl ?_
        show Steps p.tables e below (s₁.setTop (mkF m 34 #[.val (.int ((xi.toUInt32 >>> ((16 : Int32) &&& 31).toUInt32).toInt32)), .val (.int (15 : Int32))] [(.int ((xi.toUInt32 >>> ((16 : Int32) &&& 31).toUInt32).toInt32))])) _
        refine XS.sipush X0.here hx rfl (hb hby d6_34) ?_
        show Steps p.tables e below (s₁.setTop (mkF m 37 #[.val (.int ((xi.toUInt32 >>> ((16 : Int32) &&& 31).toUInt32).toInt32)), .val (.int (15 : Int32))] [(.int (256 : Int32)), (.int ((xi.toUInt32 >>> ((16 : Int32) &&& 31).toUInt32).toInt32))])) _
        by_cases hc11 : ((xi.toUInt32 >>> ((16 : Int32) &&& 31).toUInt32).toInt32) < (256 : Int32)
        · refine XS.icmpYes X0.here hx rfl (pc0 := 37) (pc' := 48) rfl (hb hby d6_37) rfl (tlt hc11).1 (by decide) (by decide) ?_
          have k : ∀ (v1 : Int32), v1 = (if ((xi.toUInt32 >>> ((16 : Int32) &&& 31).toUInt32).toInt32) < (16 : Int32) then (if ((xi.toUInt32 >>> ((16 : Int32) &&& 31).toUInt32).toInt32) < (4 : Int32) then ((15 : Int32) - ((((xi.toUInt32 >>> ((16 : Int32) &&& 31).toUInt32).toInt32).toUInt32 >>> ((1 : Int32) &&& 31).toUInt32).toInt32)) else ((13 : Int32) - ((((((xi.toUInt32 >>> ((16 : Int32) &&& 31).toUInt32).toInt32).toUInt32 >>> ((2 : Int32) &&& 31).toUInt32).toInt32).toUInt32 >>> ((1 : Int32) &&& 31).toUInt32).toInt32))) else (if ((((xi.toUInt32 >>> ((16 : Int32) &&& 31).toUInt32).toInt32).toUInt32 >>> ((4 : Int32) &&& 31).toUInt32).toInt32) < (4 : Int32) then ((11 : Int32) - ((((((xi.toUInt32 >>> ((16 : Int32) &&& 31).toUInt32).toInt32).toUInt32 >>> ((4 : Int32) &&& 31).toUInt32).toInt32).toUInt32 >>> ((1 : Int32) &&& 31).toUInt32).toInt32)) else ((9 : Int32) - ((((((((xi.toUInt32 >>> ((16 : Int32) &&& 31).toUInt32).toInt32).toUInt32 >>> ((4 : Int32) &&& 31).toUInt32).toInt32).toUInt32 >>> ((2 : Int32) &&& 31).toUInt32).toInt32).toUInt32 >>> ((1 : Int32) &&& 31).toUInt32).toInt32)))) → ∀ (f : JFrame) (acts : List Action), f.method = m → f.locked = none → f.entered = [] → (doReturn e (s₁.setTop f) acts (some (.int v1))).1 = s₁.setFrames fs := fun v1 hv1 => k v1 (hv1.trans (if_pos hc11).symm)
          show Steps p.tables e below (s₁.setTop (mkF m 48 #[.val (.int ((xi.toUInt32 >>> ((16 : Int32) &&& 31).toUInt32).toInt32)), .val (.int (15 : Int32))] [])) _
          refine XS.iloadN X0.here hx rfl (hb hby d6_48) rfl ?_
          show Steps p.tables e below (s₁.setTop (mkF m 49 #[.val (.int ((xi.toUInt32 >>> ((16 : Int32) &&& 31).toUInt32).toInt32)), .val (.int (15 : Int32))] [(.int ((xi.toUInt32 >>> ((16 : Int32) &&& 31).toUInt32).toInt32))])) _
          refine XS.bipush X0.here hx rfl (hb hby d6_49) ?_
          show Steps p.tables e below (s₁.setTop (mkF m 51 #[.val (.int ((xi.toUInt32 >>> ((16 : Int32) &&& 31).toUInt32).toInt32)), .val (.int (15 : Int32))] [(.int (16 : Int32)), (.int ((xi.toUInt32 >>> ((16 : Int32) &&& 31).toUInt32).toInt32))])) _
          by_cases hc12 : ((xi.toUInt32 >>> ((16 : Int32) &&& 31).toUInt32).toInt32) < (16 : Int32)
          · refine XS.icmpYes X0.here hx rfl (pc0 := 51) (pc' := 61) rfl (hb hby d6_51) rfl (tlt hc12).1 (by decide) (by decide) ?_
            have k : ∀ (v1 : Int32), v1 = (if ((xi.toUInt32 >>> ((16 : Int32) &&& 31).toUInt32).toInt32) < (4 : Int32) then ((15 : Int32) - ((((xi.toUInt32 >>> ((16 : Int32) &&& 31).toUInt32).toInt32).toUInt32 >>> ((1 : Int32) &&& 31).toUInt32).toInt32)) else ((13 : Int32) - ((((((xi.toUInt32 >>> ((16 : Int32) &&& 31).toUInt32).toInt32).toUInt32 >>> ((2 : Int32) &&& 31).toUInt32).toInt32).toUInt32 >>> ((1 : Int32) &&& 31).toUInt32).toInt32))) → ∀ (f : JFrame) (acts : List Action), f.method = m → f.locked = none → f.entered = [] → (doReturn e (s₁.setTop f) acts (some (.int v1))).1 = s₁.setFrames fs := fun v1 hv1 => k v1 (hv1.trans (if_pos hc12).symm)
            show Steps p.tables e below (s₁.setTop (mkF m 61 #[.val (.int ((xi.toUInt32 >>> ((16 : Int32) &&& 31).toUInt32).toInt32)), .val (.int (15 : Int32))] [])) _
            refine XS.iloadN X0.here hx rfl (hb hby d6_61) rfl ?_
            show Steps p.tables e below (s₁.setTop (mkF m 62 #[.val (.int ((xi.toUInt32 >>> ((16 : Int32) &&& 31).toUInt32).toInt32)), .val (.int (15 : Int32))] [(.int ((xi.toUInt32 >>> ((16 : Int32) &&& 31).toUInt32).toInt32))])) _
            refine XS.iconst X0.here hx rfl (hb hby d6_62) ?_
            show Steps p.tables e below (s₁.setTop (mkF m 63 #[.val (.int ((xi.toUInt32 >>> ((16 : Int32) &&& 31).toUInt32).toInt32)), .val (.int (15 : Int32))] [(.int (4 : Int32)), (.int ((xi.toUInt32 >>> ((16 : Int32) &&& 31).toUInt32).toInt32))])) _
            by_cases hc13 : ((xi.toUInt32 >>> ((16 : Int32) &&& 31).toUInt32).toInt32) < (4 : Int32)
            · refine XS.icmpYes X0.here hx rfl (pc0 := 63) (pc' := 73) rfl (hb hby d6_63) rfl (tlt hc13).1 (by decide) (by decide) ?_
              have k : ∀ (v1 : Int32), v1 = ((15 : Int32) - ((((xi.toUInt32 >>> ((16 : Int32) &&& 31).toUInt32).toInt32).toUInt32 >>> ((1 : Int32) &&& 31).toUInt32).toInt32)) → ∀ (f : JFrame) (acts : List Action), f.method = m → f.locked = none → f.entered = [] → (doReturn e (s₁.setTop f) acts (some (.int v1))).1 = s₁.setFrames fs := fun v1 hv1 => k v1 (hv1.trans (if_pos hc13).symm)
              show Steps p.tables e below (s₁.setTop (mkF m 73 #[.val (.int ((xi.toUInt32 >>> ((16 : Int32) &&& 31).toUInt32).toInt32)), .val (.int (15 : Int32))] [])) _
              refine XS.iloadN X0.here hx rfl (hb hby d6_73) rfl ?_
              show Steps p.tables e below (s₁.setTop (mkF m 74 #[.val (.int ((xi.toUInt32 >>> ((16 : Int32) &&& 31).toUInt32).toInt32)), .val (.int (15 : Int32))] [(.int (15 : Int32))])) _
              refine XS.iloadN X0.here hx rfl (hb hby d6_74) rfl ?_
              show Steps p.tables e below (s₁.setTop (mkF m 75 #[.val (.int ((xi.toUInt32 >>> ((16 : Int32) &&& 31).toUInt32).toInt32)), .val (.int (15 : Int32))] [(.int ((xi.toUInt32 >>> ((16 : Int32) &&& 31).toUInt32).toInt32)), (.int (15 : Int32))])) _
              refine XS.iconst X0.here hx rfl (hb hby d6_75) ?_
              show Steps p.tables e below (s₁.setTop (mkF m 76 #[.val (.int ((xi.toUInt32 >>> ((16 : Int32) &&& 31).toUInt32).toInt32)), .val (.int (15 : Int32))] [(.int (1 : Int32)), (.int ((xi.toUInt32 >>> ((16 : Int32) &&& 31).toUInt32).toInt32)), (.int (15 : Int32))])) _
              refine XS.iushr X0.here hx rfl (hb hby d6_76) rfl ?_
              show Steps p.tables e below (s₁.setTop (mkF m 77 #[.val (.int ((xi.toUInt32 >>> ((16 : Int32) &&& 31).toUInt32).toInt32)), .val (.int (15 : Int32))] [(.int ((((xi.toUInt32 >>> ((16 : Int32) &&& 31).toUInt32).toInt32).toUInt32 >>> ((1 : Int32) &&& 31).toUInt32).toInt32)), (.int (15 : Int32))])) _
              refine XS.isub X0.here hx rfl (hb hby d6_77) rfl ?_
              show Steps p.tables e below (s₁.setTop (mkF m 78 #[.val (.int ((xi.toUInt32 >>> ((16 : Int32) &&& 31).toUInt32).toInt32)), .val (.int (15 : Int32))] [(.int ((15 : Int32) - ((((xi.toUInt32 >>> ((16 : Int32) &&& 31).toUInt32).toInt32).toUInt32 >>> ((1 : Int32) &&& 31).toUInt32).toInt32)))])) _
              exact retI X0 hx Bd.returns (hb hby d6_78) (k _ rfl)
            · refine XS.icmpNo X0.here hx rfl (hb hby d6_63) rfl (flt hc13).1 ?_
              have k : ∀ (v1 : Int32), v1 = ((13 : Int32) - ((((((xi.toUInt32 >>> ((16 : Int32) &&& 31).toUInt32).toInt32).toUInt32 >>> ((2 : Int32) &&& 31).toUInt32).toInt32).toUInt32 >>> ((1 : Int32) &&& 31).toUInt32).toInt32)) → ∀ (f : JFrame) (acts : List Action), f.method = m → f.locked = none → f.entered = [] → (doReturn e (s₁.setTop f) acts (some (.int v1))).1 = s₁.setFrames fs := fun v1 hv1 => k v1 (hv1.trans (if_neg hc13).symm)
              show Steps p.tables e below (s₁.setTop (mkF m 66 #[.val (.int ((xi.toUInt32 >>> ((16 : Int32) &&& 31).toUInt32).toInt32)), .val (.int (15 : Int32))] [])) _
              refine XS.iinc X0.here hx rfl (hb hby d6_66) rfl (l' := #[.val (.int ((xi.toUInt32 >>> ((16 : Int32) &&& 31).toUInt32).toInt32)), .val (.int (13 : Int32))]) rfl ?_
              show Steps p.tables e below (s₁.setTop (mkF m 69 #[.val (.int ((xi.toUInt32 >>> ((16 : Int32) &&& 31).toUInt32).toInt32)), .val (.int (13 : Int32))] [])) _
              refine XS.iloadN X0.here hx rfl (hb hby d6_69) rfl ?_
              show Steps p.tables e below (s₁.setTop (mkF m 70 #[.val (.int ((xi.toUInt32 >>> ((16 : Int32) &&& 31).toUInt32).toInt32)), .val (.int (13 : Int32))] [(.int ((xi.toUInt32 >>> ((16 : Int32) &&& 31).toUInt32).toInt32))])) _
              refine XS.iconst X0.here hx rfl (hb hby d6_70) ?_
              show Steps p.tables e below (s₁.setTop (mkF m 71 #[.val (.int ((xi.toUInt32 >>> ((16 : Int32) &&& 31).toUInt32).toInt32)), .val (.int (13 : Int32))] [(.int (2 : Int32)), (.int ((xi.toUInt32 >>> ((16 : Int32) &&& 31).toUInt32).toInt32))])) _
              refine XS.iushr X0.here hx rfl (hb hby d6_71) rfl ?_
              show Steps p.tables e below (s₁.setTop (mkF m 72 #[.val (.int ((xi.toUInt32 >>> ((16 : Int32) &&& 31).toUInt32).toInt32)), .val (.int (13 : Int32))] [(.int ((((xi.toUInt32 >>> ((16 : Int32) &&& 31).toUInt32).toInt32).toUInt32 >>> ((2 : Int32) &&& 31).toUInt32).toInt32))])) _
              refine XS.istoreN X0.here hx rfl (hb hby d6_72) rfl (l' := #[.val (.int ((((xi.toUInt32 >>> ((16 : Int32) &&& 31).toUInt32).toInt32).toUInt32 >>> ((2 : Int32) &&& 31).toUInt32).toInt32)), .val (.int (13 : Int32))]) rfl ?_
              show Steps p.tables e below (s₁.setTop (mkF m 73 #[.val (.int ((((xi.toUInt32 >>> ((16 : Int32) &&& 31).toUInt32).toInt32).toUInt32 >>> ((2 : Int32) &&& 31).toUInt32).toInt32)), .val (.int (13 : Int32))] [])) _
              refine XS.iloadN X0.here hx rfl (hb hby d6_73) rfl ?_
              show Steps p.tables e below (s₁.setTop (mkF m 74 #[.val (.int ((((xi.toUInt32 >>> ((16 : Int32) &&& 31).toUInt32).toInt32).toUInt32 >>> ((2 : Int32) &&& 31).toUInt32).toInt32)), .val (.int (13 : Int32))] [(.int (13 : Int32))])) _
              refine XS.iloadN X0.here hx rfl (hb hby d6_74) rfl ?_
              show Steps p.tables e below (s₁.setTop (mkF m 75 #[.val (.int ((((xi.toUInt32 >>> ((16 : Int32) &&& 31).toUInt32).toInt32).toUInt32 >>> ((2 : Int32) &&& 31).toUInt32).toInt32)), .val (.int (13 : Int32))] [(.int ((((xi.toUInt32 >>> ((16 : Int32) &&& 31).toUInt32).toInt32).toUInt32 >>> ((2 : Int32) &&& 31).toUInt32).toInt32)), (.int (13 : Int32))])) _
              refine XS.iconst X0.here hx rfl (hb hby d6_75) ?_
              show Steps p.tables e below (s₁.setTop (mkF m 76 #[.val (.int ((((xi.toUInt32 >>> ((16 : Int32) &&& 31).toUInt32).toInt32).toUInt32 >>> ((2 : Int32) &&& 31).toUInt32).toInt32)), .val (.int (13 : Int32))] [(.int (1 : Int32)), (.int ((((xi.toUInt32 >>> ((16 : Int32) &&& 31).toUInt32).toInt32).toUInt32 >>> ((2 : Int32) &&& 31).toUInt32).toInt32)), (.int (13 : Int32))])) _
              refine XS.iushr X0.here hx rfl (hb hby d6_76) rfl ?_
              show Steps p.tables e below (s₁.setTop (mkF m 77 #[.val (.int ((((xi.toUInt32 >>> ((16 : Int32) &&& 31).toUInt32).toInt32).toUInt32 >>> ((2 : Int32) &&& 31).toUInt32).toInt32)), .val (.int (13 : Int32))] [(.int ((((((xi.toUInt32 >>> ((16 : Int32) &&& 31).toUInt32).toInt32).toUInt32 >>> ((2 : Int32) &&& 31).toUInt32).toInt32).toUInt32 >>> ((1 : Int32) &&& 31).toUInt32).toInt32)), (.int (13 : Int32))])) _
              refine XS.isub X0.here hx rfl (hb hby d6_77) rfl ?_
              show Steps p.tables e below (s₁.setTop (mkF m 78 #[.val (.int ((((xi.toUInt32 >>> ((16 : Int32) &&& 31).toUInt32).toInt32).toUInt32 >>> ((2 : Int32) &&& 31).toUInt32).toInt32)), .val (.int (13 : Int32))] [(.int ((13 : Int32) - ((((((xi.toUInt32 >>> ((16 : Int32) &&& 31).toUInt32).toInt32).toUInt32 >>> ((2 : Int32) &&& 31).toUInt32).toInt32).toUInt32 >>> ((1 : Int32) &&& 31).toUInt32).toInt32)))])) _
              exact retI X0 hx Bd.returns (hb hby d6_78) (k _ rfl)
          · refine XS.icmpNo X0.here hx rfl (hb hby d6_51) rfl (flt hc12).1 ?_
            have k : ∀ (v1 : Int32), v1 = (if ((((xi.toUInt32 >>> ((16 : Int32) &&& 31).toUInt32).toInt32).toUInt32 >>> ((4 : Int32) &&& 31).toUInt32).toInt32) < (4 : Int32) then ((11 : Int32) - ((((((xi.toUInt32 >>> ((16 : Int32) &&& 31).toUInt32).toInt32).toUInt32 >>> ((4 : Int32) &&& 31).toUInt32).toInt32).toUInt32 >>> ((1 : Int32) &&& 31).toUInt32).toInt32)) else ((9 : Int32) - ((((((((xi.toUInt32 >>> ((16 : Int32) &&& 31).toUInt32).toInt32).toUInt32 >>> ((4 : Int32) &&& 31).toUInt32).toInt32).toUInt32 >>> ((2 : Int32) &&& 31).toUInt32).toInt32).toUInt32 >>> ((1 : Int32) &&& 31).toUInt32).toInt32))) → ∀ (f : JFrame) (acts : List Action), f.method = m → f.locked = none → f.entered = [] → (doReturn e (s₁.setTop f) acts (some (.int v1))).1 = s₁.setFrames fs := fun v1 hv1 => k v1 (hv1.trans (if_neg hc12).symm)
            show Steps p.tables e below (s₁.setTop (mkF m 54 #[.val (.int ((xi.toUInt32 >>> ((16 : Int32) &&& 31).toUInt32).toInt32)), .val (.int (15 : Int32))] [])) _
            refine XS.iinc X0.here hx rfl (hb hby d6_54) rfl (l' := #[.val (.int ((xi.toUInt32 >>> ((16 : Int32) &&& 31).toUInt32).toInt32)), .val (.int (11 : Int32))]) rfl ?_
            show Steps p.tables e below (s₁.setTop (mkF m 57 #[.val (.int ((xi.toUInt32 >>> ((16 : Int32) &&& 31).toUInt32).toInt32)), .val (.int (11 : Int32))] [])) _
            refine XS.iloadN X0.here hx rfl (hb hby d6_57) rfl ?_
            show Steps p.tables e below (s₁.setTop (mkF m 58 #[.val (.int ((xi.toUInt32 >>> ((16 : Int32) &&& 31).toUInt32).toInt32)), .val (.int (11 : Int32))] [(.int ((xi.toUInt32 >>> ((16 : Int32) &&& 31).toUInt32).toInt32))])) _
            refine XS.iconst X0.here hx rfl (hb hby d6_58) ?_
            show Steps p.tables e below (s₁.setTop (mkF m 59 #[.val (.int ((xi.toUInt32 >>> ((16 : Int32) &&& 31).toUInt32).toInt32)), .val (.int (11 : Int32))] [(.int (4 : Int32)), (.int ((xi.toUInt32 >>> ((16 : Int32) &&& 31).toUInt32).toInt32))])) _
            refine XS.iushr X0.here hx rfl (hb hby d6_59) rfl ?_
            show Steps p.tables e below (s₁.setTop (mkF m 60 #[.val (.int ((xi.toUInt32 >>> ((16 : Int32) &&& 31).toUInt32).toInt32)), .val (.int (11 : Int32))] [(.int ((((xi.toUInt32 >>> ((16 : Int32) &&& 31).toUInt32).toInt32).toUInt32 >>> ((4 : Int32) &&& 31).toUInt32).toInt32))])) _
            refine XS.istoreN X0.here hx rfl (hb hby d6_60) rfl (l' := #[.val (.int ((((xi.toUInt32 >>> ((16 : Int32) &&& 31).toUInt32).toInt32).toUInt32 >>> ((4 : Int32) &&& 31).toUInt32).toInt32)), .val (.int (11 : Int32))]) rfl ?_
            show Steps p.tables e below (s₁.setTop (mkF m 61 #[.val (.int ((((xi.toUInt32 >>> ((16 : Int32) &&& 31).toUInt32).toInt32).toUInt32 >>> ((4 : Int32) &&& 31).toUInt32).toInt32)), .val (.int (11 : Int32))] [])) _
            refine XS.iloadN X0.here hx rfl (hb hby d6_61) rfl ?_
            show Steps p.tables e below (s₁.setTop (mkF m 62 #[.val (.int ((((xi.toUInt32 >>> ((16 : Int32) &&& 31).toUInt32).toInt32).toUInt32 >>> ((4 : Int32) &&& 31).toUInt32).toInt32)), .val (.int (11 : Int32))] [(.int ((((xi.toUInt32 >>> ((16 : Int32) &&& 31).toUInt32).toInt32).toUInt32 >>> ((4 : Int32) &&& 31).toUInt32).toInt32))])) _
            refine XS.iconst X0.here hx rfl (hb hby d6_62) ?_
            show Steps p.tables e below (s₁.setTop (mkF m 63 #[.val (.int ((((xi.toUInt32 >>> ((16 : Int32) &&& 31).toUInt32).toInt32).toUInt32 >>> ((4 : Int32) &&& 31).toUInt32).toInt32)), .val (.int (11 : Int32))] [(.int (4 : Int32)), (.int ((((xi.toUInt32 >>> ((16 : Int32) &&& 31).toUInt32).toInt32).toUInt32 >>> ((4 : Int32) &&& 31).toUInt32).toInt32))])) _
            by_cases hc14 : ((((xi.toUInt32 >>> ((16 : Int32) &&& 31).toUInt32).toInt32).toUInt32 >>> ((4 : Int32) &&& 31).toUInt32).toInt32) < (4 : Int32)
            · refine XS.icmpYes X0.here hx rfl (pc0 := 63) (pc' := 73) rfl (hb hby d6_63) rfl (tlt hc14).1 (by decide) (by decide) ?_
              have k : ∀ (v1 : Int32), v1 = ((11 : Int32) - ((((((xi.toUInt32 >>> ((16 : Int32) &&& 31).toUInt32).toInt32).toUInt32 >>> ((4 : Int32) &&& 31).toUInt32).toInt32).toUInt32 >>> ((1 : Int32) &&& 31).toUInt32).toInt32)) → ∀ (f : JFrame) (acts : List Action), f.method = m → f.locked = none → f.entered = [] → (doReturn e (s₁.setTop f) acts (some (.int v1))).1 = s₁.setFrames fs := fun v1 hv1 => k v1 (hv1.trans (if_pos hc14).symm)
              show Steps p.tables e below (s₁.setTop (mkF m 73 #[.val (.int ((((xi.toUInt32 >>> ((16 : Int32) &&& 31).toUInt32).toInt32).toUInt32 >>> ((4 : Int32) &&& 31).toUInt32).toInt32)), .val (.int (11 : Int32))] [])) _
              refine XS.iloadN X0.here hx rfl (hb hby d6_73) rfl ?_
              show Steps p.tables e below (s₁.setTop (mkF m 74 #[.val (.int ((((xi.toUInt32 >>> ((16 : Int32) &&& 31).toUInt32).toInt32).toUInt32 >>> ((4 : Int32) &&& 31).toUInt32).toInt32)), .val (.int (11 : Int32))] [(.int (11 : Int32))])) _
              refine XS.iloadN X0.here hx rfl (hb hby d6_74) rfl ?_
              show Steps p.tables e below (s₁.setTop (mkF m 75 #[.val (.int ((((xi.toUInt32 >>> ((16 : Int32) &&& 31).toUInt32).toInt32).toUInt32 >>> ((4 : Int32) &&& 31).toUInt32).toInt32)), .val (.int (11 : Int32))] [(.int ((((xi.toUInt32 >>> ((16 : Int32) &&& 31).toUInt32).toInt32).toUInt32 >>> ((4 : Int32) &&& 31).toUInt32).toInt32)), (.int (11 : Int32))])) _
              refine XS.iconst X0.here hx rfl (hb hby d6_75) ?_
              show Steps p.tables e below (s₁.setTop (mkF m 76 #[.val (.int ((((xi.toUInt32 >>> ((16 : Int32) &&& 31).toUInt32).toInt32).toUInt32 >>> ((4 : Int32) &&& 31).toUInt32).toInt32)), .val (.int (11 : Int32))] [(.int (1 : Int32)), (.int ((((xi.toUInt32 >>> ((16 : Int32) &&& 31).toUInt32).toInt32).toUInt32 >>> ((4 : Int32) &&& 31).toUInt32).toInt32)), (.int (11 : Int32))])) _
              refine XS.iushr X0.here hx rfl (hb hby d6_76) rfl ?_
              show Steps p.tables e below (s₁.setTop (mkF m 77 #[.val (.int ((((xi.toUInt32 >>> ((16 : Int32) &&& 31).toUInt32).toInt32).toUInt32 >>> ((4 : Int32) &&& 31).toUInt32).toInt32)), .val (.int (11 : Int32))] [(.int ((((((xi.toUInt32 >>> ((16 : Int32) &&& 31).toUInt32).toInt32).toUInt32 >>> ((4 : Int32) &&& 31).toUInt32).toInt32).toUInt32 >>> ((1 : Int32) &&& 31).toUInt32).toInt32)), (.int (11 : Int32))])) _
              refine XS.isub X0.here hx rfl (hb hby d6_77) rfl ?_
              show Steps p.tables e below (s₁.setTop (mkF m 78 #[.val (.int ((((xi.toUInt32 >>> ((16 : Int32) &&& 31).toUInt32).toInt32).toUInt32 >>> ((4 : Int32) &&& 31).toUInt32).toInt32)), .val (.int (11 : Int32))] [(.int ((11 : Int32) - ((((((xi.toUInt32 >>> ((16 : Int32) &&& 31).toUInt32).toInt32).toUInt32 >>> ((4 : Int32) &&& 31).toUInt32).toInt32).toUInt32 >>> ((1 : Int32) &&& 31).toUInt32).toInt32)))])) _
              exact retI X0 hx Bd.returns (hb hby d6_78) (k _ rfl)
            · refine XS.icmpNo X0.here hx rfl (hb hby d6_63) rfl (flt hc14).1 ?_
              have k : ∀ (v1 : Int32), v1 = ((9 : Int32) - ((((((((xi.toUInt32 >>> ((16 : Int32) &&& 31).toUInt32).toInt32).toUInt32 >>> ((4 : Int32) &&& 31).toUInt32).toInt32).toUInt32 >>> ((2 : Int32) &&& 31).toUInt32).toInt32).toUInt32 >>> ((1 : Int32) &&& 31).toUInt32).toInt32)) → ∀ (f : JFrame) (acts : List Action), f.method = m → f.locked = none → f.entered = [] → (doReturn e (s₁.setTop f) acts (some (.int v1))).1 = s₁.setFrames fs := fun v1 hv1 => k v1 (hv1.trans (if_neg hc14).symm)
              show Steps p.tables e below (s₁.setTop (mkF m 66 #[.val (.int ((((xi.toUInt32 >>> ((16 : Int32) &&& 31).toUInt32).toInt32).toUInt32 >>> ((4 : Int32) &&& 31).toUInt32).toInt32)), .val (.int (11 : Int32))] [])) _
              refine XS.iinc X0.here hx rfl (hb hby d6_66) rfl (l' := #[.val (.int ((((xi.toUInt32 >>> ((16 : Int32) &&& 31).toUInt32).toInt32).toUInt32 >>> ((4 : Int32) &&& 31).toUInt32).toInt32)), .val (.int (9 : Int32))]) rfl ?_
              show Steps p.tables e below (s₁.setTop (mkF m 69 #[.val (.int ((((xi.toUInt32 >>> ((16 : Int32) &&& 31).toUInt32).toInt32).toUInt32 >>> ((4 : Int32) &&& 31).toUInt32).toInt32)), .val (.int (9 : Int32))] [])) _
              refine XS.iloadN X0.here hx rfl (hb hby d6_69) rfl ?_
              show Steps p.tables e below (s₁.setTop (mkF m 70 #[.val (.int ((((xi.toUInt32 >>> ((16 : Int32) &&& 31).toUInt32).toInt32).toUInt32 >>> ((4 : Int32) &&& 31).toUInt32).toInt32)), .val (.int (9 : Int32))] [(.int ((((xi.toUInt32 >>> ((16 : Int32) &&& 31).toUInt32).toInt32).toUInt32 >>> ((4 : Int32) &&& 31).toUInt32).toInt32))])) _
              refine XS.iconst X0.here hx rfl (hb hby d6_70) ?_
              show Steps p.tables e below (s₁.setTop (mkF m 71 #[.val (.int ((((xi.toUInt32 >>> ((16 : Int32) &&& 31).toUInt32).toInt32).toUInt32 >>> ((4 : Int32) &&& 31).toUInt32).toInt32)), .val (.int (9 : Int32))] [(.int (2 : Int32)), (.int ((((xi.toUInt32 >>> ((16 : Int32) &&& 31).toUInt32).toInt32).toUInt32 >>> ((4 : Int32) &&& 31).toUInt32).toInt32))])) _
              refine XS.iushr X0.here hx rfl (hb hby d6_71) rfl ?_
              show Steps p.tables e below (s₁.setTop (mkF m 72 #[.val (.int ((((xi.toUInt32 >>> ((16 : Int32) &&& 31).toUInt32).toInt32).toUInt32 >>> ((4 : Int32) &&& 31).toUInt32).toInt32)), .val (.int (9 : Int32))] [(.int ((((((xi.toUInt32 >>> ((16 : Int32) &&& 31).toUInt32).toInt32).toUInt32 >>> ((4 : Int32) &&& 31).toUInt32).toInt32).toUInt32 >>> ((2 : Int32) &&& 31).toUInt32).toInt32))])) _
              refine XS.istoreN X0.here hx rfl (hb hby d6_72) rfl (l' := #[.val (.int ((((((xi.toUInt32 >>> ((16 : Int32) &&& 31).toUInt32).toInt32).toUInt32 >>> ((4 : Int32) &&& 31).toUInt32).toInt32).toUInt32 >>> ((2 : Int32) &&& 31).toUInt32).toInt32)), .val (.int (9 : Int32))]) rfl ?_
              show Steps p.tables e below (s₁.setTop (mkF m 73 #[.val (.int ((((((xi.toUInt32 >>> ((16 : Int32) &&& 31).toUInt32).toInt32).toUInt32 >>> ((4 : Int32) &&& 31).toUInt32).toInt32).toUInt32 >>> ((2 : Int32) &&& 31).toUInt32).toInt32)), .val (.int (9 : Int32))] [])) _
              refine XS.iloadN X0.here hx rfl (hb hby d6_73) rfl ?_
              show Steps p.tables e below (s₁.setTop (mkF m 74 #[.val (.int ((((((xi.toUInt32 >>> ((16 : Int32) &&& 31).toUInt32).toInt32).toUInt32 >>> ((4 : Int32) &&& 31).toUInt32).toInt32).toUInt32 >>> ((2 : Int32) &&& 31).toUInt32).toInt32)), .val (.int (9 : Int32))] [(.int (9 : Int32))])) _
              refine XS.iloadN X0.here hx rfl (hb hby d6_74) rfl ?_
              show Steps p.tables e below (s₁.setTop (mkF m 75 #[.val (.int ((((((xi.toUInt32 >>> ((16 : Int32) &&& 31).toUInt32).toInt32).toUInt32 >>> ((4 : Int32) &&& 31).toUInt32).toInt32).toUInt32 >>> ((2 : Int32) &&& 31).toUInt32).toInt32)), .val (.int (9 : Int32))] [(.int ((((((xi.toUInt32 >>> ((16 : Int32) &&& 31).toUInt32).toInt32).toUInt32 >>> ((4 : Int32) &&& 31).toUInt32).toInt32).toUInt32 >>> ((2 : Int32) &&& 31).toUInt32).toInt32)), (.int (9 : Int32))])) _
              refine XS.iconst X0.here hx rfl (hb hby d6_75) ?_
              show Steps p.tables e below (s₁.setTop (mkF m 76 #[.val (.int ((((((xi.toUInt32 >>> ((16 : Int32) &&& 31).toUInt32).toInt32).toUInt32 >>> ((4 : Int32) &&& 31).toUInt32).toInt32).toUInt32 >>> ((2 : Int32) &&& 31).toUInt32).toInt32)), .val (.int (9 : Int32))] [(.int (1 : Int32)), (.int ((((((xi.toUInt32 >>> ((16 : Int32) &&& 31).toUInt32).toInt32).toUInt32 >>> ((4 : Int32) &&& 31).toUInt32).toInt32).toUInt32 >>> ((2 : Int32) &&& 31).toUInt32).toInt32)), (.int (9 : Int32))])) _
              refine XS.iushr X0.here hx rfl (hb hby d6_76) rfl ?_
              show Steps p.tables e below (s₁.setTop (mkF m 77 #[.val (.int ((((((xi.toUInt32 >>> ((16 : Int32) &&& 31).toUInt32).toInt32).toUInt32 >>> ((4 : Int32) &&& 31).toUInt32).toInt32).toUInt32 >>> ((2 : Int32) &&& 31).toUInt32).toInt32)), .val (.int (9 : Int32))] [(.int ((((((((xi.toUInt32 >>> ((16 : Int32) &&& 31).toUInt32).toInt32).toUInt32 >>> ((4 : Int32) &&& 31).toUInt32).toInt32).toUInt32 >>> ((2 : Int32) &&& 31).toUInt32).toInt32).toUInt32 >>> ((1 : Int32) &&& 31).toUInt32).toInt32)), (.int (9 : Int32))])) _
              refine XS.isub X0.here hx rfl (hb hby d6_77) rfl ?_
              show Steps p.tables e below (s₁.setTop (mkF m 78 #[.val (.int ((((((xi.toUInt32 >>> ((16 : Int32) &&& 31).toUInt32).toInt32).toUInt32 >>> ((4 : Int32) &&& 31).toUInt32).toInt32).toUInt32 >>> ((2 : Int32) &&& 31).toUInt32).toInt32)), .val (.int (9 : Int32))] [(.int ((9 : Int32) - ((((((((xi.toUInt32 >>> ((16 : Int32) &&& 31).toUInt32).toInt32).toUInt32 >>> ((4 : Int32) &&& 31).toUInt32).toInt32).toUInt32 >>> ((2 : Int32) &&& 31).toUInt32).toInt32).toUInt32 >>> ((1 : Int32) &&& 31).toUInt32).toInt32)))])) _
              exact retI X0 hx Bd.returns (hb hby d6_78) (k _ rfl)
        · refine XS.icmpNo X0.here hx rfl (hb hby d6_37) rfl (flt hc11).1 ?_
          have k : ∀ (v1 : Int32), v1 = (if ((((xi.toUInt32 >>> ((16 : Int32) &&& 31).toUInt32).toInt32).toUInt32 >>> ((8 : Int32) &&& 31).toUInt32).toInt32) < (16 : Int32) then (if ((((xi.toUInt32 >>> ((16 : Int32) &&& 31).toUInt32).toInt32).toUInt32 >>> ((8 : Int32) &&& 31).toUInt32).toInt32) < (4 : Int32) then ((7 : Int32) - ((((((xi.toUInt32 >>> ((16 : Int32) &&& 31).toUInt32).toInt32).toUInt32 >>> ((8 : Int32) &&& 31).toUInt32).toInt32).toUInt32 >>> ((1 : Int32) &&& 31).toUInt32).toInt32)) else ((5 : Int32) - ((((((((xi.toUInt32 >>> ((16 : Int32) &&& 31).toUInt32).toInt32).toUInt32 >>> ((8 : Int32) &&& 31).toUInt32).toInt32).toUInt32 >>> ((2 : Int32) &&& 31).toUInt32).toInt32).toUInt32 >>> ((1 : Int32) &&& 31).toUInt32).toInt32))) else (if ((((((xi.toUInt32 >>> ((16 : Int32) &&& 31).toUInt32).toInt32).toUInt32 >>> ((8 : Int32) &&& 31).toUInt32).toInt32).toUInt32 >>> ((4 : Int32) &&& 31).toUInt32).toInt32) < (4 : Int32) then ((3 : Int32) - ((((((((xi.toUInt32 >>> ((16 : Int32) &&& 31).toUInt32).toInt32).toUInt32 >>> ((8 : Int32) &&& 31).toUInt32).toInt32).toUInt32 >>> ((4 : Int32) &&& 31).toUInt32).toInt32).toUInt32 >>> ((1 : Int32) &&& 31).toUInt32).toInt32)) else ((1 : Int32) - ((((((((((xi.toUInt32 >>> ((16 : Int32) &&& 31).toUInt32).toInt32).toUInt32 >>> ((8 : Int32) &&& 31).toUInt32).toInt32).toUInt32 >>> ((4 : Int32) &&& 31).toUInt32).toInt32).toUInt32 >>> ((2 : Int32) &&& 31).toUInt32).toInt32).toUInt32 >>> ((1 : Int32) &&& 31).toUInt32).toInt32)))) → ∀ (f : JFrame) (acts : List Action), f.method = m → f.locked = none → f.entered = [] → (doReturn e (s₁.setTop f) acts (some (.int v1))).1 = s₁.setFrames fs := fun v1 hv1 => k v1 (hv1.trans (if_neg hc11).symm)
          show Steps p.tables e below (s₁.setTop (mkF m 40 #[.val (.int ((xi.toUInt32 >>> ((16 : Int32) &&& 31).toUInt32).toInt32)), .val (.int (15 : Int32))] [])) _
          refine XS.iinc X0.here hx rfl (hb hby d6_40) rfl (l' := #[.val (.int ((xi.toUInt32 >>> ((16 : Int32) &&& 31).toUInt32).toInt32)), .val (.int (7 : Int32))]) rfl ?_
          show Steps p.tables e below (s₁.setTop (mkF m 43 #[.val (.int ((xi.toUInt32 >>> ((16 : Int32) &&& 31).toUInt32).toInt32)), .val (.int (7 : Int32))] [])) _
          refine XS.iloadN X0.here hx rfl (hb hby d6_43) rfl ?_
          show Steps p.tables e below (s₁.setTop (mkF m 44 #[.val (.int ((xi.toUInt32 >>> ((16 : Int32) &&& 31).toUInt32).toInt32)), .val (.int (7 : Int32))] [(.int ((xi.toUInt32 >>> ((16 : Int32) &&& 31).toUInt32).toInt32))])) _
          refine XS.bipush X0.here hx rfl (hb hby d6_44) ?_
          show Steps p.tables e below (s₁.setTop (mkF m 46 #[.val (.int ((xi.toUInt32 >>> ((16 : Int32) &&& 31).toUInt32).toInt32)), .val (.int (7 : Int32))] [(.int (8 : Int32)), (.int ((xi.toUInt32 >>> ((16 : Int32) &&& 31).toUInt32).toInt32))])) _
          refine XS.iushr X0.here hx rfl (hb hby d6_46) rfl ?_
          show Steps p.tables e below (s₁.setTop (mkF m 47 #[.val (.int ((xi.toUInt32 >>> ((16 : Int32) &&& 31).toUInt32).toInt32)), .val (.int (7 : Int32))] [(.int ((((xi.toUInt32 >>> ((16 : Int32) &&& 31).toUInt32).toInt32).toUInt32 >>> ((8 : Int32) &&& 31).toUInt32).toInt32))])) _
          refine XS.istoreN X0.here hx rfl (hb hby d6_47) rfl (l' := #[.val (.int ((((xi.toUInt32 >>> ((16 : Int32) &&& 31).toUInt32).toInt32).toUInt32 >>> ((8 : Int32) &&& 31).toUInt32).toInt32)), .val (.int (7 : Int32))]) rfl ?_
          show Steps p.tables e below (s₁.setTop (mkF m 48 #[.val (.int ((((xi.toUInt32 >>> ((16 : Int32) &&& 31).toUInt32).toInt32).toUInt32 >>> ((8 : Int32) &&& 31).toUInt32).toInt32)), .val (.int (7 : Int32))] [])) _
          refine XS.iloadN X0.here hx rfl (hb hby d6_48) rfl ?_
          show Steps p.tables e below (s₁.setTop (mkF m 49 #[.val (.int ((((xi.toUInt32 >>> ((16 : Int32) &&& 31).toUInt32).toInt32).toUInt32 >>> ((8 : Int32) &&& 31).toUInt32).toInt32)), .val (.int (7 : Int32))] [(.int ((((xi.toUInt32 >>> ((16 : Int32) &&& 31).toUInt32).toInt32).toUInt32 >>> ((8 : Int32) &&& 31).toUInt32).toInt32))])) _
          refine XS.bipush X0.here hx rfl (hb hby d6_49) ?_
          show Steps p.tables e below (s₁.setTop (mkF m 51 #[.val (.int ((((xi.toUInt32 >>> ((16 : Int32) &&& 31).toUInt32).toInt32).toUInt32 >>> ((8 : Int32) &&& 31).toUInt32).toInt32)), .val (.int (7 : Int32))] [(.int (16 : Int32)), (.int ((((xi.toUInt32 >>> ((16 : Int32) &&& 31).toUInt32).toInt32).toUInt32 >>> ((8 : Int32) &&& 31).toUInt32).toInt32))])) _
          by_cases hc15 : ((((xi.toUInt32 >>> ((16 : Int32) &&& 31).toUInt32).toInt32).toUInt32 >>> ((8 : Int32) &&& 31).toUInt32).toInt32) < (16 : Int32)
          · refine XS.icmpYes X0.here hx rfl (pc0 := 51) (pc' := 61) rfl (hb hby d6_51) rfl (tlt hc15).1 (by decide) (by decide) ?_
            have k : ∀ (v1 : Int32), v1 = (if ((((xi.toUInt32 >>> ((16 : Int32) &&& 31).toUInt32).toInt32).toUInt32 >>> ((8 : Int32) &&& 31).toUInt32).toInt32) < (4 : Int32) then ((7 : Int32) - ((((((xi.toUInt32 >>> ((16 : Int32) &&& 31).toUInt32).toInt32).toUInt32 >>> ((8 : Int32) &&& 31).toUInt32).toInt32).toUInt32 >>> ((1 : Int32) &&& 31).toUInt32).toInt32)) else ((5 : Int32) - ((((((((xi.toUInt32 >>> ((16 : Int32) &&& 31).toUInt32).toInt32).toUInt32 >>> ((8 : Int32) &&& 31).toUInt32).toInt32).toUInt32 >>> ((2 : Int32) &&& 31).toUInt32).toInt32).toUInt32 >>> ((1 : Int32) &&& 31).toUInt32).toInt32))) → ∀ (f : JFrame) (acts : List Action), f.method = m → f.locked = none → f.entered = [] → (doReturn e (s₁.setTop f) acts (some (.int v1))).1 = s₁.setFrames fs := fun v1 hv1 => k v1 (hv1.trans (if_pos hc15).symm)
            show Steps p.tables e below (s₁.setTop (mkF m 61 #[.val (.int ((((xi.toUInt32 >>> ((16 : Int32) &&& 31).toUInt32).toInt32).toUInt32 >>> ((8 : Int32) &&& 31).toUInt32).toInt32)), .val (.int (7 : Int32))] [])) _
            refine XS.iloadN X0.here hx rfl (hb hby d6_61) rfl ?_
            show Steps p.tables e below (s₁.setTop (mkF m 62 #[.val (.int ((((xi.toUInt32 >>> ((16 : Int32) &&& 31).toUInt32).toInt32).toUInt32 >>> ((8 : Int32) &&& 31).toUInt32).toInt32)), .val (.int (7 : Int32))] [(.int ((((xi.toUInt32 >>> ((16 : Int32) &&& 31).toUInt32).toInt32).toUInt32 >>> ((8 : Int32) &&& 31).toUInt32).toInt32))])) _
            refine XS.iconst X0.here hx rfl (hb hby d6_62) ?_
            show Steps p.tables e below (s₁.setTop (mkF m 63 #[.val (.int ((((xi.toUInt32 >>> ((16 : Int32) &&& 31).toUInt32).toInt32).toUInt32 >>> ((8 : Int32) &&& 31).toUInt32).toInt32)), .val (.int (7 : Int32))] [(.int (4 : Int32)), (.int ((((xi.toUInt32 >>> ((16 : Int32) &&& 31).toUInt32).toInt32).toUInt32 >>> ((8 : Int32) &&& 31).toUInt32).toInt32))])) _
            by_cases hc16 : ((((xi.toUInt32 >>> ((16 : Int32) &&& 31).toUInt32).toInt32).toUInt32 >>> ((8 : Int32) &&& 31).toUInt32).toInt32) < (4 : Int32)
            · refine XS.icmpYes X0.here hx rfl (pc0 := 63) (pc' := 73) rfl (hb hby d6_63) rfl (tlt hc16).1 (by decide) (by decide) ?_
              have k : ∀ (v1 : Int32), v1 = ((7 : Int32) - ((((((xi.toUInt32 >>> ((16 : Int32) &&& 31).toUInt32).toInt32).toUInt32 >>> ((8 : Int32) &&& 31).toUInt32).toInt32).toUInt32 >>> ((1 : Int32) &&& 31).toUInt32).toInt32)) → ∀ (f : JFrame) (acts : List Action), f.method = m → f.locked = none → f.entered = [] → (doReturn e (s₁.setTop f) acts (some (.int v1))).1 = s₁.setFrames fs := fun v1 hv1 => k v1 (hv1.trans (if_pos hc16).symm)
              show Steps p.tables e below (s₁.setTop (mkF m 73 #[.val (.int ((((xi.toUInt32 >>> ((16 : Int32) &&& 31).toUInt32).toInt32).toUInt32 >>> ((8 : Int32) &&& 31).toUInt32).toInt32)), .val (.int (7 : Int32))] [])) _
              refine XS.iloadN X0.here hx rfl (hb hby d6_73) rfl ?_
              show Steps p.tables e below (s₁.setTop (mkF m 74 #[.val (.int ((((xi.toUInt32 >>> ((16 : Int32) &&& 31).toUInt32).toInt32).toUInt32 >>> ((8 : Int32) &&& 31).toUInt32).toInt32)), .val (.int (7 : Int32))] [(.int (7 : Int32))])) _
              refine XS.iloadN X0.here hx rfl (hb hby d6_74) rfl ?_
              show Steps p.tables e below (s₁.setTop (mkF m 75 #[.val (.int ((((xi.toUInt32 >>> ((16 : Int32) &&& 31).toUInt32).toInt32).toUInt32 >>> ((8 : Int32) &&& 31).toUInt32).toInt32)), .val (.int (7 : Int32))] [(.int ((((xi.toUInt32 >>> ((16 : Int32) &&& 31).toUInt32).toInt32).toUInt32 >>> ((8 : Int32) &&& 31).toUInt32).toInt32)), (.int (7 : Int32))])) _
              refine XS.iconst X0.here hx rfl (hb hby d6_75) ?_
              show Steps p.tables e below (s₁.setTop (mkF m 76 #[.val (.int ((((xi.toUInt32 >>> ((16 : Int32) &&& 31).toUInt32).toInt32).toUInt32 >>> ((8 : Int32) &&& 31).toUInt32).toInt32)), .val (.int (7 : Int32))] [(.int (1 : Int32)), (.int ((((xi.toUInt32 >>> ((16 : Int32) &&& 31).toUInt32).toInt32).toUInt32 >>> ((8 : Int32) &&& 31).toUInt32).toInt32)), (.int (7 : Int32))])) _
              refine XS.iushr X0.here hx rfl (hb hby d6_76) rfl ?_
              show Steps p.tables e below (s₁.setTop (mkF m 77 #[.val (.int ((((xi.toUInt32 >>> ((16 : Int32) &&& 31).toUInt32).toInt32).toUInt32 >>> ((8 : Int32) &&& 31).toUInt32).toInt32)), .val (.int (7 : Int32))] [(.int ((((((xi.toUInt32 >>> ((16 : Int32) &&& 31).toUInt32).toInt32).toUInt32 >>> ((8 : Int32) &&& 31).toUInt32).toInt32).toUInt32 >>> ((1 : Int32) &&& 31).toUInt32).toInt32)), (.int (7 : Int32))])) _
              refine XS.isub X0.here hx rfl (hb hby d6_77) rfl ?_
              show Steps p.tables e below (s₁.setTop (mkF m 78 #[.val (.int ((((xi.toUInt32 >>> ((16 : Int32) &&& 31).toUInt32).toInt32).toUInt32 >>> ((8 : Int32) &&& 31).toUInt32).toInt32)), .val (.int (7 : Int32))] [(.int ((7 : Int32) - ((((((xi.toUInt32 >>> ((16 : Int32) &&& 31).toUInt32).toInt32).toUInt32 >>> ((8 : Int32) &&& 31).toUInt32).toInt32).toUInt32 >>> ((1 : Int32) &&& 31).toUInt32).toInt32)))])) _
              exact retI X0 hx Bd.returns (hb hby d6_78) (k _ rfl)
            · refine XS.icmpNo X0.here hx rfl (hb hby d6_63) rfl (flt hc16).1 ?_
              have k : ∀ (v1 : Int32), v1 = ((5 : Int32) - ((((((((xi.toUInt32 >>> ((16 : Int32) &&& 31).toUInt32).toInt32).toUInt32 >>> ((8 : Int32) &&& 31).toUInt32).toInt32).toUInt32 >>> ((2 : Int32) &&& 31).toUInt32).toInt32).toUInt32 >>> ((1 : Int32) &&& 31).toUInt32).toInt32)) → ∀ (f : JFrame) (acts : List Action), f.method = m → f.locked = none → f.entered = [] → (doReturn e (s₁.setTop f) acts (some (.int v1))).1 = s₁.setFrames fs := fun v1 hv1 => k v1 (hv1.trans (if_neg hc16).symm)
              show Steps p.tables e below (s₁.setTop (mkF m 66 #[.val (.int ((((xi.toUInt32 >>> ((16 : Int32) &&& 31).toUInt32).toInt32).toUInt32 >>> ((8 : Int32) &&& 31).toUInt32).toInt32)), .val (.int (7 : Int32))] [])) _
              refine XS.iinc X0.here hx rfl (hb hby d6_66) rfl (l' := #[.val (.int ((((xi.toUInt32 >>> ((16 : Int32) &&& 31).toUInt32).toInt32).toUInt32 >>> ((8 : Int32) &&& 31).toUInt32).toInt32)), .val (.int (5 : Int32))]) rfl ?_
              show Steps p.tables e below (s₁.setTop (mkF m 69 #[.val (.int ((((xi.toUInt32 >>> ((16 : Int32) &&& 31).toUInt32).toInt32).toUInt32 >>> ((8 : Int32) &&& 31).toUInt32).toInt32)), .val (.int (5 : Int32))] [])) _
              refine XS.iloadN X0.here hx rfl (hb hby d6_69) rfl ?_
              show Steps p.tables e below (s₁.setTop (mkF m 70 #[.val (.int ((((xi.toUInt32 >>> ((16 : Int32) &&& 31).toUInt32).toInt32).toUInt32 >>> ((8 : Int32) &&& 31).toUInt32).toInt32)), .val (.int (5 : Int32))] [(.int ((((xi.toUInt32 >>> ((16 : Int32) &&& 31).toUInt32).toInt32).toUInt32 >>> ((8 : Int32) &&& 31).toUInt32).toInt32))])) _
              refine XS.iconst X0.here hx rfl (hb hby d6_70) ?_
              show Steps p.tables e below (s₁.setTop (mkF m 71 #[.val (.int ((((xi.toUInt32 >>> ((16 : Int32) &&& 31).toUInt32).toInt32).toUInt32 >>> ((8 : Int32) &&& 31).toUInt32).toInt32)), .val (.int (5 : Int32))] [(.int (2 : Int32)), (.int ((((xi.toUInt32 >>> ((16 : Int32) &&& 31).toUInt32).toInt32).toUInt32 >>> ((8 : Int32) &&& 31).toUInt32).toInt32))])) _
              refine XS.iushr X0.here hx rfl (hb hby d6_71) rfl ?_
              show Steps p.tables e below (s₁.setTop (mkF m 72 #[.val (.int ((((xi.toUInt32 >>> ((16 : Int32) &&& 31).toUInt32).toInt32).toUInt32 >>> ((8 : Int32) &&& 31).toUInt32).toInt32)), .val (.int (5 : Int32))] [(.int ((((((xi.toUInt32 >>> ((16 : Int32) &&& 31).toUInt32).toInt32).toUInt32 >>> ((8 : Int32) &&& 31).toUInt32).toInt32).toUInt32 >>> ((2 : Int32) &&& 31).toUInt32).toInt32))])) _
              refine XS.istoreN X0.here hx rfl (hb hby d6_72) rfl (l' := #[.val (.int ((((((xi.toUInt32 >>> ((16 : Int32) &&& 31).toUInt32).toInt32).toUInt32 >>> ((8 : Int32) &&& 31).toUInt32).toInt32).toUInt32 >>> ((2 : Int32) &&& 31).toUInt32).toInt32)), .val (.int (5 : Int32))]) rfl ?_
              show Steps p.tables e below (s₁.setTop (mkF m 73 #[.val (.int ((((((xi.toUInt32 >>> ((16 : Int32) &&& 31).toUInt32).toInt32).toUInt32 >>> ((8 : Int32) &&& 31).toUInt32).toInt32).toUInt32 >>> ((2 : Int32) &&& 31).toUInt32).toInt32)), .val (.int (5 : Int32))] [])) _
              refine XS.iloadN X0.here hx rfl (hb hby d6_73) rfl ?_
              show Steps p.tables e below (s₁.setTop (mkF m 74 #[.val (.int ((((((xi.toUInt32 >>> ((16 : Int32) &&& 31).toUInt32).toInt32).toUInt32 >>> ((8 : Int32) &&& 31).toUInt32).toInt32).toUInt32 >>> ((2 : Int32) &&& 31).toUInt32).toInt32)), .val (.int (5 : Int32))] [(.int (5 : Int32))])) _
              refine XS.iloadN X0.here hx rfl (hb hby d6_74) rfl ?_
              show Steps p.tables e below (s₁.setTop (mkF m 75 #[.val (.int ((((((xi.toUInt32 >>> ((16 : Int32) &&& 31).toUInt32).toInt32).toUInt32 >>> ((8 : Int32) &&& 31).toUInt32).toInt32).toUInt32 >>> ((2 : Int32) &&& 31).toUInt32).toInt32)), .val (.int (5 : Int32))] [(.int ((((((xi.toUInt32 >>> ((16 : Int32) &&& 31).toUInt32).toInt32).toUInt32 >>> ((8 : Int32) &&& 31).toUInt32).toInt32).toUInt32 >>> ((2 : Int32) &&& 31).toUInt32).toInt32)), (.int (5 : Int32))])) _
              refine XS.iconst X0.here hx rfl (hb hby d6_75) ?_
              show Steps p.tables e below (s₁.setTop (mkF m 76 #[.val (.int ((((((xi.toUInt32 >>> ((16 : Int32) &&& 31).toUInt32).toInt32).toUInt32 >>> ((8 : Int32) &&& 31).toUInt32).toInt32).toUInt32 >>> ((2 : Int32) &&& 31).toUInt32).toInt32)), .val (.int (5 : Int32))] [(.int (1 : Int32)), (.int ((((((xi.toUInt32 >>> ((16 : Int32) &&& 31).toUInt32).toInt32).toUInt32 >>> ((8 : Int32) &&& 31).toUInt32).toInt32).toUInt32 >>> ((2 : Int32) &&& 31).toUInt32).toInt32)), (.int (5 : Int32))])) _
              refine XS.iushr X0.here hx rfl (hb hby d6_76) rfl ?_
              show Steps p.tables e below (s₁.setTop (mkF m 77 #[.val (.int ((((((xi.toUInt32 >>> ((16 : Int32) &&& 31).toUInt32).toInt32).toUInt32 >>> ((8 : Int32) &&& 31).toUInt32).toInt32).toUInt32 >>> ((2 : Int32) &&& 31).toUInt32).toInt32)), .val (.int (5 : Int32))] [(.int ((((((((xi.toUInt32 >>> ((16 : Int32) &&& 31).toUInt32).toInt32).toUInt32 >>> ((8 : Int32) &&& 31).toUInt32).toInt32).toUInt32 >>> ((2 : Int32) &&& 31).toUInt32).toInt32).toUInt32 >>> ((1 : Int32) &&& 31).toUInt32).toInt32)), (.int (5 : Int32))])) _
              refine XS.isub X0.here hx rfl (hb hby d6_77) rfl ?_
              show Steps p.tables e below (s₁.setTop (mkF m 78 #[.val (.int ((((((xi.toUInt32 >>> ((16 : Int32) &&& 31).toUInt32).toInt32).toUInt32 >>> ((8 : Int32) &&& 31).toUInt32).toInt32).toUInt32 >>> ((2 : Int32) &&& 31).toUInt32).toInt32)), .val (.int (5 : Int32))] [(.int ((5 : Int32) - ((((((((xi.toUInt32 >>> ((16 : Int32) &&& 31).toUInt32).toInt32).toUInt32 >>> ((8 : Int32) &&& 31).toUInt32).toInt32).toUInt32 >>> ((2 : Int32) &&& 31).toUInt32).toInt32).toUInt32 >>> ((1 : Int32) &&& 31).toUInt32).toInt32)))])) _
              exact retI X0 hx Bd.returns (hb hby d6_78) (k _ rfl)
          · refine XS.icmpNo X0.here hx rfl (hb hby d6_51) rfl (flt hc15).1 ?_
            have k : ∀ (v1 : Int32), v1 = (if ((((((xi.toUInt32 >>> ((16 : Int32) &&& 31).toUInt32).toInt32).toUInt32 >>> ((8 : Int32) &&& 31).toUInt32).toInt32).toUInt32 >>> ((4 : Int32) &&& 31).toUInt32).toInt32) < (4 : Int32) then ((3 : Int32) - ((((((((xi.toUInt32 >>> ((16 : Int32) &&& 31).toUInt32).toInt32).toUInt32 >>> ((8 : Int32) &&& 31).toUInt32).toInt32).toUInt32 >>> ((4 : Int32) &&& 31).toUInt32).toInt32).toUInt32 >>> ((1 : Int32) &&& 31).toUInt32).toInt32)) else ((1 : Int32) - ((((((((((xi.toUInt32 >>> ((16 : Int32) &&& 31).toUInt32).toInt32).toUInt32 >>> ((8 : Int32) &&& 31).toUInt32).toInt32).toUInt32 >>> ((4 : Int32) &&& 31).toUInt32).toInt32).toUInt32 >>> ((2 : Int32) &&& 31).toUInt32).toInt32).toUInt32 >>> ((1 : Int32) &&& 31).toUInt32).toInt32))) → ∀ (f : JFrame) (acts : List Action), f.method = m → f.locked = none → f.entered = [] → (doReturn e (s₁.setTop f) acts (some (.int v1))).1 = s₁.setFrames fs := fun v1 hv1 => k v1 (hv1.trans (if_neg hc15).symm)
            show Steps p.tables e below (s₁.setTop (mkF m 54 #[.val (.int ((((xi.toUInt32 >>> ((16 : Int32) &&& 31).toUInt32).toInt32).toUInt32 >>> ((8 : Int32) &&& 31).toUInt32).toInt32)), .val (.int (7 : Int32))] [])) _
            refine XS.iinc X0.here hx rfl (hb hby d6_54) rfl (l' := #[.val (.int ((((xi.toUInt32 >>> ((16 : Int32) &&& 31).toUInt32).toInt32).toUInt32 >>> ((8 : Int32) &&& 31).toUInt32).toInt32)), .val (.int (3 : Int32))]) rfl ?_
            show Steps p.tables e below (s₁.setTop (mkF m 57 #[.val (.int ((((xi.toUInt32 >>> ((16 : Int32) &&& 31).toUInt32).toInt32).toUInt32 >>> ((8 : Int32) &&& 31).toUInt32).toInt32)), .val (.int (3 : Int32))] [])) _
            refine XS.iloadN X0.here hx rfl (hb hby d6_57) rfl ?_
            show Steps p.tables e below (s₁.setTop (mkF m 58 #[.val (.int ((((xi.toUInt32 >>> ((16 : Int32) &&& 31).toUInt32).toInt32).toUInt32 >>> ((8 : Int32) &&& 31).toUInt32).toInt32)), .val (.int (3 : Int32))] [(.int ((((xi.toUInt32 >>> ((16 : Int32) &&& 31).toUInt32).toInt32).toUInt32 >>> ((8 : Int32) &&& 31).toUInt32).toInt32))])) _
            refine XS.iconst X0.here hx rfl (hb hby d6_58) ?_
            show Steps p.tables e below (s₁.setTop (mkF m 59 #[.val (.int ((((xi.toUInt32 >>> ((16 : Int32) &&& 31).toUInt32).toInt32).toUInt32 >>> ((8 : Int32) &&& 31).toUInt32).toInt32)), .val (.int (3 : Int32))] [(.int (4 : Int32)), (.int ((((xi.toUInt32 >>> ((16 : Int32) &&& 31).toUInt32).toInt32).toUInt32 >>> ((8 : Int32) &&& 31).toUInt32).toInt32))])) _
            refine XS.iushr X0.here hx rfl (hb hby d6_59) rfl ?_
            show Steps p.tables e below (s₁.setTop (mkF m 60 #[.val (.int ((((xi.toUInt32 >>> ((16 : Int32) &&& 31).toUInt32).toInt32).toUInt32 >>> ((8 : Int32) &&& 31).toUInt32).toInt32)), .val (.int (3 : Int32))] [(.int ((((((xi.toUInt32 >>> ((16 : Int32) &&& 31).toUInt32).toInt32).toUInt32 >>> ((8 : Int32) &&& 31).toUInt32).toInt32).toUInt32 >>> ((4 : Int32) &&& 31).toUInt32).toInt32))])) _
            refine XS.istoreN X0.here hx rfl (hb hby d6_60) rfl (l' := #[.val (.int ((((((xi.toUInt32 >>> ((16 : Int32) &&& 31).toUInt32).toInt32).toUInt32 >>> ((8 : Int32) &&& 31).toUInt32).toInt32).toUInt32 >>> ((4 : Int32) &&& 31).toUInt32).toInt32)), .val (.int (3 : Int32))]) rfl ?_
            show Steps p.tables e below (s₁.setTop (mkF m 61 #[.val (.int ((((((xi.toUInt32 >>> ((16 : Int32) &&& 31).toUInt32).toInt32).toUInt32 >>> ((8 : Int32) &&& 31).toUInt32).toInt32).toUInt32 >>> ((4 : Int32) &&& 31).toUInt32).toInt32)), .val (.int (3 : Int32))] [])) _
            refine XS.iloadN X0.here hx rfl (hb hby d6_61) rfl ?_
            show Steps p.tables e below (s₁.setTop (mkF m 62 #[.val (.int ((((((xi.toUInt32 >>> ((16 : Int32) &&& 31).toUInt32).toInt32).toUInt32 >>> ((8 : Int32) &&& 31).toUInt32).toInt32).toUInt32 >>> ((4 : Int32) &&& 31).toUInt32).toInt32)), .val (.int (3 : Int32))] [(.int ((((((xi.toUInt32 >>> ((16 : Int32) &&& 31).toUInt32).toInt32).toUInt32 >>> ((8 : Int32) &&& 31).toUInt32).toInt32).toUInt32 >>> ((4 : Int32) &&& 31).toUInt32).toInt32))])) _
            refine XS.iconst X0.here hx rfl (hb hby d6_62) ?_
            show Steps p.tables e below (s₁.setTop (mkF m 63 #[.val (.int ((((((xi.toUInt32 >>> ((16 : Int32) &&& 31).toUInt32).toInt32).toUInt32 >>> ((8 : Int32) &&& 31).toUInt32).toInt32).toUInt32 >>> ((4 : Int32) &&& 31).toUInt32).toInt32)), .val (.int (3 : Int32))] [(.int (4 : Int32)), (.int ((((((xi.toUInt32 >>> ((16 : Int32) &&& 31).toUInt32).toInt32).toUInt32 >>> ((8 : Int32) &&& 31).toUInt32).toInt32).toUInt32 >>> ((4 : Int32) &&& 31).toUInt32).toInt32))])) _
            by_cases hc17 : ((((((xi.toUInt32 >>> ((16 : Int32) &&& 31).toUInt32).toInt32).toUInt32 >>> ((8 : Int32) &&& 31).toUInt32).toInt32).toUInt32 >>> ((4 : Int32) &&& 31).toUInt32).toInt32) < (4 : Int32)
            · refine XS.icmpYes X0.here hx rfl (pc0 := 63) (pc' := 73) rfl (hb hby d6_63) rfl (tlt hc17).1 (by decide) (by decide) ?_
              have k : ∀ (v1 : Int32), v1 = ((3 : Int32) - ((((((((xi.toUInt32 >>> ((16 : Int32) &&& 31).toUInt32).toInt32).toUInt32 >>> ((8 : Int32) &&& 31).toUInt32).toInt32).toUInt32 >>> ((4 : Int32) &&& 31).toUInt32).toInt32).toUInt32 >>> ((1 : Int32) &&& 31).toUInt32).toInt32)) → ∀ (f : JFrame) (acts : List Action), f.method = m → f.locked = none → f.entered = [] → (doReturn e (s₁.setTop f) acts (some (.int v1))).1 = s₁.setFrames fs := fun v1 hv1 => k v1 (hv1.trans (if_pos hc17).symm)
              show Steps p.tables e below (s₁.setTop (mkF m 73 #[.val (.int ((((((xi.toUInt32 >>> ((16 : Int32) &&& 31).toUInt32).toInt32).toUInt32 >>> ((8 : Int32) &&& 31).toUInt32).toInt32).toUInt32 >>> ((4 : Int32) &&& 31).toUInt32).toInt32)), .val (.int (3 : Int32))] [])) _
              refine XS.iloadN X0.here hx rfl (hb hby d6_73) rfl ?_
              show Steps p.tables e below (s₁.setTop (mkF m 74 #[.val (.int ((((((xi.toUInt32 >>> ((16 : Int32) &&& 31).toUInt32).toInt32).toUInt32 >>> ((8 : Int32) &&& 31).toUInt32).toInt32).toUInt32 >>> ((4 : Int32) &&& 31).toUInt32).toInt32)), .val (.int (3 : Int32))] [(.int (3 : Int32))])) _
              refine XS.iloadN X0.here hx rfl (hb hby d6_74) rfl ?_
              show Steps p.tables e below (s₁.setTop (mkF m 75 #[.val (.int ((((((xi.toUInt32 >>> ((16 : Int32) &&& 31).toUInt32).toInt32).toUInt32 >>> ((8 : Int32) &&& 31).toUInt32).toInt32).toUInt32 >>> ((4 : Int32) &&& 31).toUInt32).toInt32)), .val (.int (3 : Int32))] [(.int ((((((xi.toUInt32 >>> ((16 : Int32) &&& 31).toUInt32).toInt32).toUInt32 >>> ((8 : Int32) &&& 31).toUInt32).toInt32).toUInt32 >>> ((4 : Int32) &&& 31).toUInt32).toInt32)), (.int (3 : Int32))])) _
              refine XS.iconst X0.here hx rfl (hb hby d6_75) ?_
              show Steps p.tables e below (s₁.setTop (mkF m 76 #[.val (.int ((((((xi.toUInt32 >>> ((16 : Int32) &&& 31).toUInt32).toInt32).toUInt32 >>> ((8 : Int32) &&& 31).toUInt32).toInt32).toUInt32 >>> ((4 : Int32) &&& 31).toUInt32).toInt32)), .val (.int (3 : Int32))] [(.int (1 : Int32)), (.int ((((((xi.toUInt32 >>> ((16 : Int32) &&& 31).toUInt32).toInt32).toUInt32 >>> ((8 : Int32) &&& 31).toUInt32).toInt32).toUInt32 >>> ((4 : Int32) &&& 31).toUInt32).toInt32)), (.int (3 : Int32))])) _
              refine XS.iushr X0.here hx rfl (hb hby d6_76) rfl ?_
              show Steps p.tables e below (s₁.setTop (mkF m 77 #[.val (.int ((((((xi.toUInt32 >>> ((16 : Int32) &&& 31).toUInt32).toInt32).toUInt32 >>> ((8 : Int32) &&& 31).toUInt32).toInt32).toUInt32 >>> ((4 : Int32) &&& 31).toUInt32).toInt32)), .val (.int (3 : Int32))] [(.int ((((((((xi.toUInt32 >>> ((16 : Int32) &&& 31).toUInt32).toInt32).toUInt32 >>> ((8 : Int32) &&& 31).toUInt32).toInt32).toUInt32 >>> ((4 : Int32) &&& 31).toUInt32).toInt32).toUInt32 >>> ((1 : Int32) &&& 31).toUInt32).toInt32)), (.int (3 : Int32))])) _
              refine XS.isub X0.here hx rfl (hb hby d6_77) rfl ?_
              show Steps p.tables e below (s₁.setTop (mkF m 78 #[.val (.int ((((((xi.toUInt32 >>> ((16 : Int32) &&& 31).toUInt32).toInt32).toUInt32 >>> ((8 : Int32) &&& 31).toUInt32).toInt32).toUInt32 >>> ((4 : Int32) &&& 31).toUInt32).toInt32)), .val (.int (3 : Int32))] [(.int ((3 : Int32) - ((((((((xi.toUInt32 >>> ((16 : Int32) &&& 31).toUInt32).toInt32).toUInt32 >>> ((8 : Int32) &&& 31).toUInt32).toInt32).toUInt32 >>> ((4 : Int32) &&& 31).toUInt32).toInt32).toUInt32 >>> ((1 : Int32) &&& 31).toUInt32).toInt32)))])) _
              exact retI X0 hx Bd.returns (hb hby d6_78) (k _ rfl)
            · refine XS.icmpNo X0.here hx rfl (hb hby d6_63) rfl (flt hc17).1 ?_
              have k : ∀ (v1 : Int32), v1 = ((1 : Int32) - ((((((((((xi.toUInt32 >>> ((16 : Int32) &&& 31).toUInt32).toInt32).toUInt32 >>> ((8 : Int32) &&& 31).toUInt32).toInt32).toUInt32 >>> ((4 : Int32) &&& 31).toUInt32).toInt32).toUInt32 >>> ((2 : Int32) &&& 31).toUInt32).toInt32).toUInt32 >>> ((1 : Int32) &&& 31).toUInt32).toInt32)) → ∀ (f : JFrame) (acts : List Action), f.method = m → f.locked = none → f.entered = [] → (doReturn e (s₁.setTop f) acts (some (.int v1))).1 = s₁.setFrames fs := fun v1 hv1 => k v1 (hv1.trans (if_neg hc17).symm)
              show Steps p.tables e below (s₁.setTop (mkF m 66 #[.val (.int ((((((xi.toUInt32 >>> ((16 : Int32) &&& 31).toUInt32).toInt32).toUInt32 >>> ((8 : Int32) &&& 31).toUInt32).toInt32).toUInt32 >>> ((4 : Int32) &&& 31).toUInt32).toInt32)), .val (.int (3 : Int32))] [])) _
              refine XS.iinc X0.here hx rfl (hb hby d6_66) rfl (l' := #[.val (.int ((((((xi.toUInt32 >>> ((16 : Int32) &&& 31).toUInt32).toInt32).toUInt32 >>> ((8 : Int32) &&& 31).toUInt32).toInt32).toUInt32 >>> ((4 : Int32) &&& 31).toUInt32).toInt32)), .val (.int (1 : Int32))]) rfl ?_
              show Steps p.tables e below (s₁.setTop (mkF m 69 #[.val (.int ((((((xi.toUInt32 >>> ((16 : Int32) &&& 31).toUInt32).toInt32).toUInt32 >>> ((8 : Int32) &&& 31).toUInt32).toInt32).toUInt32 >>> ((4 : Int32) &&& 31).toUInt32).toInt32)), .val (.int (1 : Int32))] [])) _
              refine XS.iloadN X0.here hx rfl (hb hby d6_69) rfl ?_
              show Steps p.tables e below (s₁.setTop (mkF m 70 #[.val (.int ((((((xi.toUInt32 >>> ((16 : Int32) &&& 31).toUInt32).toInt32).toUInt32 >>> ((8 : Int32) &&& 31).toUInt32).toInt32).toUInt32 >>> ((4 : Int32) &&& 31).toUInt32).toInt32)), .val (.int (1 : Int32))] [(.int ((((((xi.toUInt32 >>> ((16 : Int32) &&& 31).toUInt32).toInt32).toUInt32 >>> ((8 : Int32) &&& 31).toUInt32).toInt32).toUInt32 >>> ((4 : Int32) &&& 31).toUInt32).toInt32))])) _
              refine XS.iconst X0.here hx rfl (hb hby d6_70) ?_
              show Steps p.tables e below (s₁.setTop (mkF m 71 #[.val (.int ((((((xi.toUInt32 >>> ((16 : Int32) &&& 31).toUInt32).toInt32).toUInt32 >>> ((8 : Int32) &&& 31).toUInt32).toInt32).toUInt32 >>> ((4 : Int32) &&& 31).toUInt32).toInt32)), .val (.int (1 : Int32))] [(.int (2 : Int32)), (.int ((((((xi.toUInt32 >>> ((16 : Int32) &&& 31).toUInt32).toInt32).toUInt32 >>> ((8 : Int32) &&& 31).toUInt32).toInt32).toUInt32 >>> ((4 : Int32) &&& 31).toUInt32).toInt32))])) _
              refine XS.iushr X0.here hx rfl (hb hby d6_71) rfl ?_
              show Steps p.tables e below (s₁.setTop (mkF m 72 #[.val (.int ((((((xi.toUInt32 >>> ((16 : Int32) &&& 31).toUInt32).toInt32).toUInt32 >>> ((8 : Int32) &&& 31).toUInt32).toInt32).toUInt32 >>> ((4 : Int32) &&& 31).toUInt32).toInt32)), .val (.int (1 : Int32))] [(.int ((((((((xi.toUInt32 >>> ((16 : Int32) &&& 31).toUInt32).toInt32).toUInt32 >>> ((8 : Int32) &&& 31).toUInt32).toInt32).toUInt32 >>> ((4 : Int32) &&& 31).toUInt32).toInt32).toUInt32 >>> ((2 : Int32) &&& 31).toUInt32).toInt32))])) _
              refine XS.istoreN X0.here hx rfl (hb hby d6_72) rfl (l' := #[.val (.int ((((((((xi.toUInt32 >>> ((16 : Int32) &&& 31).toUInt32).toInt32).toUInt32 >>> ((8 : Int32) &&& 31).toUInt32).toInt32).toUInt32 >>> ((4 : Int32) &&& 31).toUInt32).toInt32).toUInt32 >>> ((2 : Int32) &&& 31).toUInt32).toInt32)), .val (.int (1 : Int32))]) rfl ?_
              show Steps p.tables e below (s₁.setTop (mkF m 73 #[.val (.int ((((((((xi.toUInt32 >>> ((16 : Int32) &&& 31).toUInt32).toInt32).toUInt32 >>> ((8 : Int32) &&& 31).toUInt32).toInt32).toUInt32 >>> ((4 : Int32) &&& 31).toUInt32).toInt32).toUInt32 >>> ((2 : Int32) &&& 31).toUInt32).toInt32)), .val (.int (1 : Int32))] [])) _
              refine XS.iloadN X0.here hx rfl (hb hby d6_73) rfl ?_
              show Steps p.tables e below (s₁.setTop (mkF m 74 #[.val (.int ((((((((xi.toUInt32 >>> ((16 : Int32) &&& 31).toUInt32).toInt32).toUInt32 >>> ((8 : Int32) &&& 31).toUInt32).toInt32).toUInt32 >>> ((4 : Int32) &&& 31).toUInt32).toInt32).toUInt32 >>> ((2 : Int32) &&& 31).toUInt32).toInt32)), .val (.int (1 : Int32))] [(.int (1 : Int32))])) _
              refine XS.iloadN X0.here hx rfl (hb hby d6_74) rfl ?_
              show Steps p.tables e below (s₁.setTop (mkF m 75 #[.val (.int ((((((((xi.toUInt32 >>> ((16 : Int32) &&& 31).toUInt32).toInt32).toUInt32 >>> ((8 : Int32) &&& 31).toUInt32).toInt32).toUInt32 >>> ((4 : Int32) &&& 31).toUInt32).toInt32).toUInt32 >>> ((2 : Int32) &&& 31).toUInt32).toInt32)), .val (.int (1 : Int32))] [(.int ((((((((xi.toUInt32 >>> ((16 : Int32) &&& 31).toUInt32).toInt32).toUInt32 >>> ((8 : Int32) &&& 31).toUInt32).toInt32).toUInt32 >>> ((4 : Int32) &&& 31).toUInt32).toInt32).toUInt32 >>> ((2 : Int32) &&& 31).toUInt32).toInt32)), (.int (1 : Int32))])) _
              refine XS.iconst X0.here hx rfl (hb hby d6_75) ?_
              show Steps p.tables e below (s₁.setTop (mkF m 76 #[.val (.int ((((((((xi.toUInt32 >>> ((16 : Int32) &&& 31).toUInt32).toInt32).toUInt32 >>> ((8 : Int32) &&& 31).toUInt32).toInt32).toUInt32 >>> ((4 : Int32) &&& 31).toUInt32).toInt32).toUInt32 >>> ((2 : Int32) &&& 31).toUInt32).toInt32)), .val (.int (1 : Int32))] [(.int (1 : Int32)), (.int ((((((((xi.toUInt32 >>> ((16 : Int32) &&& 31).toUInt32).toInt32).toUInt32 >>> ((8 : Int32) &&& 31).toUInt32).toInt32).toUInt32 >>> ((4 : Int32) &&& 31).toUInt32).toInt32).toUInt32 >>> ((2 : Int32) &&& 31).toUInt32).toInt32)), (.int (1 : Int32))])) _
              refine XS.iushr X0.here hx rfl (hb hby d6_76) rfl ?_
              show Steps p.tables e below (s₁.setTop (mkF m 77 #[.val (.int ((((((((xi.toUInt32 >>> ((16 : Int32) &&& 31).toUInt32).toInt32).toUInt32 >>> ((8 : Int32) &&& 31).toUInt32).toInt32).toUInt32 >>> ((4 : Int32) &&& 31).toUInt32).toInt32).toUInt32 >>> ((2 : Int32) &&& 31).toUInt32).toInt32)), .val (.int (1 : Int32))] [(.int ((((((((((xi.toUInt32 >>> ((16 : Int32) &&& 31).toUInt32).toInt32).toUInt32 >>> ((8 : Int32) &&& 31).toUInt32).toInt32).toUInt32 >>> ((4 : Int32) &&& 31).toUInt32).toInt32).toUInt32 >>> ((2 : Int32) &&& 31).toUInt32).toInt32).toUInt32 >>> ((1 : Int32) &&& 31).toUInt32).toInt32)), (.int (1 : Int32))])) _
              refine XS.isub X0.here hx rfl (hb hby d6_77) rfl ?_
              show Steps p.tables e below (s₁.setTop (mkF m 78 #[.val (.int ((((((((xi.toUInt32 >>> ((16 : Int32) &&& 31).toUInt32).toInt32).toUInt32 >>> ((8 : Int32) &&& 31).toUInt32).toInt32).toUInt32 >>> ((4 : Int32) &&& 31).toUInt32).toInt32).toUInt32 >>> ((2 : Int32) &&& 31).toUInt32).toInt32)), .val (.int (1 : Int32))] [(.int ((1 : Int32) - ((((((((((xi.toUInt32 >>> ((16 : Int32) &&& 31).toUInt32).toInt32).toUInt32 >>> ((8 : Int32) &&& 31).toUInt32).toInt32).toUInt32 >>> ((4 : Int32) &&& 31).toUInt32).toInt32).toUInt32 >>> ((2 : Int32) &&& 31).toUInt32).toInt32).toUInt32 >>> ((1 : Int32) &&& 31).toUInt32).toInt32)))])) _
              exact retI X0 hx Bd.returns (hb hby d6_78) (k _ rfl)
    · refine XS.ifNo X0.here hx rfl (hb hby d6_1) rfl ((if0 _ _).trans (flt hc2).2.2.1) ?_
      have k : ∀ (v1 : Int32), v1 = (if xi = (0 : Int32) then (32 : Int32) else (0 : Int32)) → ∀ (f : JFrame) (acts : List Action), f.method = m → f.locked = none → f.entered = [] → (doReturn e (s₁.setTop f) acts (some (.int v1))).1 = s₁.setFrames fs := fun v1 hv1 => k v1 (hv1.trans (if_neg hc2).symm)
      show Steps p.tables e below (s₁.setTop (mkF m 4 #[.val (.int xi), .unset] [])) _
      refine XS.iloadN X0.here hx rfl (hb hby d6_4) rfl ?_
      show Steps p.tables e below (s₁.setTop (mkF m 5 #[.val (.int xi), .unset] [(.int xi)])) _
      by_cases hc18 : xi = (0 : Int32)
      · refine XS.ifNo X0.here hx rfl (hb hby d6_5) rfl ((if0 _ _).trans (teq hc18).2) ?_
        have k : ∀ (v1 : Int32), v1 = (32 : Int32) → ∀ (f : JFrame) (acts : List Action), f.method = m → f.locked = none → f.entered = [] → (doReturn e (s₁.setTop f) acts (some (.int v1))).1 = s₁.setFrames fs := fun v1 hv1 => k v1 (hv1.trans (if_pos hc18).symm)
        show Steps p.tables e below (s₁.setTop (mkF m 8 #[.val (.int xi), .unset] [])) _
        refine XS.bipush X0.here hx rfl (hb hby d6_8) ?_
        show Steps p.tables e below (s₁.setTop (mkF m 10 #[.val (.int xi), .unset] [(.int (32 : Int32))])) _
        refine XS.goto X0.here hx rfl (pc0 := 10) (pc' := 14) rfl (hb hby d6_10) (by decide) (by decide) ?_
        show Steps p.tables e below (s₁.setTop (mkF m 14 #[.val (.int xi), .unset] [(.int (32 : Int32))])) _
        exact retI X0 hx Bd.returns (hb hby d6_14) (k _ rfl)
      · refine XS.ifYes X0.here hx rfl (pc0 := 5) (pc' := 13) rfl (hb hby d6_5) rfl ((if0 _ _).trans (feq hc18).2) (by decide) (by decide) ?_
        have k : ∀ (v1 : Int32), v1 = (0 : Int32) → ∀ (f : JFrame) (acts : List Action), f.method = m → f.locked = none → f.entered = [] → (doReturn e (s₁.setTop f) acts (some (.int v1))).1 = s₁.setFrames fs := fun v1 hv1 => k v1 (hv1.trans (if_neg hc18).symm)
        show Steps p.tables e below (s₁.setTop (mkF m 13 #[.val (.int xi), .unset] [])) _
        refine XS.iconst X0.here hx rfl (hb hby d6_13) ?_
        show Steps p.tables e below (s₁.setTop (mkF m 14 #[.val (.int xi), .unset] [(.int (0 : Int32))])) _
        exact retI X0 hx Bd.returns (hb hby d6_14) (k _ rfl)
  · show Q6 Z xi h0 n0 _ s₁.heap _
    rw [e0]
    exact ⟨rfl, N0, rfl⟩
theorem d5_0 : decode jdk_33_method_45_code 0 = .ok (.iload_n 0, 1) := by decide +kernel
theorem d5_1 : decode jdk_33_method_45_code 1 = .ok (.ldc 127, 2) := by decide +kernel
theorem d5_3 : decode jdk_33_method_45_code 3 = .ok (.iload_n 0, 1) := by decide +kernel
theorem d5_4 : decode jdk_33_method_45_code 4 = .ok (.invokestatic 51, 3) := by decide +kernel
theorem d5_7 : decode jdk_33_method_45_code 7 = .ok (.iushr, 1) := by decide +kernel
theorem d5_8 : decode jdk_33_method_45_code 8 = .ok (.iand, 1) := by decide +kernel
theorem d5_9 : decode jdk_33_method_45_code 9 = .ok (.ireturn, 1) := by decide +kernel
theorem pd_4 : parseMethodDescriptor "(I)I" = some ⟨[.int], some .int⟩ := by decide +kernel
theorem ef_5 (m : MethodId) (x0 : Int32) : entryFrame m #[(.int x0)] 1 = mkF m 0 #[.val (.int x0)] [] := by first | (simp [entryFrame, mkF, argsToLocals, Value.category]; done) | rfl
def Fhob (xi : Int32) : Int32 := (xi &&& (((-2147483648 : Int32).toUInt32 >>> ((Fnlz xi) &&& 31).toUInt32).toInt32))
def Q5 (Z : State) (xi : Int32) (h0 : Heap) (n0 : Nat) (v : Option Value) (h : Heap) (L : List Loc) : Prop := v = some (.int (Fhob xi)) ∧ Fr n0 L ∧ h = h0
set_option maxRecDepth 65536 in
set_option maxHeartbeats 40000000 in
theorem rm5 (l : Launch) (Z : State) (a0 : Array Value) (hw : ∀ d ∈ tables_1, d.before a0 Z = true) (ws : List Jvm.Cond) (xi : Int32) (h0 : Heap) (n0 : Nat) (Z0 : n0 ≤ h0.size) :
    MetFree l (⟨"java/lang/Integer", "highestOneBit", "(I)I"⟩ : MethodName) (head1 (Jvm.Cond.code (⟨"java/lang/Integer", "highestOneBit", "(I)I"⟩ : MethodName) jdk_33_method_45_code 1 (some .int) :: ws) ({ frames := 1, cells := 0, slots := 0, locals := 15 } : Room)) (fun a U => a = #[(.int xi)] ∧ Z.Warmed39 U.vm ∧ U.heap = h0) (fun _ _ _ _ _ => True) (fun _ U o U' => ∃ v L, o = .returned v ∧ Q5 Z xi h0 n0 v U'.heap L ∧ FrameEnd U o U' L ({ frames := 1, cells := 0, slots := 0, locals := 15 } : Room).cells ({ frames := 1, cells := 0, slots := 0, locals := 15 } : Room).slots) := by
  refine MetFree.of_bodySF (plainFor_of_name pn_6) hisR ?_
  intro p e s m args below meth c s₁ Bd hml0 hP hK
  obtain ⟨rfl, hZ, hh⟩ := hP
  have hx := Bd.exec
  have hby := Bd.bytes
  have hml : c.maxLocals = 1 := hml0
  have hown : s.vm.findClass "java/lang/Integer" = some m.cls := findClass_of_methodNamed Bd.named
  have hnm := (name_of_methodNamed Bd.named Bd.method).1
  have X0 : Stand p l e ({ frames := 1, cells := 0, slots := 0, locals := 15 } : Room) s m #[(.int xi)] below meth c s₁ [] 0 0 := Stand.of_body Bd
  have e0 : s₁.heap = h0 := by rw [← hh, Bd.state]; rfl
  have N0 := Fr.nil n0
  have pre0 : ∀ t, Steps p.tables e below (s₁.setTop (mkF m 0 #[.val (.int xi)] [])) t → Steps p.tables e below (s₁.setTop (entryFrame m #[(.int xi)] 1)) t := fun t k => castTop (ef_5 m xi) k
  obtain ⟨_, _, ⟨T1, L1, k1, n1⟩, -, X1, ⟨Lc1, hQ1, l1, y1, z1⟩, st1⟩ := Jvm.LawKit.callS X0 hx (y := (⟨"java/lang/Integer", "numberOfLeadingZeros", "(I)I"⟩ : MethodName)) hown (mvT hZ (hw _ (List.mem_of_getElem? (i := 29) rfl))) (mvT hZ (hw _ (List.mem_of_getElem? (i := 30) rfl))) (mvT hZ (hw _ (List.mem_of_getElem? (i := 26) rfl))) (mvT hZ (hw _ (List.mem_of_getElem? (i := 31) rfl))) (by decide) (backOf (W := 2) (rm6 l Z a0 hw [] xi h0 n0 Z0) hZ (hw _ (List.mem_of_getElem? (i := 31) rfl)) (hw _ (List.mem_of_getElem? (i := 26) rfl)) (by decide) (by decide)) (g := (mkF m 4 #[.val (.int xi)] [(.int xi), (.int (-2147483648 : Int32)), (.int xi)])) rfl (by rw [hml]; rfl) (argsL := [(.int xi)]) (rest := [(.int (-2147483648 : Int32)), (.int xi)]) (lenOf pd_4 rfl) rfl (by show 2 * 0 + _ ≤ _; exact Nat.le_of_eq rfl) (hb hby d5_4) (fun _ _ => ⟨rfl, e0, (by decide : 0 + 0 ≤ _), (by decide : 0 + 0 ≤ _)⟩)
  dsimp only [Pt.U, Pt.locs, Pt.cells, Pt.slots] at X1 l1 y1 z1 st1 hQ1
  subst y1 z1
  obtain ⟨rfl, N1q, e1⟩ := hQ1
  have N1 : Fr n0 L1 := by rw [l1]; exact Fr.app N0 N1q
  have pre2 : ∀ t, Steps p.tables e below (T1.setTop (mkF m 9 #[.val (.int xi)] [(.int (xi &&& (((-2147483648 : Int32).toUInt32 >>> ((Fnlz xi) &&& 31).toUInt32).toInt32)))])) t → Steps p.tables e below (s₁.setTop (entryFrame m #[(.int xi)] 1)) t := by
    intro t k
    refine pre0 t ?_
    show Steps p.tables e below (s₁.setTop (mkF m 0 #[.val (.int xi)] [])) _
    refine XS.iloadN X0.here hx rfl (hb hby d5_0) rfl ?_
    show Steps p.tables e below (s₁.setTop (mkF m 1 #[.val (.int xi)] [(.int xi)])) _
    refine X0.ldcInt hx hown (mvT hZ (hw _ (List.mem_of_getElem? (i := 28) rfl))) (g := (mkF m 1 #[.val (.int xi)] [(.int xi)])) rfl (hb hby d5_1) _ ?_
    show Steps p.tables e below (s₁.setTop (mkF m 3 #[.val (.int xi)] [(.int (-2147483648 : Int32)), (.int xi)])) _
    refine XS.iloadN X0.here hx rfl (hb hby d5_3) rfl ?_
    show Steps p.tables e below (s₁.setTop (mkF m 4 #[.val (.int xi)] [(.int xi), (.int (-2147483648 : Int32)), (.int xi)])) _
    refine st1 _ ?_
    show Steps p.tables e below (T1.setTop (mkF m 7 #[.val (.int xi)] [(.int (Fnlz xi)), (.int (-2147483648 : Int32)), (.int xi)])) _
    refine XS.iushr X1.here hx rfl (hb hby d5_7) rfl ?_
    show Steps p.tables e below (T1.setTop (mkF m 8 #[.val (.int xi)] [(.int (((-2147483648 : Int32).toUInt32 >>> ((Fnlz xi) &&& 31).toUInt32).toInt32)), (.int xi)])) _
    refine XS.iand X1.here hx rfl (hb hby d5_8) rfl ?_
    exact k
  obtain ⟨fs, hr, hrun, hended, hW, hsame⟩ := X1.leave (v := some (.int (Fhob xi))) (fun h => by rw [Bd.returns] at h; cases h) (BodyLoose.notSynchronized Bd)
  refine ⟨_, _, pre2 _ ?_, hrun, hended, _, _, rfl, ?_, ⟨_, rfl⟩, hW, hsame.mono (by decide) (by decide)⟩
  · show Steps p.tables e below (T1.setTop (mkF m 9 #[.val (.int xi)] [(.int (xi &&& (((-2147483648 : Int32).toUInt32 >>> ((Fnlz xi) &&& 31).toUInt32).toInt32)))])) _
    exact retI X1 hx Bd.returns (hb hby d5_9) hr
  · show Q5 Z xi h0 n0 _ T1.heap _
    rw [e1]
    exact ⟨rfl, N1, rfl⟩
theorem d3_0 : decode prog_6_method_1_code 0 = .ok (.aload_n 0, 1) := by decide +kernel
theorem d3_1 : decode prog_6_method_1_code 1 = .ok (.invokespecial 1, 3) := by decide +kernel
theorem d3_4 : decode prog_6_method_1_code 4 = .ok (.aload_n 0, 1) := by decide +kernel
theorem d3_5 : decode prog_6_method_1_code 5 = .ok (.iload_n 1, 1) := by decide +kernel
theorem d3_6 : decode prog_6_method_1_code 6 = .ok (.iconst 1, 1) := by decide +kernel
theorem d3_7 : decode prog_6_method_1_code 7 = .ok (.iadd, 1) := by decide +kernel
theorem d3_8 : decode prog_6_method_1_code 8 = .ok (.newarray .long, 2) := by decide +kernel
theorem d3_10 : decode prog_6_method_1_code 10 = .ok (.putfield 7, 3) := by decide +kernel
theorem d3_13 : decode prog_6_method_1_code 13 = .ok (.aload_n 0, 1) := by decide +kernel
theorem d3_14 : decode prog_6_method_1_code 14 = .ok (.iload_n 1, 1) := by decide +kernel
theorem d3_15 : decode prog_6_method_1_code 15 = .ok (.newarray .int, 2) := by decide +kernel
theorem d3_17 : decode prog_6_method_1_code 17 = .ok (.putfield 13, 3) := by decide +kernel
theorem d3_20 : decode prog_6_method_1_code 20 = .ok (.aload_n 0, 1) := by decide +kernel
theorem d3_21 : decode prog_6_method_1_code 21 = .ok (.iload_n 1, 1) := by decide +kernel
theorem d3_22 : decode prog_6_method_1_code 22 = .ok (.ifCond .ne 7, 3) := by decide +kernel
theorem d3_29 : decode prog_6_method_1_code 29 = .ok (.iload_n 1, 1) := by decide +kernel
theorem d3_30 : decode prog_6_method_1_code 30 = .ok (.invokestatic 17, 3) := by decide +kernel
theorem d3_33 : decode prog_6_method_1_code 33 = .ok (.putfield 23, 3) := by decide +kernel
theorem d3_36 : decode prog_6_method_1_code 36 = .ok (.return_, 1) := by decide +kernel
theorem pn_3 : plainName "com/example/dealer/dealer/ChangingShares" = true := by first | (simp [plainName, overriddenIn]; done) | decide +kernel
theorem ef_3 (m : MethodId) (x0 : Addr) (x1 : Int32) : entryFrame m #[(.ref x0), (.int x1)] 2 = mkF m 0 #[.val (.ref x0), .val (.int x1)] [] := by first | (simp [entryFrame, mkF, argsToLocals, Value.category]; done) | rfl
def Q3 (Z : State) (ob : Addr) (p0 : Int32) (h0 : Heap) (n0 : Nat) (v : Option Value) (h : Heap) (L : List Loc) : Prop := v = none ∧ Fr n0 L ∧ ∃ an as : Addr, ((CS Z h n0 ob an as (Fhob p0) 0 (p0 + (1 : Int32)) (fun _ => 0) p0 (fun _ => 0)) ∧ (∀ x : Addr, x < h0.size → x ≠ an) ∧ ∀ x : Addr, x < h0.size → x ≠ as) ∧ Keep h0 h [ob]
set_option maxRecDepth 65536 in
set_option maxHeartbeats 40000000 in
theorem rm3 (l : Launch) (Z : State) (a0 : Array Value) (hw : ∀ d ∈ tables_1, d.before a0 Z = true) (ws : List Jvm.Cond) (ob : Addr) (p0 : Int32) (h0 : Heap) (n0 : Nat) (Z0 : n0 ≤ h0.size) (I0 : CS0 Z h0 n0 ob) (hp0 : ¬ (p0 = (0 : Int32))) (hp1 : 0 ≤ p0.toInt) (hp2 : p0.toInt ≤ 8) :
    MetFree l (⟨"com/example/dealer/dealer/ChangingShares", "<init>", "(I)V"⟩ : MethodName) (head1 (Jvm.Cond.code (⟨"com/example/dealer/dealer/ChangingShares", "<init>", "(I)V"⟩ : MethodName) prog_6_method_1_code 2 none :: ws) ({ frames := 2, cells := 2, slots := 17, locals := 28 } : Room)) (fun a U => a = #[(.ref ob), (.int p0)] ∧ Z.Warmed39 U.vm ∧ U.heap = h0) (fun _ _ _ _ _ => True) (fun _ U o U' => ∃ v L, o = .returned v ∧ Q3 Z ob p0 h0 n0 v U'.heap L ∧ FrameEnd U o U' L ({ frames := 2, cells := 2, slots := 17, locals := 28 } : Room).cells ({ frames := 2, cells := 2, slots := 17, locals := 28 } : Room).slots) := by
  refine MetFree.of_bodySF (plainFor_of_name pn_3) hisR ?_
  intro p e s m args below meth c s₁ Bd hml0 hP hK
  obtain ⟨rfl, hZ, hh⟩ := hP
  have hx := Bd.exec
  have hby := Bd.bytes
  have hml : c.maxLocals = 2 := hml0
  have hown : s.vm.findClass "com/example/dealer/dealer/ChangingShares" = some m.cls := findClass_of_methodNamed Bd.named
  have hnm := (name_of_methodNamed Bd.named Bd.method).1
  have X0 : Stand p l e ({ frames := 2, cells := 2, slots := 17, locals := 28 } : Room) s m #[(.ref ob), (.int p0)] below meth c s₁ [] 0 0 := Stand.of_body Bd
  have e0 : s₁.heap = h0 := by rw [← hh, Bd.state]; rfl
  have N0 := Fr.nil n0
  have pre0 : ∀ t, Steps p.tables e below (s₁.setTop (mkF m 0 #[.val (.ref ob), .val (.int p0)] [])) t → Steps p.tables e below (s₁.setTop (entryFrame m #[(.ref ob), (.int p0)] 2)) t := fun t k => castTop (ef_3 m ob p0) k
  obtain ⟨k1_0, k1_1, k1_2, k1_3, k1_4, k1_g_ob, k1_sz⟩ := I0
  obtain ⟨T2, X2, e2, st2⟩ := initO X0 hx hZ hown (hw _ (List.mem_of_getElem? (i := 16) rfl)) (hw _ (List.mem_of_getElem? (i := 17) rfl)) (hw _ (List.mem_of_getElem? (i := 18) rfl)) e0 (g := (mkF m 1 #[.val (.ref ob), .val (.int p0)] [(.ref ob)])) rfl (by rw [hml]; rfl) rfl (hb hby d3_1) (by decide) (W := 0) (by show 2 * 0 + _ ≤ _; exact Nat.le_of_eq rfl) (by decide)
  obtain ⟨T3, h3, k3, X3, e3, E3, A3, st3⟩ := newP X2 hx hZ (hw _ (List.mem_of_getElem? (i := 19) rfl)) e2 (g := (mkF m 8 #[.val (.ref ob), .val (.int p0)] [(.int (p0 + (1 : Int32))), (.ref ob)])) rfl (hb hby d3_8) rfl (own_p1n p0 hp1 hp2) (cap := 9) (own_p1c p0 hp1 hp2) (by decide) (by decide) (by decide)
  obtain ⟨b3, g3⟩ : ∃ z, z = h0.size := ⟨_, rfl⟩
  rw [← g3] at A3 st3
  have ne_ob_b3 : ob ≠ b3 := Nat.ne_of_lt (Nat.lt_of_lt_of_le k1_0.lt (Nat.le_of_eq g3.symm))
  have ge_b3 : n0 ≤ b3 := Nat.le_trans Z0 (Nat.le_of_eq g3.symm)
  have sz_b3 : h0.size ≤ b3 := Nat.le_trans (Keep.refl h0 [ob]).1 (Nat.le_of_eq g3.symm)
  have Z3 : n0 ≤ h3.size := Nat.le_trans Z0 E3.1
  have K3 := (Keep.refl h0 [ob]).ext E3
  have V3 := AJ.new A3 (own_p1n p0 hp1 hp2)
  obtain ⟨T4, h4, X4, e4, W4, st4⟩ := putF X3 hx hZ hown (host := "") (Or.inl (hw _ (List.mem_of_getElem? (i := 20) rfl))) Via.refl e3 (k1_1.ext E3) (k1_0.ext E3) (Or.inr ⟨(hw _ (List.mem_of_getElem? (i := 21) rfl)), rfl, hnm⟩) (hw _ (List.mem_of_getElem? (i := 11) rfl)) (ty := (.array .long)) (by decide) rfl rfl (g := (mkF m 10 #[.val (.ref ob), .val (.int p0)] [(.ref b3), (.ref ob)])) rfl rfl (hb hby d3_10)
  have f5 := ((k1_2.ext E3).other W4 (Or.inr (slot_ne (Or.inr (hw _ (List.mem_of_getElem? (i := 23) rfl))) (Or.inr (hw _ (List.mem_of_getElem? (i := 21) rfl))) (by decide) (t := (.array .int)) (t' := (.array .long)) (by decide) (by decide))))
  have f6 := ((k1_3.ext E3).other W4 (Or.inr (slot_ne (Or.inr (hw _ (List.mem_of_getElem? (i := 34) rfl))) (Or.inr (hw _ (List.mem_of_getElem? (i := 21) rfl))) (by decide) (t := .int) (t' := (.array .long)) (by decide) (by decide))))
  have f7 := ((k1_4.ext E3).other W4 (Or.inr (slot_ne (Or.inl (hw _ (List.mem_of_getElem? (i := 41) rfl))) (Or.inr (hw _ (List.mem_of_getElem? (i := 21) rfl))) (by decide) (t := .long) (t' := (.array .long)) (by decide) (by decide))))
  have Z4 : n0 ≤ h4.size := Nat.le_trans Z3 (Keep.of_wr W4).1
  have N4 := Fr.snoc X4 N0 k1_g_ob
  have K4 := K3.wr W4 (Or.inl (List.mem_of_getElem? (i := 0) rfl))
  obtain ⟨T8, h8, k8, X8, e8, E8, A8, st8⟩ := newP X4 hx hZ (hw _ (List.mem_of_getElem? (i := 1) rfl)) e4 (g := (mkF m 15 #[.val (.ref ob), .val (.int p0)] [(.int p0), (.ref ob)])) rfl (hb hby d3_15) rfl (own_pn p0 hp1 hp2) (cap := 8) (own_pc p0 hp1 hp2) (by decide) (by decide) (by decide)
  obtain ⟨b8, g8⟩ : ∃ z, z = h4.size := ⟨_, rfl⟩
  rw [← g8] at A8 st8
  have ne_ob_b8 : ob ≠ b8 := Nat.ne_of_lt (Nat.lt_of_lt_of_le ((k1_0.ext E3).wr W4).lt (Nat.le_of_eq g8.symm))
  have ne_b3_b8 : b3 ≠ b8 := Nat.ne_of_lt (Nat.lt_of_lt_of_le (V3.other W4 (Ne.symm ne_ob_b3)).lt (Nat.le_of_eq g8.symm))
  have ge_b8 : n0 ≤ b8 := Nat.le_trans Z4 (Nat.le_of_eq g8.symm)
  have sz_b8 : h0.size ≤ b8 := Nat.le_trans K4.1 (Nat.le_of_eq g8.symm)
  have Z8 : n0 ≤ h8.size := Nat.le_trans Z4 E8.1
  have K8 := K4.ext E8
  have V8 := AI.new A8 (own_pn p0 hp1 hp2)
  obtain ⟨T9, h9, X9, e9, W9, st9⟩ := putF X8 hx hZ hown (host := "") (Or.inl (hw _ (List.mem_of_getElem? (i := 22) rfl))) Via.refl e8 (f5.ext E8) (((k1_0.ext E3).wr W4).ext E8) (Or.inr ⟨(hw _ (List.mem_of_getElem? (i := 23) rfl)), rfl, hnm⟩) (hw _ (List.mem_of_getElem? (i := 11) rfl)) (ty := (.array .int)) (by decide) rfl rfl (g := (mkF m 17 #[.val (.ref ob), .val (.int p0)] [(.ref b8), (.ref ob)])) rfl rfl (hb hby d3_17)
  have f10 := ((((k1_1.ext E3).same W4).ext E8).other W9 (Or.inr (slot_ne (Or.inr (hw _ (List.mem_of_getElem? (i := 21) rfl))) (Or.inr (hw _ (List.mem_of_getElem? (i := 23) rfl))) (by decide) (t := (.array .long)) (t' := (.array .int)) (by decide) (by decide))))
  have f11 := ((f6.ext E8).other W9 (Or.inr (slot_ne (Or.inr (hw _ (List.mem_of_getElem? (i := 34) rfl))) (Or.inr (hw _ (List.mem_of_getElem? (i := 23) rfl))) (by decide) (t := .int) (t' := (.array .int)) (by decide) (by decide))))
  have f12 := ((f7.ext E8).other W9 (Or.inr (slot_ne (Or.inl (hw _ (List.mem_of_getElem? (i := 41) rfl))) (Or.inr (hw _ (List.mem_of_getElem? (i := 23) rfl))) (by decide) (t := .long) (t' := (.array .int)) (by decide) (by decide))))
  have Z9 : n0 ≤ h9.size := Nat.le_trans Z8 (Keep.of_wr W9).1
  have N9 := Fr.snoc X9 N4 k1_g_ob
  have K9 := K8.wr W9 (Or.inl (List.mem_of_getElem? (i := 0) rfl))
  obtain ⟨_, _, ⟨T13, L13, k13, n13⟩, -, X13, ⟨Lc13, hQ13, l13, y13, z13⟩, st13⟩ := Jvm.LawKit.callS X9 hx (y := (⟨"java/lang/Integer", "highestOneBit", "(I)I"⟩ : MethodName)) hown (mvT hZ (hw _ (List.mem_of_getElem? (i := 24) rfl))) (mvT hZ (hw _ (List.mem_of_getElem? (i := 25) rfl))) (mvT hZ (hw _ (List.mem_of_getElem? (i := 26) rfl))) (mvT hZ (hw _ (List.mem_of_getElem? (i := 27) rfl))) (by decide) (backOf (W := 1) (rm5 l Z a0 hw [] p0 h9 n0 Z9) hZ (hw _ (List.mem_of_getElem? (i := 27) rfl)) (hw _ (List.mem_of_getElem? (i := 26) rfl)) (by decide) (by decide)) (g := (mkF m 30 #[.val (.ref ob), .val (.int p0)] [(.int p0), (.ref ob)])) rfl (by rw [hml]; rfl) (argsL := [(.int p0)]) (rest := [(.ref ob)]) (lenOf pd_4 rfl) rfl (by show 2 * 0 + _ ≤ _; exact Nat.le_of_eq rfl) (hb hby d3_30) (fun _ _ => ⟨rfl, e9, (by decide : 2 + 0 ≤ _), (by decide : 17 + 0 ≤ _)⟩)
  dsimp only [Pt.U, Pt.locs, Pt.cells, Pt.slots] at X13 l13 y13 z13 st13 hQ13
  subst y13 z13
  obtain ⟨rfl, N13q, e13⟩ := hQ13
  have N13 : Fr n0 L13 := by rw [l13]; exact Fr.app N9 N13q
  obtain ⟨T14, h14, X14, e14, W14, st14⟩ := putF X13 hx hZ hown (host := "") (Or.inl (hw _ (List.mem_of_getElem? (i := 33) rfl))) Via.refl e13 f11 ((((k1_0.ext E3).wr W4).ext E8).wr W9) (Or.inr ⟨(hw _ (List.mem_of_getElem? (i := 34) rfl)), rfl, hnm⟩) (hw _ (List.mem_of_getElem? (i := 11) rfl)) (ty := .int) (by decide) rfl rfl (g := (mkF m 33 #[.val (.ref ob), .val (.int p0)] [(.int (Fhob p0)), (.ref ob)])) rfl rfl (hb hby d3_33)
  have f15 := (f10.other W14 (Or.inr (slot_ne (Or.inr (hw _ (List.mem_of_getElem? (i := 21) rfl))) (Or.inr (hw _ (List.mem_of_getElem? (i := 34) rfl))) (by decide) (t := (.array .long)) (t' := .int) (by decide) (by decide))))
  have f16 := (((f5.ext E8).same W9).other W14 (Or.inr (slot_ne (Or.inr (hw _ (List.mem_of_getElem? (i := 23) rfl))) (Or.inr (hw _ (List.mem_of_getElem? (i := 34) rfl))) (by decide) (t := (.array .int)) (t' := .int) (by decide) (by decide))))
  have f17 := (f12.other W14 (Or.inr (slot_ne (Or.inl (hw _ (List.mem_of_getElem? (i := 41) rfl))) (Or.inr (hw _ (List.mem_of_getElem? (i := 34) rfl))) (by decide) (t := .long) (t' := .int) (by decide) (by decide))))
  have Z14 : n0 ≤ h14.size := Nat.le_trans Z9 (Keep.of_wr W14).1
  have N14 := Fr.snoc X14 N13 k1_g_ob
  have K14 := K9.wr W14 (Or.inl (List.mem_of_getElem? (i := 0) rfl))
  have pre18 : ∀ t, Steps p.tables e below (T14.setTop (mkF m 36 #[.val (.ref ob), .val (.int p0)] [])) t → Steps p.tables e below (s₁.setTop (entryFrame m #[(.ref ob), (.int p0)] 2)) t := by
    intro t k
    refine pre0 t ?_
    show Steps p.tables e below (s₁.setTop (mkF m 0 #[.val (.ref ob), .val (.int p0)] [])) _
    refine XS.aloadN X0.here hx rfl (hb hby d3_0) rfl rfl ?_
    show Steps p.tables e below (s₁.setTop (mkF m 1 #[.val (.ref ob), .val (.int p0)] [(.ref ob)])) _
    refine st2 _ ?_
    show Steps p.tables e below (T2.setTop (mkF m 4 #[.val (.ref ob), .val (.int p0)] [])) _
    refine XS.aloadN X2.here hx rfl (hb hby d3_4) rfl rfl ?_
    show Steps p.tables e below (T2.setTop (mkF m 5 #[.val (.ref ob), .val (.int p0)] [(.ref ob)])) _
    refine XS.iloadN X2.here hx rfl (hb hby d3_5) rfl ?_
    show Steps p.tables e below (T2.setTop (mkF m 6 #[.val (.ref ob), .val (.int p0)] [(.int p0), (.ref ob)])) _
    refine XS.iconst X2.here hx rfl (hb hby d3_6) ?_
    show Steps p.tables e below (T2.setTop (mkF m 7 #[.val (.ref ob), .val (.int p0)] [(.int (1 : Int32)), (.int p0), (.ref ob)])) _
    refine XS.iadd X2.here hx rfl (hb hby d3_7) rfl ?_
    show Steps p.tables e below (T2.setTop (mkF m 8 #[.val (.ref ob), .val (.int p0)] [(.int (p0 + (1 : Int32))), (.ref ob)])) _
    refine st3 _ ?_
    show Steps p.tables e below (T3.setTop (mkF m 10 #[.val (.ref ob), .val (.int p0)] [(.ref b3), (.ref ob)])) _
    refine st4 _ ?_
    show Steps p.tables e below (T4.setTop (mkF m 13 #[.val (.ref ob), .val (.int p0)] [])) _
    refine XS.aloadN X4.here hx rfl (hb hby d3_13) rfl rfl ?_
    show Steps p.tables e below (T4.setTop (mkF m 14 #[.val (.ref ob), .val (.int p0)] [(.ref ob)])) _
    refine XS.iloadN X4.here hx rfl (hb hby d3_14) rfl ?_
    show Steps p.tables e below (T4.setTop (mkF m 15 #[.val (.ref ob), .val (.int p0)] [(.int p0), (.ref ob)])) _
    refine st8 _ ?_
    show Steps p.tables e below (T8.setTop (mkF m 17 #[.val (.ref ob), .val (.int p0)] [(.ref b8), (.ref ob)])) _
    refine st9 _ ?_
    show Steps p.tables e below (T9.setTop (mkF m 20 #[.val (.ref ob), .val (.int p0)] [])) _
    refine XS.aloadN X9.here hx rfl (hb hby d3_20) rfl rfl ?_
    show Steps p.tables e below (T9.setTop (mkF m 21 #[.val (.ref ob), .val (.int p0)] [(.ref ob)])) _
    refine XS.iloadN X9.here hx rfl (hb hby d3_21) rfl ?_
    show Steps p.tables e below (T9.setTop (mkF m 22 #[.val (.ref ob), .val (.int p0)] [(.int p0), (.ref ob)])) _
    refine XS.ifYes X9.here hx rfl (pc0 := 22) (pc' := 29) rfl (hb hby d3_22) rfl ((if0 _ _).trans (feq hp0).2) (by decide) (by decide) ?_
    show Steps p.tables e below (T9.setTop (mkF m 29 #[.val (.ref ob), .val (.int p0)] [(.ref ob)])) _
    refine XS.iloadN X9.here hx rfl (hb hby d3_29) rfl ?_
    show Steps p.tables e below (T9.setTop (mkF m 30 #[.val (.ref ob), .val (.int p0)] [(.int p0), (.ref ob)])) _
    refine st13 _ ?_
    show Steps p.tables e below (T13.setTop (mkF m 33 #[.val (.ref ob), .val (.int p0)] [(.int (Fhob p0)), (.ref ob)])) _
    refine st14 _ ?_
    exact k
  obtain ⟨fs, hr, hrun, hended, hW, hsame⟩ := X14.leave (v := none) (fun _ => rfl) (BodyLoose.notSynchronized Bd)
  refine ⟨_, _, pre18 _ ?_, hrun, hended, _, _, rfl, ?_, ⟨_, rfl⟩, hW, hsame.mono (by decide) (by decide)⟩
  · show Steps p.tables e below (T14.setTop (mkF m 36 #[.val (.ref ob), .val (.int p0)] [])) _
    exact X14.returnOut hx Bd.returns (hb hby d3_36) hr
  · show Q3 Z ob p0 h0 n0 _ T14.heap _
    rw [e14]
    exact ⟨rfl, N14, b3, b8, ⟨⟨(((((k1_0.ext E3).wr W4).ext E8).wr W9).wr W14), f15, f16, (f11.same W14), f17, ((((V3.other W4 (Ne.symm ne_ob_b3)).ext E8).other W9 (Ne.symm ne_ob_b3)).other W14 (Ne.symm ne_ob_b3)), ((V8.other W9 (Ne.symm ne_ob_b8)).other W14 (Ne.symm ne_ob_b8)), k1_g_ob, ge_b3, ge_b8, ne_ob_b3, ne_ob_b8, ne_b3_b8, Z14⟩, fun x hx => Nat.ne_of_lt (Nat.lt_of_lt_of_le hx sz_b3), fun x hx => Nat.ne_of_lt (Nat.lt_of_lt_of_le hx sz_b8)⟩, K14⟩
def own_dl (ix sh : Int32) (sf : Int32 → Int32) : Int64 := ((sh - (sf ix)).toInt64)
theorem d9_39 : decode prog_6_method_3_code 39 = .ok (.iload 5, 2) := by decide +kernel
theorem d9_41 : decode prog_6_method_3_code 41 = .ok (.aload_n 0, 1) := by decide +kernel
theorem d9_42 : decode prog_6_method_3_code 42 = .ok (.getfield 7, 3) := by decide +kernel
theorem d9_45 : decode prog_6_method_3_code 45 = .ok (.arraylength, 1) := by decide +kernel
theorem d9_46 : decode prog_6_method_3_code 46 = .ok (.if_icmp .ge 28, 3) := by decide +kernel
theorem d9_49 : decode prog_6_method_3_code 49 = .ok (.aload_n 0, 1) := by decide +kernel
theorem d9_50 : decode prog_6_method_3_code 50 = .ok (.getfield 7, 3) := by decide +kernel
theorem d9_53 : decode prog_6_method_3_code 53 = .ok (.iload 5, 2) := by decide +kernel
theorem d9_55 : decode prog_6_method_3_code 55 = .ok (.dup2, 1) := by decide +kernel
theorem d9_56 : decode prog_6_method_3_code 56 = .ok (.laload, 1) := by decide +kernel
theorem d9_57 : decode prog_6_method_3_code 57 = .ok (.lload_n 3, 1) := by decide +kernel
theorem d9_58 : decode prog_6_method_3_code 58 = .ok (.ladd, 1) := by decide +kernel
theorem d9_59 : decode prog_6_method_3_code 59 = .ok (.lastore, 1) := by decide +kernel
theorem d9_60 : decode prog_6_method_3_code 60 = .ok (.iload 5, 2) := by decide +kernel
theorem d9_62 : decode prog_6_method_3_code 62 = .ok (.iload 5, 2) := by decide +kernel
theorem d9_64 : decode prog_6_method_3_code 64 = .ok (.iload 5, 2) := by decide +kernel
theorem d9_66 : decode prog_6_method_3_code 66 = .ok (.ineg, 1) := by decide +kernel
theorem d9_67 : decode prog_6_method_3_code 67 = .ok (.iand, 1) := by decide +kernel
theorem d9_68 : decode prog_6_method_3_code 68 = .ok (.iadd, 1) := by decide +kernel
theorem d9_69 : decode prog_6_method_3_code 69 = .ok (.istore 5, 2) := by decide +kernel
theorem d9_71 : decode prog_6_method_3_code 71 = .ok (.goto (-32), 3) := by decide +kernel
def st_k (kk : Int32) : Int32 := (kk + (kk &&& ((-kk))))
def st_f (dl : Int64) (kk : Int32) (nf : Int32 → Int64) : Int32 → Int64 := (@upA Int64 nf kk ((nf kk) + dl))
set_option maxRecDepth 65536 in
set_option maxHeartbeats 40000000 in
theorem stTurn {p : Program} {l : Launch} {e : Env} {R : Room} {s : State} {m : MethodId} {args : Array Value} {below : List Frame} {meth : Method} {c : Code} {T0 : State} {locs : List Loc} {cells slots : Nat} {Z : State} {a0 : Array Value} {h0 : Heap} {n0 : Nat} (ix : Int32) (sh : Int32) (dl : Int64) (kk : Int32) (ob : Addr) (an : Addr) (as : Addr) (fst : Int32) (tt : Int64) (nn : Int32) (nf : Int32 → Int64) (ns : Int32) (sf : Int32 → Int32)
    (X0 : Stand p l e R s m args below meth c T0 locs cells slots) (hx : p.tables.exec = Jvm.exec) (hZ : Z.Warmed39 s.vm) (hw : ∀ d ∈ tables_1, d.before a0 Z = true) (hby : c.code = prog_6_method_3_code) (hml : c.maxLocals = 6) (hown : s.vm.findClass "com/example/dealer/dealer/ChangingShares" = some m.cls) (e0 : T0.heap = h0) (N0 : Fr n0 locs) (Z0 : n0 ≤ h0.size) (I0 : CS Z h0 n0 ob an as fst tt nn nf ns sf) (hlt : kk < nn) (h0k : ¬ kk < 0) :
    ∃ (T' : State) (h' : Heap) (locs' : List Loc), Stand p l e R s m args below meth c T' locs' cells slots ∧ T'.heap = h' ∧ Fr n0 locs' ∧ (CS Z h' n0 ob an as fst tt nn (st_f dl kk nf) ns sf) ∧ ∀ t, Steps p.tables e below (T'.setTop (mkF m 39 #[.val (.ref ob), .val (.int ix), .val (.int sh), .val (.long dl), .second, .val (.int (st_k kk))] [])) t → Steps p.tables e below (T0.setTop (mkF m 39 #[.val (.ref ob), .val (.int ix), .val (.int sh), .val (.long dl), .second, .val (.int kk)] [])) t := by
  have pre0 : ∀ t, Steps p.tables e below (T0.setTop (mkF m 39 #[.val (.ref ob), .val (.int ix), .val (.int sh), .val (.long dl), .second, .val (.int kk)] [])) t → Steps p.tables e below (T0.setTop (mkF m 39 #[.val (.ref ob), .val (.int ix), .val (.int sh), .val (.long dl), .second, .val (.int kk)] [])) t := fun t k => k
  obtain ⟨k1_0, k1_1, k1_2, k1_3, k1_4, k1_5, k1_6, k1_g_ob, k1_g_an, k1_g_as, k1_n_ob_an, k1_n_ob_as, k1_n_an_as, k1_sz⟩ := I0
  obtain ⟨T2, X2, e2, st2⟩ := getF X0 hx hZ hown (host := "") (Or.inl (hw _ (List.mem_of_getElem? (i := 20) rfl))) Via.refl e0 k1_1 (g := (mkF m 42 #[.val (.ref ob), .val (.int ix), .val (.int sh), .val (.long dl), .second, .val (.int kk)] [(.ref ob), (.int kk)])) rfl rfl (hb hby d9_42)
  obtain ⟨T3, X3, e3, st3⟩ := getF X2 hx hZ hown (host := "") (Or.inl (hw _ (List.mem_of_getElem? (i := 20) rfl))) Via.refl e2 k1_1 (g := (mkF m 50 #[.val (.ref ob), .val (.int ix), .val (.int sh), .val (.long dl), .second, .val (.int kk)] [(.ref ob)])) rfl rfl (hb hby d9_50)
  obtain ⟨T4, h4, X4, e4, W4, V4, st4⟩ := wrJ X3 hx hZ e3 k1_5 (j := kk) ⟨h0k, hlt⟩  (g := (mkF m 59 #[.val (.ref ob), .val (.int ix), .val (.int sh), .val (.long dl), .second, .val (.int kk)] [(.long ((nf kk) + dl)), (.int kk), (.ref an)])) rfl rfl (hb hby d9_59)
  have Z4 : n0 ≤ h4.size := Nat.le_trans Z0 (Keep.of_wr W4).1
  have N4 := Fr.snoc X4 N0 k1_g_an
  have pre5 : ∀ t, Steps p.tables e below (T4.setTop (mkF m 39 #[.val (.ref ob), .val (.int ix), .val (.int sh), .val (.long dl), .second, .val (.int (kk + (kk &&& ((-kk)))))] [])) t → Steps p.tables e below (T0.setTop (mkF m 39 #[.val (.ref ob), .val (.int ix), .val (.int sh), .val (.long dl), .second, .val (.int kk)] [])) t := by
    intro t k
    refine pre0 t ?_
    show Steps p.tables e below (T0.setTop (mkF m 39 #[.val (.ref ob), .val (.int ix), .val (.int sh), .val (.long dl), .second, .val (.int kk)] [])) _
    refine XS.iload X0.here hx rfl (hb hby d9_39) rfl ?_
    show Steps p.tables e below (T0.setTop (mkF m 41 #[.val (.ref ob), .val (.int ix), .val (.int sh), .val (.long dl), .second, .val (.int kk)] [(.int kk)])) _
    refine XS.aloadN X0.here hx rfl (hb hby d9_41) rfl rfl ?_
    show Steps p.tables e below (T0.setTop (mkF m 42 #[.val (.ref ob), .val (.int ix), .val (.int sh), .val (.long dl), .second, .val (.int kk)] [(.ref ob), (.int kk)])) _
    refine st2 _ ?_
    show Steps p.tables e below (T2.setTop (mkF m 45 #[.val (.ref ob), .val (.int ix), .val (.int sh), .val (.long dl), .second, .val (.int kk)] [(.ref an), (.int kk)])) _
    refine lnG X2 hx hZ e2 k1_5 (g := (mkF m 45 #[.val (.ref ob), .val (.int ix), .val (.int sh), .val (.long dl), .second, .val (.int kk)] [(.ref an), (.int kk)])) rfl rfl (hb hby d9_45) _ ?_
    show Steps p.tables e below (T2.setTop (mkF m 46 #[.val (.ref ob), .val (.int ix), .val (.int sh), .val (.long dl), .second, .val (.int kk)] [(.int nn), (.int kk)])) _
    refine XS.icmpNo X2.here hx rfl (hb hby d9_46) rfl (tlt hlt).2.1 ?_
    show Steps p.tables e below (T2.setTop (mkF m 49 #[.val (.ref ob), .val (.int ix), .val (.int sh), .val (.long dl), .second, .val (.int kk)] [])) _
    refine XS.aloadN X2.here hx rfl (hb hby d9_49) rfl rfl ?_
    show Steps p.tables e below (T2.setTop (mkF m 50 #[.val (.ref ob), .val (.int ix), .val (.int sh), .val (.long dl), .second, .val (.int kk)] [(.ref ob)])) _
    refine st3 _ ?_
    show Steps p.tables e below (T3.setTop (mkF m 53 #[.val (.ref ob), .val (.int ix), .val (.int sh), .val (.long dl), .second, .val (.int kk)] [(.ref an)])) _
    refine XS.iload X3.here hx rfl (hb hby d9_53) rfl ?_
    show Steps p.tables e below (T3.setTop (mkF m 55 #[.val (.ref ob), .val (.int ix), .val (.int sh), .val (.long dl), .second, .val (.int kk)] [(.int kk), (.ref an)])) _
    refine Jvm.Free.XT.dup2 X3.here hx rfl (hb hby d9_55) rfl rfl rfl ?_
    show Steps p.tables e below (T3.setTop (mkF m 56 #[.val (.ref ob), .val (.int ix), .val (.int sh), .val (.long dl), .second, .val (.int kk)] [(.int kk), (.ref an), (.int kk), (.ref an)])) _
    refine rdJ X3 hx hZ e3 k1_5 (j := kk) ⟨h0k, hlt⟩ rfl (g := (mkF m 56 #[.val (.ref ob), .val (.int ix), .val (.int sh), .val (.long dl), .second, .val (.int kk)] [(.int kk), (.ref an), (.int kk), (.ref an)])) rfl rfl (hb hby d9_56) _ ?_
    show Steps p.tables e below (T3.setTop (mkF m 57 #[.val (.ref ob), .val (.int ix), .val (.int sh), .val (.long dl), .second, .val (.int kk)] [(.long (nf kk)), (.int kk), (.ref an)])) _
    refine XS.lloadN X3.here hx rfl (hb hby d9_57) rfl ?_
    show Steps p.tables e below (T3.setTop (mkF m 58 #[.val (.ref ob), .val (.int ix), .val (.int sh), .val (.long dl), .second, .val (.int kk)] [(.long dl), (.long (nf kk)), (.int kk), (.ref an)])) _
    refine XS.ladd X3.here hx rfl (hb hby d9_58) rfl ?_
    show Steps p.tables e below (T3.setTop (mkF m 59 #[.val (.ref ob), .val (.int ix), .val (.int sh), .val (.long dl), .second, .val (.int kk)] [(.long ((nf kk) + dl)), (.int kk), (.ref an)])) _
    refine st4 _ ?_
    show Steps p.tables e below (T4.setTop (mkF m 60 #[.val (.ref ob), .val (.int ix), .val (.int sh), .val (.long dl), .second, .val (.int kk)] [])) _
    refine XS.iload X4.here hx rfl (hb hby d9_60) rfl ?_
    show Steps p.tables e below (T4.setTop (mkF m 62 #[.val (.ref ob), .val (.int ix), .val (.int sh), .val (.long dl), .second, .val (.int kk)] [(.int kk)])) _
    refine XS.iload X4.here hx rfl (hb hby d9_62) rfl ?_
    show Steps p.tables e below (T4.setTop (mkF m 64 #[.val (.ref ob), .val (.int ix), .val (.int sh), .val (.long dl), .second, .val (.int kk)] [(.int kk), (.int kk)])) _
    refine XS.iload X4.here hx rfl (hb hby d9_64) rfl ?_
    show Steps p.tables e below (T4.setTop (mkF m 66 #[.val (.ref ob), .val (.int ix), .val (.int sh), .val (.long dl), .second, .val (.int kk)] [(.int kk), (.int kk), (.int kk)])) _
    refine XS.ineg X4.here hx rfl (hb hby d9_66) rfl ?_
    show Steps p.tables e below (T4.setTop (mkF m 67 #[.val (.ref ob), .val (.int ix), .val (.int sh), .val (.long dl), .second, .val (.int kk)] [(.int ((-kk))), (.int kk), (.int kk)])) _
    refine XS.iand X4.here hx rfl (hb hby d9_67) rfl ?_
    show Steps p.tables e below (T4.setTop (mkF m 68 #[.val (.ref ob), .val (.int ix), .val (.int sh), .val (.long dl), .second, .val (.int kk)] [(.int (kk &&& ((-kk)))), (.int kk)])) _
    refine XS.iadd X4.here hx rfl (hb hby d9_68) rfl ?_
    show Steps p.tables e below (T4.setTop (mkF m 69 #[.val (.ref ob), .val (.int ix), .val (.int sh), .val (.long dl), .second, .val (.int kk)] [(.int (kk + (kk &&& ((-kk)))))])) _
    refine XS.istore X4.here hx rfl (hb hby d9_69) rfl (l' := #[.val (.ref ob), .val (.int ix), .val (.int sh), .val (.long dl), .second, .val (.int (kk + (kk &&& ((-kk)))))]) rfl ?_
    show Steps p.tables e below (T4.setTop (mkF m 71 #[.val (.ref ob), .val (.int ix), .val (.int sh), .val (.long dl), .second, .val (.int (kk + (kk &&& ((-kk)))))] [])) _
    refine XS.goto X4.here hx rfl (pc0 := 71) (pc' := 39) rfl (hb hby d9_71) (by decide) (by decide) ?_
    exact k
  refine ⟨T4, _, _, X4, e4, N4, ⟨(k1_0.wr W4), (k1_1.other W4 (Or.inl k1_n_ob_an)), (k1_2.other W4 (Or.inl k1_n_ob_an)), (k1_3.other W4 (Or.inl k1_n_ob_an)), (k1_4.other W4 (Or.inl k1_n_ob_an)), (by rw [(show (st_f dl kk nf) = (@upA Int64 nf kk ((nf kk) + dl)) from rfl)]; exact V4), (k1_6.other W4 (Ne.symm k1_n_an_as)), k1_g_ob, k1_g_an, k1_g_as, k1_n_ob_an, k1_n_ob_as, k1_n_an_as, Z4⟩, fun t k => ?_⟩
  rw [(show (st_k kk) = (kk + (kk &&& ((-kk)))) from rfl)] at k
  exact pre5 t k
def stK (nn : Int32) : Nat → Int32 → Int32
  | 0, k => k
  | n + 1, k => if k < nn then stK nn n (st_k k) else k
def stF (nn : Int32) (dl : Int64) : Nat → Int32 → (Int32 → Int64) → (Int32 → Int64)
  | 0, _, f => f
  | n + 1, k, f => if k < nn then stF nn dl n (st_k k) (st_f dl k f) else f
def stOk (nn : Int32) : Nat → Int32 → Bool
  | 0, _ => true
  | n + 1, k => if k < nn then (if k < 0 then false else stOk nn n (st_k k)) else true
set_option maxHeartbeats 4000000 in
theorem stLoop {p : Program} {l : Launch} {e : Env} {R : Room} {s : State} {m : MethodId} {args : Array Value} {below : List Frame} {meth : Method} {c : Code} {cells slots : Nat} {Z : State} {a0 : Array Value} {n0 : Nat} (ix sh : Int32) (dl : Int64) (ob an as : Addr) (fst : Int32) (tt : Int64) (nn ns : Int32) (sf : Int32 → Int32)
    (hx : p.tables.exec = Jvm.exec) (hZ : Z.Warmed39 s.vm) (hw : ∀ d ∈ tables_1, d.before a0 Z = true) (hby : c.code = prog_6_method_3_code) (hml : c.maxLocals = 6) (hown : s.vm.findClass "com/example/dealer/dealer/ChangingShares" = some m.cls) (n : Nat) : ∀ {T0 : State} {locs : List Loc} {h0 : Heap} (kk : Int32) (nf : Int32 → Int64) (X0 : Stand p l e R s m args below meth c T0 locs cells slots) (e0 : T0.heap = h0) (N0 : Fr n0 locs) (I0 : CS Z h0 n0 ob an as fst tt nn nf ns sf) (hok : stOk nn n kk = true),
    ∃ (T' : State) (h' : Heap) (locs' : List Loc), Stand p l e R s m args below meth c T' locs' cells slots ∧ T'.heap = h' ∧ Fr n0 locs' ∧ CS Z h' n0 ob an as fst tt nn (stF nn dl n kk nf) ns sf ∧ ∀ t, Steps p.tables e below (T'.setTop (mkF m 39 #[.val (.ref ob), .val (.int ix), .val (.int sh), .val (.long dl), .second, .val (.int (stK nn n kk))] [])) t → Steps p.tables e below (T0.setTop (mkF m 39 #[.val (.ref ob), .val (.int ix), .val (.int sh), .val (.long dl), .second, .val (.int kk)] [])) t := by
  induction n with
  | zero =>
    intro T0 locs h0 kk nf X0 e0 N0 I0 hok
    exact ⟨T0, h0, locs, X0, e0, N0, I0, fun t k => k⟩
  | succ n ih =>
    intro T0 locs h0 kk nf X0 e0 N0 I0 hok
    by_cases hlt : kk < nn
    · have h0k : ¬ kk < 0 := fun q => by
        have w : stOk nn (n + 1) kk = false := (if_pos hlt).trans (if_pos q)
        rw [w] at hok; cases hok
      have hok2 : stOk nn n (st_k kk) = true := by
        have w : stOk nn (n + 1) kk = stOk nn n (st_k kk) := (if_pos hlt).trans (if_neg h0k)
        rw [← w]; exact hok
      obtain ⟨T1, h1, locs1, X1, q1, N1, I1, st1⟩ := stTurn ix sh dl kk ob an as fst tt nn nf ns sf X0 hx hZ hw hby hml hown e0 N0 I0.2.2.2.2.2.2.2.2.2.2.2.2.2 I0 hlt h0k
      obtain ⟨T2, h2, locs2, X2, q2, N2, I2, st2⟩ := ih (st_k kk) (st_f dl kk nf) X1 q1 N1 I1 hok2
      have e1 : stK nn (n + 1) kk = stK nn n (st_k kk) := if_pos hlt
      have e2 : stF nn dl (n + 1) kk nf = stF nn dl n (st_k kk) (st_f dl kk nf) := if_pos hlt
      rw [e1, e2]
      exact ⟨T2, h2, locs2, X2, q2, N2, I2, fun t k => st1 t (st2 t k)⟩
    · have e1 : stK nn (n + 1) kk = kk := if_neg hlt
      have e2 : stF nn dl (n + 1) kk nf = nf := if_neg hlt
      rw [e1, e2]
      exact ⟨T0, h0, locs, X0, e0, N0, I0, fun t k => k⟩
theorem d9_0 : decode prog_6_method_3_code 0 = .ok (.iload_n 2, 1) := by decide +kernel
theorem d9_1 : decode prog_6_method_3_code 1 = .ok (.aload_n 0, 1) := by decide +kernel
theorem d9_2 : decode prog_6_method_3_code 2 = .ok (.getfield 13, 3) := by decide +kernel
theorem d9_5 : decode prog_6_method_3_code 5 = .ok (.iload_n 1, 1) := by decide +kernel
theorem d9_6 : decode prog_6_method_3_code 6 = .ok (.iaload, 1) := by decide +kernel
theorem d9_7 : decode prog_6_method_3_code 7 = .ok (.isub, 1) := by decide +kernel
theorem d9_8 : decode prog_6_method_3_code 8 = .ok (.i2l, 1) := by decide +kernel
theorem d9_9 : decode prog_6_method_3_code 9 = .ok (.lstore_n 3, 1) := by decide +kernel
theorem d9_10 : decode prog_6_method_3_code 10 = .ok (.aload_n 0, 1) := by decide +kernel
theorem d9_11 : decode prog_6_method_3_code 11 = .ok (.getfield 13, 3) := by decide +kernel
theorem d9_14 : decode prog_6_method_3_code 14 = .ok (.iload_n 1, 1) := by decide +kernel
theorem d9_15 : decode prog_6_method_3_code 15 = .ok (.iload_n 2, 1) := by decide +kernel
theorem d9_16 : decode prog_6_method_3_code 16 = .ok (.iastore, 1) := by decide +kernel
theorem d9_17 : decode prog_6_method_3_code 17 = .ok (.lload_n 3, 1) := by decide +kernel
theorem d9_18 : decode prog_6_method_3_code 18 = .ok (.lconst 0, 1) := by decide +kernel
theorem d9_19 : decode prog_6_method_3_code 19 = .ok (.lcmp, 1) := by decide +kernel
theorem d9_20 : decode prog_6_method_3_code 20 = .ok (.ifCond .ne 4, 3) := by decide +kernel
theorem d9_23 : decode prog_6_method_3_code 23 = .ok (.return_, 1) := by decide +kernel
theorem d9_24 : decode prog_6_method_3_code 24 = .ok (.aload_n 0, 1) := by decide +kernel
theorem d9_25 : decode prog_6_method_3_code 25 = .ok (.dup, 1) := by decide +kernel
theorem d9_26 : decode prog_6_method_3_code 26 = .ok (.getfield 27, 3) := by decide +kernel
theorem d9_29 : decode prog_6_method_3_code 29 = .ok (.lload_n 3, 1) := by decide +kernel
theorem d9_30 : decode prog_6_method_3_code 30 = .ok (.ladd, 1) := by decide +kernel
theorem d9_31 : decode prog_6_method_3_code 31 = .ok (.putfield 27, 3) := by decide +kernel
theorem d9_34 : decode prog_6_method_3_code 34 = .ok (.iload_n 1, 1) := by decide +kernel
theorem d9_35 : decode prog_6_method_3_code 35 = .ok (.iconst 1, 1) := by decide +kernel
theorem d9_36 : decode prog_6_method_3_code 36 = .ok (.iadd, 1) := by decide +kernel
theorem d9_37 : decode prog_6_method_3_code 37 = .ok (.istore 5, 2) := by decide +kernel
theorem d9_74 : decode prog_6_method_3_code 74 = .ok (.return_, 1) := by decide +kernel
theorem ef_9 (m : MethodId) (x0 : Addr) (x1 : Int32) (x2 : Int32) : entryFrame m #[(.ref x0), (.int x1), (.int x2)] 6 = mkF m 0 #[.val (.ref x0), .val (.int x1), .val (.int x2), .unset, .unset, .unset] [] := by first | (simp [entryFrame, mkF, argsToLocals, Value.category]; done) | rfl
def Fset_t (ix : Int32) (sh : Int32) (tt : Int64) (sf : Int32 → Int32) : Int64 := (if (own_dl ix sh sf) = (0 : Int64) then tt else (tt + (own_dl ix sh sf)))
def Fset_n (ix : Int32) (sh : Int32) (nn : Int32) (nf : Int32 → Int64) (sf : Int32 → Int32) : Int32 → Int64 := (if (own_dl ix sh sf) = (0 : Int64) then nf else (stF nn (own_dl ix sh sf) 4 (ix + (1 : Int32)) nf))
def Fset_s (ix : Int32) (sh : Int32) (sf : Int32 → Int32) : Int32 → Int32 := (@upA Int32 sf ix sh)
def Q9 (Z : State) (ob : Addr) (ix : Int32) (sh : Int32) (an : Addr) (as : Addr) (fst : Int32) (tt : Int64) (nn : Int32) (nf : Int32 → Int64) (ns : Int32) (sf : Int32 → Int32) (h0 : Heap) (n0 : Nat) (v : Option Value) (h : Heap) (L : List Loc) : Prop := v = none ∧ Fr n0 L ∧ CS Z h n0 ob an as fst (Fset_t ix sh tt sf) nn (Fset_n ix sh nn nf sf) ns (Fset_s ix sh sf)
set_option maxRecDepth 65536 in
set_option maxHeartbeats 40000000 in
theorem rm9 (l : Launch) (Z : State) (a0 : Array Value) (hw : ∀ d ∈ tables_1, d.before a0 Z = true) (ws : List Jvm.Cond) (ob : Addr) (ix : Int32) (sh : Int32) (an : Addr) (as : Addr) (fst : Int32) (tt : Int64) (nn : Int32) (nf : Int32 → Int64) (ns : Int32) (sf : Int32 → Int32) (h0 : Heap) (n0 : Nat) (Z0 : n0 ≤ h0.size) (I0 : CS Z h0 n0 ob an as fst tt nn nf ns sf) (hix : ¬ ix < 0 ∧ ix < ns) (hok : stOk nn 4 (ix + (1 : Int32)) = true) (hex : ¬ (stK nn 4 (ix + (1 : Int32))) < nn) :
    MetFree l (⟨"com/example/dealer/dealer/ChangingShares", "set", "(II)V"⟩ : MethodName) (head1 (Jvm.Cond.code (⟨"com/example/dealer/dealer/ChangingShares", "set", "(II)V"⟩ : MethodName) prog_6_method_3_code 6 none :: ws) ({ frames := 0, cells := 0, slots := 0, locals := 0 } : Room)) (fun a U => a = #[(.ref ob), (.int ix), (.int sh)] ∧ Z.Warmed39 U.vm ∧ U.heap = h0) (fun _ _ _ _ _ => True) (fun _ U o U' => ∃ v L, o = .returned v ∧ Q9 Z ob ix sh an as fst tt nn nf ns sf h0 n0 v U'.heap L ∧ FrameEnd U o U' L ({ frames := 0, cells := 0, slots := 0, locals := 0 } : Room).cells ({ frames := 0, cells := 0, slots := 0, locals := 0 } : Room).slots) := by
  refine MetFree.of_bodySF (plainFor_of_name pn_3) hisR ?_
  intro p e s m args below meth c s₁ Bd hml0 hP hK
  obtain ⟨rfl, hZ, hh⟩ := hP
  have hx := Bd.exec
  have hby := Bd.bytes
  have hml : c.maxLocals = 6 := hml0
  have hown : s.vm.findClass "com/example/dealer/dealer/ChangingShares" = some m.cls := findClass_of_methodNamed Bd.named
  have hnm := (name_of_methodNamed Bd.named Bd.method).1
  have X0 : Stand p l e ({ frames := 0, cells := 0, slots := 0, locals := 0 } : Room) s m #[(.ref ob), (.int ix), (.int sh)] below meth c s₁ [] 0 0 := Stand.of_body Bd
  have e0 : s₁.heap = h0 := by rw [← hh, Bd.state]; rfl
  have N0 := Fr.nil n0
  have pre0 : ∀ t, Steps p.tables e below (s₁.setTop (mkF m 0 #[.val (.ref ob), .val (.int ix), .val (.int sh), .unset, .unset, .unset] [])) t → Steps p.tables e below (s₁.setTop (entryFrame m #[(.ref ob), (.int ix), (.int sh)] 6)) t := fun t k => castTop (ef_9 m ob ix sh) k
  obtain ⟨k1_0, k1_1, k1_2, k1_3, k1_4, k1_5, k1_6, k1_g_ob, k1_g_an, k1_g_as, k1_n_ob_an, k1_n_ob_as, k1_n_an_as, k1_sz⟩ := I0
  obtain ⟨T2, X2, e2, st2⟩ := getF X0 hx hZ hown (host := "") (Or.inl (hw _ (List.mem_of_getElem? (i := 22) rfl))) Via.refl e0 k1_2 (g := (mkF m 2 #[.val (.ref ob), .val (.int ix), .val (.int sh), .unset, .unset, .unset] [(.ref ob), (.int sh)])) rfl rfl (hb hby d9_2)
  obtain ⟨T3, X3, e3, st3⟩ := getF X2 hx hZ hown (host := "") (Or.inl (hw _ (List.mem_of_getElem? (i := 22) rfl))) Via.refl e2 k1_2 (g := (mkF m 11 #[.val (.ref ob), .val (.int ix), .val (.int sh), .val (.long (own_dl ix sh sf)), .second, .unset] [(.ref ob)])) rfl rfl (hb hby d9_11)
  obtain ⟨T4, h4, X4, e4, W4, V4, st4⟩ := wrI X3 hx hZ e3 k1_6 (j := ix) hix  (g := (mkF m 16 #[.val (.ref ob), .val (.int ix), .val (.int sh), .val (.long (own_dl ix sh sf)), .second, .unset] [(.int sh), (.int ix), (.ref as)])) rfl rfl (hb hby d9_16)
  have Z4 : n0 ≤ h4.size := Nat.le_trans Z0 (Keep.of_wr W4).1
  have N4 := Fr.snoc X4 N0 k1_g_as
  have pre5 : ∀ t, Steps p.tables e below (T4.setTop (mkF m 20 #[.val (.ref ob), .val (.int ix), .val (.int sh), .val (.long (own_dl ix sh sf)), .second, .unset] [(.int (lcmpW (own_dl ix sh sf) (0 : Int64)))])) t → Steps p.tables e below (s₁.setTop (entryFrame m #[(.ref ob), (.int ix), (.int sh)] 6)) t := by
    intro t k
    refine pre0 t ?_
    show Steps p.tables e below (s₁.setTop (mkF m 0 #[.val (.ref ob), .val (.int ix), .val (.int sh), .unset, .unset, .unset] [])) _
    refine XS.iloadN X0.here hx rfl (hb hby d9_0) rfl ?_
    show Steps p.tables e below (s₁.setTop (mkF m 1 #[.val (.ref ob), .val (.int ix), .val (.int sh), .unset, .unset, .unset] [(.int sh)])) _
    refine XS.aloadN X0.here hx rfl (hb hby d9_1) rfl rfl ?_
    show Steps p.tables e below (s₁.setTop (mkF m 2 #[.val (.ref ob), .val (.int ix), .val (.int sh), .unset, .unset, .unset] [(.ref ob), (.int sh)])) _
    refine st2 _ ?_
    show Steps p.tables e below (T2.setTop (mkF m 5 #[.val (.ref ob), .val (.int ix), .val (.int sh), .unset, .unset, .unset] [(.ref as), (.int sh)])) _
    refine XS.iloadN X2.here hx rfl (hb hby d9_5) rfl ?_
    show Steps p.tables e below (T2.setTop (mkF m 6 #[.val (.ref ob), .val (.int ix), .val (.int sh), .unset, .unset, .unset] [(.int ix), (.ref as), (.int sh)])) _
    refine rdI X2 hx hZ e2 k1_6 (j := ix) hix rfl (g := (mkF m 6 #[.val (.ref ob), .val (.int ix), .val (.int sh), .unset, .unset, .unset] [(.int ix), (.ref as), (.int sh)])) rfl rfl (hb hby d9_6) _ ?_
    show Steps p.tables e below (T2.setTop (mkF m 7 #[.val (.ref ob), .val (.int ix), .val (.int sh), .unset, .unset, .unset] [(.int (sf ix)), (.int sh)])) _
    refine XS.isub X2.here hx rfl (hb hby d9_7) rfl ?_
    show Steps p.tables e below (T2.setTop (mkF m 8 #[.val (.ref ob), .val (.int ix), .val (.int sh), .unset, .unset, .unset] [(.int (sh - (sf ix)))])) _
    refine XS.i2l X2.here hx rfl (hb hby d9_8) rfl ?_
    show Steps p.tables e below (T2.setTop (mkF m 9 #[.val (.ref ob), .val (.int ix), .val (.int sh), .unset, .unset, .unset] [(.long ((sh - (sf ix)).toInt64))])) _
    refine XS.lstoreN X2.here hx rfl (hb hby d9_9) rfl (l' := #[.val (.ref ob), .val (.int ix), .val (.int sh), .val (.long (own_dl ix sh sf)), .second, .unset]) rfl ?_
    show Steps p.tables e below (T2.setTop (mkF m 10 #[.val (.ref ob), .val (.int ix), .val (.int sh), .val (.long (own_dl ix sh sf)), .second, .unset] [])) _
    refine XS.aloadN X2.here hx rfl (hb hby d9_10) rfl rfl ?_
    show Steps p.tables e below (T2.setTop (mkF m 11 #[.val (.ref ob), .val (.int ix), .val (.int sh), .val (.long (own_dl ix sh sf)), .second, .unset] [(.ref ob)])) _
    refine st3 _ ?_
    show Steps p.tables e below (T3.setTop (mkF m 14 #[.val (.ref ob), .val (.int ix), .val (.int sh), .val (.long (own_dl ix sh sf)), .second, .unset] [(.ref as)])) _
    refine XS.iloadN X3.here hx rfl (hb hby d9_14) rfl ?_
    show Steps p.tables e below (T3.setTop (mkF m 15 #[.val (.ref ob), .val (.int ix), .val (.int sh), .val (.long (own_dl ix sh sf)), .second, .unset] [(.int ix), (.ref as)])) _
    refine XS.iloadN X3.here hx rfl (hb hby d9_15) rfl ?_
    show Steps p.tables e below (T3.setTop (mkF m 16 #[.val (.ref ob), .val (.int ix), .val (.int sh), .val (.long (own_dl ix sh sf)), .second, .unset] [(.int sh), (.int ix), (.ref as)])) _
    refine st4 _ ?_
    show Steps p.tables e below (T4.setTop (mkF m 17 #[.val (.ref ob), .val (.int ix), .val (.int sh), .val (.long (own_dl ix sh sf)), .second, .unset] [])) _
    refine XS.lloadN X4.here hx rfl (hb hby d9_17) rfl ?_
    show Steps p.tables e below (T4.setTop (mkF m 18 #[.val (.ref ob), .val (.int ix), .val (.int sh), .val (.long (own_dl ix sh sf)), .second, .unset] [(.long (own_dl ix sh sf))])) _
    refine XS.lconst X4.here hx rfl (hb hby d9_18) ?_
    show Steps p.tables e below (T4.setTop (mkF m 19 #[.val (.ref ob), .val (.int ix), .val (.int sh), .val (.long (own_dl ix sh sf)), .second, .unset] [(.long (0 : Int64)), (.long (own_dl ix sh sf))])) _
    refine XS.lcmp X4.here hx rfl (hb hby d9_19) rfl ?_
    exact k
  by_cases hc6 : (own_dl ix sh sf) = (0 : Int64)
  ·
    have pre7 : ∀ t, Steps p.tables e below (T4.setTop (mkF m 23 #[.val (.ref ob), .val (.int ix), .val (.int sh), .val (.long (own_dl ix sh sf)), .second, .unset] [])) t → Steps p.tables e below (s₁.setTop (entryFrame m #[(.ref ob), (.int ix), (.int sh)] 6)) t := by
      intro t k
      refine pre5 t ?_
      show Steps p.tables e below (T4.setTop (mkF m 20 #[.val (.ref ob), .val (.int ix), .val (.int sh), .val (.long (own_dl ix sh sf)), .second, .unset] [(.int (lcmpW (own_dl ix sh sf) (0 : Int64)))])) _
      refine XS.ifNo X4.here hx rfl (hb hby d9_20) rfl ((if0 _ _).trans (teq ((lw_eq _ _).mpr hc6)).2) ?_
      exact k
    obtain ⟨fs, hr, hrun, hended, hW, hsame⟩ := X4.leave (v := none) (fun _ => rfl) (BodyLoose.notSynchronized Bd)
    refine ⟨_, _, pre7 _ ?_, hrun, hended, _, _, rfl, ?_, ⟨_, rfl⟩, hW, hsame.mono (by decide) (by decide)⟩
    · show Steps p.tables e below (T4.setTop (mkF m 23 #[.val (.ref ob), .val (.int ix), .val (.int sh), .val (.long (own_dl ix sh sf)), .second, .unset] [])) _
      exact X4.returnOut hx Bd.returns (hb hby d9_23) hr
    · show Q9 Z ob ix sh an as fst tt nn nf ns sf h0 n0 _ T4.heap _
      rw [e4]
      exact ⟨rfl, N4, ⟨(k1_0.wr W4), (k1_1.other W4 (Or.inl k1_n_ob_as)), (k1_2.other W4 (Or.inl k1_n_ob_as)), (k1_3.other W4 (Or.inl k1_n_ob_as)), (by rw [(show (Fset_t ix sh tt sf) = tt from ((if_pos hc6).trans rfl))]; exact (k1_4.other W4 (Or.inl k1_n_ob_as))), (by rw [(show (Fset_n ix sh nn nf sf) = nf from ((if_pos hc6).trans rfl))]; exact (k1_5.other W4 k1_n_an_as)), (by rw [(show (Fset_s ix sh sf) = (@upA Int32 sf ix sh) from rfl)]; exact V4), k1_g_ob, k1_g_an, k1_g_as, k1_n_ob_an, k1_n_ob_as, k1_n_an_as, Z4⟩⟩
  ·
    obtain ⟨T8, X8, e8, st8⟩ := getF X4 hx hZ hown (host := "") (Or.inl (hw _ (List.mem_of_getElem? (i := 40) rfl))) Via.refl e4 (k1_4.other W4 (Or.inl k1_n_ob_as)) (g := (mkF m 26 #[.val (.ref ob), .val (.int ix), .val (.int sh), .val (.long (own_dl ix sh sf)), .second, .unset] [(.ref ob), (.ref ob)])) rfl rfl (hb hby d9_26)
    obtain ⟨T9, h9, X9, e9, W9, st9⟩ := putF X8 hx hZ hown (host := "") (Or.inl (hw _ (List.mem_of_getElem? (i := 40) rfl))) Via.refl e8 (k1_4.other W4 (Or.inl k1_n_ob_as)) (k1_0.wr W4) (Or.inl (hw _ (List.mem_of_getElem? (i := 41) rfl))) (hw _ (List.mem_of_getElem? (i := 11) rfl)) (ty := .long) (by decide) rfl rfl (g := (mkF m 31 #[.val (.ref ob), .val (.int ix), .val (.int sh), .val (.long (own_dl ix sh sf)), .second, .unset] [(.long (tt + (own_dl ix sh sf))), (.ref ob)])) rfl rfl (hb hby d9_31)
    have f10 := ((k1_1.other W4 (Or.inl k1_n_ob_as)).other W9 (Or.inr (slot_ne (Or.inr (hw _ (List.mem_of_getElem? (i := 21) rfl))) (Or.inl (hw _ (List.mem_of_getElem? (i := 41) rfl))) (by decide) (t := (.array .long)) (t' := .long) (by decide) (by decide))))
    have f11 := ((k1_2.other W4 (Or.inl k1_n_ob_as)).other W9 (Or.inr (slot_ne (Or.inr (hw _ (List.mem_of_getElem? (i := 23) rfl))) (Or.inl (hw _ (List.mem_of_getElem? (i := 41) rfl))) (by decide) (t := (.array .int)) (t' := .long) (by decide) (by decide))))
    have f12 := ((k1_3.other W4 (Or.inl k1_n_ob_as)).other W9 (Or.inr (slot_ne (Or.inr (hw _ (List.mem_of_getElem? (i := 34) rfl))) (Or.inl (hw _ (List.mem_of_getElem? (i := 41) rfl))) (by decide) (t := .int) (t' := .long) (by decide) (by decide))))
    have Z9 : n0 ≤ h9.size := Nat.le_trans Z4 (Keep.of_wr W9).1
    have N9 := Fr.snoc X9 N4 k1_g_ob
    have pre13 : ∀ t, Steps p.tables e below (T9.setTop (mkF m 39 #[.val (.ref ob), .val (.int ix), .val (.int sh), .val (.long (own_dl ix sh sf)), .second, .val (.int (ix + (1 : Int32)))] [])) t → Steps p.tables e below (s₁.setTop (entryFrame m #[(.ref ob), (.int ix), (.int sh)] 6)) t := by
      intro t k
      refine pre5 t ?_
      show Steps p.tables e below (T4.setTop (mkF m 20 #[.val (.ref ob), .val (.int ix), .val (.int sh), .val (.long (own_dl ix sh sf)), .second, .unset] [(.int (lcmpW (own_dl ix sh sf) (0 : Int64)))])) _
      refine XS.ifYes X4.here hx rfl (pc0 := 20) (pc' := 24) rfl (hb hby d9_20) rfl ((if0 _ _).trans (feq (fun q => hc6 ((lw_eq _ _).mp q))).2) (by decide) (by decide) ?_
      show Steps p.tables e below (T4.setTop (mkF m 24 #[.val (.ref ob), .val (.int ix), .val (.int sh), .val (.long (own_dl ix sh sf)), .second, .unset] [])) _
      refine XS.aloadN X4.here hx rfl (hb hby d9_24) rfl rfl ?_
      show Steps p.tables e below (T4.setTop (mkF m 25 #[.val (.ref ob), .val (.int ix), .val (.int sh), .val (.long (own_dl ix sh sf)), .second, .unset] [(.ref ob)])) _
      refine XS.dup X4.here hx rfl (hb hby d9_25) rfl rfl ?_
      show Steps p.tables e below (T4.setTop (mkF m 26 #[.val (.ref ob), .val (.int ix), .val (.int sh), .val (.long (own_dl ix sh sf)), .second, .unset] [(.ref ob), (.ref ob)])) _
      refine st8 _ ?_
      show Steps p.tables e below (T8.setTop (mkF m 29 #[.val (.ref ob), .val (.int ix), .val (.int sh), .val (.long (own_dl ix sh sf)), .second, .unset] [(.long tt), (.ref ob)])) _
      refine XS.lloadN X8.here hx rfl (hb hby d9_29) rfl ?_
      show Steps p.tables e below (T8.setTop (mkF m 30 #[.val (.ref ob), .val (.int ix), .val (.int sh), .val (.long (own_dl ix sh sf)), .second, .unset] [(.long (own_dl ix sh sf)), (.long tt), (.ref ob)])) _
      refine XS.ladd X8.here hx rfl (hb hby d9_30) rfl ?_
      show Steps p.tables e below (T8.setTop (mkF m 31 #[.val (.ref ob), .val (.int ix), .val (.int sh), .val (.long (own_dl ix sh sf)), .second, .unset] [(.long (tt + (own_dl ix sh sf))), (.ref ob)])) _
      refine st9 _ ?_
      show Steps p.tables e below (T9.setTop (mkF m 34 #[.val (.ref ob), .val (.int ix), .val (.int sh), .val (.long (own_dl ix sh sf)), .second, .unset] [])) _
      refine XS.iloadN X9.here hx rfl (hb hby d9_34) rfl ?_
      show Steps p.tables e below (T9.setTop (mkF m 35 #[.val (.ref ob), .val (.int ix), .val (.int sh), .val (.long (own_dl ix sh sf)), .second, .unset] [(.int ix)])) _
      refine XS.iconst X9.here hx rfl (hb hby d9_35) ?_
      show Steps p.tables e below (T9.setTop (mkF m 36 #[.val (.ref ob), .val (.int ix), .val (.int sh), .val (.long (own_dl ix sh sf)), .second, .unset] [(.int (1 : Int32)), (.int ix)])) _
      refine XS.iadd X9.here hx rfl (hb hby d9_36) rfl ?_
      show Steps p.tables e below (T9.setTop (mkF m 37 #[.val (.ref ob), .val (.int ix), .val (.int sh), .val (.long (own_dl ix sh sf)), .second, .unset] [(.int (ix + (1 : Int32)))])) _
      refine XS.istore X9.here hx rfl (hb hby d9_37) rfl (l' := #[.val (.ref ob), .val (.int ix), .val (.int sh), .val (.long (own_dl ix sh sf)), .second, .val (.int (ix + (1 : Int32)))]) rfl ?_
      exact k
    obtain ⟨T14, h14, L14, X14, e14, N14, I14, st14⟩ := stLoop ix sh (own_dl ix sh sf) ob an as fst (tt + (own_dl ix sh sf)) nn ns (@upA Int32 sf ix sh) hx hZ hw hby hml hown 4 (ix + (1 : Int32)) nf X9 e9 N9 ⟨((k1_0.wr W4).wr W9), f10, f11, f12, ((k1_4.other W4 (Or.inl k1_n_ob_as)).same W9), ((k1_5.other W4 k1_n_an_as).other W9 (Ne.symm k1_n_ob_an)), (V4.other W9 (Ne.symm k1_n_ob_as)), k1_g_ob, k1_g_an, k1_g_as, k1_n_ob_an, k1_n_ob_as, k1_n_an_as, Z9⟩ hok
    obtain ⟨k15_0, k15_1, k15_2, k15_3, k15_4, k15_5, k15_6, k15_g_ob, k15_g_an, k15_g_as, k15_n_ob_an, k15_n_ob_as, k15_n_an_as, k15_sz⟩ := I14
    have pre14 : ∀ t, Steps p.tables e below (T14.setTop (mkF m 39 #[.val (.ref ob), .val (.int ix), .val (.int sh), .val (.long (own_dl ix sh sf)), .second, .val (.int (stK nn 4 (ix + (1 : Int32))))] [])) t → Steps p.tables e below (s₁.setTop (entryFrame m #[(.ref ob), (.int ix), (.int sh)] 6)) t := fun t k => pre13 t (st14 t k)
    obtain ⟨T16, X16, e16, st16⟩ := getF X14 hx hZ hown (host := "") (Or.inl (hw _ (List.mem_of_getElem? (i := 20) rfl))) Via.refl e14 k15_1 (g := (mkF m 42 #[.val (.ref ob), .val (.int ix), .val (.int sh), .val (.long (own_dl ix sh sf)), .second, .val (.int (stK nn 4 (ix + (1 : Int32))))] [(.ref ob), (.int (stK nn 4 (ix + (1 : Int32))))])) rfl rfl (hb hby d9_42)
    have pre17 : ∀ t, Steps p.tables e below (T16.setTop (mkF m 74 #[.val (.ref ob), .val (.int ix), .val (.int sh), .val (.long (own_dl ix sh sf)), .second, .val (.int (stK nn 4 (ix + (1 : Int32))))] [])) t → Steps p.tables e below (s₁.setTop (entryFrame m #[(.ref ob), (.int ix), (.int sh)] 6)) t := by
      intro t k
      refine pre14 t ?_
      show Steps p.tables e below (T14.setTop (mkF m 39 #[.val (.ref ob), .val (.int ix), .val (.int sh), .val (.long (own_dl ix sh sf)), .second, .val (.int (stK nn 4 (ix + (1 : Int32))))] [])) _
      refine XS.iload X14.here hx rfl (hb hby d9_39) rfl ?_
      show Steps p.tables e below (T14.setTop (mkF m 41 #[.val (.ref ob), .val (.int ix), .val (.int sh), .val (.long (own_dl ix sh sf)), .second, .val (.int (stK nn 4 (ix + (1 : Int32))))] [(.int (stK nn 4 (ix + (1 : Int32))))])) _
      refine XS.aloadN X14.here hx rfl (hb hby d9_41) rfl rfl ?_
      show Steps p.tables e below (T14.setTop (mkF m 42 #[.val (.ref ob), .val (.int ix), .val (.int sh), .val (.long (own_dl ix sh sf)), .second, .val (.int (stK nn 4 (ix + (1 : Int32))))] [(.ref ob), (.int (stK nn 4 (ix + (1 : Int32))))])) _
      refine st16 _ ?_
      show Steps p.tables e below (T16.setTop (mkF m 45 #[.val (.ref ob), .val (.int ix), .val (.int sh), .val (.long (own_dl ix sh sf)), .second, .val (.int (stK nn 4 (ix + (1 : Int32))))] [(.ref an), (.int (stK nn 4 (ix + (1 : Int32))))])) _
      refine lnG X16 hx hZ e16 k15_5 (g := (mkF m 45 #[.val (.ref ob), .val (.int ix), .val (.int sh), .val (.long (own_dl ix sh sf)), .second, .val (.int (stK nn 4 (ix + (1 : Int32))))] [(.ref an), (.int (stK nn 4 (ix + (1 : Int32))))])) rfl rfl (hb hby d9_45) _ ?_
      show Steps p.tables e below (T16.setTop (mkF m 46 #[.val (.ref ob), .val (.int ix), .val (.int sh), .val (.long (own_dl ix sh sf)), .second, .val (.int (stK nn 4 (ix + (1 : Int32))))] [(.int nn), (.int (stK nn 4 (ix + (1 : Int32))))])) _
      refine XS.icmpYes X16.here hx rfl (pc0 := 46) (pc' := 74) rfl (hb hby d9_46) rfl (flt hex).2.1 (by decide) (by decide) ?_
      exact k
    obtain ⟨fs, hr, hrun, hended, hW, hsame⟩ := X16.leave (v := none) (fun _ => rfl) (BodyLoose.notSynchronized Bd)
    refine ⟨_, _, pre17 _ ?_, hrun, hended, _, _, rfl, ?_, ⟨_, rfl⟩, hW, hsame.mono (by decide) (by decide)⟩
    · show Steps p.tables e below (T16.setTop (mkF m 74 #[.val (.ref ob), .val (.int ix), .val (.int sh), .val (.long (own_dl ix sh sf)), .second, .val (.int (stK nn 4 (ix + (1 : Int32))))] [])) _
      exact X16.returnOut hx Bd.returns (hb hby d9_74) hr
    · show Q9 Z ob ix sh an as fst tt nn nf ns sf h0 n0 _ T16.heap _
      rw [e16]
      exact ⟨rfl, N14, ⟨k15_0, k15_1, k15_2, k15_3, (by rw [(show (Fset_t ix sh tt sf) = (tt + (own_dl ix sh sf)) from ((if_neg hc6).trans rfl))]; exact k15_4), (by rw [(show (Fset_n ix sh nn nf sf) = (stF nn (own_dl ix sh sf) 4 (ix + (1 : Int32)) nf) from ((if_neg hc6).trans rfl))]; exact k15_5), (by rw [(show (Fset_s ix sh sf) = (@upA Int32 sf ix sh) from rfl)]; exact k15_6), k15_g_ob, k15_g_an, k15_g_as, k15_n_ob_an, k15_n_ob_as, k15_n_an_as, k15_sz⟩⟩
theorem d8_0 : decode prog_6_method_5_code 0 = .ok (.aload_n 0, 1) := by decide +kernel
theorem d8_1 : decode prog_6_method_5_code 1 = .ok (.getfield 27, 3) := by decide +kernel
theorem d8_4 : decode prog_6_method_5_code 4 = .ok (.lreturn, 1) := by decide +kernel
theorem ef_8 (m : MethodId) (x0 : Addr) : entryFrame m #[(.ref x0)] 1 = mkF m 0 #[.val (.ref x0)] [] := by first | (simp [entryFrame, mkF, argsToLocals, Value.category]; done) | rfl
def Ftot (tt : Int64) : Int64 := tt
def Q8 (Z : State) (ob : Addr) (an : Addr) (as : Addr) (fst : Int32) (tt : Int64) (nn : Int32) (nf : Int32 → Int64) (ns : Int32) (sf : Int32 → Int32) (h0 : Heap) (n0 : Nat) (v : Option Value) (h : Heap) (L : List Loc) : Prop := v = some (.long (Ftot tt)) ∧ Fr n0 L ∧ h = h0
set_option maxRecDepth 65536 in
set_option maxHeartbeats 40000000 in
theorem rm8 (l : Launch) (Z : State) (a0 : Array Value) (hw : ∀ d ∈ tables_1, d.before a0 Z = true) (ws : List Jvm.Cond) (ob : Addr) (an : Addr) (as : Addr) (fst : Int32) (tt : Int64) (nn : Int32) (nf : Int32 → Int64) (ns : Int32) (sf : Int32 → Int32) (h0 : Heap) (n0 : Nat) (Z0 : n0 ≤ h0.size) (I0 : CS Z h0 n0 ob an as fst tt nn nf ns sf) :
    MetFree l (⟨"com/example/dealer/dealer/ChangingShares", "total", "()J"⟩ : MethodName) (head1 (Jvm.Cond.code (⟨"com/example/dealer/dealer/ChangingShares", "total", "()J"⟩ : MethodName) prog_6_method_5_code 1 (some .long) :: ws) ({ frames := 0, cells := 0, slots := 0, locals := 0 } : Room)) (fun a U => a = #[(.ref ob)] ∧ Z.Warmed39 U.vm ∧ U.heap = h0) (fun _ _ _ _ _ => True) (fun _ U o U' => ∃ v L, o = .returned v ∧ Q8 Z ob an as fst tt nn nf ns sf h0 n0 v U'.heap L ∧ FrameEnd U o U' L ({ frames := 0, cells := 0, slots := 0, locals := 0 } : Room).cells ({ frames := 0, cells := 0, slots := 0, locals := 0 } : Room).slots) := by
  refine MetFree.of_bodySF (plainFor_of_name pn_3) hisR ?_
  intro p e s m args below meth c s₁ Bd hml0 hP hK
  obtain ⟨rfl, hZ, hh⟩ := hP
  have hx := Bd.exec
  have hby := Bd.bytes
  have hml : c.maxLocals = 1 := hml0
  have hown : s.vm.findClass "com/example/dealer/dealer/ChangingShares" = some m.cls := findClass_of_methodNamed Bd.named
  have hnm := (name_of_methodNamed Bd.named Bd.method).1
  have X0 : Stand p l e ({ frames := 0, cells := 0, slots := 0, locals := 0 } : Room) s m #[(.ref ob)] below meth c s₁ [] 0 0 := Stand.of_body Bd
  have e0 : s₁.heap = h0 := by rw [← hh, Bd.state]; rfl
  have N0 := Fr.nil n0
  have pre0 : ∀ t, Steps p.tables e below (s₁.setTop (mkF m 0 #[.val (.ref ob)] [])) t → Steps p.tables e below (s₁.setTop (entryFrame m #[(.ref ob)] 1)) t := fun t k => castTop (ef_8 m ob) k
  obtain ⟨k1_0, k1_1, k1_2, k1_3, k1_4, k1_5, k1_6, k1_g_ob, k1_g_an, k1_g_as, k1_n_ob_an, k1_n_ob_as, k1_n_an_as, k1_sz⟩ := I0
  obtain ⟨T2, X2, e2, st2⟩ := getF X0 hx hZ hown (host := "") (Or.inl (hw _ (List.mem_of_getElem? (i := 40) rfl))) Via.refl e0 k1_4 (g := (mkF m 1 #[.val (.ref ob)] [(.ref ob)])) rfl rfl (hb hby d8_1)
  have pre3 : ∀ t, Steps p.tables e below (T2.setTop (mkF m 4 #[.val (.ref ob)] [(.long tt)])) t → Steps p.tables e below (s₁.setTop (entryFrame m #[(.ref ob)] 1)) t := by
    intro t k
    refine pre0 t ?_
    show Steps p.tables e below (s₁.setTop (mkF m 0 #[.val (.ref ob)] [])) _
    refine XS.aloadN X0.here hx rfl (hb hby d8_0) rfl rfl ?_
    show Steps p.tables e below (s₁.setTop (mkF m 1 #[.val (.ref ob)] [(.ref ob)])) _
    refine st2 _ ?_
    exact k
  obtain ⟨fs, hr, hrun, hended, hW, hsame⟩ := X2.leave (v := some (.long (Ftot tt))) (fun h => by rw [Bd.returns] at h; cases h) (BodyLoose.notSynchronized Bd)
  refine ⟨_, _, pre3 _ ?_, hrun, hended, _, _, rfl, ?_, ⟨_, rfl⟩, hW, hsame.mono (by decide) (by decide)⟩
  · show Steps p.tables e below (T2.setTop (mkF m 4 #[.val (.ref ob)] [(.long tt)])) _
    have hr2 := hr
    rw [(show (Ftot tt) = tt from rfl)] at hr2
    exact X2.lreturnOut hx Bd.returns (hb hby d8_4) hr2
  · show Q8 Z ob an as fst tt nn nf ns sf h0 n0 _ T2.heap _
    rw [e2]
    exact ⟨rfl, N0, rfl⟩
def Two (a b : Slot) : Prop := (a = .unset ∧ b = .unset) ∨ ∃ x : Int64, a = .val (.long x) ∧ b = .second
def own_mk (ii : Int32) (r : Int64) (sp : Int32) (nf : Int32 → Int64) : Int64 := ((((nf (ii + sp)) - r) - (1 : Int64)) >>> ((63 : Int32) &&& 0x3f).toInt64)
theorem d10_11 : decode prog_6_method_6_code 11 = .ok (.iload 6, 2) := by decide +kernel
theorem d10_13 : decode prog_6_method_6_code 13 = .ok (.ifCond .le 68, 3) := by decide +kernel
theorem d10_16 : decode prog_6_method_6_code 16 = .ok (.iload_n 3, 1) := by decide +kernel
theorem d10_17 : decode prog_6_method_6_code 17 = .ok (.iload 6, 2) := by decide +kernel
theorem d10_19 : decode prog_6_method_6_code 19 = .ok (.iadd, 1) := by decide +kernel
theorem d10_20 : decode prog_6_method_6_code 20 = .ok (.istore 7, 2) := by decide +kernel
theorem d10_22 : decode prog_6_method_6_code 22 = .ok (.iload 7, 2) := by decide +kernel
theorem d10_24 : decode prog_6_method_6_code 24 = .ok (.aload_n 0, 1) := by decide +kernel
theorem d10_25 : decode prog_6_method_6_code 25 = .ok (.getfield 7, 3) := by decide +kernel
theorem d10_28 : decode prog_6_method_6_code 28 = .ok (.arraylength, 1) := by decide +kernel
theorem d10_29 : decode prog_6_method_6_code 29 = .ok (.if_icmp .ge 43, 3) := by decide +kernel
theorem d10_32 : decode prog_6_method_6_code 32 = .ok (.aload_n 0, 1) := by decide +kernel
theorem d10_33 : decode prog_6_method_6_code 33 = .ok (.getfield 7, 3) := by decide +kernel
theorem d10_36 : decode prog_6_method_6_code 36 = .ok (.iload 7, 2) := by decide +kernel
theorem d10_38 : decode prog_6_method_6_code 38 = .ok (.laload, 1) := by decide +kernel
theorem d10_39 : decode prog_6_method_6_code 39 = .ok (.lstore 8, 2) := by decide +kernel
theorem d10_41 : decode prog_6_method_6_code 41 = .ok (.lload 8, 2) := by decide +kernel
theorem d10_43 : decode prog_6_method_6_code 43 = .ok (.lload 4, 2) := by decide +kernel
theorem d10_45 : decode prog_6_method_6_code 45 = .ok (.lsub, 1) := by decide +kernel
theorem d10_46 : decode prog_6_method_6_code 46 = .ok (.lconst 1, 1) := by decide +kernel
theorem d10_47 : decode prog_6_method_6_code 47 = .ok (.lsub, 1) := by decide +kernel
theorem d10_48 : decode prog_6_method_6_code 48 = .ok (.bipush 63, 2) := by decide +kernel
theorem d10_50 : decode prog_6_method_6_code 50 = .ok (.lshr, 1) := by decide +kernel
theorem d10_51 : decode prog_6_method_6_code 51 = .ok (.lstore 10, 2) := by decide +kernel
theorem d10_53 : decode prog_6_method_6_code 53 = .ok (.iload_n 3, 1) := by decide +kernel
theorem d10_54 : decode prog_6_method_6_code 54 = .ok (.iload 6, 2) := by decide +kernel
theorem d10_56 : decode prog_6_method_6_code 56 = .ok (.lload 10, 2) := by decide +kernel
theorem d10_58 : decode prog_6_method_6_code 58 = .ok (.l2i, 1) := by decide +kernel
theorem d10_59 : decode prog_6_method_6_code 59 = .ok (.iand, 1) := by decide +kernel
theorem d10_60 : decode prog_6_method_6_code 60 = .ok (.iadd, 1) := by decide +kernel
theorem d10_61 : decode prog_6_method_6_code 61 = .ok (.istore_n 3, 1) := by decide +kernel
theorem d10_62 : decode prog_6_method_6_code 62 = .ok (.lload 4, 2) := by decide +kernel
theorem d10_64 : decode prog_6_method_6_code 64 = .ok (.lload 8, 2) := by decide +kernel
theorem d10_66 : decode prog_6_method_6_code 66 = .ok (.lload 10, 2) := by decide +kernel
theorem d10_68 : decode prog_6_method_6_code 68 = .ok (.land, 1) := by decide +kernel
theorem d10_69 : decode prog_6_method_6_code 69 = .ok (.lsub, 1) := by decide +kernel
theorem d10_70 : decode prog_6_method_6_code 70 = .ok (.lstore 4, 2) := by decide +kernel
theorem d10_72 : decode prog_6_method_6_code 72 = .ok (.iload 6, 2) := by decide +kernel
theorem d10_74 : decode prog_6_method_6_code 74 = .ok (.iconst 1, 1) := by decide +kernel
theorem d10_75 : decode prog_6_method_6_code 75 = .ok (.iushr, 1) := by decide +kernel
theorem d10_76 : decode prog_6_method_6_code 76 = .ok (.istore 6, 2) := by decide +kernel
theorem d10_78 : decode prog_6_method_6_code 78 = .ok (.goto (-67), 3) := by decide +kernel
def ix_i (ii : Int32) (r : Int64) (sp : Int32) (nn : Int32) (nf : Int32 → Int64) : Int32 := (if (ii + sp) < nn then (ii + (sp &&& ((own_mk ii r sp nf).toInt32))) else ii)
def ix_r (ii : Int32) (r : Int64) (sp : Int32) (nn : Int32) (nf : Int32 → Int64) : Int64 := (if (ii + sp) < nn then (r - ((nf (ii + sp)) &&& (own_mk ii r sp nf))) else r)
def ix_s (sp : Int32) : Int32 := ((sp.toUInt32 >>> ((1 : Int32) &&& 31).toUInt32).toInt32)
set_option maxRecDepth 65536 in
set_option maxHeartbeats 40000000 in
theorem ixTurn {p : Program} {l : Launch} {e : Env} {R : Room} {s : State} {m : MethodId} {args : Array Value} {below : List Frame} {meth : Method} {c : Code} {T0 : State} {locs : List Loc} {cells slots : Nat} {Z : State} {a0 : Array Value} {h0 : Heap} {n0 : Nat} (pt : Int64) (ii : Int32) (r : Int64) (sp : Int32) (s7 : Slot) (s8 : Slot) (s9 : Slot) (s10 : Slot) (s11 : Slot) (ob : Addr) (an : Addr) (as : Addr) (fst : Int32) (tt : Int64) (nn : Int32) (nf : Int32 → Int64) (ns : Int32) (sf : Int32 → Int32)
    (X0 : Stand p l e R s m args below meth c T0 locs cells slots) (hx : p.tables.exec = Jvm.exec) (hZ : Z.Warmed39 s.vm) (hw : ∀ d ∈ tables_1, d.before a0 Z = true) (hby : c.code = prog_6_method_6_code) (hml : c.maxLocals = 12) (hown : s.vm.findClass "com/example/dealer/dealer/ChangingShares" = some m.cls) (e0 : T0.heap = h0) (N0 : Fr n0 locs) (Z0 : n0 ≤ h0.size) (I0 : CS Z h0 n0 ob an as fst tt nn nf ns sf) (hs7 : One s7) (hs8 : Two s8 s9) (hs10 : Two s10 s11) (hsp : (0 : Int32) < sp) (hin : (ii + sp) < nn → ¬ (ii + sp) < 0 ∧ (ii + sp) < nn) :
    ∃ (T' : State) (h' : Heap) (locs' : List Loc) (s7' : Slot) (s8' : Slot) (s9' : Slot) (s10' : Slot) (s11' : Slot), Stand p l e R s m args below meth c T' locs' cells slots ∧ T'.heap = h' ∧ Fr n0 locs' ∧ (h' = h0) ∧ (One s7' ∧ Two s8' s9' ∧ Two s10' s11') ∧ ∀ t, Steps p.tables e below (T'.setTop (mkF m 11 #[.val (.ref ob), .val (.long pt), .second, .val (.int (ix_i ii r sp nn nf)), .val (.long (ix_r ii r sp nn nf)), .second, .val (.int (ix_s sp)), s7', s8', s9', s10', s11'] [])) t → Steps p.tables e below (T0.setTop (mkF m 11 #[.val (.ref ob), .val (.long pt), .second, .val (.int ii), .val (.long r), .second, .val (.int sp), s7, s8, s9, s10, s11] [])) t := by
  have pre0 : ∀ t, Steps p.tables e below (T0.setTop (mkF m 11 #[.val (.ref ob), .val (.long pt), .second, .val (.int ii), .val (.long r), .second, .val (.int sp), s7, s8, s9, s10, s11] [])) t → Steps p.tables e below (T0.setTop (mkF m 11 #[.val (.ref ob), .val (.long pt), .second, .val (.int ii), .val (.long r), .second, .val (.int sp), s7, s8, s9, s10, s11] [])) t := fun t k => k
  obtain ⟨k1_0, k1_1, k1_2, k1_3, k1_4, k1_5, k1_6, k1_g_ob, k1_g_an, k1_g_as, k1_n_ob_an, k1_n_ob_as, k1_n_an_as, k1_sz⟩ := I0
  obtain ⟨T2, X2, e2, st2⟩ := getF X0 hx hZ hown (host := "") (Or.inl (hw _ (List.mem_of_getElem? (i := 20) rfl))) Via.refl e0 k1_1 (g := (mkF m 25 #[.val (.ref ob), .val (.long pt), .second, .val (.int ii), .val (.long r), .second, .val (.int sp), .val (.int (ii + sp)), s8, s9, s10, s11] [(.ref ob), (.int (ii + sp))])) rfl rfl (hb hby d10_25)
  have pre3 : ∀ t, Steps p.tables e below (T2.setTop (mkF m 29 #[.val (.ref ob), .val (.long pt), .second, .val (.int ii), .val (.long r), .second, .val (.int sp), .val (.int (ii + sp)), s8, s9, s10, s11] [(.int nn), (.int (ii + sp))])) t → Steps p.tables e below (T0.setTop (mkF m 11 #[.val (.ref ob), .val (.long pt), .second, .val (.int ii), .val (.long r), .second, .val (.int sp), s7, s8, s9, s10, s11] [])) t := by
    intro t k
    refine pre0 t ?_
    show Steps p.tables e below (T0.setTop (mkF m 11 #[.val (.ref ob), .val (.long pt), .second, .val (.int ii), .val (.long r), .second, .val (.int sp), s7, s8, s9, s10, s11] [])) _
    refine XS.iload X0.here hx rfl (hb hby d10_11) rfl ?_
    show Steps p.tables e below (T0.setTop (mkF m 13 #[.val (.ref ob), .val (.long pt), .second, .val (.int ii), .val (.long r), .second, .val (.int sp), s7, s8, s9, s10, s11] [(.int sp)])) _
    refine XS.ifNo X0.here hx rfl (hb hby d10_13) rfl ((if0 _ _).trans (tlt hsp).2.2.2) ?_
    show Steps p.tables e below (T0.setTop (mkF m 16 #[.val (.ref ob), .val (.long pt), .second, .val (.int ii), .val (.long r), .second, .val (.int sp), s7, s8, s9, s10, s11] [])) _
    refine XS.iloadN X0.here hx rfl (hb hby d10_16) rfl ?_
    show Steps p.tables e below (T0.setTop (mkF m 17 #[.val (.ref ob), .val (.long pt), .second, .val (.int ii), .val (.long r), .second, .val (.int sp), s7, s8, s9, s10, s11] [(.int ii)])) _
    refine XS.iload X0.here hx rfl (hb hby d10_17) rfl ?_
    show Steps p.tables e below (T0.setTop (mkF m 19 #[.val (.ref ob), .val (.long pt), .second, .val (.int ii), .val (.long r), .second, .val (.int sp), s7, s8, s9, s10, s11] [(.int sp), (.int ii)])) _
    refine XS.iadd X0.here hx rfl (hb hby d10_19) rfl ?_
    show Steps p.tables e below (T0.setTop (mkF m 20 #[.val (.ref ob), .val (.long pt), .second, .val (.int ii), .val (.long r), .second, .val (.int sp), s7, s8, s9, s10, s11] [(.int (ii + sp))])) _
    refine XS.istore X0.here hx rfl (hb hby d10_20) rfl (l' := #[.val (.ref ob), .val (.long pt), .second, .val (.int ii), .val (.long r), .second, .val (.int sp), .val (.int (ii + sp)), s8, s9, s10, s11]) (by rcases hs7 with rfl | ⟨w, rfl, hw7⟩ <;> first | rfl | (cases w <;> first | rfl | (simp [Value.category] at hw7))) ?_
    show Steps p.tables e below (T0.setTop (mkF m 22 #[.val (.ref ob), .val (.long pt), .second, .val (.int ii), .val (.long r), .second, .val (.int sp), .val (.int (ii + sp)), s8, s9, s10, s11] [])) _
    refine XS.iload X0.here hx rfl (hb hby d10_22) rfl ?_
    show Steps p.tables e below (T0.setTop (mkF m 24 #[.val (.ref ob), .val (.long pt), .second, .val (.int ii), .val (.long r), .second, .val (.int sp), .val (.int (ii + sp)), s8, s9, s10, s11] [(.int (ii + sp))])) _
    refine XS.aloadN X0.here hx rfl (hb hby d10_24) rfl rfl ?_
    show Steps p.tables e below (T0.setTop (mkF m 25 #[.val (.ref ob), .val (.long pt), .second, .val (.int ii), .val (.long r), .second, .val (.int sp), .val (.int (ii + sp)), s8, s9, s10, s11] [(.ref ob), (.int (ii + sp))])) _
    refine st2 _ ?_
    show Steps p.tables e below (T2.setTop (mkF m 28 #[.val (.ref ob), .val (.long pt), .second, .val (.int ii), .val (.long r), .second, .val (.int sp), .val (.int (ii + sp)), s8, s9, s10, s11] [(.ref an), (.int (ii + sp))])) _
    refine lnG X2 hx hZ e2 k1_5 (g := (mkF m 28 #[.val (.ref ob), .val (.long pt), .second, .val (.int ii), .val (.long r), .second, .val (.int sp), .val (.int (ii + sp)), s8, s9, s10, s11] [(.ref an), (.int (ii + sp))])) rfl rfl (hb hby d10_28) _ ?_
    exact k
  by_cases hc4 : (ii + sp) < nn
  ·
    obtain ⟨T5, X5, e5, st5⟩ := getF X2 hx hZ hown (host := "") (Or.inl (hw _ (List.mem_of_getElem? (i := 20) rfl))) Via.refl e2 k1_1 (g := (mkF m 33 #[.val (.ref ob), .val (.long pt), .second, .val (.int ii), .val (.long r), .second, .val (.int sp), .val (.int (ii + sp)), s8, s9, s10, s11] [(.ref ob)])) rfl rfl (hb hby d10_33)
    have pre6 : ∀ t, Steps p.tables e below (T5.setTop (mkF m 11 #[.val (.ref ob), .val (.long pt), .second, .val (.int (ii + (sp &&& ((own_mk ii r sp nf).toInt32)))), .val (.long (r - ((nf (ii + sp)) &&& (own_mk ii r sp nf)))), .second, .val (.int ((sp.toUInt32 >>> ((1 : Int32) &&& 31).toUInt32).toInt32)), .val (.int (ii + sp)), .val (.long (nf (ii + sp))), .second, .val (.long (own_mk ii r sp nf)), .second] [])) t → Steps p.tables e below (T0.setTop (mkF m 11 #[.val (.ref ob), .val (.long pt), .second, .val (.int ii), .val (.long r), .second, .val (.int sp), s7, s8, s9, s10, s11] [])) t := by
      intro t k
      refine pre3 t ?_
      show Steps p.tables e below (T2.setTop (mkF m 29 #[.val (.ref ob), .val (.long pt), .second, .val (.int ii), .val (.long r), .second, .val (.int sp), .val (.int (ii + sp)), s8, s9, s10, s11] [(.int nn), (.int (ii + sp))])) _
      refine XS.icmpNo X2.here hx rfl (hb hby d10_29) rfl (tlt hc4).2.1 ?_
      show Steps p.tables e below (T2.setTop (mkF m 32 #[.val (.ref ob), .val (.long pt), .second, .val (.int ii), .val (.long r), .second, .val (.int sp), .val (.int (ii + sp)), s8, s9, s10, s11] [])) _
      refine XS.aloadN X2.here hx rfl (hb hby d10_32) rfl rfl ?_
      show Steps p.tables e below (T2.setTop (mkF m 33 #[.val (.ref ob), .val (.long pt), .second, .val (.int ii), .val (.long r), .second, .val (.int sp), .val (.int (ii + sp)), s8, s9, s10, s11] [(.ref ob)])) _
      refine st5 _ ?_
      show Steps p.tables e below (T5.setTop (mkF m 36 #[.val (.ref ob), .val (.long pt), .second, .val (.int ii), .val (.long r), .second, .val (.int sp), .val (.int (ii + sp)), s8, s9, s10, s11] [(.ref an)])) _
      refine XS.iload X5.here hx rfl (hb hby d10_36) rfl ?_
      show Steps p.tables e below (T5.setTop (mkF m 38 #[.val (.ref ob), .val (.long pt), .second, .val (.int ii), .val (.long r), .second, .val (.int sp), .val (.int (ii + sp)), s8, s9, s10, s11] [(.int (ii + sp)), (.ref an)])) _
      refine rdJ X5 hx hZ e5 k1_5 (j := (ii + sp)) (hin hc4) rfl (g := (mkF m 38 #[.val (.ref ob), .val (.long pt), .second, .val (.int ii), .val (.long r), .second, .val (.int sp), .val (.int (ii + sp)), s8, s9, s10, s11] [(.int (ii + sp)), (.ref an)])) rfl rfl (hb hby d10_38) _ ?_
      show Steps p.tables e below (T5.setTop (mkF m 39 #[.val (.ref ob), .val (.long pt), .second, .val (.int ii), .val (.long r), .second, .val (.int sp), .val (.int (ii + sp)), s8, s9, s10, s11] [(.long (nf (ii + sp)))])) _
      refine XS.lstore X5.here hx rfl (hb hby d10_39) rfl (l' := #[.val (.ref ob), .val (.long pt), .second, .val (.int ii), .val (.long r), .second, .val (.int sp), .val (.int (ii + sp)), .val (.long (nf (ii + sp))), .second, s10, s11]) (by rcases hs8 with ⟨rfl, rfl⟩ | ⟨x, rfl, rfl⟩ <;> rfl) ?_
      show Steps p.tables e below (T5.setTop (mkF m 41 #[.val (.ref ob), .val (.long pt), .second, .val (.int ii), .val (.long r), .second, .val (.int sp), .val (.int (ii + sp)), .val (.long (nf (ii + sp))), .second, s10, s11] [])) _
      refine XS.lload X5.here hx rfl (hb hby d10_41) rfl ?_
      show Steps p.tables e below (T5.setTop (mkF m 43 #[.val (.ref ob), .val (.long pt), .second, .val (.int ii), .val (.long r), .second, .val (.int sp), .val (.int (ii + sp)), .val (.long (nf (ii + sp))), .second, s10, s11] [(.long (nf (ii + sp)))])) _
      refine XS.lload X5.here hx rfl (hb hby d10_43) rfl ?_
      show Steps p.tables e below (T5.setTop (mkF m 45 #[.val (.ref ob), .val (.long pt), .second, .val (.int ii), .val (.long r), .second, .val (.int sp), .val (.int (ii + sp)), .val (.long (nf (ii + sp))), .second, s10, s11] [(.long r), (.long (nf (ii + sp)))])) _
      refine XS.lsub X5.here hx rfl (hb hby d10_45) rfl ?_
      show Steps p.tables e below (T5.setTop (mkF m 46 #[.val (.ref ob), .val (.long pt), .second, .val (.int ii), .val (.long r), .second, .val (.int sp), .val (.int (ii + sp)), .val (.long (nf (ii + sp))), .second, s10, s11] [(.long ((nf (ii + sp)) - r))])) _
      refine XS.lconst X5.here hx rfl (hb hby d10_46) ?_
      show Steps p.tables e below (T5.setTop (mkF m 47 #[.val (.ref ob), .val (.long pt), .second, .val (.int ii), .val (.long r), .second, .val (.int sp), .val (.int (ii + sp)), .val (.long (nf (ii + sp))), .second, s10, s11] [(.long (1 : Int64)), (.long ((nf (ii + sp)) - r))])) _
      refine XS.lsub X5.here hx rfl (hb hby d10_47) rfl ?_
      show Steps p.tables e below (T5.setTop (mkF m 48 #[.val (.ref ob), .val (.long pt), .second, .val (.int ii), .val (.long r), .second, .val (.int sp), .val (.int (ii + sp)), .val (.long (nf (ii + sp))), .second, s10, s11] [(.long (((nf (ii + sp)) - r) - (1 : Int64)))])) _
      refine XS.bipush X5.here hx rfl (hb hby d10_48) ?_
      show Steps p.tables e below (T5.setTop (mkF m 50 #[.val (.ref ob), .val (.long pt), .second, .val (.int ii), .val (.long r), .second, .val (.int sp), .val (.int (ii + sp)), .val (.long (nf (ii + sp))), .second, s10, s11] [(.int (63 : Int32)), (.long (((nf (ii + sp)) - r) - (1 : Int64)))])) _
      refine XS.lshr X5.here hx rfl (hb hby d10_50) rfl ?_
      show Steps p.tables e below (T5.setTop (mkF m 51 #[.val (.ref ob), .val (.long pt), .second, .val (.int ii), .val (.long r), .second, .val (.int sp), .val (.int (ii + sp)), .val (.long (nf (ii + sp))), .second, s10, s11] [(.long ((((nf (ii + sp)) - r) - (1 : Int64)) >>> ((63 : Int32) &&& 0x3f).toInt64))])) _
      refine XS.lstore X5.here hx rfl (hb hby d10_51) rfl (l' := #[.val (.ref ob), .val (.long pt), .second, .val (.int ii), .val (.long r), .second, .val (.int sp), .val (.int (ii + sp)), .val (.long (nf (ii + sp))), .second, .val (.long (own_mk ii r sp nf)), .second]) (by rcases hs10 with ⟨rfl, rfl⟩ | ⟨x, rfl, rfl⟩ <;> rfl) ?_
      show Steps p.tables e below (T5.setTop (mkF m 53 #[.val (.ref ob), .val (.long pt), .second, .val (.int ii), .val (.long r), .second, .val (.int sp), .val (.int (ii + sp)), .val (.long (nf (ii + sp))), .second, .val (.long (own_mk ii r sp nf)), .second] [])) _
      refine XS.iloadN X5.here hx rfl (hb hby d10_53) rfl ?_
      show Steps p.tables e below (T5.setTop (mkF m 54 #[.val (.ref ob), .val (.long pt), .second, .val (.int ii), .val (.long r), .second, .val (.int sp), .val (.int (ii + sp)), .val (.long (nf (ii + sp))), .second, .val (.long (own_mk ii r sp nf)), .second] [(.int ii)])) _
      refine XS.iload X5.here hx rfl (hb hby d10_54) rfl ?_
      show Steps p.tables e below (T5.setTop (mkF m 56 #[.val (.ref ob), .val (.long pt), .second, .val (.int ii), .val (.long r), .second, .val (.int sp), .val (.int (ii + sp)), .val (.long (nf (ii + sp))), .second, .val (.long (own_mk ii r sp nf)), .second] [(.int sp), (.int ii)])) _
      refine XS.lload X5.here hx rfl (hb hby d10_56) rfl ?_
      show Steps p.tables e below (T5.setTop (mkF m 58 #[.val (.ref ob), .val (.long pt), .second, .val (.int ii), .val (.long r), .second, .val (.int sp), .val (.int (ii + sp)), .val (.long (nf (ii + sp))), .second, .val (.long (own_mk ii r sp nf)), .second] [(.long (own_mk ii r sp nf)), (.int sp), (.int ii)])) _
      refine XS.l2i X5.here hx rfl (hb hby d10_58) rfl ?_
      show Steps p.tables e below (T5.setTop (mkF m 59 #[.val (.ref ob), .val (.long pt), .second, .val (.int ii), .val (.long r), .second, .val (.int sp), .val (.int (ii + sp)), .val (.long (nf (ii + sp))), .second, .val (.long (own_mk ii r sp nf)), .second] [(.int ((own_mk ii r sp nf).toInt32)), (.int sp), (.int ii)])) _
      refine XS.iand X5.here hx rfl (hb hby d10_59) rfl ?_
      show Steps p.tables e below (T5.setTop (mkF m 60 #[.val (.ref ob), .val (.long pt), .second, .val (.int ii), .val (.long r), .second, .val (.int sp), .val (.int (ii + sp)), .val (.long (nf (ii + sp))), .second, .val (.long (own_mk ii r sp nf)), .second] [(.int (sp &&& ((own_mk ii r sp nf).toInt32))), (.int ii)])) _
      refine XS.iadd X5.here hx rfl (hb hby d10_60) rfl ?_
      show Steps p.tables e below (T5.setTop (mkF m 61 #[.val (.ref ob), .val (.long pt), .second, .val (.int ii), .val (.long r), .second, .val (.int sp), .val (.int (ii + sp)), .val (.long (nf (ii + sp))), .second, .val (.long (own_mk ii r sp nf)), .second] [(.int (ii + (sp &&& ((own_mk ii r sp nf).toInt32))))])) _
      refine XS.istoreN X5.here hx rfl (hb hby d10_61) rfl (l' := #[.val (.ref ob), .val (.long pt), .second, .val (.int (ii + (sp &&& ((own_mk ii r sp nf).toInt32)))), .val (.long r), .second, .val (.int sp), .val (.int (ii + sp)), .val (.long (nf (ii + sp))), .second, .val (.long (own_mk ii r sp nf)), .second]) rfl ?_
      show Steps p.tables e below (T5.setTop (mkF m 62 #[.val (.ref ob), .val (.long pt), .second, .val (.int (ii + (sp &&& ((own_mk ii r sp nf).toInt32)))), .val (.long r), .second, .val (.int sp), .val (.int (ii + sp)), .val (.long (nf (ii + sp))), .second, .val (.long (own_mk ii r sp nf)), .second] [])) _
      refine XS.lload X5.here hx rfl (hb hby d10_62) rfl ?_
      show Steps p.tables e below (T5.setTop (mkF m 64 #[.val (.ref ob), .val (.long pt), .second, .val (.int (ii + (sp &&& ((own_mk ii r sp nf).toInt32)))), .val (.long r), .second, .val (.int sp), .val (.int (ii + sp)), .val (.long (nf (ii + sp))), .second, .val (.long (own_mk ii r sp nf)), .second] [(.long r)])) _
      refine XS.lload X5.here hx rfl (hb hby d10_64) rfl ?_
      show Steps p.tables e below (T5.setTop (mkF m 66 #[.val (.ref ob), .val (.long pt), .second, .val (.int (ii + (sp &&& ((own_mk ii r sp nf).toInt32)))), .val (.long r), .second, .val (.int sp), .val (.int (ii + sp)), .val (.long (nf (ii + sp))), .second, .val (.long (own_mk ii r sp nf)), .second] [(.long (nf (ii + sp))), (.long r)])) _
      refine XS.lload X5.here hx rfl (hb hby d10_66) rfl ?_
      show Steps p.tables e below (T5.setTop (mkF m 68 #[.val (.ref ob), .val (.long pt), .second, .val (.int (ii + (sp &&& ((own_mk ii r sp nf).toInt32)))), .val (.long r), .second, .val (.int sp), .val (.int (ii + sp)), .val (.long (nf (ii + sp))), .second, .val (.long (own_mk ii r sp nf)), .second] [(.long (own_mk ii r sp nf)), (.long (nf (ii + sp))), (.long r)])) _
      refine XS.land X5.here hx rfl (hb hby d10_68) rfl ?_
      show Steps p.tables e below (T5.setTop (mkF m 69 #[.val (.ref ob), .val (.long pt), .second, .val (.int (ii + (sp &&& ((own_mk ii r sp nf).toInt32)))), .val (.long r), .second, .val (.int sp), .val (.int (ii + sp)), .val (.long (nf (ii + sp))), .second, .val (.long (own_mk ii r sp nf)), .second] [(.long ((nf (ii + sp)) &&& (own_mk ii r sp nf))), (.long r)])) _
      refine XS.lsub X5.here hx rfl (hb hby d10_69) rfl ?_
      show Steps p.tables e below (T5.setTop (mkF m 70 #[.val (.ref ob), .val (.long pt), .second, .val (.int (ii + (sp &&& ((own_mk ii r sp nf).toInt32)))), .val (.long r), .second, .val (.int sp), .val (.int (ii + sp)), .val (.long (nf (ii + sp))), .second, .val (.long (own_mk ii r sp nf)), .second] [(.long (r - ((nf (ii + sp)) &&& (own_mk ii r sp nf))))])) _
      refine XS.lstore X5.here hx rfl (hb hby d10_70) rfl (l' := #[.val (.ref ob), .val (.long pt), .second, .val (.int (ii + (sp &&& ((own_mk ii r sp nf).toInt32)))), .val (.long (r - ((nf (ii + sp)) &&& (own_mk ii r sp nf)))), .second, .val (.int sp), .val (.int (ii + sp)), .val (.long (nf (ii + sp))), .second, .val (.long (own_mk ii r sp nf)), .second]) rfl ?_
      show Steps p.tables e below (T5.setTop (mkF m 72 #[.val (.ref ob), .val (.long pt), .second, .val (.int (ii + (sp &&& ((own_mk ii r sp nf).toInt32)))), .val (.long (r - ((nf (ii + sp)) &&& (own_mk ii r sp nf)))), .second, .val (.int sp), .val (.int (ii + sp)), .val (.long (nf (ii + sp))), .second, .val (.long (own_mk ii r sp nf)), .second] [])) _
      refine XS.iload X5.here hx rfl (hb hby d10_72) rfl ?_
      show Steps p.tables e below (T5.setTop (mkF m 74 #[.val (.ref ob), .val (.long pt), .second, .val (.int (ii + (sp &&& ((own_mk ii r sp nf).toInt32)))), .val (.long (r - ((nf (ii + sp)) &&& (own_mk ii r sp nf)))), .second, .val (.int sp), .val (.int (ii + sp)), .val (.long (nf (ii + sp))), .second, .val (.long (own_mk ii r sp nf)), .second] [(.int sp)])) _
      refine XS.iconst X5.here hx rfl (hb hby d10_74) ?_
      show Steps p.tables e below (T5.setTop (mkF m 75 #[.val (.ref ob), .val (.long pt), .second, .val (.int (ii + (sp &&& ((own_mk ii r sp nf).toInt32)))), .val (.long (r - ((nf (ii + sp)) &&& (own_mk ii r sp nf)))), .second, .val (.int sp), .val (.int (ii + sp)), .val (.long (nf (ii + sp))), .second, .val (.long (own_mk ii r sp nf)), .second] [(.int (1 : Int32)), (.int sp)])) _
      refine XS.iushr X5.here hx rfl (hb hby d10_75) rfl ?_
      show Steps p.tables e below (T5.setTop (mkF m 76 #[.val (.ref ob), .val (.long pt), .second, .val (.int (ii + (sp &&& ((own_mk ii r sp nf).toInt32)))), .val (.long (r - ((nf (ii + sp)) &&& (own_mk ii r sp nf)))), .second, .val (.int sp), .val (.int (ii + sp)), .val (.long (nf (ii + sp))), .second, .val (.long (own_mk ii r sp nf)), .second] [(.int ((sp.toUInt32 >>> ((1 : Int32) &&& 31).toUInt32).toInt32))])) _
      refine XS.istore X5.here hx rfl (hb hby d10_76) rfl (l' := #[.val (.ref ob), .val (.long pt), .second, .val (.int (ii + (sp &&& ((own_mk ii r sp nf).toInt32)))), .val (.long (r - ((nf (ii + sp)) &&& (own_mk ii r sp nf)))), .second, .val (.int ((sp.toUInt32 >>> ((1 : Int32) &&& 31).toUInt32).toInt32)), .val (.int (ii + sp)), .val (.long (nf (ii + sp))), .second, .val (.long (own_mk ii r sp nf)), .second]) rfl ?_
      show Steps p.tables e below (T5.setTop (mkF m 78 #[.val (.ref ob), .val (.long pt), .second, .val (.int (ii + (sp &&& ((own_mk ii r sp nf).toInt32)))), .val (.long (r - ((nf (ii + sp)) &&& (own_mk ii r sp nf)))), .second, .val (.int ((sp.toUInt32 >>> ((1 : Int32) &&& 31).toUInt32).toInt32)), .val (.int (ii + sp)), .val (.long (nf (ii + sp))), .second, .val (.long (own_mk ii r sp nf)), .second] [])) _
      refine XS.goto X5.here hx rfl (pc0 := 78) (pc' := 11) rfl (hb hby d10_78) (by decide) (by decide) ?_
      exact k
    refine ⟨T5, _, _, (.val (.int (ii + sp))), (.val (.long (nf (ii + sp)))), (.second), (.val (.long (own_mk ii r sp nf))), (.second), X5, e5, N0, rfl, ⟨One.val rfl, Or.inr ⟨_, rfl, rfl⟩, Or.inr ⟨_, rfl, rfl⟩⟩, fun t k => ?_⟩
    rw [(show (ix_i ii r sp nn nf) = (ii + (sp &&& ((own_mk ii r sp nf).toInt32))) from ((if_pos hc4).trans rfl)), (show (ix_r ii r sp nn nf) = (r - ((nf (ii + sp)) &&& (own_mk ii r sp nf))) from ((if_pos hc4).trans rfl)), (show (ix_s sp) = ((sp.toUInt32 >>> ((1 : Int32) &&& 31).toUInt32).toInt32) from rfl)] at k
    exact pre6 t k
  ·
    have pre7 : ∀ t, Steps p.tables e below (T2.setTop (mkF m 11 #[.val (.ref ob), .val (.long pt), .second, .val (.int ii), .val (.long r), .second, .val (.int ((sp.toUInt32 >>> ((1 : Int32) &&& 31).toUInt32).toInt32)), .val (.int (ii + sp)), s8, s9, s10, s11] [])) t → Steps p.tables e below (T0.setTop (mkF m 11 #[.val (.ref ob), .val (.long pt), .second, .val (.int ii), .val (.long r), .second, .val (.int sp), s7, s8, s9, s10, s11] [])) t := by
      intro t k
      refine pre3 t ?_
      show Steps p.tables e below (T2.setTop (mkF m 29 #[.val (.ref ob), .val (.long pt), .second, .val (.int ii), .val (.long r), .second, .val (.int sp), .val (.int (ii + sp)), s8, s9, s10, s11] [(.int nn), (.int (ii + sp))])) _
      refine XS.icmpYes X2.here hx rfl (pc0 := 29) (pc' := 72) rfl (hb hby d10_29) rfl (flt hc4).2.1 (by decide) (by decide) ?_
      show Steps p.tables e below (T2.setTop (mkF m 72 #[.val (.ref ob), .val (.long pt), .second, .val (.int ii), .val (.long r), .second, .val (.int sp), .val (.int (ii + sp)), s8, s9, s10, s11] [])) _
      refine XS.iload X2.here hx rfl (hb hby d10_72) rfl ?_
      show Steps p.tables e below (T2.setTop (mkF m 74 #[.val (.ref ob), .val (.long pt), .second, .val (.int ii), .val (.long r), .second, .val (.int sp), .val (.int (ii + sp)), s8, s9, s10, s11] [(.int sp)])) _
      refine XS.iconst X2.here hx rfl (hb hby d10_74) ?_
      show Steps p.tables e below (T2.setTop (mkF m 75 #[.val (.ref ob), .val (.long pt), .second, .val (.int ii), .val (.long r), .second, .val (.int sp), .val (.int (ii + sp)), s8, s9, s10, s11] [(.int (1 : Int32)), (.int sp)])) _
      refine XS.iushr X2.here hx rfl (hb hby d10_75) rfl ?_
      show Steps p.tables e below (T2.setTop (mkF m 76 #[.val (.ref ob), .val (.long pt), .second, .val (.int ii), .val (.long r), .second, .val (.int sp), .val (.int (ii + sp)), s8, s9, s10, s11] [(.int ((sp.toUInt32 >>> ((1 : Int32) &&& 31).toUInt32).toInt32))])) _
      refine XS.istore X2.here hx rfl (hb hby d10_76) rfl (l' := #[.val (.ref ob), .val (.long pt), .second, .val (.int ii), .val (.long r), .second, .val (.int ((sp.toUInt32 >>> ((1 : Int32) &&& 31).toUInt32).toInt32)), .val (.int (ii + sp)), s8, s9, s10, s11]) rfl ?_
      show Steps p.tables e below (T2.setTop (mkF m 78 #[.val (.ref ob), .val (.long pt), .second, .val (.int ii), .val (.long r), .second, .val (.int ((sp.toUInt32 >>> ((1 : Int32) &&& 31).toUInt32).toInt32)), .val (.int (ii + sp)), s8, s9, s10, s11] [])) _
      refine XS.goto X2.here hx rfl (pc0 := 78) (pc' := 11) rfl (hb hby d10_78) (by decide) (by decide) ?_
      exact k
    refine ⟨T2, _, _, (.val (.int (ii + sp))), (s8), (s9), (s10), (s11), X2, e2, N0, rfl, ⟨One.val rfl, hs8, hs10⟩, fun t k => ?_⟩
    rw [(show (ix_i ii r sp nn nf) = ii from ((if_neg hc4).trans rfl)), (show (ix_r ii r sp nn nf) = r from ((if_neg hc4).trans rfl)), (show (ix_s sp) = ((sp.toUInt32 >>> ((1 : Int32) &&& 31).toUInt32).toInt32) from rfl)] at k
    exact pre7 t k
def ixS (nn : Int32) (nf : Int32 → Int64) : Nat → Int32 → Int64 → Int32 → Int32 × Int64 × Int32
  | 0, ii, r, sp => (ii, r, sp)
  | n + 1, ii, r, sp => if (0 : Int32) < sp then ixS nn nf n (ix_i ii r sp nn nf) (ix_r ii r sp nn nf) (ix_s sp) else (ii, r, sp)
theorem own_mk01 (ii : Int32) (r : Int64) (sp : Int32) (nf : Int32 → Int64) : (own_mk ii r sp nf = 0 ∧ 0 ≤ (((nf (ii + sp)) - r) - (1 : Int64)).toInt) ∨ (own_mk ii r sp nf = -1 ∧ (((nf (ii + sp)) - r) - (1 : Int64)).toInt < 0) := by
  have a := c_lshr (((nf (ii + sp)) - r) - (1 : Int64)) 63 63 (by decide)
  have b := rng64 (((nf (ii + sp)) - r) - (1 : Int64))
  have e : (own_mk ii r sp nf).toInt = (((nf (ii + sp)) - r) - (1 : Int64)).toInt / (2 ^ 63 : Nat) := a
  have l0 : (0 : Int64).toInt = 0 := by decide
  have l1 : (-1 : Int64).toInt = -1 := by decide
  rw [← Int64.toInt_inj, ← Int64.toInt_inj, l0, l1]
  omega
theorem own_ixs (sp : Int32) (h : 0 ≤ sp.toInt) : (ix_s sp).toInt = sp.toInt / 2 := by
  have a := c_iushr sp 1 1 (by decide) (by decide)
  have b := rng32 sp
  have e : (ix_s sp).toInt = (sp.toInt % 4294967296) / (2 ^ 1 : Nat) := a
  omega
theorem own_ixi (ii : Int32) (r : Int64) (sp nn : Int32) (nf : Int32 → Int64) (h0 : 0 ≤ ii.toInt) (h1 : 0 ≤ sp.toInt) (h2 : ii.toInt + sp.toInt ≤ 1000) : ix_i ii r sp nn nf = ii ∨ ix_i ii r sp nn nf = ii + sp := by
  unfold ix_i
  split
  · rcases own_mk01 ii r sp nf with ⟨e, -⟩ | ⟨e, -⟩
    · rw [e]
      have z : (0 : Int64).toInt32 = 0 := by decide
      rw [z, Int32.and_zero, Int32.add_zero]; exact Or.inl rfl
    · rw [e]
      have z : (-1 : Int64).toInt32 = -1 := by decide
      rw [z, Int32.and_neg_one]; exact Or.inr rfl
  · exact Or.inl rfl
set_option maxHeartbeats 4000000 in
theorem ixLoop {p : Program} {l : Launch} {e : Env} {R : Room} {s : State} {m : MethodId} {args : Array Value} {below : List Frame} {meth : Method} {c : Code} {cells slots : Nat} {Z : State} {a0 : Array Value} {h0 : Heap} {n0 : Nat} (pt : Int64) (ob an as : Addr) (fst : Int32) (tt : Int64) (nn : Int32) (nf : Int32 → Int64) (ns : Int32) (sf : Int32 → Int32)
    (hx : p.tables.exec = Jvm.exec) (hZ : Z.Warmed39 s.vm) (hw : ∀ d ∈ tables_1, d.before a0 Z = true) (hby : c.code = prog_6_method_6_code) (hml : c.maxLocals = 12) (hown : s.vm.findClass "com/example/dealer/dealer/ChangingShares" = some m.cls) (I0 : CS Z h0 n0 ob an as fst tt nn nf ns sf) (n : Nat) : ∀ {T0 : State} {locs : List Loc} (ii : Int32) (r : Int64) (sp : Int32) (s7 s8 s9 s10 s11 : Slot) (hs7 : One s7) (hs8 : Two s8 s9) (hs10 : Two s10 s11) (X0 : Stand p l e R s m args below meth c T0 locs cells slots) (e0 : T0.heap = h0) (N0 : Fr n0 locs) (h0i : 0 ≤ ii.toInt) (h0s : 0 ≤ sp.toInt) (hb : ii.toInt + 2 * sp.toInt ≤ 64),
    ∃ (T' : State) (locs' : List Loc) (s7' s8' s9' s10' s11' : Slot), Stand p l e R s m args below meth c T' locs' cells slots ∧ T'.heap = h0 ∧ Fr n0 locs' ∧ ∀ t, Steps p.tables e below (T'.setTop (mkF m 11 #[.val (.ref ob), .val (.long pt), .second, .val (.int (ixS nn nf n ii r sp).1), .val (.long (ixS nn nf n ii r sp).2.1), .second, .val (.int (ixS nn nf n ii r sp).2.2), s7', s8', s9', s10', s11'] [])) t → Steps p.tables e below (T0.setTop (mkF m 11 #[.val (.ref ob), .val (.long pt), .second, .val (.int ii), .val (.long r), .second, .val (.int sp), s7, s8, s9, s10, s11] [])) t := by
  induction n with
  | zero =>
    intro T0 locs ii r sp s7 s8 s9 s10 s11 hs7 hs8 hs10 X0 e0 N0 h0i h0s hb
    exact ⟨T0, locs, s7, s8, s9, s10, s11, X0, e0, N0, fun t k => k⟩
  | succ n ih =>
    intro T0 locs ii r sp s7 s8 s9 s10 s11 hs7 hs8 hs10 X0 e0 N0 h0i h0s hb
    by_cases hsp : (0 : Int32) < sp
    · have l0 : (0 : Int32).toInt = 0 := by decide
      have a := c_iadd ii sp
      have b := rng32 (ii + sp)
      have es := own_ixs sp h0s
      have ei := own_ixi ii r sp nn nf h0i h0s (by omega)
      obtain ⟨T1, h1, locs1, t7, t8, t9, t10, t11, X1, q1, N1, rfl, ⟨c7, c8, c10⟩, st1⟩ := ixTurn pt ii r sp s7 s8 s9 s10 s11 ob an as fst tt nn nf ns sf X0 hx hZ hw hby hml hown e0 N0 I0.2.2.2.2.2.2.2.2.2.2.2.2.2 I0 hs7 hs8 hs10 hsp (fun q => ⟨by rw [Int32.lt_iff_toInt_lt, l0]; omega, q⟩)
      have hs : ixS nn nf (n + 1) ii r sp = ixS nn nf n (ix_i ii r sp nn nf) (ix_r ii r sp nn nf) (ix_s sp) := if_pos hsp
      rw [hs]
      have bi : 0 ≤ (ix_i ii r sp nn nf).toInt ∧ (ix_i ii r sp nn nf).toInt ≤ ii.toInt + sp.toInt := by
        rcases ei with w | w <;> rw [w] <;> omega
      obtain ⟨T2, locs2, u7, u8, u9, u10, u11, X2, q2, N2, st2⟩ := ih (ix_i ii r sp nn nf) (ix_r ii r sp nn nf) (ix_s sp) t7 t8 t9 t10 t11 c7 c8 c10 X1 q1 N1 bi.1 (by omega) (by omega)
      exact ⟨T2, locs2, u7, u8, u9, u10, u11, X2, q2, N2, fun t k => st1 t (st2 t k)⟩
    · have hs : ixS nn nf (n + 1) ii r sp = (ii, r, sp) := if_neg hsp
      rw [hs]
      exact ⟨T0, locs, s7, s8, s9, s10, s11, X0, e0, N0, fun t k => k⟩
theorem own_ixend (nn : Int32) (nf : Int32 → Int64) (n : Nat) : ∀ (ii : Int32) (r : Int64) (sp : Int32), 0 ≤ sp.toInt → sp.toInt < 2 ^ n → ¬ (0 : Int32) < (ixS nn nf n ii r sp).2.2 := by
  have l0 : (0 : Int32).toInt = 0 := by decide
  induction n with
  | zero => intro ii r sp h0 h1; rw [Int32.lt_iff_toInt_lt, l0]; show ¬ 0 < sp.toInt; omega
  | succ n ih =>
    intro ii r sp h0 h1
    by_cases hsp : (0 : Int32) < sp
    · have hs : ixS nn nf (n + 1) ii r sp = ixS nn nf n (ix_i ii r sp nn nf) (ix_r ii r sp nn nf) (ix_s sp) := if_pos hsp
      rw [hs]
      have es := own_ixs sp h0
      have e2 : (2 : Int) ^ (n + 1) = 2 * 2 ^ n := by rw [Int.pow_succ]; omega
      exact ih _ _ _ (by omega) (by omega)
    · have hs : ixS nn nf (n + 1) ii r sp = (ii, r, sp) := if_neg hsp
      rw [hs]; exact hsp
theorem d10_0 : decode prog_6_method_6_code 0 = .ok (.iconst 0, 1) := by decide +kernel
theorem d10_1 : decode prog_6_method_6_code 1 = .ok (.istore_n 3, 1) := by decide +kernel
theorem d10_2 : decode prog_6_method_6_code 2 = .ok (.lload_n 1, 1) := by decide +kernel
theorem d10_3 : decode prog_6_method_6_code 3 = .ok (.lstore 4, 2) := by decide +kernel
theorem d10_5 : decode prog_6_method_6_code 5 = .ok (.aload_n 0, 1) := by decide +kernel
theorem d10_6 : decode prog_6_method_6_code 6 = .ok (.getfield 23, 3) := by decide +kernel
theorem d10_9 : decode prog_6_method_6_code 9 = .ok (.istore 6, 2) := by decide +kernel
theorem d10_81 : decode prog_6_method_6_code 81 = .ok (.iload_n 3, 1) := by decide +kernel
theorem d10_82 : decode prog_6_method_6_code 82 = .ok (.ireturn, 1) := by decide +kernel
theorem ef_10 (m : MethodId) (x0 : Addr) (x1 : Int64) : entryFrame m #[(.ref x0), (.long x1)] 12 = mkF m 0 #[.val (.ref x0), .val (.long x1), .second, .unset, .unset, .unset, .unset, .unset, .unset, .unset, .unset, .unset] [] := by first | (simp [entryFrame, mkF, argsToLocals, Value.category]; done) | rfl
def Fix (pt : Int64) (fst : Int32) (nn : Int32) (nf : Int32 → Int64) : Int32 := (ixS nn nf 5 (0 : Int32) pt fst).1
def Q10 (Z : State) (ob : Addr) (pt : Int64) (an : Addr) (as : Addr) (fst : Int32) (tt : Int64) (nn : Int32) (nf : Int32 → Int64) (ns : Int32) (sf : Int32 → Int32) (h0 : Heap) (n0 : Nat) (v : Option Value) (h : Heap) (L : List Loc) : Prop := v = some (.int (Fix pt fst nn nf)) ∧ Fr n0 L ∧ h = h0
set_option maxRecDepth 65536 in
set_option maxHeartbeats 40000000 in
theorem rm10 (l : Launch) (Z : State) (a0 : Array Value) (hw : ∀ d ∈ tables_1, d.before a0 Z = true) (ws : List Jvm.Cond) (ob : Addr) (pt : Int64) (an : Addr) (as : Addr) (fst : Int32) (tt : Int64) (nn : Int32) (nf : Int32 → Int64) (ns : Int32) (sf : Int32 → Int32) (h0 : Heap) (n0 : Nat) (Z0 : n0 ≤ h0.size) (I0 : CS Z h0 n0 ob an as fst tt nn nf ns sf) (hfs0 : 0 ≤ fst.toInt) (hfs1 : fst.toInt ≤ 15) :
    MetFree l (⟨"com/example/dealer/dealer/ChangingShares", "indexAt", "(J)I"⟩ : MethodName) (head1 (Jvm.Cond.code (⟨"com/example/dealer/dealer/ChangingShares", "indexAt", "(J)I"⟩ : MethodName) prog_6_method_6_code 12 (some .int) :: ws) ({ frames := 0, cells := 0, slots := 0, locals := 0 } : Room)) (fun a U => a = #[(.ref ob), (.long pt)] ∧ Z.Warmed39 U.vm ∧ U.heap = h0) (fun _ _ _ _ _ => True) (fun _ U o U' => ∃ v L, o = .returned v ∧ Q10 Z ob pt an as fst tt nn nf ns sf h0 n0 v U'.heap L ∧ FrameEnd U o U' L ({ frames := 0, cells := 0, slots := 0, locals := 0 } : Room).cells ({ frames := 0, cells := 0, slots := 0, locals := 0 } : Room).slots) := by
  refine MetFree.of_bodySF (plainFor_of_name pn_3) hisR ?_
  intro p e s m args below meth c s₁ Bd hml0 hP hK
  obtain ⟨rfl, hZ, hh⟩ := hP
  have hx := Bd.exec
  have hby := Bd.bytes
  have hml : c.maxLocals = 12 := hml0
  have hown : s.vm.findClass "com/example/dealer/dealer/ChangingShares" = some m.cls := findClass_of_methodNamed Bd.named
  have hnm := (name_of_methodNamed Bd.named Bd.method).1
  have X0 : Stand p l e ({ frames := 0, cells := 0, slots := 0, locals := 0 } : Room) s m #[(.ref ob), (.long pt)] below meth c s₁ [] 0 0 := Stand.of_body Bd
  have e0 : s₁.heap = h0 := by rw [← hh, Bd.state]; rfl
  have N0 := Fr.nil n0
  have pre0 : ∀ t, Steps p.tables e below (s₁.setTop (mkF m 0 #[.val (.ref ob), .val (.long pt), .second, .unset, .unset, .unset, .unset, .unset, .unset, .unset, .unset, .unset] [])) t → Steps p.tables e below (s₁.setTop (entryFrame m #[(.ref ob), (.long pt)] 12)) t := fun t k => castTop (ef_10 m ob pt) k
  obtain ⟨k1_0, k1_1, k1_2, k1_3, k1_4, k1_5, k1_6, k1_g_ob, k1_g_an, k1_g_as, k1_n_ob_an, k1_n_ob_as, k1_n_an_as, k1_sz⟩ := I0
  obtain ⟨T2, X2, e2, st2⟩ := getF X0 hx hZ hown (host := "") (Or.inl (hw _ (List.mem_of_getElem? (i := 33) rfl))) Via.refl e0 k1_3 (g := (mkF m 6 #[.val (.ref ob), .val (.long pt), .second, .val (.int (0 : Int32)), .val (.long pt), .second, .unset, .unset, .unset, .unset, .unset, .unset] [(.ref ob)])) rfl rfl (hb hby d10_6)
  have pre3 : ∀ t, Steps p.tables e below (T2.setTop (mkF m 11 #[.val (.ref ob), .val (.long pt), .second, .val (.int (0 : Int32)), .val (.long pt), .second, .val (.int fst), .unset, .unset, .unset, .unset, .unset] [])) t → Steps p.tables e below (s₁.setTop (entryFrame m #[(.ref ob), (.long pt)] 12)) t := by
    intro t k
    refine pre0 t ?_
    show Steps p.tables e below (s₁.setTop (mkF m 0 #[.val (.ref ob), .val (.long pt), .second, .unset, .unset, .unset, .unset, .unset, .unset, .unset, .unset, .unset] [])) _
    refine XS.iconst X0.here hx rfl (hb hby d10_0) ?_
    show Steps p.tables e below (s₁.setTop (mkF m 1 #[.val (.ref ob), .val (.long pt), .second, .unset, .unset, .unset, .unset, .unset, .unset, .unset, .unset, .unset] [(.int (0 : Int32))])) _
    refine XS.istoreN X0.here hx rfl (hb hby d10_1) rfl (l' := #[.val (.ref ob), .val (.long pt), .second, .val (.int (0 : Int32)), .unset, .unset, .unset, .unset, .unset, .unset, .unset, .unset]) rfl ?_
    show Steps p.tables e below (s₁.setTop (mkF m 2 #[.val (.ref ob), .val (.long pt), .second, .val (.int (0 : Int32)), .unset, .unset, .unset, .unset, .unset, .unset, .unset, .unset] [])) _
    refine XS.lloadN X0.here hx rfl (hb hby d10_2) rfl ?_
    show Steps p.tables e below (s₁.setTop (mkF m 3 #[.val (.ref ob), .val (.long pt), .second, .val (.int (0 : Int32)), .unset, .unset, .unset, .unset, .unset, .unset, .unset, .unset] [(.long pt)])) _
    refine XS.lstore X0.here hx rfl (hb hby d10_3) rfl (l' := #[.val (.ref ob), .val (.long pt), .second, .val (.int (0 : Int32)), .val (.long pt), .second, .unset, .unset, .unset, .unset, .unset, .unset]) rfl ?_
    show Steps p.tables e below (s₁.setTop (mkF m 5 #[.val (.ref ob), .val (.long pt), .second, .val (.int (0 : Int32)), .val (.long pt), .second, .unset, .unset, .unset, .unset, .unset, .unset] [])) _
    refine XS.aloadN X0.here hx rfl (hb hby d10_5) rfl rfl ?_
    show Steps p.tables e below (s₁.setTop (mkF m 6 #[.val (.ref ob), .val (.long pt), .second, .val (.int (0 : Int32)), .val (.long pt), .second, .unset, .unset, .unset, .unset, .unset, .unset] [(.ref ob)])) _
    refine st2 _ ?_
    show Steps p.tables e below (T2.setTop (mkF m 9 #[.val (.ref ob), .val (.long pt), .second, .val (.int (0 : Int32)), .val (.long pt), .second, .unset, .unset, .unset, .unset, .unset, .unset] [(.int fst)])) _
    refine XS.istore X2.here hx rfl (hb hby d10_9) rfl (l' := #[.val (.ref ob), .val (.long pt), .second, .val (.int (0 : Int32)), .val (.long pt), .second, .val (.int fst), .unset, .unset, .unset, .unset, .unset]) rfl ?_
    exact k
  obtain ⟨T4, L4, u7_4, u8_4, u9_4, u10_4, u11_4, X4, e4, N4, st4⟩ := ixLoop pt ob an as fst tt nn nf ns sf hx hZ hw hby hml hown ⟨k1_0, k1_1, k1_2, k1_3, k1_4, k1_5, k1_6, k1_g_ob, k1_g_an, k1_g_as, k1_n_ob_an, k1_n_ob_as, k1_n_an_as, Z0⟩ 5 (0 : Int32) pt fst .unset .unset .unset .unset .unset One.u (Or.inl ⟨rfl, rfl⟩) (Or.inl ⟨rfl, rfl⟩) X2 e2 N0 (by decide) hfs0 (by have q : (0 : Int32).toInt = 0 := (by decide); omega)
  have pre4 : ∀ t, Steps p.tables e below (T4.setTop (mkF m 11 #[.val (.ref ob), .val (.long pt), .second, .val (.int (ixS nn nf 5 (0 : Int32) pt fst).1), .val (.long (ixS nn nf 5 (0 : Int32) pt fst).2.1), .second, .val (.int (ixS nn nf 5 (0 : Int32) pt fst).2.2), u7_4, u8_4, u9_4, u10_4, u11_4] [])) t → Steps p.tables e below (s₁.setTop (entryFrame m #[(.ref ob), (.long pt)] 12)) t := fun t k => pre3 t (st4 t k)
  have pre5 : ∀ t, Steps p.tables e below (T4.setTop (mkF m 82 #[.val (.ref ob), .val (.long pt), .second, .val (.int (ixS nn nf 5 (0 : Int32) pt fst).1), .val (.long (ixS nn nf 5 (0 : Int32) pt fst).2.1), .second, .val (.int (ixS nn nf 5 (0 : Int32) pt fst).2.2), u7_4, u8_4, u9_4, u10_4, u11_4] [(.int (ixS nn nf 5 (0 : Int32) pt fst).1)])) t → Steps p.tables e below (s₁.setTop (entryFrame m #[(.ref ob), (.long pt)] 12)) t := by
    intro t k
    refine pre4 t ?_
    show Steps p.tables e below (T4.setTop (mkF m 11 #[.val (.ref ob), .val (.long pt), .second, .val (.int (ixS nn nf 5 (0 : Int32) pt fst).1), .val (.long (ixS nn nf 5 (0 : Int32) pt fst).2.1), .second, .val (.int (ixS nn nf 5 (0 : Int32) pt fst).2.2), u7_4, u8_4, u9_4, u10_4, u11_4] [])) _
    refine XS.iload X4.here hx rfl (hb hby d10_11) rfl ?_
    show Steps p.tables e below (T4.setTop (mkF m 13 #[.val (.ref ob), .val (.long pt), .second, .val (.int (ixS nn nf 5 (0 : Int32) pt fst).1), .val (.long (ixS nn nf 5 (0 : Int32) pt fst).2.1), .second, .val (.int (ixS nn nf 5 (0 : Int32) pt fst).2.2), u7_4, u8_4, u9_4, u10_4, u11_4] [(.int (ixS nn nf 5 (0 : Int32) pt fst).2.2)])) _
    refine XS.ifYes X4.here hx rfl (pc0 := 13) (pc' := 81) rfl (hb hby d10_13) rfl ((if0 _ _).trans (flt (own_ixend nn nf 5 _ _ _ hfs0 (by omega))).2.2.2) (by decide) (by decide) ?_
    show Steps p.tables e below (T4.setTop (mkF m 81 #[.val (.ref ob), .val (.long pt), .second, .val (.int (ixS nn nf 5 (0 : Int32) pt fst).1), .val (.long (ixS nn nf 5 (0 : Int32) pt fst).2.1), .second, .val (.int (ixS nn nf 5 (0 : Int32) pt fst).2.2), u7_4, u8_4, u9_4, u10_4, u11_4] [])) _
    refine XS.iloadN X4.here hx rfl (hb hby d10_81) rfl ?_
    exact k
  obtain ⟨fs, hr, hrun, hended, hW, hsame⟩ := X4.leave (v := some (.int (Fix pt fst nn nf))) (fun h => by rw [Bd.returns] at h; cases h) (BodyLoose.notSynchronized Bd)
  refine ⟨_, _, pre5 _ ?_, hrun, hended, _, _, rfl, ?_, ⟨_, rfl⟩, hW, hsame.mono (by decide) (by decide)⟩
  · show Steps p.tables e below (T4.setTop (mkF m 82 #[.val (.ref ob), .val (.long pt), .second, .val (.int (ixS nn nf 5 (0 : Int32) pt fst).1), .val (.long (ixS nn nf 5 (0 : Int32) pt fst).2.1), .second, .val (.int (ixS nn nf 5 (0 : Int32) pt fst).2.2), u7_4, u8_4, u9_4, u10_4, u11_4] [(.int (ixS nn nf 5 (0 : Int32) pt fst).1)])) _
    have hr2 := hr
    rw [(show (Fix pt fst nn nf) = (ixS nn nf 5 (0 : Int32) pt fst).1 from rfl)] at hr2
    exact retI X4 hx Bd.returns (hb hby d10_82) hr2
  · show Q10 Z ob pt an as fst tt nn nf ns sf h0 n0 _ T4.heap _
    rw [e4]
    exact ⟨rfl, N4, rfl⟩
theorem d7_0 : decode prog_6_method_2_code 0 = .ok (.aload_n 0, 1) := by decide +kernel
theorem d7_1 : decode prog_6_method_2_code 1 = .ok (.lconst 0, 1) := by decide +kernel
theorem d7_2 : decode prog_6_method_2_code 2 = .ok (.putfield 27, 3) := by decide +kernel
theorem d7_5 : decode prog_6_method_2_code 5 = .ok (.iconst 0, 1) := by decide +kernel
theorem d7_6 : decode prog_6_method_2_code 6 = .ok (.istore_n 3, 1) := by decide +kernel
theorem d7_7 : decode prog_6_method_2_code 7 = .ok (.iload_n 3, 1) := by decide +kernel
theorem d7_8 : decode prog_6_method_2_code 8 = .ok (.aload_n 0, 1) := by decide +kernel
theorem d7_9 : decode prog_6_method_2_code 9 = .ok (.getfield 13, 3) := by decide +kernel
theorem d7_12 : decode prog_6_method_2_code 12 = .ok (.arraylength, 1) := by decide +kernel
theorem d7_13 : decode prog_6_method_2_code 13 = .ok (.if_icmp .ge 61, 3) := by decide +kernel
theorem d7_16 : decode prog_6_method_2_code 16 = .ok (.iload_n 3, 1) := by decide +kernel
theorem d7_17 : decode prog_6_method_2_code 17 = .ok (.aload_n 2, 1) := by decide +kernel
theorem d7_18 : decode prog_6_method_2_code 18 = .ok (.arraylength, 1) := by decide +kernel
theorem d7_19 : decode prog_6_method_2_code 19 = .ok (.if_icmp .ge 15, 3) := by decide +kernel
theorem d7_22 : decode prog_6_method_2_code 22 = .ok (.aload_n 2, 1) := by decide +kernel
theorem d7_23 : decode prog_6_method_2_code 23 = .ok (.iload_n 3, 1) := by decide +kernel
theorem d7_24 : decode prog_6_method_2_code 24 = .ok (.baload, 1) := by decide +kernel
theorem d7_25 : decode prog_6_method_2_code 25 = .ok (.ifCond .eq 9, 3) := by decide +kernel
theorem d7_28 : decode prog_6_method_2_code 28 = .ok (.aload_n 1, 1) := by decide +kernel
theorem d7_29 : decode prog_6_method_2_code 29 = .ok (.iload_n 3, 1) := by decide +kernel
theorem d7_30 : decode prog_6_method_2_code 30 = .ok (.iaload, 1) := by decide +kernel
theorem d7_31 : decode prog_6_method_2_code 31 = .ok (.goto 4, 3) := by decide +kernel
theorem d7_34 : decode prog_6_method_2_code 34 = .ok (.iconst 0, 1) := by decide +kernel
theorem d7_35 : decode prog_6_method_2_code 35 = .ok (.istore 4, 2) := by decide +kernel
theorem d7_37 : decode prog_6_method_2_code 37 = .ok (.aload_n 0, 1) := by decide +kernel
theorem d7_38 : decode prog_6_method_2_code 38 = .ok (.getfield 13, 3) := by decide +kernel
theorem d7_41 : decode prog_6_method_2_code 41 = .ok (.iload_n 3, 1) := by decide +kernel
theorem d7_42 : decode prog_6_method_2_code 42 = .ok (.iload 4, 2) := by decide +kernel
theorem d7_44 : decode prog_6_method_2_code 44 = .ok (.iastore, 1) := by decide +kernel
theorem d7_45 : decode prog_6_method_2_code 45 = .ok (.aload_n 0, 1) := by decide +kernel
theorem d7_46 : decode prog_6_method_2_code 46 = .ok (.getfield 7, 3) := by decide +kernel
theorem d7_49 : decode prog_6_method_2_code 49 = .ok (.iload_n 3, 1) := by decide +kernel
theorem d7_50 : decode prog_6_method_2_code 50 = .ok (.iconst 1, 1) := by decide +kernel
theorem d7_51 : decode prog_6_method_2_code 51 = .ok (.iadd, 1) := by decide +kernel
theorem d7_52 : decode prog_6_method_2_code 52 = .ok (.iload 4, 2) := by decide +kernel
theorem d7_54 : decode prog_6_method_2_code 54 = .ok (.i2l, 1) := by decide +kernel
theorem d7_55 : decode prog_6_method_2_code 55 = .ok (.lastore, 1) := by decide +kernel
theorem d7_56 : decode prog_6_method_2_code 56 = .ok (.aload_n 0, 1) := by decide +kernel
theorem d7_57 : decode prog_6_method_2_code 57 = .ok (.dup, 1) := by decide +kernel
theorem d7_58 : decode prog_6_method_2_code 58 = .ok (.getfield 27, 3) := by decide +kernel
theorem d7_61 : decode prog_6_method_2_code 61 = .ok (.iload 4, 2) := by decide +kernel
theorem d7_63 : decode prog_6_method_2_code 63 = .ok (.i2l, 1) := by decide +kernel
theorem d7_64 : decode prog_6_method_2_code 64 = .ok (.ladd, 1) := by decide +kernel
theorem d7_65 : decode prog_6_method_2_code 65 = .ok (.putfield 27, 3) := by decide +kernel
theorem d7_68 : decode prog_6_method_2_code 68 = .ok (.iinc 3 1, 3) := by decide +kernel
theorem d7_71 : decode prog_6_method_2_code 71 = .ok (.goto (-64), 3) := by decide +kernel
theorem d7_74 : decode prog_6_method_2_code 74 = .ok (.iconst 1, 1) := by decide +kernel
theorem d7_75 : decode prog_6_method_2_code 75 = .ok (.istore_n 3, 1) := by decide +kernel
theorem d7_76 : decode prog_6_method_2_code 76 = .ok (.iload_n 3, 1) := by decide +kernel
theorem d7_77 : decode prog_6_method_2_code 77 = .ok (.aload_n 0, 1) := by decide +kernel
theorem d7_78 : decode prog_6_method_2_code 78 = .ok (.getfield 7, 3) := by decide +kernel
theorem d7_81 : decode prog_6_method_2_code 81 = .ok (.arraylength, 1) := by decide +kernel
theorem d7_82 : decode prog_6_method_2_code 82 = .ok (.if_icmp .ge 43, 3) := by decide +kernel
theorem d7_85 : decode prog_6_method_2_code 85 = .ok (.iload_n 3, 1) := by decide +kernel
theorem d7_86 : decode prog_6_method_2_code 86 = .ok (.iload_n 3, 1) := by decide +kernel
theorem d7_87 : decode prog_6_method_2_code 87 = .ok (.iload_n 3, 1) := by decide +kernel
theorem d7_88 : decode prog_6_method_2_code 88 = .ok (.ineg, 1) := by decide +kernel
theorem d7_89 : decode prog_6_method_2_code 89 = .ok (.iand, 1) := by decide +kernel
theorem d7_90 : decode prog_6_method_2_code 90 = .ok (.iadd, 1) := by decide +kernel
theorem d7_91 : decode prog_6_method_2_code 91 = .ok (.istore 4, 2) := by decide +kernel
theorem d7_93 : decode prog_6_method_2_code 93 = .ok (.iload 4, 2) := by decide +kernel
theorem d7_95 : decode prog_6_method_2_code 95 = .ok (.aload_n 0, 1) := by decide +kernel
theorem d7_96 : decode prog_6_method_2_code 96 = .ok (.getfield 7, 3) := by decide +kernel
theorem d7_99 : decode prog_6_method_2_code 99 = .ok (.arraylength, 1) := by decide +kernel
theorem d7_100 : decode prog_6_method_2_code 100 = .ok (.if_icmp .ge 19, 3) := by decide +kernel
theorem d7_103 : decode prog_6_method_2_code 103 = .ok (.aload_n 0, 1) := by decide +kernel
theorem d7_104 : decode prog_6_method_2_code 104 = .ok (.getfield 7, 3) := by decide +kernel
theorem d7_107 : decode prog_6_method_2_code 107 = .ok (.iload 4, 2) := by decide +kernel
theorem d7_109 : decode prog_6_method_2_code 109 = .ok (.dup2, 1) := by decide +kernel
theorem d7_110 : decode prog_6_method_2_code 110 = .ok (.laload, 1) := by decide +kernel
theorem d7_111 : decode prog_6_method_2_code 111 = .ok (.aload_n 0, 1) := by decide +kernel
theorem d7_112 : decode prog_6_method_2_code 112 = .ok (.getfield 7, 3) := by decide +kernel
theorem d7_115 : decode prog_6_method_2_code 115 = .ok (.iload_n 3, 1) := by decide +kernel
theorem d7_116 : decode prog_6_method_2_code 116 = .ok (.laload, 1) := by decide +kernel
theorem d7_117 : decode prog_6_method_2_code 117 = .ok (.ladd, 1) := by decide +kernel
theorem d7_118 : decode prog_6_method_2_code 118 = .ok (.lastore, 1) := by decide +kernel
theorem d7_119 : decode prog_6_method_2_code 119 = .ok (.iinc 3 1, 3) := by decide +kernel
theorem d7_122 : decode prog_6_method_2_code 122 = .ok (.goto (-46), 3) := by decide +kernel
theorem d7_125 : decode prog_6_method_2_code 125 = .ok (.return_, 1) := by decide +kernel
theorem ef_7 (m : MethodId) (x0 : Addr) (x1 : Addr) (x2 : Addr) : entryFrame m #[(.ref x0), (.ref x1), (.ref x2)] 5 = mkF m 0 #[.val (.ref x0), .val (.ref x1), .val (.ref x2), .unset, .unset] [] := by first | (simp [entryFrame, mkF, argsToLocals, Value.category]; done) | rfl
def fl_s (zn : Int32) (gs : Int32 → Int32) (gc : Int32 → Int32) : Int32 := (if (0 : Int32) < zn then (if (gc (0 : Int32)) = (0 : Int32) then (0 : Int32) else (gs (0 : Int32))) else (0 : Int32))
def fl_s_1 (zn : Int32) (gs : Int32 → Int32) (gc : Int32 → Int32) : Int32 := (if (1 : Int32) < zn then (if (gc (1 : Int32)) = (0 : Int32) then (0 : Int32) else (gs (1 : Int32))) else (0 : Int32))
def fl_s_2 (zn : Int32) (gs : Int32 → Int32) (gc : Int32 → Int32) : Int32 := (if (2 : Int32) < zn then (if (gc (2 : Int32)) = (0 : Int32) then (0 : Int32) else (gs (2 : Int32))) else (0 : Int32))
def fl_s_3 (zn : Int32) (gs : Int32 → Int32) (gc : Int32 → Int32) : Int32 := (if (3 : Int32) < zn then (if (gc (3 : Int32)) = (0 : Int32) then (0 : Int32) else (gs (3 : Int32))) else (0 : Int32))
def fl_s_4 (zn : Int32) (gs : Int32 → Int32) (gc : Int32 → Int32) : Int32 := (if (4 : Int32) < zn then (if (gc (4 : Int32)) = (0 : Int32) then (0 : Int32) else (gs (4 : Int32))) else (0 : Int32))
def Ffill_t (zn : Int32) (gs : Int32 → Int32) (gc : Int32 → Int32) : Int64 := ((((((0 : Int64) + ((fl_s zn gs gc).toInt64)) + ((fl_s_1 zn gs gc).toInt64)) + ((fl_s_2 zn gs gc).toInt64)) + ((fl_s_3 zn gs gc).toInt64)) + ((fl_s_4 zn gs gc).toInt64))
def Ffill_n (nf : Int32 → Int64) (zn : Int32) (gs : Int32 → Int32) (gc : Int32 → Int32) : Int32 → Int64 := (@upA Int64 (@upA Int64 (@upA Int64 (@upA Int64 (@upA Int64 (@upA Int64 (@upA Int64 (@upA Int64 nf (1 : Int32) ((fl_s zn gs gc).toInt64)) (2 : Int32) ((fl_s_1 zn gs gc).toInt64)) (3 : Int32) ((fl_s_2 zn gs gc).toInt64)) (4 : Int32) ((fl_s_3 zn gs gc).toInt64)) (5 : Int32) ((fl_s_4 zn gs gc).toInt64)) (2 : Int32) (((fl_s_1 zn gs gc).toInt64) + ((fl_s zn gs gc).toInt64))) (4 : Int32) (((fl_s_3 zn gs gc).toInt64) + (((fl_s_1 zn gs gc).toInt64) + ((fl_s zn gs gc).toInt64)))) (4 : Int32) ((((fl_s_3 zn gs gc).toInt64) + (((fl_s_1 zn gs gc).toInt64) + ((fl_s zn gs gc).toInt64))) + ((fl_s_2 zn gs gc).toInt64)))
def Ffill_s (sf : Int32 → Int32) (zn : Int32) (gs : Int32 → Int32) (gc : Int32 → Int32) : Int32 → Int32 := (@upA Int32 (@upA Int32 (@upA Int32 (@upA Int32 (@upA Int32 sf (0 : Int32) (fl_s zn gs gc)) (1 : Int32) (fl_s_1 zn gs gc)) (2 : Int32) (fl_s_2 zn gs gc)) (3 : Int32) (fl_s_3 zn gs gc)) (4 : Int32) (fl_s_4 zn gs gc))
def Q7 (Z : State) (ob : Addr) (sa : Addr) (ca : Addr) (an : Addr) (as : Addr) (fst : Int32) (tt : Int64) (nf : Int32 → Int64) (sf : Int32 → Int32) (zn : Int32) (gs : Int32 → Int32) (gc : Int32 → Int32) (h0 : Heap) (n0 : Nat) (v : Option Value) (h : Heap) (L : List Loc) : Prop := v = none ∧ Fr n0 L ∧ (PF Z h n0 ob an as sa ca fst (Ffill_t zn gs gc) (Ffill_n nf zn gs gc) (Ffill_s sf zn gs gc) zn gs gc) ∧ Keep h0 h [ob, an, as]
set_option maxRecDepth 65536 in
set_option maxHeartbeats 40000000 in
theorem rm7 (l : Launch) (Z : State) (a0 : Array Value) (hw : ∀ d ∈ tables_1, d.before a0 Z = true) (ws : List Jvm.Cond) (ob : Addr) (sa : Addr) (ca : Addr) (an : Addr) (as : Addr) (fst : Int32) (tt : Int64) (nf : Int32 → Int64) (sf : Int32 → Int32) (zn : Int32) (gs : Int32 → Int32) (gc : Int32 → Int32) (h0 : Heap) (n0 : Nat) (Z0 : n0 ≤ h0.size) (I0 : PF Z h0 n0 ob an as sa ca fst tt nf sf zn gs gc) :
    MetFree l (⟨"com/example/dealer/dealer/ChangingShares", "fill", "([I[Z)V"⟩ : MethodName) (head1 (Jvm.Cond.code (⟨"com/example/dealer/dealer/ChangingShares", "fill", "([I[Z)V"⟩ : MethodName) prog_6_method_2_code 5 none :: ws) ({ frames := 0, cells := 0, slots := 0, locals := 0 } : Room)) (fun a U => a = #[(.ref ob), (.ref sa), (.ref ca)] ∧ Z.Warmed39 U.vm ∧ U.heap = h0) (fun _ _ _ _ _ => True) (fun _ U o U' => ∃ v L, o = .returned v ∧ Q7 Z ob sa ca an as fst tt nf sf zn gs gc h0 n0 v U'.heap L ∧ FrameEnd U o U' L ({ frames := 0, cells := 0, slots := 0, locals := 0 } : Room).cells ({ frames := 0, cells := 0, slots := 0, locals := 0 } : Room).slots) := by
  refine MetFree.of_bodySF (plainFor_of_name pn_3) hisR ?_
  intro p e s m args below meth c s₁ Bd hml0 hP hK
  obtain ⟨rfl, hZ, hh⟩ := hP
  have hx := Bd.exec
  have hby := Bd.bytes
  have hml : c.maxLocals = 5 := hml0
  have hown : s.vm.findClass "com/example/dealer/dealer/ChangingShares" = some m.cls := findClass_of_methodNamed Bd.named
  have hnm := (name_of_methodNamed Bd.named Bd.method).1
  have X0 : Stand p l e ({ frames := 0, cells := 0, slots := 0, locals := 0 } : Room) s m #[(.ref ob), (.ref sa), (.ref ca)] below meth c s₁ [] 0 0 := Stand.of_body Bd
  have e0 : s₁.heap = h0 := by rw [← hh, Bd.state]; rfl
  have N0 := Fr.nil n0
  have pre0 : ∀ t, Steps p.tables e below (s₁.setTop (mkF m 0 #[.val (.ref ob), .val (.ref sa), .val (.ref ca), .unset, .unset] [])) t → Steps p.tables e below (s₁.setTop (entryFrame m #[(.ref ob), (.ref sa), (.ref ca)] 5)) t := fun t k => castTop (ef_7 m ob sa ca) k
  obtain ⟨k1_0, k1_1, k1_2, k1_3, k1_4, k1_5, k1_6, k1_7, k1_8, k1_g_ob, k1_g_an, k1_g_as, k1_g_sa, k1_g_ca, k1_n_ob_an, k1_n_ob_as, k1_n_ob_sa, k1_n_ob_ca, k1_n_an_as, k1_n_an_sa, k1_n_an_ca, k1_n_as_sa, k1_n_as_ca, k1_n_sa_ca, k1_sz⟩ := I0
  obtain ⟨T2, h2, X2, e2, W2, st2⟩ := putF X0 hx hZ hown (host := "") (Or.inl (hw _ (List.mem_of_getElem? (i := 40) rfl))) Via.refl e0 k1_4 k1_0 (Or.inl (hw _ (List.mem_of_getElem? (i := 41) rfl))) (hw _ (List.mem_of_getElem? (i := 11) rfl)) (ty := .long) (by decide) rfl rfl (g := (mkF m 2 #[.val (.ref ob), .val (.ref sa), .val (.ref ca), .unset, .unset] [(.long (0 : Int64)), (.ref ob)])) rfl rfl (hb hby d7_2)
  have f3 := (k1_1.other W2 (Or.inr (slot_ne (Or.inr (hw _ (List.mem_of_getElem? (i := 21) rfl))) (Or.inl (hw _ (List.mem_of_getElem? (i := 41) rfl))) (by decide) (t := (.array .long)) (t' := .long) (by decide) (by decide))))
  have f4 := (k1_2.other W2 (Or.inr (slot_ne (Or.inr (hw _ (List.mem_of_getElem? (i := 23) rfl))) (Or.inl (hw _ (List.mem_of_getElem? (i := 41) rfl))) (by decide) (t := (.array .int)) (t' := .long) (by decide) (by decide))))
  have f5 := (k1_3.other W2 (Or.inr (slot_ne (Or.inr (hw _ (List.mem_of_getElem? (i := 34) rfl))) (Or.inl (hw _ (List.mem_of_getElem? (i := 41) rfl))) (by decide) (t := .int) (t' := .long) (by decide) (by decide))))
  have Z2 : n0 ≤ h2.size := Nat.le_trans Z0 (Keep.of_wr W2).1
  have N2 := Fr.snoc X2 N0 k1_g_ob
  have K2 := (Keep.refl h0 [ob, an, as]).wr W2 (Or.inl (List.mem_of_getElem? (i := 0) rfl))
  obtain ⟨T6, X6, e6, st6⟩ := getF X2 hx hZ hown (host := "") (Or.inl (hw _ (List.mem_of_getElem? (i := 22) rfl))) Via.refl e2 f4 (g := (mkF m 9 #[.val (.ref ob), .val (.ref sa), .val (.ref ca), .val (.int (0 : Int32)), .unset] [(.ref ob), (.int (0 : Int32))])) rfl rfl (hb hby d7_9)
  have pre7 : ∀ t, Steps p.tables e below (T6.setTop (mkF m 19 #[.val (.ref ob), .val (.ref sa), .val (.ref ca), .val (.int (0 : Int32)), .unset] [(.int zn), (.int (0 : Int32))])) t → Steps p.tables e below (s₁.setTop (entryFrame m #[(.ref ob), (.ref sa), (.ref ca)] 5)) t := by
    intro t k
    refine pre0 t ?_
    show Steps p.tables e below (s₁.setTop (mkF m 0 #[.val (.ref ob), .val (.ref sa), .val (.ref ca), .unset, .unset] [])) _
    refine XS.aloadN X0.here hx rfl (hb hby d7_0) rfl rfl ?_
    show Steps p.tables e below (s₁.setTop (mkF m 1 #[.val (.ref ob), .val (.ref sa), .val (.ref ca), .unset, .unset] [(.ref ob)])) _
    refine XS.lconst X0.here hx rfl (hb hby d7_1) ?_
    show Steps p.tables e below (s₁.setTop (mkF m 2 #[.val (.ref ob), .val (.ref sa), .val (.ref ca), .unset, .unset] [(.long (0 : Int64)), (.ref ob)])) _
    refine st2 _ ?_
    show Steps p.tables e below (T2.setTop (mkF m 5 #[.val (.ref ob), .val (.ref sa), .val (.ref ca), .unset, .unset] [])) _
    refine XS.iconst X2.here hx rfl (hb hby d7_5) ?_
    show Steps p.tables e below (T2.setTop (mkF m 6 #[.val (.ref ob), .val (.ref sa), .val (.ref ca), .unset, .unset] [(.int (0 : Int32))])) _
    refine XS.istoreN X2.here hx rfl (hb hby d7_6) rfl (l' := #[.val (.ref ob), .val (.ref sa), .val (.ref ca), .val (.int (0 : Int32)), .unset]) rfl ?_
    show Steps p.tables e below (T2.setTop (mkF m 7 #[.val (.ref ob), .val (.ref sa), .val (.ref ca), .val (.int (0 : Int32)), .unset] [])) _
    refine XS.iloadN X2.here hx rfl (hb hby d7_7) rfl ?_
    show Steps p.tables e below (T2.setTop (mkF m 8 #[.val (.ref ob), .val (.ref sa), .val (.ref ca), .val (.int (0 : Int32)), .unset] [(.int (0 : Int32))])) _
    refine XS.aloadN X2.here hx rfl (hb hby d7_8) rfl rfl ?_
    show Steps p.tables e below (T2.setTop (mkF m 9 #[.val (.ref ob), .val (.ref sa), .val (.ref ca), .val (.int (0 : Int32)), .unset] [(.ref ob), (.int (0 : Int32))])) _
    refine st6 _ ?_
    show Steps p.tables e below (T6.setTop (mkF m 12 #[.val (.ref ob), .val (.ref sa), .val (.ref ca), .val (.int (0 : Int32)), .unset] [(.ref as), (.int (0 : Int32))])) _
    refine lnG X6 hx hZ e6 (k1_6.other W2 (Ne.symm k1_n_ob_as)) (g := (mkF m 12 #[.val (.ref ob), .val (.ref sa), .val (.ref ca), .val (.int (0 : Int32)), .unset] [(.ref as), (.int (0 : Int32))])) rfl rfl (hb hby d7_12) _ ?_
    show Steps p.tables e below (T6.setTop (mkF m 13 #[.val (.ref ob), .val (.ref sa), .val (.ref ca), .val (.int (0 : Int32)), .unset] [(.int (5 : Int32)), (.int (0 : Int32))])) _
    refine XS.icmpNo X6.here hx rfl (hb hby d7_13) rfl (tlt (by decide)).2.1 ?_
    show Steps p.tables e below (T6.setTop (mkF m 16 #[.val (.ref ob), .val (.ref sa), .val (.ref ca), .val (.int (0 : Int32)), .unset] [])) _
    refine XS.iloadN X6.here hx rfl (hb hby d7_16) rfl ?_
    show Steps p.tables e below (T6.setTop (mkF m 17 #[.val (.ref ob), .val (.ref sa), .val (.ref ca), .val (.int (0 : Int32)), .unset] [(.int (0 : Int32))])) _
    refine XS.aloadN X6.here hx rfl (hb hby d7_17) rfl rfl ?_
    show Steps p.tables e below (T6.setTop (mkF m 18 #[.val (.ref ob), .val (.ref sa), .val (.ref ca), .val (.int (0 : Int32)), .unset] [(.ref ca), (.int (0 : Int32))])) _
    refine lnG X6 hx hZ e6 (k1_8.other W2 (Ne.symm k1_n_ob_ca)) (g := (mkF m 18 #[.val (.ref ob), .val (.ref sa), .val (.ref ca), .val (.int (0 : Int32)), .unset] [(.ref ca), (.int (0 : Int32))])) rfl rfl (hb hby d7_18) _ ?_
    exact k
  have pre8 : ∀ t, Steps p.tables e below (T6.setTop (mkF m 35 #[.val (.ref ob), .val (.ref sa), .val (.ref ca), .val (.int (0 : Int32)), .unset] [(.int (if (0 : Int32) < zn then (if (gc (0 : Int32)) = (0 : Int32) then (0 : Int32) else (gs (0 : Int32))) else (0 : Int32)))])) t → Steps p.tables e below (s₁.setTop (entryFrame m #[(.ref ob), (.ref sa), (.ref ca)] 5)) t := by
    intro t k
    refine pre7 t ?_
    have k : ∀ (v1 : Int32), v1 = (if (0 : Int32) < zn then (if (gc (0 : Int32)) = (0 : Int32) then (0 : Int32) else (gs (0 : Int32))) else (0 : Int32)) → Steps p.tables e below (T6.setTop (mkF m 35 #[.val (.ref ob), .val (.ref sa), .val (.ref ca), .val (.int (0 : Int32)), .unset] [(.int v1)])) t := fun v1 hv1 => by subst hv1; exact k
    have nd9 : (∀ (v1 : Int32), v1 = (0 : Int32) → Steps p.tables e below (T6.setTop (mkF m 35 #[.val (.ref ob), .val (.ref sa), .val (.ref ca), .val (.int (0 : Int32)), .unset] [(.int v1)])) t) → Steps p.tables e below (T6.setTop (mkF m 34 #[.val (.ref ob), .val (.ref sa), .val (.ref ca), .val (.int (0 : Int32)), .unset] [])) t := by
      intro k
      show Steps p.tables e below (T6.setTop (mkF m 34 #[.val (.ref ob), .val (.ref sa), .val (.ref ca), .val (.int (0 : Int32)), .unset] [])) _
      refine XS.iconst X6.here hx rfl (hb hby d7_34) ?_
      exact k _ rfl
    show Steps p.tables e below (T6.setTop (mkF m 19 #[.val (.ref ob), .val (.ref sa), .val (.ref ca), .val (.int (0 : Int32)), .unset] [(.int zn), (.int (0 : Int32))])) _
    by_cases hc10 : (0 : Int32) < zn
    · refine XS.icmpNo X6.here hx rfl (hb hby d7_19) rfl (tlt hc10).2.1 ?_
      have k : ∀ (v1 : Int32), v1 = (if (gc (0 : Int32)) = (0 : Int32) then (0 : Int32) else (gs (0 : Int32))) → Steps p.tables e below (T6.setTop (mkF m 35 #[.val (.ref ob), .val (.ref sa), .val (.ref ca), .val (.int (0 : Int32)), .unset] [(.int v1)])) t := fun v1 hv1 => k v1 (hv1.trans (if_pos hc10).symm)
      show Steps p.tables e below (T6.setTop (mkF m 22 #[.val (.ref ob), .val (.ref sa), .val (.ref ca), .val (.int (0 : Int32)), .unset] [])) _
      refine XS.aloadN X6.here hx rfl (hb hby d7_22) rfl rfl ?_
      show Steps p.tables e below (T6.setTop (mkF m 23 #[.val (.ref ob), .val (.ref sa), .val (.ref ca), .val (.int (0 : Int32)), .unset] [(.ref ca)])) _
      refine XS.iloadN X6.here hx rfl (hb hby d7_23) rfl ?_
      show Steps p.tables e below (T6.setTop (mkF m 24 #[.val (.ref ob), .val (.ref sa), .val (.ref ca), .val (.int (0 : Int32)), .unset] [(.int (0 : Int32)), (.ref ca)])) _
      refine rdZ X6 hx hZ e6 (k1_8.other W2 (Ne.symm k1_n_ob_ca)) (j := (0 : Int32)) ⟨by decide, by assumption⟩ rfl (g := (mkF m 24 #[.val (.ref ob), .val (.ref sa), .val (.ref ca), .val (.int (0 : Int32)), .unset] [(.int (0 : Int32)), (.ref ca)])) rfl rfl (hb hby d7_24) _ ?_
      show Steps p.tables e below (T6.setTop (mkF m 25 #[.val (.ref ob), .val (.ref sa), .val (.ref ca), .val (.int (0 : Int32)), .unset] [(.int (gc (0 : Int32)))])) _
      by_cases hc11 : (gc (0 : Int32)) = (0 : Int32)
      · refine XS.ifYes X6.here hx rfl (pc0 := 25) (pc' := 34) rfl (hb hby d7_25) rfl ((if0 _ _).trans (teq hc11).1) (by decide) (by decide) ?_
        have k : ∀ (v1 : Int32), v1 = (0 : Int32) → Steps p.tables e below (T6.setTop (mkF m 35 #[.val (.ref ob), .val (.ref sa), .val (.ref ca), .val (.int (0 : Int32)), .unset] [(.int v1)])) t := fun v1 hv1 => k v1 (hv1.trans (if_pos hc11).symm)
        exact nd9 k
      · refine XS.ifNo X6.here hx rfl (hb hby d7_25) rfl ((if0 _ _).trans (feq hc11).1) ?_
        have k : ∀ (v1 : Int32), v1 = (gs (0 : Int32)) → Steps p.tables e below (T6.setTop (mkF m 35 #[.val (.ref ob), .val (.ref sa), .val (.ref ca), .val (.int (0 : Int32)), .unset] [(.int v1)])) t := fun v1 hv1 => k v1 (hv1.trans (if_neg hc11).symm)
        show Steps p.tables e below (T6.setTop (mkF m 28 #[.val (.ref ob), .val (.ref sa), .val (.ref ca), .val (.int (0 : Int32)), .unset] [])) _
        refine XS.aloadN X6.here hx rfl (hb hby d7_28) rfl rfl ?_
        show Steps p.tables e below (T6.setTop (mkF m 29 #[.val (.ref ob), .val (.ref sa), .val (.ref ca), .val (.int (0 : Int32)), .unset] [(.ref sa)])) _
        refine XS.iloadN X6.here hx rfl (hb hby d7_29) rfl ?_
        show Steps p.tables e below (T6.setTop (mkF m 30 #[.val (.ref ob), .val (.ref sa), .val (.ref ca), .val (.int (0 : Int32)), .unset] [(.int (0 : Int32)), (.ref sa)])) _
        refine rdI X6 hx hZ e6 (k1_7.other W2 (Ne.symm k1_n_ob_sa)) (j := (0 : Int32)) ⟨by decide, by assumption⟩ rfl (g := (mkF m 30 #[.val (.ref ob), .val (.ref sa), .val (.ref ca), .val (.int (0 : Int32)), .unset] [(.int (0 : Int32)), (.ref sa)])) rfl rfl (hb hby d7_30) _ ?_
        show Steps p.tables e below (T6.setTop (mkF m 31 #[.val (.ref ob), .val (.ref sa), .val (.ref ca), .val (.int (0 : Int32)), .unset] [(.int (gs (0 : Int32)))])) _
        refine XS.goto X6.here hx rfl (pc0 := 31) (pc' := 35) rfl (hb hby d7_31) (by decide) (by decide) ?_
        exact k _ rfl
    · refine XS.icmpYes X6.here hx rfl (pc0 := 19) (pc' := 34) rfl (hb hby d7_19) rfl (flt hc10).2.1 (by decide) (by decide) ?_
      have k : ∀ (v1 : Int32), v1 = (0 : Int32) → Steps p.tables e below (T6.setTop (mkF m 35 #[.val (.ref ob), .val (.ref sa), .val (.ref ca), .val (.int (0 : Int32)), .unset] [(.int v1)])) t := fun v1 hv1 => k v1 (hv1.trans (if_neg hc10).symm)
      exact nd9 k
  obtain ⟨T12, X12, e12, st12⟩ := getF X6 hx hZ hown (host := "") (Or.inl (hw _ (List.mem_of_getElem? (i := 22) rfl))) Via.refl e6 f4 (g := (mkF m 38 #[.val (.ref ob), .val (.ref sa), .val (.ref ca), .val (.int (0 : Int32)), .val (.int (fl_s zn gs gc))] [(.ref ob)])) rfl rfl (hb hby d7_38)
  obtain ⟨T13, h13, X13, e13, W13, V13, st13⟩ := wrI X12 hx hZ e12 (k1_6.other W2 (Ne.symm k1_n_ob_as)) (j := (0 : Int32)) ⟨by decide, by decide⟩  (g := (mkF m 44 #[.val (.ref ob), .val (.ref sa), .val (.ref ca), .val (.int (0 : Int32)), .val (.int (fl_s zn gs gc))] [(.int (fl_s zn gs gc)), (.int (0 : Int32)), (.ref as)])) rfl rfl (hb hby d7_44)
  have Z13 : n0 ≤ h13.size := Nat.le_trans Z2 (Keep.of_wr W13).1
  have N13 := Fr.snoc X13 N2 k1_g_as
  have K13 := K2.wr W13 (Or.inl (List.mem_of_getElem? (i := 2) rfl))
  obtain ⟨T14, X14, e14, st14⟩ := getF X13 hx hZ hown (host := "") (Or.inl (hw _ (List.mem_of_getElem? (i := 20) rfl))) Via.refl e13 (f3.other W13 (Or.inl k1_n_ob_as)) (g := (mkF m 46 #[.val (.ref ob), .val (.ref sa), .val (.ref ca), .val (.int (0 : Int32)), .val (.int (fl_s zn gs gc))] [(.ref ob)])) rfl rfl (hb hby d7_46)
  obtain ⟨T15, h15, X15, e15, W15, V15, st15⟩ := wrJ X14 hx hZ e14 ((k1_5.other W2 (Ne.symm k1_n_ob_an)).other W13 k1_n_an_as) (j := (1 : Int32)) ⟨by decide, by decide⟩  (g := (mkF m 55 #[.val (.ref ob), .val (.ref sa), .val (.ref ca), .val (.int (0 : Int32)), .val (.int (fl_s zn gs gc))] [(.long ((fl_s zn gs gc).toInt64)), (.int (1 : Int32)), (.ref an)])) rfl rfl (hb hby d7_55)
  have Z15 : n0 ≤ h15.size := Nat.le_trans Z13 (Keep.of_wr W15).1
  have N15 := Fr.snoc X15 N13 k1_g_an
  have K15 := K13.wr W15 (Or.inl (List.mem_of_getElem? (i := 1) rfl))
  obtain ⟨T16, X16, e16, st16⟩ := getF X15 hx hZ hown (host := "") (Or.inl (hw _ (List.mem_of_getElem? (i := 40) rfl))) Via.refl e15 (((k1_4.same W2).other W13 (Or.inl k1_n_ob_as)).other W15 (Or.inl k1_n_ob_an)) (g := (mkF m 58 #[.val (.ref ob), .val (.ref sa), .val (.ref ca), .val (.int (0 : Int32)), .val (.int (fl_s zn gs gc))] [(.ref ob), (.ref ob)])) rfl rfl (hb hby d7_58)
  obtain ⟨T17, h17, X17, e17, W17, st17⟩ := putF X16 hx hZ hown (host := "") (Or.inl (hw _ (List.mem_of_getElem? (i := 40) rfl))) Via.refl e16 (((k1_4.same W2).other W13 (Or.inl k1_n_ob_as)).other W15 (Or.inl k1_n_ob_an)) (((k1_0.wr W2).wr W13).wr W15) (Or.inl (hw _ (List.mem_of_getElem? (i := 41) rfl))) (hw _ (List.mem_of_getElem? (i := 11) rfl)) (ty := .long) (by decide) rfl rfl (g := (mkF m 65 #[.val (.ref ob), .val (.ref sa), .val (.ref ca), .val (.int (0 : Int32)), .val (.int (fl_s zn gs gc))] [(.long ((0 : Int64) + ((fl_s zn gs gc).toInt64))), (.ref ob)])) rfl rfl (hb hby d7_65)
  have f18 := (((f3.other W13 (Or.inl k1_n_ob_as)).other W15 (Or.inl k1_n_ob_an)).other W17 (Or.inr (slot_ne (Or.inr (hw _ (List.mem_of_getElem? (i := 21) rfl))) (Or.inl (hw _ (List.mem_of_getElem? (i := 41) rfl))) (by decide) (t := (.array .long)) (t' := .long) (by decide) (by decide))))
  have f19 := (((f4.other W13 (Or.inl k1_n_ob_as)).other W15 (Or.inl k1_n_ob_an)).other W17 (Or.inr (slot_ne (Or.inr (hw _ (List.mem_of_getElem? (i := 23) rfl))) (Or.inl (hw _ (List.mem_of_getElem? (i := 41) rfl))) (by decide) (t := (.array .int)) (t' := .long) (by decide) (by decide))))
  have f20 := (((f5.other W13 (Or.inl k1_n_ob_as)).other W15 (Or.inl k1_n_ob_an)).other W17 (Or.inr (slot_ne (Or.inr (hw _ (List.mem_of_getElem? (i := 34) rfl))) (Or.inl (hw _ (List.mem_of_getElem? (i := 41) rfl))) (by decide) (t := .int) (t' := .long) (by decide) (by decide))))
  have f21 := ((((k1_7.other W2 (Ne.symm k1_n_ob_sa)).other W13 (Ne.symm k1_n_as_sa)).other W15 (Ne.symm k1_n_an_sa)).other W17 (Ne.symm k1_n_ob_sa))
  have f22 := ((((k1_8.other W2 (Ne.symm k1_n_ob_ca)).other W13 (Ne.symm k1_n_as_ca)).other W15 (Ne.symm k1_n_an_ca)).other W17 (Ne.symm k1_n_ob_ca))
  have Z17 : n0 ≤ h17.size := Nat.le_trans Z15 (Keep.of_wr W17).1
  have N17 := Fr.snoc X17 N15 k1_g_ob
  have K17 := K15.wr W17 (Or.inl (List.mem_of_getElem? (i := 0) rfl))
  obtain ⟨T23, X23, e23, st23⟩ := getF X17 hx hZ hown (host := "") (Or.inl (hw _ (List.mem_of_getElem? (i := 22) rfl))) Via.refl e17 f19 (g := (mkF m 9 #[.val (.ref ob), .val (.ref sa), .val (.ref ca), .val (.int (1 : Int32)), .val (.int (fl_s zn gs gc))] [(.ref ob), (.int (1 : Int32))])) rfl rfl (hb hby d7_9)
  have pre24 : ∀ t, Steps p.tables e below (T23.setTop (mkF m 19 #[.val (.ref ob), .val (.ref sa), .val (.ref ca), .val (.int (1 : Int32)), .val (.int (fl_s zn gs gc))] [(.int zn), (.int (1 : Int32))])) t → Steps p.tables e below (s₁.setTop (entryFrame m #[(.ref ob), (.ref sa), (.ref ca)] 5)) t := by
    intro t k
    refine pre8 t ?_
    show Steps p.tables e below (T6.setTop (mkF m 35 #[.val (.ref ob), .val (.ref sa), .val (.ref ca), .val (.int (0 : Int32)), .unset] [(.int (if (0 : Int32) < zn then (if (gc (0 : Int32)) = (0 : Int32) then (0 : Int32) else (gs (0 : Int32))) else (0 : Int32)))])) _
    refine XS.istore X6.here hx rfl (hb hby d7_35) rfl (l' := #[.val (.ref ob), .val (.ref sa), .val (.ref ca), .val (.int (0 : Int32)), .val (.int (fl_s zn gs gc))]) rfl ?_
    show Steps p.tables e below (T6.setTop (mkF m 37 #[.val (.ref ob), .val (.ref sa), .val (.ref ca), .val (.int (0 : Int32)), .val (.int (fl_s zn gs gc))] [])) _
    refine XS.aloadN X6.here hx rfl (hb hby d7_37) rfl rfl ?_
    show Steps p.tables e below (T6.setTop (mkF m 38 #[.val (.ref ob), .val (.ref sa), .val (.ref ca), .val (.int (0 : Int32)), .val (.int (fl_s zn gs gc))] [(.ref ob)])) _
    refine st12 _ ?_
    show Steps p.tables e below (T12.setTop (mkF m 41 #[.val (.ref ob), .val (.ref sa), .val (.ref ca), .val (.int (0 : Int32)), .val (.int (fl_s zn gs gc))] [(.ref as)])) _
    refine XS.iloadN X12.here hx rfl (hb hby d7_41) rfl ?_
    show Steps p.tables e below (T12.setTop (mkF m 42 #[.val (.ref ob), .val (.ref sa), .val (.ref ca), .val (.int (0 : Int32)), .val (.int (fl_s zn gs gc))] [(.int (0 : Int32)), (.ref as)])) _
    refine XS.iload X12.here hx rfl (hb hby d7_42) rfl ?_
    show Steps p.tables e below (T12.setTop (mkF m 44 #[.val (.ref ob), .val (.ref sa), .val (.ref ca), .val (.int (0 : Int32)), .val (.int (fl_s zn gs gc))] [(.int (fl_s zn gs gc)), (.int (0 : Int32)), (.ref as)])) _
    refine st13 _ ?_
    show Steps p.tables e below (T13.setTop (mkF m 45 #[.val (.ref ob), .val (.ref sa), .val (.ref ca), .val (.int (0 : Int32)), .val (.int (fl_s zn gs gc))] [])) _
    refine XS.aloadN X13.here hx rfl (hb hby d7_45) rfl rfl ?_
    show Steps p.tables e below (T13.setTop (mkF m 46 #[.val (.ref ob), .val (.ref sa), .val (.ref ca), .val (.int (0 : Int32)), .val (.int (fl_s zn gs gc))] [(.ref ob)])) _
    refine st14 _ ?_
    show Steps p.tables e below (T14.setTop (mkF m 49 #[.val (.ref ob), .val (.ref sa), .val (.ref ca), .val (.int (0 : Int32)), .val (.int (fl_s zn gs gc))] [(.ref an)])) _
    refine XS.iloadN X14.here hx rfl (hb hby d7_49) rfl ?_
    show Steps p.tables e below (T14.setTop (mkF m 50 #[.val (.ref ob), .val (.ref sa), .val (.ref ca), .val (.int (0 : Int32)), .val (.int (fl_s zn gs gc))] [(.int (0 : Int32)), (.ref an)])) _
    refine XS.iconst X14.here hx rfl (hb hby d7_50) ?_
    show Steps p.tables e below (T14.setTop (mkF m 51 #[.val (.ref ob), .val (.ref sa), .val (.ref ca), .val (.int (0 : Int32)), .val (.int (fl_s zn gs gc))] [(.int (1 : Int32)), (.int (0 : Int32)), (.ref an)])) _
    refine XS.iadd X14.here hx rfl (hb hby d7_51) rfl ?_
    show Steps p.tables e below (T14.setTop (mkF m 52 #[.val (.ref ob), .val (.ref sa), .val (.ref ca), .val (.int (0 : Int32)), .val (.int (fl_s zn gs gc))] [(.int (1 : Int32)), (.ref an)])) _
    refine XS.iload X14.here hx rfl (hb hby d7_52) rfl ?_
    show Steps p.tables e below (T14.setTop (mkF m 54 #[.val (.ref ob), .val (.ref sa), .val (.ref ca), .val (.int (0 : Int32)), .val (.int (fl_s zn gs gc))] [(.int (fl_s zn gs gc)), (.int (1 : Int32)), (.ref an)])) _
    refine XS.i2l X14.here hx rfl (hb hby d7_54) rfl ?_
    show Steps p.tables e below (T14.setTop (mkF m 55 #[.val (.ref ob), .val (.ref sa), .val (.ref ca), .val (.int (0 : Int32)), .val (.int (fl_s zn gs gc))] [(.long ((fl_s zn gs gc).toInt64)), (.int (1 : Int32)), (.ref an)])) _
    refine st15 _ ?_
    show Steps p.tables e below (T15.setTop (mkF m 56 #[.val (.ref ob), .val (.ref sa), .val (.ref ca), .val (.int (0 : Int32)), .val (.int (fl_s zn gs gc))] [])) _
    refine XS.aloadN X15.here hx rfl (hb hby d7_56) rfl rfl ?_
    show Steps p.tables e below (T15.setTop (mkF m 57 #[.val (.ref ob), .val (.ref sa), .val (.ref ca), .val (.int (0 : Int32)), .val (.int (fl_s zn gs gc))] [(.ref ob)])) _
    refine XS.dup X15.here hx rfl (hb hby d7_57) rfl rfl ?_
    show Steps p.tables e below (T15.setTop (mkF m 58 #[.val (.ref ob), .val (.ref sa), .val (.ref ca), .val (.int (0 : Int32)), .val (.int (fl_s zn gs gc))] [(.ref ob), (.ref ob)])) _
    refine st16 _ ?_
    show Steps p.tables e below (T16.setTop (mkF m 61 #[.val (.ref ob), .val (.ref sa), .val (.ref ca), .val (.int (0 : Int32)), .val (.int (fl_s zn gs gc))] [(.long (0 : Int64)), (.ref ob)])) _
    refine XS.iload X16.here hx rfl (hb hby d7_61) rfl ?_
    show Steps p.tables e below (T16.setTop (mkF m 63 #[.val (.ref ob), .val (.ref sa), .val (.ref ca), .val (.int (0 : Int32)), .val (.int (fl_s zn gs gc))] [(.int (fl_s zn gs gc)), (.long (0 : Int64)), (.ref ob)])) _
    refine XS.i2l X16.here hx rfl (hb hby d7_63) rfl ?_
    show Steps p.tables e below (T16.setTop (mkF m 64 #[.val (.ref ob), .val (.ref sa), .val (.ref ca), .val (.int (0 : Int32)), .val (.int (fl_s zn gs gc))] [(.long ((fl_s zn gs gc).toInt64)), (.long (0 : Int64)), (.ref ob)])) _
    refine XS.ladd X16.here hx rfl (hb hby d7_64) rfl ?_
    show Steps p.tables e below (T16.setTop (mkF m 65 #[.val (.ref ob), .val (.ref sa), .val (.ref ca), .val (.int (0 : Int32)), .val (.int (fl_s zn gs gc))] [(.long ((0 : Int64) + ((fl_s zn gs gc).toInt64))), (.ref ob)])) _
    refine st17 _ ?_
    show Steps p.tables e below (T17.setTop (mkF m 68 #[.val (.ref ob), .val (.ref sa), .val (.ref ca), .val (.int (0 : Int32)), .val (.int (fl_s zn gs gc))] [])) _
    refine XS.iinc X17.here hx rfl (hb hby d7_68) rfl (l' := #[.val (.ref ob), .val (.ref sa), .val (.ref ca), .val (.int (1 : Int32)), .val (.int (fl_s zn gs gc))]) rfl ?_
    show Steps p.tables e below (T17.setTop (mkF m 71 #[.val (.ref ob), .val (.ref sa), .val (.ref ca), .val (.int (1 : Int32)), .val (.int (fl_s zn gs gc))] [])) _
    refine XS.goto X17.here hx rfl (pc0 := 71) (pc' := 7) rfl (hb hby d7_71) (by decide) (by decide) ?_
    show Steps p.tables e below (T17.setTop (mkF m 7 #[.val (.ref ob), .val (.ref sa), .val (.ref ca), .val (.int (1 : Int32)), .val (.int (fl_s zn gs gc))] [])) _
    refine XS.iloadN X17.here hx rfl (hb hby d7_7) rfl ?_
    show Steps p.tables e below (T17.setTop (mkF m 8 #[.val (.ref ob), .val (.ref sa), .val (.ref ca), .val (.int (1 : Int32)), .val (.int (fl_s zn gs gc))] [(.int (1 : Int32))])) _
    refine XS.aloadN X17.here hx rfl (hb hby d7_8) rfl rfl ?_
    show Steps p.tables e below (T17.setTop (mkF m 9 #[.val (.ref ob), .val (.ref sa), .val (.ref ca), .val (.int (1 : Int32)), .val (.int (fl_s zn gs gc))] [(.ref ob), (.int (1 : Int32))])) _
    refine st23 _ ?_
    show Steps p.tables e below (T23.setTop (mkF m 12 #[.val (.ref ob), .val (.ref sa), .val (.ref ca), .val (.int (1 : Int32)), .val (.int (fl_s zn gs gc))] [(.ref as), (.int (1 : Int32))])) _
    refine lnG X23 hx hZ e23 ((V13.other W15 (Ne.symm k1_n_an_as)).other W17 (Ne.symm k1_n_ob_as)) (g := (mkF m 12 #[.val (.ref ob), .val (.ref sa), .val (.ref ca), .val (.int (1 : Int32)), .val (.int (fl_s zn gs gc))] [(.ref as), (.int (1 : Int32))])) rfl rfl (hb hby d7_12) _ ?_
    show Steps p.tables e below (T23.setTop (mkF m 13 #[.val (.ref ob), .val (.ref sa), .val (.ref ca), .val (.int (1 : Int32)), .val (.int (fl_s zn gs gc))] [(.int (5 : Int32)), (.int (1 : Int32))])) _
    refine XS.icmpNo X23.here hx rfl (hb hby d7_13) rfl (tlt (by decide)).2.1 ?_
    show Steps p.tables e below (T23.setTop (mkF m 16 #[.val (.ref ob), .val (.ref sa), .val (.ref ca), .val (.int (1 : Int32)), .val (.int (fl_s zn gs gc))] [])) _
    refine XS.iloadN X23.here hx rfl (hb hby d7_16) rfl ?_
    show Steps p.tables e below (T23.setTop (mkF m 17 #[.val (.ref ob), .val (.ref sa), .val (.ref ca), .val (.int (1 : Int32)), .val (.int (fl_s zn gs gc))] [(.int (1 : Int32))])) _
    refine XS.aloadN X23.here hx rfl (hb hby d7_17) rfl rfl ?_
    show Steps p.tables e below (T23.setTop (mkF m 18 #[.val (.ref ob), .val (.ref sa), .val (.ref ca), .val (.int (1 : Int32)), .val (.int (fl_s zn gs gc))] [(.ref ca), (.int (1 : Int32))])) _
    refine lnG X23 hx hZ e23 f22 (g := (mkF m 18 #[.val (.ref ob), .val (.ref sa), .val (.ref ca), .val (.int (1 : Int32)), .val (.int (fl_s zn gs gc))] [(.ref ca), (.int (1 : Int32))])) rfl rfl (hb hby d7_18) _ ?_
    exact k
  have pre25 : ∀ t, Steps p.tables e below (T23.setTop (mkF m 35 #[.val (.ref ob), .val (.ref sa), .val (.ref ca), .val (.int (1 : Int32)), .val (.int (fl_s zn gs gc))] [(.int (if (1 : Int32) < zn then (if (gc (1 : Int32)) = (0 : Int32) then (0 : Int32) else (gs (1 : Int32))) else (0 : Int32)))])) t → Steps p.tables e below (s₁.setTop (entryFrame m #[(.ref ob), (.ref sa), (.ref ca)] 5)) t := by
    intro t k
    refine pre24 t ?_
    have k : ∀ (v1 : Int32), v1 = (if (1 : Int32) < zn then (if (gc (1 : Int32)) = (0 : Int32) then (0 : Int32) else (gs (1 : Int32))) else (0 : Int32)) → Steps p.tables e below (T23.setTop (mkF m 35 #[.val (.ref ob), .val (.ref sa), .val (.ref ca), .val (.int (1 : Int32)), .val (.int (fl_s zn gs gc))] [(.int v1)])) t := fun v1 hv1 => by subst hv1; exact k
    have nd26 : (∀ (v1 : Int32), v1 = (0 : Int32) → Steps p.tables e below (T23.setTop (mkF m 35 #[.val (.ref ob), .val (.ref sa), .val (.ref ca), .val (.int (1 : Int32)), .val (.int (fl_s zn gs gc))] [(.int v1)])) t) → Steps p.tables e below (T23.setTop (mkF m 34 #[.val (.ref ob), .val (.ref sa), .val (.ref ca), .val (.int (1 : Int32)), .val (.int (fl_s zn gs gc))] [])) t := by
      intro k
      show Steps p.tables e below (T23.setTop (mkF m 34 #[.val (.ref ob), .val (.ref sa), .val (.ref ca), .val (.int (1 : Int32)), .val (.int (fl_s zn gs gc))] [])) _
      refine XS.iconst X23.here hx rfl (hb hby d7_34) ?_
      exact k _ rfl
    show Steps p.tables e below (T23.setTop (mkF m 19 #[.val (.ref ob), .val (.ref sa), .val (.ref ca), .val (.int (1 : Int32)), .val (.int (fl_s zn gs gc))] [(.int zn), (.int (1 : Int32))])) _
    by_cases hc27 : (1 : Int32) < zn
    · refine XS.icmpNo X23.here hx rfl (hb hby d7_19) rfl (tlt hc27).2.1 ?_
      have k : ∀ (v1 : Int32), v1 = (if (gc (1 : Int32)) = (0 : Int32) then (0 : Int32) else (gs (1 : Int32))) → Steps p.tables e below (T23.setTop (mkF m 35 #[.val (.ref ob), .val (.ref sa), .val (.ref ca), .val (.int (1 : Int32)), .val (.int (fl_s zn gs gc))] [(.int v1)])) t := fun v1 hv1 => k v1 (hv1.trans (if_pos hc27).symm)
      show Steps p.tables e below (T23.setTop (mkF m 22 #[.val (.ref ob), .val (.ref sa), .val (.ref ca), .val (.int (1 : Int32)), .val (.int (fl_s zn gs gc))] [])) _
      refine XS.aloadN X23.here hx rfl (hb hby d7_22) rfl rfl ?_
      show Steps p.tables e below (T23.setTop (mkF m 23 #[.val (.ref ob), .val (.ref sa), .val (.ref ca), .val (.int (1 : Int32)), .val (.int (fl_s zn gs gc))] [(.ref ca)])) _
      refine XS.iloadN X23.here hx rfl (hb hby d7_23) rfl ?_
      show Steps p.tables e below (T23.setTop (mkF m 24 #[.val (.ref ob), .val (.ref sa), .val (.ref ca), .val (.int (1 : Int32)), .val (.int (fl_s zn gs gc))] [(.int (1 : Int32)), (.ref ca)])) _
      refine rdZ X23 hx hZ e23 f22 (j := (1 : Int32)) ⟨by decide, by assumption⟩ rfl (g := (mkF m 24 #[.val (.ref ob), .val (.ref sa), .val (.ref ca), .val (.int (1 : Int32)), .val (.int (fl_s zn gs gc))] [(.int (1 : Int32)), (.ref ca)])) rfl rfl (hb hby d7_24) _ ?_
      show Steps p.tables e below (T23.setTop (mkF m 25 #[.val (.ref ob), .val (.ref sa), .val (.ref ca), .val (.int (1 : Int32)), .val (.int (fl_s zn gs gc))] [(.int (gc (1 : Int32)))])) _
      by_cases hc28 : (gc (1 : Int32)) = (0 : Int32)
      · refine XS.ifYes X23.here hx rfl (pc0 := 25) (pc' := 34) rfl (hb hby d7_25) rfl ((if0 _ _).trans (teq hc28).1) (by decide) (by decide) ?_
        have k : ∀ (v1 : Int32), v1 = (0 : Int32) → Steps p.tables e below (T23.setTop (mkF m 35 #[.val (.ref ob), .val (.ref sa), .val (.ref ca), .val (.int (1 : Int32)), .val (.int (fl_s zn gs gc))] [(.int v1)])) t := fun v1 hv1 => k v1 (hv1.trans (if_pos hc28).symm)
        exact nd26 k
      · refine XS.ifNo X23.here hx rfl (hb hby d7_25) rfl ((if0 _ _).trans (feq hc28).1) ?_
        have k : ∀ (v1 : Int32), v1 = (gs (1 : Int32)) → Steps p.tables e below (T23.setTop (mkF m 35 #[.val (.ref ob), .val (.ref sa), .val (.ref ca), .val (.int (1 : Int32)), .val (.int (fl_s zn gs gc))] [(.int v1)])) t := fun v1 hv1 => k v1 (hv1.trans (if_neg hc28).symm)
        show Steps p.tables e below (T23.setTop (mkF m 28 #[.val (.ref ob), .val (.ref sa), .val (.ref ca), .val (.int (1 : Int32)), .val (.int (fl_s zn gs gc))] [])) _
        refine XS.aloadN X23.here hx rfl (hb hby d7_28) rfl rfl ?_
        show Steps p.tables e below (T23.setTop (mkF m 29 #[.val (.ref ob), .val (.ref sa), .val (.ref ca), .val (.int (1 : Int32)), .val (.int (fl_s zn gs gc))] [(.ref sa)])) _
        refine XS.iloadN X23.here hx rfl (hb hby d7_29) rfl ?_
        show Steps p.tables e below (T23.setTop (mkF m 30 #[.val (.ref ob), .val (.ref sa), .val (.ref ca), .val (.int (1 : Int32)), .val (.int (fl_s zn gs gc))] [(.int (1 : Int32)), (.ref sa)])) _
        refine rdI X23 hx hZ e23 f21 (j := (1 : Int32)) ⟨by decide, by assumption⟩ rfl (g := (mkF m 30 #[.val (.ref ob), .val (.ref sa), .val (.ref ca), .val (.int (1 : Int32)), .val (.int (fl_s zn gs gc))] [(.int (1 : Int32)), (.ref sa)])) rfl rfl (hb hby d7_30) _ ?_
        show Steps p.tables e below (T23.setTop (mkF m 31 #[.val (.ref ob), .val (.ref sa), .val (.ref ca), .val (.int (1 : Int32)), .val (.int (fl_s zn gs gc))] [(.int (gs (1 : Int32)))])) _
        refine XS.goto X23.here hx rfl (pc0 := 31) (pc' := 35) rfl (hb hby d7_31) (by decide) (by decide) ?_
        exact k _ rfl
    · refine XS.icmpYes X23.here hx rfl (pc0 := 19) (pc' := 34) rfl (hb hby d7_19) rfl (flt hc27).2.1 (by decide) (by decide) ?_
      have k : ∀ (v1 : Int32), v1 = (0 : Int32) → Steps p.tables e below (T23.setTop (mkF m 35 #[.val (.ref ob), .val (.ref sa), .val (.ref ca), .val (.int (1 : Int32)), .val (.int (fl_s zn gs gc))] [(.int v1)])) t := fun v1 hv1 => k v1 (hv1.trans (if_neg hc27).symm)
      exact nd26 k
  obtain ⟨T29, X29, e29, st29⟩ := getF X23 hx hZ hown (host := "") (Or.inl (hw _ (List.mem_of_getElem? (i := 22) rfl))) Via.refl e23 f19 (g := (mkF m 38 #[.val (.ref ob), .val (.ref sa), .val (.ref ca), .val (.int (1 : Int32)), .val (.int (fl_s_1 zn gs gc))] [(.ref ob)])) rfl rfl (hb hby d7_38)
  obtain ⟨T30, h30, X30, e30, W30, V30, st30⟩ := wrI X29 hx hZ e29 ((V13.other W15 (Ne.symm k1_n_an_as)).other W17 (Ne.symm k1_n_ob_as)) (j := (1 : Int32)) ⟨by decide, by decide⟩  (g := (mkF m 44 #[.val (.ref ob), .val (.ref sa), .val (.ref ca), .val (.int (1 : Int32)), .val (.int (fl_s_1 zn gs gc))] [(.int (fl_s_1 zn gs gc)), (.int (1 : Int32)), (.ref as)])) rfl rfl (hb hby d7_44)
  have f31 := (((((k1_4.same W2).other W13 (Or.inl k1_n_ob_as)).other W15 (Or.inl k1_n_ob_an)).same W17).other W30 (Or.inl k1_n_ob_as))
  have Z30 : n0 ≤ h30.size := Nat.le_trans Z17 (Keep.of_wr W30).1
  have N30 := Fr.snoc X30 N17 k1_g_as
  have K30 := K17.wr W30 (Or.inl (List.mem_of_getElem? (i := 2) rfl))
  obtain ⟨T32, X32, e32, st32⟩ := getF X30 hx hZ hown (host := "") (Or.inl (hw _ (List.mem_of_getElem? (i := 20) rfl))) Via.refl e30 (f18.other W30 (Or.inl k1_n_ob_as)) (g := (mkF m 46 #[.val (.ref ob), .val (.ref sa), .val (.ref ca), .val (.int (1 : Int32)), .val (.int (fl_s_1 zn gs gc))] [(.ref ob)])) rfl rfl (hb hby d7_46)
  obtain ⟨T33, h33, X33, e33, W33, V33, st33⟩ := wrJ X32 hx hZ e32 ((V15.other W17 (Ne.symm k1_n_ob_an)).other W30 k1_n_an_as) (j := (2 : Int32)) ⟨by decide, by decide⟩  (g := (mkF m 55 #[.val (.ref ob), .val (.ref sa), .val (.ref ca), .val (.int (1 : Int32)), .val (.int (fl_s_1 zn gs gc))] [(.long ((fl_s_1 zn gs gc).toInt64)), (.int (2 : Int32)), (.ref an)])) rfl rfl (hb hby d7_55)
  have Z33 : n0 ≤ h33.size := Nat.le_trans Z30 (Keep.of_wr W33).1
  have N33 := Fr.snoc X33 N30 k1_g_an
  have K33 := K30.wr W33 (Or.inl (List.mem_of_getElem? (i := 1) rfl))
  obtain ⟨T34, X34, e34, st34⟩ := getF X33 hx hZ hown (host := "") (Or.inl (hw _ (List.mem_of_getElem? (i := 40) rfl))) Via.refl e33 (f31.other W33 (Or.inl k1_n_ob_an)) (g := (mkF m 58 #[.val (.ref ob), .val (.ref sa), .val (.ref ca), .val (.int (1 : Int32)), .val (.int (fl_s_1 zn gs gc))] [(.ref ob), (.ref ob)])) rfl rfl (hb hby d7_58)
  obtain ⟨T35, h35, X35, e35, W35, st35⟩ := putF X34 hx hZ hown (host := "") (Or.inl (hw _ (List.mem_of_getElem? (i := 40) rfl))) Via.refl e34 (f31.other W33 (Or.inl k1_n_ob_an)) ((((((k1_0.wr W2).wr W13).wr W15).wr W17).wr W30).wr W33) (Or.inl (hw _ (List.mem_of_getElem? (i := 41) rfl))) (hw _ (List.mem_of_getElem? (i := 11) rfl)) (ty := .long) (by decide) rfl rfl (g := (mkF m 65 #[.val (.ref ob), .val (.ref sa), .val (.ref ca), .val (.int (1 : Int32)), .val (.int (fl_s_1 zn gs gc))] [(.long (((0 : Int64) + ((fl_s zn gs gc).toInt64)) + ((fl_s_1 zn gs gc).toInt64))), (.ref ob)])) rfl rfl (hb hby d7_65)
  have f36 := (((f18.other W30 (Or.inl k1_n_ob_as)).other W33 (Or.inl k1_n_ob_an)).other W35 (Or.inr (slot_ne (Or.inr (hw _ (List.mem_of_getElem? (i := 21) rfl))) (Or.inl (hw _ (List.mem_of_getElem? (i := 41) rfl))) (by decide) (t := (.array .long)) (t' := .long) (by decide) (by decide))))
  have f37 := (((f19.other W30 (Or.inl k1_n_ob_as)).other W33 (Or.inl k1_n_ob_an)).other W35 (Or.inr (slot_ne (Or.inr (hw _ (List.mem_of_getElem? (i := 23) rfl))) (Or.inl (hw _ (List.mem_of_getElem? (i := 41) rfl))) (by decide) (t := (.array .int)) (t' := .long) (by decide) (by decide))))
  have f38 := (((f20.other W30 (Or.inl k1_n_ob_as)).other W33 (Or.inl k1_n_ob_an)).other W35 (Or.inr (slot_ne (Or.inr (hw _ (List.mem_of_getElem? (i := 34) rfl))) (Or.inl (hw _ (List.mem_of_getElem? (i := 41) rfl))) (by decide) (t := .int) (t' := .long) (by decide) (by decide))))
  have Z35 : n0 ≤ h35.size := Nat.le_trans Z33 (Keep.of_wr W35).1
  have N35 := Fr.snoc X35 N33 k1_g_ob
  have K35 := K33.wr W35 (Or.inl (List.mem_of_getElem? (i := 0) rfl))
  obtain ⟨T39, X39, e39, st39⟩ := getF X35 hx hZ hown (host := "") (Or.inl (hw _ (List.mem_of_getElem? (i := 22) rfl))) Via.refl e35 f37 (g := (mkF m 9 #[.val (.ref ob), .val (.ref sa), .val (.ref ca), .val (.int (2 : Int32)), .val (.int (fl_s_1 zn gs gc))] [(.ref ob), (.int (2 : Int32))])) rfl rfl (hb hby d7_9)
  have pre40 : ∀ t, Steps p.tables e below (T39.setTop (mkF m 19 #[.val (.ref ob), .val (.ref sa), .val (.ref ca), .val (.int (2 : Int32)), .val (.int (fl_s_1 zn gs gc))] [(.int zn), (.int (2 : Int32))])) t → Steps p.tables e below (s₁.setTop (entryFrame m #[(.ref ob), (.ref sa), (.ref ca)] 5)) t := by
    intro t k
    refine pre25 t ?_
    show Steps p.tables e below (T23.setTop (mkF m 35 #[.val (.ref ob), .val (.ref sa), .val (.ref ca), .val (.int (1 : Int32)), .val (.int (fl_s zn gs gc))] [(.int (if (1 : Int32) < zn then (if (gc (1 : Int32)) = (0 : Int32) then (0 : Int32) else (gs (1 : Int32))) else (0 : Int32)))])) _
    refine XS.istore X23.here hx rfl (hb hby d7_35) rfl (l' := #[.val (.ref ob), .val (.ref sa), .val (.ref ca), .val (.int (1 : Int32)), .val (.int (fl_s_1 zn gs gc))]) rfl ?_
    show Steps p.tables e below (T23.setTop (mkF m 37 #[.val (.ref ob), .val (.ref sa), .val (.ref ca), .val (.int (1 : Int32)), .val (.int (fl_s_1 zn gs gc))] [])) _
    refine XS.aloadN X23.here hx rfl (hb hby d7_37) rfl rfl ?_
    show Steps p.tables e below (T23.setTop (mkF m 38 #[.val (.ref ob), .val (.ref sa), .val (.ref ca), .val (.int (1 : Int32)), .val (.int (fl_s_1 zn gs gc))] [(.ref ob)])) _
    refine st29 _ ?_
    show Steps p.tables e below (T29.setTop (mkF m 41 #[.val (.ref ob), .val (.ref sa), .val (.ref ca), .val (.int (1 : Int32)), .val (.int (fl_s_1 zn gs gc))] [(.ref as)])) _
    refine XS.iloadN X29.here hx rfl (hb hby d7_41) rfl ?_
    show Steps p.tables e below (T29.setTop (mkF m 42 #[.val (.ref ob), .val (.ref sa), .val (.ref ca), .val (.int (1 : Int32)), .val (.int (fl_s_1 zn gs gc))] [(.int (1 : Int32)), (.ref as)])) _
    refine XS.iload X29.here hx rfl (hb hby d7_42) rfl ?_
    show Steps p.tables e below (T29.setTop (mkF m 44 #[.val (.ref ob), .val (.ref sa), .val (.ref ca), .val (.int (1 : Int32)), .val (.int (fl_s_1 zn gs gc))] [(.int (fl_s_1 zn gs gc)), (.int (1 : Int32)), (.ref as)])) _
    refine st30 _ ?_
    show Steps p.tables e below (T30.setTop (mkF m 45 #[.val (.ref ob), .val (.ref sa), .val (.ref ca), .val (.int (1 : Int32)), .val (.int (fl_s_1 zn gs gc))] [])) _
    refine XS.aloadN X30.here hx rfl (hb hby d7_45) rfl rfl ?_
    show Steps p.tables e below (T30.setTop (mkF m 46 #[.val (.ref ob), .val (.ref sa), .val (.ref ca), .val (.int (1 : Int32)), .val (.int (fl_s_1 zn gs gc))] [(.ref ob)])) _
    refine st32 _ ?_
    show Steps p.tables e below (T32.setTop (mkF m 49 #[.val (.ref ob), .val (.ref sa), .val (.ref ca), .val (.int (1 : Int32)), .val (.int (fl_s_1 zn gs gc))] [(.ref an)])) _
    refine XS.iloadN X32.here hx rfl (hb hby d7_49) rfl ?_
    show Steps p.tables e below (T32.setTop (mkF m 50 #[.val (.ref ob), .val (.ref sa), .val (.ref ca), .val (.int (1 : Int32)), .val (.int (fl_s_1 zn gs gc))] [(.int (1 : Int32)), (.ref an)])) _
    refine XS.iconst X32.here hx rfl (hb hby d7_50) ?_
    show Steps p.tables e below (T32.setTop (mkF m 51 #[.val (.ref ob), .val (.ref sa), .val (.ref ca), .val (.int (1 : Int32)), .val (.int (fl_s_1 zn gs gc))] [(.int (1 : Int32)), (.int (1 : Int32)), (.ref an)])) _
    refine XS.iadd X32.here hx rfl (hb hby d7_51) rfl ?_
    show Steps p.tables e below (T32.setTop (mkF m 52 #[.val (.ref ob), .val (.ref sa), .val (.ref ca), .val (.int (1 : Int32)), .val (.int (fl_s_1 zn gs gc))] [(.int (2 : Int32)), (.ref an)])) _
    refine XS.iload X32.here hx rfl (hb hby d7_52) rfl ?_
    show Steps p.tables e below (T32.setTop (mkF m 54 #[.val (.ref ob), .val (.ref sa), .val (.ref ca), .val (.int (1 : Int32)), .val (.int (fl_s_1 zn gs gc))] [(.int (fl_s_1 zn gs gc)), (.int (2 : Int32)), (.ref an)])) _
    refine XS.i2l X32.here hx rfl (hb hby d7_54) rfl ?_
    show Steps p.tables e below (T32.setTop (mkF m 55 #[.val (.ref ob), .val (.ref sa), .val (.ref ca), .val (.int (1 : Int32)), .val (.int (fl_s_1 zn gs gc))] [(.long ((fl_s_1 zn gs gc).toInt64)), (.int (2 : Int32)), (.ref an)])) _
    refine st33 _ ?_
    show Steps p.tables e below (T33.setTop (mkF m 56 #[.val (.ref ob), .val (.ref sa), .val (.ref ca), .val (.int (1 : Int32)), .val (.int (fl_s_1 zn gs gc))] [])) _
    refine XS.aloadN X33.here hx rfl (hb hby d7_56) rfl rfl ?_
    show Steps p.tables e below (T33.setTop (mkF m 57 #[.val (.ref ob), .val (.ref sa), .val (.ref ca), .val (.int (1 : Int32)), .val (.int (fl_s_1 zn gs gc))] [(.ref ob)])) _
    refine XS.dup X33.here hx rfl (hb hby d7_57) rfl rfl ?_
    show Steps p.tables e below (T33.setTop (mkF m 58 #[.val (.ref ob), .val (.ref sa), .val (.ref ca), .val (.int (1 : Int32)), .val (.int (fl_s_1 zn gs gc))] [(.ref ob), (.ref ob)])) _
    refine st34 _ ?_
    show Steps p.tables e below (T34.setTop (mkF m 61 #[.val (.ref ob), .val (.ref sa), .val (.ref ca), .val (.int (1 : Int32)), .val (.int (fl_s_1 zn gs gc))] [(.long ((0 : Int64) + ((fl_s zn gs gc).toInt64))), (.ref ob)])) _
    refine XS.iload X34.here hx rfl (hb hby d7_61) rfl ?_
    show Steps p.tables e below (T34.setTop (mkF m 63 #[.val (.ref ob), .val (.ref sa), .val (.ref ca), .val (.int (1 : Int32)), .val (.int (fl_s_1 zn gs gc))] [(.int (fl_s_1 zn gs gc)), (.long ((0 : Int64) + ((fl_s zn gs gc).toInt64))), (.ref ob)])) _
    refine XS.i2l X34.here hx rfl (hb hby d7_63) rfl ?_
    show Steps p.tables e below (T34.setTop (mkF m 64 #[.val (.ref ob), .val (.ref sa), .val (.ref ca), .val (.int (1 : Int32)), .val (.int (fl_s_1 zn gs gc))] [(.long ((fl_s_1 zn gs gc).toInt64)), (.long ((0 : Int64) + ((fl_s zn gs gc).toInt64))), (.ref ob)])) _
    refine XS.ladd X34.here hx rfl (hb hby d7_64) rfl ?_
    show Steps p.tables e below (T34.setTop (mkF m 65 #[.val (.ref ob), .val (.ref sa), .val (.ref ca), .val (.int (1 : Int32)), .val (.int (fl_s_1 zn gs gc))] [(.long (((0 : Int64) + ((fl_s zn gs gc).toInt64)) + ((fl_s_1 zn gs gc).toInt64))), (.ref ob)])) _
    refine st35 _ ?_
    show Steps p.tables e below (T35.setTop (mkF m 68 #[.val (.ref ob), .val (.ref sa), .val (.ref ca), .val (.int (1 : Int32)), .val (.int (fl_s_1 zn gs gc))] [])) _
    refine XS.iinc X35.here hx rfl (hb hby d7_68) rfl (l' := #[.val (.ref ob), .val (.ref sa), .val (.ref ca), .val (.int (2 : Int32)), .val (.int (fl_s_1 zn gs gc))]) rfl ?_
    show Steps p.tables e below (T35.setTop (mkF m 71 #[.val (.ref ob), .val (.ref sa), .val (.ref ca), .val (.int (2 : Int32)), .val (.int (fl_s_1 zn gs gc))] [])) _
    refine XS.goto X35.here hx rfl (pc0 := 71) (pc' := 7) rfl (hb hby d7_71) (by decide) (by decide) ?_
    show Steps p.tables e below (T35.setTop (mkF m 7 #[.val (.ref ob), .val (.ref sa), .val (.ref ca), .val (.int (2 : Int32)), .val (.int (fl_s_1 zn gs gc))] [])) _
    refine XS.iloadN X35.here hx rfl (hb hby d7_7) rfl ?_
    show Steps p.tables e below (T35.setTop (mkF m 8 #[.val (.ref ob), .val (.ref sa), .val (.ref ca), .val (.int (2 : Int32)), .val (.int (fl_s_1 zn gs gc))] [(.int (2 : Int32))])) _
    refine XS.aloadN X35.here hx rfl (hb hby d7_8) rfl rfl ?_
    show Steps p.tables e below (T35.setTop (mkF m 9 #[.val (.ref ob), .val (.ref sa), .val (.ref ca), .val (.int (2 : Int32)), .val (.int (fl_s_1 zn gs gc))] [(.ref ob), (.int (2 : Int32))])) _
    refine st39 _ ?_
    show Steps p.tables e below (T39.setTop (mkF m 12 #[.val (.ref ob), .val (.ref sa), .val (.ref ca), .val (.int (2 : Int32)), .val (.int (fl_s_1 zn gs gc))] [(.ref as), (.int (2 : Int32))])) _
    refine lnG X39 hx hZ e39 ((V30.other W33 (Ne.symm k1_n_an_as)).other W35 (Ne.symm k1_n_ob_as)) (g := (mkF m 12 #[.val (.ref ob), .val (.ref sa), .val (.ref ca), .val (.int (2 : Int32)), .val (.int (fl_s_1 zn gs gc))] [(.ref as), (.int (2 : Int32))])) rfl rfl (hb hby d7_12) _ ?_
    show Steps p.tables e below (T39.setTop (mkF m 13 #[.val (.ref ob), .val (.ref sa), .val (.ref ca), .val (.int (2 : Int32)), .val (.int (fl_s_1 zn gs gc))] [(.int (5 : Int32)), (.int (2 : Int32))])) _
    refine XS.icmpNo X39.here hx rfl (hb hby d7_13) rfl (tlt (by decide)).2.1 ?_
    show Steps p.tables e below (T39.setTop (mkF m 16 #[.val (.ref ob), .val (.ref sa), .val (.ref ca), .val (.int (2 : Int32)), .val (.int (fl_s_1 zn gs gc))] [])) _
    refine XS.iloadN X39.here hx rfl (hb hby d7_16) rfl ?_
    show Steps p.tables e below (T39.setTop (mkF m 17 #[.val (.ref ob), .val (.ref sa), .val (.ref ca), .val (.int (2 : Int32)), .val (.int (fl_s_1 zn gs gc))] [(.int (2 : Int32))])) _
    refine XS.aloadN X39.here hx rfl (hb hby d7_17) rfl rfl ?_
    show Steps p.tables e below (T39.setTop (mkF m 18 #[.val (.ref ob), .val (.ref sa), .val (.ref ca), .val (.int (2 : Int32)), .val (.int (fl_s_1 zn gs gc))] [(.ref ca), (.int (2 : Int32))])) _
    refine lnG X39 hx hZ e39 (((f22.other W30 (Ne.symm k1_n_as_ca)).other W33 (Ne.symm k1_n_an_ca)).other W35 (Ne.symm k1_n_ob_ca)) (g := (mkF m 18 #[.val (.ref ob), .val (.ref sa), .val (.ref ca), .val (.int (2 : Int32)), .val (.int (fl_s_1 zn gs gc))] [(.ref ca), (.int (2 : Int32))])) rfl rfl (hb hby d7_18) _ ?_
    exact k
  have pre41 : ∀ t, Steps p.tables e below (T39.setTop (mkF m 35 #[.val (.ref ob), .val (.ref sa), .val (.ref ca), .val (.int (2 : Int32)), .val (.int (fl_s_1 zn gs gc))] [(.int (if (2 : Int32) < zn then (if (gc (2 : Int32)) = (0 : Int32) then (0 : Int32) else (gs (2 : Int32))) else (0 : Int32)))])) t → Steps p.tables e below (s₁.setTop (entryFrame m #[(.ref ob), (.ref sa), (.ref ca)] 5)) t := by
    intro t k
    refine pre40 t ?_
    have k : ∀ (v1 : Int32), v1 = (if (2 : Int32) < zn then (if (gc (2 : Int32)) = (0 : Int32) then (0 : Int32) else (gs (2 : Int32))) else (0 : Int32)) → Steps p.tables e below (T39.setTop (mkF m 35 #[.val (.ref ob), .val (.ref sa), .val (.ref ca), .val (.int (2 : Int32)), .val (.int (fl_s_1 zn gs gc))] [(.int v1)])) t := fun v1 hv1 => by subst hv1; exact k
    have nd42 : (∀ (v1 : Int32), v1 = (0 : Int32) → Steps p.tables e below (T39.setTop (mkF m 35 #[.val (.ref ob), .val (.ref sa), .val (.ref ca), .val (.int (2 : Int32)), .val (.int (fl_s_1 zn gs gc))] [(.int v1)])) t) → Steps p.tables e below (T39.setTop (mkF m 34 #[.val (.ref ob), .val (.ref sa), .val (.ref ca), .val (.int (2 : Int32)), .val (.int (fl_s_1 zn gs gc))] [])) t := by
      intro k
      show Steps p.tables e below (T39.setTop (mkF m 34 #[.val (.ref ob), .val (.ref sa), .val (.ref ca), .val (.int (2 : Int32)), .val (.int (fl_s_1 zn gs gc))] [])) _
      refine XS.iconst X39.here hx rfl (hb hby d7_34) ?_
      exact k _ rfl
    show Steps p.tables e below (T39.setTop (mkF m 19 #[.val (.ref ob), .val (.ref sa), .val (.ref ca), .val (.int (2 : Int32)), .val (.int (fl_s_1 zn gs gc))] [(.int zn), (.int (2 : Int32))])) _
    by_cases hc43 : (2 : Int32) < zn
    · refine XS.icmpNo X39.here hx rfl (hb hby d7_19) rfl (tlt hc43).2.1 ?_
      have k : ∀ (v1 : Int32), v1 = (if (gc (2 : Int32)) = (0 : Int32) then (0 : Int32) else (gs (2 : Int32))) → Steps p.tables e below (T39.setTop (mkF m 35 #[.val (.ref ob), .val (.ref sa), .val (.ref ca), .val (.int (2 : Int32)), .val (.int (fl_s_1 zn gs gc))] [(.int v1)])) t := fun v1 hv1 => k v1 (hv1.trans (if_pos hc43).symm)
      show Steps p.tables e below (T39.setTop (mkF m 22 #[.val (.ref ob), .val (.ref sa), .val (.ref ca), .val (.int (2 : Int32)), .val (.int (fl_s_1 zn gs gc))] [])) _
      refine XS.aloadN X39.here hx rfl (hb hby d7_22) rfl rfl ?_
      show Steps p.tables e below (T39.setTop (mkF m 23 #[.val (.ref ob), .val (.ref sa), .val (.ref ca), .val (.int (2 : Int32)), .val (.int (fl_s_1 zn gs gc))] [(.ref ca)])) _
      refine XS.iloadN X39.here hx rfl (hb hby d7_23) rfl ?_
      show Steps p.tables e below (T39.setTop (mkF m 24 #[.val (.ref ob), .val (.ref sa), .val (.ref ca), .val (.int (2 : Int32)), .val (.int (fl_s_1 zn gs gc))] [(.int (2 : Int32)), (.ref ca)])) _
      refine rdZ X39 hx hZ e39 (((f22.other W30 (Ne.symm k1_n_as_ca)).other W33 (Ne.symm k1_n_an_ca)).other W35 (Ne.symm k1_n_ob_ca)) (j := (2 : Int32)) ⟨by decide, by assumption⟩ rfl (g := (mkF m 24 #[.val (.ref ob), .val (.ref sa), .val (.ref ca), .val (.int (2 : Int32)), .val (.int (fl_s_1 zn gs gc))] [(.int (2 : Int32)), (.ref ca)])) rfl rfl (hb hby d7_24) _ ?_
      show Steps p.tables e below (T39.setTop (mkF m 25 #[.val (.ref ob), .val (.ref sa), .val (.ref ca), .val (.int (2 : Int32)), .val (.int (fl_s_1 zn gs gc))] [(.int (gc (2 : Int32)))])) _
      by_cases hc44 : (gc (2 : Int32)) = (0 : Int32)
      · refine XS.ifYes X39.here hx rfl (pc0 := 25) (pc' := 34) rfl (hb hby d7_25) rfl ((if0 _ _).trans (teq hc44).1) (by decide) (by decide) ?_
        have k : ∀ (v1 : Int32), v1 = (0 : Int32) → Steps p.tables e below (T39.setTop (mkF m 35 #[.val (.ref ob), .val (.ref sa), .val (.ref ca), .val (.int (2 : Int32)), .val (.int (fl_s_1 zn gs gc))] [(.int v1)])) t := fun v1 hv1 => k v1 (hv1.trans (if_pos hc44).symm)
        exact nd42 k
      · refine XS.ifNo X39.here hx rfl (hb hby d7_25) rfl ((if0 _ _).trans (feq hc44).1) ?_
        have k : ∀ (v1 : Int32), v1 = (gs (2 : Int32)) → Steps p.tables e below (T39.setTop (mkF m 35 #[.val (.ref ob), .val (.ref sa), .val (.ref ca), .val (.int (2 : Int32)), .val (.int (fl_s_1 zn gs gc))] [(.int v1)])) t := fun v1 hv1 => k v1 (hv1.trans (if_neg hc44).symm)
        show Steps p.tables e below (T39.setTop (mkF m 28 #[.val (.ref ob), .val (.ref sa), .val (.ref ca), .val (.int (2 : Int32)), .val (.int (fl_s_1 zn gs gc))] [])) _
        refine XS.aloadN X39.here hx rfl (hb hby d7_28) rfl rfl ?_
        show Steps p.tables e below (T39.setTop (mkF m 29 #[.val (.ref ob), .val (.ref sa), .val (.ref ca), .val (.int (2 : Int32)), .val (.int (fl_s_1 zn gs gc))] [(.ref sa)])) _
        refine XS.iloadN X39.here hx rfl (hb hby d7_29) rfl ?_
        show Steps p.tables e below (T39.setTop (mkF m 30 #[.val (.ref ob), .val (.ref sa), .val (.ref ca), .val (.int (2 : Int32)), .val (.int (fl_s_1 zn gs gc))] [(.int (2 : Int32)), (.ref sa)])) _
        refine rdI X39 hx hZ e39 (((f21.other W30 (Ne.symm k1_n_as_sa)).other W33 (Ne.symm k1_n_an_sa)).other W35 (Ne.symm k1_n_ob_sa)) (j := (2 : Int32)) ⟨by decide, by assumption⟩ rfl (g := (mkF m 30 #[.val (.ref ob), .val (.ref sa), .val (.ref ca), .val (.int (2 : Int32)), .val (.int (fl_s_1 zn gs gc))] [(.int (2 : Int32)), (.ref sa)])) rfl rfl (hb hby d7_30) _ ?_
        show Steps p.tables e below (T39.setTop (mkF m 31 #[.val (.ref ob), .val (.ref sa), .val (.ref ca), .val (.int (2 : Int32)), .val (.int (fl_s_1 zn gs gc))] [(.int (gs (2 : Int32)))])) _
        refine XS.goto X39.here hx rfl (pc0 := 31) (pc' := 35) rfl (hb hby d7_31) (by decide) (by decide) ?_
        exact k _ rfl
    · refine XS.icmpYes X39.here hx rfl (pc0 := 19) (pc' := 34) rfl (hb hby d7_19) rfl (flt hc43).2.1 (by decide) (by decide) ?_
      have k : ∀ (v1 : Int32), v1 = (0 : Int32) → Steps p.tables e below (T39.setTop (mkF m 35 #[.val (.ref ob), .val (.ref sa), .val (.ref ca), .val (.int (2 : Int32)), .val (.int (fl_s_1 zn gs gc))] [(.int v1)])) t := fun v1 hv1 => k v1 (hv1.trans (if_neg hc43).symm)
      exact nd42 k
  obtain ⟨T45, X45, e45, st45⟩ := getF X39 hx hZ hown (host := "") (Or.inl (hw _ (List.mem_of_getElem? (i := 22) rfl))) Via.refl e39 f37 (g := (mkF m 38 #[.val (.ref ob), .val (.ref sa), .val (.ref ca), .val (.int (2 : Int32)), .val (.int (fl_s_2 zn gs gc))] [(.ref ob)])) rfl rfl (hb hby d7_38)
  obtain ⟨T46, h46, X46, e46, W46, V46, st46⟩ := wrI X45 hx hZ e45 ((V30.other W33 (Ne.symm k1_n_an_as)).other W35 (Ne.symm k1_n_ob_as)) (j := (2 : Int32)) ⟨by decide, by decide⟩  (g := (mkF m 44 #[.val (.ref ob), .val (.ref sa), .val (.ref ca), .val (.int (2 : Int32)), .val (.int (fl_s_2 zn gs gc))] [(.int (fl_s_2 zn gs gc)), (.int (2 : Int32)), (.ref as)])) rfl rfl (hb hby d7_44)
  have f47 := ((((f21.other W30 (Ne.symm k1_n_as_sa)).other W33 (Ne.symm k1_n_an_sa)).other W35 (Ne.symm k1_n_ob_sa)).other W46 (Ne.symm k1_n_as_sa))
  have f48 := ((((f22.other W30 (Ne.symm k1_n_as_ca)).other W33 (Ne.symm k1_n_an_ca)).other W35 (Ne.symm k1_n_ob_ca)).other W46 (Ne.symm k1_n_as_ca))
  have Z46 : n0 ≤ h46.size := Nat.le_trans Z35 (Keep.of_wr W46).1
  have N46 := Fr.snoc X46 N35 k1_g_as
  have K46 := K35.wr W46 (Or.inl (List.mem_of_getElem? (i := 2) rfl))
  obtain ⟨T49, X49, e49, st49⟩ := getF X46 hx hZ hown (host := "") (Or.inl (hw _ (List.mem_of_getElem? (i := 20) rfl))) Via.refl e46 (f36.other W46 (Or.inl k1_n_ob_as)) (g := (mkF m 46 #[.val (.ref ob), .val (.ref sa), .val (.ref ca), .val (.int (2 : Int32)), .val (.int (fl_s_2 zn gs gc))] [(.ref ob)])) rfl rfl (hb hby d7_46)
  obtain ⟨T50, h50, X50, e50, W50, V50, st50⟩ := wrJ X49 hx hZ e49 ((V33.other W35 (Ne.symm k1_n_ob_an)).other W46 k1_n_an_as) (j := (3 : Int32)) ⟨by decide, by decide⟩  (g := (mkF m 55 #[.val (.ref ob), .val (.ref sa), .val (.ref ca), .val (.int (2 : Int32)), .val (.int (fl_s_2 zn gs gc))] [(.long ((fl_s_2 zn gs gc).toInt64)), (.int (3 : Int32)), (.ref an)])) rfl rfl (hb hby d7_55)
  have Z50 : n0 ≤ h50.size := Nat.le_trans Z46 (Keep.of_wr W50).1
  have N50 := Fr.snoc X50 N46 k1_g_an
  have K50 := K46.wr W50 (Or.inl (List.mem_of_getElem? (i := 1) rfl))
  obtain ⟨T51, X51, e51, st51⟩ := getF X50 hx hZ hown (host := "") (Or.inl (hw _ (List.mem_of_getElem? (i := 40) rfl))) Via.refl e50 ((((f31.other W33 (Or.inl k1_n_ob_an)).same W35).other W46 (Or.inl k1_n_ob_as)).other W50 (Or.inl k1_n_ob_an)) (g := (mkF m 58 #[.val (.ref ob), .val (.ref sa), .val (.ref ca), .val (.int (2 : Int32)), .val (.int (fl_s_2 zn gs gc))] [(.ref ob), (.ref ob)])) rfl rfl (hb hby d7_58)
  obtain ⟨T52, h52, X52, e52, W52, st52⟩ := putF X51 hx hZ hown (host := "") (Or.inl (hw _ (List.mem_of_getElem? (i := 40) rfl))) Via.refl e51 ((((f31.other W33 (Or.inl k1_n_ob_an)).same W35).other W46 (Or.inl k1_n_ob_as)).other W50 (Or.inl k1_n_ob_an)) (((((((((k1_0.wr W2).wr W13).wr W15).wr W17).wr W30).wr W33).wr W35).wr W46).wr W50) (Or.inl (hw _ (List.mem_of_getElem? (i := 41) rfl))) (hw _ (List.mem_of_getElem? (i := 11) rfl)) (ty := .long) (by decide) rfl rfl (g := (mkF m 65 #[.val (.ref ob), .val (.ref sa), .val (.ref ca), .val (.int (2 : Int32)), .val (.int (fl_s_2 zn gs gc))] [(.long ((((0 : Int64) + ((fl_s zn gs gc).toInt64)) + ((fl_s_1 zn gs gc).toInt64)) + ((fl_s_2 zn gs gc).toInt64))), (.ref ob)])) rfl rfl (hb hby d7_65)
  have f53 := (((f36.other W46 (Or.inl k1_n_ob_as)).other W50 (Or.inl k1_n_ob_an)).other W52 (Or.inr (slot_ne (Or.inr (hw _ (List.mem_of_getElem? (i := 21) rfl))) (Or.inl (hw _ (List.mem_of_getElem? (i := 41) rfl))) (by decide) (t := (.array .long)) (t' := .long) (by decide) (by decide))))
  have f54 := (((f37.other W46 (Or.inl k1_n_ob_as)).other W50 (Or.inl k1_n_ob_an)).other W52 (Or.inr (slot_ne (Or.inr (hw _ (List.mem_of_getElem? (i := 23) rfl))) (Or.inl (hw _ (List.mem_of_getElem? (i := 41) rfl))) (by decide) (t := (.array .int)) (t' := .long) (by decide) (by decide))))
  have f55 := (((f38.other W46 (Or.inl k1_n_ob_as)).other W50 (Or.inl k1_n_ob_an)).other W52 (Or.inr (slot_ne (Or.inr (hw _ (List.mem_of_getElem? (i := 34) rfl))) (Or.inl (hw _ (List.mem_of_getElem? (i := 41) rfl))) (by decide) (t := .int) (t' := .long) (by decide) (by decide))))
  have f56 := (((((f31.other W33 (Or.inl k1_n_ob_an)).same W35).other W46 (Or.inl k1_n_ob_as)).other W50 (Or.inl k1_n_ob_an)).same W52)
  have Z52 : n0 ≤ h52.size := Nat.le_trans Z50 (Keep.of_wr W52).1
  have N52 := Fr.snoc X52 N50 k1_g_ob
  have K52 := K50.wr W52 (Or.inl (List.mem_of_getElem? (i := 0) rfl))
  obtain ⟨T57, X57, e57, st57⟩ := getF X52 hx hZ hown (host := "") (Or.inl (hw _ (List.mem_of_getElem? (i := 22) rfl))) Via.refl e52 f54 (g := (mkF m 9 #[.val (.ref ob), .val (.ref sa), .val (.ref ca), .val (.int (3 : Int32)), .val (.int (fl_s_2 zn gs gc))] [(.ref ob), (.int (3 : Int32))])) rfl rfl (hb hby d7_9)
  have pre58 : ∀ t, Steps p.tables e below (T57.setTop (mkF m 19 #[.val (.ref ob), .val (.ref sa), .val (.ref ca), .val (.int (3 : Int32)), .val (.int (fl_s_2 zn gs gc))] [(.int zn), (.int (3 : Int32))])) t → Steps p.tables e below (s₁.setTop (entryFrame m #[(.ref ob), (.ref sa), (.ref ca)] 5)) t := by
    intro t k
    refine pre41 t ?_
    show Steps p.tables e below (T39.setTop (mkF m 35 #[.val (.ref ob), .val (.ref sa), .val (.ref ca), .val (.int (2 : Int32)), .val (.int (fl_s_1 zn gs gc))] [(.int (if (2 : Int32) < zn then (if (gc (2 : Int32)) = (0 : Int32) then (0 : Int32) else (gs (2 : Int32))) else (0 : Int32)))])) _
    refine XS.istore X39.here hx rfl (hb hby d7_35) rfl (l' := #[.val (.ref ob), .val (.ref sa), .val (.ref ca), .val (.int (2 : Int32)), .val (.int (fl_s_2 zn gs gc))]) rfl ?_
    show Steps p.tables e below (T39.setTop (mkF m 37 #[.val (.ref ob), .val (.ref sa), .val (.ref ca), .val (.int (2 : Int32)), .val (.int (fl_s_2 zn gs gc))] [])) _
    refine XS.aloadN X39.here hx rfl (hb hby d7_37) rfl rfl ?_
    show Steps p.tables e below (T39.setTop (mkF m 38 #[.val (.ref ob), .val (.ref sa), .val (.ref ca), .val (.int (2 : Int32)), .val (.int (fl_s_2 zn gs gc))] [(.ref ob)])) _
    refine st45 _ ?_
    show Steps p.tables e below (T45.setTop (mkF m 41 #[.val (.ref ob), .val (.ref sa), .val (.ref ca), .val (.int (2 : Int32)), .val (.int (fl_s_2 zn gs gc))] [(.ref as)])) _
    refine XS.iloadN X45.here hx rfl (hb hby d7_41) rfl ?_
    show Steps p.tables e below (T45.setTop (mkF m 42 #[.val (.ref ob), .val (.ref sa), .val (.ref ca), .val (.int (2 : Int32)), .val (.int (fl_s_2 zn gs gc))] [(.int (2 : Int32)), (.ref as)])) _
    refine XS.iload X45.here hx rfl (hb hby d7_42) rfl ?_
    show Steps p.tables e below (T45.setTop (mkF m 44 #[.val (.ref ob), .val (.ref sa), .val (.ref ca), .val (.int (2 : Int32)), .val (.int (fl_s_2 zn gs gc))] [(.int (fl_s_2 zn gs gc)), (.int (2 : Int32)), (.ref as)])) _
    refine st46 _ ?_
    show Steps p.tables e below (T46.setTop (mkF m 45 #[.val (.ref ob), .val (.ref sa), .val (.ref ca), .val (.int (2 : Int32)), .val (.int (fl_s_2 zn gs gc))] [])) _
    refine XS.aloadN X46.here hx rfl (hb hby d7_45) rfl rfl ?_
    show Steps p.tables e below (T46.setTop (mkF m 46 #[.val (.ref ob), .val (.ref sa), .val (.ref ca), .val (.int (2 : Int32)), .val (.int (fl_s_2 zn gs gc))] [(.ref ob)])) _
    refine st49 _ ?_
    show Steps p.tables e below (T49.setTop (mkF m 49 #[.val (.ref ob), .val (.ref sa), .val (.ref ca), .val (.int (2 : Int32)), .val (.int (fl_s_2 zn gs gc))] [(.ref an)])) _
    refine XS.iloadN X49.here hx rfl (hb hby d7_49) rfl ?_
    show Steps p.tables e below (T49.setTop (mkF m 50 #[.val (.ref ob), .val (.ref sa), .val (.ref ca), .val (.int (2 : Int32)), .val (.int (fl_s_2 zn gs gc))] [(.int (2 : Int32)), (.ref an)])) _
    refine XS.iconst X49.here hx rfl (hb hby d7_50) ?_
    show Steps p.tables e below (T49.setTop (mkF m 51 #[.val (.ref ob), .val (.ref sa), .val (.ref ca), .val (.int (2 : Int32)), .val (.int (fl_s_2 zn gs gc))] [(.int (1 : Int32)), (.int (2 : Int32)), (.ref an)])) _
    refine XS.iadd X49.here hx rfl (hb hby d7_51) rfl ?_
    show Steps p.tables e below (T49.setTop (mkF m 52 #[.val (.ref ob), .val (.ref sa), .val (.ref ca), .val (.int (2 : Int32)), .val (.int (fl_s_2 zn gs gc))] [(.int (3 : Int32)), (.ref an)])) _
    refine XS.iload X49.here hx rfl (hb hby d7_52) rfl ?_
    show Steps p.tables e below (T49.setTop (mkF m 54 #[.val (.ref ob), .val (.ref sa), .val (.ref ca), .val (.int (2 : Int32)), .val (.int (fl_s_2 zn gs gc))] [(.int (fl_s_2 zn gs gc)), (.int (3 : Int32)), (.ref an)])) _
    refine XS.i2l X49.here hx rfl (hb hby d7_54) rfl ?_
    show Steps p.tables e below (T49.setTop (mkF m 55 #[.val (.ref ob), .val (.ref sa), .val (.ref ca), .val (.int (2 : Int32)), .val (.int (fl_s_2 zn gs gc))] [(.long ((fl_s_2 zn gs gc).toInt64)), (.int (3 : Int32)), (.ref an)])) _
    refine st50 _ ?_
    show Steps p.tables e below (T50.setTop (mkF m 56 #[.val (.ref ob), .val (.ref sa), .val (.ref ca), .val (.int (2 : Int32)), .val (.int (fl_s_2 zn gs gc))] [])) _
    refine XS.aloadN X50.here hx rfl (hb hby d7_56) rfl rfl ?_
    show Steps p.tables e below (T50.setTop (mkF m 57 #[.val (.ref ob), .val (.ref sa), .val (.ref ca), .val (.int (2 : Int32)), .val (.int (fl_s_2 zn gs gc))] [(.ref ob)])) _
    refine XS.dup X50.here hx rfl (hb hby d7_57) rfl rfl ?_
    show Steps p.tables e below (T50.setTop (mkF m 58 #[.val (.ref ob), .val (.ref sa), .val (.ref ca), .val (.int (2 : Int32)), .val (.int (fl_s_2 zn gs gc))] [(.ref ob), (.ref ob)])) _
    refine st51 _ ?_
    show Steps p.tables e below (T51.setTop (mkF m 61 #[.val (.ref ob), .val (.ref sa), .val (.ref ca), .val (.int (2 : Int32)), .val (.int (fl_s_2 zn gs gc))] [(.long (((0 : Int64) + ((fl_s zn gs gc).toInt64)) + ((fl_s_1 zn gs gc).toInt64))), (.ref ob)])) _
    refine XS.iload X51.here hx rfl (hb hby d7_61) rfl ?_
    show Steps p.tables e below (T51.setTop (mkF m 63 #[.val (.ref ob), .val (.ref sa), .val (.ref ca), .val (.int (2 : Int32)), .val (.int (fl_s_2 zn gs gc))] [(.int (fl_s_2 zn gs gc)), (.long (((0 : Int64) + ((fl_s zn gs gc).toInt64)) + ((fl_s_1 zn gs gc).toInt64))), (.ref ob)])) _
    refine XS.i2l X51.here hx rfl (hb hby d7_63) rfl ?_
    show Steps p.tables e below (T51.setTop (mkF m 64 #[.val (.ref ob), .val (.ref sa), .val (.ref ca), .val (.int (2 : Int32)), .val (.int (fl_s_2 zn gs gc))] [(.long ((fl_s_2 zn gs gc).toInt64)), (.long (((0 : Int64) + ((fl_s zn gs gc).toInt64)) + ((fl_s_1 zn gs gc).toInt64))), (.ref ob)])) _
    refine XS.ladd X51.here hx rfl (hb hby d7_64) rfl ?_
    show Steps p.tables e below (T51.setTop (mkF m 65 #[.val (.ref ob), .val (.ref sa), .val (.ref ca), .val (.int (2 : Int32)), .val (.int (fl_s_2 zn gs gc))] [(.long ((((0 : Int64) + ((fl_s zn gs gc).toInt64)) + ((fl_s_1 zn gs gc).toInt64)) + ((fl_s_2 zn gs gc).toInt64))), (.ref ob)])) _
    refine st52 _ ?_
    show Steps p.tables e below (T52.setTop (mkF m 68 #[.val (.ref ob), .val (.ref sa), .val (.ref ca), .val (.int (2 : Int32)), .val (.int (fl_s_2 zn gs gc))] [])) _
    refine XS.iinc X52.here hx rfl (hb hby d7_68) rfl (l' := #[.val (.ref ob), .val (.ref sa), .val (.ref ca), .val (.int (3 : Int32)), .val (.int (fl_s_2 zn gs gc))]) rfl ?_
    show Steps p.tables e below (T52.setTop (mkF m 71 #[.val (.ref ob), .val (.ref sa), .val (.ref ca), .val (.int (3 : Int32)), .val (.int (fl_s_2 zn gs gc))] [])) _
    refine XS.goto X52.here hx rfl (pc0 := 71) (pc' := 7) rfl (hb hby d7_71) (by decide) (by decide) ?_
    show Steps p.tables e below (T52.setTop (mkF m 7 #[.val (.ref ob), .val (.ref sa), .val (.ref ca), .val (.int (3 : Int32)), .val (.int (fl_s_2 zn gs gc))] [])) _
    refine XS.iloadN X52.here hx rfl (hb hby d7_7) rfl ?_
    show Steps p.tables e below (T52.setTop (mkF m 8 #[.val (.ref ob), .val (.ref sa), .val (.ref ca), .val (.int (3 : Int32)), .val (.int (fl_s_2 zn gs gc))] [(.int (3 : Int32))])) _
    refine XS.aloadN X52.here hx rfl (hb hby d7_8) rfl rfl ?_
    show Steps p.tables e below (T52.setTop (mkF m 9 #[.val (.ref ob), .val (.ref sa), .val (.ref ca), .val (.int (3 : Int32)), .val (.int (fl_s_2 zn gs gc))] [(.ref ob), (.int (3 : Int32))])) _
    refine st57 _ ?_
    show Steps p.tables e below (T57.setTop (mkF m 12 #[.val (.ref ob), .val (.ref sa), .val (.ref ca), .val (.int (3 : Int32)), .val (.int (fl_s_2 zn gs gc))] [(.ref as), (.int (3 : Int32))])) _
    refine lnG X57 hx hZ e57 ((V46.other W50 (Ne.symm k1_n_an_as)).other W52 (Ne.symm k1_n_ob_as)) (g := (mkF m 12 #[.val (.ref ob), .val (.ref sa), .val (.ref ca), .val (.int (3 : Int32)), .val (.int (fl_s_2 zn gs gc))] [(.ref as), (.int (3 : Int32))])) rfl rfl (hb hby d7_12) _ ?_
    show Steps p.tables e below (T57.setTop (mkF m 13 #[.val (.ref ob), .val (.ref sa), .val (.ref ca), .val (.int (3 : Int32)), .val (.int (fl_s_2 zn gs gc))] [(.int (5 : Int32)), (.int (3 : Int32))])) _
    refine XS.icmpNo X57.here hx rfl (hb hby d7_13) rfl (tlt (by decide)).2.1 ?_
    show Steps p.tables e below (T57.setTop (mkF m 16 #[.val (.ref ob), .val (.ref sa), .val (.ref ca), .val (.int (3 : Int32)), .val (.int (fl_s_2 zn gs gc))] [])) _
    refine XS.iloadN X57.here hx rfl (hb hby d7_16) rfl ?_
    show Steps p.tables e below (T57.setTop (mkF m 17 #[.val (.ref ob), .val (.ref sa), .val (.ref ca), .val (.int (3 : Int32)), .val (.int (fl_s_2 zn gs gc))] [(.int (3 : Int32))])) _
    refine XS.aloadN X57.here hx rfl (hb hby d7_17) rfl rfl ?_
    show Steps p.tables e below (T57.setTop (mkF m 18 #[.val (.ref ob), .val (.ref sa), .val (.ref ca), .val (.int (3 : Int32)), .val (.int (fl_s_2 zn gs gc))] [(.ref ca), (.int (3 : Int32))])) _
    refine lnG X57 hx hZ e57 ((f48.other W50 (Ne.symm k1_n_an_ca)).other W52 (Ne.symm k1_n_ob_ca)) (g := (mkF m 18 #[.val (.ref ob), .val (.ref sa), .val (.ref ca), .val (.int (3 : Int32)), .val (.int (fl_s_2 zn gs gc))] [(.ref ca), (.int (3 : Int32))])) rfl rfl (hb hby d7_18) _ ?_
    exact k
  have pre59 : ∀ t, Steps p.tables e below (T57.setTop (mkF m 35 #[.val (.ref ob), .val (.ref sa), .val (.ref ca), .val (.int (3 : Int32)), .val (.int (fl_s_2 zn gs gc))] [(.int (if (3 : Int32) < zn then (if (gc (3 : Int32)) = (0 : Int32) then (0 : Int32) else (gs (3 : Int32))) else (0 : Int32)))])) t → Steps p.tables e below (s₁.setTop (entryFrame m #[(.ref ob), (.ref sa), (.ref ca)] 5)) t := by
    intro t k
    refine pre58 t ?_
    have k : ∀ (v1 : Int32), v1 = (if (3 : Int32) < zn then (if (gc (3 : Int32)) = (0 : Int32) then (0 : Int32) else (gs (3 : Int32))) else (0 : Int32)) → Steps p.tables e below (T57.setTop (mkF m 35 #[.val (.ref ob), .val (.ref sa), .val (.ref ca), .val (.int (3 : Int32)), .val (.int (fl_s_2 zn gs gc))] [(.int v1)])) t := fun v1 hv1 => by subst hv1; exact k
    have nd60 : (∀ (v1 : Int32), v1 = (0 : Int32) → Steps p.tables e below (T57.setTop (mkF m 35 #[.val (.ref ob), .val (.ref sa), .val (.ref ca), .val (.int (3 : Int32)), .val (.int (fl_s_2 zn gs gc))] [(.int v1)])) t) → Steps p.tables e below (T57.setTop (mkF m 34 #[.val (.ref ob), .val (.ref sa), .val (.ref ca), .val (.int (3 : Int32)), .val (.int (fl_s_2 zn gs gc))] [])) t := by
      intro k
      show Steps p.tables e below (T57.setTop (mkF m 34 #[.val (.ref ob), .val (.ref sa), .val (.ref ca), .val (.int (3 : Int32)), .val (.int (fl_s_2 zn gs gc))] [])) _
      refine XS.iconst X57.here hx rfl (hb hby d7_34) ?_
      exact k _ rfl
    show Steps p.tables e below (T57.setTop (mkF m 19 #[.val (.ref ob), .val (.ref sa), .val (.ref ca), .val (.int (3 : Int32)), .val (.int (fl_s_2 zn gs gc))] [(.int zn), (.int (3 : Int32))])) _
    by_cases hc61 : (3 : Int32) < zn
    · refine XS.icmpNo X57.here hx rfl (hb hby d7_19) rfl (tlt hc61).2.1 ?_
      have k : ∀ (v1 : Int32), v1 = (if (gc (3 : Int32)) = (0 : Int32) then (0 : Int32) else (gs (3 : Int32))) → Steps p.tables e below (T57.setTop (mkF m 35 #[.val (.ref ob), .val (.ref sa), .val (.ref ca), .val (.int (3 : Int32)), .val (.int (fl_s_2 zn gs gc))] [(.int v1)])) t := fun v1 hv1 => k v1 (hv1.trans (if_pos hc61).symm)
      show Steps p.tables e below (T57.setTop (mkF m 22 #[.val (.ref ob), .val (.ref sa), .val (.ref ca), .val (.int (3 : Int32)), .val (.int (fl_s_2 zn gs gc))] [])) _
      refine XS.aloadN X57.here hx rfl (hb hby d7_22) rfl rfl ?_
      show Steps p.tables e below (T57.setTop (mkF m 23 #[.val (.ref ob), .val (.ref sa), .val (.ref ca), .val (.int (3 : Int32)), .val (.int (fl_s_2 zn gs gc))] [(.ref ca)])) _
      refine XS.iloadN X57.here hx rfl (hb hby d7_23) rfl ?_
      show Steps p.tables e below (T57.setTop (mkF m 24 #[.val (.ref ob), .val (.ref sa), .val (.ref ca), .val (.int (3 : Int32)), .val (.int (fl_s_2 zn gs gc))] [(.int (3 : Int32)), (.ref ca)])) _
      refine rdZ X57 hx hZ e57 ((f48.other W50 (Ne.symm k1_n_an_ca)).other W52 (Ne.symm k1_n_ob_ca)) (j := (3 : Int32)) ⟨by decide, by assumption⟩ rfl (g := (mkF m 24 #[.val (.ref ob), .val (.ref sa), .val (.ref ca), .val (.int (3 : Int32)), .val (.int (fl_s_2 zn gs gc))] [(.int (3 : Int32)), (.ref ca)])) rfl rfl (hb hby d7_24) _ ?_
      show Steps p.tables e below (T57.setTop (mkF m 25 #[.val (.ref ob), .val (.ref sa), .val (.ref ca), .val (.int (3 : Int32)), .val (.int (fl_s_2 zn gs gc))] [(.int (gc (3 : Int32)))])) _
      by_cases hc62 : (gc (3 : Int32)) = (0 : Int32)
      · refine XS.ifYes X57.here hx rfl (pc0 := 25) (pc' := 34) rfl (hb hby d7_25) rfl ((if0 _ _).trans (teq hc62).1) (by decide) (by decide) ?_
        have k : ∀ (v1 : Int32), v1 = (0 : Int32) → Steps p.tables e below (T57.setTop (mkF m 35 #[.val (.ref ob), .val (.ref sa), .val (.ref ca), .val (.int (3 : Int32)), .val (.int (fl_s_2 zn gs gc))] [(.int v1)])) t := fun v1 hv1 => k v1 (hv1.trans (if_pos hc62).symm)
        exact nd60 k
      · refine XS.ifNo X57.here hx rfl (hb hby d7_25) rfl ((if0 _ _).trans (feq hc62).1) ?_
        have k : ∀ (v1 : Int32), v1 = (gs (3 : Int32)) → Steps p.tables e below (T57.setTop (mkF m 35 #[.val (.ref ob), .val (.ref sa), .val (.ref ca), .val (.int (3 : Int32)), .val (.int (fl_s_2 zn gs gc))] [(.int v1)])) t := fun v1 hv1 => k v1 (hv1.trans (if_neg hc62).symm)
        show Steps p.tables e below (T57.setTop (mkF m 28 #[.val (.ref ob), .val (.ref sa), .val (.ref ca), .val (.int (3 : Int32)), .val (.int (fl_s_2 zn gs gc))] [])) _
        refine XS.aloadN X57.here hx rfl (hb hby d7_28) rfl rfl ?_
        show Steps p.tables e below (T57.setTop (mkF m 29 #[.val (.ref ob), .val (.ref sa), .val (.ref ca), .val (.int (3 : Int32)), .val (.int (fl_s_2 zn gs gc))] [(.ref sa)])) _
        refine XS.iloadN X57.here hx rfl (hb hby d7_29) rfl ?_
        show Steps p.tables e below (T57.setTop (mkF m 30 #[.val (.ref ob), .val (.ref sa), .val (.ref ca), .val (.int (3 : Int32)), .val (.int (fl_s_2 zn gs gc))] [(.int (3 : Int32)), (.ref sa)])) _
        refine rdI X57 hx hZ e57 ((f47.other W50 (Ne.symm k1_n_an_sa)).other W52 (Ne.symm k1_n_ob_sa)) (j := (3 : Int32)) ⟨by decide, by assumption⟩ rfl (g := (mkF m 30 #[.val (.ref ob), .val (.ref sa), .val (.ref ca), .val (.int (3 : Int32)), .val (.int (fl_s_2 zn gs gc))] [(.int (3 : Int32)), (.ref sa)])) rfl rfl (hb hby d7_30) _ ?_
        show Steps p.tables e below (T57.setTop (mkF m 31 #[.val (.ref ob), .val (.ref sa), .val (.ref ca), .val (.int (3 : Int32)), .val (.int (fl_s_2 zn gs gc))] [(.int (gs (3 : Int32)))])) _
        refine XS.goto X57.here hx rfl (pc0 := 31) (pc' := 35) rfl (hb hby d7_31) (by decide) (by decide) ?_
        exact k _ rfl
    · refine XS.icmpYes X57.here hx rfl (pc0 := 19) (pc' := 34) rfl (hb hby d7_19) rfl (flt hc61).2.1 (by decide) (by decide) ?_
      have k : ∀ (v1 : Int32), v1 = (0 : Int32) → Steps p.tables e below (T57.setTop (mkF m 35 #[.val (.ref ob), .val (.ref sa), .val (.ref ca), .val (.int (3 : Int32)), .val (.int (fl_s_2 zn gs gc))] [(.int v1)])) t := fun v1 hv1 => k v1 (hv1.trans (if_neg hc61).symm)
      exact nd60 k
  obtain ⟨T63, X63, e63, st63⟩ := getF X57 hx hZ hown (host := "") (Or.inl (hw _ (List.mem_of_getElem? (i := 22) rfl))) Via.refl e57 f54 (g := (mkF m 38 #[.val (.ref ob), .val (.ref sa), .val (.ref ca), .val (.int (3 : Int32)), .val (.int (fl_s_3 zn gs gc))] [(.ref ob)])) rfl rfl (hb hby d7_38)
  obtain ⟨T64, h64, X64, e64, W64, V64, st64⟩ := wrI X63 hx hZ e63 ((V46.other W50 (Ne.symm k1_n_an_as)).other W52 (Ne.symm k1_n_ob_as)) (j := (3 : Int32)) ⟨by decide, by decide⟩  (g := (mkF m 44 #[.val (.ref ob), .val (.ref sa), .val (.ref ca), .val (.int (3 : Int32)), .val (.int (fl_s_3 zn gs gc))] [(.int (fl_s_3 zn gs gc)), (.int (3 : Int32)), (.ref as)])) rfl rfl (hb hby d7_44)
  have Z64 : n0 ≤ h64.size := Nat.le_trans Z52 (Keep.of_wr W64).1
  have N64 := Fr.snoc X64 N52 k1_g_as
  have K64 := K52.wr W64 (Or.inl (List.mem_of_getElem? (i := 2) rfl))
  obtain ⟨T65, X65, e65, st65⟩ := getF X64 hx hZ hown (host := "") (Or.inl (hw _ (List.mem_of_getElem? (i := 20) rfl))) Via.refl e64 (f53.other W64 (Or.inl k1_n_ob_as)) (g := (mkF m 46 #[.val (.ref ob), .val (.ref sa), .val (.ref ca), .val (.int (3 : Int32)), .val (.int (fl_s_3 zn gs gc))] [(.ref ob)])) rfl rfl (hb hby d7_46)
  obtain ⟨T66, h66, X66, e66, W66, V66, st66⟩ := wrJ X65 hx hZ e65 ((V50.other W52 (Ne.symm k1_n_ob_an)).other W64 k1_n_an_as) (j := (4 : Int32)) ⟨by decide, by decide⟩  (g := (mkF m 55 #[.val (.ref ob), .val (.ref sa), .val (.ref ca), .val (.int (3 : Int32)), .val (.int (fl_s_3 zn gs gc))] [(.long ((fl_s_3 zn gs gc).toInt64)), (.int (4 : Int32)), (.ref an)])) rfl rfl (hb hby d7_55)
  have f67 := ((((f47.other W50 (Ne.symm k1_n_an_sa)).other W52 (Ne.symm k1_n_ob_sa)).other W64 (Ne.symm k1_n_as_sa)).other W66 (Ne.symm k1_n_an_sa))
  have f68 := ((((f48.other W50 (Ne.symm k1_n_an_ca)).other W52 (Ne.symm k1_n_ob_ca)).other W64 (Ne.symm k1_n_as_ca)).other W66 (Ne.symm k1_n_an_ca))
  have Z66 : n0 ≤ h66.size := Nat.le_trans Z64 (Keep.of_wr W66).1
  have N66 := Fr.snoc X66 N64 k1_g_an
  have K66 := K64.wr W66 (Or.inl (List.mem_of_getElem? (i := 1) rfl))
  obtain ⟨T69, X69, e69, st69⟩ := getF X66 hx hZ hown (host := "") (Or.inl (hw _ (List.mem_of_getElem? (i := 40) rfl))) Via.refl e66 ((f56.other W64 (Or.inl k1_n_ob_as)).other W66 (Or.inl k1_n_ob_an)) (g := (mkF m 58 #[.val (.ref ob), .val (.ref sa), .val (.ref ca), .val (.int (3 : Int32)), .val (.int (fl_s_3 zn gs gc))] [(.ref ob), (.ref ob)])) rfl rfl (hb hby d7_58)
  obtain ⟨T70, h70, X70, e70, W70, st70⟩ := putF X69 hx hZ hown (host := "") (Or.inl (hw _ (List.mem_of_getElem? (i := 40) rfl))) Via.refl e69 ((f56.other W64 (Or.inl k1_n_ob_as)).other W66 (Or.inl k1_n_ob_an)) ((((((((((((k1_0.wr W2).wr W13).wr W15).wr W17).wr W30).wr W33).wr W35).wr W46).wr W50).wr W52).wr W64).wr W66) (Or.inl (hw _ (List.mem_of_getElem? (i := 41) rfl))) (hw _ (List.mem_of_getElem? (i := 11) rfl)) (ty := .long) (by decide) rfl rfl (g := (mkF m 65 #[.val (.ref ob), .val (.ref sa), .val (.ref ca), .val (.int (3 : Int32)), .val (.int (fl_s_3 zn gs gc))] [(.long (((((0 : Int64) + ((fl_s zn gs gc).toInt64)) + ((fl_s_1 zn gs gc).toInt64)) + ((fl_s_2 zn gs gc).toInt64)) + ((fl_s_3 zn gs gc).toInt64))), (.ref ob)])) rfl rfl (hb hby d7_65)
  have f71 := (((f53.other W64 (Or.inl k1_n_ob_as)).other W66 (Or.inl k1_n_ob_an)).other W70 (Or.inr (slot_ne (Or.inr (hw _ (List.mem_of_getElem? (i := 21) rfl))) (Or.inl (hw _ (List.mem_of_getElem? (i := 41) rfl))) (by decide) (t := (.array .long)) (t' := .long) (by decide) (by decide))))
  have f72 := (((f54.other W64 (Or.inl k1_n_ob_as)).other W66 (Or.inl k1_n_ob_an)).other W70 (Or.inr (slot_ne (Or.inr (hw _ (List.mem_of_getElem? (i := 23) rfl))) (Or.inl (hw _ (List.mem_of_getElem? (i := 41) rfl))) (by decide) (t := (.array .int)) (t' := .long) (by decide) (by decide))))
  have f73 := (((f55.other W64 (Or.inl k1_n_ob_as)).other W66 (Or.inl k1_n_ob_an)).other W70 (Or.inr (slot_ne (Or.inr (hw _ (List.mem_of_getElem? (i := 34) rfl))) (Or.inl (hw _ (List.mem_of_getElem? (i := 41) rfl))) (by decide) (t := .int) (t' := .long) (by decide) (by decide))))
  have Z70 : n0 ≤ h70.size := Nat.le_trans Z66 (Keep.of_wr W70).1
  have N70 := Fr.snoc X70 N66 k1_g_ob
  have K70 := K66.wr W70 (Or.inl (List.mem_of_getElem? (i := 0) rfl))
  obtain ⟨T74, X74, e74, st74⟩ := getF X70 hx hZ hown (host := "") (Or.inl (hw _ (List.mem_of_getElem? (i := 22) rfl))) Via.refl e70 f72 (g := (mkF m 9 #[.val (.ref ob), .val (.ref sa), .val (.ref ca), .val (.int (4 : Int32)), .val (.int (fl_s_3 zn gs gc))] [(.ref ob), (.int (4 : Int32))])) rfl rfl (hb hby d7_9)
  have pre75 : ∀ t, Steps p.tables e below (T74.setTop (mkF m 19 #[.val (.ref ob), .val (.ref sa), .val (.ref ca), .val (.int (4 : Int32)), .val (.int (fl_s_3 zn gs gc))] [(.int zn), (.int (4 : Int32))])) t → Steps p.tables e below (s₁.setTop (entryFrame m #[(.ref ob), (.ref sa), (.ref ca)] 5)) t := by
    intro t k
    refine pre59 t ?_
    show Steps p.tables e below (T57.setTop (mkF m 35 #[.val (.ref ob), .val (.ref sa), .val (.ref ca), .val (.int (3 : Int32)), .val (.int (fl_s_2 zn gs gc))] [(.int (if (3 : Int32) < zn then (if (gc (3 : Int32)) = (0 : Int32) then (0 : Int32) else (gs (3 : Int32))) else (0 : Int32)))])) _
    refine XS.istore X57.here hx rfl (hb hby d7_35) rfl (l' := #[.val (.ref ob), .val (.ref sa), .val (.ref ca), .val (.int (3 : Int32)), .val (.int (fl_s_3 zn gs gc))]) rfl ?_
    show Steps p.tables e below (T57.setTop (mkF m 37 #[.val (.ref ob), .val (.ref sa), .val (.ref ca), .val (.int (3 : Int32)), .val (.int (fl_s_3 zn gs gc))] [])) _
    refine XS.aloadN X57.here hx rfl (hb hby d7_37) rfl rfl ?_
    show Steps p.tables e below (T57.setTop (mkF m 38 #[.val (.ref ob), .val (.ref sa), .val (.ref ca), .val (.int (3 : Int32)), .val (.int (fl_s_3 zn gs gc))] [(.ref ob)])) _
    refine st63 _ ?_
    show Steps p.tables e below (T63.setTop (mkF m 41 #[.val (.ref ob), .val (.ref sa), .val (.ref ca), .val (.int (3 : Int32)), .val (.int (fl_s_3 zn gs gc))] [(.ref as)])) _
    refine XS.iloadN X63.here hx rfl (hb hby d7_41) rfl ?_
    show Steps p.tables e below (T63.setTop (mkF m 42 #[.val (.ref ob), .val (.ref sa), .val (.ref ca), .val (.int (3 : Int32)), .val (.int (fl_s_3 zn gs gc))] [(.int (3 : Int32)), (.ref as)])) _
    refine XS.iload X63.here hx rfl (hb hby d7_42) rfl ?_
    show Steps p.tables e below (T63.setTop (mkF m 44 #[.val (.ref ob), .val (.ref sa), .val (.ref ca), .val (.int (3 : Int32)), .val (.int (fl_s_3 zn gs gc))] [(.int (fl_s_3 zn gs gc)), (.int (3 : Int32)), (.ref as)])) _
    refine st64 _ ?_
    show Steps p.tables e below (T64.setTop (mkF m 45 #[.val (.ref ob), .val (.ref sa), .val (.ref ca), .val (.int (3 : Int32)), .val (.int (fl_s_3 zn gs gc))] [])) _
    refine XS.aloadN X64.here hx rfl (hb hby d7_45) rfl rfl ?_
    show Steps p.tables e below (T64.setTop (mkF m 46 #[.val (.ref ob), .val (.ref sa), .val (.ref ca), .val (.int (3 : Int32)), .val (.int (fl_s_3 zn gs gc))] [(.ref ob)])) _
    refine st65 _ ?_
    show Steps p.tables e below (T65.setTop (mkF m 49 #[.val (.ref ob), .val (.ref sa), .val (.ref ca), .val (.int (3 : Int32)), .val (.int (fl_s_3 zn gs gc))] [(.ref an)])) _
    refine XS.iloadN X65.here hx rfl (hb hby d7_49) rfl ?_
    show Steps p.tables e below (T65.setTop (mkF m 50 #[.val (.ref ob), .val (.ref sa), .val (.ref ca), .val (.int (3 : Int32)), .val (.int (fl_s_3 zn gs gc))] [(.int (3 : Int32)), (.ref an)])) _
    refine XS.iconst X65.here hx rfl (hb hby d7_50) ?_
    show Steps p.tables e below (T65.setTop (mkF m 51 #[.val (.ref ob), .val (.ref sa), .val (.ref ca), .val (.int (3 : Int32)), .val (.int (fl_s_3 zn gs gc))] [(.int (1 : Int32)), (.int (3 : Int32)), (.ref an)])) _
    refine XS.iadd X65.here hx rfl (hb hby d7_51) rfl ?_
    show Steps p.tables e below (T65.setTop (mkF m 52 #[.val (.ref ob), .val (.ref sa), .val (.ref ca), .val (.int (3 : Int32)), .val (.int (fl_s_3 zn gs gc))] [(.int (4 : Int32)), (.ref an)])) _
    refine XS.iload X65.here hx rfl (hb hby d7_52) rfl ?_
    show Steps p.tables e below (T65.setTop (mkF m 54 #[.val (.ref ob), .val (.ref sa), .val (.ref ca), .val (.int (3 : Int32)), .val (.int (fl_s_3 zn gs gc))] [(.int (fl_s_3 zn gs gc)), (.int (4 : Int32)), (.ref an)])) _
    refine XS.i2l X65.here hx rfl (hb hby d7_54) rfl ?_
    show Steps p.tables e below (T65.setTop (mkF m 55 #[.val (.ref ob), .val (.ref sa), .val (.ref ca), .val (.int (3 : Int32)), .val (.int (fl_s_3 zn gs gc))] [(.long ((fl_s_3 zn gs gc).toInt64)), (.int (4 : Int32)), (.ref an)])) _
    refine st66 _ ?_
    show Steps p.tables e below (T66.setTop (mkF m 56 #[.val (.ref ob), .val (.ref sa), .val (.ref ca), .val (.int (3 : Int32)), .val (.int (fl_s_3 zn gs gc))] [])) _
    refine XS.aloadN X66.here hx rfl (hb hby d7_56) rfl rfl ?_
    show Steps p.tables e below (T66.setTop (mkF m 57 #[.val (.ref ob), .val (.ref sa), .val (.ref ca), .val (.int (3 : Int32)), .val (.int (fl_s_3 zn gs gc))] [(.ref ob)])) _
    refine XS.dup X66.here hx rfl (hb hby d7_57) rfl rfl ?_
    show Steps p.tables e below (T66.setTop (mkF m 58 #[.val (.ref ob), .val (.ref sa), .val (.ref ca), .val (.int (3 : Int32)), .val (.int (fl_s_3 zn gs gc))] [(.ref ob), (.ref ob)])) _
    refine st69 _ ?_
    show Steps p.tables e below (T69.setTop (mkF m 61 #[.val (.ref ob), .val (.ref sa), .val (.ref ca), .val (.int (3 : Int32)), .val (.int (fl_s_3 zn gs gc))] [(.long ((((0 : Int64) + ((fl_s zn gs gc).toInt64)) + ((fl_s_1 zn gs gc).toInt64)) + ((fl_s_2 zn gs gc).toInt64))), (.ref ob)])) _
    refine XS.iload X69.here hx rfl (hb hby d7_61) rfl ?_
    show Steps p.tables e below (T69.setTop (mkF m 63 #[.val (.ref ob), .val (.ref sa), .val (.ref ca), .val (.int (3 : Int32)), .val (.int (fl_s_3 zn gs gc))] [(.int (fl_s_3 zn gs gc)), (.long ((((0 : Int64) + ((fl_s zn gs gc).toInt64)) + ((fl_s_1 zn gs gc).toInt64)) + ((fl_s_2 zn gs gc).toInt64))), (.ref ob)])) _
    refine XS.i2l X69.here hx rfl (hb hby d7_63) rfl ?_
    show Steps p.tables e below (T69.setTop (mkF m 64 #[.val (.ref ob), .val (.ref sa), .val (.ref ca), .val (.int (3 : Int32)), .val (.int (fl_s_3 zn gs gc))] [(.long ((fl_s_3 zn gs gc).toInt64)), (.long ((((0 : Int64) + ((fl_s zn gs gc).toInt64)) + ((fl_s_1 zn gs gc).toInt64)) + ((fl_s_2 zn gs gc).toInt64))), (.ref ob)])) _
    refine XS.ladd X69.here hx rfl (hb hby d7_64) rfl ?_
    show Steps p.tables e below (T69.setTop (mkF m 65 #[.val (.ref ob), .val (.ref sa), .val (.ref ca), .val (.int (3 : Int32)), .val (.int (fl_s_3 zn gs gc))] [(.long (((((0 : Int64) + ((fl_s zn gs gc).toInt64)) + ((fl_s_1 zn gs gc).toInt64)) + ((fl_s_2 zn gs gc).toInt64)) + ((fl_s_3 zn gs gc).toInt64))), (.ref ob)])) _
    refine st70 _ ?_
    show Steps p.tables e below (T70.setTop (mkF m 68 #[.val (.ref ob), .val (.ref sa), .val (.ref ca), .val (.int (3 : Int32)), .val (.int (fl_s_3 zn gs gc))] [])) _
    refine XS.iinc X70.here hx rfl (hb hby d7_68) rfl (l' := #[.val (.ref ob), .val (.ref sa), .val (.ref ca), .val (.int (4 : Int32)), .val (.int (fl_s_3 zn gs gc))]) rfl ?_
    show Steps p.tables e below (T70.setTop (mkF m 71 #[.val (.ref ob), .val (.ref sa), .val (.ref ca), .val (.int (4 : Int32)), .val (.int (fl_s_3 zn gs gc))] [])) _
    refine XS.goto X70.here hx rfl (pc0 := 71) (pc' := 7) rfl (hb hby d7_71) (by decide) (by decide) ?_
    show Steps p.tables e below (T70.setTop (mkF m 7 #[.val (.ref ob), .val (.ref sa), .val (.ref ca), .val (.int (4 : Int32)), .val (.int (fl_s_3 zn gs gc))] [])) _
    refine XS.iloadN X70.here hx rfl (hb hby d7_7) rfl ?_
    show Steps p.tables e below (T70.setTop (mkF m 8 #[.val (.ref ob), .val (.ref sa), .val (.ref ca), .val (.int (4 : Int32)), .val (.int (fl_s_3 zn gs gc))] [(.int (4 : Int32))])) _
    refine XS.aloadN X70.here hx rfl (hb hby d7_8) rfl rfl ?_
    show Steps p.tables e below (T70.setTop (mkF m 9 #[.val (.ref ob), .val (.ref sa), .val (.ref ca), .val (.int (4 : Int32)), .val (.int (fl_s_3 zn gs gc))] [(.ref ob), (.int (4 : Int32))])) _
    refine st74 _ ?_
    show Steps p.tables e below (T74.setTop (mkF m 12 #[.val (.ref ob), .val (.ref sa), .val (.ref ca), .val (.int (4 : Int32)), .val (.int (fl_s_3 zn gs gc))] [(.ref as), (.int (4 : Int32))])) _
    refine lnG X74 hx hZ e74 ((V64.other W66 (Ne.symm k1_n_an_as)).other W70 (Ne.symm k1_n_ob_as)) (g := (mkF m 12 #[.val (.ref ob), .val (.ref sa), .val (.ref ca), .val (.int (4 : Int32)), .val (.int (fl_s_3 zn gs gc))] [(.ref as), (.int (4 : Int32))])) rfl rfl (hb hby d7_12) _ ?_
    show Steps p.tables e below (T74.setTop (mkF m 13 #[.val (.ref ob), .val (.ref sa), .val (.ref ca), .val (.int (4 : Int32)), .val (.int (fl_s_3 zn gs gc))] [(.int (5 : Int32)), (.int (4 : Int32))])) _
    refine XS.icmpNo X74.here hx rfl (hb hby d7_13) rfl (tlt (by decide)).2.1 ?_
    show Steps p.tables e below (T74.setTop (mkF m 16 #[.val (.ref ob), .val (.ref sa), .val (.ref ca), .val (.int (4 : Int32)), .val (.int (fl_s_3 zn gs gc))] [])) _
    refine XS.iloadN X74.here hx rfl (hb hby d7_16) rfl ?_
    show Steps p.tables e below (T74.setTop (mkF m 17 #[.val (.ref ob), .val (.ref sa), .val (.ref ca), .val (.int (4 : Int32)), .val (.int (fl_s_3 zn gs gc))] [(.int (4 : Int32))])) _
    refine XS.aloadN X74.here hx rfl (hb hby d7_17) rfl rfl ?_
    show Steps p.tables e below (T74.setTop (mkF m 18 #[.val (.ref ob), .val (.ref sa), .val (.ref ca), .val (.int (4 : Int32)), .val (.int (fl_s_3 zn gs gc))] [(.ref ca), (.int (4 : Int32))])) _
    refine lnG X74 hx hZ e74 (f68.other W70 (Ne.symm k1_n_ob_ca)) (g := (mkF m 18 #[.val (.ref ob), .val (.ref sa), .val (.ref ca), .val (.int (4 : Int32)), .val (.int (fl_s_3 zn gs gc))] [(.ref ca), (.int (4 : Int32))])) rfl rfl (hb hby d7_18) _ ?_
    exact k
  have pre76 : ∀ t, Steps p.tables e below (T74.setTop (mkF m 35 #[.val (.ref ob), .val (.ref sa), .val (.ref ca), .val (.int (4 : Int32)), .val (.int (fl_s_3 zn gs gc))] [(.int (if (4 : Int32) < zn then (if (gc (4 : Int32)) = (0 : Int32) then (0 : Int32) else (gs (4 : Int32))) else (0 : Int32)))])) t → Steps p.tables e below (s₁.setTop (entryFrame m #[(.ref ob), (.ref sa), (.ref ca)] 5)) t := by
    intro t k
    refine pre75 t ?_
    have k : ∀ (v1 : Int32), v1 = (if (4 : Int32) < zn then (if (gc (4 : Int32)) = (0 : Int32) then (0 : Int32) else (gs (4 : Int32))) else (0 : Int32)) → Steps p.tables e below (T74.setTop (mkF m 35 #[.val (.ref ob), .val (.ref sa), .val (.ref ca), .val (.int (4 : Int32)), .val (.int (fl_s_3 zn gs gc))] [(.int v1)])) t := fun v1 hv1 => by subst hv1; exact k
    have nd77 : (∀ (v1 : Int32), v1 = (0 : Int32) → Steps p.tables e below (T74.setTop (mkF m 35 #[.val (.ref ob), .val (.ref sa), .val (.ref ca), .val (.int (4 : Int32)), .val (.int (fl_s_3 zn gs gc))] [(.int v1)])) t) → Steps p.tables e below (T74.setTop (mkF m 34 #[.val (.ref ob), .val (.ref sa), .val (.ref ca), .val (.int (4 : Int32)), .val (.int (fl_s_3 zn gs gc))] [])) t := by
      intro k
      show Steps p.tables e below (T74.setTop (mkF m 34 #[.val (.ref ob), .val (.ref sa), .val (.ref ca), .val (.int (4 : Int32)), .val (.int (fl_s_3 zn gs gc))] [])) _
      refine XS.iconst X74.here hx rfl (hb hby d7_34) ?_
      exact k _ rfl
    show Steps p.tables e below (T74.setTop (mkF m 19 #[.val (.ref ob), .val (.ref sa), .val (.ref ca), .val (.int (4 : Int32)), .val (.int (fl_s_3 zn gs gc))] [(.int zn), (.int (4 : Int32))])) _
    by_cases hc78 : (4 : Int32) < zn
    · refine XS.icmpNo X74.here hx rfl (hb hby d7_19) rfl (tlt hc78).2.1 ?_
      have k : ∀ (v1 : Int32), v1 = (if (gc (4 : Int32)) = (0 : Int32) then (0 : Int32) else (gs (4 : Int32))) → Steps p.tables e below (T74.setTop (mkF m 35 #[.val (.ref ob), .val (.ref sa), .val (.ref ca), .val (.int (4 : Int32)), .val (.int (fl_s_3 zn gs gc))] [(.int v1)])) t := fun v1 hv1 => k v1 (hv1.trans (if_pos hc78).symm)
      show Steps p.tables e below (T74.setTop (mkF m 22 #[.val (.ref ob), .val (.ref sa), .val (.ref ca), .val (.int (4 : Int32)), .val (.int (fl_s_3 zn gs gc))] [])) _
      refine XS.aloadN X74.here hx rfl (hb hby d7_22) rfl rfl ?_
      show Steps p.tables e below (T74.setTop (mkF m 23 #[.val (.ref ob), .val (.ref sa), .val (.ref ca), .val (.int (4 : Int32)), .val (.int (fl_s_3 zn gs gc))] [(.ref ca)])) _
      refine XS.iloadN X74.here hx rfl (hb hby d7_23) rfl ?_
      show Steps p.tables e below (T74.setTop (mkF m 24 #[.val (.ref ob), .val (.ref sa), .val (.ref ca), .val (.int (4 : Int32)), .val (.int (fl_s_3 zn gs gc))] [(.int (4 : Int32)), (.ref ca)])) _
      refine rdZ X74 hx hZ e74 (f68.other W70 (Ne.symm k1_n_ob_ca)) (j := (4 : Int32)) ⟨by decide, by assumption⟩ rfl (g := (mkF m 24 #[.val (.ref ob), .val (.ref sa), .val (.ref ca), .val (.int (4 : Int32)), .val (.int (fl_s_3 zn gs gc))] [(.int (4 : Int32)), (.ref ca)])) rfl rfl (hb hby d7_24) _ ?_
      show Steps p.tables e below (T74.setTop (mkF m 25 #[.val (.ref ob), .val (.ref sa), .val (.ref ca), .val (.int (4 : Int32)), .val (.int (fl_s_3 zn gs gc))] [(.int (gc (4 : Int32)))])) _
      by_cases hc79 : (gc (4 : Int32)) = (0 : Int32)
      · refine XS.ifYes X74.here hx rfl (pc0 := 25) (pc' := 34) rfl (hb hby d7_25) rfl ((if0 _ _).trans (teq hc79).1) (by decide) (by decide) ?_
        have k : ∀ (v1 : Int32), v1 = (0 : Int32) → Steps p.tables e below (T74.setTop (mkF m 35 #[.val (.ref ob), .val (.ref sa), .val (.ref ca), .val (.int (4 : Int32)), .val (.int (fl_s_3 zn gs gc))] [(.int v1)])) t := fun v1 hv1 => k v1 (hv1.trans (if_pos hc79).symm)
        exact nd77 k
      · refine XS.ifNo X74.here hx rfl (hb hby d7_25) rfl ((if0 _ _).trans (feq hc79).1) ?_
        have k : ∀ (v1 : Int32), v1 = (gs (4 : Int32)) → Steps p.tables e below (T74.setTop (mkF m 35 #[.val (.ref ob), .val (.ref sa), .val (.ref ca), .val (.int (4 : Int32)), .val (.int (fl_s_3 zn gs gc))] [(.int v1)])) t := fun v1 hv1 => k v1 (hv1.trans (if_neg hc79).symm)
        show Steps p.tables e below (T74.setTop (mkF m 28 #[.val (.ref ob), .val (.ref sa), .val (.ref ca), .val (.int (4 : Int32)), .val (.int (fl_s_3 zn gs gc))] [])) _
        refine XS.aloadN X74.here hx rfl (hb hby d7_28) rfl rfl ?_
        show Steps p.tables e below (T74.setTop (mkF m 29 #[.val (.ref ob), .val (.ref sa), .val (.ref ca), .val (.int (4 : Int32)), .val (.int (fl_s_3 zn gs gc))] [(.ref sa)])) _
        refine XS.iloadN X74.here hx rfl (hb hby d7_29) rfl ?_
        show Steps p.tables e below (T74.setTop (mkF m 30 #[.val (.ref ob), .val (.ref sa), .val (.ref ca), .val (.int (4 : Int32)), .val (.int (fl_s_3 zn gs gc))] [(.int (4 : Int32)), (.ref sa)])) _
        refine rdI X74 hx hZ e74 (f67.other W70 (Ne.symm k1_n_ob_sa)) (j := (4 : Int32)) ⟨by decide, by assumption⟩ rfl (g := (mkF m 30 #[.val (.ref ob), .val (.ref sa), .val (.ref ca), .val (.int (4 : Int32)), .val (.int (fl_s_3 zn gs gc))] [(.int (4 : Int32)), (.ref sa)])) rfl rfl (hb hby d7_30) _ ?_
        show Steps p.tables e below (T74.setTop (mkF m 31 #[.val (.ref ob), .val (.ref sa), .val (.ref ca), .val (.int (4 : Int32)), .val (.int (fl_s_3 zn gs gc))] [(.int (gs (4 : Int32)))])) _
        refine XS.goto X74.here hx rfl (pc0 := 31) (pc' := 35) rfl (hb hby d7_31) (by decide) (by decide) ?_
        exact k _ rfl
    · refine XS.icmpYes X74.here hx rfl (pc0 := 19) (pc' := 34) rfl (hb hby d7_19) rfl (flt hc78).2.1 (by decide) (by decide) ?_
      have k : ∀ (v1 : Int32), v1 = (0 : Int32) → Steps p.tables e below (T74.setTop (mkF m 35 #[.val (.ref ob), .val (.ref sa), .val (.ref ca), .val (.int (4 : Int32)), .val (.int (fl_s_3 zn gs gc))] [(.int v1)])) t := fun v1 hv1 => k v1 (hv1.trans (if_neg hc78).symm)
      exact nd77 k
  obtain ⟨T80, X80, e80, st80⟩ := getF X74 hx hZ hown (host := "") (Or.inl (hw _ (List.mem_of_getElem? (i := 22) rfl))) Via.refl e74 f72 (g := (mkF m 38 #[.val (.ref ob), .val (.ref sa), .val (.ref ca), .val (.int (4 : Int32)), .val (.int (fl_s_4 zn gs gc))] [(.ref ob)])) rfl rfl (hb hby d7_38)
  obtain ⟨T81, h81, X81, e81, W81, V81, st81⟩ := wrI X80 hx hZ e80 ((V64.other W66 (Ne.symm k1_n_an_as)).other W70 (Ne.symm k1_n_ob_as)) (j := (4 : Int32)) ⟨by decide, by decide⟩  (g := (mkF m 44 #[.val (.ref ob), .val (.ref sa), .val (.ref ca), .val (.int (4 : Int32)), .val (.int (fl_s_4 zn gs gc))] [(.int (fl_s_4 zn gs gc)), (.int (4 : Int32)), (.ref as)])) rfl rfl (hb hby d7_44)
  have f82 := ((((((((((((((k1_0.wr W2).wr W13).wr W15).wr W17).wr W30).wr W33).wr W35).wr W46).wr W50).wr W52).wr W64).wr W66).wr W70).wr W81)
  have Z81 : n0 ≤ h81.size := Nat.le_trans Z70 (Keep.of_wr W81).1
  have N81 := Fr.snoc X81 N70 k1_g_as
  have K81 := K70.wr W81 (Or.inl (List.mem_of_getElem? (i := 2) rfl))
  obtain ⟨T83, X83, e83, st83⟩ := getF X81 hx hZ hown (host := "") (Or.inl (hw _ (List.mem_of_getElem? (i := 20) rfl))) Via.refl e81 (f71.other W81 (Or.inl k1_n_ob_as)) (g := (mkF m 46 #[.val (.ref ob), .val (.ref sa), .val (.ref ca), .val (.int (4 : Int32)), .val (.int (fl_s_4 zn gs gc))] [(.ref ob)])) rfl rfl (hb hby d7_46)
  obtain ⟨T84, h84, X84, e84, W84, V84, st84⟩ := wrJ X83 hx hZ e83 ((V66.other W70 (Ne.symm k1_n_ob_an)).other W81 k1_n_an_as) (j := (5 : Int32)) ⟨by decide, by decide⟩  (g := (mkF m 55 #[.val (.ref ob), .val (.ref sa), .val (.ref ca), .val (.int (4 : Int32)), .val (.int (fl_s_4 zn gs gc))] [(.long ((fl_s_4 zn gs gc).toInt64)), (.int (5 : Int32)), (.ref an)])) rfl rfl (hb hby d7_55)
  have f85 := (((((f56.other W64 (Or.inl k1_n_ob_as)).other W66 (Or.inl k1_n_ob_an)).same W70).other W81 (Or.inl k1_n_ob_as)).other W84 (Or.inl k1_n_ob_an))
  have Z84 : n0 ≤ h84.size := Nat.le_trans Z81 (Keep.of_wr W84).1
  have N84 := Fr.snoc X84 N81 k1_g_an
  have K84 := K81.wr W84 (Or.inl (List.mem_of_getElem? (i := 1) rfl))
  obtain ⟨T86, X86, e86, st86⟩ := getF X84 hx hZ hown (host := "") (Or.inl (hw _ (List.mem_of_getElem? (i := 40) rfl))) Via.refl e84 f85 (g := (mkF m 58 #[.val (.ref ob), .val (.ref sa), .val (.ref ca), .val (.int (4 : Int32)), .val (.int (fl_s_4 zn gs gc))] [(.ref ob), (.ref ob)])) rfl rfl (hb hby d7_58)
  obtain ⟨T87, h87, X87, e87, W87, st87⟩ := putF X86 hx hZ hown (host := "") (Or.inl (hw _ (List.mem_of_getElem? (i := 40) rfl))) Via.refl e86 f85 (f82.wr W84) (Or.inl (hw _ (List.mem_of_getElem? (i := 41) rfl))) (hw _ (List.mem_of_getElem? (i := 11) rfl)) (ty := .long) (by decide) rfl rfl (g := (mkF m 65 #[.val (.ref ob), .val (.ref sa), .val (.ref ca), .val (.int (4 : Int32)), .val (.int (fl_s_4 zn gs gc))] [(.long ((((((0 : Int64) + ((fl_s zn gs gc).toInt64)) + ((fl_s_1 zn gs gc).toInt64)) + ((fl_s_2 zn gs gc).toInt64)) + ((fl_s_3 zn gs gc).toInt64)) + ((fl_s_4 zn gs gc).toInt64))), (.ref ob)])) rfl rfl (hb hby d7_65)
  have f88 := (((f71.other W81 (Or.inl k1_n_ob_as)).other W84 (Or.inl k1_n_ob_an)).other W87 (Or.inr (slot_ne (Or.inr (hw _ (List.mem_of_getElem? (i := 21) rfl))) (Or.inl (hw _ (List.mem_of_getElem? (i := 41) rfl))) (by decide) (t := (.array .long)) (t' := .long) (by decide) (by decide))))
  have f89 := (((f72.other W81 (Or.inl k1_n_ob_as)).other W84 (Or.inl k1_n_ob_an)).other W87 (Or.inr (slot_ne (Or.inr (hw _ (List.mem_of_getElem? (i := 23) rfl))) (Or.inl (hw _ (List.mem_of_getElem? (i := 41) rfl))) (by decide) (t := (.array .int)) (t' := .long) (by decide) (by decide))))
  have f90 := (((f73.other W81 (Or.inl k1_n_ob_as)).other W84 (Or.inl k1_n_ob_an)).other W87 (Or.inr (slot_ne (Or.inr (hw _ (List.mem_of_getElem? (i := 34) rfl))) (Or.inl (hw _ (List.mem_of_getElem? (i := 41) rfl))) (by decide) (t := .int) (t' := .long) (by decide) (by decide))))
  have f91 := ((((f67.other W70 (Ne.symm k1_n_ob_sa)).other W81 (Ne.symm k1_n_as_sa)).other W84 (Ne.symm k1_n_an_sa)).other W87 (Ne.symm k1_n_ob_sa))
  have f92 := ((((f68.other W70 (Ne.symm k1_n_ob_ca)).other W81 (Ne.symm k1_n_as_ca)).other W84 (Ne.symm k1_n_an_ca)).other W87 (Ne.symm k1_n_ob_ca))
  have Z87 : n0 ≤ h87.size := Nat.le_trans Z84 (Keep.of_wr W87).1
  have N87 := Fr.snoc X87 N84 k1_g_ob
  have K87 := K84.wr W87 (Or.inl (List.mem_of_getElem? (i := 0) rfl))
  obtain ⟨T93, X93, e93, st93⟩ := getF X87 hx hZ hown (host := "") (Or.inl (hw _ (List.mem_of_getElem? (i := 22) rfl))) Via.refl e87 f89 (g := (mkF m 9 #[.val (.ref ob), .val (.ref sa), .val (.ref ca), .val (.int (5 : Int32)), .val (.int (fl_s_4 zn gs gc))] [(.ref ob), (.int (5 : Int32))])) rfl rfl (hb hby d7_9)
  obtain ⟨T94, X94, e94, st94⟩ := getF X93 hx hZ hown (host := "") (Or.inl (hw _ (List.mem_of_getElem? (i := 20) rfl))) Via.refl e93 f88 (g := (mkF m 78 #[.val (.ref ob), .val (.ref sa), .val (.ref ca), .val (.int (1 : Int32)), .val (.int (fl_s_4 zn gs gc))] [(.ref ob), (.int (1 : Int32))])) rfl rfl (hb hby d7_78)
  obtain ⟨T95, X95, e95, st95⟩ := getF X94 hx hZ hown (host := "") (Or.inl (hw _ (List.mem_of_getElem? (i := 20) rfl))) Via.refl e94 f88 (g := (mkF m 96 #[.val (.ref ob), .val (.ref sa), .val (.ref ca), .val (.int (1 : Int32)), .val (.int (2 : Int32))] [(.ref ob), (.int (2 : Int32))])) rfl rfl (hb hby d7_96)
  obtain ⟨T96, X96, e96, st96⟩ := getF X95 hx hZ hown (host := "") (Or.inl (hw _ (List.mem_of_getElem? (i := 20) rfl))) Via.refl e95 f88 (g := (mkF m 104 #[.val (.ref ob), .val (.ref sa), .val (.ref ca), .val (.int (1 : Int32)), .val (.int (2 : Int32))] [(.ref ob)])) rfl rfl (hb hby d7_104)
  obtain ⟨T97, X97, e97, st97⟩ := getF X96 hx hZ hown (host := "") (Or.inl (hw _ (List.mem_of_getElem? (i := 20) rfl))) Via.refl e96 f88 (g := (mkF m 112 #[.val (.ref ob), .val (.ref sa), .val (.ref ca), .val (.int (1 : Int32)), .val (.int (2 : Int32))] [(.ref ob), (.long ((fl_s_1 zn gs gc).toInt64)), (.int (2 : Int32)), (.ref an)])) rfl rfl (hb hby d7_112)
  obtain ⟨T98, h98, X98, e98, W98, V98, st98⟩ := wrJ X97 hx hZ e97 (V84.other W87 (Ne.symm k1_n_ob_an)) (j := (2 : Int32)) ⟨by decide, by decide⟩  (g := (mkF m 118 #[.val (.ref ob), .val (.ref sa), .val (.ref ca), .val (.int (1 : Int32)), .val (.int (2 : Int32))] [(.long (((fl_s_1 zn gs gc).toInt64) + ((fl_s zn gs gc).toInt64))), (.int (2 : Int32)), (.ref an)])) rfl rfl (hb hby d7_118)
  have Z98 : n0 ≤ h98.size := Nat.le_trans Z87 (Keep.of_wr W98).1
  have N98 := Fr.snoc X98 N87 k1_g_an
  have K98 := K87.wr W98 (Or.inl (List.mem_of_getElem? (i := 1) rfl))
  obtain ⟨T99, X99, e99, st99⟩ := getF X98 hx hZ hown (host := "") (Or.inl (hw _ (List.mem_of_getElem? (i := 20) rfl))) Via.refl e98 (f88.other W98 (Or.inl k1_n_ob_an)) (g := (mkF m 78 #[.val (.ref ob), .val (.ref sa), .val (.ref ca), .val (.int (2 : Int32)), .val (.int (2 : Int32))] [(.ref ob), (.int (2 : Int32))])) rfl rfl (hb hby d7_78)
  obtain ⟨T100, X100, e100, st100⟩ := getF X99 hx hZ hown (host := "") (Or.inl (hw _ (List.mem_of_getElem? (i := 20) rfl))) Via.refl e99 (f88.other W98 (Or.inl k1_n_ob_an)) (g := (mkF m 96 #[.val (.ref ob), .val (.ref sa), .val (.ref ca), .val (.int (2 : Int32)), .val (.int (4 : Int32))] [(.ref ob), (.int (4 : Int32))])) rfl rfl (hb hby d7_96)
  obtain ⟨T101, X101, e101, st101⟩ := getF X100 hx hZ hown (host := "") (Or.inl (hw _ (List.mem_of_getElem? (i := 20) rfl))) Via.refl e100 (f88.other W98 (Or.inl k1_n_ob_an)) (g := (mkF m 104 #[.val (.ref ob), .val (.ref sa), .val (.ref ca), .val (.int (2 : Int32)), .val (.int (4 : Int32))] [(.ref ob)])) rfl rfl (hb hby d7_104)
  obtain ⟨T102, X102, e102, st102⟩ := getF X101 hx hZ hown (host := "") (Or.inl (hw _ (List.mem_of_getElem? (i := 20) rfl))) Via.refl e101 (f88.other W98 (Or.inl k1_n_ob_an)) (g := (mkF m 112 #[.val (.ref ob), .val (.ref sa), .val (.ref ca), .val (.int (2 : Int32)), .val (.int (4 : Int32))] [(.ref ob), (.long ((fl_s_3 zn gs gc).toInt64)), (.int (4 : Int32)), (.ref an)])) rfl rfl (hb hby d7_112)
  obtain ⟨T103, h103, X103, e103, W103, V103, st103⟩ := wrJ X102 hx hZ e102 V98 (j := (4 : Int32)) ⟨by decide, by decide⟩  (g := (mkF m 118 #[.val (.ref ob), .val (.ref sa), .val (.ref ca), .val (.int (2 : Int32)), .val (.int (4 : Int32))] [(.long (((fl_s_3 zn gs gc).toInt64) + (((fl_s_1 zn gs gc).toInt64) + ((fl_s zn gs gc).toInt64)))), (.int (4 : Int32)), (.ref an)])) rfl rfl (hb hby d7_118)
  have f104 := ((((V81.other W84 (Ne.symm k1_n_an_as)).other W87 (Ne.symm k1_n_ob_as)).other W98 (Ne.symm k1_n_an_as)).other W103 (Ne.symm k1_n_an_as))
  have Z103 : n0 ≤ h103.size := Nat.le_trans Z98 (Keep.of_wr W103).1
  have N103 := Fr.snoc X103 N98 k1_g_an
  have K103 := K98.wr W103 (Or.inl (List.mem_of_getElem? (i := 1) rfl))
  obtain ⟨T105, X105, e105, st105⟩ := getF X103 hx hZ hown (host := "") (Or.inl (hw _ (List.mem_of_getElem? (i := 20) rfl))) Via.refl e103 ((f88.other W98 (Or.inl k1_n_ob_an)).other W103 (Or.inl k1_n_ob_an)) (g := (mkF m 78 #[.val (.ref ob), .val (.ref sa), .val (.ref ca), .val (.int (3 : Int32)), .val (.int (4 : Int32))] [(.ref ob), (.int (3 : Int32))])) rfl rfl (hb hby d7_78)
  obtain ⟨T106, X106, e106, st106⟩ := getF X105 hx hZ hown (host := "") (Or.inl (hw _ (List.mem_of_getElem? (i := 20) rfl))) Via.refl e105 ((f88.other W98 (Or.inl k1_n_ob_an)).other W103 (Or.inl k1_n_ob_an)) (g := (mkF m 96 #[.val (.ref ob), .val (.ref sa), .val (.ref ca), .val (.int (3 : Int32)), .val (.int (4 : Int32))] [(.ref ob), (.int (4 : Int32))])) rfl rfl (hb hby d7_96)
  obtain ⟨T107, X107, e107, st107⟩ := getF X106 hx hZ hown (host := "") (Or.inl (hw _ (List.mem_of_getElem? (i := 20) rfl))) Via.refl e106 ((f88.other W98 (Or.inl k1_n_ob_an)).other W103 (Or.inl k1_n_ob_an)) (g := (mkF m 104 #[.val (.ref ob), .val (.ref sa), .val (.ref ca), .val (.int (3 : Int32)), .val (.int (4 : Int32))] [(.ref ob)])) rfl rfl (hb hby d7_104)
  obtain ⟨T108, X108, e108, st108⟩ := getF X107 hx hZ hown (host := "") (Or.inl (hw _ (List.mem_of_getElem? (i := 20) rfl))) Via.refl e107 ((f88.other W98 (Or.inl k1_n_ob_an)).other W103 (Or.inl k1_n_ob_an)) (g := (mkF m 112 #[.val (.ref ob), .val (.ref sa), .val (.ref ca), .val (.int (3 : Int32)), .val (.int (4 : Int32))] [(.ref ob), (.long (((fl_s_3 zn gs gc).toInt64) + (((fl_s_1 zn gs gc).toInt64) + ((fl_s zn gs gc).toInt64)))), (.int (4 : Int32)), (.ref an)])) rfl rfl (hb hby d7_112)
  obtain ⟨T109, h109, X109, e109, W109, V109, st109⟩ := wrJ X108 hx hZ e108 V103 (j := (4 : Int32)) ⟨by decide, by decide⟩  (g := (mkF m 118 #[.val (.ref ob), .val (.ref sa), .val (.ref ca), .val (.int (3 : Int32)), .val (.int (4 : Int32))] [(.long ((((fl_s_3 zn gs gc).toInt64) + (((fl_s_1 zn gs gc).toInt64) + ((fl_s zn gs gc).toInt64))) + ((fl_s_2 zn gs gc).toInt64))), (.int (4 : Int32)), (.ref an)])) rfl rfl (hb hby d7_118)
  have Z109 : n0 ≤ h109.size := Nat.le_trans Z103 (Keep.of_wr W109).1
  have N109 := Fr.snoc X109 N103 k1_g_an
  have K109 := K103.wr W109 (Or.inl (List.mem_of_getElem? (i := 1) rfl))
  obtain ⟨T110, X110, e110, st110⟩ := getF X109 hx hZ hown (host := "") (Or.inl (hw _ (List.mem_of_getElem? (i := 20) rfl))) Via.refl e109 (((f88.other W98 (Or.inl k1_n_ob_an)).other W103 (Or.inl k1_n_ob_an)).other W109 (Or.inl k1_n_ob_an)) (g := (mkF m 78 #[.val (.ref ob), .val (.ref sa), .val (.ref ca), .val (.int (4 : Int32)), .val (.int (4 : Int32))] [(.ref ob), (.int (4 : Int32))])) rfl rfl (hb hby d7_78)
  obtain ⟨T111, X111, e111, st111⟩ := getF X110 hx hZ hown (host := "") (Or.inl (hw _ (List.mem_of_getElem? (i := 20) rfl))) Via.refl e110 (((f88.other W98 (Or.inl k1_n_ob_an)).other W103 (Or.inl k1_n_ob_an)).other W109 (Or.inl k1_n_ob_an)) (g := (mkF m 96 #[.val (.ref ob), .val (.ref sa), .val (.ref ca), .val (.int (4 : Int32)), .val (.int (8 : Int32))] [(.ref ob), (.int (8 : Int32))])) rfl rfl (hb hby d7_96)
  obtain ⟨T112, X112, e112, st112⟩ := getF X111 hx hZ hown (host := "") (Or.inl (hw _ (List.mem_of_getElem? (i := 20) rfl))) Via.refl e111 (((f88.other W98 (Or.inl k1_n_ob_an)).other W103 (Or.inl k1_n_ob_an)).other W109 (Or.inl k1_n_ob_an)) (g := (mkF m 78 #[.val (.ref ob), .val (.ref sa), .val (.ref ca), .val (.int (5 : Int32)), .val (.int (8 : Int32))] [(.ref ob), (.int (5 : Int32))])) rfl rfl (hb hby d7_78)
  obtain ⟨T113, X113, e113, st113⟩ := getF X112 hx hZ hown (host := "") (Or.inl (hw _ (List.mem_of_getElem? (i := 20) rfl))) Via.refl e112 (((f88.other W98 (Or.inl k1_n_ob_an)).other W103 (Or.inl k1_n_ob_an)).other W109 (Or.inl k1_n_ob_an)) (g := (mkF m 96 #[.val (.ref ob), .val (.ref sa), .val (.ref ca), .val (.int (5 : Int32)), .val (.int (6 : Int32))] [(.ref ob), (.int (6 : Int32))])) rfl rfl (hb hby d7_96)
  obtain ⟨T114, X114, e114, st114⟩ := getF X113 hx hZ hown (host := "") (Or.inl (hw _ (List.mem_of_getElem? (i := 20) rfl))) Via.refl e113 (((f88.other W98 (Or.inl k1_n_ob_an)).other W103 (Or.inl k1_n_ob_an)).other W109 (Or.inl k1_n_ob_an)) (g := (mkF m 78 #[.val (.ref ob), .val (.ref sa), .val (.ref ca), .val (.int (6 : Int32)), .val (.int (6 : Int32))] [(.ref ob), (.int (6 : Int32))])) rfl rfl (hb hby d7_78)
  have pre115 : ∀ t, Steps p.tables e below (T114.setTop (mkF m 125 #[.val (.ref ob), .val (.ref sa), .val (.ref ca), .val (.int (6 : Int32)), .val (.int (6 : Int32))] [])) t → Steps p.tables e below (s₁.setTop (entryFrame m #[(.ref ob), (.ref sa), (.ref ca)] 5)) t := by
    intro t k
    refine pre76 t ?_
    show Steps p.tables e below (T74.setTop (mkF m 35 #[.val (.ref ob), .val (.ref sa), .val (.ref ca), .val (.int (4 : Int32)), .val (.int (fl_s_3 zn gs gc))] [(.int (if (4 : Int32) < zn then (if (gc (4 : Int32)) = (0 : Int32) then (0 : Int32) else (gs (4 : Int32))) else (0 : Int32)))])) _
    refine XS.istore X74.here hx rfl (hb hby d7_35) rfl (l' := #[.val (.ref ob), .val (.ref sa), .val (.ref ca), .val (.int (4 : Int32)), .val (.int (fl_s_4 zn gs gc))]) rfl ?_
    show Steps p.tables e below (T74.setTop (mkF m 37 #[.val (.ref ob), .val (.ref sa), .val (.ref ca), .val (.int (4 : Int32)), .val (.int (fl_s_4 zn gs gc))] [])) _
    refine XS.aloadN X74.here hx rfl (hb hby d7_37) rfl rfl ?_
    show Steps p.tables e below (T74.setTop (mkF m 38 #[.val (.ref ob), .val (.ref sa), .val (.ref ca), .val (.int (4 : Int32)), .val (.int (fl_s_4 zn gs gc))] [(.ref ob)])) _
    refine st80 _ ?_
    show Steps p.tables e below (T80.setTop (mkF m 41 #[.val (.ref ob), .val (.ref sa), .val (.ref ca), .val (.int (4 : Int32)), .val (.int (fl_s_4 zn gs gc))] [(.ref as)])) _
    refine XS.iloadN X80.here hx rfl (hb hby d7_41) rfl ?_
    show Steps p.tables e below (T80.setTop (mkF m 42 #[.val (.ref ob), .val (.ref sa), .val (.ref ca), .val (.int (4 : Int32)), .val (.int (fl_s_4 zn gs gc))] [(.int (4 : Int32)), (.ref as)])) _
    refine XS.iload X80.here hx rfl (hb hby d7_42) rfl ?_
    show Steps p.tables e below (T80.setTop (mkF m 44 #[.val (.ref ob), .val (.ref sa), .val (.ref ca), .val (.int (4 : Int32)), .val (.int (fl_s_4 zn gs gc))] [(.int (fl_s_4 zn gs gc)), (.int (4 : Int32)), (.ref as)])) _
    refine st81 _ ?_
    show Steps p.tables e below (T81.setTop (mkF m 45 #[.val (.ref ob), .val (.ref sa), .val (.ref ca), .val (.int (4 : Int32)), .val (.int (fl_s_4 zn gs gc))] [])) _
    refine XS.aloadN X81.here hx rfl (hb hby d7_45) rfl rfl ?_
    show Steps p.tables e below (T81.setTop (mkF m 46 #[.val (.ref ob), .val (.ref sa), .val (.ref ca), .val (.int (4 : Int32)), .val (.int (fl_s_4 zn gs gc))] [(.ref ob)])) _
    refine st83 _ ?_
    show Steps p.tables e below (T83.setTop (mkF m 49 #[.val (.ref ob), .val (.ref sa), .val (.ref ca), .val (.int (4 : Int32)), .val (.int (fl_s_4 zn gs gc))] [(.ref an)])) _
    refine XS.iloadN X83.here hx rfl (hb hby d7_49) rfl ?_
    show Steps p.tables e below (T83.setTop (mkF m 50 #[.val (.ref ob), .val (.ref sa), .val (.ref ca), .val (.int (4 : Int32)), .val (.int (fl_s_4 zn gs gc))] [(.int (4 : Int32)), (.ref an)])) _
    refine XS.iconst X83.here hx rfl (hb hby d7_50) ?_
    show Steps p.tables e below (T83.setTop (mkF m 51 #[.val (.ref ob), .val (.ref sa), .val (.ref ca), .val (.int (4 : Int32)), .val (.int (fl_s_4 zn gs gc))] [(.int (1 : Int32)), (.int (4 : Int32)), (.ref an)])) _
    refine XS.iadd X83.here hx rfl (hb hby d7_51) rfl ?_
    show Steps p.tables e below (T83.setTop (mkF m 52 #[.val (.ref ob), .val (.ref sa), .val (.ref ca), .val (.int (4 : Int32)), .val (.int (fl_s_4 zn gs gc))] [(.int (5 : Int32)), (.ref an)])) _
    refine XS.iload X83.here hx rfl (hb hby d7_52) rfl ?_
    show Steps p.tables e below (T83.setTop (mkF m 54 #[.val (.ref ob), .val (.ref sa), .val (.ref ca), .val (.int (4 : Int32)), .val (.int (fl_s_4 zn gs gc))] [(.int (fl_s_4 zn gs gc)), (.int (5 : Int32)), (.ref an)])) _
    refine XS.i2l X83.here hx rfl (hb hby d7_54) rfl ?_
    show Steps p.tables e below (T83.setTop (mkF m 55 #[.val (.ref ob), .val (.ref sa), .val (.ref ca), .val (.int (4 : Int32)), .val (.int (fl_s_4 zn gs gc))] [(.long ((fl_s_4 zn gs gc).toInt64)), (.int (5 : Int32)), (.ref an)])) _
    refine st84 _ ?_
    show Steps p.tables e below (T84.setTop (mkF m 56 #[.val (.ref ob), .val (.ref sa), .val (.ref ca), .val (.int (4 : Int32)), .val (.int (fl_s_4 zn gs gc))] [])) _
    refine XS.aloadN X84.here hx rfl (hb hby d7_56) rfl rfl ?_
    show Steps p.tables e below (T84.setTop (mkF m 57 #[.val (.ref ob), .val (.ref sa), .val (.ref ca), .val (.int (4 : Int32)), .val (.int (fl_s_4 zn gs gc))] [(.ref ob)])) _
    refine XS.dup X84.here hx rfl (hb hby d7_57) rfl rfl ?_
    show Steps p.tables e below (T84.setTop (mkF m 58 #[.val (.ref ob), .val (.ref sa), .val (.ref ca), .val (.int (4 : Int32)), .val (.int (fl_s_4 zn gs gc))] [(.ref ob), (.ref ob)])) _
    refine st86 _ ?_
    show Steps p.tables e below (T86.setTop (mkF m 61 #[.val (.ref ob), .val (.ref sa), .val (.ref ca), .val (.int (4 : Int32)), .val (.int (fl_s_4 zn gs gc))] [(.long (((((0 : Int64) + ((fl_s zn gs gc).toInt64)) + ((fl_s_1 zn gs gc).toInt64)) + ((fl_s_2 zn gs gc).toInt64)) + ((fl_s_3 zn gs gc).toInt64))), (.ref ob)])) _
    refine XS.iload X86.here hx rfl (hb hby d7_61) rfl ?_
    show Steps p.tables e below (T86.setTop (mkF m 63 #[.val (.ref ob), .val (.ref sa), .val (.ref ca), .val (.int (4 : Int32)), .val (.int (fl_s_4 zn gs gc))] [(.int (fl_s_4 zn gs gc)), (.long (((((0 : Int64) + ((fl_s zn gs gc).toInt64)) + ((fl_s_1 zn gs gc).toInt64)) + ((fl_s_2 zn gs gc).toInt64)) + ((fl_s_3 zn gs gc).toInt64))), (.ref ob)])) _
    refine XS.i2l X86.here hx rfl (hb hby d7_63) rfl ?_
    show Steps p.tables e below (T86.setTop (mkF m 64 #[.val (.ref ob), .val (.ref sa), .val (.ref ca), .val (.int (4 : Int32)), .val (.int (fl_s_4 zn gs gc))] [(.long ((fl_s_4 zn gs gc).toInt64)), (.long (((((0 : Int64) + ((fl_s zn gs gc).toInt64)) + ((fl_s_1 zn gs gc).toInt64)) + ((fl_s_2 zn gs gc).toInt64)) + ((fl_s_3 zn gs gc).toInt64))), (.ref ob)])) _
    refine XS.ladd X86.here hx rfl (hb hby d7_64) rfl ?_
    show Steps p.tables e below (T86.setTop (mkF m 65 #[.val (.ref ob), .val (.ref sa), .val (.ref ca), .val (.int (4 : Int32)), .val (.int (fl_s_4 zn gs gc))] [(.long ((((((0 : Int64) + ((fl_s zn gs gc).toInt64)) + ((fl_s_1 zn gs gc).toInt64)) + ((fl_s_2 zn gs gc).toInt64)) + ((fl_s_3 zn gs gc).toInt64)) + ((fl_s_4 zn gs gc).toInt64))), (.ref ob)])) _
    refine st87 _ ?_
    show Steps p.tables e below (T87.setTop (mkF m 68 #[.val (.ref ob), .val (.ref sa), .val (.ref ca), .val (.int (4 : Int32)), .val (.int (fl_s_4 zn gs gc))] [])) _
    refine XS.iinc X87.here hx rfl (hb hby d7_68) rfl (l' := #[.val (.ref ob), .val (.ref sa), .val (.ref ca), .val (.int (5 : Int32)), .val (.int (fl_s_4 zn gs gc))]) rfl ?_
    show Steps p.tables e below (T87.setTop (mkF m 71 #[.val (.ref ob), .val (.ref sa), .val (.ref ca), .val (.int (5 : Int32)), .val (.int (fl_s_4 zn gs gc))] [])) _
    refine XS.goto X87.here hx rfl (pc0 := 71) (pc' := 7) rfl (hb hby d7_71) (by decide) (by decide) ?_
    show Steps p.tables e below (T87.setTop (mkF m 7 #[.val (.ref ob), .val (.ref sa), .val (.ref ca), .val (.int (5 : Int32)), .val (.int (fl_s_4 zn gs gc))] [])) _
    refine XS.iloadN X87.here hx rfl (hb hby d7_7) rfl ?_
    show Steps p.tables e below (T87.setTop (mkF m 8 #[.val (.ref ob), .val (.ref sa), .val (.ref ca), .val (.int (5 : Int32)), .val (.int (fl_s_4 zn gs gc))] [(.int (5 : Int32))])) _
    refine XS.aloadN X87.here hx rfl (hb hby d7_8) rfl rfl ?_
    show Steps p.tables e below (T87.setTop (mkF m 9 #[.val (.ref ob), .val (.ref sa), .val (.ref ca), .val (.int (5 : Int32)), .val (.int (fl_s_4 zn gs gc))] [(.ref ob), (.int (5 : Int32))])) _
    refine st93 _ ?_
    show Steps p.tables e below (T93.setTop (mkF m 12 #[.val (.ref ob), .val (.ref sa), .val (.ref ca), .val (.int (5 : Int32)), .val (.int (fl_s_4 zn gs gc))] [(.ref as), (.int (5 : Int32))])) _
    refine lnG X93 hx hZ e93 ((V81.other W84 (Ne.symm k1_n_an_as)).other W87 (Ne.symm k1_n_ob_as)) (g := (mkF m 12 #[.val (.ref ob), .val (.ref sa), .val (.ref ca), .val (.int (5 : Int32)), .val (.int (fl_s_4 zn gs gc))] [(.ref as), (.int (5 : Int32))])) rfl rfl (hb hby d7_12) _ ?_
    show Steps p.tables e below (T93.setTop (mkF m 13 #[.val (.ref ob), .val (.ref sa), .val (.ref ca), .val (.int (5 : Int32)), .val (.int (fl_s_4 zn gs gc))] [(.int (5 : Int32)), (.int (5 : Int32))])) _
    refine XS.icmpYes X93.here hx rfl (pc0 := 13) (pc' := 74) rfl (hb hby d7_13) rfl (flt (by decide)).2.1 (by decide) (by decide) ?_
    show Steps p.tables e below (T93.setTop (mkF m 74 #[.val (.ref ob), .val (.ref sa), .val (.ref ca), .val (.int (5 : Int32)), .val (.int (fl_s_4 zn gs gc))] [])) _
    refine XS.iconst X93.here hx rfl (hb hby d7_74) ?_
    show Steps p.tables e below (T93.setTop (mkF m 75 #[.val (.ref ob), .val (.ref sa), .val (.ref ca), .val (.int (5 : Int32)), .val (.int (fl_s_4 zn gs gc))] [(.int (1 : Int32))])) _
    refine XS.istoreN X93.here hx rfl (hb hby d7_75) rfl (l' := #[.val (.ref ob), .val (.ref sa), .val (.ref ca), .val (.int (1 : Int32)), .val (.int (fl_s_4 zn gs gc))]) rfl ?_
    show Steps p.tables e below (T93.setTop (mkF m 76 #[.val (.ref ob), .val (.ref sa), .val (.ref ca), .val (.int (1 : Int32)), .val (.int (fl_s_4 zn gs gc))] [])) _
    refine XS.iloadN X93.here hx rfl (hb hby d7_76) rfl ?_
    show Steps p.tables e below (T93.setTop (mkF m 77 #[.val (.ref ob), .val (.ref sa), .val (.ref ca), .val (.int (1 : Int32)), .val (.int (fl_s_4 zn gs gc))] [(.int (1 : Int32))])) _
    refine XS.aloadN X93.here hx rfl (hb hby d7_77) rfl rfl ?_
    show Steps p.tables e below (T93.setTop (mkF m 78 #[.val (.ref ob), .val (.ref sa), .val (.ref ca), .val (.int (1 : Int32)), .val (.int (fl_s_4 zn gs gc))] [(.ref ob), (.int (1 : Int32))])) _
    refine st94 _ ?_
    show Steps p.tables e below (T94.setTop (mkF m 81 #[.val (.ref ob), .val (.ref sa), .val (.ref ca), .val (.int (1 : Int32)), .val (.int (fl_s_4 zn gs gc))] [(.ref an), (.int (1 : Int32))])) _
    refine lnG X94 hx hZ e94 (V84.other W87 (Ne.symm k1_n_ob_an)) (g := (mkF m 81 #[.val (.ref ob), .val (.ref sa), .val (.ref ca), .val (.int (1 : Int32)), .val (.int (fl_s_4 zn gs gc))] [(.ref an), (.int (1 : Int32))])) rfl rfl (hb hby d7_81) _ ?_
    show Steps p.tables e below (T94.setTop (mkF m 82 #[.val (.ref ob), .val (.ref sa), .val (.ref ca), .val (.int (1 : Int32)), .val (.int (fl_s_4 zn gs gc))] [(.int (6 : Int32)), (.int (1 : Int32))])) _
    refine XS.icmpNo X94.here hx rfl (hb hby d7_82) rfl (tlt (by decide)).2.1 ?_
    show Steps p.tables e below (T94.setTop (mkF m 85 #[.val (.ref ob), .val (.ref sa), .val (.ref ca), .val (.int (1 : Int32)), .val (.int (fl_s_4 zn gs gc))] [])) _
    refine XS.iloadN X94.here hx rfl (hb hby d7_85) rfl ?_
    show Steps p.tables e below (T94.setTop (mkF m 86 #[.val (.ref ob), .val (.ref sa), .val (.ref ca), .val (.int (1 : Int32)), .val (.int (fl_s_4 zn gs gc))] [(.int (1 : Int32))])) _
    refine XS.iloadN X94.here hx rfl (hb hby d7_86) rfl ?_
    show Steps p.tables e below (T94.setTop (mkF m 87 #[.val (.ref ob), .val (.ref sa), .val (.ref ca), .val (.int (1 : Int32)), .val (.int (fl_s_4 zn gs gc))] [(.int (1 : Int32)), (.int (1 : Int32))])) _
    refine XS.iloadN X94.here hx rfl (hb hby d7_87) rfl ?_
    show Steps p.tables e below (T94.setTop (mkF m 88 #[.val (.ref ob), .val (.ref sa), .val (.ref ca), .val (.int (1 : Int32)), .val (.int (fl_s_4 zn gs gc))] [(.int (1 : Int32)), (.int (1 : Int32)), (.int (1 : Int32))])) _
    refine XS.ineg X94.here hx rfl (hb hby d7_88) rfl ?_
    show Steps p.tables e below (T94.setTop (mkF m 89 #[.val (.ref ob), .val (.ref sa), .val (.ref ca), .val (.int (1 : Int32)), .val (.int (fl_s_4 zn gs gc))] [(.int (-1 : Int32)), (.int (1 : Int32)), (.int (1 : Int32))])) _
    refine XS.iand X94.here hx rfl (hb hby d7_89) rfl ?_
    show Steps p.tables e below (T94.setTop (mkF m 90 #[.val (.ref ob), .val (.ref sa), .val (.ref ca), .val (.int (1 : Int32)), .val (.int (fl_s_4 zn gs gc))] [(.int (1 : Int32)), (.int (1 : Int32))])) _
    refine XS.iadd X94.here hx rfl (hb hby d7_90) rfl ?_
    show Steps p.tables e below (T94.setTop (mkF m 91 #[.val (.ref ob), .val (.ref sa), .val (.ref ca), .val (.int (1 : Int32)), .val (.int (fl_s_4 zn gs gc))] [(.int (2 : Int32))])) _
    refine XS.istore X94.here hx rfl (hb hby d7_91) rfl (l' := #[.val (.ref ob), .val (.ref sa), .val (.ref ca), .val (.int (1 : Int32)), .val (.int (2 : Int32))]) rfl ?_
    show Steps p.tables e below (T94.setTop (mkF m 93 #[.val (.ref ob), .val (.ref sa), .val (.ref ca), .val (.int (1 : Int32)), .val (.int (2 : Int32))] [])) _
    refine XS.iload X94.here hx rfl (hb hby d7_93) rfl ?_
    show Steps p.tables e below (T94.setTop (mkF m 95 #[.val (.ref ob), .val (.ref sa), .val (.ref ca), .val (.int (1 : Int32)), .val (.int (2 : Int32))] [(.int (2 : Int32))])) _
    refine XS.aloadN X94.here hx rfl (hb hby d7_95) rfl rfl ?_
    show Steps p.tables e below (T94.setTop (mkF m 96 #[.val (.ref ob), .val (.ref sa), .val (.ref ca), .val (.int (1 : Int32)), .val (.int (2 : Int32))] [(.ref ob), (.int (2 : Int32))])) _
    refine st95 _ ?_
    show Steps p.tables e below (T95.setTop (mkF m 99 #[.val (.ref ob), .val (.ref sa), .val (.ref ca), .val (.int (1 : Int32)), .val (.int (2 : Int32))] [(.ref an), (.int (2 : Int32))])) _
    refine lnG X95 hx hZ e95 (V84.other W87 (Ne.symm k1_n_ob_an)) (g := (mkF m 99 #[.val (.ref ob), .val (.ref sa), .val (.ref ca), .val (.int (1 : Int32)), .val (.int (2 : Int32))] [(.ref an), (.int (2 : Int32))])) rfl rfl (hb hby d7_99) _ ?_
    show Steps p.tables e below (T95.setTop (mkF m 100 #[.val (.ref ob), .val (.ref sa), .val (.ref ca), .val (.int (1 : Int32)), .val (.int (2 : Int32))] [(.int (6 : Int32)), (.int (2 : Int32))])) _
    refine XS.icmpNo X95.here hx rfl (hb hby d7_100) rfl (tlt (by decide)).2.1 ?_
    show Steps p.tables e below (T95.setTop (mkF m 103 #[.val (.ref ob), .val (.ref sa), .val (.ref ca), .val (.int (1 : Int32)), .val (.int (2 : Int32))] [])) _
    refine XS.aloadN X95.here hx rfl (hb hby d7_103) rfl rfl ?_
    show Steps p.tables e below (T95.setTop (mkF m 104 #[.val (.ref ob), .val (.ref sa), .val (.ref ca), .val (.int (1 : Int32)), .val (.int (2 : Int32))] [(.ref ob)])) _
    refine st96 _ ?_
    show Steps p.tables e below (T96.setTop (mkF m 107 #[.val (.ref ob), .val (.ref sa), .val (.ref ca), .val (.int (1 : Int32)), .val (.int (2 : Int32))] [(.ref an)])) _
    refine XS.iload X96.here hx rfl (hb hby d7_107) rfl ?_
    show Steps p.tables e below (T96.setTop (mkF m 109 #[.val (.ref ob), .val (.ref sa), .val (.ref ca), .val (.int (1 : Int32)), .val (.int (2 : Int32))] [(.int (2 : Int32)), (.ref an)])) _
    refine Jvm.Free.XT.dup2 X96.here hx rfl (hb hby d7_109) rfl rfl rfl ?_
    show Steps p.tables e below (T96.setTop (mkF m 110 #[.val (.ref ob), .val (.ref sa), .val (.ref ca), .val (.int (1 : Int32)), .val (.int (2 : Int32))] [(.int (2 : Int32)), (.ref an), (.int (2 : Int32)), (.ref an)])) _
    refine rdJ X96 hx hZ e96 (V84.other W87 (Ne.symm k1_n_ob_an)) (j := (2 : Int32)) ⟨by decide, by decide⟩ ((upA_miss (by decide)).trans ((upA_miss (by decide)).trans ((upA_miss (by decide)).trans upA_hit))) (g := (mkF m 110 #[.val (.ref ob), .val (.ref sa), .val (.ref ca), .val (.int (1 : Int32)), .val (.int (2 : Int32))] [(.int (2 : Int32)), (.ref an), (.int (2 : Int32)), (.ref an)])) rfl rfl (hb hby d7_110) _ ?_
    show Steps p.tables e below (T96.setTop (mkF m 111 #[.val (.ref ob), .val (.ref sa), .val (.ref ca), .val (.int (1 : Int32)), .val (.int (2 : Int32))] [(.long ((fl_s_1 zn gs gc).toInt64)), (.int (2 : Int32)), (.ref an)])) _
    refine XS.aloadN X96.here hx rfl (hb hby d7_111) rfl rfl ?_
    show Steps p.tables e below (T96.setTop (mkF m 112 #[.val (.ref ob), .val (.ref sa), .val (.ref ca), .val (.int (1 : Int32)), .val (.int (2 : Int32))] [(.ref ob), (.long ((fl_s_1 zn gs gc).toInt64)), (.int (2 : Int32)), (.ref an)])) _
    refine st97 _ ?_
    show Steps p.tables e below (T97.setTop (mkF m 115 #[.val (.ref ob), .val (.ref sa), .val (.ref ca), .val (.int (1 : Int32)), .val (.int (2 : Int32))] [(.ref an), (.long ((fl_s_1 zn gs gc).toInt64)), (.int (2 : Int32)), (.ref an)])) _
    refine XS.iloadN X97.here hx rfl (hb hby d7_115) rfl ?_
    show Steps p.tables e below (T97.setTop (mkF m 116 #[.val (.ref ob), .val (.ref sa), .val (.ref ca), .val (.int (1 : Int32)), .val (.int (2 : Int32))] [(.int (1 : Int32)), (.ref an), (.long ((fl_s_1 zn gs gc).toInt64)), (.int (2 : Int32)), (.ref an)])) _
    refine rdJ X97 hx hZ e97 (V84.other W87 (Ne.symm k1_n_ob_an)) (j := (1 : Int32)) ⟨by decide, by decide⟩ ((upA_miss (by decide)).trans ((upA_miss (by decide)).trans ((upA_miss (by decide)).trans ((upA_miss (by decide)).trans upA_hit)))) (g := (mkF m 116 #[.val (.ref ob), .val (.ref sa), .val (.ref ca), .val (.int (1 : Int32)), .val (.int (2 : Int32))] [(.int (1 : Int32)), (.ref an), (.long ((fl_s_1 zn gs gc).toInt64)), (.int (2 : Int32)), (.ref an)])) rfl rfl (hb hby d7_116) _ ?_
    show Steps p.tables e below (T97.setTop (mkF m 117 #[.val (.ref ob), .val (.ref sa), .val (.ref ca), .val (.int (1 : Int32)), .val (.int (2 : Int32))] [(.long ((fl_s zn gs gc).toInt64)), (.long ((fl_s_1 zn gs gc).toInt64)), (.int (2 : Int32)), (.ref an)])) _
    refine XS.ladd X97.here hx rfl (hb hby d7_117) rfl ?_
    show Steps p.tables e below (T97.setTop (mkF m 118 #[.val (.ref ob), .val (.ref sa), .val (.ref ca), .val (.int (1 : Int32)), .val (.int (2 : Int32))] [(.long (((fl_s_1 zn gs gc).toInt64) + ((fl_s zn gs gc).toInt64))), (.int (2 : Int32)), (.ref an)])) _
    refine st98 _ ?_
    show Steps p.tables e below (T98.setTop (mkF m 119 #[.val (.ref ob), .val (.ref sa), .val (.ref ca), .val (.int (1 : Int32)), .val (.int (2 : Int32))] [])) _
    refine XS.iinc X98.here hx rfl (hb hby d7_119) rfl (l' := #[.val (.ref ob), .val (.ref sa), .val (.ref ca), .val (.int (2 : Int32)), .val (.int (2 : Int32))]) rfl ?_
    show Steps p.tables e below (T98.setTop (mkF m 122 #[.val (.ref ob), .val (.ref sa), .val (.ref ca), .val (.int (2 : Int32)), .val (.int (2 : Int32))] [])) _
    refine XS.goto X98.here hx rfl (pc0 := 122) (pc' := 76) rfl (hb hby d7_122) (by decide) (by decide) ?_
    show Steps p.tables e below (T98.setTop (mkF m 76 #[.val (.ref ob), .val (.ref sa), .val (.ref ca), .val (.int (2 : Int32)), .val (.int (2 : Int32))] [])) _
    refine XS.iloadN X98.here hx rfl (hb hby d7_76) rfl ?_
    show Steps p.tables e below (T98.setTop (mkF m 77 #[.val (.ref ob), .val (.ref sa), .val (.ref ca), .val (.int (2 : Int32)), .val (.int (2 : Int32))] [(.int (2 : Int32))])) _
    refine XS.aloadN X98.here hx rfl (hb hby d7_77) rfl rfl ?_
    show Steps p.tables e below (T98.setTop (mkF m 78 #[.val (.ref ob), .val (.ref sa), .val (.ref ca), .val (.int (2 : Int32)), .val (.int (2 : Int32))] [(.ref ob), (.int (2 : Int32))])) _
    refine st99 _ ?_
    show Steps p.tables e below (T99.setTop (mkF m 81 #[.val (.ref ob), .val (.ref sa), .val (.ref ca), .val (.int (2 : Int32)), .val (.int (2 : Int32))] [(.ref an), (.int (2 : Int32))])) _
    refine lnG X99 hx hZ e99 V98 (g := (mkF m 81 #[.val (.ref ob), .val (.ref sa), .val (.ref ca), .val (.int (2 : Int32)), .val (.int (2 : Int32))] [(.ref an), (.int (2 : Int32))])) rfl rfl (hb hby d7_81) _ ?_
    show Steps p.tables e below (T99.setTop (mkF m 82 #[.val (.ref ob), .val (.ref sa), .val (.ref ca), .val (.int (2 : Int32)), .val (.int (2 : Int32))] [(.int (6 : Int32)), (.int (2 : Int32))])) _
    refine XS.icmpNo X99.here hx rfl (hb hby d7_82) rfl (tlt (by decide)).2.1 ?_
    show Steps p.tables e below (T99.setTop (mkF m 85 #[.val (.ref ob), .val (.ref sa), .val (.ref ca), .val (.int (2 : Int32)), .val (.int (2 : Int32))] [])) _
    refine XS.iloadN X99.here hx rfl (hb hby d7_85) rfl ?_
    show Steps p.tables e below (T99.setTop (mkF m 86 #[.val (.ref ob), .val (.ref sa), .val (.ref ca), .val (.int (2 : Int32)), .val (.int (2 : Int32))] [(.int (2 : Int32))])) _
    refine XS.iloadN X99.here hx rfl (hb hby d7_86) rfl ?_
    show Steps p.tables e below (T99.setTop (mkF m 87 #[.val (.ref ob), .val (.ref sa), .val (.ref ca), .val (.int (2 : Int32)), .val (.int (2 : Int32))] [(.int (2 : Int32)), (.int (2 : Int32))])) _
    refine XS.iloadN X99.here hx rfl (hb hby d7_87) rfl ?_
    show Steps p.tables e below (T99.setTop (mkF m 88 #[.val (.ref ob), .val (.ref sa), .val (.ref ca), .val (.int (2 : Int32)), .val (.int (2 : Int32))] [(.int (2 : Int32)), (.int (2 : Int32)), (.int (2 : Int32))])) _
    refine XS.ineg X99.here hx rfl (hb hby d7_88) rfl ?_
    show Steps p.tables e below (T99.setTop (mkF m 89 #[.val (.ref ob), .val (.ref sa), .val (.ref ca), .val (.int (2 : Int32)), .val (.int (2 : Int32))] [(.int (-2 : Int32)), (.int (2 : Int32)), (.int (2 : Int32))])) _
    refine XS.iand X99.here hx rfl (hb hby d7_89) rfl ?_
    show Steps p.tables e below (T99.setTop (mkF m 90 #[.val (.ref ob), .val (.ref sa), .val (.ref ca), .val (.int (2 : Int32)), .val (.int (2 : Int32))] [(.int (2 : Int32)), (.int (2 : Int32))])) _
    refine XS.iadd X99.here hx rfl (hb hby d7_90) rfl ?_
    show Steps p.tables e below (T99.setTop (mkF m 91 #[.val (.ref ob), .val (.ref sa), .val (.ref ca), .val (.int (2 : Int32)), .val (.int (2 : Int32))] [(.int (4 : Int32))])) _
    refine XS.istore X99.here hx rfl (hb hby d7_91) rfl (l' := #[.val (.ref ob), .val (.ref sa), .val (.ref ca), .val (.int (2 : Int32)), .val (.int (4 : Int32))]) rfl ?_
    show Steps p.tables e below (T99.setTop (mkF m 93 #[.val (.ref ob), .val (.ref sa), .val (.ref ca), .val (.int (2 : Int32)), .val (.int (4 : Int32))] [])) _
    refine XS.iload X99.here hx rfl (hb hby d7_93) rfl ?_
    show Steps p.tables e below (T99.setTop (mkF m 95 #[.val (.ref ob), .val (.ref sa), .val (.ref ca), .val (.int (2 : Int32)), .val (.int (4 : Int32))] [(.int (4 : Int32))])) _
    refine XS.aloadN X99.here hx rfl (hb hby d7_95) rfl rfl ?_
    show Steps p.tables e below (T99.setTop (mkF m 96 #[.val (.ref ob), .val (.ref sa), .val (.ref ca), .val (.int (2 : Int32)), .val (.int (4 : Int32))] [(.ref ob), (.int (4 : Int32))])) _
    refine st100 _ ?_
    show Steps p.tables e below (T100.setTop (mkF m 99 #[.val (.ref ob), .val (.ref sa), .val (.ref ca), .val (.int (2 : Int32)), .val (.int (4 : Int32))] [(.ref an), (.int (4 : Int32))])) _
    refine lnG X100 hx hZ e100 V98 (g := (mkF m 99 #[.val (.ref ob), .val (.ref sa), .val (.ref ca), .val (.int (2 : Int32)), .val (.int (4 : Int32))] [(.ref an), (.int (4 : Int32))])) rfl rfl (hb hby d7_99) _ ?_
    show Steps p.tables e below (T100.setTop (mkF m 100 #[.val (.ref ob), .val (.ref sa), .val (.ref ca), .val (.int (2 : Int32)), .val (.int (4 : Int32))] [(.int (6 : Int32)), (.int (4 : Int32))])) _
    refine XS.icmpNo X100.here hx rfl (hb hby d7_100) rfl (tlt (by decide)).2.1 ?_
    show Steps p.tables e below (T100.setTop (mkF m 103 #[.val (.ref ob), .val (.ref sa), .val (.ref ca), .val (.int (2 : Int32)), .val (.int (4 : Int32))] [])) _
    refine XS.aloadN X100.here hx rfl (hb hby d7_103) rfl rfl ?_
    show Steps p.tables e below (T100.setTop (mkF m 104 #[.val (.ref ob), .val (.ref sa), .val (.ref ca), .val (.int (2 : Int32)), .val (.int (4 : Int32))] [(.ref ob)])) _
    refine st101 _ ?_
    show Steps p.tables e below (T101.setTop (mkF m 107 #[.val (.ref ob), .val (.ref sa), .val (.ref ca), .val (.int (2 : Int32)), .val (.int (4 : Int32))] [(.ref an)])) _
    refine XS.iload X101.here hx rfl (hb hby d7_107) rfl ?_
    show Steps p.tables e below (T101.setTop (mkF m 109 #[.val (.ref ob), .val (.ref sa), .val (.ref ca), .val (.int (2 : Int32)), .val (.int (4 : Int32))] [(.int (4 : Int32)), (.ref an)])) _
    refine Jvm.Free.XT.dup2 X101.here hx rfl (hb hby d7_109) rfl rfl rfl ?_
    show Steps p.tables e below (T101.setTop (mkF m 110 #[.val (.ref ob), .val (.ref sa), .val (.ref ca), .val (.int (2 : Int32)), .val (.int (4 : Int32))] [(.int (4 : Int32)), (.ref an), (.int (4 : Int32)), (.ref an)])) _
    refine rdJ X101 hx hZ e101 V98 (j := (4 : Int32)) ⟨by decide, by decide⟩ ((upA_miss (by decide)).trans ((upA_miss (by decide)).trans upA_hit)) (g := (mkF m 110 #[.val (.ref ob), .val (.ref sa), .val (.ref ca), .val (.int (2 : Int32)), .val (.int (4 : Int32))] [(.int (4 : Int32)), (.ref an), (.int (4 : Int32)), (.ref an)])) rfl rfl (hb hby d7_110) _ ?_
    show Steps p.tables e below (T101.setTop (mkF m 111 #[.val (.ref ob), .val (.ref sa), .val (.ref ca), .val (.int (2 : Int32)), .val (.int (4 : Int32))] [(.long ((fl_s_3 zn gs gc).toInt64)), (.int (4 : Int32)), (.ref an)])) _
    refine XS.aloadN X101.here hx rfl (hb hby d7_111) rfl rfl ?_
    show Steps p.tables e below (T101.setTop (mkF m 112 #[.val (.ref ob), .val (.ref sa), .val (.ref ca), .val (.int (2 : Int32)), .val (.int (4 : Int32))] [(.ref ob), (.long ((fl_s_3 zn gs gc).toInt64)), (.int (4 : Int32)), (.ref an)])) _
    refine st102 _ ?_
    show Steps p.tables e below (T102.setTop (mkF m 115 #[.val (.ref ob), .val (.ref sa), .val (.ref ca), .val (.int (2 : Int32)), .val (.int (4 : Int32))] [(.ref an), (.long ((fl_s_3 zn gs gc).toInt64)), (.int (4 : Int32)), (.ref an)])) _
    refine XS.iloadN X102.here hx rfl (hb hby d7_115) rfl ?_
    show Steps p.tables e below (T102.setTop (mkF m 116 #[.val (.ref ob), .val (.ref sa), .val (.ref ca), .val (.int (2 : Int32)), .val (.int (4 : Int32))] [(.int (2 : Int32)), (.ref an), (.long ((fl_s_3 zn gs gc).toInt64)), (.int (4 : Int32)), (.ref an)])) _
    refine rdJ X102 hx hZ e102 V98 (j := (2 : Int32)) ⟨by decide, by decide⟩ upA_hit (g := (mkF m 116 #[.val (.ref ob), .val (.ref sa), .val (.ref ca), .val (.int (2 : Int32)), .val (.int (4 : Int32))] [(.int (2 : Int32)), (.ref an), (.long ((fl_s_3 zn gs gc).toInt64)), (.int (4 : Int32)), (.ref an)])) rfl rfl (hb hby d7_116) _ ?_
    show Steps p.tables e below (T102.setTop (mkF m 117 #[.val (.ref ob), .val (.ref sa), .val (.ref ca), .val (.int (2 : Int32)), .val (.int (4 : Int32))] [(.long (((fl_s_1 zn gs gc).toInt64) + ((fl_s zn gs gc).toInt64))), (.long ((fl_s_3 zn gs gc).toInt64)), (.int (4 : Int32)), (.ref an)])) _
    refine XS.ladd X102.here hx rfl (hb hby d7_117) rfl ?_
    show Steps p.tables e below (T102.setTop (mkF m 118 #[.val (.ref ob), .val (.ref sa), .val (.ref ca), .val (.int (2 : Int32)), .val (.int (4 : Int32))] [(.long (((fl_s_3 zn gs gc).toInt64) + (((fl_s_1 zn gs gc).toInt64) + ((fl_s zn gs gc).toInt64)))), (.int (4 : Int32)), (.ref an)])) _
    refine st103 _ ?_
    show Steps p.tables e below (T103.setTop (mkF m 119 #[.val (.ref ob), .val (.ref sa), .val (.ref ca), .val (.int (2 : Int32)), .val (.int (4 : Int32))] [])) _
    refine XS.iinc X103.here hx rfl (hb hby d7_119) rfl (l' := #[.val (.ref ob), .val (.ref sa), .val (.ref ca), .val (.int (3 : Int32)), .val (.int (4 : Int32))]) rfl ?_
    show Steps p.tables e below (T103.setTop (mkF m 122 #[.val (.ref ob), .val (.ref sa), .val (.ref ca), .val (.int (3 : Int32)), .val (.int (4 : Int32))] [])) _
    refine XS.goto X103.here hx rfl (pc0 := 122) (pc' := 76) rfl (hb hby d7_122) (by decide) (by decide) ?_
    show Steps p.tables e below (T103.setTop (mkF m 76 #[.val (.ref ob), .val (.ref sa), .val (.ref ca), .val (.int (3 : Int32)), .val (.int (4 : Int32))] [])) _
    refine XS.iloadN X103.here hx rfl (hb hby d7_76) rfl ?_
    show Steps p.tables e below (T103.setTop (mkF m 77 #[.val (.ref ob), .val (.ref sa), .val (.ref ca), .val (.int (3 : Int32)), .val (.int (4 : Int32))] [(.int (3 : Int32))])) _
    refine XS.aloadN X103.here hx rfl (hb hby d7_77) rfl rfl ?_
    show Steps p.tables e below (T103.setTop (mkF m 78 #[.val (.ref ob), .val (.ref sa), .val (.ref ca), .val (.int (3 : Int32)), .val (.int (4 : Int32))] [(.ref ob), (.int (3 : Int32))])) _
    refine st105 _ ?_
    show Steps p.tables e below (T105.setTop (mkF m 81 #[.val (.ref ob), .val (.ref sa), .val (.ref ca), .val (.int (3 : Int32)), .val (.int (4 : Int32))] [(.ref an), (.int (3 : Int32))])) _
    refine lnG X105 hx hZ e105 V103 (g := (mkF m 81 #[.val (.ref ob), .val (.ref sa), .val (.ref ca), .val (.int (3 : Int32)), .val (.int (4 : Int32))] [(.ref an), (.int (3 : Int32))])) rfl rfl (hb hby d7_81) _ ?_
    show Steps p.tables e below (T105.setTop (mkF m 82 #[.val (.ref ob), .val (.ref sa), .val (.ref ca), .val (.int (3 : Int32)), .val (.int (4 : Int32))] [(.int (6 : Int32)), (.int (3 : Int32))])) _
    refine XS.icmpNo X105.here hx rfl (hb hby d7_82) rfl (tlt (by decide)).2.1 ?_
    show Steps p.tables e below (T105.setTop (mkF m 85 #[.val (.ref ob), .val (.ref sa), .val (.ref ca), .val (.int (3 : Int32)), .val (.int (4 : Int32))] [])) _
    refine XS.iloadN X105.here hx rfl (hb hby d7_85) rfl ?_
    show Steps p.tables e below (T105.setTop (mkF m 86 #[.val (.ref ob), .val (.ref sa), .val (.ref ca), .val (.int (3 : Int32)), .val (.int (4 : Int32))] [(.int (3 : Int32))])) _
    refine XS.iloadN X105.here hx rfl (hb hby d7_86) rfl ?_
    show Steps p.tables e below (T105.setTop (mkF m 87 #[.val (.ref ob), .val (.ref sa), .val (.ref ca), .val (.int (3 : Int32)), .val (.int (4 : Int32))] [(.int (3 : Int32)), (.int (3 : Int32))])) _
    refine XS.iloadN X105.here hx rfl (hb hby d7_87) rfl ?_
    show Steps p.tables e below (T105.setTop (mkF m 88 #[.val (.ref ob), .val (.ref sa), .val (.ref ca), .val (.int (3 : Int32)), .val (.int (4 : Int32))] [(.int (3 : Int32)), (.int (3 : Int32)), (.int (3 : Int32))])) _
    refine XS.ineg X105.here hx rfl (hb hby d7_88) rfl ?_
    show Steps p.tables e below (T105.setTop (mkF m 89 #[.val (.ref ob), .val (.ref sa), .val (.ref ca), .val (.int (3 : Int32)), .val (.int (4 : Int32))] [(.int (-3 : Int32)), (.int (3 : Int32)), (.int (3 : Int32))])) _
    refine XS.iand X105.here hx rfl (hb hby d7_89) rfl ?_
    show Steps p.tables e below (T105.setTop (mkF m 90 #[.val (.ref ob), .val (.ref sa), .val (.ref ca), .val (.int (3 : Int32)), .val (.int (4 : Int32))] [(.int (1 : Int32)), (.int (3 : Int32))])) _
    refine XS.iadd X105.here hx rfl (hb hby d7_90) rfl ?_
    show Steps p.tables e below (T105.setTop (mkF m 91 #[.val (.ref ob), .val (.ref sa), .val (.ref ca), .val (.int (3 : Int32)), .val (.int (4 : Int32))] [(.int (4 : Int32))])) _
    refine XS.istore X105.here hx rfl (hb hby d7_91) rfl (l' := #[.val (.ref ob), .val (.ref sa), .val (.ref ca), .val (.int (3 : Int32)), .val (.int (4 : Int32))]) rfl ?_
    show Steps p.tables e below (T105.setTop (mkF m 93 #[.val (.ref ob), .val (.ref sa), .val (.ref ca), .val (.int (3 : Int32)), .val (.int (4 : Int32))] [])) _
    refine XS.iload X105.here hx rfl (hb hby d7_93) rfl ?_
    show Steps p.tables e below (T105.setTop (mkF m 95 #[.val (.ref ob), .val (.ref sa), .val (.ref ca), .val (.int (3 : Int32)), .val (.int (4 : Int32))] [(.int (4 : Int32))])) _
    refine XS.aloadN X105.here hx rfl (hb hby d7_95) rfl rfl ?_
    show Steps p.tables e below (T105.setTop (mkF m 96 #[.val (.ref ob), .val (.ref sa), .val (.ref ca), .val (.int (3 : Int32)), .val (.int (4 : Int32))] [(.ref ob), (.int (4 : Int32))])) _
    refine st106 _ ?_
    show Steps p.tables e below (T106.setTop (mkF m 99 #[.val (.ref ob), .val (.ref sa), .val (.ref ca), .val (.int (3 : Int32)), .val (.int (4 : Int32))] [(.ref an), (.int (4 : Int32))])) _
    refine lnG X106 hx hZ e106 V103 (g := (mkF m 99 #[.val (.ref ob), .val (.ref sa), .val (.ref ca), .val (.int (3 : Int32)), .val (.int (4 : Int32))] [(.ref an), (.int (4 : Int32))])) rfl rfl (hb hby d7_99) _ ?_
    show Steps p.tables e below (T106.setTop (mkF m 100 #[.val (.ref ob), .val (.ref sa), .val (.ref ca), .val (.int (3 : Int32)), .val (.int (4 : Int32))] [(.int (6 : Int32)), (.int (4 : Int32))])) _
    refine XS.icmpNo X106.here hx rfl (hb hby d7_100) rfl (tlt (by decide)).2.1 ?_
    show Steps p.tables e below (T106.setTop (mkF m 103 #[.val (.ref ob), .val (.ref sa), .val (.ref ca), .val (.int (3 : Int32)), .val (.int (4 : Int32))] [])) _
    refine XS.aloadN X106.here hx rfl (hb hby d7_103) rfl rfl ?_
    show Steps p.tables e below (T106.setTop (mkF m 104 #[.val (.ref ob), .val (.ref sa), .val (.ref ca), .val (.int (3 : Int32)), .val (.int (4 : Int32))] [(.ref ob)])) _
    refine st107 _ ?_
    show Steps p.tables e below (T107.setTop (mkF m 107 #[.val (.ref ob), .val (.ref sa), .val (.ref ca), .val (.int (3 : Int32)), .val (.int (4 : Int32))] [(.ref an)])) _
    refine XS.iload X107.here hx rfl (hb hby d7_107) rfl ?_
    show Steps p.tables e below (T107.setTop (mkF m 109 #[.val (.ref ob), .val (.ref sa), .val (.ref ca), .val (.int (3 : Int32)), .val (.int (4 : Int32))] [(.int (4 : Int32)), (.ref an)])) _
    refine Jvm.Free.XT.dup2 X107.here hx rfl (hb hby d7_109) rfl rfl rfl ?_
    show Steps p.tables e below (T107.setTop (mkF m 110 #[.val (.ref ob), .val (.ref sa), .val (.ref ca), .val (.int (3 : Int32)), .val (.int (4 : Int32))] [(.int (4 : Int32)), (.ref an), (.int (4 : Int32)), (.ref an)])) _
    refine rdJ X107 hx hZ e107 V103 (j := (4 : Int32)) ⟨by decide, by decide⟩ upA_hit (g := (mkF m 110 #[.val (.ref ob), .val (.ref sa), .val (.ref ca), .val (.int (3 : Int32)), .val (.int (4 : Int32))] [(.int (4 : Int32)), (.ref an), (.int (4 : Int32)), (.ref an)])) rfl rfl (hb hby d7_110) _ ?_
    show Steps p.tables e below (T107.setTop (mkF m 111 #[.val (.ref ob), .val (.ref sa), .val (.ref ca), .val (.int (3 : Int32)), .val (.int (4 : Int32))] [(.long (((fl_s_3 zn gs gc).toInt64) + (((fl_s_1 zn gs gc).toInt64) + ((fl_s zn gs gc).toInt64)))), (.int (4 : Int32)), (.ref an)])) _
    refine XS.aloadN X107.here hx rfl (hb hby d7_111) rfl rfl ?_
    show Steps p.tables e below (T107.setTop (mkF m 112 #[.val (.ref ob), .val (.ref sa), .val (.ref ca), .val (.int (3 : Int32)), .val (.int (4 : Int32))] [(.ref ob), (.long (((fl_s_3 zn gs gc).toInt64) + (((fl_s_1 zn gs gc).toInt64) + ((fl_s zn gs gc).toInt64)))), (.int (4 : Int32)), (.ref an)])) _
    refine st108 _ ?_
    show Steps p.tables e below (T108.setTop (mkF m 115 #[.val (.ref ob), .val (.ref sa), .val (.ref ca), .val (.int (3 : Int32)), .val (.int (4 : Int32))] [(.ref an), (.long (((fl_s_3 zn gs gc).toInt64) + (((fl_s_1 zn gs gc).toInt64) + ((fl_s zn gs gc).toInt64)))), (.int (4 : Int32)), (.ref an)])) _
    refine XS.iloadN X108.here hx rfl (hb hby d7_115) rfl ?_
    show Steps p.tables e below (T108.setTop (mkF m 116 #[.val (.ref ob), .val (.ref sa), .val (.ref ca), .val (.int (3 : Int32)), .val (.int (4 : Int32))] [(.int (3 : Int32)), (.ref an), (.long (((fl_s_3 zn gs gc).toInt64) + (((fl_s_1 zn gs gc).toInt64) + ((fl_s zn gs gc).toInt64)))), (.int (4 : Int32)), (.ref an)])) _
    refine rdJ X108 hx hZ e108 V103 (j := (3 : Int32)) ⟨by decide, by decide⟩ ((upA_miss (by decide)).trans ((upA_miss (by decide)).trans ((upA_miss (by decide)).trans ((upA_miss (by decide)).trans upA_hit)))) (g := (mkF m 116 #[.val (.ref ob), .val (.ref sa), .val (.ref ca), .val (.int (3 : Int32)), .val (.int (4 : Int32))] [(.int (3 : Int32)), (.ref an), (.long (((fl_s_3 zn gs gc).toInt64) + (((fl_s_1 zn gs gc).toInt64) + ((fl_s zn gs gc).toInt64)))), (.int (4 : Int32)), (.ref an)])) rfl rfl (hb hby d7_116) _ ?_
    show Steps p.tables e below (T108.setTop (mkF m 117 #[.val (.ref ob), .val (.ref sa), .val (.ref ca), .val (.int (3 : Int32)), .val (.int (4 : Int32))] [(.long ((fl_s_2 zn gs gc).toInt64)), (.long (((fl_s_3 zn gs gc).toInt64) + (((fl_s_1 zn gs gc).toInt64) + ((fl_s zn gs gc).toInt64)))), (.int (4 : Int32)), (.ref an)])) _
    refine XS.ladd X108.here hx rfl (hb hby d7_117) rfl ?_
    show Steps p.tables e below (T108.setTop (mkF m 118 #[.val (.ref ob), .val (.ref sa), .val (.ref ca), .val (.int (3 : Int32)), .val (.int (4 : Int32))] [(.long ((((fl_s_3 zn gs gc).toInt64) + (((fl_s_1 zn gs gc).toInt64) + ((fl_s zn gs gc).toInt64))) + ((fl_s_2 zn gs gc).toInt64))), (.int (4 : Int32)), (.ref an)])) _
    refine st109 _ ?_
    show Steps p.tables e below (T109.setTop (mkF m 119 #[.val (.ref ob), .val (.ref sa), .val (.ref ca), .val (.int (3 : Int32)), .val (.int (4 : Int32))] [])) _
    refine XS.iinc X109.here hx rfl (hb hby d7_119) rfl (l' := #[.val (.ref ob), .val (.ref sa), .val (.ref ca), .val (.int (4 : Int32)), .val (.int (4 : Int32))]) rfl ?_
    show Steps p.tables e below (T109.setTop (mkF m 122 #[.val (.ref ob), .val (.ref sa), .val (.ref ca), .val (.int (4 : Int32)), .val (.int (4 : Int32))] [])) _
    refine XS.goto X109.here hx rfl (pc0 := 122) (pc' := 76) rfl (hb hby d7_122) (by decide) (by decide) ?_
    show Steps p.tables e below (T109.setTop (mkF m 76 #[.val (.ref ob), .val (.ref sa), .val (.ref ca), .val (.int (4 : Int32)), .val (.int (4 : Int32))] [])) _
    refine XS.iloadN X109.here hx rfl (hb hby d7_76) rfl ?_
    show Steps p.tables e below (T109.setTop (mkF m 77 #[.val (.ref ob), .val (.ref sa), .val (.ref ca), .val (.int (4 : Int32)), .val (.int (4 : Int32))] [(.int (4 : Int32))])) _
    refine XS.aloadN X109.here hx rfl (hb hby d7_77) rfl rfl ?_
    show Steps p.tables e below (T109.setTop (mkF m 78 #[.val (.ref ob), .val (.ref sa), .val (.ref ca), .val (.int (4 : Int32)), .val (.int (4 : Int32))] [(.ref ob), (.int (4 : Int32))])) _
    refine st110 _ ?_
    show Steps p.tables e below (T110.setTop (mkF m 81 #[.val (.ref ob), .val (.ref sa), .val (.ref ca), .val (.int (4 : Int32)), .val (.int (4 : Int32))] [(.ref an), (.int (4 : Int32))])) _
    refine lnG X110 hx hZ e110 V109 (g := (mkF m 81 #[.val (.ref ob), .val (.ref sa), .val (.ref ca), .val (.int (4 : Int32)), .val (.int (4 : Int32))] [(.ref an), (.int (4 : Int32))])) rfl rfl (hb hby d7_81) _ ?_
    show Steps p.tables e below (T110.setTop (mkF m 82 #[.val (.ref ob), .val (.ref sa), .val (.ref ca), .val (.int (4 : Int32)), .val (.int (4 : Int32))] [(.int (6 : Int32)), (.int (4 : Int32))])) _
    refine XS.icmpNo X110.here hx rfl (hb hby d7_82) rfl (tlt (by decide)).2.1 ?_
    show Steps p.tables e below (T110.setTop (mkF m 85 #[.val (.ref ob), .val (.ref sa), .val (.ref ca), .val (.int (4 : Int32)), .val (.int (4 : Int32))] [])) _
    refine XS.iloadN X110.here hx rfl (hb hby d7_85) rfl ?_
    show Steps p.tables e below (T110.setTop (mkF m 86 #[.val (.ref ob), .val (.ref sa), .val (.ref ca), .val (.int (4 : Int32)), .val (.int (4 : Int32))] [(.int (4 : Int32))])) _
    refine XS.iloadN X110.here hx rfl (hb hby d7_86) rfl ?_
    show Steps p.tables e below (T110.setTop (mkF m 87 #[.val (.ref ob), .val (.ref sa), .val (.ref ca), .val (.int (4 : Int32)), .val (.int (4 : Int32))] [(.int (4 : Int32)), (.int (4 : Int32))])) _
    refine XS.iloadN X110.here hx rfl (hb hby d7_87) rfl ?_
    show Steps p.tables e below (T110.setTop (mkF m 88 #[.val (.ref ob), .val (.ref sa), .val (.ref ca), .val (.int (4 : Int32)), .val (.int (4 : Int32))] [(.int (4 : Int32)), (.int (4 : Int32)), (.int (4 : Int32))])) _
    refine XS.ineg X110.here hx rfl (hb hby d7_88) rfl ?_
    show Steps p.tables e below (T110.setTop (mkF m 89 #[.val (.ref ob), .val (.ref sa), .val (.ref ca), .val (.int (4 : Int32)), .val (.int (4 : Int32))] [(.int (-4 : Int32)), (.int (4 : Int32)), (.int (4 : Int32))])) _
    refine XS.iand X110.here hx rfl (hb hby d7_89) rfl ?_
    show Steps p.tables e below (T110.setTop (mkF m 90 #[.val (.ref ob), .val (.ref sa), .val (.ref ca), .val (.int (4 : Int32)), .val (.int (4 : Int32))] [(.int (4 : Int32)), (.int (4 : Int32))])) _
    refine XS.iadd X110.here hx rfl (hb hby d7_90) rfl ?_
    show Steps p.tables e below (T110.setTop (mkF m 91 #[.val (.ref ob), .val (.ref sa), .val (.ref ca), .val (.int (4 : Int32)), .val (.int (4 : Int32))] [(.int (8 : Int32))])) _
    refine XS.istore X110.here hx rfl (hb hby d7_91) rfl (l' := #[.val (.ref ob), .val (.ref sa), .val (.ref ca), .val (.int (4 : Int32)), .val (.int (8 : Int32))]) rfl ?_
    show Steps p.tables e below (T110.setTop (mkF m 93 #[.val (.ref ob), .val (.ref sa), .val (.ref ca), .val (.int (4 : Int32)), .val (.int (8 : Int32))] [])) _
    refine XS.iload X110.here hx rfl (hb hby d7_93) rfl ?_
    show Steps p.tables e below (T110.setTop (mkF m 95 #[.val (.ref ob), .val (.ref sa), .val (.ref ca), .val (.int (4 : Int32)), .val (.int (8 : Int32))] [(.int (8 : Int32))])) _
    refine XS.aloadN X110.here hx rfl (hb hby d7_95) rfl rfl ?_
    show Steps p.tables e below (T110.setTop (mkF m 96 #[.val (.ref ob), .val (.ref sa), .val (.ref ca), .val (.int (4 : Int32)), .val (.int (8 : Int32))] [(.ref ob), (.int (8 : Int32))])) _
    refine st111 _ ?_
    show Steps p.tables e below (T111.setTop (mkF m 99 #[.val (.ref ob), .val (.ref sa), .val (.ref ca), .val (.int (4 : Int32)), .val (.int (8 : Int32))] [(.ref an), (.int (8 : Int32))])) _
    refine lnG X111 hx hZ e111 V109 (g := (mkF m 99 #[.val (.ref ob), .val (.ref sa), .val (.ref ca), .val (.int (4 : Int32)), .val (.int (8 : Int32))] [(.ref an), (.int (8 : Int32))])) rfl rfl (hb hby d7_99) _ ?_
    show Steps p.tables e below (T111.setTop (mkF m 100 #[.val (.ref ob), .val (.ref sa), .val (.ref ca), .val (.int (4 : Int32)), .val (.int (8 : Int32))] [(.int (6 : Int32)), (.int (8 : Int32))])) _
    refine XS.icmpYes X111.here hx rfl (pc0 := 100) (pc' := 119) rfl (hb hby d7_100) rfl (flt (by decide)).2.1 (by decide) (by decide) ?_
    show Steps p.tables e below (T111.setTop (mkF m 119 #[.val (.ref ob), .val (.ref sa), .val (.ref ca), .val (.int (4 : Int32)), .val (.int (8 : Int32))] [])) _
    refine XS.iinc X111.here hx rfl (hb hby d7_119) rfl (l' := #[.val (.ref ob), .val (.ref sa), .val (.ref ca), .val (.int (5 : Int32)), .val (.int (8 : Int32))]) rfl ?_
    show Steps p.tables e below (T111.setTop (mkF m 122 #[.val (.ref ob), .val (.ref sa), .val (.ref ca), .val (.int (5 : Int32)), .val (.int (8 : Int32))] [])) _
    refine XS.goto X111.here hx rfl (pc0 := 122) (pc' := 76) rfl (hb hby d7_122) (by decide) (by decide) ?_
    show Steps p.tables e below (T111.setTop (mkF m 76 #[.val (.ref ob), .val (.ref sa), .val (.ref ca), .val (.int (5 : Int32)), .val (.int (8 : Int32))] [])) _
    refine XS.iloadN X111.here hx rfl (hb hby d7_76) rfl ?_
    show Steps p.tables e below (T111.setTop (mkF m 77 #[.val (.ref ob), .val (.ref sa), .val (.ref ca), .val (.int (5 : Int32)), .val (.int (8 : Int32))] [(.int (5 : Int32))])) _
    refine XS.aloadN X111.here hx rfl (hb hby d7_77) rfl rfl ?_
    show Steps p.tables e below (T111.setTop (mkF m 78 #[.val (.ref ob), .val (.ref sa), .val (.ref ca), .val (.int (5 : Int32)), .val (.int (8 : Int32))] [(.ref ob), (.int (5 : Int32))])) _
    refine st112 _ ?_
    show Steps p.tables e below (T112.setTop (mkF m 81 #[.val (.ref ob), .val (.ref sa), .val (.ref ca), .val (.int (5 : Int32)), .val (.int (8 : Int32))] [(.ref an), (.int (5 : Int32))])) _
    refine lnG X112 hx hZ e112 V109 (g := (mkF m 81 #[.val (.ref ob), .val (.ref sa), .val (.ref ca), .val (.int (5 : Int32)), .val (.int (8 : Int32))] [(.ref an), (.int (5 : Int32))])) rfl rfl (hb hby d7_81) _ ?_
    show Steps p.tables e below (T112.setTop (mkF m 82 #[.val (.ref ob), .val (.ref sa), .val (.ref ca), .val (.int (5 : Int32)), .val (.int (8 : Int32))] [(.int (6 : Int32)), (.int (5 : Int32))])) _
    refine XS.icmpNo X112.here hx rfl (hb hby d7_82) rfl (tlt (by decide)).2.1 ?_
    show Steps p.tables e below (T112.setTop (mkF m 85 #[.val (.ref ob), .val (.ref sa), .val (.ref ca), .val (.int (5 : Int32)), .val (.int (8 : Int32))] [])) _
    refine XS.iloadN X112.here hx rfl (hb hby d7_85) rfl ?_
    show Steps p.tables e below (T112.setTop (mkF m 86 #[.val (.ref ob), .val (.ref sa), .val (.ref ca), .val (.int (5 : Int32)), .val (.int (8 : Int32))] [(.int (5 : Int32))])) _
    refine XS.iloadN X112.here hx rfl (hb hby d7_86) rfl ?_
    show Steps p.tables e below (T112.setTop (mkF m 87 #[.val (.ref ob), .val (.ref sa), .val (.ref ca), .val (.int (5 : Int32)), .val (.int (8 : Int32))] [(.int (5 : Int32)), (.int (5 : Int32))])) _
    refine XS.iloadN X112.here hx rfl (hb hby d7_87) rfl ?_
    show Steps p.tables e below (T112.setTop (mkF m 88 #[.val (.ref ob), .val (.ref sa), .val (.ref ca), .val (.int (5 : Int32)), .val (.int (8 : Int32))] [(.int (5 : Int32)), (.int (5 : Int32)), (.int (5 : Int32))])) _
    refine XS.ineg X112.here hx rfl (hb hby d7_88) rfl ?_
    show Steps p.tables e below (T112.setTop (mkF m 89 #[.val (.ref ob), .val (.ref sa), .val (.ref ca), .val (.int (5 : Int32)), .val (.int (8 : Int32))] [(.int (-5 : Int32)), (.int (5 : Int32)), (.int (5 : Int32))])) _
    refine XS.iand X112.here hx rfl (hb hby d7_89) rfl ?_
    show Steps p.tables e below (T112.setTop (mkF m 90 #[.val (.ref ob), .val (.ref sa), .val (.ref ca), .val (.int (5 : Int32)), .val (.int (8 : Int32))] [(.int (1 : Int32)), (.int (5 : Int32))])) _
    refine XS.iadd X112.here hx rfl (hb hby d7_90) rfl ?_
    show Steps p.tables e below (T112.setTop (mkF m 91 #[.val (.ref ob), .val (.ref sa), .val (.ref ca), .val (.int (5 : Int32)), .val (.int (8 : Int32))] [(.int (6 : Int32))])) _
    refine XS.istore X112.here hx rfl (hb hby d7_91) rfl (l' := #[.val (.ref ob), .val (.ref sa), .val (.ref ca), .val (.int (5 : Int32)), .val (.int (6 : Int32))]) rfl ?_
    show Steps p.tables e below (T112.setTop (mkF m 93 #[.val (.ref ob), .val (.ref sa), .val (.ref ca), .val (.int (5 : Int32)), .val (.int (6 : Int32))] [])) _
    refine XS.iload X112.here hx rfl (hb hby d7_93) rfl ?_
    show Steps p.tables e below (T112.setTop (mkF m 95 #[.val (.ref ob), .val (.ref sa), .val (.ref ca), .val (.int (5 : Int32)), .val (.int (6 : Int32))] [(.int (6 : Int32))])) _
    refine XS.aloadN X112.here hx rfl (hb hby d7_95) rfl rfl ?_
    show Steps p.tables e below (T112.setTop (mkF m 96 #[.val (.ref ob), .val (.ref sa), .val (.ref ca), .val (.int (5 : Int32)), .val (.int (6 : Int32))] [(.ref ob), (.int (6 : Int32))])) _
    refine st113 _ ?_
    show Steps p.tables e below (T113.setTop (mkF m 99 #[.val (.ref ob), .val (.ref sa), .val (.ref ca), .val (.int (5 : Int32)), .val (.int (6 : Int32))] [(.ref an), (.int (6 : Int32))])) _
    refine lnG X113 hx hZ e113 V109 (g := (mkF m 99 #[.val (.ref ob), .val (.ref sa), .val (.ref ca), .val (.int (5 : Int32)), .val (.int (6 : Int32))] [(.ref an), (.int (6 : Int32))])) rfl rfl (hb hby d7_99) _ ?_
    show Steps p.tables e below (T113.setTop (mkF m 100 #[.val (.ref ob), .val (.ref sa), .val (.ref ca), .val (.int (5 : Int32)), .val (.int (6 : Int32))] [(.int (6 : Int32)), (.int (6 : Int32))])) _
    refine XS.icmpYes X113.here hx rfl (pc0 := 100) (pc' := 119) rfl (hb hby d7_100) rfl (flt (by decide)).2.1 (by decide) (by decide) ?_
    show Steps p.tables e below (T113.setTop (mkF m 119 #[.val (.ref ob), .val (.ref sa), .val (.ref ca), .val (.int (5 : Int32)), .val (.int (6 : Int32))] [])) _
    refine XS.iinc X113.here hx rfl (hb hby d7_119) rfl (l' := #[.val (.ref ob), .val (.ref sa), .val (.ref ca), .val (.int (6 : Int32)), .val (.int (6 : Int32))]) rfl ?_
    show Steps p.tables e below (T113.setTop (mkF m 122 #[.val (.ref ob), .val (.ref sa), .val (.ref ca), .val (.int (6 : Int32)), .val (.int (6 : Int32))] [])) _
    refine XS.goto X113.here hx rfl (pc0 := 122) (pc' := 76) rfl (hb hby d7_122) (by decide) (by decide) ?_
    show Steps p.tables e below (T113.setTop (mkF m 76 #[.val (.ref ob), .val (.ref sa), .val (.ref ca), .val (.int (6 : Int32)), .val (.int (6 : Int32))] [])) _
    refine XS.iloadN X113.here hx rfl (hb hby d7_76) rfl ?_
    show Steps p.tables e below (T113.setTop (mkF m 77 #[.val (.ref ob), .val (.ref sa), .val (.ref ca), .val (.int (6 : Int32)), .val (.int (6 : Int32))] [(.int (6 : Int32))])) _
    refine XS.aloadN X113.here hx rfl (hb hby d7_77) rfl rfl ?_
    show Steps p.tables e below (T113.setTop (mkF m 78 #[.val (.ref ob), .val (.ref sa), .val (.ref ca), .val (.int (6 : Int32)), .val (.int (6 : Int32))] [(.ref ob), (.int (6 : Int32))])) _
    refine st114 _ ?_
    show Steps p.tables e below (T114.setTop (mkF m 81 #[.val (.ref ob), .val (.ref sa), .val (.ref ca), .val (.int (6 : Int32)), .val (.int (6 : Int32))] [(.ref an), (.int (6 : Int32))])) _
    refine lnG X114 hx hZ e114 V109 (g := (mkF m 81 #[.val (.ref ob), .val (.ref sa), .val (.ref ca), .val (.int (6 : Int32)), .val (.int (6 : Int32))] [(.ref an), (.int (6 : Int32))])) rfl rfl (hb hby d7_81) _ ?_
    show Steps p.tables e below (T114.setTop (mkF m 82 #[.val (.ref ob), .val (.ref sa), .val (.ref ca), .val (.int (6 : Int32)), .val (.int (6 : Int32))] [(.int (6 : Int32)), (.int (6 : Int32))])) _
    refine XS.icmpYes X114.here hx rfl (pc0 := 82) (pc' := 125) rfl (hb hby d7_82) rfl (flt (by decide)).2.1 (by decide) (by decide) ?_
    exact k
  obtain ⟨fs, hr, hrun, hended, hW, hsame⟩ := X114.leave (v := none) (fun _ => rfl) (BodyLoose.notSynchronized Bd)
  refine ⟨_, _, pre115 _ ?_, hrun, hended, _, _, rfl, ?_, ⟨_, rfl⟩, hW, hsame.mono (by decide) (by decide)⟩
  · show Steps p.tables e below (T114.setTop (mkF m 125 #[.val (.ref ob), .val (.ref sa), .val (.ref ca), .val (.int (6 : Int32)), .val (.int (6 : Int32))] [])) _
    exact X114.returnOut hx Bd.returns (hb hby d7_125) hr
  · show Q7 Z ob sa ca an as fst tt nf sf zn gs gc h0 n0 _ T114.heap _
    rw [e114]
    exact ⟨rfl, N109, ⟨(((((f82.wr W84).wr W87).wr W98).wr W103).wr W109), (((f88.other W98 (Or.inl k1_n_ob_an)).other W103 (Or.inl k1_n_ob_an)).other W109 (Or.inl k1_n_ob_an)), (((f89.other W98 (Or.inl k1_n_ob_an)).other W103 (Or.inl k1_n_ob_an)).other W109 (Or.inl k1_n_ob_an)), (((f90.other W98 (Or.inl k1_n_ob_an)).other W103 (Or.inl k1_n_ob_an)).other W109 (Or.inl k1_n_ob_an)), (by rw [(show (Ffill_t zn gs gc) = ((((((0 : Int64) + ((fl_s zn gs gc).toInt64)) + ((fl_s_1 zn gs gc).toInt64)) + ((fl_s_2 zn gs gc).toInt64)) + ((fl_s_3 zn gs gc).toInt64)) + ((fl_s_4 zn gs gc).toInt64)) from rfl)]; exact ((((f85.same W87).other W98 (Or.inl k1_n_ob_an)).other W103 (Or.inl k1_n_ob_an)).other W109 (Or.inl k1_n_ob_an))), (by rw [(show (Ffill_n nf zn gs gc) = (@upA Int64 (@upA Int64 (@upA Int64 (@upA Int64 (@upA Int64 (@upA Int64 (@upA Int64 (@upA Int64 nf (1 : Int32) ((fl_s zn gs gc).toInt64)) (2 : Int32) ((fl_s_1 zn gs gc).toInt64)) (3 : Int32) ((fl_s_2 zn gs gc).toInt64)) (4 : Int32) ((fl_s_3 zn gs gc).toInt64)) (5 : Int32) ((fl_s_4 zn gs gc).toInt64)) (2 : Int32) (((fl_s_1 zn gs gc).toInt64) + ((fl_s zn gs gc).toInt64))) (4 : Int32) (((fl_s_3 zn gs gc).toInt64) + (((fl_s_1 zn gs gc).toInt64) + ((fl_s zn gs gc).toInt64)))) (4 : Int32) ((((fl_s_3 zn gs gc).toInt64) + (((fl_s_1 zn gs gc).toInt64) + ((fl_s zn gs gc).toInt64))) + ((fl_s_2 zn gs gc).toInt64))) from rfl)]; exact V109), (by rw [(show (Ffill_s sf zn gs gc) = (@upA Int32 (@upA Int32 (@upA Int32 (@upA Int32 (@upA Int32 sf (0 : Int32) (fl_s zn gs gc)) (1 : Int32) (fl_s_1 zn gs gc)) (2 : Int32) (fl_s_2 zn gs gc)) (3 : Int32) (fl_s_3 zn gs gc)) (4 : Int32) (fl_s_4 zn gs gc)) from rfl)]; exact (f104.other W109 (Ne.symm k1_n_an_as))), (((f91.other W98 (Ne.symm k1_n_an_sa)).other W103 (Ne.symm k1_n_an_sa)).other W109 (Ne.symm k1_n_an_sa)), (((f92.other W98 (Ne.symm k1_n_an_ca)).other W103 (Ne.symm k1_n_an_ca)).other W109 (Ne.symm k1_n_an_ca)), k1_g_ob, k1_g_an, k1_g_as, k1_g_sa, k1_g_ca, k1_n_ob_an, k1_n_ob_as, k1_n_ob_sa, k1_n_ob_ca, k1_n_an_as, k1_n_an_sa, k1_n_an_ca, k1_n_as_sa, k1_n_as_ca, k1_n_sa_ca, Z109⟩, K109⟩
theorem ixS_go (nn : Int32) (nf : Int32 → Int64) (n : Nat) (ii : Int32) (r : Int64) (sp : Int32) (h : (0 : Int32) < sp) : ixS nn nf (n + 1) ii r sp = ixS nn nf n (ix_i ii r sp nn nf) (ix_r ii r sp nn nf) (ix_s sp) := if_pos h
theorem ixS_no (nn : Int32) (nf : Int32 → Int64) (n : Nat) (ii : Int32) (r : Int64) (sp : Int32) (h : ¬ (0 : Int32) < sp) : ixS nn nf (n + 1) ii r sp = (ii, r, sp) := if_neg h
theorem ix_out (nn : Int32) (nf : Int32 → Int64) (ii : Int32) (r : Int64) (sp : Int32) (h : ¬ (ii + sp) < nn) : ix_i ii r sp nn nf = ii ∧ ix_r ii r sp nn nf = r := ⟨if_neg h, if_neg h⟩
theorem ix_in (nn : Int32) (nf : Int32 → Int64) (ii : Int32) (r : Int64) (sp q : Int32) (V : Int) (h : (ii + sp) < nn) (hq : ii + sp = q) (hV : (nf q).toInt = V) (h0 : 0 ≤ V) (h1 : V ≤ 100000000000) (h2 : 0 ≤ r.toInt) (h3 : r.toInt ≤ 100000000000) :
    (V ≤ r.toInt ∧ ix_i ii r sp nn nf = q ∧ (ix_r ii r sp nn nf).toInt = r.toInt - V) ∨ (r.toInt < V ∧ ix_i ii r sp nn nf = ii ∧ ix_r ii r sp nn nf = r) := by
  have a := c_lsub (nf q) r
  have b := rng64 (nf q - r)
  have c := c_lsub (nf q - r) 1
  have d := rng64 (nf q - r - 1)
  have l : (1 : Int64).toInt = 1 := by decide
  have e := own_mk01 ii r sp nf
  have ei : ix_i ii r sp nn nf = (ii + (sp &&& ((own_mk ii r sp nf).toInt32))) := if_pos h
  have er : ix_r ii r sp nn nf = (r - ((nf (ii + sp)) &&& (own_mk ii r sp nf))) := if_pos h
  rw [ei, er]
  rw [hq] at e ⊢
  rcases e with ⟨e1, e2⟩ | ⟨e1, e2⟩
  · refine Or.inr ⟨by omega, ?_, ?_⟩
    · rw [e1, show (0 : Int64).toInt32 = 0 from by decide, Int32.and_zero, Int32.add_zero]
    · rw [e1, Int64.and_zero, Int64.sub_zero]
  · refine Or.inl ⟨by omega, ?_, ?_⟩
    · rw [e1, show (-1 : Int64).toInt32 = -1 from by decide, Int32.and_neg_one, hq]
    · rw [e1, Int64.and_neg_one]
      have f := c_lsub r (nf q)
      have g := rng64 (r - nf q)
      omega
theorem own_ixc5 (nf : Int32 → Int64) (S0 S1 S2 S3 S4 : Int) (h0 : 0 ≤ S0 ∧ S0 < 2147483648) (h1 : 0 ≤ S1 ∧ S1 < 2147483648) (h2 : 0 ≤ S2 ∧ S2 < 2147483648) (h3 : 0 ≤ S3 ∧ S3 < 2147483648) (h4 : 0 ≤ S4 ∧ S4 < 2147483648) (n1 : (nf 1).toInt = S0) (n2 : (nf 2).toInt = S0 + S1) (n3 : (nf 3).toInt = S2) (n4 : (nf 4).toInt = S0 + S1 + S2 + S3) (n5 : (nf 5).toInt = S4) (pt : Int64) (x : Int) (hx : (0 ≤ pt.toInt ∧ pt.toInt < S0 ∧ x = 0) ∨ (S0 ≤ pt.toInt ∧ pt.toInt < S0 + S1 ∧ x = 1) ∨ (S0 + S1 ≤ pt.toInt ∧ pt.toInt < S0 + S1 + S2 ∧ x = 2) ∨ (S0 + S1 + S2 ≤ pt.toInt ∧ pt.toInt < S0 + S1 + S2 + S3 ∧ x = 3) ∨ (S0 + S1 + S2 + S3 ≤ pt.toInt ∧ pt.toInt < S0 + S1 + S2 + S3 + S4 ∧ x = 4)) : (ixS 6 nf 5 0 pt 4).1.toInt = x := by
  rw [ixS_go _ _ _ _ _ _ (by decide), show ix_s 4 = 2 from by decide]
  rcases ix_in 6 nf 0 pt 4 4 _ (by decide) (by decide) n4 (by omega) (by omega) (by omega) (by omega) with ⟨c1, e1, f1⟩ | ⟨c1, e1, f1⟩
  · rw [e1]
    generalize ix_r 0 pt 4 6 nf = r1 at *
    rw [ixS_go _ _ _ _ _ _ (by decide), show ix_s 2 = 1 from by decide]
    rw [(ix_out 6 nf 4 r1 2 (by decide)).1, (ix_out 6 nf 4 r1 2 (by decide)).2]
    rw [ixS_go _ _ _ _ _ _ (by decide), show ix_s 1 = 0 from by decide]
    rcases ix_in 6 nf 4 r1 1 5 _ (by decide) (by decide) n5 (by omega) (by omega) (by omega) (by omega) with ⟨c3, e3, f3⟩ | ⟨c3, e3, f3⟩
    · rw [e3]
      generalize ix_r 4 r1 1 6 nf = r3 at *
      rw [ixS_no _ _ _ _ _ _ (by decide)]
      show (5 : Int32).toInt = x
      rw [show (5 : Int32).toInt = 5 from by decide]
      omega
    · rw [e3, f3]
      rw [ixS_no _ _ _ _ _ _ (by decide)]
      show (4 : Int32).toInt = x
      rw [show (4 : Int32).toInt = 4 from by decide]
      omega
  · rw [e1, f1]
    rw [ixS_go _ _ _ _ _ _ (by decide), show ix_s 2 = 1 from by decide]
    rcases ix_in 6 nf 0 pt 2 2 _ (by decide) (by decide) n2 (by omega) (by omega) (by omega) (by omega) with ⟨c4, e4, f4⟩ | ⟨c4, e4, f4⟩
    · rw [e4]
      generalize ix_r 0 pt 2 6 nf = r4 at *
      rw [ixS_go _ _ _ _ _ _ (by decide), show ix_s 1 = 0 from by decide]
      rcases ix_in 6 nf 2 r4 1 3 _ (by decide) (by decide) n3 (by omega) (by omega) (by omega) (by omega) with ⟨c5, e5, f5⟩ | ⟨c5, e5, f5⟩
      · rw [e5]
        generalize ix_r 2 r4 1 6 nf = r5 at *
        rw [ixS_no _ _ _ _ _ _ (by decide)]
        show (3 : Int32).toInt = x
        rw [show (3 : Int32).toInt = 3 from by decide]
        omega
      · rw [e5, f5]
        rw [ixS_no _ _ _ _ _ _ (by decide)]
        show (2 : Int32).toInt = x
        rw [show (2 : Int32).toInt = 2 from by decide]
        omega
    · rw [e4, f4]
      rw [ixS_go _ _ _ _ _ _ (by decide), show ix_s 1 = 0 from by decide]
      rcases ix_in 6 nf 0 pt 1 1 _ (by decide) (by decide) n1 (by omega) (by omega) (by omega) (by omega) with ⟨c6, e6, f6⟩ | ⟨c6, e6, f6⟩
      · rw [e6]
        generalize ix_r 0 pt 1 6 nf = r6 at *
        rw [ixS_no _ _ _ _ _ _ (by decide)]
        show (1 : Int32).toInt = x
        rw [show (1 : Int32).toInt = 1 from by decide]
        omega
      · rw [e6, f6]
        rw [ixS_no _ _ _ _ _ _ (by decide)]
        show (0 : Int32).toInt = x
        rw [show (0 : Int32).toInt = 0 from by decide]
        omega
theorem pd_0 : parseMethodDescriptor "(I)[I" = some ⟨[.int], some (.array .int)⟩ := by decide +kernel
theorem pd_1 : parseMethodDescriptor "(I)[Z" = some ⟨[.int], some (.array .boolean)⟩ := by decide +kernel
theorem pd_2 : parseMethodDescriptor "(I)V" = some ⟨[.int], none⟩ := by decide +kernel
theorem pd_5 : parseMethodDescriptor "([I[Z)V" = some ⟨[(.array .int), (.array .boolean)], none⟩ := by decide +kernel
theorem pd_6 : parseMethodDescriptor "()J" = some ⟨[], some .long⟩ := by decide +kernel
theorem pd_8 : parseMethodDescriptor "(J)I" = some ⟨[.long], some .int⟩ := by decide +kernel
theorem pd_7 : parseMethodDescriptor "(II)V" = some ⟨[.int, .int], none⟩ := by decide +kernel
theorem ef_0 (m : MethodId) (x0 : Int32) (x1 : Int32) (x2 : Int32) (x3 : Int32) (x4 : Int32) (x5 : Int32) : entryFrame m #[(.int x0), (.int x1), (.int x2), (.int x3), (.int x4), (.int x5)] maxLocals = mkF m 0 #[.val (.int x0), .val (.int x1), .val (.int x2), .val (.int x3), .val (.int x4), .val (.int x5), .unset, .unset, .unset, .unset, .unset, .unset, .unset, .unset, .unset, .unset, .unset, .unset, .unset, .unset, .unset, .unset, .unset, .unset, .unset, .unset, .unset, .unset, .unset, .unset, .unset, .unset, .unset, .unset, .unset, .unset, .unset, .unset, .unset, .unset] [] := by first | (simp [entryFrame, mkF, argsToLocals, Value.category, maxLocals]; done) | rfl
def lo0_0 (pp : Int32) (xa : Int32) (xb : Int32) (xc : Int32) (xd : Int32) (xe : Int32) : Array Slot := #[.val (.int pp), .val (.int xa), .val (.int xb), .val (.int xc), .val (.int xd), .val (.int xe), .unset, .unset, .unset, .unset, .unset, .unset, .unset, .unset, .unset, .unset, .unset, .unset, .unset, .unset, .unset, .unset, .unset, .unset, .unset, .unset, .unset, .unset, .unset, .unset, .unset, .unset, .unset, .unset, .unset, .unset, .unset, .unset, .unset, .unset]
def v_n (pp : Int32) : Int32 := ((pp &&& (7 : Int32)) % (6 : Int32))
def lo0_1 (pp : Int32) (xa : Int32) (xb : Int32) (xc : Int32) (xd : Int32) (xe : Int32) : Array Slot := #[.val (.int pp), .val (.int xa), .val (.int xb), .val (.int xc), .val (.int xd), .val (.int xe), .val (.int (v_n pp)), .unset, .unset, .unset, .unset, .unset, .unset, .unset, .unset, .unset, .unset, .unset, .unset, .unset, .unset, .unset, .unset, .unset, .unset, .unset, .unset, .unset, .unset, .unset, .unset, .unset, .unset, .unset, .unset, .unset, .unset, .unset, .unset, .unset]
def v_j (pp : Int32) : Int32 := ((((pp.toUInt32 >>> ((8 : Int32) &&& 31).toUInt32).toInt32) &&& (7 : Int32)) % (5 : Int32))
def lo0_2 (pp : Int32) (xa : Int32) (xb : Int32) (xc : Int32) (xd : Int32) (xe : Int32) : Array Slot := #[.val (.int pp), .val (.int xa), .val (.int xb), .val (.int xc), .val (.int xd), .val (.int xe), .val (.int (v_n pp)), .val (.int (v_j pp)), .unset, .unset, .unset, .unset, .unset, .unset, .unset, .unset, .unset, .unset, .unset, .unset, .unset, .unset, .unset, .unset, .unset, .unset, .unset, .unset, .unset, .unset, .unset, .unset, .unset, .unset, .unset, .unset, .unset, .unset, .unset, .unset]
def v_s0 (xa : Int32) : Int32 := (xa &&& (2147483647 : Int32))
def lo0_3 (pp : Int32) (xa : Int32) (xb : Int32) (xc : Int32) (xd : Int32) (xe : Int32) : Array Slot := #[.val (.int pp), .val (.int xa), .val (.int xb), .val (.int xc), .val (.int xd), .val (.int xe), .val (.int (v_n pp)), .val (.int (v_j pp)), .val (.int (v_s0 xa)), .unset, .unset, .unset, .unset, .unset, .unset, .unset, .unset, .unset, .unset, .unset, .unset, .unset, .unset, .unset, .unset, .unset, .unset, .unset, .unset, .unset, .unset, .unset, .unset, .unset, .unset, .unset, .unset, .unset, .unset, .unset]
def v_s1 (xb : Int32) : Int32 := (xb &&& (2147483647 : Int32))
def lo0_4 (pp : Int32) (xa : Int32) (xb : Int32) (xc : Int32) (xd : Int32) (xe : Int32) : Array Slot := #[.val (.int pp), .val (.int xa), .val (.int xb), .val (.int xc), .val (.int xd), .val (.int xe), .val (.int (v_n pp)), .val (.int (v_j pp)), .val (.int (v_s0 xa)), .val (.int (v_s1 xb)), .unset, .unset, .unset, .unset, .unset, .unset, .unset, .unset, .unset, .unset, .unset, .unset, .unset, .unset, .unset, .unset, .unset, .unset, .unset, .unset, .unset, .unset, .unset, .unset, .unset, .unset, .unset, .unset, .unset, .unset]
def v_s2 (xc : Int32) : Int32 := (xc &&& (2147483647 : Int32))
def lo0_5 (pp : Int32) (xa : Int32) (xb : Int32) (xc : Int32) (xd : Int32) (xe : Int32) : Array Slot := #[.val (.int pp), .val (.int xa), .val (.int xb), .val (.int xc), .val (.int xd), .val (.int xe), .val (.int (v_n pp)), .val (.int (v_j pp)), .val (.int (v_s0 xa)), .val (.int (v_s1 xb)), .val (.int (v_s2 xc)), .unset, .unset, .unset, .unset, .unset, .unset, .unset, .unset, .unset, .unset, .unset, .unset, .unset, .unset, .unset, .unset, .unset, .unset, .unset, .unset, .unset, .unset, .unset, .unset, .unset, .unset, .unset, .unset, .unset]
def v_s3 (xd : Int32) : Int32 := (xd &&& (2147483647 : Int32))
def lo0_6 (pp : Int32) (xa : Int32) (xb : Int32) (xc : Int32) (xd : Int32) (xe : Int32) : Array Slot := #[.val (.int pp), .val (.int xa), .val (.int xb), .val (.int xc), .val (.int xd), .val (.int xe), .val (.int (v_n pp)), .val (.int (v_j pp)), .val (.int (v_s0 xa)), .val (.int (v_s1 xb)), .val (.int (v_s2 xc)), .val (.int (v_s3 xd)), .unset, .unset, .unset, .unset, .unset, .unset, .unset, .unset, .unset, .unset, .unset, .unset, .unset, .unset, .unset, .unset, .unset, .unset, .unset, .unset, .unset, .unset, .unset, .unset, .unset, .unset, .unset, .unset]
def v_s4 (xe : Int32) : Int32 := (xe &&& (2147483647 : Int32))
def lo0_7 (pp : Int32) (xa : Int32) (xb : Int32) (xc : Int32) (xd : Int32) (xe : Int32) : Array Slot := #[.val (.int pp), .val (.int xa), .val (.int xb), .val (.int xc), .val (.int xd), .val (.int xe), .val (.int (v_n pp)), .val (.int (v_j pp)), .val (.int (v_s0 xa)), .val (.int (v_s1 xb)), .val (.int (v_s2 xc)), .val (.int (v_s3 xd)), .val (.int (v_s4 xe)), .unset, .unset, .unset, .unset, .unset, .unset, .unset, .unset, .unset, .unset, .unset, .unset, .unset, .unset, .unset, .unset, .unset, .unset, .unset, .unset, .unset, .unset, .unset, .unset, .unset, .unset, .unset]
def v_c0 (pp : Int32) : Bool := (if (((pp.toUInt32 >>> ((3 : Int32) &&& 31).toUInt32).toInt32) &&& (1 : Int32)) = (0 : Int32) then false else true)
def lo0_8 (pp : Int32) (xa : Int32) (xb : Int32) (xc : Int32) (xd : Int32) (xe : Int32) : Array Slot := #[.val (.int pp), .val (.int xa), .val (.int xb), .val (.int xc), .val (.int xd), .val (.int xe), .val (.int (v_n pp)), .val (.int (v_j pp)), .val (.int (v_s0 xa)), .val (.int (v_s1 xb)), .val (.int (v_s2 xc)), .val (.int (v_s3 xd)), .val (.int (v_s4 xe)), .val (.int (b2i (v_c0 pp))), .unset, .unset, .unset, .unset, .unset, .unset, .unset, .unset, .unset, .unset, .unset, .unset, .unset, .unset, .unset, .unset, .unset, .unset, .unset, .unset, .unset, .unset, .unset, .unset, .unset, .unset]
def v_c1 (pp : Int32) : Bool := (if (((pp.toUInt32 >>> ((4 : Int32) &&& 31).toUInt32).toInt32) &&& (1 : Int32)) = (0 : Int32) then false else true)
def lo0_9 (pp : Int32) (xa : Int32) (xb : Int32) (xc : Int32) (xd : Int32) (xe : Int32) : Array Slot := #[.val (.int pp), .val (.int xa), .val (.int xb), .val (.int xc), .val (.int xd), .val (.int xe), .val (.int (v_n pp)), .val (.int (v_j pp)), .val (.int (v_s0 xa)), .val (.int (v_s1 xb)), .val (.int (v_s2 xc)), .val (.int (v_s3 xd)), .val (.int (v_s4 xe)), .val (.int (b2i (v_c0 pp))), .val (.int (b2i (v_c1 pp))), .unset, .unset, .unset, .unset, .unset, .unset, .unset, .unset, .unset, .unset, .unset, .unset, .unset, .unset, .unset, .unset, .unset, .unset, .unset, .unset, .unset, .unset, .unset, .unset, .unset]
def v_c2 (pp : Int32) : Bool := (if (((pp.toUInt32 >>> ((5 : Int32) &&& 31).toUInt32).toInt32) &&& (1 : Int32)) = (0 : Int32) then false else true)
def lo0_10 (pp : Int32) (xa : Int32) (xb : Int32) (xc : Int32) (xd : Int32) (xe : Int32) : Array Slot := #[.val (.int pp), .val (.int xa), .val (.int xb), .val (.int xc), .val (.int xd), .val (.int xe), .val (.int (v_n pp)), .val (.int (v_j pp)), .val (.int (v_s0 xa)), .val (.int (v_s1 xb)), .val (.int (v_s2 xc)), .val (.int (v_s3 xd)), .val (.int (v_s4 xe)), .val (.int (b2i (v_c0 pp))), .val (.int (b2i (v_c1 pp))), .val (.int (b2i (v_c2 pp))), .unset, .unset, .unset, .unset, .unset, .unset, .unset, .unset, .unset, .unset, .unset, .unset, .unset, .unset, .unset, .unset, .unset, .unset, .unset, .unset, .unset, .unset, .unset, .unset]
def v_c3 (pp : Int32) : Bool := (if (((pp.toUInt32 >>> ((6 : Int32) &&& 31).toUInt32).toInt32) &&& (1 : Int32)) = (0 : Int32) then false else true)
def lo0_11 (pp : Int32) (xa : Int32) (xb : Int32) (xc : Int32) (xd : Int32) (xe : Int32) : Array Slot := #[.val (.int pp), .val (.int xa), .val (.int xb), .val (.int xc), .val (.int xd), .val (.int xe), .val (.int (v_n pp)), .val (.int (v_j pp)), .val (.int (v_s0 xa)), .val (.int (v_s1 xb)), .val (.int (v_s2 xc)), .val (.int (v_s3 xd)), .val (.int (v_s4 xe)), .val (.int (b2i (v_c0 pp))), .val (.int (b2i (v_c1 pp))), .val (.int (b2i (v_c2 pp))), .val (.int (b2i (v_c3 pp))), .unset, .unset, .unset, .unset, .unset, .unset, .unset, .unset, .unset, .unset, .unset, .unset, .unset, .unset, .unset, .unset, .unset, .unset, .unset, .unset, .unset, .unset, .unset]
def v_c4 (pp : Int32) : Bool := (if (((pp.toUInt32 >>> ((7 : Int32) &&& 31).toUInt32).toInt32) &&& (1 : Int32)) = (0 : Int32) then false else true)
def lo0_12 (pp : Int32) (xa : Int32) (xb : Int32) (xc : Int32) (xd : Int32) (xe : Int32) : Array Slot := #[.val (.int pp), .val (.int xa), .val (.int xb), .val (.int xc), .val (.int xd), .val (.int xe), .val (.int (v_n pp)), .val (.int (v_j pp)), .val (.int (v_s0 xa)), .val (.int (v_s1 xb)), .val (.int (v_s2 xc)), .val (.int (v_s3 xd)), .val (.int (v_s4 xe)), .val (.int (b2i (v_c0 pp))), .val (.int (b2i (v_c1 pp))), .val (.int (b2i (v_c2 pp))), .val (.int (b2i (v_c3 pp))), .val (.int (b2i (v_c4 pp))), .unset, .unset, .unset, .unset, .unset, .unset, .unset, .unset, .unset, .unset, .unset, .unset, .unset, .unset, .unset, .unset, .unset, .unset, .unset, .unset, .unset, .unset]
def v_ff (xa : Int32) (xb : Int32) (xc : Int32) (xd : Int32) (xe : Int32) : Int32 → Int32 := (@upA Int32 (@upA Int32 (@upA Int32 (@upA Int32 (@upA Int32 (fun _ => 0) (0 : Int32) (v_s0 xa)) (1 : Int32) (v_s1 xb)) (2 : Int32) (v_s2 xc)) (3 : Int32) (v_s3 xd)) (4 : Int32) (v_s4 xe))
def lo0_13 (pp : Int32) (xa : Int32) (xb : Int32) (xc : Int32) (xd : Int32) (xe : Int32) (b16 : Addr) : Array Slot := #[.val (.int pp), .val (.int xa), .val (.int xb), .val (.int xc), .val (.int xd), .val (.int xe), .val (.int (v_n pp)), .val (.int (v_j pp)), .val (.int (v_s0 xa)), .val (.int (v_s1 xb)), .val (.int (v_s2 xc)), .val (.int (v_s3 xd)), .val (.int (v_s4 xe)), .val (.int (b2i (v_c0 pp))), .val (.int (b2i (v_c1 pp))), .val (.int (b2i (v_c2 pp))), .val (.int (b2i (v_c3 pp))), .val (.int (b2i (v_c4 pp))), .val (.ref b16), .unset, .unset, .unset, .unset, .unset, .unset, .unset, .unset, .unset, .unset, .unset, .unset, .unset, .unset, .unset, .unset, .unset, .unset, .unset, .unset, .unset]
def v_gf  : Int32 → Int32 := (@upA Int32 (@upA Int32 (@upA Int32 (@upA Int32 (@upA Int32 (fun _ => 0) (0 : Int32) (1 : Int32)) (1 : Int32) (1 : Int32)) (2 : Int32) (1 : Int32)) (3 : Int32) (1 : Int32)) (4 : Int32) (1 : Int32))
def lo0_14 (pp : Int32) (xa : Int32) (xb : Int32) (xc : Int32) (xd : Int32) (xe : Int32) (b16 : Addr) (b22 : Addr) : Array Slot := #[.val (.int pp), .val (.int xa), .val (.int xb), .val (.int xc), .val (.int xd), .val (.int xe), .val (.int (v_n pp)), .val (.int (v_j pp)), .val (.int (v_s0 xa)), .val (.int (v_s1 xb)), .val (.int (v_s2 xc)), .val (.int (v_s3 xd)), .val (.int (v_s4 xe)), .val (.int (b2i (v_c0 pp))), .val (.int (b2i (v_c1 pp))), .val (.int (b2i (v_c2 pp))), .val (.int (b2i (v_c3 pp))), .val (.int (b2i (v_c4 pp))), .val (.ref b16), .val (.ref b22), .unset, .unset, .unset, .unset, .unset, .unset, .unset, .unset, .unset, .unset, .unset, .unset, .unset, .unset, .unset, .unset, .unset, .unset, .unset, .unset]
def lo0_15 (pp : Int32) (xa : Int32) (xb : Int32) (xc : Int32) (xd : Int32) (xe : Int32) (b16 : Addr) (b22 : Addr) (t29 : Addr) : Array Slot := #[.val (.int pp), .val (.int xa), .val (.int xb), .val (.int xc), .val (.int xd), .val (.int xe), .val (.int (v_n pp)), .val (.int (v_j pp)), .val (.int (v_s0 xa)), .val (.int (v_s1 xb)), .val (.int (v_s2 xc)), .val (.int (v_s3 xd)), .val (.int (v_s4 xe)), .val (.int (b2i (v_c0 pp))), .val (.int (b2i (v_c1 pp))), .val (.int (b2i (v_c2 pp))), .val (.int (b2i (v_c3 pp))), .val (.int (b2i (v_c4 pp))), .val (.ref b16), .val (.ref b22), .val (.ref t29), .unset, .unset, .unset, .unset, .unset, .unset, .unset, .unset, .unset, .unset, .unset, .unset, .unset, .unset, .unset, .unset, .unset, .unset, .unset]
def lo0_16 (pp : Int32) (xa : Int32) (xb : Int32) (xc : Int32) (xd : Int32) (xe : Int32) (b16 : Addr) (b22 : Addr) (t29 : Addr) (t30 : Addr) : Array Slot := #[.val (.int pp), .val (.int xa), .val (.int xb), .val (.int xc), .val (.int xd), .val (.int xe), .val (.int (v_n pp)), .val (.int (v_j pp)), .val (.int (v_s0 xa)), .val (.int (v_s1 xb)), .val (.int (v_s2 xc)), .val (.int (v_s3 xd)), .val (.int (v_s4 xe)), .val (.int (b2i (v_c0 pp))), .val (.int (b2i (v_c1 pp))), .val (.int (b2i (v_c2 pp))), .val (.int (b2i (v_c3 pp))), .val (.int (b2i (v_c4 pp))), .val (.ref b16), .val (.ref b22), .val (.ref t29), .val (.ref t30), .unset, .unset, .unset, .unset, .unset, .unset, .unset, .unset, .unset, .unset, .unset, .unset, .unset, .unset, .unset, .unset, .unset, .unset]
def v_zA (pp : Int32) (xa : Int32) : Int32 → Int32 := (if (0 : Int32) < (v_n pp) then (@upA Int32 (fun _ => 0) (0 : Int32) (v_s0 xa)) else (fun _ => 0))
def v_yA (pp : Int32) : Int32 → Int32 := (if (0 : Int32) < (v_n pp) then (@upA Int32 (fun _ => 0) (0 : Int32) (b2i (v_c0 pp))) else (fun _ => 0))
def v_zB (pp : Int32) (xa : Int32) (xb : Int32) : Int32 → Int32 := (if (1 : Int32) < (v_n pp) then (@upA Int32 (v_zA pp xa) (1 : Int32) (v_s1 xb)) else (v_zA pp xa))
def v_yB (pp : Int32) : Int32 → Int32 := (if (1 : Int32) < (v_n pp) then (@upA Int32 (v_yA pp) (1 : Int32) (b2i (v_c1 pp))) else (v_yA pp))
def v_zC (pp : Int32) (xa : Int32) (xb : Int32) (xc : Int32) : Int32 → Int32 := (if (2 : Int32) < (v_n pp) then (@upA Int32 (v_zB pp xa xb) (2 : Int32) (v_s2 xc)) else (v_zB pp xa xb))
def v_yC (pp : Int32) : Int32 → Int32 := (if (2 : Int32) < (v_n pp) then (@upA Int32 (v_yB pp) (2 : Int32) (b2i (v_c2 pp))) else (v_yB pp))
def v_zD (pp : Int32) (xa : Int32) (xb : Int32) (xc : Int32) (xd : Int32) : Int32 → Int32 := (if (3 : Int32) < (v_n pp) then (@upA Int32 (v_zC pp xa xb xc) (3 : Int32) (v_s3 xd)) else (v_zC pp xa xb xc))
def v_yD (pp : Int32) : Int32 → Int32 := (if (3 : Int32) < (v_n pp) then (@upA Int32 (v_yC pp) (3 : Int32) (b2i (v_c3 pp))) else (v_yC pp))
def v_zE (pp : Int32) (xa : Int32) (xb : Int32) (xc : Int32) (xd : Int32) (xe : Int32) : Int32 → Int32 := (if (4 : Int32) < (v_n pp) then (@upA Int32 (v_zD pp xa xb xc xd) (4 : Int32) (v_s4 xe)) else (v_zD pp xa xb xc xd))
def v_yE (pp : Int32) : Int32 → Int32 := (if (4 : Int32) < (v_n pp) then (@upA Int32 (v_yD pp) (4 : Int32) (b2i (v_c4 pp))) else (v_yD pp))
def v_e0 (pp : Int32) (xa : Int32) : Int64 := (if (0 : Int32) < (v_n pp) then (if (v_c0 pp) = true then ((v_s0 xa).toInt64) else (0 : Int64)) else (0 : Int64))
def lo0_17 (pp : Int32) (xa : Int32) (xb : Int32) (xc : Int32) (xd : Int32) (xe : Int32) (b16 : Addr) (b22 : Addr) (t29 : Addr) (t30 : Addr) : Array Slot := #[.val (.int pp), .val (.int xa), .val (.int xb), .val (.int xc), .val (.int xd), .val (.int xe), .val (.int (v_n pp)), .val (.int (v_j pp)), .val (.int (v_s0 xa)), .val (.int (v_s1 xb)), .val (.int (v_s2 xc)), .val (.int (v_s3 xd)), .val (.int (v_s4 xe)), .val (.int (b2i (v_c0 pp))), .val (.int (b2i (v_c1 pp))), .val (.int (b2i (v_c2 pp))), .val (.int (b2i (v_c3 pp))), .val (.int (b2i (v_c4 pp))), .val (.ref b16), .val (.ref b22), .val (.ref t29), .val (.ref t30), .val (.long (v_e0 pp xa)), .second, .unset, .unset, .unset, .unset, .unset, .unset, .unset, .unset, .unset, .unset, .unset, .unset, .unset, .unset, .unset, .unset]
def v_e1 (pp : Int32) (xb : Int32) : Int64 := (if (1 : Int32) < (v_n pp) then (if (v_c1 pp) = true then ((v_s1 xb).toInt64) else (0 : Int64)) else (0 : Int64))
def lo0_18 (pp : Int32) (xa : Int32) (xb : Int32) (xc : Int32) (xd : Int32) (xe : Int32) (b16 : Addr) (b22 : Addr) (t29 : Addr) (t30 : Addr) : Array Slot := #[.val (.int pp), .val (.int xa), .val (.int xb), .val (.int xc), .val (.int xd), .val (.int xe), .val (.int (v_n pp)), .val (.int (v_j pp)), .val (.int (v_s0 xa)), .val (.int (v_s1 xb)), .val (.int (v_s2 xc)), .val (.int (v_s3 xd)), .val (.int (v_s4 xe)), .val (.int (b2i (v_c0 pp))), .val (.int (b2i (v_c1 pp))), .val (.int (b2i (v_c2 pp))), .val (.int (b2i (v_c3 pp))), .val (.int (b2i (v_c4 pp))), .val (.ref b16), .val (.ref b22), .val (.ref t29), .val (.ref t30), .val (.long (v_e0 pp xa)), .second, .val (.long (v_e1 pp xb)), .second, .unset, .unset, .unset, .unset, .unset, .unset, .unset, .unset, .unset, .unset, .unset, .unset, .unset, .unset]
def v_e2 (pp : Int32) (xc : Int32) : Int64 := (if (2 : Int32) < (v_n pp) then (if (v_c2 pp) = true then ((v_s2 xc).toInt64) else (0 : Int64)) else (0 : Int64))
def lo0_19 (pp : Int32) (xa : Int32) (xb : Int32) (xc : Int32) (xd : Int32) (xe : Int32) (b16 : Addr) (b22 : Addr) (t29 : Addr) (t30 : Addr) : Array Slot := #[.val (.int pp), .val (.int xa), .val (.int xb), .val (.int xc), .val (.int xd), .val (.int xe), .val (.int (v_n pp)), .val (.int (v_j pp)), .val (.int (v_s0 xa)), .val (.int (v_s1 xb)), .val (.int (v_s2 xc)), .val (.int (v_s3 xd)), .val (.int (v_s4 xe)), .val (.int (b2i (v_c0 pp))), .val (.int (b2i (v_c1 pp))), .val (.int (b2i (v_c2 pp))), .val (.int (b2i (v_c3 pp))), .val (.int (b2i (v_c4 pp))), .val (.ref b16), .val (.ref b22), .val (.ref t29), .val (.ref t30), .val (.long (v_e0 pp xa)), .second, .val (.long (v_e1 pp xb)), .second, .val (.long (v_e2 pp xc)), .second, .unset, .unset, .unset, .unset, .unset, .unset, .unset, .unset, .unset, .unset, .unset, .unset]
def v_e3 (pp : Int32) (xd : Int32) : Int64 := (if (3 : Int32) < (v_n pp) then (if (v_c3 pp) = true then ((v_s3 xd).toInt64) else (0 : Int64)) else (0 : Int64))
def lo0_20 (pp : Int32) (xa : Int32) (xb : Int32) (xc : Int32) (xd : Int32) (xe : Int32) (b16 : Addr) (b22 : Addr) (t29 : Addr) (t30 : Addr) : Array Slot := #[.val (.int pp), .val (.int xa), .val (.int xb), .val (.int xc), .val (.int xd), .val (.int xe), .val (.int (v_n pp)), .val (.int (v_j pp)), .val (.int (v_s0 xa)), .val (.int (v_s1 xb)), .val (.int (v_s2 xc)), .val (.int (v_s3 xd)), .val (.int (v_s4 xe)), .val (.int (b2i (v_c0 pp))), .val (.int (b2i (v_c1 pp))), .val (.int (b2i (v_c2 pp))), .val (.int (b2i (v_c3 pp))), .val (.int (b2i (v_c4 pp))), .val (.ref b16), .val (.ref b22), .val (.ref t29), .val (.ref t30), .val (.long (v_e0 pp xa)), .second, .val (.long (v_e1 pp xb)), .second, .val (.long (v_e2 pp xc)), .second, .val (.long (v_e3 pp xd)), .second, .unset, .unset, .unset, .unset, .unset, .unset, .unset, .unset, .unset, .unset]
def v_e4 (pp : Int32) (xe : Int32) : Int64 := (if (4 : Int32) < (v_n pp) then (if (v_c4 pp) = true then ((v_s4 xe).toInt64) else (0 : Int64)) else (0 : Int64))
def lo0_21 (pp : Int32) (xa : Int32) (xb : Int32) (xc : Int32) (xd : Int32) (xe : Int32) (b16 : Addr) (b22 : Addr) (t29 : Addr) (t30 : Addr) : Array Slot := #[.val (.int pp), .val (.int xa), .val (.int xb), .val (.int xc), .val (.int xd), .val (.int xe), .val (.int (v_n pp)), .val (.int (v_j pp)), .val (.int (v_s0 xa)), .val (.int (v_s1 xb)), .val (.int (v_s2 xc)), .val (.int (v_s3 xd)), .val (.int (v_s4 xe)), .val (.int (b2i (v_c0 pp))), .val (.int (b2i (v_c1 pp))), .val (.int (b2i (v_c2 pp))), .val (.int (b2i (v_c3 pp))), .val (.int (b2i (v_c4 pp))), .val (.ref b16), .val (.ref b22), .val (.ref t29), .val (.ref t30), .val (.long (v_e0 pp xa)), .second, .val (.long (v_e1 pp xb)), .second, .val (.long (v_e2 pp xc)), .second, .val (.long (v_e3 pp xd)), .second, .val (.long (v_e4 pp xe)), .second, .unset, .unset, .unset, .unset, .unset, .unset, .unset, .unset]
def v_tot (pp : Int32) (xa : Int32) (xb : Int32) (xc : Int32) (xd : Int32) (xe : Int32) : Int64 := (((((v_e0 pp xa) + (v_e1 pp xb)) + (v_e2 pp xc)) + (v_e3 pp xd)) + (v_e4 pp xe))
def lo0_22 (pp : Int32) (xa : Int32) (xb : Int32) (xc : Int32) (xd : Int32) (xe : Int32) (b16 : Addr) (b22 : Addr) (t29 : Addr) (t30 : Addr) : Array Slot := #[.val (.int pp), .val (.int xa), .val (.int xb), .val (.int xc), .val (.int xd), .val (.int xe), .val (.int (v_n pp)), .val (.int (v_j pp)), .val (.int (v_s0 xa)), .val (.int (v_s1 xb)), .val (.int (v_s2 xc)), .val (.int (v_s3 xd)), .val (.int (v_s4 xe)), .val (.int (b2i (v_c0 pp))), .val (.int (b2i (v_c1 pp))), .val (.int (b2i (v_c2 pp))), .val (.int (b2i (v_c3 pp))), .val (.int (b2i (v_c4 pp))), .val (.ref b16), .val (.ref b22), .val (.ref t29), .val (.ref t30), .val (.long (v_e0 pp xa)), .second, .val (.long (v_e1 pp xb)), .second, .val (.long (v_e2 pp xc)), .second, .val (.long (v_e3 pp xd)), .second, .val (.long (v_e4 pp xe)), .second, .val (.long (v_tot pp xa xb xc xd xe)), .second, .unset, .unset, .unset, .unset, .unset, .unset]
def v_st (pp : Int32) (xa : Int32) (xb : Int32) (xc : Int32) (xd : Int32) : Int64 := ((((if (0 : Int32) < (v_j pp) then (v_e0 pp xa) else (0 : Int64)) + (if (1 : Int32) < (v_j pp) then (v_e1 pp xb) else (0 : Int64))) + (if (2 : Int32) < (v_j pp) then (v_e2 pp xc) else (0 : Int64))) + (if (3 : Int32) < (v_j pp) then (v_e3 pp xd) else (0 : Int64)))
def lo0_23 (pp : Int32) (xa : Int32) (xb : Int32) (xc : Int32) (xd : Int32) (xe : Int32) (b16 : Addr) (b22 : Addr) (t29 : Addr) (t30 : Addr) : Array Slot := #[.val (.int pp), .val (.int xa), .val (.int xb), .val (.int xc), .val (.int xd), .val (.int xe), .val (.int (v_n pp)), .val (.int (v_j pp)), .val (.int (v_s0 xa)), .val (.int (v_s1 xb)), .val (.int (v_s2 xc)), .val (.int (v_s3 xd)), .val (.int (v_s4 xe)), .val (.int (b2i (v_c0 pp))), .val (.int (b2i (v_c1 pp))), .val (.int (b2i (v_c2 pp))), .val (.int (b2i (v_c3 pp))), .val (.int (b2i (v_c4 pp))), .val (.ref b16), .val (.ref b22), .val (.ref t29), .val (.ref t30), .val (.long (v_e0 pp xa)), .second, .val (.long (v_e1 pp xb)), .second, .val (.long (v_e2 pp xc)), .second, .val (.long (v_e3 pp xd)), .second, .val (.long (v_e4 pp xe)), .second, .val (.long (v_tot pp xa xb xc xd xe)), .second, .val (.long (v_st pp xa xb xc xd)), .second, .unset, .unset, .unset, .unset]
def v_sh (pp : Int32) (xa : Int32) (xb : Int32) (xc : Int32) (xd : Int32) (xe : Int32) : Int64 := (if (v_j pp) = (0 : Int32) then (v_e0 pp xa) else (if (v_j pp) = (1 : Int32) then (v_e1 pp xb) else (if (v_j pp) = (2 : Int32) then (v_e2 pp xc) else (if (v_j pp) = (3 : Int32) then (v_e3 pp xd) else (v_e4 pp xe)))))
def lo0_24 (pp : Int32) (xa : Int32) (xb : Int32) (xc : Int32) (xd : Int32) (xe : Int32) (b16 : Addr) (b22 : Addr) (t29 : Addr) (t30 : Addr) : Array Slot := #[.val (.int pp), .val (.int xa), .val (.int xb), .val (.int xc), .val (.int xd), .val (.int xe), .val (.int (v_n pp)), .val (.int (v_j pp)), .val (.int (v_s0 xa)), .val (.int (v_s1 xb)), .val (.int (v_s2 xc)), .val (.int (v_s3 xd)), .val (.int (v_s4 xe)), .val (.int (b2i (v_c0 pp))), .val (.int (b2i (v_c1 pp))), .val (.int (b2i (v_c2 pp))), .val (.int (b2i (v_c3 pp))), .val (.int (b2i (v_c4 pp))), .val (.ref b16), .val (.ref b22), .val (.ref t29), .val (.ref t30), .val (.long (v_e0 pp xa)), .second, .val (.long (v_e1 pp xb)), .second, .val (.long (v_e2 pp xc)), .second, .val (.long (v_e3 pp xd)), .second, .val (.long (v_e4 pp xe)), .second, .val (.long (v_tot pp xa xb xc xd xe)), .second, .val (.long (v_st pp xa xb xc xd)), .second, .val (.long (v_sh pp xa xb xc xd xe)), .second, .unset, .unset]
def lo0_25 (pp : Int32) (xa : Int32) (xb : Int32) (xc : Int32) (xd : Int32) (xe : Int32) (b16 : Addr) (b22 : Addr) (t29 : Addr) (t30 : Addr) (b114 : Addr) : Array Slot := #[.val (.int pp), .val (.int xa), .val (.int xb), .val (.int xc), .val (.int xd), .val (.int xe), .val (.int (v_n pp)), .val (.int (v_j pp)), .val (.int (v_s0 xa)), .val (.int (v_s1 xb)), .val (.int (v_s2 xc)), .val (.int (v_s3 xd)), .val (.int (v_s4 xe)), .val (.int (b2i (v_c0 pp))), .val (.int (b2i (v_c1 pp))), .val (.int (b2i (v_c2 pp))), .val (.int (b2i (v_c3 pp))), .val (.int (b2i (v_c4 pp))), .val (.ref b16), .val (.ref b22), .val (.ref t29), .val (.ref t30), .val (.long (v_e0 pp xa)), .second, .val (.long (v_e1 pp xb)), .second, .val (.long (v_e2 pp xc)), .second, .val (.long (v_e3 pp xd)), .second, .val (.long (v_e4 pp xe)), .second, .val (.long (v_tot pp xa xb xc xd xe)), .second, .val (.long (v_st pp xa xb xc xd)), .second, .val (.long (v_sh pp xa xb xc xd xe)), .second, .val (.ref b114), .unset]
def v_t1 (xa : Int32) (xb : Int32) (xc : Int32) (xd : Int32) (xe : Int32) : Int64 := (Ffill_t (5 : Int32) (v_ff xa xb xc xd xe) v_gf)
def v_n1 (xa : Int32) (xb : Int32) (xc : Int32) (xd : Int32) (xe : Int32) : Int32 → Int64 := (Ffill_n (fun _ => 0) (5 : Int32) (v_ff xa xb xc xd xe) v_gf)
def v_h1 (xa : Int32) (xb : Int32) (xc : Int32) (xd : Int32) (xe : Int32) : Int32 → Int32 := (Ffill_s (fun _ => 0) (5 : Int32) (v_ff xa xb xc xd xe) v_gf)
def v_t2 (pp : Int32) (xa : Int32) (xb : Int32) (xc : Int32) (xd : Int32) (xe : Int32) : Int64 := (Ffill_t (v_n pp) (v_zE pp xa xb xc xd xe) (v_yE pp))
def v_n2 (pp : Int32) (xa : Int32) (xb : Int32) (xc : Int32) (xd : Int32) (xe : Int32) : Int32 → Int64 := (Ffill_n (v_n1 xa xb xc xd xe) (v_n pp) (v_zE pp xa xb xc xd xe) (v_yE pp))
def v_h2 (pp : Int32) (xa : Int32) (xb : Int32) (xc : Int32) (xd : Int32) (xe : Int32) : Int32 → Int32 := (Ffill_s (v_h1 xa xb xc xd xe) (v_n pp) (v_zE pp xa xb xc xd xe) (v_yE pp))
def v_ok (pp : Int32) (xa : Int32) (xb : Int32) (xc : Int32) (xd : Int32) (xe : Int32) : Bool := (if (Ftot (v_t2 pp xa xb xc xd xe)) = (v_tot pp xa xb xc xd xe) then true else false)
def lo0_26 (pp : Int32) (xa : Int32) (xb : Int32) (xc : Int32) (xd : Int32) (xe : Int32) (b16 : Addr) (b22 : Addr) (t29 : Addr) (t30 : Addr) (b114 : Addr) : Array Slot := #[.val (.int pp), .val (.int xa), .val (.int xb), .val (.int xc), .val (.int xd), .val (.int xe), .val (.int (v_n pp)), .val (.int (v_j pp)), .val (.int (v_s0 xa)), .val (.int (v_s1 xb)), .val (.int (v_s2 xc)), .val (.int (v_s3 xd)), .val (.int (v_s4 xe)), .val (.int (b2i (v_c0 pp))), .val (.int (b2i (v_c1 pp))), .val (.int (b2i (v_c2 pp))), .val (.int (b2i (v_c3 pp))), .val (.int (b2i (v_c4 pp))), .val (.ref b16), .val (.ref b22), .val (.ref t29), .val (.ref t30), .val (.long (v_e0 pp xa)), .second, .val (.long (v_e1 pp xb)), .second, .val (.long (v_e2 pp xc)), .second, .val (.long (v_e3 pp xd)), .second, .val (.long (v_e4 pp xe)), .second, .val (.long (v_tot pp xa xb xc xd xe)), .second, .val (.long (v_st pp xa xb xc xd)), .second, .val (.long (v_sh pp xa xb xc xd xe)), .second, .val (.ref b114), .val (.int (b2i (v_ok pp xa xb xc xd xe)))]
def lo0_27 (pp : Int32) (xa : Int32) (xb : Int32) (xc : Int32) (xd : Int32) (xe : Int32) (b16 : Addr) (b22 : Addr) (t29 : Addr) (t30 : Addr) (b114 : Addr) : Array Slot := #[.val (.int pp), .val (.int xa), .val (.int xb), .val (.int xc), .val (.int xd), .val (.int xe), .val (.int (v_n pp)), .val (.int (v_j pp)), .val (.int (v_s0 xa)), .val (.int (v_s1 xb)), .val (.int (v_s2 xc)), .val (.int (v_s3 xd)), .val (.int (v_s4 xe)), .val (.int (b2i (v_c0 pp))), .val (.int (b2i (v_c1 pp))), .val (.int (b2i (v_c2 pp))), .val (.int (b2i (v_c3 pp))), .val (.int (b2i (v_c4 pp))), .val (.ref b16), .val (.ref b22), .val (.ref t29), .val (.ref t30), .val (.long (v_e0 pp xa)), .second, .val (.long (v_e1 pp xb)), .second, .val (.long (v_e2 pp xc)), .second, .val (.long (v_e3 pp xd)), .second, .val (.long (v_e4 pp xe)), .second, .val (.long (v_tot pp xa xb xc xd xe)), .second, .val (.long (v_st pp xa xb xc xd)), .second, .val (.long (v_sh pp xa xb xc xd xe)), .second, .val (.ref b114), .val (.int (b2i (if (Fix (((v_st pp xa xb xc xd) + (v_sh pp xa xb xc xd xe)) - (1 : Int64)) (Fhob (5 : Int32)) (6 : Int32) (v_n2 pp xa xb xc xd xe)) = (v_j pp) then true else false)))]
def lo0_28 (pp : Int32) (xa : Int32) (xb : Int32) (xc : Int32) (xd : Int32) (xe : Int32) (b16 : Addr) (b22 : Addr) (t29 : Addr) (t30 : Addr) (b114 : Addr) : Array Slot := #[.val (.int pp), .val (.int xa), .val (.int xb), .val (.int xc), .val (.int xd), .val (.int xe), .val (.int (v_n pp)), .val (.int (v_j pp)), .val (.int (v_s0 xa)), .val (.int (v_s1 xb)), .val (.int (v_s2 xc)), .val (.int (v_s3 xd)), .val (.int (v_s4 xe)), .val (.int (b2i (v_c0 pp))), .val (.int (b2i (v_c1 pp))), .val (.int (b2i (v_c2 pp))), .val (.int (b2i (v_c3 pp))), .val (.int (b2i (v_c4 pp))), .val (.ref b16), .val (.ref b22), .val (.ref t29), .val (.ref t30), .val (.long (v_e0 pp xa)), .second, .val (.long (v_e1 pp xb)), .second, .val (.long (v_e2 pp xc)), .second, .val (.long (v_e3 pp xd)), .second, .val (.long (v_e4 pp xe)), .second, .val (.long (v_tot pp xa xb xc xd xe)), .second, .val (.long (v_st pp xa xb xc xd)), .second, .val (.long (v_sh pp xa xb xc xd xe)), .second, .val (.ref b114), .val (.int (0 : Int32))]
def v_ok2 (pp : Int32) (xa : Int32) (xb : Int32) (xc : Int32) (xd : Int32) (xe : Int32) : Bool := (if (0 : Int64) < (v_sh pp xa xb xc xd xe) then (if (v_ok pp xa xb xc xd xe) = true then (if (Fix (v_st pp xa xb xc xd) (Fhob (5 : Int32)) (6 : Int32) (v_n2 pp xa xb xc xd xe)) = (v_j pp) then (if (Fix (((v_st pp xa xb xc xd) + (v_sh pp xa xb xc xd xe)) - (1 : Int64)) (Fhob (5 : Int32)) (6 : Int32) (v_n2 pp xa xb xc xd xe)) = (v_j pp) then true else false) else false) else false) else (v_ok pp xa xb xc xd xe))
def lo0_29 (pp : Int32) (xa : Int32) (xb : Int32) (xc : Int32) (xd : Int32) (xe : Int32) (b16 : Addr) (b22 : Addr) (t29 : Addr) (t30 : Addr) (b114 : Addr) : Array Slot := #[.val (.int pp), .val (.int xa), .val (.int xb), .val (.int xc), .val (.int xd), .val (.int xe), .val (.int (v_n pp)), .val (.int (v_j pp)), .val (.int (v_s0 xa)), .val (.int (v_s1 xb)), .val (.int (v_s2 xc)), .val (.int (v_s3 xd)), .val (.int (v_s4 xe)), .val (.int (b2i (v_c0 pp))), .val (.int (b2i (v_c1 pp))), .val (.int (b2i (v_c2 pp))), .val (.int (b2i (v_c3 pp))), .val (.int (b2i (v_c4 pp))), .val (.ref b16), .val (.ref b22), .val (.ref t29), .val (.ref t30), .val (.long (v_e0 pp xa)), .second, .val (.long (v_e1 pp xb)), .second, .val (.long (v_e2 pp xc)), .second, .val (.long (v_e3 pp xd)), .second, .val (.long (v_e4 pp xe)), .second, .val (.long (v_tot pp xa xb xc xd xe)), .second, .val (.long (v_st pp xa xb xc xd)), .second, .val (.long (v_sh pp xa xb xc xd xe)), .second, .val (.ref b114), .val (.int (b2i (v_ok2 pp xa xb xc xd xe)))]
def v_t3 (pp : Int32) (xa : Int32) (xb : Int32) (xc : Int32) (xd : Int32) (xe : Int32) : Int64 := (Fset_t (v_j pp) (0 : Int32) (v_t2 pp xa xb xc xd xe) (v_h2 pp xa xb xc xd xe))
def v_n3 (pp : Int32) (xa : Int32) (xb : Int32) (xc : Int32) (xd : Int32) (xe : Int32) : Int32 → Int64 := (Fset_n (v_j pp) (0 : Int32) (6 : Int32) (v_n2 pp xa xb xc xd xe) (v_h2 pp xa xb xc xd xe))
def v_h3 (pp : Int32) (xa : Int32) (xb : Int32) (xc : Int32) (xd : Int32) (xe : Int32) : Int32 → Int32 := (Fset_s (v_j pp) (0 : Int32) (v_h2 pp xa xb xc xd xe))
def lawE1 (pp : Int32) (xa : Int32) (xb : Int32) (xc : Int32) (xd : Int32) (xe : Int32) : Bool := (if (Ftot (v_t3 pp xa xb xc xd xe)) = ((v_tot pp xa xb xc xd xe) - (v_sh pp xa xb xc xd xe)) then true else false)
theorem own_nv (pp : Int32) : 0 ≤ (v_n pp).toInt ∧ (v_n pp).toInt ≤ 5 := by
  have a := c_mask pp 7 3 (by decide) (by decide)
  have b := (c_irem (pp &&& 7) 6 6 (by decide)).1 (by omega)
  have e : v_n pp = (pp &&& 7) % 6 := rfl
  rw [e]; omega
theorem own_j5 (pp : Int32) : v_j pp = 0 ∨ v_j pp = 1 ∨ v_j pp = 2 ∨ v_j pp = 3 ∨ v_j pp = 4 := by
  have a := c_mask ((pp.toUInt32 >>> ((8 : Int32) &&& 31).toUInt32).toInt32) 7 3 (by decide) (by decide)
  have b := (c_irem (((pp.toUInt32 >>> ((8 : Int32) &&& 31).toUInt32).toInt32) &&& 7) 5 5 (by decide)).1 (by omega)
  have e : v_j pp = (((pp.toUInt32 >>> ((8 : Int32) &&& 31).toUInt32).toInt32) &&& 7) % 5 := rfl
  have l0 : (0 : Int32).toInt = 0 := by decide
  have l1 : (1 : Int32).toInt = 1 := by decide
  have l2 : (2 : Int32).toInt = 2 := by decide
  have l3 : (3 : Int32).toInt = 3 := by decide
  have l4 : (4 : Int32).toInt = 4 := by decide
  simp only [← Int32.toInt_inj, e, l0, l1, l2, l3, l4]
  omega
theorem own_sj (pp : Int32) : (¬ (v_j pp) < 0 ∧ (v_j pp) < (5 : Int32)) ∧ stOk (6 : Int32) 4 ((v_j pp) + (1 : Int32)) = true ∧ ¬ (stK (6 : Int32) 4 ((v_j pp) + (1 : Int32))) < (6 : Int32) := by
  rcases own_j5 pp with h | h | h | h | h <;> rw [h] <;> decide +kernel
theorem own_z0 (pp xa xb xc xd xe : Int32) (h : (0 : Int32) < v_n pp) : v_zE pp xa xb xc xd xe 0 = (v_s0 xa) := by
  have e4 : v_zE pp xa xb xc xd xe 0 = v_zD pp xa xb xc xd 0 := by
    unfold v_zE
    split
    · exact upA_miss (by decide)
    · rfl
  have e3 : v_zD pp xa xb xc xd 0 = v_zC pp xa xb xc 0 := by
    unfold v_zD
    split
    · exact upA_miss (by decide)
    · rfl
  have e2 : v_zC pp xa xb xc 0 = v_zB pp xa xb 0 := by
    unfold v_zC
    split
    · exact upA_miss (by decide)
    · rfl
  have e1 : v_zB pp xa xb 0 = v_zA pp xa 0 := by
    unfold v_zB
    split
    · exact upA_miss (by decide)
    · rfl
  rw [e4, e3, e2, e1]
  unfold v_zA
  rw [if_pos h]; exact upA_hit
theorem own_y0 (pp : Int32) (h : (0 : Int32) < v_n pp) : v_yE pp 0 = (b2i (v_c0 pp)) := by
  have e4 : v_yE pp 0 = v_yD pp 0 := by
    unfold v_yE
    split
    · exact upA_miss (by decide)
    · rfl
  have e3 : v_yD pp 0 = v_yC pp 0 := by
    unfold v_yD
    split
    · exact upA_miss (by decide)
    · rfl
  have e2 : v_yC pp 0 = v_yB pp 0 := by
    unfold v_yC
    split
    · exact upA_miss (by decide)
    · rfl
  have e1 : v_yB pp 0 = v_yA pp 0 := by
    unfold v_yB
    split
    · exact upA_miss (by decide)
    · rfl
  rw [e4, e3, e2, e1]
  unfold v_yA
  rw [if_pos h]; exact upA_hit
theorem own_z1 (pp xa xb xc xd xe : Int32) (h : (1 : Int32) < v_n pp) : v_zE pp xa xb xc xd xe 1 = (v_s1 xb) := by
  have e4 : v_zE pp xa xb xc xd xe 1 = v_zD pp xa xb xc xd 1 := by
    unfold v_zE
    split
    · exact upA_miss (by decide)
    · rfl
  have e3 : v_zD pp xa xb xc xd 1 = v_zC pp xa xb xc 1 := by
    unfold v_zD
    split
    · exact upA_miss (by decide)
    · rfl
  have e2 : v_zC pp xa xb xc 1 = v_zB pp xa xb 1 := by
    unfold v_zC
    split
    · exact upA_miss (by decide)
    · rfl
  rw [e4, e3, e2]
  unfold v_zB
  rw [if_pos h]; exact upA_hit
theorem own_y1 (pp : Int32) (h : (1 : Int32) < v_n pp) : v_yE pp 1 = (b2i (v_c1 pp)) := by
  have e4 : v_yE pp 1 = v_yD pp 1 := by
    unfold v_yE
    split
    · exact upA_miss (by decide)
    · rfl
  have e3 : v_yD pp 1 = v_yC pp 1 := by
    unfold v_yD
    split
    · exact upA_miss (by decide)
    · rfl
  have e2 : v_yC pp 1 = v_yB pp 1 := by
    unfold v_yC
    split
    · exact upA_miss (by decide)
    · rfl
  rw [e4, e3, e2]
  unfold v_yB
  rw [if_pos h]; exact upA_hit
theorem own_z2 (pp xa xb xc xd xe : Int32) (h : (2 : Int32) < v_n pp) : v_zE pp xa xb xc xd xe 2 = (v_s2 xc) := by
  have e4 : v_zE pp xa xb xc xd xe 2 = v_zD pp xa xb xc xd 2 := by
    unfold v_zE
    split
    · exact upA_miss (by decide)
    · rfl
  have e3 : v_zD pp xa xb xc xd 2 = v_zC pp xa xb xc 2 := by
    unfold v_zD
    split
    · exact upA_miss (by decide)
    · rfl
  rw [e4, e3]
  unfold v_zC
  rw [if_pos h]; exact upA_hit
theorem own_y2 (pp : Int32) (h : (2 : Int32) < v_n pp) : v_yE pp 2 = (b2i (v_c2 pp)) := by
  have e4 : v_yE pp 2 = v_yD pp 2 := by
    unfold v_yE
    split
    · exact upA_miss (by decide)
    · rfl
  have e3 : v_yD pp 2 = v_yC pp 2 := by
    unfold v_yD
    split
    · exact upA_miss (by decide)
    · rfl
  rw [e4, e3]
  unfold v_yC
  rw [if_pos h]; exact upA_hit
theorem own_z3 (pp xa xb xc xd xe : Int32) (h : (3 : Int32) < v_n pp) : v_zE pp xa xb xc xd xe 3 = (v_s3 xd) := by
  have e4 : v_zE pp xa xb xc xd xe 3 = v_zD pp xa xb xc xd 3 := by
    unfold v_zE
    split
    · exact upA_miss (by decide)
    · rfl
  rw [e4]
  unfold v_zD
  rw [if_pos h]; exact upA_hit
theorem own_y3 (pp : Int32) (h : (3 : Int32) < v_n pp) : v_yE pp 3 = (b2i (v_c3 pp)) := by
  have e4 : v_yE pp 3 = v_yD pp 3 := by
    unfold v_yE
    split
    · exact upA_miss (by decide)
    · rfl
  rw [e4]
  unfold v_yD
  rw [if_pos h]; exact upA_hit
theorem own_z4 (pp xa xb xc xd xe : Int32) (h : (4 : Int32) < v_n pp) : v_zE pp xa xb xc xd xe 4 = (v_s4 xe) := by
  unfold v_zE
  rw [if_pos h]; exact upA_hit
theorem own_y4 (pp : Int32) (h : (4 : Int32) < v_n pp) : v_yE pp 4 = (b2i (v_c4 pp)) := by
  unfold v_yE
  rw [if_pos h]; exact upA_hit
theorem own_g0 (pp xa xb xc xd xe : Int32) : (fl_s (v_n pp) (v_zE pp xa xb xc xd xe) (v_yE pp)).toInt64 = (v_e0 pp xa) := by
  unfold fl_s v_e0
  by_cases h : (0 : Int32) < v_n pp
  · rw [if_pos h, if_pos h, own_y0 pp h, own_z0 pp xa xb xc xd xe h]
    cases v_c0 pp
    · rw [if_pos (by decide), if_neg (by decide)]; decide
    · rw [if_neg (by decide), if_pos rfl]
  · rw [if_neg h, if_neg h]; decide
theorem own_e0 (pp xa : Int32) : 0 ≤ (v_e0 pp xa).toInt ∧ (v_e0 pp xa).toInt < 2147483648 := by
  have l0 : (0 : Int64).toInt = 0 := by decide
  have a := c_mask xa 2147483647 31 (by decide) (by decide)
  have b : (v_s0 xa).toInt64.toInt = (xa &&& 2147483647).toInt := c_i2l _
  unfold v_e0
  repeat' split
  all_goals omega
theorem own_g1 (pp xa xb xc xd xe : Int32) : (fl_s_1 (v_n pp) (v_zE pp xa xb xc xd xe) (v_yE pp)).toInt64 = (v_e1 pp xb) := by
  unfold fl_s_1 v_e1
  by_cases h : (1 : Int32) < v_n pp
  · rw [if_pos h, if_pos h, own_y1 pp h, own_z1 pp xa xb xc xd xe h]
    cases v_c1 pp
    · rw [if_pos (by decide), if_neg (by decide)]; decide
    · rw [if_neg (by decide), if_pos rfl]
  · rw [if_neg h, if_neg h]; decide
theorem own_e1 (pp xb : Int32) : 0 ≤ (v_e1 pp xb).toInt ∧ (v_e1 pp xb).toInt < 2147483648 := by
  have l0 : (0 : Int64).toInt = 0 := by decide
  have a := c_mask xb 2147483647 31 (by decide) (by decide)
  have b : (v_s1 xb).toInt64.toInt = (xb &&& 2147483647).toInt := c_i2l _
  unfold v_e1
  repeat' split
  all_goals omega
theorem own_g2 (pp xa xb xc xd xe : Int32) : (fl_s_2 (v_n pp) (v_zE pp xa xb xc xd xe) (v_yE pp)).toInt64 = (v_e2 pp xc) := by
  unfold fl_s_2 v_e2
  by_cases h : (2 : Int32) < v_n pp
  · rw [if_pos h, if_pos h, own_y2 pp h, own_z2 pp xa xb xc xd xe h]
    cases v_c2 pp
    · rw [if_pos (by decide), if_neg (by decide)]; decide
    · rw [if_neg (by decide), if_pos rfl]
  · rw [if_neg h, if_neg h]; decide
theorem own_e2 (pp xc : Int32) : 0 ≤ (v_e2 pp xc).toInt ∧ (v_e2 pp xc).toInt < 2147483648 := by
  have l0 : (0 : Int64).toInt = 0 := by decide
  have a := c_mask xc 2147483647 31 (by decide) (by decide)
  have b : (v_s2 xc).toInt64.toInt = (xc &&& 2147483647).toInt := c_i2l _
  unfold v_e2
  repeat' split
  all_goals omega
theorem own_g3 (pp xa xb xc xd xe : Int32) : (fl_s_3 (v_n pp) (v_zE pp xa xb xc xd xe) (v_yE pp)).toInt64 = (v_e3 pp xd) := by
  unfold fl_s_3 v_e3
  by_cases h : (3 : Int32) < v_n pp
  · rw [if_pos h, if_pos h, own_y3 pp h, own_z3 pp xa xb xc xd xe h]
    cases v_c3 pp
    · rw [if_pos (by decide), if_neg (by decide)]; decide
    · rw [if_neg (by decide), if_pos rfl]
  · rw [if_neg h, if_neg h]; decide
theorem own_e3 (pp xd : Int32) : 0 ≤ (v_e3 pp xd).toInt ∧ (v_e3 pp xd).toInt < 2147483648 := by
  have l0 : (0 : Int64).toInt = 0 := by decide
  have a := c_mask xd 2147483647 31 (by decide) (by decide)
  have b : (v_s3 xd).toInt64.toInt = (xd &&& 2147483647).toInt := c_i2l _
  unfold v_e3
  repeat' split
  all_goals omega
theorem own_g4 (pp xa xb xc xd xe : Int32) : (fl_s_4 (v_n pp) (v_zE pp xa xb xc xd xe) (v_yE pp)).toInt64 = (v_e4 pp xe) := by
  unfold fl_s_4 v_e4
  by_cases h : (4 : Int32) < v_n pp
  · rw [if_pos h, if_pos h, own_y4 pp h, own_z4 pp xa xb xc xd xe h]
    cases v_c4 pp
    · rw [if_pos (by decide), if_neg (by decide)]; decide
    · rw [if_neg (by decide), if_pos rfl]
  · rw [if_neg h, if_neg h]; decide
theorem own_e4 (pp xe : Int32) : 0 ≤ (v_e4 pp xe).toInt ∧ (v_e4 pp xe).toInt < 2147483648 := by
  have l0 : (0 : Int64).toInt = 0 := by decide
  have a := c_mask xe 2147483647 31 (by decide) (by decide)
  have b : (v_s4 xe).toInt64.toInt = (xe &&& 2147483647).toInt := c_i2l _
  unfold v_e4
  repeat' split
  all_goals omega
theorem own_t2 (pp xa xb xc xd xe : Int32) : v_t2 pp xa xb xc xd xe = v_tot pp xa xb xc xd xe := by
  unfold v_t2 Ffill_t v_tot
  rw [own_g0, own_g1, own_g2, own_g3, own_g4, Int64.zero_add]
theorem own_totv (pp xa xb xc xd xe : Int32) : (v_tot pp xa xb xc xd xe).toInt = (v_e0 pp xa).toInt + (v_e1 pp xb).toInt + (v_e2 pp xc).toInt + (v_e3 pp xd).toInt + (v_e4 pp xe).toInt := by
  have e0 := own_e0 pp xa
  have e1 := own_e1 pp xb
  have e2 := own_e2 pp xc
  have e3 := own_e3 pp xd
  have e4 := own_e4 pp xe
  unfold v_tot
  have a1 := c_ladd (v_e0 pp xa) (v_e1 pp xb)
  have b1 := rng64 ((v_e0 pp xa) + (v_e1 pp xb))
  have a2 := c_ladd ((v_e0 pp xa) + (v_e1 pp xb)) (v_e2 pp xc)
  have b2 := rng64 ((v_e0 pp xa) + (v_e1 pp xb) + (v_e2 pp xc))
  have a3 := c_ladd ((v_e0 pp xa) + (v_e1 pp xb) + (v_e2 pp xc)) (v_e3 pp xd)
  have b3 := rng64 ((v_e0 pp xa) + (v_e1 pp xb) + (v_e2 pp xc) + (v_e3 pp xd))
  have a4 := c_ladd ((v_e0 pp xa) + (v_e1 pp xb) + (v_e2 pp xc) + (v_e3 pp xd)) (v_e4 pp xe)
  have b4 := rng64 ((v_e0 pp xa) + (v_e1 pp xb) + (v_e2 pp xc) + (v_e3 pp xd) + (v_e4 pp xe))
  omega
theorem own_n2a (pp xa xb xc xd xe : Int32) : v_n2 pp xa xb xc xd xe 1 = (v_e0 pp xa) := by
  unfold v_n2 Ffill_n
  rw [upA_miss (by decide), upA_miss (by decide), upA_miss (by decide), upA_miss (by decide), upA_miss (by decide), upA_miss (by decide), upA_miss (by decide), upA_hit]
  exact own_g0 pp xa xb xc xd xe
theorem own_n2b (pp xa xb xc xd xe : Int32) : v_n2 pp xa xb xc xd xe 2 = (v_e1 pp xb) + (v_e0 pp xa) := by
  unfold v_n2 Ffill_n
  rw [upA_miss (by decide), upA_miss (by decide), upA_hit, own_g0, own_g1]
theorem own_n2c (pp xa xb xc xd xe : Int32) : v_n2 pp xa xb xc xd xe 3 = (v_e2 pp xc) := by
  unfold v_n2 Ffill_n
  rw [upA_miss (by decide), upA_miss (by decide), upA_miss (by decide), upA_miss (by decide), upA_miss (by decide), upA_hit]
  exact own_g2 pp xa xb xc xd xe
theorem own_n2d (pp xa xb xc xd xe : Int32) : v_n2 pp xa xb xc xd xe 4 = ((v_e3 pp xd) + ((v_e1 pp xb) + (v_e0 pp xa))) + (v_e2 pp xc) := by
  unfold v_n2 Ffill_n
  rw [upA_hit, own_g0, own_g1, own_g2, own_g3]
theorem own_n2e (pp xa xb xc xd xe : Int32) : v_n2 pp xa xb xc xd xe 5 = (v_e4 pp xe) := by
  unfold v_n2 Ffill_n
  rw [upA_miss (by decide), upA_miss (by decide), upA_miss (by decide), upA_hit]
  exact own_g4 pp xa xb xc xd xe
theorem own_at (pp xa xb xc xd xe : Int32) (pt : Int64) (x : Int) (hx : (0 ≤ pt.toInt ∧ pt.toInt < (v_e0 pp xa).toInt ∧ x = 0) ∨ ((v_e0 pp xa).toInt ≤ pt.toInt ∧ pt.toInt < (v_e0 pp xa).toInt + (v_e1 pp xb).toInt ∧ x = 1) ∨ ((v_e0 pp xa).toInt + (v_e1 pp xb).toInt ≤ pt.toInt ∧ pt.toInt < (v_e0 pp xa).toInt + (v_e1 pp xb).toInt + (v_e2 pp xc).toInt ∧ x = 2) ∨ ((v_e0 pp xa).toInt + (v_e1 pp xb).toInt + (v_e2 pp xc).toInt ≤ pt.toInt ∧ pt.toInt < (v_e0 pp xa).toInt + (v_e1 pp xb).toInt + (v_e2 pp xc).toInt + (v_e3 pp xd).toInt ∧ x = 3) ∨ ((v_e0 pp xa).toInt + (v_e1 pp xb).toInt + (v_e2 pp xc).toInt + (v_e3 pp xd).toInt ≤ pt.toInt ∧ pt.toInt < (v_e0 pp xa).toInt + (v_e1 pp xb).toInt + (v_e2 pp xc).toInt + (v_e3 pp xd).toInt + (v_e4 pp xe).toInt ∧ x = 4)) :
    (Fix pt (Fhob (5 : Int32)) (6 : Int32) (v_n2 pp xa xb xc xd xe)).toInt = x := by
  have e0 := own_e0 pp xa
  have e1 := own_e1 pp xb
  have e2 := own_e2 pp xc
  have e3 := own_e3 pp xd
  have e4 := own_e4 pp xe
  have a1 := c_ladd (v_e1 pp xb) (v_e0 pp xa)
  have b1 := rng64 ((v_e1 pp xb) + (v_e0 pp xa))
  have a2 := c_ladd (v_e3 pp xd) ((v_e1 pp xb) + (v_e0 pp xa))
  have b2 := rng64 ((v_e3 pp xd) + ((v_e1 pp xb) + (v_e0 pp xa)))
  have a3 := c_ladd ((v_e3 pp xd) + ((v_e1 pp xb) + (v_e0 pp xa))) (v_e2 pp xc)
  have b3 := rng64 ((v_e3 pp xd) + ((v_e1 pp xb) + (v_e0 pp xa)) + (v_e2 pp xc))
  show (ixS 6 (v_n2 pp xa xb xc xd xe) 5 0 pt (Fhob 5)).1.toInt = x
  rw [show Fhob 5 = 4 from by decide +kernel]
  exact own_ixc5 (v_n2 pp xa xb xc xd xe) (v_e0 pp xa).toInt (v_e1 pp xb).toInt (v_e2 pp xc).toInt (v_e3 pp xd).toInt (v_e4 pp xe).toInt e0 e1 e2 e3 e4 (by rw [own_n2a]) (by rw [own_n2b]; omega) (by rw [own_n2c]) (by rw [own_n2d]; omega) (by rw [own_n2e]) pt x hx
theorem own_jv (pp xa xb xc xd xe : Int32) : ∃ (A B : Int), (v_st pp xa xb xc xd).toInt = A ∧ (v_sh pp xa xb xc xd xe).toInt = B ∧ 0 ≤ A ∧ A ≤ 10000000000 ∧ 0 ≤ B ∧ B ≤ 2147483648 ∧
    ((v_j pp).toInt = 0 ∧ A = 0 ∧ B = (v_e0 pp xa).toInt ∨ (v_j pp).toInt = 1 ∧ A = (v_e0 pp xa).toInt ∧ B = (v_e1 pp xb).toInt ∨ (v_j pp).toInt = 2 ∧ A = (v_e0 pp xa).toInt + (v_e1 pp xb).toInt ∧ B = (v_e2 pp xc).toInt ∨ (v_j pp).toInt = 3 ∧ A = (v_e0 pp xa).toInt + (v_e1 pp xb).toInt + (v_e2 pp xc).toInt ∧ B = (v_e3 pp xd).toInt ∨ (v_j pp).toInt = 4 ∧ A = (v_e0 pp xa).toInt + (v_e1 pp xb).toInt + (v_e2 pp xc).toInt + (v_e3 pp xd).toInt ∧ B = (v_e4 pp xe).toInt) := by
  have e0 := own_e0 pp xa
  have e1 := own_e1 pp xb
  have e2 := own_e2 pp xc
  have e3 := own_e3 pp xd
  have e4 := own_e4 pp xe
  have l0 : (0 : Int64).toInt = 0 := by decide
  have add3 : ∀ (a b c d : Int64), 0 ≤ a.toInt ∧ a.toInt < 2147483648 → 0 ≤ b.toInt ∧ b.toInt < 2147483648 → 0 ≤ c.toInt ∧ c.toInt < 2147483648 → 0 ≤ d.toInt ∧ d.toInt < 2147483648 → (a + b + c + d).toInt = a.toInt + b.toInt + c.toInt + d.toInt := by
    intro a b c d ha hb hc hd
    have a1 := c_ladd a b
    have b1 := rng64 (a + b)
    have a2 := c_ladd (a + b) c
    have b2 := rng64 (a + b + c)
    have a3 := c_ladd (a + b + c) d
    have b3 := rng64 (a + b + c + d)
    omega
  have z : 0 ≤ (0 : Int64).toInt ∧ (0 : Int64).toInt < 2147483648 := by decide
  unfold v_st v_sh
  rcases own_j5 pp with h | h | h | h | h <;> rw [h]
  · rw [if_neg (by decide), if_neg (by decide), if_neg (by decide), if_neg (by decide), if_pos (by decide), add3 _ _ _ _ z z z z]
    exact ⟨_, _, rfl, rfl, by omega, by omega, by omega, by omega, Or.inl ⟨by decide, by omega, rfl⟩⟩
  · rw [if_pos (by decide), if_neg (by decide), if_neg (by decide), if_neg (by decide), if_neg (by decide), if_pos (by decide), add3 _ _ _ _ e0 z z z]
    exact ⟨_, _, rfl, rfl, by omega, by omega, by omega, by omega, Or.inr (Or.inl ⟨by decide, by omega, rfl⟩)⟩
  · rw [if_pos (by decide), if_pos (by decide), if_neg (by decide), if_neg (by decide), if_neg (by decide), if_neg (by decide), if_pos (by decide), add3 _ _ _ _ e0 e1 z z]
    exact ⟨_, _, rfl, rfl, by omega, by omega, by omega, by omega, Or.inr (Or.inr (Or.inl ⟨by decide, by omega, rfl⟩))⟩
  · rw [if_pos (by decide), if_pos (by decide), if_pos (by decide), if_neg (by decide), if_neg (by decide), if_neg (by decide), if_neg (by decide), if_pos (by decide), add3 _ _ _ _ e0 e1 e2 z]
    exact ⟨_, _, rfl, rfl, by omega, by omega, by omega, by omega, Or.inr (Or.inr (Or.inr (Or.inl ⟨by decide, by omega, rfl⟩)))⟩
  · rw [if_pos (by decide), if_pos (by decide), if_pos (by decide), if_pos (by decide), if_neg (by decide), if_neg (by decide), if_neg (by decide), if_neg (by decide), add3 _ _ _ _ e0 e1 e2 e3]
    exact ⟨_, _, rfl, rfl, by omega, by omega, by omega, by omega, Or.inr (Or.inr (Or.inr (Or.inr ⟨by decide, rfl, rfl⟩)))⟩
theorem own_ok1 (pp xa xb xc xd xe : Int32) : v_ok pp xa xb xc xd xe = true := if_pos (own_t2 pp xa xb xc xd xe)
theorem own_ok2 (pp xa xb xc xd xe : Int32) : v_ok2 pp xa xb xc xd xe = true := by
  have e0 := own_e0 pp xa
  have e1 := own_e1 pp xb
  have e2 := own_e2 pp xc
  have e3 := own_e3 pp xd
  have e4 := own_e4 pp xe
  obtain ⟨A, B, hA, hB, a0', a1', b0', b1', hj⟩ := own_jv pp xa xb xc xd xe
  unfold v_ok2
  by_cases q : (0 : Int64) < v_sh pp xa xb xc xd xe
  · have q' := q
    rw [Int64.lt_iff_toInt_lt, show (0 : Int64).toInt = 0 from by decide, hB] at q'
    rw [if_pos q, own_ok1 pp xa xb xc xd xe, if_pos rfl]
    have l1 : (1 : Int64).toInt = 1 := by decide
    have c1 := c_ladd (v_st pp xa xb xc xd) (v_sh pp xa xb xc xd xe)
    have d1 := rng64 (v_st pp xa xb xc xd + v_sh pp xa xb xc xd xe)
    have c2 := c_lsub (v_st pp xa xb xc xd + v_sh pp xa xb xc xd xe) 1
    have d2 := rng64 (v_st pp xa xb xc xd + v_sh pp xa xb xc xd xe - 1)
    rw [if_pos (by rw [← Int32.toInt_inj]; exact own_at pp xa xb xc xd xe _ _ (by omega)), if_pos (by rw [← Int32.toInt_inj]; exact own_at pp xa xb xc xd xe _ _ (by omega))]
  · rw [if_neg q]; exact own_ok1 pp xa xb xc xd xe
theorem own_h2 (pp xa xb xc xd xe : Int32) : (v_h2 pp xa xb xc xd xe (v_j pp)).toInt64.toInt = (v_sh pp xa xb xc xd xe).toInt := by
  unfold v_h2 Ffill_s v_sh
  rcases own_j5 pp with h | h | h | h | h <;> rw [h]
  · rw [upA_miss (by decide), upA_miss (by decide), upA_miss (by decide), upA_miss (by decide), upA_hit, own_g0, if_pos (by decide)]
  · rw [upA_miss (by decide), upA_miss (by decide), upA_miss (by decide), upA_hit, own_g1, if_neg (by decide), if_pos (by decide)]
  · rw [upA_miss (by decide), upA_miss (by decide), upA_hit, own_g2, if_neg (by decide), if_neg (by decide), if_pos (by decide)]
  · rw [upA_miss (by decide), upA_hit, own_g3, if_neg (by decide), if_neg (by decide), if_neg (by decide), if_pos (by decide)]
  · rw [upA_hit, own_g4, if_neg (by decide), if_neg (by decide), if_neg (by decide), if_neg (by decide)]
theorem own_law1 (pp xa xb xc xd xe : Int32) : lawE1 pp xa xb xc xd xe = true := by
  have e0 := own_e0 pp xa
  have e1 := own_e1 pp xb
  have e2 := own_e2 pp xc
  have e3 := own_e3 pp xd
  have e4 := own_e4 pp xe
  obtain ⟨A, B, hA, hB, a0', a1', b0', b1', hj⟩ := own_jv pp xa xb xc xd xe
  have tv := own_totv pp xa xb xc xd xe
  have hv := own_h2 pp xa xb xc xd xe
  rw [c_i2l] at hv
  refine if_pos ?_
  show v_t3 pp xa xb xc xd xe = _
  unfold v_t3 Fset_t
  have l0 : (0 : Int64).toInt = 0 := by decide
  have k0 : (0 : Int32).toInt = 0 := by decide
  have a := c_isub 0 (v_h2 pp xa xb xc xd xe (v_j pp))
  have b := rng32 (0 - v_h2 pp xa xb xc xd xe (v_j pp))
  have r := rng32 (v_h2 pp xa xb xc xd xe (v_j pp))
  have dv : (own_dl (v_j pp) 0 (v_h2 pp xa xb xc xd xe)).toInt = (0 - v_h2 pp xa xb xc xd xe (v_j pp)).toInt := c_i2l _
  have c := c_ladd (v_t2 pp xa xb xc xd xe) (own_dl (v_j pp) 0 (v_h2 pp xa xb xc xd xe))
  have d := rng64 (v_t2 pp xa xb xc xd xe + own_dl (v_j pp) 0 (v_h2 pp xa xb xc xd xe))
  have f := c_lsub (v_tot pp xa xb xc xd xe) (v_sh pp xa xb xc xd xe)
  have g := rng64 (v_tot pp xa xb xc xd xe - v_sh pp xa xb xc xd xe)
  rw [own_t2] at c d ⊢
  rw [← Int64.toInt_inj]
  by_cases q : own_dl (v_j pp) 0 (v_h2 pp xa xb xc xd xe) = 0
  · rw [if_pos q]
    rw [← Int64.toInt_inj, l0] at q
    omega
  · rw [if_neg q]; omega
theorem d1_0 : decode method_2_code 0 = .ok (.iload_n 0, 1) := by decide +kernel
theorem d1_1 : decode method_2_code 1 = .ok (.ifCond .ne 9, 3) := by decide +kernel
theorem d1_4 : decode method_2_code 4 = .ok (.iconst 0, 1) := by decide +kernel
theorem d1_5 : decode method_2_code 5 = .ok (.newarray .int, 2) := by decide +kernel
theorem d1_7 : decode method_2_code 7 = .ok (.goto 50, 3) := by decide +kernel
theorem d1_10 : decode method_2_code 10 = .ok (.iload_n 0, 1) := by decide +kernel
theorem d1_11 : decode method_2_code 11 = .ok (.iconst 1, 1) := by decide +kernel
theorem d1_12 : decode method_2_code 12 = .ok (.if_icmp .ne 9, 3) := by decide +kernel
theorem d1_15 : decode method_2_code 15 = .ok (.iconst 1, 1) := by decide +kernel
theorem d1_16 : decode method_2_code 16 = .ok (.newarray .int, 2) := by decide +kernel
theorem d1_18 : decode method_2_code 18 = .ok (.goto 39, 3) := by decide +kernel
theorem d1_21 : decode method_2_code 21 = .ok (.iload_n 0, 1) := by decide +kernel
theorem d1_22 : decode method_2_code 22 = .ok (.iconst 2, 1) := by decide +kernel
theorem d1_23 : decode method_2_code 23 = .ok (.if_icmp .ne 9, 3) := by decide +kernel
theorem d1_26 : decode method_2_code 26 = .ok (.iconst 2, 1) := by decide +kernel
theorem d1_27 : decode method_2_code 27 = .ok (.newarray .int, 2) := by decide +kernel
theorem d1_29 : decode method_2_code 29 = .ok (.goto 28, 3) := by decide +kernel
theorem d1_32 : decode method_2_code 32 = .ok (.iload_n 0, 1) := by decide +kernel
theorem d1_33 : decode method_2_code 33 = .ok (.iconst 3, 1) := by decide +kernel
theorem d1_34 : decode method_2_code 34 = .ok (.if_icmp .ne 9, 3) := by decide +kernel
theorem d1_37 : decode method_2_code 37 = .ok (.iconst 3, 1) := by decide +kernel
theorem d1_38 : decode method_2_code 38 = .ok (.newarray .int, 2) := by decide +kernel
theorem d1_40 : decode method_2_code 40 = .ok (.goto 17, 3) := by decide +kernel
theorem d1_43 : decode method_2_code 43 = .ok (.iload_n 0, 1) := by decide +kernel
theorem d1_44 : decode method_2_code 44 = .ok (.iconst 4, 1) := by decide +kernel
theorem d1_45 : decode method_2_code 45 = .ok (.if_icmp .ne 9, 3) := by decide +kernel
theorem d1_48 : decode method_2_code 48 = .ok (.iconst 4, 1) := by decide +kernel
theorem d1_49 : decode method_2_code 49 = .ok (.newarray .int, 2) := by decide +kernel
theorem d1_51 : decode method_2_code 51 = .ok (.goto 6, 3) := by decide +kernel
theorem d1_54 : decode method_2_code 54 = .ok (.iconst 5, 1) := by decide +kernel
theorem d1_55 : decode method_2_code 55 = .ok (.newarray .int, 2) := by decide +kernel
theorem d1_57 : decode method_2_code 57 = .ok (.areturn, 1) := by decide +kernel
theorem pn_1 : plainName "com/example/dealer/dealer/ChangingSharesFillPinLaw" = true := by first | (simp [plainName, overriddenIn]; done) | decide +kernel
theorem ef_1 (m : MethodId) (x0 : Int32) : entryFrame m #[(.int x0)] 1 = mkF m 0 #[.val (.int x0)] [] := by first | (simp [entryFrame, mkF, argsToLocals, Value.category]; done) | rfl
def Q1 (Z : State) (pn : Int32) (h0 : Heap) (n0 : Nat) (v : Option Value) (h : Heap) (L : List Loc) : Prop := ∃ b : Addr, v = some (.ref b) ∧ Fr n0 L ∧ AI Z h b .int pn (fun _ => 0) ∧ n0 ≤ b ∧ (∀ x : Addr, x < h0.size → x ≠ b) ∧ Keep h0 h []
set_option maxRecDepth 65536 in
set_option maxHeartbeats 40000000 in
theorem rm1 (l : Launch) (Z : State) (a0 : Array Value) (hw : ∀ d ∈ tables_1, d.before a0 Z = true) (ws : List Jvm.Cond) (pn : Int32) (h0 : Heap) (n0 : Nat) (Z0 : n0 ≤ h0.size) (hpn : 0 ≤ pn.toInt ∧ pn.toInt ≤ 5) :
    MetFree l (⟨"com/example/dealer/dealer/ChangingSharesFillPinLaw", "intsOf", "(I)[I"⟩ : MethodName) (head1 (Jvm.Cond.code (⟨"com/example/dealer/dealer/ChangingSharesFillPinLaw", "intsOf", "(I)[I"⟩ : MethodName) method_2_code 1 (some (.array .int)) :: ws) ({ frames := 0, cells := 1, slots := 5, locals := 0 } : Room)) (fun a U => a = #[(.int pn)] ∧ Z.Warmed39 U.vm ∧ U.heap = h0) (fun _ _ _ _ _ => True) (fun _ U o U' => ∃ v L, o = .returned v ∧ Q1 Z pn h0 n0 v U'.heap L ∧ FrameEnd U o U' L ({ frames := 0, cells := 1, slots := 5, locals := 0 } : Room).cells ({ frames := 0, cells := 1, slots := 5, locals := 0 } : Room).slots) := by
  refine MetFree.of_bodySF (plainFor_of_name pn_1) hisR ?_
  intro p e s m args below meth c s₁ Bd hml0 hP hK
  obtain ⟨rfl, hZ, hh⟩ := hP
  have hx := Bd.exec
  have hby := Bd.bytes
  have hml : c.maxLocals = 1 := hml0
  have hown : s.vm.findClass "com/example/dealer/dealer/ChangingSharesFillPinLaw" = some m.cls := findClass_of_methodNamed Bd.named
  have hnm := (name_of_methodNamed Bd.named Bd.method).1
  have X0 : Stand p l e ({ frames := 0, cells := 1, slots := 5, locals := 0 } : Room) s m #[(.int pn)] below meth c s₁ [] 0 0 := Stand.of_body Bd
  have e0 : s₁.heap = h0 := by rw [← hh, Bd.state]; rfl
  have N0 := Fr.nil n0
  have pre0 : ∀ t, Steps p.tables e below (s₁.setTop (mkF m 0 #[.val (.int pn)] [])) t → Steps p.tables e below (s₁.setTop (entryFrame m #[(.int pn)] 1)) t := fun t k => castTop (ef_1 m pn) k
  have pre1 : ∀ t, Steps p.tables e below (s₁.setTop (mkF m 1 #[.val (.int pn)] [(.int pn)])) t → Steps p.tables e below (s₁.setTop (entryFrame m #[(.int pn)] 1)) t := by
    intro t k
    refine pre0 t ?_
    show Steps p.tables e below (s₁.setTop (mkF m 0 #[.val (.int pn)] [])) _
    refine XS.iloadN X0.here hx rfl (hb hby d1_0) rfl ?_
    exact k
  by_cases hc2 : pn = (0 : Int32)
  ·
    obtain ⟨T3, h3, k3, X3, e3, E3, A3, st3⟩ := newP X0 hx hZ (hw _ (List.mem_of_getElem? (i := 1) rfl)) e0 (g := (mkF m 5 #[.val (.int pn)] [(.int (0 : Int32))])) rfl (hb hby d1_5) rfl (by decide) (cap := 0) (by decide) (by decide) (by decide) (by decide)
    obtain ⟨b3, g3⟩ : ∃ z, z = h0.size := ⟨_, rfl⟩
    rw [← g3] at A3 st3
    have ge_b3 : n0 ≤ b3 := Nat.le_trans Z0 (Nat.le_of_eq g3.symm)
    have sz_b3 : h0.size ≤ b3 := Nat.le_trans (Keep.refl h0 []).1 (Nat.le_of_eq g3.symm)
    have Z3 : n0 ≤ h3.size := Nat.le_trans Z0 E3.1
    have K3 := (Keep.refl h0 []).ext E3
    have V3 := AI.new A3 (by decide)
    have pre4 : ∀ t, Steps p.tables e below (T3.setTop (mkF m 57 #[.val (.int pn)] [(.ref b3)])) t → Steps p.tables e below (s₁.setTop (entryFrame m #[(.int pn)] 1)) t := by
      intro t k
      refine pre1 t ?_
      show Steps p.tables e below (s₁.setTop (mkF m 1 #[.val (.int pn)] [(.int pn)])) _
      refine XS.ifNo X0.here hx rfl (hb hby d1_1) rfl ((if0 _ _).trans (teq hc2).2) ?_
      show Steps p.tables e below (s₁.setTop (mkF m 4 #[.val (.int pn)] [])) _
      refine XS.iconst X0.here hx rfl (hb hby d1_4) ?_
      show Steps p.tables e below (s₁.setTop (mkF m 5 #[.val (.int pn)] [(.int (0 : Int32))])) _
      refine st3 _ ?_
      show Steps p.tables e below (T3.setTop (mkF m 7 #[.val (.int pn)] [(.ref b3)])) _
      refine XS.goto X3.here hx rfl (pc0 := 7) (pc' := 57) rfl (hb hby d1_7) (by decide) (by decide) ?_
      exact k
    obtain ⟨fs, hr, hrun, hended, hW, hsame⟩ := X3.leave (v := some (.ref b3)) (fun h => by rw [Bd.returns] at h; cases h) (BodyLoose.notSynchronized Bd)
    refine ⟨_, _, pre4 _ ?_, hrun, hended, _, _, rfl, ?_, ⟨_, rfl⟩, hW, hsame.mono (by decide) (by decide)⟩
    · show Steps p.tables e below (T3.setTop (mkF m 57 #[.val (.int pn)] [(.ref b3)])) _
      jvm_step X3.here [X3.here.top, hx, (hb hby d1_57), X3.method', Bd.returns, Value.isRef, FieldType.isReference]
      first | (intro acts; rw [hr _ acts rfl rfl rfl]) | rw [hr _ _ rfl rfl rfl]
      exact Steps.refl _
    · show Q1 Z pn h0 n0 _ T3.heap _
      rw [e3]
      exact ⟨b3, rfl, N0, (by rw [(show pn = (0 : Int32) from hc2)]; exact V3), ge_b3, fun x hx => Nat.ne_of_lt (Nat.lt_of_lt_of_le hx sz_b3), K3⟩
  ·
    have pre5 : ∀ t, Steps p.tables e below (s₁.setTop (mkF m 12 #[.val (.int pn)] [(.int (1 : Int32)), (.int pn)])) t → Steps p.tables e below (s₁.setTop (entryFrame m #[(.int pn)] 1)) t := by
      intro t k
      refine pre1 t ?_
      show Steps p.tables e below (s₁.setTop (mkF m 1 #[.val (.int pn)] [(.int pn)])) _
      refine XS.ifYes X0.here hx rfl (pc0 := 1) (pc' := 10) rfl (hb hby d1_1) rfl ((if0 _ _).trans (feq hc2).2) (by decide) (by decide) ?_
      show Steps p.tables e below (s₁.setTop (mkF m 10 #[.val (.int pn)] [])) _
      refine XS.iloadN X0.here hx rfl (hb hby d1_10) rfl ?_
      show Steps p.tables e below (s₁.setTop (mkF m 11 #[.val (.int pn)] [(.int pn)])) _
      refine XS.iconst X0.here hx rfl (hb hby d1_11) ?_
      exact k
    by_cases hc6 : pn = (1 : Int32)
    ·
      obtain ⟨T7, h7, k7, X7, e7, E7, A7, st7⟩ := newP X0 hx hZ (hw _ (List.mem_of_getElem? (i := 1) rfl)) e0 (g := (mkF m 16 #[.val (.int pn)] [(.int (1 : Int32))])) rfl (hb hby d1_16) rfl (by decide) (cap := 1) (by decide) (by decide) (by decide) (by decide)
      obtain ⟨b7, g7⟩ : ∃ z, z = h0.size := ⟨_, rfl⟩
      rw [← g7] at A7 st7
      have ge_b7 : n0 ≤ b7 := Nat.le_trans Z0 (Nat.le_of_eq g7.symm)
      have sz_b7 : h0.size ≤ b7 := Nat.le_trans (Keep.refl h0 []).1 (Nat.le_of_eq g7.symm)
      have Z7 : n0 ≤ h7.size := Nat.le_trans Z0 E7.1
      have K7 := (Keep.refl h0 []).ext E7
      have V7 := AI.new A7 (by decide)
      have pre8 : ∀ t, Steps p.tables e below (T7.setTop (mkF m 57 #[.val (.int pn)] [(.ref b7)])) t → Steps p.tables e below (s₁.setTop (entryFrame m #[(.int pn)] 1)) t := by
        intro t k
        refine pre5 t ?_
        show Steps p.tables e below (s₁.setTop (mkF m 12 #[.val (.int pn)] [(.int (1 : Int32)), (.int pn)])) _
        refine XS.icmpNo X0.here hx rfl (hb hby d1_12) rfl (teq hc6).2 ?_
        show Steps p.tables e below (s₁.setTop (mkF m 15 #[.val (.int pn)] [])) _
        refine XS.iconst X0.here hx rfl (hb hby d1_15) ?_
        show Steps p.tables e below (s₁.setTop (mkF m 16 #[.val (.int pn)] [(.int (1 : Int32))])) _
        refine st7 _ ?_
        show Steps p.tables e below (T7.setTop (mkF m 18 #[.val (.int pn)] [(.ref b7)])) _
        refine XS.goto X7.here hx rfl (pc0 := 18) (pc' := 57) rfl (hb hby d1_18) (by decide) (by decide) ?_
        exact k
      obtain ⟨fs, hr, hrun, hended, hW, hsame⟩ := X7.leave (v := some (.ref b7)) (fun h => by rw [Bd.returns] at h; cases h) (BodyLoose.notSynchronized Bd)
      refine ⟨_, _, pre8 _ ?_, hrun, hended, _, _, rfl, ?_, ⟨_, rfl⟩, hW, hsame.mono (by decide) (by decide)⟩
      · show Steps p.tables e below (T7.setTop (mkF m 57 #[.val (.int pn)] [(.ref b7)])) _
        jvm_step X7.here [X7.here.top, hx, (hb hby d1_57), X7.method', Bd.returns, Value.isRef, FieldType.isReference]
        first | (intro acts; rw [hr _ acts rfl rfl rfl]) | rw [hr _ _ rfl rfl rfl]
        exact Steps.refl _
      · show Q1 Z pn h0 n0 _ T7.heap _
        rw [e7]
        exact ⟨b7, rfl, N0, (by rw [(show pn = (1 : Int32) from hc6)]; exact V7), ge_b7, fun x hx => Nat.ne_of_lt (Nat.lt_of_lt_of_le hx sz_b7), K7⟩
    ·
      have pre9 : ∀ t, Steps p.tables e below (s₁.setTop (mkF m 23 #[.val (.int pn)] [(.int (2 : Int32)), (.int pn)])) t → Steps p.tables e below (s₁.setTop (entryFrame m #[(.int pn)] 1)) t := by
        intro t k
        refine pre5 t ?_
        show Steps p.tables e below (s₁.setTop (mkF m 12 #[.val (.int pn)] [(.int (1 : Int32)), (.int pn)])) _
        refine XS.icmpYes X0.here hx rfl (pc0 := 12) (pc' := 21) rfl (hb hby d1_12) rfl (feq hc6).2 (by decide) (by decide) ?_
        show Steps p.tables e below (s₁.setTop (mkF m 21 #[.val (.int pn)] [])) _
        refine XS.iloadN X0.here hx rfl (hb hby d1_21) rfl ?_
        show Steps p.tables e below (s₁.setTop (mkF m 22 #[.val (.int pn)] [(.int pn)])) _
        refine XS.iconst X0.here hx rfl (hb hby d1_22) ?_
        exact k
      by_cases hc10 : pn = (2 : Int32)
      ·
        obtain ⟨T11, h11, k11, X11, e11, E11, A11, st11⟩ := newP X0 hx hZ (hw _ (List.mem_of_getElem? (i := 1) rfl)) e0 (g := (mkF m 27 #[.val (.int pn)] [(.int (2 : Int32))])) rfl (hb hby d1_27) rfl (by decide) (cap := 2) (by decide) (by decide) (by decide) (by decide)
        obtain ⟨b11, g11⟩ : ∃ z, z = h0.size := ⟨_, rfl⟩
        rw [← g11] at A11 st11
        have ge_b11 : n0 ≤ b11 := Nat.le_trans Z0 (Nat.le_of_eq g11.symm)
        have sz_b11 : h0.size ≤ b11 := Nat.le_trans (Keep.refl h0 []).1 (Nat.le_of_eq g11.symm)
        have Z11 : n0 ≤ h11.size := Nat.le_trans Z0 E11.1
        have K11 := (Keep.refl h0 []).ext E11
        have V11 := AI.new A11 (by decide)
        have pre12 : ∀ t, Steps p.tables e below (T11.setTop (mkF m 57 #[.val (.int pn)] [(.ref b11)])) t → Steps p.tables e below (s₁.setTop (entryFrame m #[(.int pn)] 1)) t := by
          intro t k
          refine pre9 t ?_
          show Steps p.tables e below (s₁.setTop (mkF m 23 #[.val (.int pn)] [(.int (2 : Int32)), (.int pn)])) _
          refine XS.icmpNo X0.here hx rfl (hb hby d1_23) rfl (teq hc10).2 ?_
          show Steps p.tables e below (s₁.setTop (mkF m 26 #[.val (.int pn)] [])) _
          refine XS.iconst X0.here hx rfl (hb hby d1_26) ?_
          show Steps p.tables e below (s₁.setTop (mkF m 27 #[.val (.int pn)] [(.int (2 : Int32))])) _
          refine st11 _ ?_
          show Steps p.tables e below (T11.setTop (mkF m 29 #[.val (.int pn)] [(.ref b11)])) _
          refine XS.goto X11.here hx rfl (pc0 := 29) (pc' := 57) rfl (hb hby d1_29) (by decide) (by decide) ?_
          exact k
        obtain ⟨fs, hr, hrun, hended, hW, hsame⟩ := X11.leave (v := some (.ref b11)) (fun h => by rw [Bd.returns] at h; cases h) (BodyLoose.notSynchronized Bd)
        refine ⟨_, _, pre12 _ ?_, hrun, hended, _, _, rfl, ?_, ⟨_, rfl⟩, hW, hsame.mono (by decide) (by decide)⟩
        · show Steps p.tables e below (T11.setTop (mkF m 57 #[.val (.int pn)] [(.ref b11)])) _
          jvm_step X11.here [X11.here.top, hx, (hb hby d1_57), X11.method', Bd.returns, Value.isRef, FieldType.isReference]
          first | (intro acts; rw [hr _ acts rfl rfl rfl]) | rw [hr _ _ rfl rfl rfl]
          exact Steps.refl _
        · show Q1 Z pn h0 n0 _ T11.heap _
          rw [e11]
          exact ⟨b11, rfl, N0, (by rw [(show pn = (2 : Int32) from hc10)]; exact V11), ge_b11, fun x hx => Nat.ne_of_lt (Nat.lt_of_lt_of_le hx sz_b11), K11⟩
      ·
        have pre13 : ∀ t, Steps p.tables e below (s₁.setTop (mkF m 34 #[.val (.int pn)] [(.int (3 : Int32)), (.int pn)])) t → Steps p.tables e below (s₁.setTop (entryFrame m #[(.int pn)] 1)) t := by
          intro t k
          refine pre9 t ?_
          show Steps p.tables e below (s₁.setTop (mkF m 23 #[.val (.int pn)] [(.int (2 : Int32)), (.int pn)])) _
          refine XS.icmpYes X0.here hx rfl (pc0 := 23) (pc' := 32) rfl (hb hby d1_23) rfl (feq hc10).2 (by decide) (by decide) ?_
          show Steps p.tables e below (s₁.setTop (mkF m 32 #[.val (.int pn)] [])) _
          refine XS.iloadN X0.here hx rfl (hb hby d1_32) rfl ?_
          show Steps p.tables e below (s₁.setTop (mkF m 33 #[.val (.int pn)] [(.int pn)])) _
          refine XS.iconst X0.here hx rfl (hb hby d1_33) ?_
          exact k
        by_cases hc14 : pn = (3 : Int32)
        ·
          obtain ⟨T15, h15, k15, X15, e15, E15, A15, st15⟩ := newP X0 hx hZ (hw _ (List.mem_of_getElem? (i := 1) rfl)) e0 (g := (mkF m 38 #[.val (.int pn)] [(.int (3 : Int32))])) rfl (hb hby d1_38) rfl (by decide) (cap := 3) (by decide) (by decide) (by decide) (by decide)
          obtain ⟨b15, g15⟩ : ∃ z, z = h0.size := ⟨_, rfl⟩
          rw [← g15] at A15 st15
          have ge_b15 : n0 ≤ b15 := Nat.le_trans Z0 (Nat.le_of_eq g15.symm)
          have sz_b15 : h0.size ≤ b15 := Nat.le_trans (Keep.refl h0 []).1 (Nat.le_of_eq g15.symm)
          have Z15 : n0 ≤ h15.size := Nat.le_trans Z0 E15.1
          have K15 := (Keep.refl h0 []).ext E15
          have V15 := AI.new A15 (by decide)
          have pre16 : ∀ t, Steps p.tables e below (T15.setTop (mkF m 57 #[.val (.int pn)] [(.ref b15)])) t → Steps p.tables e below (s₁.setTop (entryFrame m #[(.int pn)] 1)) t := by
            intro t k
            refine pre13 t ?_
            show Steps p.tables e below (s₁.setTop (mkF m 34 #[.val (.int pn)] [(.int (3 : Int32)), (.int pn)])) _
            refine XS.icmpNo X0.here hx rfl (hb hby d1_34) rfl (teq hc14).2 ?_
            show Steps p.tables e below (s₁.setTop (mkF m 37 #[.val (.int pn)] [])) _
            refine XS.iconst X0.here hx rfl (hb hby d1_37) ?_
            show Steps p.tables e below (s₁.setTop (mkF m 38 #[.val (.int pn)] [(.int (3 : Int32))])) _
            refine st15 _ ?_
            show Steps p.tables e below (T15.setTop (mkF m 40 #[.val (.int pn)] [(.ref b15)])) _
            refine XS.goto X15.here hx rfl (pc0 := 40) (pc' := 57) rfl (hb hby d1_40) (by decide) (by decide) ?_
            exact k
          obtain ⟨fs, hr, hrun, hended, hW, hsame⟩ := X15.leave (v := some (.ref b15)) (fun h => by rw [Bd.returns] at h; cases h) (BodyLoose.notSynchronized Bd)
          refine ⟨_, _, pre16 _ ?_, hrun, hended, _, _, rfl, ?_, ⟨_, rfl⟩, hW, hsame.mono (by decide) (by decide)⟩
          · show Steps p.tables e below (T15.setTop (mkF m 57 #[.val (.int pn)] [(.ref b15)])) _
            jvm_step X15.here [X15.here.top, hx, (hb hby d1_57), X15.method', Bd.returns, Value.isRef, FieldType.isReference]
            first | (intro acts; rw [hr _ acts rfl rfl rfl]) | rw [hr _ _ rfl rfl rfl]
            exact Steps.refl _
          · show Q1 Z pn h0 n0 _ T15.heap _
            rw [e15]
            exact ⟨b15, rfl, N0, (by rw [(show pn = (3 : Int32) from hc14)]; exact V15), ge_b15, fun x hx => Nat.ne_of_lt (Nat.lt_of_lt_of_le hx sz_b15), K15⟩
        ·
          have pre17 : ∀ t, Steps p.tables e below (s₁.setTop (mkF m 45 #[.val (.int pn)] [(.int (4 : Int32)), (.int pn)])) t → Steps p.tables e below (s₁.setTop (entryFrame m #[(.int pn)] 1)) t := by
            intro t k
            refine pre13 t ?_
            show Steps p.tables e below (s₁.setTop (mkF m 34 #[.val (.int pn)] [(.int (3 : Int32)), (.int pn)])) _
            refine XS.icmpYes X0.here hx rfl (pc0 := 34) (pc' := 43) rfl (hb hby d1_34) rfl (feq hc14).2 (by decide) (by decide) ?_
            show Steps p.tables e below (s₁.setTop (mkF m 43 #[.val (.int pn)] [])) _
            refine XS.iloadN X0.here hx rfl (hb hby d1_43) rfl ?_
            show Steps p.tables e below (s₁.setTop (mkF m 44 #[.val (.int pn)] [(.int pn)])) _
            refine XS.iconst X0.here hx rfl (hb hby d1_44) ?_
            exact k
          by_cases hc18 : pn = (4 : Int32)
          ·
            obtain ⟨T19, h19, k19, X19, e19, E19, A19, st19⟩ := newP X0 hx hZ (hw _ (List.mem_of_getElem? (i := 1) rfl)) e0 (g := (mkF m 49 #[.val (.int pn)] [(.int (4 : Int32))])) rfl (hb hby d1_49) rfl (by decide) (cap := 4) (by decide) (by decide) (by decide) (by decide)
            obtain ⟨b19, g19⟩ : ∃ z, z = h0.size := ⟨_, rfl⟩
            rw [← g19] at A19 st19
            have ge_b19 : n0 ≤ b19 := Nat.le_trans Z0 (Nat.le_of_eq g19.symm)
            have sz_b19 : h0.size ≤ b19 := Nat.le_trans (Keep.refl h0 []).1 (Nat.le_of_eq g19.symm)
            have Z19 : n0 ≤ h19.size := Nat.le_trans Z0 E19.1
            have K19 := (Keep.refl h0 []).ext E19
            have V19 := AI.new A19 (by decide)
            have pre20 : ∀ t, Steps p.tables e below (T19.setTop (mkF m 57 #[.val (.int pn)] [(.ref b19)])) t → Steps p.tables e below (s₁.setTop (entryFrame m #[(.int pn)] 1)) t := by
              intro t k
              refine pre17 t ?_
              show Steps p.tables e below (s₁.setTop (mkF m 45 #[.val (.int pn)] [(.int (4 : Int32)), (.int pn)])) _
              refine XS.icmpNo X0.here hx rfl (hb hby d1_45) rfl (teq hc18).2 ?_
              show Steps p.tables e below (s₁.setTop (mkF m 48 #[.val (.int pn)] [])) _
              refine XS.iconst X0.here hx rfl (hb hby d1_48) ?_
              show Steps p.tables e below (s₁.setTop (mkF m 49 #[.val (.int pn)] [(.int (4 : Int32))])) _
              refine st19 _ ?_
              show Steps p.tables e below (T19.setTop (mkF m 51 #[.val (.int pn)] [(.ref b19)])) _
              refine XS.goto X19.here hx rfl (pc0 := 51) (pc' := 57) rfl (hb hby d1_51) (by decide) (by decide) ?_
              exact k
            obtain ⟨fs, hr, hrun, hended, hW, hsame⟩ := X19.leave (v := some (.ref b19)) (fun h => by rw [Bd.returns] at h; cases h) (BodyLoose.notSynchronized Bd)
            refine ⟨_, _, pre20 _ ?_, hrun, hended, _, _, rfl, ?_, ⟨_, rfl⟩, hW, hsame.mono (by decide) (by decide)⟩
            · show Steps p.tables e below (T19.setTop (mkF m 57 #[.val (.int pn)] [(.ref b19)])) _
              jvm_step X19.here [X19.here.top, hx, (hb hby d1_57), X19.method', Bd.returns, Value.isRef, FieldType.isReference]
              first | (intro acts; rw [hr _ acts rfl rfl rfl]) | rw [hr _ _ rfl rfl rfl]
              exact Steps.refl _
            · show Q1 Z pn h0 n0 _ T19.heap _
              rw [e19]
              exact ⟨b19, rfl, N0, (by rw [(show pn = (4 : Int32) from hc18)]; exact V19), ge_b19, fun x hx => Nat.ne_of_lt (Nat.lt_of_lt_of_le hx sz_b19), K19⟩
          ·
            obtain ⟨T21, h21, k21, X21, e21, E21, A21, st21⟩ := newP X0 hx hZ (hw _ (List.mem_of_getElem? (i := 1) rfl)) e0 (g := (mkF m 55 #[.val (.int pn)] [(.int (5 : Int32))])) rfl (hb hby d1_55) rfl (by decide) (cap := 5) (by decide) (by decide) (by decide) (by decide)
            obtain ⟨b21, g21⟩ : ∃ z, z = h0.size := ⟨_, rfl⟩
            rw [← g21] at A21 st21
            have ge_b21 : n0 ≤ b21 := Nat.le_trans Z0 (Nat.le_of_eq g21.symm)
            have sz_b21 : h0.size ≤ b21 := Nat.le_trans (Keep.refl h0 []).1 (Nat.le_of_eq g21.symm)
            have Z21 : n0 ≤ h21.size := Nat.le_trans Z0 E21.1
            have K21 := (Keep.refl h0 []).ext E21
            have V21 := AI.new A21 (by decide)
            have pre22 : ∀ t, Steps p.tables e below (T21.setTop (mkF m 57 #[.val (.int pn)] [(.ref b21)])) t → Steps p.tables e below (s₁.setTop (entryFrame m #[(.int pn)] 1)) t := by
              intro t k
              refine pre17 t ?_
              show Steps p.tables e below (s₁.setTop (mkF m 45 #[.val (.int pn)] [(.int (4 : Int32)), (.int pn)])) _
              refine XS.icmpYes X0.here hx rfl (pc0 := 45) (pc' := 54) rfl (hb hby d1_45) rfl (feq hc18).2 (by decide) (by decide) ?_
              show Steps p.tables e below (s₁.setTop (mkF m 54 #[.val (.int pn)] [])) _
              refine XS.iconst X0.here hx rfl (hb hby d1_54) ?_
              show Steps p.tables e below (s₁.setTop (mkF m 55 #[.val (.int pn)] [(.int (5 : Int32))])) _
              refine st21 _ ?_
              exact k
            obtain ⟨fs, hr, hrun, hended, hW, hsame⟩ := X21.leave (v := some (.ref b21)) (fun h => by rw [Bd.returns] at h; cases h) (BodyLoose.notSynchronized Bd)
            refine ⟨_, _, pre22 _ ?_, hrun, hended, _, _, rfl, ?_, ⟨_, rfl⟩, hW, hsame.mono (by decide) (by decide)⟩
            · show Steps p.tables e below (T21.setTop (mkF m 57 #[.val (.int pn)] [(.ref b21)])) _
              jvm_step X21.here [X21.here.top, hx, (hb hby d1_57), X21.method', Bd.returns, Value.isRef, FieldType.isReference]
              first | (intro acts; rw [hr _ acts rfl rfl rfl]) | rw [hr _ _ rfl rfl rfl]
              exact Steps.refl _
            · show Q1 Z pn h0 n0 _ T21.heap _
              rw [e21]
              exact ⟨b21, rfl, N0, (by rw [(show pn = (5 : Int32) from (own_five pn hc2 hc6 hc10 hc14 hc18 hpn))]; exact V21), ge_b21, fun x hx => Nat.ne_of_lt (Nat.lt_of_lt_of_le hx sz_b21), K21⟩
theorem d2_0 : decode method_3_code 0 = .ok (.iload_n 0, 1) := by decide +kernel
theorem d2_1 : decode method_3_code 1 = .ok (.ifCond .ne 9, 3) := by decide +kernel
theorem d2_4 : decode method_3_code 4 = .ok (.iconst 0, 1) := by decide +kernel
theorem d2_5 : decode method_3_code 5 = .ok (.newarray .boolean, 2) := by decide +kernel
theorem d2_7 : decode method_3_code 7 = .ok (.goto 50, 3) := by decide +kernel
theorem d2_10 : decode method_3_code 10 = .ok (.iload_n 0, 1) := by decide +kernel
theorem d2_11 : decode method_3_code 11 = .ok (.iconst 1, 1) := by decide +kernel
theorem d2_12 : decode method_3_code 12 = .ok (.if_icmp .ne 9, 3) := by decide +kernel
theorem d2_15 : decode method_3_code 15 = .ok (.iconst 1, 1) := by decide +kernel
theorem d2_16 : decode method_3_code 16 = .ok (.newarray .boolean, 2) := by decide +kernel
theorem d2_18 : decode method_3_code 18 = .ok (.goto 39, 3) := by decide +kernel
theorem d2_21 : decode method_3_code 21 = .ok (.iload_n 0, 1) := by decide +kernel
theorem d2_22 : decode method_3_code 22 = .ok (.iconst 2, 1) := by decide +kernel
theorem d2_23 : decode method_3_code 23 = .ok (.if_icmp .ne 9, 3) := by decide +kernel
theorem d2_26 : decode method_3_code 26 = .ok (.iconst 2, 1) := by decide +kernel
theorem d2_27 : decode method_3_code 27 = .ok (.newarray .boolean, 2) := by decide +kernel
theorem d2_29 : decode method_3_code 29 = .ok (.goto 28, 3) := by decide +kernel
theorem d2_32 : decode method_3_code 32 = .ok (.iload_n 0, 1) := by decide +kernel
theorem d2_33 : decode method_3_code 33 = .ok (.iconst 3, 1) := by decide +kernel
theorem d2_34 : decode method_3_code 34 = .ok (.if_icmp .ne 9, 3) := by decide +kernel
theorem d2_37 : decode method_3_code 37 = .ok (.iconst 3, 1) := by decide +kernel
theorem d2_38 : decode method_3_code 38 = .ok (.newarray .boolean, 2) := by decide +kernel
theorem d2_40 : decode method_3_code 40 = .ok (.goto 17, 3) := by decide +kernel
theorem d2_43 : decode method_3_code 43 = .ok (.iload_n 0, 1) := by decide +kernel
theorem d2_44 : decode method_3_code 44 = .ok (.iconst 4, 1) := by decide +kernel
theorem d2_45 : decode method_3_code 45 = .ok (.if_icmp .ne 9, 3) := by decide +kernel
theorem d2_48 : decode method_3_code 48 = .ok (.iconst 4, 1) := by decide +kernel
theorem d2_49 : decode method_3_code 49 = .ok (.newarray .boolean, 2) := by decide +kernel
theorem d2_51 : decode method_3_code 51 = .ok (.goto 6, 3) := by decide +kernel
theorem d2_54 : decode method_3_code 54 = .ok (.iconst 5, 1) := by decide +kernel
theorem d2_55 : decode method_3_code 55 = .ok (.newarray .boolean, 2) := by decide +kernel
theorem d2_57 : decode method_3_code 57 = .ok (.areturn, 1) := by decide +kernel
theorem ef_2 (m : MethodId) (x0 : Int32) : entryFrame m #[(.int x0)] 1 = mkF m 0 #[.val (.int x0)] [] := by first | (simp [entryFrame, mkF, argsToLocals, Value.category]; done) | rfl
def Q2 (Z : State) (pn : Int32) (h0 : Heap) (n0 : Nat) (v : Option Value) (h : Heap) (L : List Loc) : Prop := ∃ b : Addr, v = some (.ref b) ∧ Fr n0 L ∧ AI Z h b .boolean pn (fun _ => 0) ∧ n0 ≤ b ∧ (∀ x : Addr, x < h0.size → x ≠ b) ∧ Keep h0 h []
set_option maxRecDepth 65536 in
set_option maxHeartbeats 40000000 in
theorem rm2 (l : Launch) (Z : State) (a0 : Array Value) (hw : ∀ d ∈ tables_1, d.before a0 Z = true) (ws : List Jvm.Cond) (pn : Int32) (h0 : Heap) (n0 : Nat) (Z0 : n0 ≤ h0.size) (hpn : 0 ≤ pn.toInt ∧ pn.toInt ≤ 5) :
    MetFree l (⟨"com/example/dealer/dealer/ChangingSharesFillPinLaw", "flagsOf", "(I)[Z"⟩ : MethodName) (head1 (Jvm.Cond.code (⟨"com/example/dealer/dealer/ChangingSharesFillPinLaw", "flagsOf", "(I)[Z"⟩ : MethodName) method_3_code 1 (some (.array .boolean)) :: ws) ({ frames := 0, cells := 1, slots := 5, locals := 0 } : Room)) (fun a U => a = #[(.int pn)] ∧ Z.Warmed39 U.vm ∧ U.heap = h0) (fun _ _ _ _ _ => True) (fun _ U o U' => ∃ v L, o = .returned v ∧ Q2 Z pn h0 n0 v U'.heap L ∧ FrameEnd U o U' L ({ frames := 0, cells := 1, slots := 5, locals := 0 } : Room).cells ({ frames := 0, cells := 1, slots := 5, locals := 0 } : Room).slots) := by
  refine MetFree.of_bodySF (plainFor_of_name pn_1) hisR ?_
  intro p e s m args below meth c s₁ Bd hml0 hP hK
  obtain ⟨rfl, hZ, hh⟩ := hP
  have hx := Bd.exec
  have hby := Bd.bytes
  have hml : c.maxLocals = 1 := hml0
  have hown : s.vm.findClass "com/example/dealer/dealer/ChangingSharesFillPinLaw" = some m.cls := findClass_of_methodNamed Bd.named
  have hnm := (name_of_methodNamed Bd.named Bd.method).1
  have X0 : Stand p l e ({ frames := 0, cells := 1, slots := 5, locals := 0 } : Room) s m #[(.int pn)] below meth c s₁ [] 0 0 := Stand.of_body Bd
  have e0 : s₁.heap = h0 := by rw [← hh, Bd.state]; rfl
  have N0 := Fr.nil n0
  have pre0 : ∀ t, Steps p.tables e below (s₁.setTop (mkF m 0 #[.val (.int pn)] [])) t → Steps p.tables e below (s₁.setTop (entryFrame m #[(.int pn)] 1)) t := fun t k => castTop (ef_2 m pn) k
  have pre1 : ∀ t, Steps p.tables e below (s₁.setTop (mkF m 1 #[.val (.int pn)] [(.int pn)])) t → Steps p.tables e below (s₁.setTop (entryFrame m #[(.int pn)] 1)) t := by
    intro t k
    refine pre0 t ?_
    show Steps p.tables e below (s₁.setTop (mkF m 0 #[.val (.int pn)] [])) _
    refine XS.iloadN X0.here hx rfl (hb hby d2_0) rfl ?_
    exact k
  by_cases hc2 : pn = (0 : Int32)
  ·
    obtain ⟨T3, h3, k3, X3, e3, E3, A3, st3⟩ := newP X0 hx hZ (hw _ (List.mem_of_getElem? (i := 2) rfl)) e0 (g := (mkF m 5 #[.val (.int pn)] [(.int (0 : Int32))])) rfl (hb hby d2_5) rfl (by decide) (cap := 0) (by decide) (by decide) (by decide) (by decide)
    obtain ⟨b3, g3⟩ : ∃ z, z = h0.size := ⟨_, rfl⟩
    rw [← g3] at A3 st3
    have ge_b3 : n0 ≤ b3 := Nat.le_trans Z0 (Nat.le_of_eq g3.symm)
    have sz_b3 : h0.size ≤ b3 := Nat.le_trans (Keep.refl h0 []).1 (Nat.le_of_eq g3.symm)
    have Z3 : n0 ≤ h3.size := Nat.le_trans Z0 E3.1
    have K3 := (Keep.refl h0 []).ext E3
    have V3 := AI.newZ A3 (by decide)
    have pre4 : ∀ t, Steps p.tables e below (T3.setTop (mkF m 57 #[.val (.int pn)] [(.ref b3)])) t → Steps p.tables e below (s₁.setTop (entryFrame m #[(.int pn)] 1)) t := by
      intro t k
      refine pre1 t ?_
      show Steps p.tables e below (s₁.setTop (mkF m 1 #[.val (.int pn)] [(.int pn)])) _
      refine XS.ifNo X0.here hx rfl (hb hby d2_1) rfl ((if0 _ _).trans (teq hc2).2) ?_
      show Steps p.tables e below (s₁.setTop (mkF m 4 #[.val (.int pn)] [])) _
      refine XS.iconst X0.here hx rfl (hb hby d2_4) ?_
      show Steps p.tables e below (s₁.setTop (mkF m 5 #[.val (.int pn)] [(.int (0 : Int32))])) _
      refine st3 _ ?_
      show Steps p.tables e below (T3.setTop (mkF m 7 #[.val (.int pn)] [(.ref b3)])) _
      refine XS.goto X3.here hx rfl (pc0 := 7) (pc' := 57) rfl (hb hby d2_7) (by decide) (by decide) ?_
      exact k
    obtain ⟨fs, hr, hrun, hended, hW, hsame⟩ := X3.leave (v := some (.ref b3)) (fun h => by rw [Bd.returns] at h; cases h) (BodyLoose.notSynchronized Bd)
    refine ⟨_, _, pre4 _ ?_, hrun, hended, _, _, rfl, ?_, ⟨_, rfl⟩, hW, hsame.mono (by decide) (by decide)⟩
    · show Steps p.tables e below (T3.setTop (mkF m 57 #[.val (.int pn)] [(.ref b3)])) _
      jvm_step X3.here [X3.here.top, hx, (hb hby d2_57), X3.method', Bd.returns, Value.isRef, FieldType.isReference]
      first | (intro acts; rw [hr _ acts rfl rfl rfl]) | rw [hr _ _ rfl rfl rfl]
      exact Steps.refl _
    · show Q2 Z pn h0 n0 _ T3.heap _
      rw [e3]
      exact ⟨b3, rfl, N0, (by rw [(show pn = (0 : Int32) from hc2)]; exact V3), ge_b3, fun x hx => Nat.ne_of_lt (Nat.lt_of_lt_of_le hx sz_b3), K3⟩
  ·
    have pre5 : ∀ t, Steps p.tables e below (s₁.setTop (mkF m 12 #[.val (.int pn)] [(.int (1 : Int32)), (.int pn)])) t → Steps p.tables e below (s₁.setTop (entryFrame m #[(.int pn)] 1)) t := by
      intro t k
      refine pre1 t ?_
      show Steps p.tables e below (s₁.setTop (mkF m 1 #[.val (.int pn)] [(.int pn)])) _
      refine XS.ifYes X0.here hx rfl (pc0 := 1) (pc' := 10) rfl (hb hby d2_1) rfl ((if0 _ _).trans (feq hc2).2) (by decide) (by decide) ?_
      show Steps p.tables e below (s₁.setTop (mkF m 10 #[.val (.int pn)] [])) _
      refine XS.iloadN X0.here hx rfl (hb hby d2_10) rfl ?_
      show Steps p.tables e below (s₁.setTop (mkF m 11 #[.val (.int pn)] [(.int pn)])) _
      refine XS.iconst X0.here hx rfl (hb hby d2_11) ?_
      exact k
    by_cases hc6 : pn = (1 : Int32)
    ·
      obtain ⟨T7, h7, k7, X7, e7, E7, A7, st7⟩ := newP X0 hx hZ (hw _ (List.mem_of_getElem? (i := 2) rfl)) e0 (g := (mkF m 16 #[.val (.int pn)] [(.int (1 : Int32))])) rfl (hb hby d2_16) rfl (by decide) (cap := 1) (by decide) (by decide) (by decide) (by decide)
      obtain ⟨b7, g7⟩ : ∃ z, z = h0.size := ⟨_, rfl⟩
      rw [← g7] at A7 st7
      have ge_b7 : n0 ≤ b7 := Nat.le_trans Z0 (Nat.le_of_eq g7.symm)
      have sz_b7 : h0.size ≤ b7 := Nat.le_trans (Keep.refl h0 []).1 (Nat.le_of_eq g7.symm)
      have Z7 : n0 ≤ h7.size := Nat.le_trans Z0 E7.1
      have K7 := (Keep.refl h0 []).ext E7
      have V7 := AI.newZ A7 (by decide)
      have pre8 : ∀ t, Steps p.tables e below (T7.setTop (mkF m 57 #[.val (.int pn)] [(.ref b7)])) t → Steps p.tables e below (s₁.setTop (entryFrame m #[(.int pn)] 1)) t := by
        intro t k
        refine pre5 t ?_
        show Steps p.tables e below (s₁.setTop (mkF m 12 #[.val (.int pn)] [(.int (1 : Int32)), (.int pn)])) _
        refine XS.icmpNo X0.here hx rfl (hb hby d2_12) rfl (teq hc6).2 ?_
        show Steps p.tables e below (s₁.setTop (mkF m 15 #[.val (.int pn)] [])) _
        refine XS.iconst X0.here hx rfl (hb hby d2_15) ?_
        show Steps p.tables e below (s₁.setTop (mkF m 16 #[.val (.int pn)] [(.int (1 : Int32))])) _
        refine st7 _ ?_
        show Steps p.tables e below (T7.setTop (mkF m 18 #[.val (.int pn)] [(.ref b7)])) _
        refine XS.goto X7.here hx rfl (pc0 := 18) (pc' := 57) rfl (hb hby d2_18) (by decide) (by decide) ?_
        exact k
      obtain ⟨fs, hr, hrun, hended, hW, hsame⟩ := X7.leave (v := some (.ref b7)) (fun h => by rw [Bd.returns] at h; cases h) (BodyLoose.notSynchronized Bd)
      refine ⟨_, _, pre8 _ ?_, hrun, hended, _, _, rfl, ?_, ⟨_, rfl⟩, hW, hsame.mono (by decide) (by decide)⟩
      · show Steps p.tables e below (T7.setTop (mkF m 57 #[.val (.int pn)] [(.ref b7)])) _
        jvm_step X7.here [X7.here.top, hx, (hb hby d2_57), X7.method', Bd.returns, Value.isRef, FieldType.isReference]
        first | (intro acts; rw [hr _ acts rfl rfl rfl]) | rw [hr _ _ rfl rfl rfl]
        exact Steps.refl _
      · show Q2 Z pn h0 n0 _ T7.heap _
        rw [e7]
        exact ⟨b7, rfl, N0, (by rw [(show pn = (1 : Int32) from hc6)]; exact V7), ge_b7, fun x hx => Nat.ne_of_lt (Nat.lt_of_lt_of_le hx sz_b7), K7⟩
    ·
      have pre9 : ∀ t, Steps p.tables e below (s₁.setTop (mkF m 23 #[.val (.int pn)] [(.int (2 : Int32)), (.int pn)])) t → Steps p.tables e below (s₁.setTop (entryFrame m #[(.int pn)] 1)) t := by
        intro t k
        refine pre5 t ?_
        show Steps p.tables e below (s₁.setTop (mkF m 12 #[.val (.int pn)] [(.int (1 : Int32)), (.int pn)])) _
        refine XS.icmpYes X0.here hx rfl (pc0 := 12) (pc' := 21) rfl (hb hby d2_12) rfl (feq hc6).2 (by decide) (by decide) ?_
        show Steps p.tables e below (s₁.setTop (mkF m 21 #[.val (.int pn)] [])) _
        refine XS.iloadN X0.here hx rfl (hb hby d2_21) rfl ?_
        show Steps p.tables e below (s₁.setTop (mkF m 22 #[.val (.int pn)] [(.int pn)])) _
        refine XS.iconst X0.here hx rfl (hb hby d2_22) ?_
        exact k
      by_cases hc10 : pn = (2 : Int32)
      ·
        obtain ⟨T11, h11, k11, X11, e11, E11, A11, st11⟩ := newP X0 hx hZ (hw _ (List.mem_of_getElem? (i := 2) rfl)) e0 (g := (mkF m 27 #[.val (.int pn)] [(.int (2 : Int32))])) rfl (hb hby d2_27) rfl (by decide) (cap := 2) (by decide) (by decide) (by decide) (by decide)
        obtain ⟨b11, g11⟩ : ∃ z, z = h0.size := ⟨_, rfl⟩
        rw [← g11] at A11 st11
        have ge_b11 : n0 ≤ b11 := Nat.le_trans Z0 (Nat.le_of_eq g11.symm)
        have sz_b11 : h0.size ≤ b11 := Nat.le_trans (Keep.refl h0 []).1 (Nat.le_of_eq g11.symm)
        have Z11 : n0 ≤ h11.size := Nat.le_trans Z0 E11.1
        have K11 := (Keep.refl h0 []).ext E11
        have V11 := AI.newZ A11 (by decide)
        have pre12 : ∀ t, Steps p.tables e below (T11.setTop (mkF m 57 #[.val (.int pn)] [(.ref b11)])) t → Steps p.tables e below (s₁.setTop (entryFrame m #[(.int pn)] 1)) t := by
          intro t k
          refine pre9 t ?_
          show Steps p.tables e below (s₁.setTop (mkF m 23 #[.val (.int pn)] [(.int (2 : Int32)), (.int pn)])) _
          refine XS.icmpNo X0.here hx rfl (hb hby d2_23) rfl (teq hc10).2 ?_
          show Steps p.tables e below (s₁.setTop (mkF m 26 #[.val (.int pn)] [])) _
          refine XS.iconst X0.here hx rfl (hb hby d2_26) ?_
          show Steps p.tables e below (s₁.setTop (mkF m 27 #[.val (.int pn)] [(.int (2 : Int32))])) _
          refine st11 _ ?_
          show Steps p.tables e below (T11.setTop (mkF m 29 #[.val (.int pn)] [(.ref b11)])) _
          refine XS.goto X11.here hx rfl (pc0 := 29) (pc' := 57) rfl (hb hby d2_29) (by decide) (by decide) ?_
          exact k
        obtain ⟨fs, hr, hrun, hended, hW, hsame⟩ := X11.leave (v := some (.ref b11)) (fun h => by rw [Bd.returns] at h; cases h) (BodyLoose.notSynchronized Bd)
        refine ⟨_, _, pre12 _ ?_, hrun, hended, _, _, rfl, ?_, ⟨_, rfl⟩, hW, hsame.mono (by decide) (by decide)⟩
        · show Steps p.tables e below (T11.setTop (mkF m 57 #[.val (.int pn)] [(.ref b11)])) _
          jvm_step X11.here [X11.here.top, hx, (hb hby d2_57), X11.method', Bd.returns, Value.isRef, FieldType.isReference]
          first | (intro acts; rw [hr _ acts rfl rfl rfl]) | rw [hr _ _ rfl rfl rfl]
          exact Steps.refl _
        · show Q2 Z pn h0 n0 _ T11.heap _
          rw [e11]
          exact ⟨b11, rfl, N0, (by rw [(show pn = (2 : Int32) from hc10)]; exact V11), ge_b11, fun x hx => Nat.ne_of_lt (Nat.lt_of_lt_of_le hx sz_b11), K11⟩
      ·
        have pre13 : ∀ t, Steps p.tables e below (s₁.setTop (mkF m 34 #[.val (.int pn)] [(.int (3 : Int32)), (.int pn)])) t → Steps p.tables e below (s₁.setTop (entryFrame m #[(.int pn)] 1)) t := by
          intro t k
          refine pre9 t ?_
          show Steps p.tables e below (s₁.setTop (mkF m 23 #[.val (.int pn)] [(.int (2 : Int32)), (.int pn)])) _
          refine XS.icmpYes X0.here hx rfl (pc0 := 23) (pc' := 32) rfl (hb hby d2_23) rfl (feq hc10).2 (by decide) (by decide) ?_
          show Steps p.tables e below (s₁.setTop (mkF m 32 #[.val (.int pn)] [])) _
          refine XS.iloadN X0.here hx rfl (hb hby d2_32) rfl ?_
          show Steps p.tables e below (s₁.setTop (mkF m 33 #[.val (.int pn)] [(.int pn)])) _
          refine XS.iconst X0.here hx rfl (hb hby d2_33) ?_
          exact k
        by_cases hc14 : pn = (3 : Int32)
        ·
          obtain ⟨T15, h15, k15, X15, e15, E15, A15, st15⟩ := newP X0 hx hZ (hw _ (List.mem_of_getElem? (i := 2) rfl)) e0 (g := (mkF m 38 #[.val (.int pn)] [(.int (3 : Int32))])) rfl (hb hby d2_38) rfl (by decide) (cap := 3) (by decide) (by decide) (by decide) (by decide)
          obtain ⟨b15, g15⟩ : ∃ z, z = h0.size := ⟨_, rfl⟩
          rw [← g15] at A15 st15
          have ge_b15 : n0 ≤ b15 := Nat.le_trans Z0 (Nat.le_of_eq g15.symm)
          have sz_b15 : h0.size ≤ b15 := Nat.le_trans (Keep.refl h0 []).1 (Nat.le_of_eq g15.symm)
          have Z15 : n0 ≤ h15.size := Nat.le_trans Z0 E15.1
          have K15 := (Keep.refl h0 []).ext E15
          have V15 := AI.newZ A15 (by decide)
          have pre16 : ∀ t, Steps p.tables e below (T15.setTop (mkF m 57 #[.val (.int pn)] [(.ref b15)])) t → Steps p.tables e below (s₁.setTop (entryFrame m #[(.int pn)] 1)) t := by
            intro t k
            refine pre13 t ?_
            show Steps p.tables e below (s₁.setTop (mkF m 34 #[.val (.int pn)] [(.int (3 : Int32)), (.int pn)])) _
            refine XS.icmpNo X0.here hx rfl (hb hby d2_34) rfl (teq hc14).2 ?_
            show Steps p.tables e below (s₁.setTop (mkF m 37 #[.val (.int pn)] [])) _
            refine XS.iconst X0.here hx rfl (hb hby d2_37) ?_
            show Steps p.tables e below (s₁.setTop (mkF m 38 #[.val (.int pn)] [(.int (3 : Int32))])) _
            refine st15 _ ?_
            show Steps p.tables e below (T15.setTop (mkF m 40 #[.val (.int pn)] [(.ref b15)])) _
            refine XS.goto X15.here hx rfl (pc0 := 40) (pc' := 57) rfl (hb hby d2_40) (by decide) (by decide) ?_
            exact k
          obtain ⟨fs, hr, hrun, hended, hW, hsame⟩ := X15.leave (v := some (.ref b15)) (fun h => by rw [Bd.returns] at h; cases h) (BodyLoose.notSynchronized Bd)
          refine ⟨_, _, pre16 _ ?_, hrun, hended, _, _, rfl, ?_, ⟨_, rfl⟩, hW, hsame.mono (by decide) (by decide)⟩
          · show Steps p.tables e below (T15.setTop (mkF m 57 #[.val (.int pn)] [(.ref b15)])) _
            jvm_step X15.here [X15.here.top, hx, (hb hby d2_57), X15.method', Bd.returns, Value.isRef, FieldType.isReference]
            first | (intro acts; rw [hr _ acts rfl rfl rfl]) | rw [hr _ _ rfl rfl rfl]
            exact Steps.refl _
          · show Q2 Z pn h0 n0 _ T15.heap _
            rw [e15]
            exact ⟨b15, rfl, N0, (by rw [(show pn = (3 : Int32) from hc14)]; exact V15), ge_b15, fun x hx => Nat.ne_of_lt (Nat.lt_of_lt_of_le hx sz_b15), K15⟩
        ·
          have pre17 : ∀ t, Steps p.tables e below (s₁.setTop (mkF m 45 #[.val (.int pn)] [(.int (4 : Int32)), (.int pn)])) t → Steps p.tables e below (s₁.setTop (entryFrame m #[(.int pn)] 1)) t := by
            intro t k
            refine pre13 t ?_
            show Steps p.tables e below (s₁.setTop (mkF m 34 #[.val (.int pn)] [(.int (3 : Int32)), (.int pn)])) _
            refine XS.icmpYes X0.here hx rfl (pc0 := 34) (pc' := 43) rfl (hb hby d2_34) rfl (feq hc14).2 (by decide) (by decide) ?_
            show Steps p.tables e below (s₁.setTop (mkF m 43 #[.val (.int pn)] [])) _
            refine XS.iloadN X0.here hx rfl (hb hby d2_43) rfl ?_
            show Steps p.tables e below (s₁.setTop (mkF m 44 #[.val (.int pn)] [(.int pn)])) _
            refine XS.iconst X0.here hx rfl (hb hby d2_44) ?_
            exact k
          by_cases hc18 : pn = (4 : Int32)
          ·
            obtain ⟨T19, h19, k19, X19, e19, E19, A19, st19⟩ := newP X0 hx hZ (hw _ (List.mem_of_getElem? (i := 2) rfl)) e0 (g := (mkF m 49 #[.val (.int pn)] [(.int (4 : Int32))])) rfl (hb hby d2_49) rfl (by decide) (cap := 4) (by decide) (by decide) (by decide) (by decide)
            obtain ⟨b19, g19⟩ : ∃ z, z = h0.size := ⟨_, rfl⟩
            rw [← g19] at A19 st19
            have ge_b19 : n0 ≤ b19 := Nat.le_trans Z0 (Nat.le_of_eq g19.symm)
            have sz_b19 : h0.size ≤ b19 := Nat.le_trans (Keep.refl h0 []).1 (Nat.le_of_eq g19.symm)
            have Z19 : n0 ≤ h19.size := Nat.le_trans Z0 E19.1
            have K19 := (Keep.refl h0 []).ext E19
            have V19 := AI.newZ A19 (by decide)
            have pre20 : ∀ t, Steps p.tables e below (T19.setTop (mkF m 57 #[.val (.int pn)] [(.ref b19)])) t → Steps p.tables e below (s₁.setTop (entryFrame m #[(.int pn)] 1)) t := by
              intro t k
              refine pre17 t ?_
              show Steps p.tables e below (s₁.setTop (mkF m 45 #[.val (.int pn)] [(.int (4 : Int32)), (.int pn)])) _
              refine XS.icmpNo X0.here hx rfl (hb hby d2_45) rfl (teq hc18).2 ?_
              show Steps p.tables e below (s₁.setTop (mkF m 48 #[.val (.int pn)] [])) _
              refine XS.iconst X0.here hx rfl (hb hby d2_48) ?_
              show Steps p.tables e below (s₁.setTop (mkF m 49 #[.val (.int pn)] [(.int (4 : Int32))])) _
              refine st19 _ ?_
              show Steps p.tables e below (T19.setTop (mkF m 51 #[.val (.int pn)] [(.ref b19)])) _
              refine XS.goto X19.here hx rfl (pc0 := 51) (pc' := 57) rfl (hb hby d2_51) (by decide) (by decide) ?_
              exact k
            obtain ⟨fs, hr, hrun, hended, hW, hsame⟩ := X19.leave (v := some (.ref b19)) (fun h => by rw [Bd.returns] at h; cases h) (BodyLoose.notSynchronized Bd)
            refine ⟨_, _, pre20 _ ?_, hrun, hended, _, _, rfl, ?_, ⟨_, rfl⟩, hW, hsame.mono (by decide) (by decide)⟩
            · show Steps p.tables e below (T19.setTop (mkF m 57 #[.val (.int pn)] [(.ref b19)])) _
              jvm_step X19.here [X19.here.top, hx, (hb hby d2_57), X19.method', Bd.returns, Value.isRef, FieldType.isReference]
              first | (intro acts; rw [hr _ acts rfl rfl rfl]) | rw [hr _ _ rfl rfl rfl]
              exact Steps.refl _
            · show Q2 Z pn h0 n0 _ T19.heap _
              rw [e19]
              exact ⟨b19, rfl, N0, (by rw [(show pn = (4 : Int32) from hc18)]; exact V19), ge_b19, fun x hx => Nat.ne_of_lt (Nat.lt_of_lt_of_le hx sz_b19), K19⟩
          ·
            obtain ⟨T21, h21, k21, X21, e21, E21, A21, st21⟩ := newP X0 hx hZ (hw _ (List.mem_of_getElem? (i := 2) rfl)) e0 (g := (mkF m 55 #[.val (.int pn)] [(.int (5 : Int32))])) rfl (hb hby d2_55) rfl (by decide) (cap := 5) (by decide) (by decide) (by decide) (by decide)
            obtain ⟨b21, g21⟩ : ∃ z, z = h0.size := ⟨_, rfl⟩
            rw [← g21] at A21 st21
            have ge_b21 : n0 ≤ b21 := Nat.le_trans Z0 (Nat.le_of_eq g21.symm)
            have sz_b21 : h0.size ≤ b21 := Nat.le_trans (Keep.refl h0 []).1 (Nat.le_of_eq g21.symm)
            have Z21 : n0 ≤ h21.size := Nat.le_trans Z0 E21.1
            have K21 := (Keep.refl h0 []).ext E21
            have V21 := AI.newZ A21 (by decide)
            have pre22 : ∀ t, Steps p.tables e below (T21.setTop (mkF m 57 #[.val (.int pn)] [(.ref b21)])) t → Steps p.tables e below (s₁.setTop (entryFrame m #[(.int pn)] 1)) t := by
              intro t k
              refine pre17 t ?_
              show Steps p.tables e below (s₁.setTop (mkF m 45 #[.val (.int pn)] [(.int (4 : Int32)), (.int pn)])) _
              refine XS.icmpYes X0.here hx rfl (pc0 := 45) (pc' := 54) rfl (hb hby d2_45) rfl (feq hc18).2 (by decide) (by decide) ?_
              show Steps p.tables e below (s₁.setTop (mkF m 54 #[.val (.int pn)] [])) _
              refine XS.iconst X0.here hx rfl (hb hby d2_54) ?_
              show Steps p.tables e below (s₁.setTop (mkF m 55 #[.val (.int pn)] [(.int (5 : Int32))])) _
              refine st21 _ ?_
              exact k
            obtain ⟨fs, hr, hrun, hended, hW, hsame⟩ := X21.leave (v := some (.ref b21)) (fun h => by rw [Bd.returns] at h; cases h) (BodyLoose.notSynchronized Bd)
            refine ⟨_, _, pre22 _ ?_, hrun, hended, _, _, rfl, ?_, ⟨_, rfl⟩, hW, hsame.mono (by decide) (by decide)⟩
            · show Steps p.tables e below (T21.setTop (mkF m 57 #[.val (.int pn)] [(.ref b21)])) _
              jvm_step X21.here [X21.here.top, hx, (hb hby d2_57), X21.method', Bd.returns, Value.isRef, FieldType.isReference]
              first | (intro acts; rw [hr _ acts rfl rfl rfl]) | rw [hr _ _ rfl rfl rfl]
              exact Steps.refl _
            · show Q2 Z pn h0 n0 _ T21.heap _
              rw [e21]
              exact ⟨b21, rfl, N0, (by rw [(show pn = (5 : Int32) from (own_five pn hc2 hc6 hc10 hc14 hc18 hpn))]; exact V21), ge_b21, fun x hx => Nat.ne_of_lt (Nat.lt_of_lt_of_le hx sz_b21), K21⟩
def Q0 (Z : State) (pp : Int32) (xa : Int32) (xb : Int32) (xc : Int32) (xd : Int32) (xe : Int32) (h0 : Heap) (n0 : Nat) (v : Option Value) (h : Heap) (L : List Loc) : Prop := v = some (.int (1 : Int32)) ∧ Fr n0 L
set_option maxRecDepth 65536 in
set_option maxHeartbeats 40000000 in
theorem rm0 (l : Launch) (Z : State) (a0 : Array Value) (hw : ∀ d ∈ tables_1, d.before a0 Z = true) (ws : List Jvm.Cond) (pp : Int32) (xa : Int32) (xb : Int32) (xc : Int32) (xd : Int32) (xe : Int32) (h0 : Heap) (n0 : Nat) (Z0 : n0 ≤ h0.size) :
    MetFree l x (head1 (Jvm.Cond.code x code maxLocals ret :: ws) room_1) (fun a U => a = #[(.int pp), (.int xa), (.int xb), (.int xc), (.int xd), (.int xe)] ∧ Z.Warmed39 U.vm ∧ U.heap = h0) (fun _ _ _ _ _ => True) (fun _ U o U' => ∃ v L, o = .returned v ∧ Q0 Z pp xa xb xc xd xe h0 n0 v U'.heap L ∧ FrameEnd U o U' L room_1.cells room_1.slots) := by
  refine MetFree.of_bodySF (plainFor_of_name pn_1) hisR ?_
  intro p e s m args below meth c s₁ Bd hml0 hP hK
  obtain ⟨rfl, hZ, hh⟩ := hP
  have hx := Bd.exec
  have hby := Bd.bytes
  have hml : c.maxLocals = 40 := hml0
  have hown : s.vm.findClass "com/example/dealer/dealer/ChangingSharesFillPinLaw" = some m.cls := findClass_of_methodNamed Bd.named
  have hnm := (name_of_methodNamed Bd.named Bd.method).1
  have X0 : Stand p l e room_1 s m #[(.int pp), (.int xa), (.int xb), (.int xc), (.int xd), (.int xe)] below meth c s₁ [] 0 0 := Stand.of_body Bd
  have e0 : s₁.heap = h0 := by rw [← hh, Bd.state]; rfl
  have N0 := Fr.nil n0
  have pre0 : ∀ t, Steps p.tables e below (s₁.setTop (mkF m 0 #[.val (.int pp), .val (.int xa), .val (.int xb), .val (.int xc), .val (.int xd), .val (.int xe), .unset, .unset, .unset, .unset, .unset, .unset, .unset, .unset, .unset, .unset, .unset, .unset, .unset, .unset, .unset, .unset, .unset, .unset, .unset, .unset, .unset, .unset, .unset, .unset, .unset, .unset, .unset, .unset, .unset, .unset, .unset, .unset, .unset, .unset] [])) t → Steps p.tables e below (s₁.setTop (entryFrame m #[(.int pp), (.int xa), (.int xb), (.int xc), (.int xd), (.int xe)] maxLocals)) t := fun t k => castTop (ef_0 m pp xa xb xc xd xe) k
  have pre1 : ∀ t, Steps p.tables e below (s₁.setTop (mkF m 57 (lo0_7 pp xa xb xc xd xe) [(.int (((pp.toUInt32 >>> ((3 : Int32) &&& 31).toUInt32).toInt32) &&& (1 : Int32)))])) t → Steps p.tables e below (s₁.setTop (entryFrame m #[(.int pp), (.int xa), (.int xb), (.int xc), (.int xd), (.int xe)] maxLocals)) t := by
    intro t k
    refine pre0 t ?_
    show Steps p.tables e below (s₁.setTop (mkF m 0 (lo0_0 pp xa xb xc xd xe) [])) _
    refine XS.iloadN X0.here hx rfl (hb hby at_0) rfl ?_
    show Steps p.tables e below (s₁.setTop (mkF m 1 (lo0_0 pp xa xb xc xd xe) [(.int pp)])) _
    refine XS.bipush X0.here hx rfl (hb hby at_1) ?_
    show Steps p.tables e below (s₁.setTop (mkF m 3 (lo0_0 pp xa xb xc xd xe) [(.int (7 : Int32)), (.int pp)])) _
    refine XS.iand X0.here hx rfl (hb hby at_3) rfl ?_
    show Steps p.tables e below (s₁.setTop (mkF m 4 (lo0_0 pp xa xb xc xd xe) [(.int (pp &&& (7 : Int32)))])) _
    refine XS.bipush X0.here hx rfl (hb hby at_4) ?_
    show Steps p.tables e below (s₁.setTop (mkF m 6 (lo0_0 pp xa xb xc xd xe) [(.int (6 : Int32)), (.int (pp &&& (7 : Int32)))])) _
    refine iremM X0 hx rfl (hb hby at_6) rfl (by decide) ?_
    show Steps p.tables e below (s₁.setTop (mkF m 7 (lo0_0 pp xa xb xc xd xe) [(.int ((pp &&& (7 : Int32)) % (6 : Int32)))])) _
    refine XS.istore X0.here hx rfl (hb hby at_7) rfl (l' := (lo0_1 pp xa xb xc xd xe)) rfl ?_
    show Steps p.tables e below (s₁.setTop (mkF m 9 (lo0_1 pp xa xb xc xd xe) [])) _
    refine XS.iloadN X0.here hx rfl (hb hby at_9) rfl ?_
    show Steps p.tables e below (s₁.setTop (mkF m 10 (lo0_1 pp xa xb xc xd xe) [(.int pp)])) _
    refine XS.bipush X0.here hx rfl (hb hby at_10) ?_
    show Steps p.tables e below (s₁.setTop (mkF m 12 (lo0_1 pp xa xb xc xd xe) [(.int (8 : Int32)), (.int pp)])) _
    refine XS.iushr X0.here hx rfl (hb hby at_12) rfl ?_
    show Steps p.tables e below (s₁.setTop (mkF m 13 (lo0_1 pp xa xb xc xd xe) [(.int ((pp.toUInt32 >>> ((8 : Int32) &&& 31).toUInt32).toInt32))])) _
    refine XS.bipush X0.here hx rfl (hb hby at_13) ?_
    show Steps p.tables e below (s₁.setTop (mkF m 15 (lo0_1 pp xa xb xc xd xe) [(.int (7 : Int32)), (.int ((pp.toUInt32 >>> ((8 : Int32) &&& 31).toUInt32).toInt32))])) _
    refine XS.iand X0.here hx rfl (hb hby at_15) rfl ?_
    show Steps p.tables e below (s₁.setTop (mkF m 16 (lo0_1 pp xa xb xc xd xe) [(.int (((pp.toUInt32 >>> ((8 : Int32) &&& 31).toUInt32).toInt32) &&& (7 : Int32)))])) _
    refine XS.iconst X0.here hx rfl (hb hby at_16) ?_
    show Steps p.tables e below (s₁.setTop (mkF m 17 (lo0_1 pp xa xb xc xd xe) [(.int (5 : Int32)), (.int (((pp.toUInt32 >>> ((8 : Int32) &&& 31).toUInt32).toInt32) &&& (7 : Int32)))])) _
    refine iremM X0 hx rfl (hb hby at_17) rfl (by decide) ?_
    show Steps p.tables e below (s₁.setTop (mkF m 18 (lo0_1 pp xa xb xc xd xe) [(.int ((((pp.toUInt32 >>> ((8 : Int32) &&& 31).toUInt32).toInt32) &&& (7 : Int32)) % (5 : Int32)))])) _
    refine XS.istore X0.here hx rfl (hb hby at_18) rfl (l' := (lo0_2 pp xa xb xc xd xe)) rfl ?_
    show Steps p.tables e below (s₁.setTop (mkF m 20 (lo0_2 pp xa xb xc xd xe) [])) _
    refine XS.iloadN X0.here hx rfl (hb hby at_20) rfl ?_
    show Steps p.tables e below (s₁.setTop (mkF m 21 (lo0_2 pp xa xb xc xd xe) [(.int xa)])) _
    refine X0.ldcInt hx hown (mvT hZ (hw _ (List.mem_of_getElem? (i := 0) rfl))) (g := (mkF m 21 (lo0_2 pp xa xb xc xd xe) [(.int xa)])) rfl (hb hby at_21) _ ?_
    show Steps p.tables e below (s₁.setTop (mkF m 23 (lo0_2 pp xa xb xc xd xe) [(.int (2147483647 : Int32)), (.int xa)])) _
    refine XS.iand X0.here hx rfl (hb hby at_23) rfl ?_
    show Steps p.tables e below (s₁.setTop (mkF m 24 (lo0_2 pp xa xb xc xd xe) [(.int (xa &&& (2147483647 : Int32)))])) _
    refine XS.istore X0.here hx rfl (hb hby at_24) rfl (l' := (lo0_3 pp xa xb xc xd xe)) rfl ?_
    show Steps p.tables e below (s₁.setTop (mkF m 26 (lo0_3 pp xa xb xc xd xe) [])) _
    refine XS.iloadN X0.here hx rfl (hb hby at_26) rfl ?_
    show Steps p.tables e below (s₁.setTop (mkF m 27 (lo0_3 pp xa xb xc xd xe) [(.int xb)])) _
    refine X0.ldcInt hx hown (mvT hZ (hw _ (List.mem_of_getElem? (i := 0) rfl))) (g := (mkF m 27 (lo0_3 pp xa xb xc xd xe) [(.int xb)])) rfl (hb hby at_27) _ ?_
    show Steps p.tables e below (s₁.setTop (mkF m 29 (lo0_3 pp xa xb xc xd xe) [(.int (2147483647 : Int32)), (.int xb)])) _
    refine XS.iand X0.here hx rfl (hb hby at_29) rfl ?_
    show Steps p.tables e below (s₁.setTop (mkF m 30 (lo0_3 pp xa xb xc xd xe) [(.int (xb &&& (2147483647 : Int32)))])) _
    refine XS.istore X0.here hx rfl (hb hby at_30) rfl (l' := (lo0_4 pp xa xb xc xd xe)) rfl ?_
    show Steps p.tables e below (s₁.setTop (mkF m 32 (lo0_4 pp xa xb xc xd xe) [])) _
    refine XS.iloadN X0.here hx rfl (hb hby at_32) rfl ?_
    show Steps p.tables e below (s₁.setTop (mkF m 33 (lo0_4 pp xa xb xc xd xe) [(.int xc)])) _
    refine X0.ldcInt hx hown (mvT hZ (hw _ (List.mem_of_getElem? (i := 0) rfl))) (g := (mkF m 33 (lo0_4 pp xa xb xc xd xe) [(.int xc)])) rfl (hb hby at_33) _ ?_
    show Steps p.tables e below (s₁.setTop (mkF m 35 (lo0_4 pp xa xb xc xd xe) [(.int (2147483647 : Int32)), (.int xc)])) _
    refine XS.iand X0.here hx rfl (hb hby at_35) rfl ?_
    show Steps p.tables e below (s₁.setTop (mkF m 36 (lo0_4 pp xa xb xc xd xe) [(.int (xc &&& (2147483647 : Int32)))])) _
    refine XS.istore X0.here hx rfl (hb hby at_36) rfl (l' := (lo0_5 pp xa xb xc xd xe)) rfl ?_
    show Steps p.tables e below (s₁.setTop (mkF m 38 (lo0_5 pp xa xb xc xd xe) [])) _
    refine XS.iload X0.here hx rfl (hb hby at_38) rfl ?_
    show Steps p.tables e below (s₁.setTop (mkF m 40 (lo0_5 pp xa xb xc xd xe) [(.int xd)])) _
    refine X0.ldcInt hx hown (mvT hZ (hw _ (List.mem_of_getElem? (i := 0) rfl))) (g := (mkF m 40 (lo0_5 pp xa xb xc xd xe) [(.int xd)])) rfl (hb hby at_40) _ ?_
    show Steps p.tables e below (s₁.setTop (mkF m 42 (lo0_5 pp xa xb xc xd xe) [(.int (2147483647 : Int32)), (.int xd)])) _
    refine XS.iand X0.here hx rfl (hb hby at_42) rfl ?_
    show Steps p.tables e below (s₁.setTop (mkF m 43 (lo0_5 pp xa xb xc xd xe) [(.int (xd &&& (2147483647 : Int32)))])) _
    refine XS.istore X0.here hx rfl (hb hby at_43) rfl (l' := (lo0_6 pp xa xb xc xd xe)) rfl ?_
    show Steps p.tables e below (s₁.setTop (mkF m 45 (lo0_6 pp xa xb xc xd xe) [])) _
    refine XS.iload X0.here hx rfl (hb hby at_45) rfl ?_
    show Steps p.tables e below (s₁.setTop (mkF m 47 (lo0_6 pp xa xb xc xd xe) [(.int xe)])) _
    refine X0.ldcInt hx hown (mvT hZ (hw _ (List.mem_of_getElem? (i := 0) rfl))) (g := (mkF m 47 (lo0_6 pp xa xb xc xd xe) [(.int xe)])) rfl (hb hby at_47) _ ?_
    show Steps p.tables e below (s₁.setTop (mkF m 49 (lo0_6 pp xa xb xc xd xe) [(.int (2147483647 : Int32)), (.int xe)])) _
    refine XS.iand X0.here hx rfl (hb hby at_49) rfl ?_
    show Steps p.tables e below (s₁.setTop (mkF m 50 (lo0_6 pp xa xb xc xd xe) [(.int (xe &&& (2147483647 : Int32)))])) _
    refine XS.istore X0.here hx rfl (hb hby at_50) rfl (l' := (lo0_7 pp xa xb xc xd xe)) rfl ?_
    show Steps p.tables e below (s₁.setTop (mkF m 52 (lo0_7 pp xa xb xc xd xe) [])) _
    refine XS.iloadN X0.here hx rfl (hb hby at_52) rfl ?_
    show Steps p.tables e below (s₁.setTop (mkF m 53 (lo0_7 pp xa xb xc xd xe) [(.int pp)])) _
    refine XS.iconst X0.here hx rfl (hb hby at_53) ?_
    show Steps p.tables e below (s₁.setTop (mkF m 54 (lo0_7 pp xa xb xc xd xe) [(.int (3 : Int32)), (.int pp)])) _
    refine XS.iushr X0.here hx rfl (hb hby at_54) rfl ?_
    show Steps p.tables e below (s₁.setTop (mkF m 55 (lo0_7 pp xa xb xc xd xe) [(.int ((pp.toUInt32 >>> ((3 : Int32) &&& 31).toUInt32).toInt32))])) _
    refine XS.iconst X0.here hx rfl (hb hby at_55) ?_
    show Steps p.tables e below (s₁.setTop (mkF m 56 (lo0_7 pp xa xb xc xd xe) [(.int (1 : Int32)), (.int ((pp.toUInt32 >>> ((3 : Int32) &&& 31).toUInt32).toInt32))])) _
    refine XS.iand X0.here hx rfl (hb hby at_56) rfl ?_
    exact k
  have pre2 : ∀ t, Steps p.tables e below (s₁.setTop (mkF m 65 (lo0_7 pp xa xb xc xd xe) [(.int (b2i (if (((pp.toUInt32 >>> ((3 : Int32) &&& 31).toUInt32).toInt32) &&& (1 : Int32)) = (0 : Int32) then false else true)))])) t → Steps p.tables e below (s₁.setTop (entryFrame m #[(.int pp), (.int xa), (.int xb), (.int xc), (.int xd), (.int xe)] maxLocals)) t := by
    intro t k
    refine pre1 t ?_
    have k : ∀ (v1 : Bool), v1 = (if (((pp.toUInt32 >>> ((3 : Int32) &&& 31).toUInt32).toInt32) &&& (1 : Int32)) = (0 : Int32) then false else true) → Steps p.tables e below (s₁.setTop (mkF m 65 (lo0_7 pp xa xb xc xd xe) [(.int (b2i v1))])) t := fun v1 hv1 => by subst hv1; exact k
    show Steps p.tables e below (s₁.setTop (mkF m 57 (lo0_7 pp xa xb xc xd xe) [(.int (((pp.toUInt32 >>> ((3 : Int32) &&& 31).toUInt32).toInt32) &&& (1 : Int32)))])) _
    by_cases hc3 : (((pp.toUInt32 >>> ((3 : Int32) &&& 31).toUInt32).toInt32) &&& (1 : Int32)) = (0 : Int32)
    · refine XS.ifYes X0.here hx rfl (pc0 := 57) (pc' := 64) rfl (hb hby at_57) rfl ((if0 _ _).trans (teq hc3).1) (by decide) (by decide) ?_
      have k : ∀ (v1 : Bool), v1 = false → Steps p.tables e below (s₁.setTop (mkF m 65 (lo0_7 pp xa xb xc xd xe) [(.int (b2i v1))])) t := fun v1 hv1 => k v1 (hv1.trans (if_pos hc3).symm)
      show Steps p.tables e below (s₁.setTop (mkF m 64 (lo0_7 pp xa xb xc xd xe) [])) _
      refine XS.iconst X0.here hx rfl (hb hby at_64) ?_
      exact k false rfl
    · refine XS.ifNo X0.here hx rfl (hb hby at_57) rfl ((if0 _ _).trans (feq hc3).1) ?_
      have k : ∀ (v1 : Bool), v1 = true → Steps p.tables e below (s₁.setTop (mkF m 65 (lo0_7 pp xa xb xc xd xe) [(.int (b2i v1))])) t := fun v1 hv1 => k v1 (hv1.trans (if_neg hc3).symm)
      show Steps p.tables e below (s₁.setTop (mkF m 60 (lo0_7 pp xa xb xc xd xe) [])) _
      refine XS.iconst X0.here hx rfl (hb hby at_60) ?_
      show Steps p.tables e below (s₁.setTop (mkF m 61 (lo0_7 pp xa xb xc xd xe) [(.int (1 : Int32))])) _
      refine XS.goto X0.here hx rfl (pc0 := 61) (pc' := 65) rfl (hb hby at_61) (by decide) (by decide) ?_
      exact k true rfl
  have pre4 : ∀ t, Steps p.tables e below (s₁.setTop (mkF m 72 (lo0_8 pp xa xb xc xd xe) [(.int (((pp.toUInt32 >>> ((4 : Int32) &&& 31).toUInt32).toInt32) &&& (1 : Int32)))])) t → Steps p.tables e below (s₁.setTop (entryFrame m #[(.int pp), (.int xa), (.int xb), (.int xc), (.int xd), (.int xe)] maxLocals)) t := by
    intro t k
    refine pre2 t ?_
    show Steps p.tables e below (s₁.setTop (mkF m 65 (lo0_7 pp xa xb xc xd xe) [(.int (b2i (if (((pp.toUInt32 >>> ((3 : Int32) &&& 31).toUInt32).toInt32) &&& (1 : Int32)) = (0 : Int32) then false else true)))])) _
    refine XS.istore X0.here hx rfl (hb hby at_65) rfl (l' := (lo0_8 pp xa xb xc xd xe)) rfl ?_
    show Steps p.tables e below (s₁.setTop (mkF m 67 (lo0_8 pp xa xb xc xd xe) [])) _
    refine XS.iloadN X0.here hx rfl (hb hby at_67) rfl ?_
    show Steps p.tables e below (s₁.setTop (mkF m 68 (lo0_8 pp xa xb xc xd xe) [(.int pp)])) _
    refine XS.iconst X0.here hx rfl (hb hby at_68) ?_
    show Steps p.tables e below (s₁.setTop (mkF m 69 (lo0_8 pp xa xb xc xd xe) [(.int (4 : Int32)), (.int pp)])) _
    refine XS.iushr X0.here hx rfl (hb hby at_69) rfl ?_
    show Steps p.tables e below (s₁.setTop (mkF m 70 (lo0_8 pp xa xb xc xd xe) [(.int ((pp.toUInt32 >>> ((4 : Int32) &&& 31).toUInt32).toInt32))])) _
    refine XS.iconst X0.here hx rfl (hb hby at_70) ?_
    show Steps p.tables e below (s₁.setTop (mkF m 71 (lo0_8 pp xa xb xc xd xe) [(.int (1 : Int32)), (.int ((pp.toUInt32 >>> ((4 : Int32) &&& 31).toUInt32).toInt32))])) _
    refine XS.iand X0.here hx rfl (hb hby at_71) rfl ?_
    exact k
  have pre5 : ∀ t, Steps p.tables e below (s₁.setTop (mkF m 80 (lo0_8 pp xa xb xc xd xe) [(.int (b2i (if (((pp.toUInt32 >>> ((4 : Int32) &&& 31).toUInt32).toInt32) &&& (1 : Int32)) = (0 : Int32) then false else true)))])) t → Steps p.tables e below (s₁.setTop (entryFrame m #[(.int pp), (.int xa), (.int xb), (.int xc), (.int xd), (.int xe)] maxLocals)) t := by
    intro t k
    refine pre4 t ?_
    have k : ∀ (v1 : Bool), v1 = (if (((pp.toUInt32 >>> ((4 : Int32) &&& 31).toUInt32).toInt32) &&& (1 : Int32)) = (0 : Int32) then false else true) → Steps p.tables e below (s₁.setTop (mkF m 80 (lo0_8 pp xa xb xc xd xe) [(.int (b2i v1))])) t := fun v1 hv1 => by subst hv1; exact k
    show Steps p.tables e below (s₁.setTop (mkF m 72 (lo0_8 pp xa xb xc xd xe) [(.int (((pp.toUInt32 >>> ((4 : Int32) &&& 31).toUInt32).toInt32) &&& (1 : Int32)))])) _
    by_cases hc6 : (((pp.toUInt32 >>> ((4 : Int32) &&& 31).toUInt32).toInt32) &&& (1 : Int32)) = (0 : Int32)
    · refine XS.ifYes X0.here hx rfl (pc0 := 72) (pc' := 79) rfl (hb hby at_72) rfl ((if0 _ _).trans (teq hc6).1) (by decide) (by decide) ?_
      have k : ∀ (v1 : Bool), v1 = false → Steps p.tables e below (s₁.setTop (mkF m 80 (lo0_8 pp xa xb xc xd xe) [(.int (b2i v1))])) t := fun v1 hv1 => k v1 (hv1.trans (if_pos hc6).symm)
      show Steps p.tables e below (s₁.setTop (mkF m 79 (lo0_8 pp xa xb xc xd xe) [])) _
      refine XS.iconst X0.here hx rfl (hb hby at_79) ?_
      exact k false rfl
    · refine XS.ifNo X0.here hx rfl (hb hby at_72) rfl ((if0 _ _).trans (feq hc6).1) ?_
      have k : ∀ (v1 : Bool), v1 = true → Steps p.tables e below (s₁.setTop (mkF m 80 (lo0_8 pp xa xb xc xd xe) [(.int (b2i v1))])) t := fun v1 hv1 => k v1 (hv1.trans (if_neg hc6).symm)
      show Steps p.tables e below (s₁.setTop (mkF m 75 (lo0_8 pp xa xb xc xd xe) [])) _
      refine XS.iconst X0.here hx rfl (hb hby at_75) ?_
      show Steps p.tables e below (s₁.setTop (mkF m 76 (lo0_8 pp xa xb xc xd xe) [(.int (1 : Int32))])) _
      refine XS.goto X0.here hx rfl (pc0 := 76) (pc' := 80) rfl (hb hby at_76) (by decide) (by decide) ?_
      exact k true rfl
  have pre7 : ∀ t, Steps p.tables e below (s₁.setTop (mkF m 87 (lo0_9 pp xa xb xc xd xe) [(.int (((pp.toUInt32 >>> ((5 : Int32) &&& 31).toUInt32).toInt32) &&& (1 : Int32)))])) t → Steps p.tables e below (s₁.setTop (entryFrame m #[(.int pp), (.int xa), (.int xb), (.int xc), (.int xd), (.int xe)] maxLocals)) t := by
    intro t k
    refine pre5 t ?_
    show Steps p.tables e below (s₁.setTop (mkF m 80 (lo0_8 pp xa xb xc xd xe) [(.int (b2i (if (((pp.toUInt32 >>> ((4 : Int32) &&& 31).toUInt32).toInt32) &&& (1 : Int32)) = (0 : Int32) then false else true)))])) _
    refine XS.istore X0.here hx rfl (hb hby at_80) rfl (l' := (lo0_9 pp xa xb xc xd xe)) rfl ?_
    show Steps p.tables e below (s₁.setTop (mkF m 82 (lo0_9 pp xa xb xc xd xe) [])) _
    refine XS.iloadN X0.here hx rfl (hb hby at_82) rfl ?_
    show Steps p.tables e below (s₁.setTop (mkF m 83 (lo0_9 pp xa xb xc xd xe) [(.int pp)])) _
    refine XS.iconst X0.here hx rfl (hb hby at_83) ?_
    show Steps p.tables e below (s₁.setTop (mkF m 84 (lo0_9 pp xa xb xc xd xe) [(.int (5 : Int32)), (.int pp)])) _
    refine XS.iushr X0.here hx rfl (hb hby at_84) rfl ?_
    show Steps p.tables e below (s₁.setTop (mkF m 85 (lo0_9 pp xa xb xc xd xe) [(.int ((pp.toUInt32 >>> ((5 : Int32) &&& 31).toUInt32).toInt32))])) _
    refine XS.iconst X0.here hx rfl (hb hby at_85) ?_
    show Steps p.tables e below (s₁.setTop (mkF m 86 (lo0_9 pp xa xb xc xd xe) [(.int (1 : Int32)), (.int ((pp.toUInt32 >>> ((5 : Int32) &&& 31).toUInt32).toInt32))])) _
    refine XS.iand X0.here hx rfl (hb hby at_86) rfl ?_
    exact k
  have pre8 : ∀ t, Steps p.tables e below (s₁.setTop (mkF m 95 (lo0_9 pp xa xb xc xd xe) [(.int (b2i (if (((pp.toUInt32 >>> ((5 : Int32) &&& 31).toUInt32).toInt32) &&& (1 : Int32)) = (0 : Int32) then false else true)))])) t → Steps p.tables e below (s₁.setTop (entryFrame m #[(.int pp), (.int xa), (.int xb), (.int xc), (.int xd), (.int xe)] maxLocals)) t := by
    intro t k
    refine pre7 t ?_
    have k : ∀ (v1 : Bool), v1 = (if (((pp.toUInt32 >>> ((5 : Int32) &&& 31).toUInt32).toInt32) &&& (1 : Int32)) = (0 : Int32) then false else true) → Steps p.tables e below (s₁.setTop (mkF m 95 (lo0_9 pp xa xb xc xd xe) [(.int (b2i v1))])) t := fun v1 hv1 => by subst hv1; exact k
    show Steps p.tables e below (s₁.setTop (mkF m 87 (lo0_9 pp xa xb xc xd xe) [(.int (((pp.toUInt32 >>> ((5 : Int32) &&& 31).toUInt32).toInt32) &&& (1 : Int32)))])) _
    by_cases hc9 : (((pp.toUInt32 >>> ((5 : Int32) &&& 31).toUInt32).toInt32) &&& (1 : Int32)) = (0 : Int32)
    · refine XS.ifYes X0.here hx rfl (pc0 := 87) (pc' := 94) rfl (hb hby at_87) rfl ((if0 _ _).trans (teq hc9).1) (by decide) (by decide) ?_
      have k : ∀ (v1 : Bool), v1 = false → Steps p.tables e below (s₁.setTop (mkF m 95 (lo0_9 pp xa xb xc xd xe) [(.int (b2i v1))])) t := fun v1 hv1 => k v1 (hv1.trans (if_pos hc9).symm)
      show Steps p.tables e below (s₁.setTop (mkF m 94 (lo0_9 pp xa xb xc xd xe) [])) _
      refine XS.iconst X0.here hx rfl (hb hby at_94) ?_
      exact k false rfl
    · refine XS.ifNo X0.here hx rfl (hb hby at_87) rfl ((if0 _ _).trans (feq hc9).1) ?_
      have k : ∀ (v1 : Bool), v1 = true → Steps p.tables e below (s₁.setTop (mkF m 95 (lo0_9 pp xa xb xc xd xe) [(.int (b2i v1))])) t := fun v1 hv1 => k v1 (hv1.trans (if_neg hc9).symm)
      show Steps p.tables e below (s₁.setTop (mkF m 90 (lo0_9 pp xa xb xc xd xe) [])) _
      refine XS.iconst X0.here hx rfl (hb hby at_90) ?_
      show Steps p.tables e below (s₁.setTop (mkF m 91 (lo0_9 pp xa xb xc xd xe) [(.int (1 : Int32))])) _
      refine XS.goto X0.here hx rfl (pc0 := 91) (pc' := 95) rfl (hb hby at_91) (by decide) (by decide) ?_
      exact k true rfl
  have pre10 : ∀ t, Steps p.tables e below (s₁.setTop (mkF m 103 (lo0_10 pp xa xb xc xd xe) [(.int (((pp.toUInt32 >>> ((6 : Int32) &&& 31).toUInt32).toInt32) &&& (1 : Int32)))])) t → Steps p.tables e below (s₁.setTop (entryFrame m #[(.int pp), (.int xa), (.int xb), (.int xc), (.int xd), (.int xe)] maxLocals)) t := by
    intro t k
    refine pre8 t ?_
    show Steps p.tables e below (s₁.setTop (mkF m 95 (lo0_9 pp xa xb xc xd xe) [(.int (b2i (if (((pp.toUInt32 >>> ((5 : Int32) &&& 31).toUInt32).toInt32) &&& (1 : Int32)) = (0 : Int32) then false else true)))])) _
    refine XS.istore X0.here hx rfl (hb hby at_95) rfl (l' := (lo0_10 pp xa xb xc xd xe)) rfl ?_
    show Steps p.tables e below (s₁.setTop (mkF m 97 (lo0_10 pp xa xb xc xd xe) [])) _
    refine XS.iloadN X0.here hx rfl (hb hby at_97) rfl ?_
    show Steps p.tables e below (s₁.setTop (mkF m 98 (lo0_10 pp xa xb xc xd xe) [(.int pp)])) _
    refine XS.bipush X0.here hx rfl (hb hby at_98) ?_
    show Steps p.tables e below (s₁.setTop (mkF m 100 (lo0_10 pp xa xb xc xd xe) [(.int (6 : Int32)), (.int pp)])) _
    refine XS.iushr X0.here hx rfl (hb hby at_100) rfl ?_
    show Steps p.tables e below (s₁.setTop (mkF m 101 (lo0_10 pp xa xb xc xd xe) [(.int ((pp.toUInt32 >>> ((6 : Int32) &&& 31).toUInt32).toInt32))])) _
    refine XS.iconst X0.here hx rfl (hb hby at_101) ?_
    show Steps p.tables e below (s₁.setTop (mkF m 102 (lo0_10 pp xa xb xc xd xe) [(.int (1 : Int32)), (.int ((pp.toUInt32 >>> ((6 : Int32) &&& 31).toUInt32).toInt32))])) _
    refine XS.iand X0.here hx rfl (hb hby at_102) rfl ?_
    exact k
  have pre11 : ∀ t, Steps p.tables e below (s₁.setTop (mkF m 111 (lo0_10 pp xa xb xc xd xe) [(.int (b2i (if (((pp.toUInt32 >>> ((6 : Int32) &&& 31).toUInt32).toInt32) &&& (1 : Int32)) = (0 : Int32) then false else true)))])) t → Steps p.tables e below (s₁.setTop (entryFrame m #[(.int pp), (.int xa), (.int xb), (.int xc), (.int xd), (.int xe)] maxLocals)) t := by
    intro t k
    refine pre10 t ?_
    have k : ∀ (v1 : Bool), v1 = (if (((pp.toUInt32 >>> ((6 : Int32) &&& 31).toUInt32).toInt32) &&& (1 : Int32)) = (0 : Int32) then false else true) → Steps p.tables e below (s₁.setTop (mkF m 111 (lo0_10 pp xa xb xc xd xe) [(.int (b2i v1))])) t := fun v1 hv1 => by subst hv1; exact k
    show Steps p.tables e below (s₁.setTop (mkF m 103 (lo0_10 pp xa xb xc xd xe) [(.int (((pp.toUInt32 >>> ((6 : Int32) &&& 31).toUInt32).toInt32) &&& (1 : Int32)))])) _
    by_cases hc12 : (((pp.toUInt32 >>> ((6 : Int32) &&& 31).toUInt32).toInt32) &&& (1 : Int32)) = (0 : Int32)
    · refine XS.ifYes X0.here hx rfl (pc0 := 103) (pc' := 110) rfl (hb hby at_103) rfl ((if0 _ _).trans (teq hc12).1) (by decide) (by decide) ?_
      have k : ∀ (v1 : Bool), v1 = false → Steps p.tables e below (s₁.setTop (mkF m 111 (lo0_10 pp xa xb xc xd xe) [(.int (b2i v1))])) t := fun v1 hv1 => k v1 (hv1.trans (if_pos hc12).symm)
      show Steps p.tables e below (s₁.setTop (mkF m 110 (lo0_10 pp xa xb xc xd xe) [])) _
      refine XS.iconst X0.here hx rfl (hb hby at_110) ?_
      exact k false rfl
    · refine XS.ifNo X0.here hx rfl (hb hby at_103) rfl ((if0 _ _).trans (feq hc12).1) ?_
      have k : ∀ (v1 : Bool), v1 = true → Steps p.tables e below (s₁.setTop (mkF m 111 (lo0_10 pp xa xb xc xd xe) [(.int (b2i v1))])) t := fun v1 hv1 => k v1 (hv1.trans (if_neg hc12).symm)
      show Steps p.tables e below (s₁.setTop (mkF m 106 (lo0_10 pp xa xb xc xd xe) [])) _
      refine XS.iconst X0.here hx rfl (hb hby at_106) ?_
      show Steps p.tables e below (s₁.setTop (mkF m 107 (lo0_10 pp xa xb xc xd xe) [(.int (1 : Int32))])) _
      refine XS.goto X0.here hx rfl (pc0 := 107) (pc' := 111) rfl (hb hby at_107) (by decide) (by decide) ?_
      exact k true rfl
  have pre13 : ∀ t, Steps p.tables e below (s₁.setTop (mkF m 119 (lo0_11 pp xa xb xc xd xe) [(.int (((pp.toUInt32 >>> ((7 : Int32) &&& 31).toUInt32).toInt32) &&& (1 : Int32)))])) t → Steps p.tables e below (s₁.setTop (entryFrame m #[(.int pp), (.int xa), (.int xb), (.int xc), (.int xd), (.int xe)] maxLocals)) t := by
    intro t k
    refine pre11 t ?_
    show Steps p.tables e below (s₁.setTop (mkF m 111 (lo0_10 pp xa xb xc xd xe) [(.int (b2i (if (((pp.toUInt32 >>> ((6 : Int32) &&& 31).toUInt32).toInt32) &&& (1 : Int32)) = (0 : Int32) then false else true)))])) _
    refine XS.istore X0.here hx rfl (hb hby at_111) rfl (l' := (lo0_11 pp xa xb xc xd xe)) rfl ?_
    show Steps p.tables e below (s₁.setTop (mkF m 113 (lo0_11 pp xa xb xc xd xe) [])) _
    refine XS.iloadN X0.here hx rfl (hb hby at_113) rfl ?_
    show Steps p.tables e below (s₁.setTop (mkF m 114 (lo0_11 pp xa xb xc xd xe) [(.int pp)])) _
    refine XS.bipush X0.here hx rfl (hb hby at_114) ?_
    show Steps p.tables e below (s₁.setTop (mkF m 116 (lo0_11 pp xa xb xc xd xe) [(.int (7 : Int32)), (.int pp)])) _
    refine XS.iushr X0.here hx rfl (hb hby at_116) rfl ?_
    show Steps p.tables e below (s₁.setTop (mkF m 117 (lo0_11 pp xa xb xc xd xe) [(.int ((pp.toUInt32 >>> ((7 : Int32) &&& 31).toUInt32).toInt32))])) _
    refine XS.iconst X0.here hx rfl (hb hby at_117) ?_
    show Steps p.tables e below (s₁.setTop (mkF m 118 (lo0_11 pp xa xb xc xd xe) [(.int (1 : Int32)), (.int ((pp.toUInt32 >>> ((7 : Int32) &&& 31).toUInt32).toInt32))])) _
    refine XS.iand X0.here hx rfl (hb hby at_118) rfl ?_
    exact k
  have pre14 : ∀ t, Steps p.tables e below (s₁.setTop (mkF m 127 (lo0_11 pp xa xb xc xd xe) [(.int (b2i (if (((pp.toUInt32 >>> ((7 : Int32) &&& 31).toUInt32).toInt32) &&& (1 : Int32)) = (0 : Int32) then false else true)))])) t → Steps p.tables e below (s₁.setTop (entryFrame m #[(.int pp), (.int xa), (.int xb), (.int xc), (.int xd), (.int xe)] maxLocals)) t := by
    intro t k
    refine pre13 t ?_
    have k : ∀ (v1 : Bool), v1 = (if (((pp.toUInt32 >>> ((7 : Int32) &&& 31).toUInt32).toInt32) &&& (1 : Int32)) = (0 : Int32) then false else true) → Steps p.tables e below (s₁.setTop (mkF m 127 (lo0_11 pp xa xb xc xd xe) [(.int (b2i v1))])) t := fun v1 hv1 => by subst hv1; exact k
    show Steps p.tables e below (s₁.setTop (mkF m 119 (lo0_11 pp xa xb xc xd xe) [(.int (((pp.toUInt32 >>> ((7 : Int32) &&& 31).toUInt32).toInt32) &&& (1 : Int32)))])) _
    by_cases hc15 : (((pp.toUInt32 >>> ((7 : Int32) &&& 31).toUInt32).toInt32) &&& (1 : Int32)) = (0 : Int32)
    · refine XS.ifYes X0.here hx rfl (pc0 := 119) (pc' := 126) rfl (hb hby at_119) rfl ((if0 _ _).trans (teq hc15).1) (by decide) (by decide) ?_
      have k : ∀ (v1 : Bool), v1 = false → Steps p.tables e below (s₁.setTop (mkF m 127 (lo0_11 pp xa xb xc xd xe) [(.int (b2i v1))])) t := fun v1 hv1 => k v1 (hv1.trans (if_pos hc15).symm)
      show Steps p.tables e below (s₁.setTop (mkF m 126 (lo0_11 pp xa xb xc xd xe) [])) _
      refine XS.iconst X0.here hx rfl (hb hby at_126) ?_
      exact k false rfl
    · refine XS.ifNo X0.here hx rfl (hb hby at_119) rfl ((if0 _ _).trans (feq hc15).1) ?_
      have k : ∀ (v1 : Bool), v1 = true → Steps p.tables e below (s₁.setTop (mkF m 127 (lo0_11 pp xa xb xc xd xe) [(.int (b2i v1))])) t := fun v1 hv1 => k v1 (hv1.trans (if_neg hc15).symm)
      show Steps p.tables e below (s₁.setTop (mkF m 122 (lo0_11 pp xa xb xc xd xe) [])) _
      refine XS.iconst X0.here hx rfl (hb hby at_122) ?_
      show Steps p.tables e below (s₁.setTop (mkF m 123 (lo0_11 pp xa xb xc xd xe) [(.int (1 : Int32))])) _
      refine XS.goto X0.here hx rfl (pc0 := 123) (pc' := 127) rfl (hb hby at_123) (by decide) (by decide) ?_
      exact k true rfl
  obtain ⟨T16, h16, k16, X16, e16, E16, A16, st16⟩ := newP X0 hx hZ (hw _ (List.mem_of_getElem? (i := 1) rfl)) e0 (g := (mkF m 130 (lo0_12 pp xa xb xc xd xe) [(.int (5 : Int32))])) rfl (hb hby at_130) rfl (by decide) (cap := 5) (by decide) (by decide) (by decide) (by decide)
  obtain ⟨b16, g16⟩ : ∃ z, z = h0.size := ⟨_, rfl⟩
  rw [← g16] at A16 st16
  have ge_b16 : n0 ≤ b16 := Nat.le_trans Z0 (Nat.le_of_eq g16.symm)
  have Z16 : n0 ≤ h16.size := Nat.le_trans Z0 E16.1
  have V16 := AI.new A16 (by decide)
  obtain ⟨T17, h17, X17, e17, W17, V17, st17⟩ := wrI X16 hx hZ e16 V16 (j := (0 : Int32)) ⟨by decide, by decide⟩  (g := (mkF m 136 (lo0_12 pp xa xb xc xd xe) [(.int (v_s0 xa)), (.int (0 : Int32)), (.ref b16), (.ref b16)])) rfl rfl (hb hby at_136)
  have Z17 : n0 ≤ h17.size := Nat.le_trans Z16 (Keep.of_wr W17).1
  have N17 := Fr.snoc X17 N0 ge_b16
  obtain ⟨T18, h18, X18, e18, W18, V18, st18⟩ := wrI X17 hx hZ e17 V17 (j := (1 : Int32)) ⟨by decide, by decide⟩  (g := (mkF m 141 (lo0_12 pp xa xb xc xd xe) [(.int (v_s1 xb)), (.int (1 : Int32)), (.ref b16), (.ref b16)])) rfl rfl (hb hby at_141)
  have Z18 : n0 ≤ h18.size := Nat.le_trans Z17 (Keep.of_wr W18).1
  have N18 := Fr.snoc X18 N17 ge_b16
  obtain ⟨T19, h19, X19, e19, W19, V19, st19⟩ := wrI X18 hx hZ e18 V18 (j := (2 : Int32)) ⟨by decide, by decide⟩  (g := (mkF m 146 (lo0_12 pp xa xb xc xd xe) [(.int (v_s2 xc)), (.int (2 : Int32)), (.ref b16), (.ref b16)])) rfl rfl (hb hby at_146)
  have Z19 : n0 ≤ h19.size := Nat.le_trans Z18 (Keep.of_wr W19).1
  have N19 := Fr.snoc X19 N18 ge_b16
  obtain ⟨T20, h20, X20, e20, W20, V20, st20⟩ := wrI X19 hx hZ e19 V19 (j := (3 : Int32)) ⟨by decide, by decide⟩  (g := (mkF m 151 (lo0_12 pp xa xb xc xd xe) [(.int (v_s3 xd)), (.int (3 : Int32)), (.ref b16), (.ref b16)])) rfl rfl (hb hby at_151)
  have Z20 : n0 ≤ h20.size := Nat.le_trans Z19 (Keep.of_wr W20).1
  have N20 := Fr.snoc X20 N19 ge_b16
  obtain ⟨T21, h21, X21, e21, W21, V21, st21⟩ := wrI X20 hx hZ e20 V20 (j := (4 : Int32)) ⟨by decide, by decide⟩  (g := (mkF m 156 (lo0_12 pp xa xb xc xd xe) [(.int (v_s4 xe)), (.int (4 : Int32)), (.ref b16), (.ref b16)])) rfl rfl (hb hby at_156)
  have V21n : AI Z h21 b16 .int (5 : Int32) (v_ff xa xb xc xd xe) := V21
  have Z21 : n0 ≤ h21.size := Nat.le_trans Z20 (Keep.of_wr W21).1
  have N21 := Fr.snoc X21 N20 ge_b16
  obtain ⟨T22, h22, k22, X22, e22, E22, A22, st22⟩ := newP X21 hx hZ (hw _ (List.mem_of_getElem? (i := 2) rfl)) e21 (g := (mkF m 160 (lo0_13 pp xa xb xc xd xe b16) [(.int (5 : Int32))])) rfl (hb hby at_160) rfl (by decide) (cap := 5) (by decide) (by decide) (by decide) (by decide)
  obtain ⟨b22, g22⟩ : ∃ z, z = h21.size := ⟨_, rfl⟩
  rw [← g22] at A22 st22
  have ne_b16_b22 : b16 ≠ b22 := Nat.ne_of_lt (Nat.lt_of_lt_of_le V21n.lt (Nat.le_of_eq g22.symm))
  have ge_b22 : n0 ≤ b22 := Nat.le_trans Z21 (Nat.le_of_eq g22.symm)
  have Z22 : n0 ≤ h22.size := Nat.le_trans Z21 E22.1
  have V22 := AI.newZ A22 (by decide)
  obtain ⟨T23, h23, X23, e23, W23, V23, st23⟩ := wrZ X22 hx hZ e22 V22 (j := (0 : Int32)) ⟨by decide, by decide⟩ (y := (1 : Int32)) (by decide) (g := (mkF m 165 (lo0_13 pp xa xb xc xd xe b16) [(.int (1 : Int32)), (.int (0 : Int32)), (.ref b22), (.ref b22)])) rfl rfl (hb hby at_165)
  have Z23 : n0 ≤ h23.size := Nat.le_trans Z22 (Keep.of_wr W23).1
  have N23 := Fr.snoc X23 N21 ge_b22
  obtain ⟨T24, h24, X24, e24, W24, V24, st24⟩ := wrZ X23 hx hZ e23 V23 (j := (1 : Int32)) ⟨by decide, by decide⟩ (y := (1 : Int32)) (by decide) (g := (mkF m 169 (lo0_13 pp xa xb xc xd xe b16) [(.int (1 : Int32)), (.int (1 : Int32)), (.ref b22), (.ref b22)])) rfl rfl (hb hby at_169)
  have Z24 : n0 ≤ h24.size := Nat.le_trans Z23 (Keep.of_wr W24).1
  have N24 := Fr.snoc X24 N23 ge_b22
  obtain ⟨T25, h25, X25, e25, W25, V25, st25⟩ := wrZ X24 hx hZ e24 V24 (j := (2 : Int32)) ⟨by decide, by decide⟩ (y := (1 : Int32)) (by decide) (g := (mkF m 173 (lo0_13 pp xa xb xc xd xe b16) [(.int (1 : Int32)), (.int (2 : Int32)), (.ref b22), (.ref b22)])) rfl rfl (hb hby at_173)
  have Z25 : n0 ≤ h25.size := Nat.le_trans Z24 (Keep.of_wr W25).1
  have N25 := Fr.snoc X25 N24 ge_b22
  obtain ⟨T26, h26, X26, e26, W26, V26, st26⟩ := wrZ X25 hx hZ e25 V25 (j := (3 : Int32)) ⟨by decide, by decide⟩ (y := (1 : Int32)) (by decide) (g := (mkF m 177 (lo0_13 pp xa xb xc xd xe b16) [(.int (1 : Int32)), (.int (3 : Int32)), (.ref b22), (.ref b22)])) rfl rfl (hb hby at_177)
  have Z26 : n0 ≤ h26.size := Nat.le_trans Z25 (Keep.of_wr W26).1
  have N26 := Fr.snoc X26 N25 ge_b22
  obtain ⟨T27, h27, X27, e27, W27, V27, st27⟩ := wrZ X26 hx hZ e26 V26 (j := (4 : Int32)) ⟨by decide, by decide⟩ (y := (1 : Int32)) (by decide) (g := (mkF m 181 (lo0_13 pp xa xb xc xd xe b16) [(.int (1 : Int32)), (.int (4 : Int32)), (.ref b22), (.ref b22)])) rfl rfl (hb hby at_181)
  have V27n : AI Z h27 b22 .boolean (5 : Int32) v_gf := V27
  have f28 := ((((((V21n.ext E22).other W23 ne_b16_b22).other W24 ne_b16_b22).other W25 ne_b16_b22).other W26 ne_b16_b22).other W27 ne_b16_b22)
  have Z27 : n0 ≤ h27.size := Nat.le_trans Z26 (Keep.of_wr W27).1
  have N27 := Fr.snoc X27 N26 ge_b22
  obtain ⟨_, _, ⟨T29, L29, k29, n29⟩, -, X29, ⟨Lc29, hQ29, l29, y29, z29⟩, st29⟩ := Jvm.LawKit.callS X27 hx (y := (⟨"com/example/dealer/dealer/ChangingSharesFillPinLaw", "intsOf", "(I)[I"⟩ : MethodName)) hown (mvT hZ (hw _ (List.mem_of_getElem? (i := 3) rfl))) (mvT hZ (hw _ (List.mem_of_getElem? (i := 4) rfl))) (mvT hZ (hw _ (List.mem_of_getElem? (i := 5) rfl))) (mvT hZ (hw _ (List.mem_of_getElem? (i := 6) rfl))) (by decide) (backOf (W := 0) (rm1 l Z a0 hw [] (v_n pp) h27 n0 Z27 (own_nv pp)) hZ (hw _ (List.mem_of_getElem? (i := 6) rfl)) (hw _ (List.mem_of_getElem? (i := 5) rfl)) (by decide) (by decide)) (g := (mkF m 186 (lo0_14 pp xa xb xc xd xe b16 b22) [(.int (v_n pp))])) rfl (by rw [hml]; rfl) (argsL := [(.int (v_n pp))]) (rest := []) (lenOf pd_0 rfl) rfl (by show 2 * 0 + _ ≤ _; exact Nat.le_of_eq rfl) (hb hby at_186) (fun _ _ => ⟨rfl, e27, (by decide : 2 + 1 ≤ _), (by decide : 10 + 5 ≤ _)⟩)
  dsimp only [Pt.U, Pt.locs, Pt.cells, Pt.slots] at X29 l29 y29 z29 st29 hQ29
  subst y29 z29
  obtain ⟨t29, rfl, N29q, A29, g29, d29, Kq29⟩ := hQ29
  have N29 : Fr n0 L29 := by rw [l29]; exact Fr.app N27 N29q
  have Z29 : n0 ≤ T29.heap.size := Nat.le_trans Z27 Kq29.1
  have nq_b16_t29 : b16 ≠ t29 := d29 _ f28.lt
  have nq_b22_t29 : b22 ≠ t29 := d29 _ V27n.lt
  obtain ⟨_, _, ⟨T30, L30, k30, n30⟩, -, X30, ⟨Lc30, hQ30, l30, y30, z30⟩, st30⟩ := Jvm.LawKit.callS X29 hx (y := (⟨"com/example/dealer/dealer/ChangingSharesFillPinLaw", "flagsOf", "(I)[Z"⟩ : MethodName)) hown (mvT hZ (hw _ (List.mem_of_getElem? (i := 7) rfl))) (mvT hZ (hw _ (List.mem_of_getElem? (i := 8) rfl))) (mvT hZ (hw _ (List.mem_of_getElem? (i := 5) rfl))) (mvT hZ (hw _ (List.mem_of_getElem? (i := 9) rfl))) (by decide) (backOf (W := 0) (rm2 l Z a0 hw [] (v_n pp) T29.heap n0 Z29 (own_nv pp)) hZ (hw _ (List.mem_of_getElem? (i := 9) rfl)) (hw _ (List.mem_of_getElem? (i := 5) rfl)) (by decide) (by decide)) (g := (mkF m 193 (lo0_15 pp xa xb xc xd xe b16 b22 t29) [(.int (v_n pp))])) rfl (by rw [hml]; rfl) (argsL := [(.int (v_n pp))]) (rest := []) (lenOf pd_1 rfl) rfl (by show 2 * 0 + _ ≤ _; exact Nat.le_of_eq rfl) (hb hby at_193) (fun _ _ => ⟨rfl, rfl, (by decide : 3 + 1 ≤ _), (by decide : 15 + 5 ≤ _)⟩)
  dsimp only [Pt.U, Pt.locs, Pt.cells, Pt.slots] at X30 l30 y30 z30 st30 hQ30
  subst y30 z30
  obtain ⟨t30, rfl, N30q, A30, g30, d30, Kq30⟩ := hQ30
  have N30 : Fr n0 L30 := by rw [l30]; exact Fr.app N29 N30q
  have Z30 : n0 ≤ T30.heap.size := Nat.le_trans Z29 Kq30.1
  have nq_b16_t30 : b16 ≠ t30 := d30 _ (f28.keep Kq29 nin0).lt
  have nq_b22_t30 : b22 ≠ t30 := d30 _ (V27n.keep Kq29 nin0).lt
  have nq_t29_t30 : t29 ≠ t30 := d30 _ A29.lt
  have pre31 : ∀ t, Steps p.tables e below (T30.setTop (mkF m 200 (lo0_16 pp xa xb xc xd xe b16 b22 t29 t30) [(.int (v_n pp))])) t → Steps p.tables e below (s₁.setTop (entryFrame m #[(.int pp), (.int xa), (.int xb), (.int xc), (.int xd), (.int xe)] maxLocals)) t := by
    intro t k
    refine pre14 t ?_
    show Steps p.tables e below (s₁.setTop (mkF m 127 (lo0_11 pp xa xb xc xd xe) [(.int (b2i (if (((pp.toUInt32 >>> ((7 : Int32) &&& 31).toUInt32).toInt32) &&& (1 : Int32)) = (0 : Int32) then false else true)))])) _
    refine XS.istore X0.here hx rfl (hb hby at_127) rfl (l' := (lo0_12 pp xa xb xc xd xe)) rfl ?_
    show Steps p.tables e below (s₁.setTop (mkF m 129 (lo0_12 pp xa xb xc xd xe) [])) _
    refine XS.iconst X0.here hx rfl (hb hby at_129) ?_
    show Steps p.tables e below (s₁.setTop (mkF m 130 (lo0_12 pp xa xb xc xd xe) [(.int (5 : Int32))])) _
    refine st16 _ ?_
    show Steps p.tables e below (T16.setTop (mkF m 132 (lo0_12 pp xa xb xc xd xe) [(.ref b16)])) _
    refine XS.dup X16.here hx rfl (hb hby at_132) rfl rfl ?_
    show Steps p.tables e below (T16.setTop (mkF m 133 (lo0_12 pp xa xb xc xd xe) [(.ref b16), (.ref b16)])) _
    refine XS.iconst X16.here hx rfl (hb hby at_133) ?_
    show Steps p.tables e below (T16.setTop (mkF m 134 (lo0_12 pp xa xb xc xd xe) [(.int (0 : Int32)), (.ref b16), (.ref b16)])) _
    refine XS.iload X16.here hx rfl (hb hby at_134) rfl ?_
    show Steps p.tables e below (T16.setTop (mkF m 136 (lo0_12 pp xa xb xc xd xe) [(.int (v_s0 xa)), (.int (0 : Int32)), (.ref b16), (.ref b16)])) _
    refine st17 _ ?_
    show Steps p.tables e below (T17.setTop (mkF m 137 (lo0_12 pp xa xb xc xd xe) [(.ref b16)])) _
    refine XS.dup X17.here hx rfl (hb hby at_137) rfl rfl ?_
    show Steps p.tables e below (T17.setTop (mkF m 138 (lo0_12 pp xa xb xc xd xe) [(.ref b16), (.ref b16)])) _
    refine XS.iconst X17.here hx rfl (hb hby at_138) ?_
    show Steps p.tables e below (T17.setTop (mkF m 139 (lo0_12 pp xa xb xc xd xe) [(.int (1 : Int32)), (.ref b16), (.ref b16)])) _
    refine XS.iload X17.here hx rfl (hb hby at_139) rfl ?_
    show Steps p.tables e below (T17.setTop (mkF m 141 (lo0_12 pp xa xb xc xd xe) [(.int (v_s1 xb)), (.int (1 : Int32)), (.ref b16), (.ref b16)])) _
    refine st18 _ ?_
    show Steps p.tables e below (T18.setTop (mkF m 142 (lo0_12 pp xa xb xc xd xe) [(.ref b16)])) _
    refine XS.dup X18.here hx rfl (hb hby at_142) rfl rfl ?_
    show Steps p.tables e below (T18.setTop (mkF m 143 (lo0_12 pp xa xb xc xd xe) [(.ref b16), (.ref b16)])) _
    refine XS.iconst X18.here hx rfl (hb hby at_143) ?_
    show Steps p.tables e below (T18.setTop (mkF m 144 (lo0_12 pp xa xb xc xd xe) [(.int (2 : Int32)), (.ref b16), (.ref b16)])) _
    refine XS.iload X18.here hx rfl (hb hby at_144) rfl ?_
    show Steps p.tables e below (T18.setTop (mkF m 146 (lo0_12 pp xa xb xc xd xe) [(.int (v_s2 xc)), (.int (2 : Int32)), (.ref b16), (.ref b16)])) _
    refine st19 _ ?_
    show Steps p.tables e below (T19.setTop (mkF m 147 (lo0_12 pp xa xb xc xd xe) [(.ref b16)])) _
    refine XS.dup X19.here hx rfl (hb hby at_147) rfl rfl ?_
    show Steps p.tables e below (T19.setTop (mkF m 148 (lo0_12 pp xa xb xc xd xe) [(.ref b16), (.ref b16)])) _
    refine XS.iconst X19.here hx rfl (hb hby at_148) ?_
    show Steps p.tables e below (T19.setTop (mkF m 149 (lo0_12 pp xa xb xc xd xe) [(.int (3 : Int32)), (.ref b16), (.ref b16)])) _
    refine XS.iload X19.here hx rfl (hb hby at_149) rfl ?_
    show Steps p.tables e below (T19.setTop (mkF m 151 (lo0_12 pp xa xb xc xd xe) [(.int (v_s3 xd)), (.int (3 : Int32)), (.ref b16), (.ref b16)])) _
    refine st20 _ ?_
    show Steps p.tables e below (T20.setTop (mkF m 152 (lo0_12 pp xa xb xc xd xe) [(.ref b16)])) _
    refine XS.dup X20.here hx rfl (hb hby at_152) rfl rfl ?_
    show Steps p.tables e below (T20.setTop (mkF m 153 (lo0_12 pp xa xb xc xd xe) [(.ref b16), (.ref b16)])) _
    refine XS.iconst X20.here hx rfl (hb hby at_153) ?_
    show Steps p.tables e below (T20.setTop (mkF m 154 (lo0_12 pp xa xb xc xd xe) [(.int (4 : Int32)), (.ref b16), (.ref b16)])) _
    refine XS.iload X20.here hx rfl (hb hby at_154) rfl ?_
    show Steps p.tables e below (T20.setTop (mkF m 156 (lo0_12 pp xa xb xc xd xe) [(.int (v_s4 xe)), (.int (4 : Int32)), (.ref b16), (.ref b16)])) _
    refine st21 _ ?_
    show Steps p.tables e below (T21.setTop (mkF m 157 (lo0_12 pp xa xb xc xd xe) [(.ref b16)])) _
    refine XS.astore X21.here hx rfl (hb hby at_157) rfl rfl (l' := (lo0_13 pp xa xb xc xd xe b16)) rfl ?_
    show Steps p.tables e below (T21.setTop (mkF m 159 (lo0_13 pp xa xb xc xd xe b16) [])) _
    refine XS.iconst X21.here hx rfl (hb hby at_159) ?_
    show Steps p.tables e below (T21.setTop (mkF m 160 (lo0_13 pp xa xb xc xd xe b16) [(.int (5 : Int32))])) _
    refine st22 _ ?_
    show Steps p.tables e below (T22.setTop (mkF m 162 (lo0_13 pp xa xb xc xd xe b16) [(.ref b22)])) _
    refine XS.dup X22.here hx rfl (hb hby at_162) rfl rfl ?_
    show Steps p.tables e below (T22.setTop (mkF m 163 (lo0_13 pp xa xb xc xd xe b16) [(.ref b22), (.ref b22)])) _
    refine XS.iconst X22.here hx rfl (hb hby at_163) ?_
    show Steps p.tables e below (T22.setTop (mkF m 164 (lo0_13 pp xa xb xc xd xe b16) [(.int (0 : Int32)), (.ref b22), (.ref b22)])) _
    refine XS.iconst X22.here hx rfl (hb hby at_164) ?_
    show Steps p.tables e below (T22.setTop (mkF m 165 (lo0_13 pp xa xb xc xd xe b16) [(.int (1 : Int32)), (.int (0 : Int32)), (.ref b22), (.ref b22)])) _
    refine st23 _ ?_
    show Steps p.tables e below (T23.setTop (mkF m 166 (lo0_13 pp xa xb xc xd xe b16) [(.ref b22)])) _
    refine XS.dup X23.here hx rfl (hb hby at_166) rfl rfl ?_
    show Steps p.tables e below (T23.setTop (mkF m 167 (lo0_13 pp xa xb xc xd xe b16) [(.ref b22), (.ref b22)])) _
    refine XS.iconst X23.here hx rfl (hb hby at_167) ?_
    show Steps p.tables e below (T23.setTop (mkF m 168 (lo0_13 pp xa xb xc xd xe b16) [(.int (1 : Int32)), (.ref b22), (.ref b22)])) _
    refine XS.iconst X23.here hx rfl (hb hby at_168) ?_
    show Steps p.tables e below (T23.setTop (mkF m 169 (lo0_13 pp xa xb xc xd xe b16) [(.int (1 : Int32)), (.int (1 : Int32)), (.ref b22), (.ref b22)])) _
    refine st24 _ ?_
    show Steps p.tables e below (T24.setTop (mkF m 170 (lo0_13 pp xa xb xc xd xe b16) [(.ref b22)])) _
    refine XS.dup X24.here hx rfl (hb hby at_170) rfl rfl ?_
    show Steps p.tables e below (T24.setTop (mkF m 171 (lo0_13 pp xa xb xc xd xe b16) [(.ref b22), (.ref b22)])) _
    refine XS.iconst X24.here hx rfl (hb hby at_171) ?_
    show Steps p.tables e below (T24.setTop (mkF m 172 (lo0_13 pp xa xb xc xd xe b16) [(.int (2 : Int32)), (.ref b22), (.ref b22)])) _
    refine XS.iconst X24.here hx rfl (hb hby at_172) ?_
    show Steps p.tables e below (T24.setTop (mkF m 173 (lo0_13 pp xa xb xc xd xe b16) [(.int (1 : Int32)), (.int (2 : Int32)), (.ref b22), (.ref b22)])) _
    refine st25 _ ?_
    show Steps p.tables e below (T25.setTop (mkF m 174 (lo0_13 pp xa xb xc xd xe b16) [(.ref b22)])) _
    refine XS.dup X25.here hx rfl (hb hby at_174) rfl rfl ?_
    show Steps p.tables e below (T25.setTop (mkF m 175 (lo0_13 pp xa xb xc xd xe b16) [(.ref b22), (.ref b22)])) _
    refine XS.iconst X25.here hx rfl (hb hby at_175) ?_
    show Steps p.tables e below (T25.setTop (mkF m 176 (lo0_13 pp xa xb xc xd xe b16) [(.int (3 : Int32)), (.ref b22), (.ref b22)])) _
    refine XS.iconst X25.here hx rfl (hb hby at_176) ?_
    show Steps p.tables e below (T25.setTop (mkF m 177 (lo0_13 pp xa xb xc xd xe b16) [(.int (1 : Int32)), (.int (3 : Int32)), (.ref b22), (.ref b22)])) _
    refine st26 _ ?_
    show Steps p.tables e below (T26.setTop (mkF m 178 (lo0_13 pp xa xb xc xd xe b16) [(.ref b22)])) _
    refine XS.dup X26.here hx rfl (hb hby at_178) rfl rfl ?_
    show Steps p.tables e below (T26.setTop (mkF m 179 (lo0_13 pp xa xb xc xd xe b16) [(.ref b22), (.ref b22)])) _
    refine XS.iconst X26.here hx rfl (hb hby at_179) ?_
    show Steps p.tables e below (T26.setTop (mkF m 180 (lo0_13 pp xa xb xc xd xe b16) [(.int (4 : Int32)), (.ref b22), (.ref b22)])) _
    refine XS.iconst X26.here hx rfl (hb hby at_180) ?_
    show Steps p.tables e below (T26.setTop (mkF m 181 (lo0_13 pp xa xb xc xd xe b16) [(.int (1 : Int32)), (.int (4 : Int32)), (.ref b22), (.ref b22)])) _
    refine st27 _ ?_
    show Steps p.tables e below (T27.setTop (mkF m 182 (lo0_13 pp xa xb xc xd xe b16) [(.ref b22)])) _
    refine XS.astore X27.here hx rfl (hb hby at_182) rfl rfl (l' := (lo0_14 pp xa xb xc xd xe b16 b22)) rfl ?_
    show Steps p.tables e below (T27.setTop (mkF m 184 (lo0_14 pp xa xb xc xd xe b16 b22) [])) _
    refine XS.iload X27.here hx rfl (hb hby at_184) rfl ?_
    show Steps p.tables e below (T27.setTop (mkF m 186 (lo0_14 pp xa xb xc xd xe b16 b22) [(.int (v_n pp))])) _
    refine st29 _ ?_
    show Steps p.tables e below (T29.setTop (mkF m 189 (lo0_14 pp xa xb xc xd xe b16 b22) [(.ref t29)])) _
    refine XS.astore X29.here hx rfl (hb hby at_189) rfl rfl (l' := (lo0_15 pp xa xb xc xd xe b16 b22 t29)) rfl ?_
    show Steps p.tables e below (T29.setTop (mkF m 191 (lo0_15 pp xa xb xc xd xe b16 b22 t29) [])) _
    refine XS.iload X29.here hx rfl (hb hby at_191) rfl ?_
    show Steps p.tables e below (T29.setTop (mkF m 193 (lo0_15 pp xa xb xc xd xe b16 b22 t29) [(.int (v_n pp))])) _
    refine st30 _ ?_
    show Steps p.tables e below (T30.setTop (mkF m 196 (lo0_15 pp xa xb xc xd xe b16 b22 t29) [(.ref t30)])) _
    refine XS.astore X30.here hx rfl (hb hby at_196) rfl rfl (l' := (lo0_16 pp xa xb xc xd xe b16 b22 t29 t30)) rfl ?_
    show Steps p.tables e below (T30.setTop (mkF m 198 (lo0_16 pp xa xb xc xd xe b16 b22 t29 t30) [])) _
    refine XS.iload X30.here hx rfl (hb hby at_198) rfl ?_
    exact k
  obtain ⟨T37, hh37, L37, X37, e37, N37, I37, pre37⟩ : ∃ (T : State) (hh37 : Heap) (L : List Loc), Stand p l e room_1 s m #[(.int pp), (.int xa), (.int xb), (.int xc), (.int xd), (.int xe)] below meth c T L 4 20 ∧ T.heap = hh37 ∧ Fr n0 L ∧ (PA4 Z hh37 n0 b16 b22 t29 t30 (v_ff xa xb xc xd xe) v_gf (v_n pp) (v_zA pp xa) (v_yA pp)) ∧ ∀ t, Steps p.tables e below (T.setTop (mkF m 215 (lo0_16 pp xa xb xc xd xe b16 b22 t29 t30) [])) t → Steps p.tables e below (s₁.setTop (entryFrame m #[(.int pp), (.int xa), (.int xb), (.int xc), (.int xd), (.int xe)] maxLocals)) t := by
    by_cases hc32 : (0 : Int32) < (v_n pp)
    ·
      obtain ⟨T33, h33, X33, e33, W33, V33, st33⟩ := wrI X30 hx hZ rfl (A29.keep Kq30 nin0) (j := (0 : Int32)) ⟨by decide, hc32⟩  (g := (mkF m 208 (lo0_16 pp xa xb xc xd xe b16 b22 t29 t30) [(.int (v_s0 xa)), (.int (0 : Int32)), (.ref t29)])) rfl rfl (hb hby at_208)
      have Z33 : n0 ≤ h33.size := Nat.le_trans Z30 (Keep.of_wr W33).1
      have N33 := Fr.snoc X33 N30 g29
      obtain ⟨T34, h34, X34, e34, W34, V34, st34⟩ := wrZ X33 hx hZ e33 (A30.other W33 (Ne.symm nq_t29_t30)) (j := (0 : Int32)) ⟨by decide, hc32⟩ (nar_b2i _) (g := (mkF m 214 (lo0_16 pp xa xb xc xd xe b16 b22 t29 t30) [(.int (b2i (v_c0 pp))), (.int (0 : Int32)), (.ref t30)])) rfl rfl (hb hby at_214)
      have Z34 : n0 ≤ h34.size := Nat.le_trans Z33 (Keep.of_wr W34).1
      have N34 := Fr.snoc X34 N33 g30
      have pre35 : ∀ t, Steps p.tables e below (T34.setTop (mkF m 215 (lo0_16 pp xa xb xc xd xe b16 b22 t29 t30) [])) t → Steps p.tables e below (s₁.setTop (entryFrame m #[(.int pp), (.int xa), (.int xb), (.int xc), (.int xd), (.int xe)] maxLocals)) t := by
        intro t k
        refine pre31 t ?_
        show Steps p.tables e below (T30.setTop (mkF m 200 (lo0_16 pp xa xb xc xd xe b16 b22 t29 t30) [(.int (v_n pp))])) _
        refine XS.ifNo X30.here hx rfl (hb hby at_200) rfl ((if0 _ _).trans (tlt hc32).2.2.2) ?_
        show Steps p.tables e below (T30.setTop (mkF m 203 (lo0_16 pp xa xb xc xd xe b16 b22 t29 t30) [])) _
        refine XS.aload X30.here hx rfl (hb hby at_203) rfl rfl ?_
        show Steps p.tables e below (T30.setTop (mkF m 205 (lo0_16 pp xa xb xc xd xe b16 b22 t29 t30) [(.ref t29)])) _
        refine XS.iconst X30.here hx rfl (hb hby at_205) ?_
        show Steps p.tables e below (T30.setTop (mkF m 206 (lo0_16 pp xa xb xc xd xe b16 b22 t29 t30) [(.int (0 : Int32)), (.ref t29)])) _
        refine XS.iload X30.here hx rfl (hb hby at_206) rfl ?_
        show Steps p.tables e below (T30.setTop (mkF m 208 (lo0_16 pp xa xb xc xd xe b16 b22 t29 t30) [(.int (v_s0 xa)), (.int (0 : Int32)), (.ref t29)])) _
        refine st33 _ ?_
        show Steps p.tables e below (T33.setTop (mkF m 209 (lo0_16 pp xa xb xc xd xe b16 b22 t29 t30) [])) _
        refine XS.aload X33.here hx rfl (hb hby at_209) rfl rfl ?_
        show Steps p.tables e below (T33.setTop (mkF m 211 (lo0_16 pp xa xb xc xd xe b16 b22 t29 t30) [(.ref t30)])) _
        refine XS.iconst X33.here hx rfl (hb hby at_211) ?_
        show Steps p.tables e below (T33.setTop (mkF m 212 (lo0_16 pp xa xb xc xd xe b16 b22 t29 t30) [(.int (0 : Int32)), (.ref t30)])) _
        refine XS.iload X33.here hx rfl (hb hby at_212) rfl ?_
        show Steps p.tables e below (T33.setTop (mkF m 214 (lo0_16 pp xa xb xc xd xe b16 b22 t29 t30) [(.int (b2i (v_c0 pp))), (.int (0 : Int32)), (.ref t30)])) _
        refine st34 _ ?_
        exact k
      refine ⟨T34, _, _, X34, e34, N34, ⟨((((f28.keep Kq29 nin0).keep Kq30 nin0).other W33 nq_b16_t29).other W34 nq_b16_t30), ((((V27n.keep Kq29 nin0).keep Kq30 nin0).other W33 nq_b22_t29).other W34 nq_b22_t30), (by rw [(show (v_zA pp xa) = (@upA Int32 (fun _ => 0) (0 : Int32) (v_s0 xa)) from ((if_pos hc32).trans rfl))]; exact (V33.other W34 nq_t29_t30)), (by rw [(show (v_yA pp) = (@upA Int32 (fun _ => 0) (0 : Int32) (b2i (v_c0 pp))) from ((if_pos hc32).trans rfl))]; exact V34), ge_b16, ge_b22, g29, g30, ne_b16_b22, nq_b16_t29, nq_b16_t30, nq_b22_t29, nq_b22_t30, nq_t29_t30, Z34⟩, fun t k => ?_⟩
      exact pre35 t k
    ·
      have pre36 : ∀ t, Steps p.tables e below (T30.setTop (mkF m 215 (lo0_16 pp xa xb xc xd xe b16 b22 t29 t30) [])) t → Steps p.tables e below (s₁.setTop (entryFrame m #[(.int pp), (.int xa), (.int xb), (.int xc), (.int xd), (.int xe)] maxLocals)) t := by
        intro t k
        refine pre31 t ?_
        show Steps p.tables e below (T30.setTop (mkF m 200 (lo0_16 pp xa xb xc xd xe b16 b22 t29 t30) [(.int (v_n pp))])) _
        refine XS.ifYes X30.here hx rfl (pc0 := 200) (pc' := 215) rfl (hb hby at_200) rfl ((if0 _ _).trans (flt hc32).2.2.2) (by decide) (by decide) ?_
        exact k
      refine ⟨T30, _, _, X30, rfl, N30, ⟨((f28.keep Kq29 nin0).keep Kq30 nin0), ((V27n.keep Kq29 nin0).keep Kq30 nin0), (by rw [(show (v_zA pp xa) = (fun _ => 0) from ((if_neg hc32).trans rfl))]; exact (A29.keep Kq30 nin0)), (by rw [(show (v_yA pp) = (fun _ => 0) from ((if_neg hc32).trans rfl))]; exact A30), ge_b16, ge_b22, g29, g30, ne_b16_b22, nq_b16_t29, nq_b16_t30, nq_b22_t29, nq_b22_t30, nq_t29_t30, Z30⟩, fun t k => ?_⟩
      exact pre36 t k
  obtain ⟨k38_0, k38_1, k38_2, k38_3, k38_g_fa, k38_g_ga, k38_g_sa, k38_g_ca, k38_n_fa_ga, k38_n_fa_sa, k38_n_fa_ca, k38_n_ga_sa, k38_n_ga_ca, k38_n_sa_ca, k38_sz⟩ := I37
  have pre39 : ∀ t, Steps p.tables e below (T37.setTop (mkF m 218 (lo0_16 pp xa xb xc xd xe b16 b22 t29 t30) [(.int (1 : Int32)), (.int (v_n pp))])) t → Steps p.tables e below (s₁.setTop (entryFrame m #[(.int pp), (.int xa), (.int xb), (.int xc), (.int xd), (.int xe)] maxLocals)) t := by
    intro t k
    refine pre37 t ?_
    show Steps p.tables e below (T37.setTop (mkF m 215 (lo0_16 pp xa xb xc xd xe b16 b22 t29 t30) [])) _
    refine XS.iload X37.here hx rfl (hb hby at_215) rfl ?_
    show Steps p.tables e below (T37.setTop (mkF m 217 (lo0_16 pp xa xb xc xd xe b16 b22 t29 t30) [(.int (v_n pp))])) _
    refine XS.iconst X37.here hx rfl (hb hby at_217) ?_
    exact k
  obtain ⟨T45, hh45, L45, X45, e45, N45, I45, pre45⟩ : ∃ (T : State) (hh45 : Heap) (L : List Loc), Stand p l e room_1 s m #[(.int pp), (.int xa), (.int xb), (.int xc), (.int xd), (.int xe)] below meth c T L 4 20 ∧ T.heap = hh45 ∧ Fr n0 L ∧ (PA4 Z hh45 n0 b16 b22 t29 t30 (v_ff xa xb xc xd xe) v_gf (v_n pp) (v_zB pp xa xb) (v_yB pp)) ∧ ∀ t, Steps p.tables e below (T.setTop (mkF m 233 (lo0_16 pp xa xb xc xd xe b16 b22 t29 t30) [])) t → Steps p.tables e below (s₁.setTop (entryFrame m #[(.int pp), (.int xa), (.int xb), (.int xc), (.int xd), (.int xe)] maxLocals)) t := by
    by_cases hc40 : (1 : Int32) < (v_n pp)
    ·
      obtain ⟨T41, h41, X41, e41, W41, V41, st41⟩ := wrI X37 hx hZ e37 k38_2 (j := (1 : Int32)) ⟨by decide, hc40⟩  (g := (mkF m 226 (lo0_16 pp xa xb xc xd xe b16 b22 t29 t30) [(.int (v_s1 xb)), (.int (1 : Int32)), (.ref t29)])) rfl rfl (hb hby at_226)
      have Z41 : n0 ≤ h41.size := Nat.le_trans k38_sz (Keep.of_wr W41).1
      have N41 := Fr.snoc X41 N37 k38_g_sa
      obtain ⟨T42, h42, X42, e42, W42, V42, st42⟩ := wrZ X41 hx hZ e41 (k38_3.other W41 (Ne.symm k38_n_sa_ca)) (j := (1 : Int32)) ⟨by decide, hc40⟩ (nar_b2i _) (g := (mkF m 232 (lo0_16 pp xa xb xc xd xe b16 b22 t29 t30) [(.int (b2i (v_c1 pp))), (.int (1 : Int32)), (.ref t30)])) rfl rfl (hb hby at_232)
      have Z42 : n0 ≤ h42.size := Nat.le_trans Z41 (Keep.of_wr W42).1
      have N42 := Fr.snoc X42 N41 k38_g_ca
      have pre43 : ∀ t, Steps p.tables e below (T42.setTop (mkF m 233 (lo0_16 pp xa xb xc xd xe b16 b22 t29 t30) [])) t → Steps p.tables e below (s₁.setTop (entryFrame m #[(.int pp), (.int xa), (.int xb), (.int xc), (.int xd), (.int xe)] maxLocals)) t := by
        intro t k
        refine pre39 t ?_
        show Steps p.tables e below (T37.setTop (mkF m 218 (lo0_16 pp xa xb xc xd xe b16 b22 t29 t30) [(.int (1 : Int32)), (.int (v_n pp))])) _
        refine XS.icmpNo X37.here hx rfl (hb hby at_218) rfl (tlt hc40).2.2.2 ?_
        show Steps p.tables e below (T37.setTop (mkF m 221 (lo0_16 pp xa xb xc xd xe b16 b22 t29 t30) [])) _
        refine XS.aload X37.here hx rfl (hb hby at_221) rfl rfl ?_
        show Steps p.tables e below (T37.setTop (mkF m 223 (lo0_16 pp xa xb xc xd xe b16 b22 t29 t30) [(.ref t29)])) _
        refine XS.iconst X37.here hx rfl (hb hby at_223) ?_
        show Steps p.tables e below (T37.setTop (mkF m 224 (lo0_16 pp xa xb xc xd xe b16 b22 t29 t30) [(.int (1 : Int32)), (.ref t29)])) _
        refine XS.iload X37.here hx rfl (hb hby at_224) rfl ?_
        show Steps p.tables e below (T37.setTop (mkF m 226 (lo0_16 pp xa xb xc xd xe b16 b22 t29 t30) [(.int (v_s1 xb)), (.int (1 : Int32)), (.ref t29)])) _
        refine st41 _ ?_
        show Steps p.tables e below (T41.setTop (mkF m 227 (lo0_16 pp xa xb xc xd xe b16 b22 t29 t30) [])) _
        refine XS.aload X41.here hx rfl (hb hby at_227) rfl rfl ?_
        show Steps p.tables e below (T41.setTop (mkF m 229 (lo0_16 pp xa xb xc xd xe b16 b22 t29 t30) [(.ref t30)])) _
        refine XS.iconst X41.here hx rfl (hb hby at_229) ?_
        show Steps p.tables e below (T41.setTop (mkF m 230 (lo0_16 pp xa xb xc xd xe b16 b22 t29 t30) [(.int (1 : Int32)), (.ref t30)])) _
        refine XS.iload X41.here hx rfl (hb hby at_230) rfl ?_
        show Steps p.tables e below (T41.setTop (mkF m 232 (lo0_16 pp xa xb xc xd xe b16 b22 t29 t30) [(.int (b2i (v_c1 pp))), (.int (1 : Int32)), (.ref t30)])) _
        refine st42 _ ?_
        exact k
      refine ⟨T42, _, _, X42, e42, N42, ⟨((k38_0.other W41 k38_n_fa_sa).other W42 k38_n_fa_ca), ((k38_1.other W41 k38_n_ga_sa).other W42 k38_n_ga_ca), (by rw [(show (v_zB pp xa xb) = (@upA Int32 (v_zA pp xa) (1 : Int32) (v_s1 xb)) from ((if_pos hc40).trans rfl))]; exact (V41.other W42 k38_n_sa_ca)), (by rw [(show (v_yB pp) = (@upA Int32 (v_yA pp) (1 : Int32) (b2i (v_c1 pp))) from ((if_pos hc40).trans rfl))]; exact V42), k38_g_fa, k38_g_ga, k38_g_sa, k38_g_ca, k38_n_fa_ga, k38_n_fa_sa, k38_n_fa_ca, k38_n_ga_sa, k38_n_ga_ca, k38_n_sa_ca, Z42⟩, fun t k => ?_⟩
      exact pre43 t k
    ·
      have pre44 : ∀ t, Steps p.tables e below (T37.setTop (mkF m 233 (lo0_16 pp xa xb xc xd xe b16 b22 t29 t30) [])) t → Steps p.tables e below (s₁.setTop (entryFrame m #[(.int pp), (.int xa), (.int xb), (.int xc), (.int xd), (.int xe)] maxLocals)) t := by
        intro t k
        refine pre39 t ?_
        show Steps p.tables e below (T37.setTop (mkF m 218 (lo0_16 pp xa xb xc xd xe b16 b22 t29 t30) [(.int (1 : Int32)), (.int (v_n pp))])) _
        refine XS.icmpYes X37.here hx rfl (pc0 := 218) (pc' := 233) rfl (hb hby at_218) rfl (flt hc40).2.2.2 (by decide) (by decide) ?_
        exact k
      refine ⟨T37, _, _, X37, e37, N37, ⟨k38_0, k38_1, (by rw [(show (v_zB pp xa xb) = (v_zA pp xa) from ((if_neg hc40).trans rfl))]; exact k38_2), (by rw [(show (v_yB pp) = (v_yA pp) from ((if_neg hc40).trans rfl))]; exact k38_3), k38_g_fa, k38_g_ga, k38_g_sa, k38_g_ca, k38_n_fa_ga, k38_n_fa_sa, k38_n_fa_ca, k38_n_ga_sa, k38_n_ga_ca, k38_n_sa_ca, k38_sz⟩, fun t k => ?_⟩
      exact pre44 t k
  obtain ⟨k46_0, k46_1, k46_2, k46_3, k46_g_fa, k46_g_ga, k46_g_sa, k46_g_ca, k46_n_fa_ga, k46_n_fa_sa, k46_n_fa_ca, k46_n_ga_sa, k46_n_ga_ca, k46_n_sa_ca, k46_sz⟩ := I45
  have pre47 : ∀ t, Steps p.tables e below (T45.setTop (mkF m 236 (lo0_16 pp xa xb xc xd xe b16 b22 t29 t30) [(.int (2 : Int32)), (.int (v_n pp))])) t → Steps p.tables e below (s₁.setTop (entryFrame m #[(.int pp), (.int xa), (.int xb), (.int xc), (.int xd), (.int xe)] maxLocals)) t := by
    intro t k
    refine pre45 t ?_
    show Steps p.tables e below (T45.setTop (mkF m 233 (lo0_16 pp xa xb xc xd xe b16 b22 t29 t30) [])) _
    refine XS.iload X45.here hx rfl (hb hby at_233) rfl ?_
    show Steps p.tables e below (T45.setTop (mkF m 235 (lo0_16 pp xa xb xc xd xe b16 b22 t29 t30) [(.int (v_n pp))])) _
    refine XS.iconst X45.here hx rfl (hb hby at_235) ?_
    exact k
  obtain ⟨T53, hh53, L53, X53, e53, N53, I53, pre53⟩ : ∃ (T : State) (hh53 : Heap) (L : List Loc), Stand p l e room_1 s m #[(.int pp), (.int xa), (.int xb), (.int xc), (.int xd), (.int xe)] below meth c T L 4 20 ∧ T.heap = hh53 ∧ Fr n0 L ∧ (PA4 Z hh53 n0 b16 b22 t29 t30 (v_ff xa xb xc xd xe) v_gf (v_n pp) (v_zC pp xa xb xc) (v_yC pp)) ∧ ∀ t, Steps p.tables e below (T.setTop (mkF m 251 (lo0_16 pp xa xb xc xd xe b16 b22 t29 t30) [])) t → Steps p.tables e below (s₁.setTop (entryFrame m #[(.int pp), (.int xa), (.int xb), (.int xc), (.int xd), (.int xe)] maxLocals)) t := by
    by_cases hc48 : (2 : Int32) < (v_n pp)
    ·
      obtain ⟨T49, h49, X49, e49, W49, V49, st49⟩ := wrI X45 hx hZ e45 k46_2 (j := (2 : Int32)) ⟨by decide, hc48⟩  (g := (mkF m 244 (lo0_16 pp xa xb xc xd xe b16 b22 t29 t30) [(.int (v_s2 xc)), (.int (2 : Int32)), (.ref t29)])) rfl rfl (hb hby at_244)
      have Z49 : n0 ≤ h49.size := Nat.le_trans k46_sz (Keep.of_wr W49).1
      have N49 := Fr.snoc X49 N45 k46_g_sa
      obtain ⟨T50, h50, X50, e50, W50, V50, st50⟩ := wrZ X49 hx hZ e49 (k46_3.other W49 (Ne.symm k46_n_sa_ca)) (j := (2 : Int32)) ⟨by decide, hc48⟩ (nar_b2i _) (g := (mkF m 250 (lo0_16 pp xa xb xc xd xe b16 b22 t29 t30) [(.int (b2i (v_c2 pp))), (.int (2 : Int32)), (.ref t30)])) rfl rfl (hb hby at_250)
      have Z50 : n0 ≤ h50.size := Nat.le_trans Z49 (Keep.of_wr W50).1
      have N50 := Fr.snoc X50 N49 k46_g_ca
      have pre51 : ∀ t, Steps p.tables e below (T50.setTop (mkF m 251 (lo0_16 pp xa xb xc xd xe b16 b22 t29 t30) [])) t → Steps p.tables e below (s₁.setTop (entryFrame m #[(.int pp), (.int xa), (.int xb), (.int xc), (.int xd), (.int xe)] maxLocals)) t := by
        intro t k
        refine pre47 t ?_
        show Steps p.tables e below (T45.setTop (mkF m 236 (lo0_16 pp xa xb xc xd xe b16 b22 t29 t30) [(.int (2 : Int32)), (.int (v_n pp))])) _
        refine XS.icmpNo X45.here hx rfl (hb hby at_236) rfl (tlt hc48).2.2.2 ?_
        show Steps p.tables e below (T45.setTop (mkF m 239 (lo0_16 pp xa xb xc xd xe b16 b22 t29 t30) [])) _
        refine XS.aload X45.here hx rfl (hb hby at_239) rfl rfl ?_
        show Steps p.tables e below (T45.setTop (mkF m 241 (lo0_16 pp xa xb xc xd xe b16 b22 t29 t30) [(.ref t29)])) _
        refine XS.iconst X45.here hx rfl (hb hby at_241) ?_
        show Steps p.tables e below (T45.setTop (mkF m 242 (lo0_16 pp xa xb xc xd xe b16 b22 t29 t30) [(.int (2 : Int32)), (.ref t29)])) _
        refine XS.iload X45.here hx rfl (hb hby at_242) rfl ?_
        show Steps p.tables e below (T45.setTop (mkF m 244 (lo0_16 pp xa xb xc xd xe b16 b22 t29 t30) [(.int (v_s2 xc)), (.int (2 : Int32)), (.ref t29)])) _
        refine st49 _ ?_
        show Steps p.tables e below (T49.setTop (mkF m 245 (lo0_16 pp xa xb xc xd xe b16 b22 t29 t30) [])) _
        refine XS.aload X49.here hx rfl (hb hby at_245) rfl rfl ?_
        show Steps p.tables e below (T49.setTop (mkF m 247 (lo0_16 pp xa xb xc xd xe b16 b22 t29 t30) [(.ref t30)])) _
        refine XS.iconst X49.here hx rfl (hb hby at_247) ?_
        show Steps p.tables e below (T49.setTop (mkF m 248 (lo0_16 pp xa xb xc xd xe b16 b22 t29 t30) [(.int (2 : Int32)), (.ref t30)])) _
        refine XS.iload X49.here hx rfl (hb hby at_248) rfl ?_
        show Steps p.tables e below (T49.setTop (mkF m 250 (lo0_16 pp xa xb xc xd xe b16 b22 t29 t30) [(.int (b2i (v_c2 pp))), (.int (2 : Int32)), (.ref t30)])) _
        refine st50 _ ?_
        exact k
      refine ⟨T50, _, _, X50, e50, N50, ⟨((k46_0.other W49 k46_n_fa_sa).other W50 k46_n_fa_ca), ((k46_1.other W49 k46_n_ga_sa).other W50 k46_n_ga_ca), (by rw [(show (v_zC pp xa xb xc) = (@upA Int32 (v_zB pp xa xb) (2 : Int32) (v_s2 xc)) from ((if_pos hc48).trans rfl))]; exact (V49.other W50 k46_n_sa_ca)), (by rw [(show (v_yC pp) = (@upA Int32 (v_yB pp) (2 : Int32) (b2i (v_c2 pp))) from ((if_pos hc48).trans rfl))]; exact V50), k46_g_fa, k46_g_ga, k46_g_sa, k46_g_ca, k46_n_fa_ga, k46_n_fa_sa, k46_n_fa_ca, k46_n_ga_sa, k46_n_ga_ca, k46_n_sa_ca, Z50⟩, fun t k => ?_⟩
      exact pre51 t k
    ·
      have pre52 : ∀ t, Steps p.tables e below (T45.setTop (mkF m 251 (lo0_16 pp xa xb xc xd xe b16 b22 t29 t30) [])) t → Steps p.tables e below (s₁.setTop (entryFrame m #[(.int pp), (.int xa), (.int xb), (.int xc), (.int xd), (.int xe)] maxLocals)) t := by
        intro t k
        refine pre47 t ?_
        show Steps p.tables e below (T45.setTop (mkF m 236 (lo0_16 pp xa xb xc xd xe b16 b22 t29 t30) [(.int (2 : Int32)), (.int (v_n pp))])) _
        refine XS.icmpYes X45.here hx rfl (pc0 := 236) (pc' := 251) rfl (hb hby at_236) rfl (flt hc48).2.2.2 (by decide) (by decide) ?_
        exact k
      refine ⟨T45, _, _, X45, e45, N45, ⟨k46_0, k46_1, (by rw [(show (v_zC pp xa xb xc) = (v_zB pp xa xb) from ((if_neg hc48).trans rfl))]; exact k46_2), (by rw [(show (v_yC pp) = (v_yB pp) from ((if_neg hc48).trans rfl))]; exact k46_3), k46_g_fa, k46_g_ga, k46_g_sa, k46_g_ca, k46_n_fa_ga, k46_n_fa_sa, k46_n_fa_ca, k46_n_ga_sa, k46_n_ga_ca, k46_n_sa_ca, k46_sz⟩, fun t k => ?_⟩
      exact pre52 t k
  obtain ⟨k54_0, k54_1, k54_2, k54_3, k54_g_fa, k54_g_ga, k54_g_sa, k54_g_ca, k54_n_fa_ga, k54_n_fa_sa, k54_n_fa_ca, k54_n_ga_sa, k54_n_ga_ca, k54_n_sa_ca, k54_sz⟩ := I53
  have pre55 : ∀ t, Steps p.tables e below (T53.setTop (mkF m 254 (lo0_16 pp xa xb xc xd xe b16 b22 t29 t30) [(.int (3 : Int32)), (.int (v_n pp))])) t → Steps p.tables e below (s₁.setTop (entryFrame m #[(.int pp), (.int xa), (.int xb), (.int xc), (.int xd), (.int xe)] maxLocals)) t := by
    intro t k
    refine pre53 t ?_
    show Steps p.tables e below (T53.setTop (mkF m 251 (lo0_16 pp xa xb xc xd xe b16 b22 t29 t30) [])) _
    refine XS.iload X53.here hx rfl (hb hby at_251) rfl ?_
    show Steps p.tables e below (T53.setTop (mkF m 253 (lo0_16 pp xa xb xc xd xe b16 b22 t29 t30) [(.int (v_n pp))])) _
    refine XS.iconst X53.here hx rfl (hb hby at_253) ?_
    exact k
  obtain ⟨T61, hh61, L61, X61, e61, N61, I61, pre61⟩ : ∃ (T : State) (hh61 : Heap) (L : List Loc), Stand p l e room_1 s m #[(.int pp), (.int xa), (.int xb), (.int xc), (.int xd), (.int xe)] below meth c T L 4 20 ∧ T.heap = hh61 ∧ Fr n0 L ∧ (PA4 Z hh61 n0 b16 b22 t29 t30 (v_ff xa xb xc xd xe) v_gf (v_n pp) (v_zD pp xa xb xc xd) (v_yD pp)) ∧ ∀ t, Steps p.tables e below (T.setTop (mkF m 269 (lo0_16 pp xa xb xc xd xe b16 b22 t29 t30) [])) t → Steps p.tables e below (s₁.setTop (entryFrame m #[(.int pp), (.int xa), (.int xb), (.int xc), (.int xd), (.int xe)] maxLocals)) t := by
    by_cases hc56 : (3 : Int32) < (v_n pp)
    ·
      obtain ⟨T57, h57, X57, e57, W57, V57, st57⟩ := wrI X53 hx hZ e53 k54_2 (j := (3 : Int32)) ⟨by decide, hc56⟩  (g := (mkF m 262 (lo0_16 pp xa xb xc xd xe b16 b22 t29 t30) [(.int (v_s3 xd)), (.int (3 : Int32)), (.ref t29)])) rfl rfl (hb hby at_262)
      have Z57 : n0 ≤ h57.size := Nat.le_trans k54_sz (Keep.of_wr W57).1
      have N57 := Fr.snoc X57 N53 k54_g_sa
      obtain ⟨T58, h58, X58, e58, W58, V58, st58⟩ := wrZ X57 hx hZ e57 (k54_3.other W57 (Ne.symm k54_n_sa_ca)) (j := (3 : Int32)) ⟨by decide, hc56⟩ (nar_b2i _) (g := (mkF m 268 (lo0_16 pp xa xb xc xd xe b16 b22 t29 t30) [(.int (b2i (v_c3 pp))), (.int (3 : Int32)), (.ref t30)])) rfl rfl (hb hby at_268)
      have Z58 : n0 ≤ h58.size := Nat.le_trans Z57 (Keep.of_wr W58).1
      have N58 := Fr.snoc X58 N57 k54_g_ca
      have pre59 : ∀ t, Steps p.tables e below (T58.setTop (mkF m 269 (lo0_16 pp xa xb xc xd xe b16 b22 t29 t30) [])) t → Steps p.tables e below (s₁.setTop (entryFrame m #[(.int pp), (.int xa), (.int xb), (.int xc), (.int xd), (.int xe)] maxLocals)) t := by
        intro t k
        refine pre55 t ?_
        show Steps p.tables e below (T53.setTop (mkF m 254 (lo0_16 pp xa xb xc xd xe b16 b22 t29 t30) [(.int (3 : Int32)), (.int (v_n pp))])) _
        refine XS.icmpNo X53.here hx rfl (hb hby at_254) rfl (tlt hc56).2.2.2 ?_
        show Steps p.tables e below (T53.setTop (mkF m 257 (lo0_16 pp xa xb xc xd xe b16 b22 t29 t30) [])) _
        refine XS.aload X53.here hx rfl (hb hby at_257) rfl rfl ?_
        show Steps p.tables e below (T53.setTop (mkF m 259 (lo0_16 pp xa xb xc xd xe b16 b22 t29 t30) [(.ref t29)])) _
        refine XS.iconst X53.here hx rfl (hb hby at_259) ?_
        show Steps p.tables e below (T53.setTop (mkF m 260 (lo0_16 pp xa xb xc xd xe b16 b22 t29 t30) [(.int (3 : Int32)), (.ref t29)])) _
        refine XS.iload X53.here hx rfl (hb hby at_260) rfl ?_
        show Steps p.tables e below (T53.setTop (mkF m 262 (lo0_16 pp xa xb xc xd xe b16 b22 t29 t30) [(.int (v_s3 xd)), (.int (3 : Int32)), (.ref t29)])) _
        refine st57 _ ?_
        show Steps p.tables e below (T57.setTop (mkF m 263 (lo0_16 pp xa xb xc xd xe b16 b22 t29 t30) [])) _
        refine XS.aload X57.here hx rfl (hb hby at_263) rfl rfl ?_
        show Steps p.tables e below (T57.setTop (mkF m 265 (lo0_16 pp xa xb xc xd xe b16 b22 t29 t30) [(.ref t30)])) _
        refine XS.iconst X57.here hx rfl (hb hby at_265) ?_
        show Steps p.tables e below (T57.setTop (mkF m 266 (lo0_16 pp xa xb xc xd xe b16 b22 t29 t30) [(.int (3 : Int32)), (.ref t30)])) _
        refine XS.iload X57.here hx rfl (hb hby at_266) rfl ?_
        show Steps p.tables e below (T57.setTop (mkF m 268 (lo0_16 pp xa xb xc xd xe b16 b22 t29 t30) [(.int (b2i (v_c3 pp))), (.int (3 : Int32)), (.ref t30)])) _
        refine st58 _ ?_
        exact k
      refine ⟨T58, _, _, X58, e58, N58, ⟨((k54_0.other W57 k54_n_fa_sa).other W58 k54_n_fa_ca), ((k54_1.other W57 k54_n_ga_sa).other W58 k54_n_ga_ca), (by rw [(show (v_zD pp xa xb xc xd) = (@upA Int32 (v_zC pp xa xb xc) (3 : Int32) (v_s3 xd)) from ((if_pos hc56).trans rfl))]; exact (V57.other W58 k54_n_sa_ca)), (by rw [(show (v_yD pp) = (@upA Int32 (v_yC pp) (3 : Int32) (b2i (v_c3 pp))) from ((if_pos hc56).trans rfl))]; exact V58), k54_g_fa, k54_g_ga, k54_g_sa, k54_g_ca, k54_n_fa_ga, k54_n_fa_sa, k54_n_fa_ca, k54_n_ga_sa, k54_n_ga_ca, k54_n_sa_ca, Z58⟩, fun t k => ?_⟩
      exact pre59 t k
    ·
      have pre60 : ∀ t, Steps p.tables e below (T53.setTop (mkF m 269 (lo0_16 pp xa xb xc xd xe b16 b22 t29 t30) [])) t → Steps p.tables e below (s₁.setTop (entryFrame m #[(.int pp), (.int xa), (.int xb), (.int xc), (.int xd), (.int xe)] maxLocals)) t := by
        intro t k
        refine pre55 t ?_
        show Steps p.tables e below (T53.setTop (mkF m 254 (lo0_16 pp xa xb xc xd xe b16 b22 t29 t30) [(.int (3 : Int32)), (.int (v_n pp))])) _
        refine XS.icmpYes X53.here hx rfl (pc0 := 254) (pc' := 269) rfl (hb hby at_254) rfl (flt hc56).2.2.2 (by decide) (by decide) ?_
        exact k
      refine ⟨T53, _, _, X53, e53, N53, ⟨k54_0, k54_1, (by rw [(show (v_zD pp xa xb xc xd) = (v_zC pp xa xb xc) from ((if_neg hc56).trans rfl))]; exact k54_2), (by rw [(show (v_yD pp) = (v_yC pp) from ((if_neg hc56).trans rfl))]; exact k54_3), k54_g_fa, k54_g_ga, k54_g_sa, k54_g_ca, k54_n_fa_ga, k54_n_fa_sa, k54_n_fa_ca, k54_n_ga_sa, k54_n_ga_ca, k54_n_sa_ca, k54_sz⟩, fun t k => ?_⟩
      exact pre60 t k
  obtain ⟨k62_0, k62_1, k62_2, k62_3, k62_g_fa, k62_g_ga, k62_g_sa, k62_g_ca, k62_n_fa_ga, k62_n_fa_sa, k62_n_fa_ca, k62_n_ga_sa, k62_n_ga_ca, k62_n_sa_ca, k62_sz⟩ := I61
  have pre63 : ∀ t, Steps p.tables e below (T61.setTop (mkF m 272 (lo0_16 pp xa xb xc xd xe b16 b22 t29 t30) [(.int (4 : Int32)), (.int (v_n pp))])) t → Steps p.tables e below (s₁.setTop (entryFrame m #[(.int pp), (.int xa), (.int xb), (.int xc), (.int xd), (.int xe)] maxLocals)) t := by
    intro t k
    refine pre61 t ?_
    show Steps p.tables e below (T61.setTop (mkF m 269 (lo0_16 pp xa xb xc xd xe b16 b22 t29 t30) [])) _
    refine XS.iload X61.here hx rfl (hb hby at_269) rfl ?_
    show Steps p.tables e below (T61.setTop (mkF m 271 (lo0_16 pp xa xb xc xd xe b16 b22 t29 t30) [(.int (v_n pp))])) _
    refine XS.iconst X61.here hx rfl (hb hby at_271) ?_
    exact k
  obtain ⟨T69, hh69, L69, X69, e69, N69, I69, pre69⟩ : ∃ (T : State) (hh69 : Heap) (L : List Loc), Stand p l e room_1 s m #[(.int pp), (.int xa), (.int xb), (.int xc), (.int xd), (.int xe)] below meth c T L 4 20 ∧ T.heap = hh69 ∧ Fr n0 L ∧ (PA4 Z hh69 n0 b16 b22 t29 t30 (v_ff xa xb xc xd xe) v_gf (v_n pp) (v_zE pp xa xb xc xd xe) (v_yE pp)) ∧ ∀ t, Steps p.tables e below (T.setTop (mkF m 287 (lo0_16 pp xa xb xc xd xe b16 b22 t29 t30) [])) t → Steps p.tables e below (s₁.setTop (entryFrame m #[(.int pp), (.int xa), (.int xb), (.int xc), (.int xd), (.int xe)] maxLocals)) t := by
    by_cases hc64 : (4 : Int32) < (v_n pp)
    ·
      obtain ⟨T65, h65, X65, e65, W65, V65, st65⟩ := wrI X61 hx hZ e61 k62_2 (j := (4 : Int32)) ⟨by decide, hc64⟩  (g := (mkF m 280 (lo0_16 pp xa xb xc xd xe b16 b22 t29 t30) [(.int (v_s4 xe)), (.int (4 : Int32)), (.ref t29)])) rfl rfl (hb hby at_280)
      have Z65 : n0 ≤ h65.size := Nat.le_trans k62_sz (Keep.of_wr W65).1
      have N65 := Fr.snoc X65 N61 k62_g_sa
      obtain ⟨T66, h66, X66, e66, W66, V66, st66⟩ := wrZ X65 hx hZ e65 (k62_3.other W65 (Ne.symm k62_n_sa_ca)) (j := (4 : Int32)) ⟨by decide, hc64⟩ (nar_b2i _) (g := (mkF m 286 (lo0_16 pp xa xb xc xd xe b16 b22 t29 t30) [(.int (b2i (v_c4 pp))), (.int (4 : Int32)), (.ref t30)])) rfl rfl (hb hby at_286)
      have Z66 : n0 ≤ h66.size := Nat.le_trans Z65 (Keep.of_wr W66).1
      have N66 := Fr.snoc X66 N65 k62_g_ca
      have pre67 : ∀ t, Steps p.tables e below (T66.setTop (mkF m 287 (lo0_16 pp xa xb xc xd xe b16 b22 t29 t30) [])) t → Steps p.tables e below (s₁.setTop (entryFrame m #[(.int pp), (.int xa), (.int xb), (.int xc), (.int xd), (.int xe)] maxLocals)) t := by
        intro t k
        refine pre63 t ?_
        show Steps p.tables e below (T61.setTop (mkF m 272 (lo0_16 pp xa xb xc xd xe b16 b22 t29 t30) [(.int (4 : Int32)), (.int (v_n pp))])) _
        refine XS.icmpNo X61.here hx rfl (hb hby at_272) rfl (tlt hc64).2.2.2 ?_
        show Steps p.tables e below (T61.setTop (mkF m 275 (lo0_16 pp xa xb xc xd xe b16 b22 t29 t30) [])) _
        refine XS.aload X61.here hx rfl (hb hby at_275) rfl rfl ?_
        show Steps p.tables e below (T61.setTop (mkF m 277 (lo0_16 pp xa xb xc xd xe b16 b22 t29 t30) [(.ref t29)])) _
        refine XS.iconst X61.here hx rfl (hb hby at_277) ?_
        show Steps p.tables e below (T61.setTop (mkF m 278 (lo0_16 pp xa xb xc xd xe b16 b22 t29 t30) [(.int (4 : Int32)), (.ref t29)])) _
        refine XS.iload X61.here hx rfl (hb hby at_278) rfl ?_
        show Steps p.tables e below (T61.setTop (mkF m 280 (lo0_16 pp xa xb xc xd xe b16 b22 t29 t30) [(.int (v_s4 xe)), (.int (4 : Int32)), (.ref t29)])) _
        refine st65 _ ?_
        show Steps p.tables e below (T65.setTop (mkF m 281 (lo0_16 pp xa xb xc xd xe b16 b22 t29 t30) [])) _
        refine XS.aload X65.here hx rfl (hb hby at_281) rfl rfl ?_
        show Steps p.tables e below (T65.setTop (mkF m 283 (lo0_16 pp xa xb xc xd xe b16 b22 t29 t30) [(.ref t30)])) _
        refine XS.iconst X65.here hx rfl (hb hby at_283) ?_
        show Steps p.tables e below (T65.setTop (mkF m 284 (lo0_16 pp xa xb xc xd xe b16 b22 t29 t30) [(.int (4 : Int32)), (.ref t30)])) _
        refine XS.iload X65.here hx rfl (hb hby at_284) rfl ?_
        show Steps p.tables e below (T65.setTop (mkF m 286 (lo0_16 pp xa xb xc xd xe b16 b22 t29 t30) [(.int (b2i (v_c4 pp))), (.int (4 : Int32)), (.ref t30)])) _
        refine st66 _ ?_
        exact k
      refine ⟨T66, _, _, X66, e66, N66, ⟨((k62_0.other W65 k62_n_fa_sa).other W66 k62_n_fa_ca), ((k62_1.other W65 k62_n_ga_sa).other W66 k62_n_ga_ca), (by rw [(show (v_zE pp xa xb xc xd xe) = (@upA Int32 (v_zD pp xa xb xc xd) (4 : Int32) (v_s4 xe)) from ((if_pos hc64).trans rfl))]; exact (V65.other W66 k62_n_sa_ca)), (by rw [(show (v_yE pp) = (@upA Int32 (v_yD pp) (4 : Int32) (b2i (v_c4 pp))) from ((if_pos hc64).trans rfl))]; exact V66), k62_g_fa, k62_g_ga, k62_g_sa, k62_g_ca, k62_n_fa_ga, k62_n_fa_sa, k62_n_fa_ca, k62_n_ga_sa, k62_n_ga_ca, k62_n_sa_ca, Z66⟩, fun t k => ?_⟩
      exact pre67 t k
    ·
      have pre68 : ∀ t, Steps p.tables e below (T61.setTop (mkF m 287 (lo0_16 pp xa xb xc xd xe b16 b22 t29 t30) [])) t → Steps p.tables e below (s₁.setTop (entryFrame m #[(.int pp), (.int xa), (.int xb), (.int xc), (.int xd), (.int xe)] maxLocals)) t := by
        intro t k
        refine pre63 t ?_
        show Steps p.tables e below (T61.setTop (mkF m 272 (lo0_16 pp xa xb xc xd xe b16 b22 t29 t30) [(.int (4 : Int32)), (.int (v_n pp))])) _
        refine XS.icmpYes X61.here hx rfl (pc0 := 272) (pc' := 287) rfl (hb hby at_272) rfl (flt hc64).2.2.2 (by decide) (by decide) ?_
        exact k
      refine ⟨T61, _, _, X61, e61, N61, ⟨k62_0, k62_1, (by rw [(show (v_zE pp xa xb xc xd xe) = (v_zD pp xa xb xc xd) from ((if_neg hc64).trans rfl))]; exact k62_2), (by rw [(show (v_yE pp) = (v_yD pp) from ((if_neg hc64).trans rfl))]; exact k62_3), k62_g_fa, k62_g_ga, k62_g_sa, k62_g_ca, k62_n_fa_ga, k62_n_fa_sa, k62_n_fa_ca, k62_n_ga_sa, k62_n_ga_ca, k62_n_sa_ca, k62_sz⟩, fun t k => ?_⟩
      exact pre68 t k
  obtain ⟨k70_0, k70_1, k70_2, k70_3, k70_g_fa, k70_g_ga, k70_g_sa, k70_g_ca, k70_n_fa_ga, k70_n_fa_sa, k70_n_fa_ca, k70_n_ga_sa, k70_n_ga_ca, k70_n_sa_ca, k70_sz⟩ := I69
  have pre71 : ∀ t, Steps p.tables e below (T69.setTop (mkF m 289 (lo0_16 pp xa xb xc xd xe b16 b22 t29 t30) [(.int (v_n pp))])) t → Steps p.tables e below (s₁.setTop (entryFrame m #[(.int pp), (.int xa), (.int xb), (.int xc), (.int xd), (.int xe)] maxLocals)) t := by
    intro t k
    refine pre69 t ?_
    show Steps p.tables e below (T69.setTop (mkF m 287 (lo0_16 pp xa xb xc xd xe b16 b22 t29 t30) [])) _
    refine XS.iload X69.here hx rfl (hb hby at_287) rfl ?_
    exact k
  have pre72 : ∀ t, Steps p.tables e below (T69.setTop (mkF m 304 (lo0_16 pp xa xb xc xd xe b16 b22 t29 t30) [(.long (if (0 : Int32) < (v_n pp) then (if (v_c0 pp) = true then ((v_s0 xa).toInt64) else (0 : Int64)) else (0 : Int64)))])) t → Steps p.tables e below (s₁.setTop (entryFrame m #[(.int pp), (.int xa), (.int xb), (.int xc), (.int xd), (.int xe)] maxLocals)) t := by
    intro t k
    refine pre71 t ?_
    have k : ∀ (v1 : Int64), v1 = (if (0 : Int32) < (v_n pp) then (if (v_c0 pp) = true then ((v_s0 xa).toInt64) else (0 : Int64)) else (0 : Int64)) → Steps p.tables e below (T69.setTop (mkF m 304 (lo0_16 pp xa xb xc xd xe b16 b22 t29 t30) [(.long v1)])) t := fun v1 hv1 => by subst hv1; exact k
    have nd73 : (∀ (v1 : Int64), v1 = (0 : Int64) → Steps p.tables e below (T69.setTop (mkF m 304 (lo0_16 pp xa xb xc xd xe b16 b22 t29 t30) [(.long v1)])) t) → Steps p.tables e below (T69.setTop (mkF m 303 (lo0_16 pp xa xb xc xd xe b16 b22 t29 t30) [])) t := by
      intro k
      show Steps p.tables e below (T69.setTop (mkF m 303 (lo0_16 pp xa xb xc xd xe b16 b22 t29 t30) [])) _
      refine XS.lconst X69.here hx rfl (hb hby at_303) ?_
      exact k _ rfl
    show Steps p.tables e below (T69.setTop (mkF m 289 (lo0_16 pp xa xb xc xd xe b16 b22 t29 t30) [(.int (v_n pp))])) _
    by_cases hc74 : (0 : Int32) < (v_n pp)
    · refine XS.ifNo X69.here hx rfl (hb hby at_289) rfl ((if0 _ _).trans (tlt hc74).2.2.2) ?_
      have k : ∀ (v1 : Int64), v1 = (if (v_c0 pp) = true then ((v_s0 xa).toInt64) else (0 : Int64)) → Steps p.tables e below (T69.setTop (mkF m 304 (lo0_16 pp xa xb xc xd xe b16 b22 t29 t30) [(.long v1)])) t := fun v1 hv1 => k v1 (hv1.trans (if_pos hc74).symm)
      show Steps p.tables e below (T69.setTop (mkF m 292 (lo0_16 pp xa xb xc xd xe b16 b22 t29 t30) [])) _
      refine XS.iload X69.here hx rfl (hb hby at_292) rfl ?_
      show Steps p.tables e below (T69.setTop (mkF m 294 (lo0_16 pp xa xb xc xd xe b16 b22 t29 t30) [(.int (b2i (v_c0 pp)))])) _
      by_cases hc75 : (v_c0 pp) = true
      · refine XS.ifNo X69.here hx rfl (hb hby at_294) rfl ((if0 _ _).trans (feq (b2i_ne hc75)).1) ?_
        have k : ∀ (v1 : Int64), v1 = ((v_s0 xa).toInt64) → Steps p.tables e below (T69.setTop (mkF m 304 (lo0_16 pp xa xb xc xd xe b16 b22 t29 t30) [(.long v1)])) t := fun v1 hv1 => k v1 (hv1.trans (if_pos hc75).symm)
        show Steps p.tables e below (T69.setTop (mkF m 297 (lo0_16 pp xa xb xc xd xe b16 b22 t29 t30) [])) _
        refine XS.iload X69.here hx rfl (hb hby at_297) rfl ?_
        show Steps p.tables e below (T69.setTop (mkF m 299 (lo0_16 pp xa xb xc xd xe b16 b22 t29 t30) [(.int (v_s0 xa))])) _
        refine XS.i2l X69.here hx rfl (hb hby at_299) rfl ?_
        show Steps p.tables e below (T69.setTop (mkF m 300 (lo0_16 pp xa xb xc xd xe b16 b22 t29 t30) [(.long ((v_s0 xa).toInt64))])) _
        refine XS.goto X69.here hx rfl (pc0 := 300) (pc' := 304) rfl (hb hby at_300) (by decide) (by decide) ?_
        exact k _ rfl
      · refine XS.ifYes X69.here hx rfl (pc0 := 294) (pc' := 303) rfl (hb hby at_294) rfl ((if0 _ _).trans (teq (b2i_eq hc75)).1) (by decide) (by decide) ?_
        have k : ∀ (v1 : Int64), v1 = (0 : Int64) → Steps p.tables e below (T69.setTop (mkF m 304 (lo0_16 pp xa xb xc xd xe b16 b22 t29 t30) [(.long v1)])) t := fun v1 hv1 => k v1 (hv1.trans (if_neg hc75).symm)
        exact nd73 k
    · refine XS.ifYes X69.here hx rfl (pc0 := 289) (pc' := 303) rfl (hb hby at_289) rfl ((if0 _ _).trans (flt hc74).2.2.2) (by decide) (by decide) ?_
      have k : ∀ (v1 : Int64), v1 = (0 : Int64) → Steps p.tables e below (T69.setTop (mkF m 304 (lo0_16 pp xa xb xc xd xe b16 b22 t29 t30) [(.long v1)])) t := fun v1 hv1 => k v1 (hv1.trans (if_neg hc74).symm)
      exact nd73 k
  have pre76 : ∀ t, Steps p.tables e below (T69.setTop (mkF m 309 (lo0_17 pp xa xb xc xd xe b16 b22 t29 t30) [(.int (1 : Int32)), (.int (v_n pp))])) t → Steps p.tables e below (s₁.setTop (entryFrame m #[(.int pp), (.int xa), (.int xb), (.int xc), (.int xd), (.int xe)] maxLocals)) t := by
    intro t k
    refine pre72 t ?_
    show Steps p.tables e below (T69.setTop (mkF m 304 (lo0_16 pp xa xb xc xd xe b16 b22 t29 t30) [(.long (if (0 : Int32) < (v_n pp) then (if (v_c0 pp) = true then ((v_s0 xa).toInt64) else (0 : Int64)) else (0 : Int64)))])) _
    refine XS.lstore X69.here hx rfl (hb hby at_304) rfl (l' := (lo0_17 pp xa xb xc xd xe b16 b22 t29 t30)) rfl ?_
    show Steps p.tables e below (T69.setTop (mkF m 306 (lo0_17 pp xa xb xc xd xe b16 b22 t29 t30) [])) _
    refine XS.iload X69.here hx rfl (hb hby at_306) rfl ?_
    show Steps p.tables e below (T69.setTop (mkF m 308 (lo0_17 pp xa xb xc xd xe b16 b22 t29 t30) [(.int (v_n pp))])) _
    refine XS.iconst X69.here hx rfl (hb hby at_308) ?_
    exact k
  have pre77 : ∀ t, Steps p.tables e below (T69.setTop (mkF m 324 (lo0_17 pp xa xb xc xd xe b16 b22 t29 t30) [(.long (if (1 : Int32) < (v_n pp) then (if (v_c1 pp) = true then ((v_s1 xb).toInt64) else (0 : Int64)) else (0 : Int64)))])) t → Steps p.tables e below (s₁.setTop (entryFrame m #[(.int pp), (.int xa), (.int xb), (.int xc), (.int xd), (.int xe)] maxLocals)) t := by
    intro t k
    refine pre76 t ?_
    have k : ∀ (v1 : Int64), v1 = (if (1 : Int32) < (v_n pp) then (if (v_c1 pp) = true then ((v_s1 xb).toInt64) else (0 : Int64)) else (0 : Int64)) → Steps p.tables e below (T69.setTop (mkF m 324 (lo0_17 pp xa xb xc xd xe b16 b22 t29 t30) [(.long v1)])) t := fun v1 hv1 => by subst hv1; exact k
    have nd78 : (∀ (v1 : Int64), v1 = (0 : Int64) → Steps p.tables e below (T69.setTop (mkF m 324 (lo0_17 pp xa xb xc xd xe b16 b22 t29 t30) [(.long v1)])) t) → Steps p.tables e below (T69.setTop (mkF m 323 (lo0_17 pp xa xb xc xd xe b16 b22 t29 t30) [])) t := by
      intro k
      show Steps p.tables e below (T69.setTop (mkF m 323 (lo0_17 pp xa xb xc xd xe b16 b22 t29 t30) [])) _
      refine XS.lconst X69.here hx rfl (hb hby at_323) ?_
      exact k _ rfl
    show Steps p.tables e below (T69.setTop (mkF m 309 (lo0_17 pp xa xb xc xd xe b16 b22 t29 t30) [(.int (1 : Int32)), (.int (v_n pp))])) _
    by_cases hc79 : (1 : Int32) < (v_n pp)
    · refine XS.icmpNo X69.here hx rfl (hb hby at_309) rfl (tlt hc79).2.2.2 ?_
      have k : ∀ (v1 : Int64), v1 = (if (v_c1 pp) = true then ((v_s1 xb).toInt64) else (0 : Int64)) → Steps p.tables e below (T69.setTop (mkF m 324 (lo0_17 pp xa xb xc xd xe b16 b22 t29 t30) [(.long v1)])) t := fun v1 hv1 => k v1 (hv1.trans (if_pos hc79).symm)
      show Steps p.tables e below (T69.setTop (mkF m 312 (lo0_17 pp xa xb xc xd xe b16 b22 t29 t30) [])) _
      refine XS.iload X69.here hx rfl (hb hby at_312) rfl ?_
      show Steps p.tables e below (T69.setTop (mkF m 314 (lo0_17 pp xa xb xc xd xe b16 b22 t29 t30) [(.int (b2i (v_c1 pp)))])) _
      by_cases hc80 : (v_c1 pp) = true
      · refine XS.ifNo X69.here hx rfl (hb hby at_314) rfl ((if0 _ _).trans (feq (b2i_ne hc80)).1) ?_
        have k : ∀ (v1 : Int64), v1 = ((v_s1 xb).toInt64) → Steps p.tables e below (T69.setTop (mkF m 324 (lo0_17 pp xa xb xc xd xe b16 b22 t29 t30) [(.long v1)])) t := fun v1 hv1 => k v1 (hv1.trans (if_pos hc80).symm)
        show Steps p.tables e below (T69.setTop (mkF m 317 (lo0_17 pp xa xb xc xd xe b16 b22 t29 t30) [])) _
        refine XS.iload X69.here hx rfl (hb hby at_317) rfl ?_
        show Steps p.tables e below (T69.setTop (mkF m 319 (lo0_17 pp xa xb xc xd xe b16 b22 t29 t30) [(.int (v_s1 xb))])) _
        refine XS.i2l X69.here hx rfl (hb hby at_319) rfl ?_
        show Steps p.tables e below (T69.setTop (mkF m 320 (lo0_17 pp xa xb xc xd xe b16 b22 t29 t30) [(.long ((v_s1 xb).toInt64))])) _
        refine XS.goto X69.here hx rfl (pc0 := 320) (pc' := 324) rfl (hb hby at_320) (by decide) (by decide) ?_
        exact k _ rfl
      · refine XS.ifYes X69.here hx rfl (pc0 := 314) (pc' := 323) rfl (hb hby at_314) rfl ((if0 _ _).trans (teq (b2i_eq hc80)).1) (by decide) (by decide) ?_
        have k : ∀ (v1 : Int64), v1 = (0 : Int64) → Steps p.tables e below (T69.setTop (mkF m 324 (lo0_17 pp xa xb xc xd xe b16 b22 t29 t30) [(.long v1)])) t := fun v1 hv1 => k v1 (hv1.trans (if_neg hc80).symm)
        exact nd78 k
    · refine XS.icmpYes X69.here hx rfl (pc0 := 309) (pc' := 323) rfl (hb hby at_309) rfl (flt hc79).2.2.2 (by decide) (by decide) ?_
      have k : ∀ (v1 : Int64), v1 = (0 : Int64) → Steps p.tables e below (T69.setTop (mkF m 324 (lo0_17 pp xa xb xc xd xe b16 b22 t29 t30) [(.long v1)])) t := fun v1 hv1 => k v1 (hv1.trans (if_neg hc79).symm)
      exact nd78 k
  have pre81 : ∀ t, Steps p.tables e below (T69.setTop (mkF m 329 (lo0_18 pp xa xb xc xd xe b16 b22 t29 t30) [(.int (2 : Int32)), (.int (v_n pp))])) t → Steps p.tables e below (s₁.setTop (entryFrame m #[(.int pp), (.int xa), (.int xb), (.int xc), (.int xd), (.int xe)] maxLocals)) t := by
    intro t k
    refine pre77 t ?_
    show Steps p.tables e below (T69.setTop (mkF m 324 (lo0_17 pp xa xb xc xd xe b16 b22 t29 t30) [(.long (if (1 : Int32) < (v_n pp) then (if (v_c1 pp) = true then ((v_s1 xb).toInt64) else (0 : Int64)) else (0 : Int64)))])) _
    refine XS.lstore X69.here hx rfl (hb hby at_324) rfl (l' := (lo0_18 pp xa xb xc xd xe b16 b22 t29 t30)) rfl ?_
    show Steps p.tables e below (T69.setTop (mkF m 326 (lo0_18 pp xa xb xc xd xe b16 b22 t29 t30) [])) _
    refine XS.iload X69.here hx rfl (hb hby at_326) rfl ?_
    show Steps p.tables e below (T69.setTop (mkF m 328 (lo0_18 pp xa xb xc xd xe b16 b22 t29 t30) [(.int (v_n pp))])) _
    refine XS.iconst X69.here hx rfl (hb hby at_328) ?_
    exact k
  have pre82 : ∀ t, Steps p.tables e below (T69.setTop (mkF m 344 (lo0_18 pp xa xb xc xd xe b16 b22 t29 t30) [(.long (if (2 : Int32) < (v_n pp) then (if (v_c2 pp) = true then ((v_s2 xc).toInt64) else (0 : Int64)) else (0 : Int64)))])) t → Steps p.tables e below (s₁.setTop (entryFrame m #[(.int pp), (.int xa), (.int xb), (.int xc), (.int xd), (.int xe)] maxLocals)) t := by
    intro t k
    refine pre81 t ?_
    have k : ∀ (v1 : Int64), v1 = (if (2 : Int32) < (v_n pp) then (if (v_c2 pp) = true then ((v_s2 xc).toInt64) else (0 : Int64)) else (0 : Int64)) → Steps p.tables e below (T69.setTop (mkF m 344 (lo0_18 pp xa xb xc xd xe b16 b22 t29 t30) [(.long v1)])) t := fun v1 hv1 => by subst hv1; exact k
    have nd83 : (∀ (v1 : Int64), v1 = (0 : Int64) → Steps p.tables e below (T69.setTop (mkF m 344 (lo0_18 pp xa xb xc xd xe b16 b22 t29 t30) [(.long v1)])) t) → Steps p.tables e below (T69.setTop (mkF m 343 (lo0_18 pp xa xb xc xd xe b16 b22 t29 t30) [])) t := by
      intro k
      show Steps p.tables e below (T69.setTop (mkF m 343 (lo0_18 pp xa xb xc xd xe b16 b22 t29 t30) [])) _
      refine XS.lconst X69.here hx rfl (hb hby at_343) ?_
      exact k _ rfl
    show Steps p.tables e below (T69.setTop (mkF m 329 (lo0_18 pp xa xb xc xd xe b16 b22 t29 t30) [(.int (2 : Int32)), (.int (v_n pp))])) _
    by_cases hc84 : (2 : Int32) < (v_n pp)
    · refine XS.icmpNo X69.here hx rfl (hb hby at_329) rfl (tlt hc84).2.2.2 ?_
      have k : ∀ (v1 : Int64), v1 = (if (v_c2 pp) = true then ((v_s2 xc).toInt64) else (0 : Int64)) → Steps p.tables e below (T69.setTop (mkF m 344 (lo0_18 pp xa xb xc xd xe b16 b22 t29 t30) [(.long v1)])) t := fun v1 hv1 => k v1 (hv1.trans (if_pos hc84).symm)
      show Steps p.tables e below (T69.setTop (mkF m 332 (lo0_18 pp xa xb xc xd xe b16 b22 t29 t30) [])) _
      refine XS.iload X69.here hx rfl (hb hby at_332) rfl ?_
      show Steps p.tables e below (T69.setTop (mkF m 334 (lo0_18 pp xa xb xc xd xe b16 b22 t29 t30) [(.int (b2i (v_c2 pp)))])) _
      by_cases hc85 : (v_c2 pp) = true
      · refine XS.ifNo X69.here hx rfl (hb hby at_334) rfl ((if0 _ _).trans (feq (b2i_ne hc85)).1) ?_
        have k : ∀ (v1 : Int64), v1 = ((v_s2 xc).toInt64) → Steps p.tables e below (T69.setTop (mkF m 344 (lo0_18 pp xa xb xc xd xe b16 b22 t29 t30) [(.long v1)])) t := fun v1 hv1 => k v1 (hv1.trans (if_pos hc85).symm)
        show Steps p.tables e below (T69.setTop (mkF m 337 (lo0_18 pp xa xb xc xd xe b16 b22 t29 t30) [])) _
        refine XS.iload X69.here hx rfl (hb hby at_337) rfl ?_
        show Steps p.tables e below (T69.setTop (mkF m 339 (lo0_18 pp xa xb xc xd xe b16 b22 t29 t30) [(.int (v_s2 xc))])) _
        refine XS.i2l X69.here hx rfl (hb hby at_339) rfl ?_
        show Steps p.tables e below (T69.setTop (mkF m 340 (lo0_18 pp xa xb xc xd xe b16 b22 t29 t30) [(.long ((v_s2 xc).toInt64))])) _
        refine XS.goto X69.here hx rfl (pc0 := 340) (pc' := 344) rfl (hb hby at_340) (by decide) (by decide) ?_
        exact k _ rfl
      · refine XS.ifYes X69.here hx rfl (pc0 := 334) (pc' := 343) rfl (hb hby at_334) rfl ((if0 _ _).trans (teq (b2i_eq hc85)).1) (by decide) (by decide) ?_
        have k : ∀ (v1 : Int64), v1 = (0 : Int64) → Steps p.tables e below (T69.setTop (mkF m 344 (lo0_18 pp xa xb xc xd xe b16 b22 t29 t30) [(.long v1)])) t := fun v1 hv1 => k v1 (hv1.trans (if_neg hc85).symm)
        exact nd83 k
    · refine XS.icmpYes X69.here hx rfl (pc0 := 329) (pc' := 343) rfl (hb hby at_329) rfl (flt hc84).2.2.2 (by decide) (by decide) ?_
      have k : ∀ (v1 : Int64), v1 = (0 : Int64) → Steps p.tables e below (T69.setTop (mkF m 344 (lo0_18 pp xa xb xc xd xe b16 b22 t29 t30) [(.long v1)])) t := fun v1 hv1 => k v1 (hv1.trans (if_neg hc84).symm)
      exact nd83 k
  have pre86 : ∀ t, Steps p.tables e below (T69.setTop (mkF m 349 (lo0_19 pp xa xb xc xd xe b16 b22 t29 t30) [(.int (3 : Int32)), (.int (v_n pp))])) t → Steps p.tables e below (s₁.setTop (entryFrame m #[(.int pp), (.int xa), (.int xb), (.int xc), (.int xd), (.int xe)] maxLocals)) t := by
    intro t k
    refine pre82 t ?_
    show Steps p.tables e below (T69.setTop (mkF m 344 (lo0_18 pp xa xb xc xd xe b16 b22 t29 t30) [(.long (if (2 : Int32) < (v_n pp) then (if (v_c2 pp) = true then ((v_s2 xc).toInt64) else (0 : Int64)) else (0 : Int64)))])) _
    refine XS.lstore X69.here hx rfl (hb hby at_344) rfl (l' := (lo0_19 pp xa xb xc xd xe b16 b22 t29 t30)) rfl ?_
    show Steps p.tables e below (T69.setTop (mkF m 346 (lo0_19 pp xa xb xc xd xe b16 b22 t29 t30) [])) _
    refine XS.iload X69.here hx rfl (hb hby at_346) rfl ?_
    show Steps p.tables e below (T69.setTop (mkF m 348 (lo0_19 pp xa xb xc xd xe b16 b22 t29 t30) [(.int (v_n pp))])) _
    refine XS.iconst X69.here hx rfl (hb hby at_348) ?_
    exact k
  have pre87 : ∀ t, Steps p.tables e below (T69.setTop (mkF m 364 (lo0_19 pp xa xb xc xd xe b16 b22 t29 t30) [(.long (if (3 : Int32) < (v_n pp) then (if (v_c3 pp) = true then ((v_s3 xd).toInt64) else (0 : Int64)) else (0 : Int64)))])) t → Steps p.tables e below (s₁.setTop (entryFrame m #[(.int pp), (.int xa), (.int xb), (.int xc), (.int xd), (.int xe)] maxLocals)) t := by
    intro t k
    refine pre86 t ?_
    have k : ∀ (v1 : Int64), v1 = (if (3 : Int32) < (v_n pp) then (if (v_c3 pp) = true then ((v_s3 xd).toInt64) else (0 : Int64)) else (0 : Int64)) → Steps p.tables e below (T69.setTop (mkF m 364 (lo0_19 pp xa xb xc xd xe b16 b22 t29 t30) [(.long v1)])) t := fun v1 hv1 => by subst hv1; exact k
    have nd88 : (∀ (v1 : Int64), v1 = (0 : Int64) → Steps p.tables e below (T69.setTop (mkF m 364 (lo0_19 pp xa xb xc xd xe b16 b22 t29 t30) [(.long v1)])) t) → Steps p.tables e below (T69.setTop (mkF m 363 (lo0_19 pp xa xb xc xd xe b16 b22 t29 t30) [])) t := by
      intro k
      show Steps p.tables e below (T69.setTop (mkF m 363 (lo0_19 pp xa xb xc xd xe b16 b22 t29 t30) [])) _
      refine XS.lconst X69.here hx rfl (hb hby at_363) ?_
      exact k _ rfl
    show Steps p.tables e below (T69.setTop (mkF m 349 (lo0_19 pp xa xb xc xd xe b16 b22 t29 t30) [(.int (3 : Int32)), (.int (v_n pp))])) _
    by_cases hc89 : (3 : Int32) < (v_n pp)
    · refine XS.icmpNo X69.here hx rfl (hb hby at_349) rfl (tlt hc89).2.2.2 ?_
      have k : ∀ (v1 : Int64), v1 = (if (v_c3 pp) = true then ((v_s3 xd).toInt64) else (0 : Int64)) → Steps p.tables e below (T69.setTop (mkF m 364 (lo0_19 pp xa xb xc xd xe b16 b22 t29 t30) [(.long v1)])) t := fun v1 hv1 => k v1 (hv1.trans (if_pos hc89).symm)
      show Steps p.tables e below (T69.setTop (mkF m 352 (lo0_19 pp xa xb xc xd xe b16 b22 t29 t30) [])) _
      refine XS.iload X69.here hx rfl (hb hby at_352) rfl ?_
      show Steps p.tables e below (T69.setTop (mkF m 354 (lo0_19 pp xa xb xc xd xe b16 b22 t29 t30) [(.int (b2i (v_c3 pp)))])) _
      by_cases hc90 : (v_c3 pp) = true
      · refine XS.ifNo X69.here hx rfl (hb hby at_354) rfl ((if0 _ _).trans (feq (b2i_ne hc90)).1) ?_
        have k : ∀ (v1 : Int64), v1 = ((v_s3 xd).toInt64) → Steps p.tables e below (T69.setTop (mkF m 364 (lo0_19 pp xa xb xc xd xe b16 b22 t29 t30) [(.long v1)])) t := fun v1 hv1 => k v1 (hv1.trans (if_pos hc90).symm)
        show Steps p.tables e below (T69.setTop (mkF m 357 (lo0_19 pp xa xb xc xd xe b16 b22 t29 t30) [])) _
        refine XS.iload X69.here hx rfl (hb hby at_357) rfl ?_
        show Steps p.tables e below (T69.setTop (mkF m 359 (lo0_19 pp xa xb xc xd xe b16 b22 t29 t30) [(.int (v_s3 xd))])) _
        refine XS.i2l X69.here hx rfl (hb hby at_359) rfl ?_
        show Steps p.tables e below (T69.setTop (mkF m 360 (lo0_19 pp xa xb xc xd xe b16 b22 t29 t30) [(.long ((v_s3 xd).toInt64))])) _
        refine XS.goto X69.here hx rfl (pc0 := 360) (pc' := 364) rfl (hb hby at_360) (by decide) (by decide) ?_
        exact k _ rfl
      · refine XS.ifYes X69.here hx rfl (pc0 := 354) (pc' := 363) rfl (hb hby at_354) rfl ((if0 _ _).trans (teq (b2i_eq hc90)).1) (by decide) (by decide) ?_
        have k : ∀ (v1 : Int64), v1 = (0 : Int64) → Steps p.tables e below (T69.setTop (mkF m 364 (lo0_19 pp xa xb xc xd xe b16 b22 t29 t30) [(.long v1)])) t := fun v1 hv1 => k v1 (hv1.trans (if_neg hc90).symm)
        exact nd88 k
    · refine XS.icmpYes X69.here hx rfl (pc0 := 349) (pc' := 363) rfl (hb hby at_349) rfl (flt hc89).2.2.2 (by decide) (by decide) ?_
      have k : ∀ (v1 : Int64), v1 = (0 : Int64) → Steps p.tables e below (T69.setTop (mkF m 364 (lo0_19 pp xa xb xc xd xe b16 b22 t29 t30) [(.long v1)])) t := fun v1 hv1 => k v1 (hv1.trans (if_neg hc89).symm)
      exact nd88 k
  have pre91 : ∀ t, Steps p.tables e below (T69.setTop (mkF m 369 (lo0_20 pp xa xb xc xd xe b16 b22 t29 t30) [(.int (4 : Int32)), (.int (v_n pp))])) t → Steps p.tables e below (s₁.setTop (entryFrame m #[(.int pp), (.int xa), (.int xb), (.int xc), (.int xd), (.int xe)] maxLocals)) t := by
    intro t k
    refine pre87 t ?_
    show Steps p.tables e below (T69.setTop (mkF m 364 (lo0_19 pp xa xb xc xd xe b16 b22 t29 t30) [(.long (if (3 : Int32) < (v_n pp) then (if (v_c3 pp) = true then ((v_s3 xd).toInt64) else (0 : Int64)) else (0 : Int64)))])) _
    refine XS.lstore X69.here hx rfl (hb hby at_364) rfl (l' := (lo0_20 pp xa xb xc xd xe b16 b22 t29 t30)) rfl ?_
    show Steps p.tables e below (T69.setTop (mkF m 366 (lo0_20 pp xa xb xc xd xe b16 b22 t29 t30) [])) _
    refine XS.iload X69.here hx rfl (hb hby at_366) rfl ?_
    show Steps p.tables e below (T69.setTop (mkF m 368 (lo0_20 pp xa xb xc xd xe b16 b22 t29 t30) [(.int (v_n pp))])) _
    refine XS.iconst X69.here hx rfl (hb hby at_368) ?_
    exact k
  have pre92 : ∀ t, Steps p.tables e below (T69.setTop (mkF m 384 (lo0_20 pp xa xb xc xd xe b16 b22 t29 t30) [(.long (if (4 : Int32) < (v_n pp) then (if (v_c4 pp) = true then ((v_s4 xe).toInt64) else (0 : Int64)) else (0 : Int64)))])) t → Steps p.tables e below (s₁.setTop (entryFrame m #[(.int pp), (.int xa), (.int xb), (.int xc), (.int xd), (.int xe)] maxLocals)) t := by
    intro t k
    refine pre91 t ?_
    have k : ∀ (v1 : Int64), v1 = (if (4 : Int32) < (v_n pp) then (if (v_c4 pp) = true then ((v_s4 xe).toInt64) else (0 : Int64)) else (0 : Int64)) → Steps p.tables e below (T69.setTop (mkF m 384 (lo0_20 pp xa xb xc xd xe b16 b22 t29 t30) [(.long v1)])) t := fun v1 hv1 => by subst hv1; exact k
    have nd93 : (∀ (v1 : Int64), v1 = (0 : Int64) → Steps p.tables e below (T69.setTop (mkF m 384 (lo0_20 pp xa xb xc xd xe b16 b22 t29 t30) [(.long v1)])) t) → Steps p.tables e below (T69.setTop (mkF m 383 (lo0_20 pp xa xb xc xd xe b16 b22 t29 t30) [])) t := by
      intro k
      show Steps p.tables e below (T69.setTop (mkF m 383 (lo0_20 pp xa xb xc xd xe b16 b22 t29 t30) [])) _
      refine XS.lconst X69.here hx rfl (hb hby at_383) ?_
      exact k _ rfl
    show Steps p.tables e below (T69.setTop (mkF m 369 (lo0_20 pp xa xb xc xd xe b16 b22 t29 t30) [(.int (4 : Int32)), (.int (v_n pp))])) _
    by_cases hc94 : (4 : Int32) < (v_n pp)
    · refine XS.icmpNo X69.here hx rfl (hb hby at_369) rfl (tlt hc94).2.2.2 ?_
      have k : ∀ (v1 : Int64), v1 = (if (v_c4 pp) = true then ((v_s4 xe).toInt64) else (0 : Int64)) → Steps p.tables e below (T69.setTop (mkF m 384 (lo0_20 pp xa xb xc xd xe b16 b22 t29 t30) [(.long v1)])) t := fun v1 hv1 => k v1 (hv1.trans (if_pos hc94).symm)
      show Steps p.tables e below (T69.setTop (mkF m 372 (lo0_20 pp xa xb xc xd xe b16 b22 t29 t30) [])) _
      refine XS.iload X69.here hx rfl (hb hby at_372) rfl ?_
      show Steps p.tables e below (T69.setTop (mkF m 374 (lo0_20 pp xa xb xc xd xe b16 b22 t29 t30) [(.int (b2i (v_c4 pp)))])) _
      by_cases hc95 : (v_c4 pp) = true
      · refine XS.ifNo X69.here hx rfl (hb hby at_374) rfl ((if0 _ _).trans (feq (b2i_ne hc95)).1) ?_
        have k : ∀ (v1 : Int64), v1 = ((v_s4 xe).toInt64) → Steps p.tables e below (T69.setTop (mkF m 384 (lo0_20 pp xa xb xc xd xe b16 b22 t29 t30) [(.long v1)])) t := fun v1 hv1 => k v1 (hv1.trans (if_pos hc95).symm)
        show Steps p.tables e below (T69.setTop (mkF m 377 (lo0_20 pp xa xb xc xd xe b16 b22 t29 t30) [])) _
        refine XS.iload X69.here hx rfl (hb hby at_377) rfl ?_
        show Steps p.tables e below (T69.setTop (mkF m 379 (lo0_20 pp xa xb xc xd xe b16 b22 t29 t30) [(.int (v_s4 xe))])) _
        refine XS.i2l X69.here hx rfl (hb hby at_379) rfl ?_
        show Steps p.tables e below (T69.setTop (mkF m 380 (lo0_20 pp xa xb xc xd xe b16 b22 t29 t30) [(.long ((v_s4 xe).toInt64))])) _
        refine XS.goto X69.here hx rfl (pc0 := 380) (pc' := 384) rfl (hb hby at_380) (by decide) (by decide) ?_
        exact k _ rfl
      · refine XS.ifYes X69.here hx rfl (pc0 := 374) (pc' := 383) rfl (hb hby at_374) rfl ((if0 _ _).trans (teq (b2i_eq hc95)).1) (by decide) (by decide) ?_
        have k : ∀ (v1 : Int64), v1 = (0 : Int64) → Steps p.tables e below (T69.setTop (mkF m 384 (lo0_20 pp xa xb xc xd xe b16 b22 t29 t30) [(.long v1)])) t := fun v1 hv1 => k v1 (hv1.trans (if_neg hc95).symm)
        exact nd93 k
    · refine XS.icmpYes X69.here hx rfl (pc0 := 369) (pc' := 383) rfl (hb hby at_369) rfl (flt hc94).2.2.2 (by decide) (by decide) ?_
      have k : ∀ (v1 : Int64), v1 = (0 : Int64) → Steps p.tables e below (T69.setTop (mkF m 384 (lo0_20 pp xa xb xc xd xe b16 b22 t29 t30) [(.long v1)])) t := fun v1 hv1 => k v1 (hv1.trans (if_neg hc94).symm)
      exact nd93 k
  have pre96 : ∀ t, Steps p.tables e below (T69.setTop (mkF m 404 (lo0_22 pp xa xb xc xd xe b16 b22 t29 t30) [(.int (v_j pp))])) t → Steps p.tables e below (s₁.setTop (entryFrame m #[(.int pp), (.int xa), (.int xb), (.int xc), (.int xd), (.int xe)] maxLocals)) t := by
    intro t k
    refine pre92 t ?_
    show Steps p.tables e below (T69.setTop (mkF m 384 (lo0_20 pp xa xb xc xd xe b16 b22 t29 t30) [(.long (if (4 : Int32) < (v_n pp) then (if (v_c4 pp) = true then ((v_s4 xe).toInt64) else (0 : Int64)) else (0 : Int64)))])) _
    refine XS.lstore X69.here hx rfl (hb hby at_384) rfl (l' := (lo0_21 pp xa xb xc xd xe b16 b22 t29 t30)) rfl ?_
    show Steps p.tables e below (T69.setTop (mkF m 386 (lo0_21 pp xa xb xc xd xe b16 b22 t29 t30) [])) _
    refine XS.lload X69.here hx rfl (hb hby at_386) rfl ?_
    show Steps p.tables e below (T69.setTop (mkF m 388 (lo0_21 pp xa xb xc xd xe b16 b22 t29 t30) [(.long (v_e0 pp xa))])) _
    refine XS.lload X69.here hx rfl (hb hby at_388) rfl ?_
    show Steps p.tables e below (T69.setTop (mkF m 390 (lo0_21 pp xa xb xc xd xe b16 b22 t29 t30) [(.long (v_e1 pp xb)), (.long (v_e0 pp xa))])) _
    refine XS.ladd X69.here hx rfl (hb hby at_390) rfl ?_
    show Steps p.tables e below (T69.setTop (mkF m 391 (lo0_21 pp xa xb xc xd xe b16 b22 t29 t30) [(.long ((v_e0 pp xa) + (v_e1 pp xb)))])) _
    refine XS.lload X69.here hx rfl (hb hby at_391) rfl ?_
    show Steps p.tables e below (T69.setTop (mkF m 393 (lo0_21 pp xa xb xc xd xe b16 b22 t29 t30) [(.long (v_e2 pp xc)), (.long ((v_e0 pp xa) + (v_e1 pp xb)))])) _
    refine XS.ladd X69.here hx rfl (hb hby at_393) rfl ?_
    show Steps p.tables e below (T69.setTop (mkF m 394 (lo0_21 pp xa xb xc xd xe b16 b22 t29 t30) [(.long (((v_e0 pp xa) + (v_e1 pp xb)) + (v_e2 pp xc)))])) _
    refine XS.lload X69.here hx rfl (hb hby at_394) rfl ?_
    show Steps p.tables e below (T69.setTop (mkF m 396 (lo0_21 pp xa xb xc xd xe b16 b22 t29 t30) [(.long (v_e3 pp xd)), (.long (((v_e0 pp xa) + (v_e1 pp xb)) + (v_e2 pp xc)))])) _
    refine XS.ladd X69.here hx rfl (hb hby at_396) rfl ?_
    show Steps p.tables e below (T69.setTop (mkF m 397 (lo0_21 pp xa xb xc xd xe b16 b22 t29 t30) [(.long ((((v_e0 pp xa) + (v_e1 pp xb)) + (v_e2 pp xc)) + (v_e3 pp xd)))])) _
    refine XS.lload X69.here hx rfl (hb hby at_397) rfl ?_
    show Steps p.tables e below (T69.setTop (mkF m 399 (lo0_21 pp xa xb xc xd xe b16 b22 t29 t30) [(.long (v_e4 pp xe)), (.long ((((v_e0 pp xa) + (v_e1 pp xb)) + (v_e2 pp xc)) + (v_e3 pp xd)))])) _
    refine XS.ladd X69.here hx rfl (hb hby at_399) rfl ?_
    show Steps p.tables e below (T69.setTop (mkF m 400 (lo0_21 pp xa xb xc xd xe b16 b22 t29 t30) [(.long (((((v_e0 pp xa) + (v_e1 pp xb)) + (v_e2 pp xc)) + (v_e3 pp xd)) + (v_e4 pp xe)))])) _
    refine XS.lstore X69.here hx rfl (hb hby at_400) rfl (l' := (lo0_22 pp xa xb xc xd xe b16 b22 t29 t30)) rfl ?_
    show Steps p.tables e below (T69.setTop (mkF m 402 (lo0_22 pp xa xb xc xd xe b16 b22 t29 t30) [])) _
    refine XS.iload X69.here hx rfl (hb hby at_402) rfl ?_
    exact k
  have pre97 : ∀ t, Steps p.tables e below (T69.setTop (mkF m 413 (lo0_22 pp xa xb xc xd xe b16 b22 t29 t30) [(.long (if (0 : Int32) < (v_j pp) then (v_e0 pp xa) else (0 : Int64)))])) t → Steps p.tables e below (s₁.setTop (entryFrame m #[(.int pp), (.int xa), (.int xb), (.int xc), (.int xd), (.int xe)] maxLocals)) t := by
    intro t k
    refine pre96 t ?_
    have k : ∀ (v1 : Int64), v1 = (if (0 : Int32) < (v_j pp) then (v_e0 pp xa) else (0 : Int64)) → Steps p.tables e below (T69.setTop (mkF m 413 (lo0_22 pp xa xb xc xd xe b16 b22 t29 t30) [(.long v1)])) t := fun v1 hv1 => by subst hv1; exact k
    show Steps p.tables e below (T69.setTop (mkF m 404 (lo0_22 pp xa xb xc xd xe b16 b22 t29 t30) [(.int (v_j pp))])) _
    by_cases hc98 : (0 : Int32) < (v_j pp)
    · refine XS.ifNo X69.here hx rfl (hb hby at_404) rfl ((if0 _ _).trans (tlt hc98).2.2.2) ?_
      have k : ∀ (v1 : Int64), v1 = (v_e0 pp xa) → Steps p.tables e below (T69.setTop (mkF m 413 (lo0_22 pp xa xb xc xd xe b16 b22 t29 t30) [(.long v1)])) t := fun v1 hv1 => k v1 (hv1.trans (if_pos hc98).symm)
      show Steps p.tables e below (T69.setTop (mkF m 407 (lo0_22 pp xa xb xc xd xe b16 b22 t29 t30) [])) _
      refine XS.lload X69.here hx rfl (hb hby at_407) rfl ?_
      show Steps p.tables e below (T69.setTop (mkF m 409 (lo0_22 pp xa xb xc xd xe b16 b22 t29 t30) [(.long (v_e0 pp xa))])) _
      refine XS.goto X69.here hx rfl (pc0 := 409) (pc' := 413) rfl (hb hby at_409) (by decide) (by decide) ?_
      exact k _ rfl
    · refine XS.ifYes X69.here hx rfl (pc0 := 404) (pc' := 412) rfl (hb hby at_404) rfl ((if0 _ _).trans (flt hc98).2.2.2) (by decide) (by decide) ?_
      have k : ∀ (v1 : Int64), v1 = (0 : Int64) → Steps p.tables e below (T69.setTop (mkF m 413 (lo0_22 pp xa xb xc xd xe b16 b22 t29 t30) [(.long v1)])) t := fun v1 hv1 => k v1 (hv1.trans (if_neg hc98).symm)
      show Steps p.tables e below (T69.setTop (mkF m 412 (lo0_22 pp xa xb xc xd xe b16 b22 t29 t30) [])) _
      refine XS.lconst X69.here hx rfl (hb hby at_412) ?_
      exact k _ rfl
  have pre99 : ∀ t, Steps p.tables e below (T69.setTop (mkF m 416 (lo0_22 pp xa xb xc xd xe b16 b22 t29 t30) [(.int (1 : Int32)), (.int (v_j pp)), (.long (if (0 : Int32) < (v_j pp) then (v_e0 pp xa) else (0 : Int64)))])) t → Steps p.tables e below (s₁.setTop (entryFrame m #[(.int pp), (.int xa), (.int xb), (.int xc), (.int xd), (.int xe)] maxLocals)) t := by
    intro t k
    refine pre97 t ?_
    show Steps p.tables e below (T69.setTop (mkF m 413 (lo0_22 pp xa xb xc xd xe b16 b22 t29 t30) [(.long (if (0 : Int32) < (v_j pp) then (v_e0 pp xa) else (0 : Int64)))])) _
    refine XS.iload X69.here hx rfl (hb hby at_413) rfl ?_
    show Steps p.tables e below (T69.setTop (mkF m 415 (lo0_22 pp xa xb xc xd xe b16 b22 t29 t30) [(.int (v_j pp)), (.long (if (0 : Int32) < (v_j pp) then (v_e0 pp xa) else (0 : Int64)))])) _
    refine XS.iconst X69.here hx rfl (hb hby at_415) ?_
    exact k
  have pre100 : ∀ t, Steps p.tables e below (T69.setTop (mkF m 425 (lo0_22 pp xa xb xc xd xe b16 b22 t29 t30) [(.long (if (1 : Int32) < (v_j pp) then (v_e1 pp xb) else (0 : Int64))), (.long (if (0 : Int32) < (v_j pp) then (v_e0 pp xa) else (0 : Int64)))])) t → Steps p.tables e below (s₁.setTop (entryFrame m #[(.int pp), (.int xa), (.int xb), (.int xc), (.int xd), (.int xe)] maxLocals)) t := by
    intro t k
    refine pre99 t ?_
    have k : ∀ (v1 : Int64), v1 = (if (1 : Int32) < (v_j pp) then (v_e1 pp xb) else (0 : Int64)) → Steps p.tables e below (T69.setTop (mkF m 425 (lo0_22 pp xa xb xc xd xe b16 b22 t29 t30) [(.long v1), (.long (if (0 : Int32) < (v_j pp) then (v_e0 pp xa) else (0 : Int64)))])) t := fun v1 hv1 => by subst hv1; exact k
    show Steps p.tables e below (T69.setTop (mkF m 416 (lo0_22 pp xa xb xc xd xe b16 b22 t29 t30) [(.int (1 : Int32)), (.int (v_j pp)), (.long (if (0 : Int32) < (v_j pp) then (v_e0 pp xa) else (0 : Int64)))])) _
    by_cases hc101 : (1 : Int32) < (v_j pp)
    · refine XS.icmpNo X69.here hx rfl (hb hby at_416) rfl (tlt hc101).2.2.2 ?_
      have k : ∀ (v1 : Int64), v1 = (v_e1 pp xb) → Steps p.tables e below (T69.setTop (mkF m 425 (lo0_22 pp xa xb xc xd xe b16 b22 t29 t30) [(.long v1), (.long (if (0 : Int32) < (v_j pp) then (v_e0 pp xa) else (0 : Int64)))])) t := fun v1 hv1 => k v1 (hv1.trans (if_pos hc101).symm)
      show Steps p.tables e below (T69.setTop (mkF m 419 (lo0_22 pp xa xb xc xd xe b16 b22 t29 t30) [(.long (if (0 : Int32) < (v_j pp) then (v_e0 pp xa) else (0 : Int64)))])) _
      refine XS.lload X69.here hx rfl (hb hby at_419) rfl ?_
      show Steps p.tables e below (T69.setTop (mkF m 421 (lo0_22 pp xa xb xc xd xe b16 b22 t29 t30) [(.long (v_e1 pp xb)), (.long (if (0 : Int32) < (v_j pp) then (v_e0 pp xa) else (0 : Int64)))])) _
      refine XS.goto X69.here hx rfl (pc0 := 421) (pc' := 425) rfl (hb hby at_421) (by decide) (by decide) ?_
      exact k _ rfl
    · refine XS.icmpYes X69.here hx rfl (pc0 := 416) (pc' := 424) rfl (hb hby at_416) rfl (flt hc101).2.2.2 (by decide) (by decide) ?_
      have k : ∀ (v1 : Int64), v1 = (0 : Int64) → Steps p.tables e below (T69.setTop (mkF m 425 (lo0_22 pp xa xb xc xd xe b16 b22 t29 t30) [(.long v1), (.long (if (0 : Int32) < (v_j pp) then (v_e0 pp xa) else (0 : Int64)))])) t := fun v1 hv1 => k v1 (hv1.trans (if_neg hc101).symm)
      show Steps p.tables e below (T69.setTop (mkF m 424 (lo0_22 pp xa xb xc xd xe b16 b22 t29 t30) [(.long (if (0 : Int32) < (v_j pp) then (v_e0 pp xa) else (0 : Int64)))])) _
      refine XS.lconst X69.here hx rfl (hb hby at_424) ?_
      exact k _ rfl
  have pre102 : ∀ t, Steps p.tables e below (T69.setTop (mkF m 429 (lo0_22 pp xa xb xc xd xe b16 b22 t29 t30) [(.int (2 : Int32)), (.int (v_j pp)), (.long ((if (0 : Int32) < (v_j pp) then (v_e0 pp xa) else (0 : Int64)) + (if (1 : Int32) < (v_j pp) then (v_e1 pp xb) else (0 : Int64))))])) t → Steps p.tables e below (s₁.setTop (entryFrame m #[(.int pp), (.int xa), (.int xb), (.int xc), (.int xd), (.int xe)] maxLocals)) t := by
    intro t k
    refine pre100 t ?_
    show Steps p.tables e below (T69.setTop (mkF m 425 (lo0_22 pp xa xb xc xd xe b16 b22 t29 t30) [(.long (if (1 : Int32) < (v_j pp) then (v_e1 pp xb) else (0 : Int64))), (.long (if (0 : Int32) < (v_j pp) then (v_e0 pp xa) else (0 : Int64)))])) _
    refine XS.ladd X69.here hx rfl (hb hby at_425) rfl ?_
    show Steps p.tables e below (T69.setTop (mkF m 426 (lo0_22 pp xa xb xc xd xe b16 b22 t29 t30) [(.long ((if (0 : Int32) < (v_j pp) then (v_e0 pp xa) else (0 : Int64)) + (if (1 : Int32) < (v_j pp) then (v_e1 pp xb) else (0 : Int64))))])) _
    refine XS.iload X69.here hx rfl (hb hby at_426) rfl ?_
    show Steps p.tables e below (T69.setTop (mkF m 428 (lo0_22 pp xa xb xc xd xe b16 b22 t29 t30) [(.int (v_j pp)), (.long ((if (0 : Int32) < (v_j pp) then (v_e0 pp xa) else (0 : Int64)) + (if (1 : Int32) < (v_j pp) then (v_e1 pp xb) else (0 : Int64))))])) _
    refine XS.iconst X69.here hx rfl (hb hby at_428) ?_
    exact k
  have pre103 : ∀ t, Steps p.tables e below (T69.setTop (mkF m 438 (lo0_22 pp xa xb xc xd xe b16 b22 t29 t30) [(.long (if (2 : Int32) < (v_j pp) then (v_e2 pp xc) else (0 : Int64))), (.long ((if (0 : Int32) < (v_j pp) then (v_e0 pp xa) else (0 : Int64)) + (if (1 : Int32) < (v_j pp) then (v_e1 pp xb) else (0 : Int64))))])) t → Steps p.tables e below (s₁.setTop (entryFrame m #[(.int pp), (.int xa), (.int xb), (.int xc), (.int xd), (.int xe)] maxLocals)) t := by
    intro t k
    refine pre102 t ?_
    have k : ∀ (v1 : Int64), v1 = (if (2 : Int32) < (v_j pp) then (v_e2 pp xc) else (0 : Int64)) → Steps p.tables e below (T69.setTop (mkF m 438 (lo0_22 pp xa xb xc xd xe b16 b22 t29 t30) [(.long v1), (.long ((if (0 : Int32) < (v_j pp) then (v_e0 pp xa) else (0 : Int64)) + (if (1 : Int32) < (v_j pp) then (v_e1 pp xb) else (0 : Int64))))])) t := fun v1 hv1 => by subst hv1; exact k
    show Steps p.tables e below (T69.setTop (mkF m 429 (lo0_22 pp xa xb xc xd xe b16 b22 t29 t30) [(.int (2 : Int32)), (.int (v_j pp)), (.long ((if (0 : Int32) < (v_j pp) then (v_e0 pp xa) else (0 : Int64)) + (if (1 : Int32) < (v_j pp) then (v_e1 pp xb) else (0 : Int64))))])) _
    by_cases hc104 : (2 : Int32) < (v_j pp)
    · refine XS.icmpNo X69.here hx rfl (hb hby at_429) rfl (tlt hc104).2.2.2 ?_
      have k : ∀ (v1 : Int64), v1 = (v_e2 pp xc) → Steps p.tables e below (T69.setTop (mkF m 438 (lo0_22 pp xa xb xc xd xe b16 b22 t29 t30) [(.long v1), (.long ((if (0 : Int32) < (v_j pp) then (v_e0 pp xa) else (0 : Int64)) + (if (1 : Int32) < (v_j pp) then (v_e1 pp xb) else (0 : Int64))))])) t := fun v1 hv1 => k v1 (hv1.trans (if_pos hc104).symm)
      show Steps p.tables e below (T69.setTop (mkF m 432 (lo0_22 pp xa xb xc xd xe b16 b22 t29 t30) [(.long ((if (0 : Int32) < (v_j pp) then (v_e0 pp xa) else (0 : Int64)) + (if (1 : Int32) < (v_j pp) then (v_e1 pp xb) else (0 : Int64))))])) _
      refine XS.lload X69.here hx rfl (hb hby at_432) rfl ?_
      show Steps p.tables e below (T69.setTop (mkF m 434 (lo0_22 pp xa xb xc xd xe b16 b22 t29 t30) [(.long (v_e2 pp xc)), (.long ((if (0 : Int32) < (v_j pp) then (v_e0 pp xa) else (0 : Int64)) + (if (1 : Int32) < (v_j pp) then (v_e1 pp xb) else (0 : Int64))))])) _
      refine XS.goto X69.here hx rfl (pc0 := 434) (pc' := 438) rfl (hb hby at_434) (by decide) (by decide) ?_
      exact k _ rfl
    · refine XS.icmpYes X69.here hx rfl (pc0 := 429) (pc' := 437) rfl (hb hby at_429) rfl (flt hc104).2.2.2 (by decide) (by decide) ?_
      have k : ∀ (v1 : Int64), v1 = (0 : Int64) → Steps p.tables e below (T69.setTop (mkF m 438 (lo0_22 pp xa xb xc xd xe b16 b22 t29 t30) [(.long v1), (.long ((if (0 : Int32) < (v_j pp) then (v_e0 pp xa) else (0 : Int64)) + (if (1 : Int32) < (v_j pp) then (v_e1 pp xb) else (0 : Int64))))])) t := fun v1 hv1 => k v1 (hv1.trans (if_neg hc104).symm)
      show Steps p.tables e below (T69.setTop (mkF m 437 (lo0_22 pp xa xb xc xd xe b16 b22 t29 t30) [(.long ((if (0 : Int32) < (v_j pp) then (v_e0 pp xa) else (0 : Int64)) + (if (1 : Int32) < (v_j pp) then (v_e1 pp xb) else (0 : Int64))))])) _
      refine XS.lconst X69.here hx rfl (hb hby at_437) ?_
      exact k _ rfl
  have pre105 : ∀ t, Steps p.tables e below (T69.setTop (mkF m 442 (lo0_22 pp xa xb xc xd xe b16 b22 t29 t30) [(.int (3 : Int32)), (.int (v_j pp)), (.long (((if (0 : Int32) < (v_j pp) then (v_e0 pp xa) else (0 : Int64)) + (if (1 : Int32) < (v_j pp) then (v_e1 pp xb) else (0 : Int64))) + (if (2 : Int32) < (v_j pp) then (v_e2 pp xc) else (0 : Int64))))])) t → Steps p.tables e below (s₁.setTop (entryFrame m #[(.int pp), (.int xa), (.int xb), (.int xc), (.int xd), (.int xe)] maxLocals)) t := by
    intro t k
    refine pre103 t ?_
    show Steps p.tables e below (T69.setTop (mkF m 438 (lo0_22 pp xa xb xc xd xe b16 b22 t29 t30) [(.long (if (2 : Int32) < (v_j pp) then (v_e2 pp xc) else (0 : Int64))), (.long ((if (0 : Int32) < (v_j pp) then (v_e0 pp xa) else (0 : Int64)) + (if (1 : Int32) < (v_j pp) then (v_e1 pp xb) else (0 : Int64))))])) _
    refine XS.ladd X69.here hx rfl (hb hby at_438) rfl ?_
    show Steps p.tables e below (T69.setTop (mkF m 439 (lo0_22 pp xa xb xc xd xe b16 b22 t29 t30) [(.long (((if (0 : Int32) < (v_j pp) then (v_e0 pp xa) else (0 : Int64)) + (if (1 : Int32) < (v_j pp) then (v_e1 pp xb) else (0 : Int64))) + (if (2 : Int32) < (v_j pp) then (v_e2 pp xc) else (0 : Int64))))])) _
    refine XS.iload X69.here hx rfl (hb hby at_439) rfl ?_
    show Steps p.tables e below (T69.setTop (mkF m 441 (lo0_22 pp xa xb xc xd xe b16 b22 t29 t30) [(.int (v_j pp)), (.long (((if (0 : Int32) < (v_j pp) then (v_e0 pp xa) else (0 : Int64)) + (if (1 : Int32) < (v_j pp) then (v_e1 pp xb) else (0 : Int64))) + (if (2 : Int32) < (v_j pp) then (v_e2 pp xc) else (0 : Int64))))])) _
    refine XS.iconst X69.here hx rfl (hb hby at_441) ?_
    exact k
  have pre106 : ∀ t, Steps p.tables e below (T69.setTop (mkF m 451 (lo0_22 pp xa xb xc xd xe b16 b22 t29 t30) [(.long (if (3 : Int32) < (v_j pp) then (v_e3 pp xd) else (0 : Int64))), (.long (((if (0 : Int32) < (v_j pp) then (v_e0 pp xa) else (0 : Int64)) + (if (1 : Int32) < (v_j pp) then (v_e1 pp xb) else (0 : Int64))) + (if (2 : Int32) < (v_j pp) then (v_e2 pp xc) else (0 : Int64))))])) t → Steps p.tables e below (s₁.setTop (entryFrame m #[(.int pp), (.int xa), (.int xb), (.int xc), (.int xd), (.int xe)] maxLocals)) t := by
    intro t k
    refine pre105 t ?_
    have k : ∀ (v1 : Int64), v1 = (if (3 : Int32) < (v_j pp) then (v_e3 pp xd) else (0 : Int64)) → Steps p.tables e below (T69.setTop (mkF m 451 (lo0_22 pp xa xb xc xd xe b16 b22 t29 t30) [(.long v1), (.long (((if (0 : Int32) < (v_j pp) then (v_e0 pp xa) else (0 : Int64)) + (if (1 : Int32) < (v_j pp) then (v_e1 pp xb) else (0 : Int64))) + (if (2 : Int32) < (v_j pp) then (v_e2 pp xc) else (0 : Int64))))])) t := fun v1 hv1 => by subst hv1; exact k
    show Steps p.tables e below (T69.setTop (mkF m 442 (lo0_22 pp xa xb xc xd xe b16 b22 t29 t30) [(.int (3 : Int32)), (.int (v_j pp)), (.long (((if (0 : Int32) < (v_j pp) then (v_e0 pp xa) else (0 : Int64)) + (if (1 : Int32) < (v_j pp) then (v_e1 pp xb) else (0 : Int64))) + (if (2 : Int32) < (v_j pp) then (v_e2 pp xc) else (0 : Int64))))])) _
    by_cases hc107 : (3 : Int32) < (v_j pp)
    · refine XS.icmpNo X69.here hx rfl (hb hby at_442) rfl (tlt hc107).2.2.2 ?_
      have k : ∀ (v1 : Int64), v1 = (v_e3 pp xd) → Steps p.tables e below (T69.setTop (mkF m 451 (lo0_22 pp xa xb xc xd xe b16 b22 t29 t30) [(.long v1), (.long (((if (0 : Int32) < (v_j pp) then (v_e0 pp xa) else (0 : Int64)) + (if (1 : Int32) < (v_j pp) then (v_e1 pp xb) else (0 : Int64))) + (if (2 : Int32) < (v_j pp) then (v_e2 pp xc) else (0 : Int64))))])) t := fun v1 hv1 => k v1 (hv1.trans (if_pos hc107).symm)
      show Steps p.tables e below (T69.setTop (mkF m 445 (lo0_22 pp xa xb xc xd xe b16 b22 t29 t30) [(.long (((if (0 : Int32) < (v_j pp) then (v_e0 pp xa) else (0 : Int64)) + (if (1 : Int32) < (v_j pp) then (v_e1 pp xb) else (0 : Int64))) + (if (2 : Int32) < (v_j pp) then (v_e2 pp xc) else (0 : Int64))))])) _
      refine XS.lload X69.here hx rfl (hb hby at_445) rfl ?_
      show Steps p.tables e below (T69.setTop (mkF m 447 (lo0_22 pp xa xb xc xd xe b16 b22 t29 t30) [(.long (v_e3 pp xd)), (.long (((if (0 : Int32) < (v_j pp) then (v_e0 pp xa) else (0 : Int64)) + (if (1 : Int32) < (v_j pp) then (v_e1 pp xb) else (0 : Int64))) + (if (2 : Int32) < (v_j pp) then (v_e2 pp xc) else (0 : Int64))))])) _
      refine XS.goto X69.here hx rfl (pc0 := 447) (pc' := 451) rfl (hb hby at_447) (by decide) (by decide) ?_
      exact k _ rfl
    · refine XS.icmpYes X69.here hx rfl (pc0 := 442) (pc' := 450) rfl (hb hby at_442) rfl (flt hc107).2.2.2 (by decide) (by decide) ?_
      have k : ∀ (v1 : Int64), v1 = (0 : Int64) → Steps p.tables e below (T69.setTop (mkF m 451 (lo0_22 pp xa xb xc xd xe b16 b22 t29 t30) [(.long v1), (.long (((if (0 : Int32) < (v_j pp) then (v_e0 pp xa) else (0 : Int64)) + (if (1 : Int32) < (v_j pp) then (v_e1 pp xb) else (0 : Int64))) + (if (2 : Int32) < (v_j pp) then (v_e2 pp xc) else (0 : Int64))))])) t := fun v1 hv1 => k v1 (hv1.trans (if_neg hc107).symm)
      show Steps p.tables e below (T69.setTop (mkF m 450 (lo0_22 pp xa xb xc xd xe b16 b22 t29 t30) [(.long (((if (0 : Int32) < (v_j pp) then (v_e0 pp xa) else (0 : Int64)) + (if (1 : Int32) < (v_j pp) then (v_e1 pp xb) else (0 : Int64))) + (if (2 : Int32) < (v_j pp) then (v_e2 pp xc) else (0 : Int64))))])) _
      refine XS.lconst X69.here hx rfl (hb hby at_450) ?_
      exact k _ rfl
  have pre108 : ∀ t, Steps p.tables e below (T69.setTop (mkF m 456 (lo0_23 pp xa xb xc xd xe b16 b22 t29 t30) [(.int (v_j pp))])) t → Steps p.tables e below (s₁.setTop (entryFrame m #[(.int pp), (.int xa), (.int xb), (.int xc), (.int xd), (.int xe)] maxLocals)) t := by
    intro t k
    refine pre106 t ?_
    show Steps p.tables e below (T69.setTop (mkF m 451 (lo0_22 pp xa xb xc xd xe b16 b22 t29 t30) [(.long (if (3 : Int32) < (v_j pp) then (v_e3 pp xd) else (0 : Int64))), (.long (((if (0 : Int32) < (v_j pp) then (v_e0 pp xa) else (0 : Int64)) + (if (1 : Int32) < (v_j pp) then (v_e1 pp xb) else (0 : Int64))) + (if (2 : Int32) < (v_j pp) then (v_e2 pp xc) else (0 : Int64))))])) _
    refine XS.ladd X69.here hx rfl (hb hby at_451) rfl ?_
    show Steps p.tables e below (T69.setTop (mkF m 452 (lo0_22 pp xa xb xc xd xe b16 b22 t29 t30) [(.long ((((if (0 : Int32) < (v_j pp) then (v_e0 pp xa) else (0 : Int64)) + (if (1 : Int32) < (v_j pp) then (v_e1 pp xb) else (0 : Int64))) + (if (2 : Int32) < (v_j pp) then (v_e2 pp xc) else (0 : Int64))) + (if (3 : Int32) < (v_j pp) then (v_e3 pp xd) else (0 : Int64))))])) _
    refine XS.lstore X69.here hx rfl (hb hby at_452) rfl (l' := (lo0_23 pp xa xb xc xd xe b16 b22 t29 t30)) rfl ?_
    show Steps p.tables e below (T69.setTop (mkF m 454 (lo0_23 pp xa xb xc xd xe b16 b22 t29 t30) [])) _
    refine XS.iload X69.here hx rfl (hb hby at_454) rfl ?_
    exact k
  have pre109 : ∀ t, Steps p.tables e below (T69.setTop (mkF m 499 (lo0_23 pp xa xb xc xd xe b16 b22 t29 t30) [(.long (if (v_j pp) = (0 : Int32) then (v_e0 pp xa) else (if (v_j pp) = (1 : Int32) then (v_e1 pp xb) else (if (v_j pp) = (2 : Int32) then (v_e2 pp xc) else (if (v_j pp) = (3 : Int32) then (v_e3 pp xd) else (v_e4 pp xe))))))])) t → Steps p.tables e below (s₁.setTop (entryFrame m #[(.int pp), (.int xa), (.int xb), (.int xc), (.int xd), (.int xe)] maxLocals)) t := by
    intro t k
    refine pre108 t ?_
    have k : ∀ (v1 : Int64), v1 = (if (v_j pp) = (0 : Int32) then (v_e0 pp xa) else (if (v_j pp) = (1 : Int32) then (v_e1 pp xb) else (if (v_j pp) = (2 : Int32) then (v_e2 pp xc) else (if (v_j pp) = (3 : Int32) then (v_e3 pp xd) else (v_e4 pp xe))))) → Steps p.tables e below (T69.setTop (mkF m 499 (lo0_23 pp xa xb xc xd xe b16 b22 t29 t30) [(.long v1)])) t := fun v1 hv1 => by subst hv1; exact k
    show Steps p.tables e below (T69.setTop (mkF m 456 (lo0_23 pp xa xb xc xd xe b16 b22 t29 t30) [(.int (v_j pp))])) _
    by_cases hc110 : (v_j pp) = (0 : Int32)
    · refine XS.ifNo X69.here hx rfl (hb hby at_456) rfl ((if0 _ _).trans (teq hc110).2) ?_
      have k : ∀ (v1 : Int64), v1 = (v_e0 pp xa) → Steps p.tables e below (T69.setTop (mkF m 499 (lo0_23 pp xa xb xc xd xe b16 b22 t29 t30) [(.long v1)])) t := fun v1 hv1 => k v1 (hv1.trans (if_pos hc110).symm)
      show Steps p.tables e below (T69.setTop (mkF m 459 (lo0_23 pp xa xb xc xd xe b16 b22 t29 t30) [])) _
      refine XS.lload X69.here hx rfl (hb hby at_459) rfl ?_
      show Steps p.tables e below (T69.setTop (mkF m 461 (lo0_23 pp xa xb xc xd xe b16 b22 t29 t30) [(.long (v_e0 pp xa))])) _
      refine XS.goto X69.here hx rfl (pc0 := 461) (pc' := 499) rfl (hb hby at_461) (by decide) (by decide) ?_
      exact k _ rfl
    · refine XS.ifYes X69.here hx rfl (pc0 := 456) (pc' := 464) rfl (hb hby at_456) rfl ((if0 _ _).trans (feq hc110).2) (by decide) (by decide) ?_
      have k : ∀ (v1 : Int64), v1 = (if (v_j pp) = (1 : Int32) then (v_e1 pp xb) else (if (v_j pp) = (2 : Int32) then (v_e2 pp xc) else (if (v_j pp) = (3 : Int32) then (v_e3 pp xd) else (v_e4 pp xe)))) → Steps p.tables e below (T69.setTop (mkF m 499 (lo0_23 pp xa xb xc xd xe b16 b22 t29 t30) [(.long v1)])) t := fun v1 hv1 => k v1 (hv1.trans (if_neg hc110).symm)
      show Steps p.tables e below (T69.setTop (mkF m 464 (lo0_23 pp xa xb xc xd xe b16 b22 t29 t30) [])) _
      refine XS.iload X69.here hx rfl (hb hby at_464) rfl ?_
      show Steps p.tables e below (T69.setTop (mkF m 466 (lo0_23 pp xa xb xc xd xe b16 b22 t29 t30) [(.int (v_j pp))])) _
      refine XS.iconst X69.here hx rfl (hb hby at_466) ?_
      show Steps p.tables e below (T69.setTop (mkF m 467 (lo0_23 pp xa xb xc xd xe b16 b22 t29 t30) [(.int (1 : Int32)), (.int (v_j pp))])) _
      by_cases hc111 : (v_j pp) = (1 : Int32)
      · refine XS.icmpNo X69.here hx rfl (hb hby at_467) rfl (teq hc111).2 ?_
        have k : ∀ (v1 : Int64), v1 = (v_e1 pp xb) → Steps p.tables e below (T69.setTop (mkF m 499 (lo0_23 pp xa xb xc xd xe b16 b22 t29 t30) [(.long v1)])) t := fun v1 hv1 => k v1 (hv1.trans (if_pos hc111).symm)
        show Steps p.tables e below (T69.setTop (mkF m 470 (lo0_23 pp xa xb xc xd xe b16 b22 t29 t30) [])) _
        refine XS.lload X69.here hx rfl (hb hby at_470) rfl ?_
        show Steps p.tables e below (T69.setTop (mkF m 472 (lo0_23 pp xa xb xc xd xe b16 b22 t29 t30) [(.long (v_e1 pp xb))])) _
        refine XS.goto X69.here hx rfl (pc0 := 472) (pc' := 499) rfl (hb hby at_472) (by decide) (by decide) ?_
        exact k _ rfl
      · refine XS.icmpYes X69.here hx rfl (pc0 := 467) (pc' := 475) rfl (hb hby at_467) rfl (feq hc111).2 (by decide) (by decide) ?_
        have k : ∀ (v1 : Int64), v1 = (if (v_j pp) = (2 : Int32) then (v_e2 pp xc) else (if (v_j pp) = (3 : Int32) then (v_e3 pp xd) else (v_e4 pp xe))) → Steps p.tables e below (T69.setTop (mkF m 499 (lo0_23 pp xa xb xc xd xe b16 b22 t29 t30) [(.long v1)])) t := fun v1 hv1 => k v1 (hv1.trans (if_neg hc111).symm)
        show Steps p.tables e below (T69.setTop (mkF m 475 (lo0_23 pp xa xb xc xd xe b16 b22 t29 t30) [])) _
        refine XS.iload X69.here hx rfl (hb hby at_475) rfl ?_
        show Steps p.tables e below (T69.setTop (mkF m 477 (lo0_23 pp xa xb xc xd xe b16 b22 t29 t30) [(.int (v_j pp))])) _
        refine XS.iconst X69.here hx rfl (hb hby at_477) ?_
        show Steps p.tables e below (T69.setTop (mkF m 478 (lo0_23 pp xa xb xc xd xe b16 b22 t29 t30) [(.int (2 : Int32)), (.int (v_j pp))])) _
        by_cases hc112 : (v_j pp) = (2 : Int32)
        · refine XS.icmpNo X69.here hx rfl (hb hby at_478) rfl (teq hc112).2 ?_
          have k : ∀ (v1 : Int64), v1 = (v_e2 pp xc) → Steps p.tables e below (T69.setTop (mkF m 499 (lo0_23 pp xa xb xc xd xe b16 b22 t29 t30) [(.long v1)])) t := fun v1 hv1 => k v1 (hv1.trans (if_pos hc112).symm)
          show Steps p.tables e below (T69.setTop (mkF m 481 (lo0_23 pp xa xb xc xd xe b16 b22 t29 t30) [])) _
          refine XS.lload X69.here hx rfl (hb hby at_481) rfl ?_
          show Steps p.tables e below (T69.setTop (mkF m 483 (lo0_23 pp xa xb xc xd xe b16 b22 t29 t30) [(.long (v_e2 pp xc))])) _
          refine XS.goto X69.here hx rfl (pc0 := 483) (pc' := 499) rfl (hb hby at_483) (by decide) (by decide) ?_
          exact k _ rfl
        · refine XS.icmpYes X69.here hx rfl (pc0 := 478) (pc' := 486) rfl (hb hby at_478) rfl (feq hc112).2 (by decide) (by decide) ?_
          have k : ∀ (v1 : Int64), v1 = (if (v_j pp) = (3 : Int32) then (v_e3 pp xd) else (v_e4 pp xe)) → Steps p.tables e below (T69.setTop (mkF m 499 (lo0_23 pp xa xb xc xd xe b16 b22 t29 t30) [(.long v1)])) t := fun v1 hv1 => k v1 (hv1.trans (if_neg hc112).symm)
          show Steps p.tables e below (T69.setTop (mkF m 486 (lo0_23 pp xa xb xc xd xe b16 b22 t29 t30) [])) _
          refine XS.iload X69.here hx rfl (hb hby at_486) rfl ?_
          show Steps p.tables e below (T69.setTop (mkF m 488 (lo0_23 pp xa xb xc xd xe b16 b22 t29 t30) [(.int (v_j pp))])) _
          refine XS.iconst X69.here hx rfl (hb hby at_488) ?_
          show Steps p.tables e below (T69.setTop (mkF m 489 (lo0_23 pp xa xb xc xd xe b16 b22 t29 t30) [(.int (3 : Int32)), (.int (v_j pp))])) _
          by_cases hc113 : (v_j pp) = (3 : Int32)
          · refine XS.icmpNo X69.here hx rfl (hb hby at_489) rfl (teq hc113).2 ?_
            have k : ∀ (v1 : Int64), v1 = (v_e3 pp xd) → Steps p.tables e below (T69.setTop (mkF m 499 (lo0_23 pp xa xb xc xd xe b16 b22 t29 t30) [(.long v1)])) t := fun v1 hv1 => k v1 (hv1.trans (if_pos hc113).symm)
            show Steps p.tables e below (T69.setTop (mkF m 492 (lo0_23 pp xa xb xc xd xe b16 b22 t29 t30) [])) _
            refine XS.lload X69.here hx rfl (hb hby at_492) rfl ?_
            show Steps p.tables e below (T69.setTop (mkF m 494 (lo0_23 pp xa xb xc xd xe b16 b22 t29 t30) [(.long (v_e3 pp xd))])) _
            refine XS.goto X69.here hx rfl (pc0 := 494) (pc' := 499) rfl (hb hby at_494) (by decide) (by decide) ?_
            exact k _ rfl
          · refine XS.icmpYes X69.here hx rfl (pc0 := 489) (pc' := 497) rfl (hb hby at_489) rfl (feq hc113).2 (by decide) (by decide) ?_
            have k : ∀ (v1 : Int64), v1 = (v_e4 pp xe) → Steps p.tables e below (T69.setTop (mkF m 499 (lo0_23 pp xa xb xc xd xe b16 b22 t29 t30) [(.long v1)])) t := fun v1 hv1 => k v1 (hv1.trans (if_neg hc113).symm)
            show Steps p.tables e below (T69.setTop (mkF m 497 (lo0_23 pp xa xb xc xd xe b16 b22 t29 t30) [])) _
            refine XS.lload X69.here hx rfl (hb hby at_497) rfl ?_
            exact k _ rfl
  obtain ⟨T114, h114, X114, e114, E114, A114, D114, -, st114⟩ := newO X69 hx hZ hown (hw _ (List.mem_of_getElem? (i := 10) rfl)) (hw _ (List.mem_of_getElem? (i := 11) rfl)) (hw _ (List.mem_of_getElem? (i := 12) rfl)) e69 (g := (mkF m 501 (lo0_24 pp xa xb xc xd xe b16 b22 t29 t30) [])) rfl (hb hby at_501) (by decide) (by decide)
  obtain ⟨b114, g114⟩ : ∃ z, z = hh69.size := ⟨_, rfl⟩
  rw [← g114] at A114 D114 st114
  have ne_b16_b114 : b16 ≠ b114 := Nat.ne_of_lt (Nat.lt_of_lt_of_le k70_0.lt (Nat.le_of_eq g114.symm))
  have ne_b22_b114 : b22 ≠ b114 := Nat.ne_of_lt (Nat.lt_of_lt_of_le k70_1.lt (Nat.le_of_eq g114.symm))
  have ne_t29_b114 : t29 ≠ b114 := Nat.ne_of_lt (Nat.lt_of_lt_of_le k70_2.lt (Nat.le_of_eq g114.symm))
  have ne_t30_b114 : t30 ≠ b114 := Nat.ne_of_lt (Nat.lt_of_lt_of_le k70_3.lt (Nat.le_of_eq g114.symm))
  have ge_b114 : n0 ≤ b114 := Nat.le_trans k70_sz (Nat.le_of_eq g114.symm)
  have Z114 : n0 ≤ h114.size := Nat.le_trans k70_sz E114.1
  have F114_nodes : Fld Z h114 b114 "com/example/dealer/dealer/ChangingShares" "nodes" "[J" .null := D114 (Or.inr (hw _ (List.mem_of_getElem? (i := 21) rfl))) (ty := (.array .long)) (by decide)
  have F114_shares : Fld Z h114 b114 "com/example/dealer/dealer/ChangingShares" "shares" "[I" .null := D114 (Or.inr (hw _ (List.mem_of_getElem? (i := 23) rfl))) (ty := (.array .int)) (by decide)
  have F114_firstStep : Fld Z h114 b114 "com/example/dealer/dealer/ChangingShares" "firstStep" "I" (.int (0 : Int32)) := D114 (Or.inr (hw _ (List.mem_of_getElem? (i := 34) rfl))) (ty := .int) (by decide)
  have F114_total : Fld Z h114 b114 "com/example/dealer/dealer/ChangingShares" "total" "J" (.long (0 : Int64)) := D114 (Or.inl (hw _ (List.mem_of_getElem? (i := 41) rfl))) (ty := .long) (by decide)
  obtain ⟨_, _, ⟨T115, L115, k115, n115⟩, -, X115, ⟨Lc115, hQ115, l115, y115, z115⟩, st115⟩ := X114.specialBack hx (y := (⟨"com/example/dealer/dealer/ChangingShares", "<init>", "(I)V"⟩ : MethodName)) rfl hown (mvT hZ (hw _ (List.mem_of_getElem? (i := 13) rfl))) (mvT hZ (hw _ (List.mem_of_getElem? (i := 14) rfl))) (mvT hZ (hw _ (List.mem_of_getElem? (i := 15) rfl))) (by decide) (backOf (W := 1) (rm3 l Z a0 hw [] b114 (5 : Int32) h114 n0 Z114 ⟨A114, F114_nodes, F114_shares, F114_firstStep, F114_total, ge_b114, Z114⟩ (by decide) (by decide) (by decide)) hZ (hw _ (List.mem_of_getElem? (i := 15) rfl)) (hw _ (List.mem_of_getElem? (i := 12) rfl)) (by decide) (by decide)) (g := (mkF m 506 (lo0_24 pp xa xb xc xd xe b16 b22 t29 t30) [(.int (5 : Int32)), (.ref b114), (.ref b114)])) rfl (by rw [hml]; rfl) (Steps.refl _) (a := b114) (argsL := [(.int (5 : Int32))]) (rest := [(.ref b114)]) (lenOf pd_2 rfl) rfl (by show 2 * 0 + _ ≤ _; exact Nat.le_of_eq rfl) (hb hby at_506) (fun _ _ => ⟨rfl, e114, (by decide : 5 + 2 ≤ _), (by decide : 24 + 17 ≤ _)⟩)
  dsimp only [Pt.U, Pt.locs, Pt.cells, Pt.slots] at X115 l115 y115 z115 st115 hQ115
  subst y115 z115
  obtain ⟨rfl, N115q, an115, as115, I115, Kq115⟩ := hQ115
  have N115 : Fr n0 L115 := by rw [l115]; exact Fr.app N69 N115q
  have Z115 : n0 ≤ T115.heap.size := Nat.le_trans Z114 Kq115.1
  obtain ⟨k116_0, k116_1, k116_2, k116_3, k116_4, k116_5, k116_6, k116_g_ob, k116_g_an, k116_g_as, k116_n_ob_an, k116_n_ob_as, k116_n_an_as, k116_sz⟩ := I115.1
  have nq_b16_an115 : b16 ≠ an115 := I115.2.1 _ (k70_0.ext E114).lt
  have nq_b16_as115 : b16 ≠ as115 := I115.2.2 _ (k70_0.ext E114).lt
  have nq_b22_an115 : b22 ≠ an115 := I115.2.1 _ (k70_1.ext E114).lt
  have nq_b22_as115 : b22 ≠ as115 := I115.2.2 _ (k70_1.ext E114).lt
  have nq_t29_an115 : t29 ≠ an115 := I115.2.1 _ (k70_2.ext E114).lt
  have nq_t29_as115 : t29 ≠ as115 := I115.2.2 _ (k70_2.ext E114).lt
  have nq_t30_an115 : t30 ≠ an115 := I115.2.1 _ (k70_3.ext E114).lt
  have nq_t30_as115 : t30 ≠ as115 := I115.2.2 _ (k70_3.ext E114).lt
  obtain ⟨cq117, kq117, q117a, q117b, q117c⟩ := isOf hZ rfl k116_0
  obtain ⟨_, _, ⟨T117, L117, k117, n117⟩, -, X117, ⟨Lc117, hQ117, l117, y117, z117⟩, st117⟩ := X115.virtualBack hx (y := (⟨"com/example/dealer/dealer/ChangingShares", "fill", "([I[Z)V"⟩ : MethodName)) (z := (⟨"com/example/dealer/dealer/ChangingShares", "fill", "([I[Z)V"⟩ : MethodName)) hown (mvT hZ (hw _ (List.mem_of_getElem? (i := 35) rfl))) (mvT hZ (hw _ (List.mem_of_getElem? (i := 36) rfl))) (notFace_of_selects (args := #[]) (mvT hZ (hw _ (List.mem_of_getElem? (i := 38) rfl)))) (mvT hZ (hw _ (List.mem_of_getElem? (i := 38) rfl))) (mvT hZ (hw _ (List.mem_of_getElem? (i := 37) rfl))) (by decide) (backOf (W := 0) (rm7 l Z a0 hw [] b114 b16 b22 an115 as115 (Fhob (5 : Int32)) (0 : Int64) (fun _ => 0) (fun _ => 0) (5 : Int32) (v_ff xa xb xc xd xe) v_gf T115.heap n0 k116_sz ⟨k116_0, k116_1, k116_2, k116_3, k116_4, k116_5, k116_6, ((k70_0.ext E114).keep Kq115 (ninS ne_b16_b114 nin0)), ((k70_1.ext E114).keep Kq115 (ninS ne_b22_b114 nin0)), k116_g_ob, k116_g_an, k116_g_as, k70_g_fa, k70_g_ga, k116_n_ob_an, k116_n_ob_as, (Ne.symm ne_b16_b114), (Ne.symm ne_b22_b114), k116_n_an_as, (Ne.symm nq_b16_an115), (Ne.symm nq_b22_an115), (Ne.symm nq_b16_as115), (Ne.symm nq_b22_as115), k70_n_fa_ga, k116_sz⟩) hZ (hw _ (List.mem_of_getElem? (i := 39) rfl)) (hw _ (List.mem_of_getElem? (i := 12) rfl)) (by decide) (by decide)) q117a q117c (g := (mkF m 517 (lo0_25 pp xa xb xc xd xe b16 b22 t29 t30 b114) [(.ref b22), (.ref b16), (.ref b114)])) rfl (by rw [hml]; rfl) (Steps.refl _) (argsL := [(.ref b16), (.ref b22)]) (rest := []) (lenOf pd_5 rfl) rfl (by show 2 * 0 + _ ≤ _; exact Nat.le_of_eq rfl) (hb hby at_517) (fun _ _ => ⟨rfl, rfl, (by decide : 7 + 0 ≤ _), (by decide : 41 + 0 ≤ _)⟩)
  dsimp only [Pt.U, Pt.locs, Pt.cells, Pt.slots] at X117 l117 y117 z117 st117 hQ117
  subst y117 z117
  obtain ⟨rfl, N117q, I117, Kq117⟩ := hQ117
  have N117 : Fr n0 L117 := by rw [l117]; exact Fr.app N115 N117q
  have f118 := (((k70_0.ext E114).keep Kq115 (ninS ne_b16_b114 nin0)).keep Kq117 (ninS ne_b16_b114 (ninS nq_b16_an115 (ninS nq_b16_as115 nin0))))
  have f119 := (((k70_1.ext E114).keep Kq115 (ninS ne_b22_b114 nin0)).keep Kq117 (ninS ne_b22_b114 (ninS nq_b22_an115 (ninS nq_b22_as115 nin0))))
  have f120 := (((k70_2.ext E114).keep Kq115 (ninS ne_t29_b114 nin0)).keep Kq117 (ninS ne_t29_b114 (ninS nq_t29_an115 (ninS nq_t29_as115 nin0))))
  have f121 := (((k70_3.ext E114).keep Kq115 (ninS ne_t30_b114 nin0)).keep Kq117 (ninS ne_t30_b114 (ninS nq_t30_an115 (ninS nq_t30_as115 nin0))))
  have Z117 : n0 ≤ T117.heap.size := Nat.le_trans k116_sz Kq117.1
  obtain ⟨k122_0, k122_1, k122_2, k122_3, k122_4, k122_5, k122_6, k122_7, k122_8, k122_g_ob, k122_g_an, k122_g_as, k122_g_sa, k122_g_ca, k122_n_ob_an, k122_n_ob_as, k122_n_ob_sa, k122_n_ob_ca, k122_n_an_as, k122_n_an_sa, k122_n_an_ca, k122_n_as_sa, k122_n_as_ca, k122_n_sa_ca, k122_sz⟩ := I117
  obtain ⟨cq123, kq123, q123a, q123b, q123c⟩ := isOf hZ rfl k122_0
  obtain ⟨_, _, ⟨T123, L123, k123, n123⟩, -, X123, ⟨Lc123, hQ123, l123, y123, z123⟩, st123⟩ := X117.virtualBack hx (y := (⟨"com/example/dealer/dealer/ChangingShares", "fill", "([I[Z)V"⟩ : MethodName)) (z := (⟨"com/example/dealer/dealer/ChangingShares", "fill", "([I[Z)V"⟩ : MethodName)) hown (mvT hZ (hw _ (List.mem_of_getElem? (i := 35) rfl))) (mvT hZ (hw _ (List.mem_of_getElem? (i := 36) rfl))) (notFace_of_selects (args := #[]) (mvT hZ (hw _ (List.mem_of_getElem? (i := 38) rfl)))) (mvT hZ (hw _ (List.mem_of_getElem? (i := 38) rfl))) (mvT hZ (hw _ (List.mem_of_getElem? (i := 37) rfl))) (by decide) (backOf (W := 0) (rm7 l Z a0 hw [] b114 t29 t30 an115 as115 (Fhob (5 : Int32)) (v_t1 xa xb xc xd xe) (v_n1 xa xb xc xd xe) (v_h1 xa xb xc xd xe) (v_n pp) (v_zE pp xa xb xc xd xe) (v_yE pp) T117.heap n0 k122_sz ⟨k122_0, k122_1, k122_2, k122_3, k122_4, k122_5, k122_6, f120, f121, k122_g_ob, k122_g_an, k122_g_as, k70_g_sa, k70_g_ca, k122_n_ob_an, k122_n_ob_as, (Ne.symm ne_t29_b114), (Ne.symm ne_t30_b114), k122_n_an_as, (Ne.symm nq_t29_an115), (Ne.symm nq_t30_an115), (Ne.symm nq_t29_as115), (Ne.symm nq_t30_as115), k70_n_sa_ca, k122_sz⟩) hZ (hw _ (List.mem_of_getElem? (i := 39) rfl)) (hw _ (List.mem_of_getElem? (i := 12) rfl)) (by decide) (by decide)) q123a q123c (g := (mkF m 526 (lo0_25 pp xa xb xc xd xe b16 b22 t29 t30 b114) [(.ref t30), (.ref t29), (.ref b114)])) rfl (by rw [hml]; rfl) (Steps.refl _) (argsL := [(.ref t29), (.ref t30)]) (rest := []) (lenOf pd_5 rfl) rfl (by show 2 * 0 + _ ≤ _; exact Nat.le_of_eq rfl) (hb hby at_526) (fun _ _ => ⟨rfl, rfl, (by decide : 7 + 0 ≤ _), (by decide : 41 + 0 ≤ _)⟩)
  dsimp only [Pt.U, Pt.locs, Pt.cells, Pt.slots] at X123 l123 y123 z123 st123 hQ123
  subst y123 z123
  obtain ⟨rfl, N123q, I123, Kq123⟩ := hQ123
  have N123 : Fr n0 L123 := by rw [l123]; exact Fr.app N117 N123q
  have Z123 : n0 ≤ T123.heap.size := Nat.le_trans k122_sz Kq123.1
  obtain ⟨k124_0, k124_1, k124_2, k124_3, k124_4, k124_5, k124_6, k124_7, k124_8, k124_g_ob, k124_g_an, k124_g_as, k124_g_sa, k124_g_ca, k124_n_ob_an, k124_n_ob_as, k124_n_ob_sa, k124_n_ob_ca, k124_n_an_as, k124_n_an_sa, k124_n_an_ca, k124_n_as_sa, k124_n_as_ca, k124_n_sa_ca, k124_sz⟩ := I123
  obtain ⟨cq125, kq125, q125a, q125b, q125c⟩ := isOf hZ rfl k124_0
  obtain ⟨_, _, ⟨T125, L125, k125, n125⟩, -, X125, ⟨Lc125, hQ125, l125, y125, z125⟩, st125⟩ := X123.virtualBack hx (y := (⟨"com/example/dealer/dealer/ChangingShares", "total", "()J"⟩ : MethodName)) (z := (⟨"com/example/dealer/dealer/ChangingShares", "total", "()J"⟩ : MethodName)) hown (mvT hZ (hw _ (List.mem_of_getElem? (i := 42) rfl))) (mvT hZ (hw _ (List.mem_of_getElem? (i := 43) rfl))) (notFace_of_selects (args := #[]) (mvT hZ (hw _ (List.mem_of_getElem? (i := 45) rfl)))) (mvT hZ (hw _ (List.mem_of_getElem? (i := 45) rfl))) (mvT hZ (hw _ (List.mem_of_getElem? (i := 44) rfl))) (by decide) (backOf (W := 0) (rm8 l Z a0 hw [] b114 an115 as115 (Fhob (5 : Int32)) (v_t2 pp xa xb xc xd xe) (6 : Int32) (v_n2 pp xa xb xc xd xe) (5 : Int32) (v_h2 pp xa xb xc xd xe) T123.heap n0 k124_sz ⟨k124_0, k124_1, k124_2, k124_3, k124_4, k124_5, k124_6, k124_g_ob, k124_g_an, k124_g_as, k124_n_ob_an, k124_n_ob_as, k124_n_an_as, k124_sz⟩) hZ (hw _ (List.mem_of_getElem? (i := 46) rfl)) (hw _ (List.mem_of_getElem? (i := 12) rfl)) (by decide) (by decide)) q125a q125c (g := (mkF m 531 (lo0_25 pp xa xb xc xd xe b16 b22 t29 t30 b114) [(.ref b114)])) rfl (by rw [hml]; rfl) (Steps.refl _) (argsL := []) (rest := []) (lenOf pd_6 rfl) rfl (by show 2 * 0 + _ ≤ _; exact Nat.le_of_eq rfl) (hb hby at_531) (fun _ _ => ⟨rfl, rfl, (by decide : 7 + 0 ≤ _), (by decide : 41 + 0 ≤ _)⟩)
  dsimp only [Pt.U, Pt.locs, Pt.cells, Pt.slots] at X125 l125 y125 z125 st125 hQ125
  subst y125 z125
  obtain ⟨rfl, N125q, e125⟩ := hQ125
  have N125 : Fr n0 L125 := by rw [l125]; exact Fr.app N123 N125q
  have pre126 : ∀ t, Steps p.tables e below (T125.setTop (mkF m 537 (lo0_25 pp xa xb xc xd xe b16 b22 t29 t30 b114) [(.int (lcmpW (Ftot (v_t2 pp xa xb xc xd xe)) (v_tot pp xa xb xc xd xe)))])) t → Steps p.tables e below (s₁.setTop (entryFrame m #[(.int pp), (.int xa), (.int xb), (.int xc), (.int xd), (.int xe)] maxLocals)) t := by
    intro t k
    refine pre109 t ?_
    show Steps p.tables e below (T69.setTop (mkF m 499 (lo0_23 pp xa xb xc xd xe b16 b22 t29 t30) [(.long (if (v_j pp) = (0 : Int32) then (v_e0 pp xa) else (if (v_j pp) = (1 : Int32) then (v_e1 pp xb) else (if (v_j pp) = (2 : Int32) then (v_e2 pp xc) else (if (v_j pp) = (3 : Int32) then (v_e3 pp xd) else (v_e4 pp xe))))))])) _
    refine XS.lstore X69.here hx rfl (hb hby at_499) rfl (l' := (lo0_24 pp xa xb xc xd xe b16 b22 t29 t30)) rfl ?_
    show Steps p.tables e below (T69.setTop (mkF m 501 (lo0_24 pp xa xb xc xd xe b16 b22 t29 t30) [])) _
    refine st114 _ ?_
    show Steps p.tables e below (T114.setTop (mkF m 504 (lo0_24 pp xa xb xc xd xe b16 b22 t29 t30) [(.ref b114)])) _
    refine XS.dup X114.here hx rfl (hb hby at_504) rfl rfl ?_
    show Steps p.tables e below (T114.setTop (mkF m 505 (lo0_24 pp xa xb xc xd xe b16 b22 t29 t30) [(.ref b114), (.ref b114)])) _
    refine XS.iconst X114.here hx rfl (hb hby at_505) ?_
    show Steps p.tables e below (T114.setTop (mkF m 506 (lo0_24 pp xa xb xc xd xe b16 b22 t29 t30) [(.int (5 : Int32)), (.ref b114), (.ref b114)])) _
    refine st115.trans ?_
    show Steps p.tables e below (T115.setTop (mkF m 509 (lo0_24 pp xa xb xc xd xe b16 b22 t29 t30) [(.ref b114)])) _
    refine XS.astore X115.here hx rfl (hb hby at_509) rfl rfl (l' := (lo0_25 pp xa xb xc xd xe b16 b22 t29 t30 b114)) rfl ?_
    show Steps p.tables e below (T115.setTop (mkF m 511 (lo0_25 pp xa xb xc xd xe b16 b22 t29 t30 b114) [])) _
    refine XS.aload X115.here hx rfl (hb hby at_511) rfl rfl ?_
    show Steps p.tables e below (T115.setTop (mkF m 513 (lo0_25 pp xa xb xc xd xe b16 b22 t29 t30 b114) [(.ref b114)])) _
    refine XS.aload X115.here hx rfl (hb hby at_513) rfl rfl ?_
    show Steps p.tables e below (T115.setTop (mkF m 515 (lo0_25 pp xa xb xc xd xe b16 b22 t29 t30 b114) [(.ref b16), (.ref b114)])) _
    refine XS.aload X115.here hx rfl (hb hby at_515) rfl rfl ?_
    show Steps p.tables e below (T115.setTop (mkF m 517 (lo0_25 pp xa xb xc xd xe b16 b22 t29 t30 b114) [(.ref b22), (.ref b16), (.ref b114)])) _
    refine st117.trans ?_
    show Steps p.tables e below (T117.setTop (mkF m 520 (lo0_25 pp xa xb xc xd xe b16 b22 t29 t30 b114) [])) _
    refine XS.aload X117.here hx rfl (hb hby at_520) rfl rfl ?_
    show Steps p.tables e below (T117.setTop (mkF m 522 (lo0_25 pp xa xb xc xd xe b16 b22 t29 t30 b114) [(.ref b114)])) _
    refine XS.aload X117.here hx rfl (hb hby at_522) rfl rfl ?_
    show Steps p.tables e below (T117.setTop (mkF m 524 (lo0_25 pp xa xb xc xd xe b16 b22 t29 t30 b114) [(.ref t29), (.ref b114)])) _
    refine XS.aload X117.here hx rfl (hb hby at_524) rfl rfl ?_
    show Steps p.tables e below (T117.setTop (mkF m 526 (lo0_25 pp xa xb xc xd xe b16 b22 t29 t30 b114) [(.ref t30), (.ref t29), (.ref b114)])) _
    refine st123.trans ?_
    show Steps p.tables e below (T123.setTop (mkF m 529 (lo0_25 pp xa xb xc xd xe b16 b22 t29 t30 b114) [])) _
    refine XS.aload X123.here hx rfl (hb hby at_529) rfl rfl ?_
    show Steps p.tables e below (T123.setTop (mkF m 531 (lo0_25 pp xa xb xc xd xe b16 b22 t29 t30 b114) [(.ref b114)])) _
    refine st125.trans ?_
    show Steps p.tables e below (T125.setTop (mkF m 534 (lo0_25 pp xa xb xc xd xe b16 b22 t29 t30 b114) [(.long (Ftot (v_t2 pp xa xb xc xd xe)))])) _
    refine XS.lload X125.here hx rfl (hb hby at_534) rfl ?_
    show Steps p.tables e below (T125.setTop (mkF m 536 (lo0_25 pp xa xb xc xd xe b16 b22 t29 t30 b114) [(.long (v_tot pp xa xb xc xd xe)), (.long (Ftot (v_t2 pp xa xb xc xd xe)))])) _
    refine XS.lcmp X125.here hx rfl (hb hby at_536) rfl ?_
    exact k
  have pre127 : ∀ t, Steps p.tables e below (T125.setTop (mkF m 545 (lo0_25 pp xa xb xc xd xe b16 b22 t29 t30 b114) [(.int (b2i (if (Ftot (v_t2 pp xa xb xc xd xe)) = (v_tot pp xa xb xc xd xe) then true else false)))])) t → Steps p.tables e below (s₁.setTop (entryFrame m #[(.int pp), (.int xa), (.int xb), (.int xc), (.int xd), (.int xe)] maxLocals)) t := by
    intro t k
    refine pre126 t ?_
    have k : ∀ (v1 : Bool), v1 = (if (Ftot (v_t2 pp xa xb xc xd xe)) = (v_tot pp xa xb xc xd xe) then true else false) → Steps p.tables e below (T125.setTop (mkF m 545 (lo0_25 pp xa xb xc xd xe b16 b22 t29 t30 b114) [(.int (b2i v1))])) t := fun v1 hv1 => by subst hv1; exact k
    show Steps p.tables e below (T125.setTop (mkF m 537 (lo0_25 pp xa xb xc xd xe b16 b22 t29 t30 b114) [(.int (lcmpW (Ftot (v_t2 pp xa xb xc xd xe)) (v_tot pp xa xb xc xd xe)))])) _
    by_cases hc128 : (Ftot (v_t2 pp xa xb xc xd xe)) = (v_tot pp xa xb xc xd xe)
    · refine XS.ifNo X125.here hx rfl (hb hby at_537) rfl ((if0 _ _).trans (teq ((lw_eq _ _).mpr hc128)).2) ?_
      have k : ∀ (v1 : Bool), v1 = true → Steps p.tables e below (T125.setTop (mkF m 545 (lo0_25 pp xa xb xc xd xe b16 b22 t29 t30 b114) [(.int (b2i v1))])) t := fun v1 hv1 => k v1 (hv1.trans (if_pos hc128).symm)
      show Steps p.tables e below (T125.setTop (mkF m 540 (lo0_25 pp xa xb xc xd xe b16 b22 t29 t30 b114) [])) _
      refine XS.iconst X125.here hx rfl (hb hby at_540) ?_
      show Steps p.tables e below (T125.setTop (mkF m 541 (lo0_25 pp xa xb xc xd xe b16 b22 t29 t30 b114) [(.int (1 : Int32))])) _
      refine XS.goto X125.here hx rfl (pc0 := 541) (pc' := 545) rfl (hb hby at_541) (by decide) (by decide) ?_
      exact k true rfl
    · refine XS.ifYes X125.here hx rfl (pc0 := 537) (pc' := 544) rfl (hb hby at_537) rfl ((if0 _ _).trans (feq (fun q => hc128 ((lw_eq _ _).mp q))).2) (by decide) (by decide) ?_
      have k : ∀ (v1 : Bool), v1 = false → Steps p.tables e below (T125.setTop (mkF m 545 (lo0_25 pp xa xb xc xd xe b16 b22 t29 t30 b114) [(.int (b2i v1))])) t := fun v1 hv1 => k v1 (hv1.trans (if_neg hc128).symm)
      show Steps p.tables e below (T125.setTop (mkF m 544 (lo0_25 pp xa xb xc xd xe b16 b22 t29 t30 b114) [])) _
      refine XS.iconst X125.here hx rfl (hb hby at_544) ?_
      exact k false rfl
  have pre129 : ∀ t, Steps p.tables e below (T125.setTop (mkF m 551 (lo0_26 pp xa xb xc xd xe b16 b22 t29 t30 b114) [(.int (lcmpW (v_sh pp xa xb xc xd xe) (0 : Int64)))])) t → Steps p.tables e below (s₁.setTop (entryFrame m #[(.int pp), (.int xa), (.int xb), (.int xc), (.int xd), (.int xe)] maxLocals)) t := by
    intro t k
    refine pre127 t ?_
    show Steps p.tables e below (T125.setTop (mkF m 545 (lo0_25 pp xa xb xc xd xe b16 b22 t29 t30 b114) [(.int (b2i (if (Ftot (v_t2 pp xa xb xc xd xe)) = (v_tot pp xa xb xc xd xe) then true else false)))])) _
    refine XS.istore X125.here hx rfl (hb hby at_545) rfl (l' := (lo0_26 pp xa xb xc xd xe b16 b22 t29 t30 b114)) rfl ?_
    show Steps p.tables e below (T125.setTop (mkF m 547 (lo0_26 pp xa xb xc xd xe b16 b22 t29 t30 b114) [])) _
    refine XS.lload X125.here hx rfl (hb hby at_547) rfl ?_
    show Steps p.tables e below (T125.setTop (mkF m 549 (lo0_26 pp xa xb xc xd xe b16 b22 t29 t30 b114) [(.long (v_sh pp xa xb xc xd xe))])) _
    refine XS.lconst X125.here hx rfl (hb hby at_549) ?_
    show Steps p.tables e below (T125.setTop (mkF m 550 (lo0_26 pp xa xb xc xd xe b16 b22 t29 t30 b114) [(.long (0 : Int64)), (.long (v_sh pp xa xb xc xd xe))])) _
    refine XS.lcmp X125.here hx rfl (hb hby at_550) rfl ?_
    exact k
  obtain ⟨T144, L144, X144, e144, N144, pre144⟩ : ∃ (T : State) (L : List Loc), Stand p l e room_1 s m #[(.int pp), (.int xa), (.int xb), (.int xc), (.int xd), (.int xe)] below meth c T L 7 41 ∧ T.heap = T123.heap ∧ Fr n0 L ∧ ∀ t, Steps p.tables e below (T.setTop (mkF m 595 #[.val (.int pp), .val (.int xa), .val (.int xb), .val (.int xc), .val (.int xd), .val (.int xe), .val (.int (v_n pp)), .val (.int (v_j pp)), .val (.int (v_s0 xa)), .val (.int (v_s1 xb)), .val (.int (v_s2 xc)), .val (.int (v_s3 xd)), .val (.int (v_s4 xe)), .val (.int (b2i (v_c0 pp))), .val (.int (b2i (v_c1 pp))), .val (.int (b2i (v_c2 pp))), .val (.int (b2i (v_c3 pp))), .val (.int (b2i (v_c4 pp))), .val (.ref b16), .val (.ref b22), .val (.ref t29), .val (.ref t30), .val (.long (v_e0 pp xa)), .second, .val (.long (v_e1 pp xb)), .second, .val (.long (v_e2 pp xc)), .second, .val (.long (v_e3 pp xd)), .second, .val (.long (v_e4 pp xe)), .second, .val (.long (v_tot pp xa xb xc xd xe)), .second, .val (.long (v_st pp xa xb xc xd)), .second, .val (.long (v_sh pp xa xb xc xd xe)), .second, .val (.ref b114), .val (.int (b2i (v_ok2 pp xa xb xc xd xe)))] [])) t → Steps p.tables e below (s₁.setTop (entryFrame m #[(.int pp), (.int xa), (.int xb), (.int xc), (.int xd), (.int xe)] maxLocals)) t := by
    by_cases hc130 : (0 : Int64) < (v_sh pp xa xb xc xd xe)
    ·
      have pre131 : ∀ t, Steps p.tables e below (T125.setTop (mkF m 556 (lo0_26 pp xa xb xc xd xe b16 b22 t29 t30 b114) [(.int (b2i (v_ok pp xa xb xc xd xe)))])) t → Steps p.tables e below (s₁.setTop (entryFrame m #[(.int pp), (.int xa), (.int xb), (.int xc), (.int xd), (.int xe)] maxLocals)) t := by
        intro t k
        refine pre129 t ?_
        show Steps p.tables e below (T125.setTop (mkF m 551 (lo0_26 pp xa xb xc xd xe b16 b22 t29 t30 b114) [(.int (lcmpW (v_sh pp xa xb xc xd xe) (0 : Int64)))])) _
        refine XS.ifNo X125.here hx rfl (hb hby at_551) rfl ((if0 _ _).trans (tlt ((lw_gt _ _).mpr hc130)).2.2.2) ?_
        show Steps p.tables e below (T125.setTop (mkF m 554 (lo0_26 pp xa xb xc xd xe b16 b22 t29 t30 b114) [])) _
        refine XS.iload X125.here hx rfl (hb hby at_554) rfl ?_
        exact k
      by_cases hc132 : (v_ok pp xa xb xc xd xe) = true
      ·
        obtain ⟨cq133, kq133, q133a, q133b, q133c⟩ := isOf hZ e125 k124_0
        obtain ⟨_, _, ⟨T133, L133, k133, n133⟩, -, X133, ⟨Lc133, hQ133, l133, y133, z133⟩, st133⟩ := X125.virtualBack hx (y := (⟨"com/example/dealer/dealer/ChangingShares", "indexAt", "(J)I"⟩ : MethodName)) (z := (⟨"com/example/dealer/dealer/ChangingShares", "indexAt", "(J)I"⟩ : MethodName)) hown (mvT hZ (hw _ (List.mem_of_getElem? (i := 52) rfl))) (mvT hZ (hw _ (List.mem_of_getElem? (i := 53) rfl))) (notFace_of_selects (args := #[]) (mvT hZ (hw _ (List.mem_of_getElem? (i := 55) rfl)))) (mvT hZ (hw _ (List.mem_of_getElem? (i := 55) rfl))) (mvT hZ (hw _ (List.mem_of_getElem? (i := 54) rfl))) (by decide) (backOf (W := 0) (rm10 l Z a0 hw [] b114 (v_st pp xa xb xc xd) an115 as115 (Fhob (5 : Int32)) (v_t2 pp xa xb xc xd xe) (6 : Int32) (v_n2 pp xa xb xc xd xe) (5 : Int32) (v_h2 pp xa xb xc xd xe) T123.heap n0 k124_sz ⟨k124_0, k124_1, k124_2, k124_3, k124_4, k124_5, k124_6, k124_g_ob, k124_g_an, k124_g_as, k124_n_ob_an, k124_n_ob_as, k124_n_an_as, k124_sz⟩ (by decide +kernel) (by decide +kernel)) hZ (hw _ (List.mem_of_getElem? (i := 56) rfl)) (hw _ (List.mem_of_getElem? (i := 12) rfl)) (by decide) (by decide)) q133a q133c (g := (mkF m 563 (lo0_26 pp xa xb xc xd xe b16 b22 t29 t30 b114) [(.long (v_st pp xa xb xc xd)), (.ref b114)])) rfl (by rw [hml]; rfl) (Steps.refl _) (argsL := [(.long (v_st pp xa xb xc xd))]) (rest := []) (lenOf pd_8 rfl) rfl (by show 2 * 0 + _ ≤ _; exact Nat.le_of_eq rfl) (hb hby at_563) (fun _ _ => ⟨rfl, e125, (by decide : 7 + 0 ≤ _), (by decide : 41 + 0 ≤ _)⟩)
        dsimp only [Pt.U, Pt.locs, Pt.cells, Pt.slots] at X133 l133 y133 z133 st133 hQ133
        subst y133 z133
        obtain ⟨rfl, N133q, e133⟩ := hQ133
        have N133 : Fr n0 L133 := by rw [l133]; exact Fr.app N125 N133q
        have pre134 : ∀ t, Steps p.tables e below (T133.setTop (mkF m 568 (lo0_26 pp xa xb xc xd xe b16 b22 t29 t30 b114) [(.int (v_j pp)), (.int (Fix (v_st pp xa xb xc xd) (Fhob (5 : Int32)) (6 : Int32) (v_n2 pp xa xb xc xd xe)))])) t → Steps p.tables e below (s₁.setTop (entryFrame m #[(.int pp), (.int xa), (.int xb), (.int xc), (.int xd), (.int xe)] maxLocals)) t := by
          intro t k
          refine pre131 t ?_
          show Steps p.tables e below (T125.setTop (mkF m 556 (lo0_26 pp xa xb xc xd xe b16 b22 t29 t30 b114) [(.int (b2i (v_ok pp xa xb xc xd xe)))])) _
          refine XS.ifNo X125.here hx rfl (hb hby at_556) rfl ((if0 _ _).trans (feq (b2i_ne hc132)).1) ?_
          show Steps p.tables e below (T125.setTop (mkF m 559 (lo0_26 pp xa xb xc xd xe b16 b22 t29 t30 b114) [])) _
          refine XS.aload X125.here hx rfl (hb hby at_559) rfl rfl ?_
          show Steps p.tables e below (T125.setTop (mkF m 561 (lo0_26 pp xa xb xc xd xe b16 b22 t29 t30 b114) [(.ref b114)])) _
          refine XS.lload X125.here hx rfl (hb hby at_561) rfl ?_
          show Steps p.tables e below (T125.setTop (mkF m 563 (lo0_26 pp xa xb xc xd xe b16 b22 t29 t30 b114) [(.long (v_st pp xa xb xc xd)), (.ref b114)])) _
          refine st133.trans ?_
          show Steps p.tables e below (T133.setTop (mkF m 566 (lo0_26 pp xa xb xc xd xe b16 b22 t29 t30 b114) [(.int (Fix (v_st pp xa xb xc xd) (Fhob (5 : Int32)) (6 : Int32) (v_n2 pp xa xb xc xd xe)))])) _
          refine XS.iload X133.here hx rfl (hb hby at_566) rfl ?_
          exact k
        by_cases hc135 : (Fix (v_st pp xa xb xc xd) (Fhob (5 : Int32)) (6 : Int32) (v_n2 pp xa xb xc xd xe)) = (v_j pp)
        ·
          obtain ⟨cq136, kq136, q136a, q136b, q136c⟩ := isOf hZ e133 k124_0
          obtain ⟨_, _, ⟨T136, L136, k136, n136⟩, -, X136, ⟨Lc136, hQ136, l136, y136, z136⟩, st136⟩ := X133.virtualBack hx (y := (⟨"com/example/dealer/dealer/ChangingShares", "indexAt", "(J)I"⟩ : MethodName)) (z := (⟨"com/example/dealer/dealer/ChangingShares", "indexAt", "(J)I"⟩ : MethodName)) hown (mvT hZ (hw _ (List.mem_of_getElem? (i := 52) rfl))) (mvT hZ (hw _ (List.mem_of_getElem? (i := 53) rfl))) (notFace_of_selects (args := #[]) (mvT hZ (hw _ (List.mem_of_getElem? (i := 55) rfl)))) (mvT hZ (hw _ (List.mem_of_getElem? (i := 55) rfl))) (mvT hZ (hw _ (List.mem_of_getElem? (i := 54) rfl))) (by decide) (backOf (W := 0) (rm10 l Z a0 hw [] b114 (((v_st pp xa xb xc xd) + (v_sh pp xa xb xc xd xe)) - (1 : Int64)) an115 as115 (Fhob (5 : Int32)) (v_t2 pp xa xb xc xd xe) (6 : Int32) (v_n2 pp xa xb xc xd xe) (5 : Int32) (v_h2 pp xa xb xc xd xe) T123.heap n0 k124_sz ⟨k124_0, k124_1, k124_2, k124_3, k124_4, k124_5, k124_6, k124_g_ob, k124_g_an, k124_g_as, k124_n_ob_an, k124_n_ob_as, k124_n_an_as, k124_sz⟩ (by decide +kernel) (by decide +kernel)) hZ (hw _ (List.mem_of_getElem? (i := 56) rfl)) (hw _ (List.mem_of_getElem? (i := 12) rfl)) (by decide) (by decide)) q136a q136c (g := (mkF m 580 (lo0_26 pp xa xb xc xd xe b16 b22 t29 t30 b114) [(.long (((v_st pp xa xb xc xd) + (v_sh pp xa xb xc xd xe)) - (1 : Int64))), (.ref b114)])) rfl (by rw [hml]; rfl) (Steps.refl _) (argsL := [(.long (((v_st pp xa xb xc xd) + (v_sh pp xa xb xc xd xe)) - (1 : Int64)))]) (rest := []) (lenOf pd_8 rfl) rfl (by show 2 * 0 + _ ≤ _; exact Nat.le_of_eq rfl) (hb hby at_580) (fun _ _ => ⟨rfl, e133, (by decide : 7 + 0 ≤ _), (by decide : 41 + 0 ≤ _)⟩)
          dsimp only [Pt.U, Pt.locs, Pt.cells, Pt.slots] at X136 l136 y136 z136 st136 hQ136
          subst y136 z136
          obtain ⟨rfl, N136q, e136⟩ := hQ136
          have N136 : Fr n0 L136 := by rw [l136]; exact Fr.app N133 N136q
          have pre137 : ∀ t, Steps p.tables e below (T136.setTop (mkF m 585 (lo0_26 pp xa xb xc xd xe b16 b22 t29 t30 b114) [(.int (v_j pp)), (.int (Fix (((v_st pp xa xb xc xd) + (v_sh pp xa xb xc xd xe)) - (1 : Int64)) (Fhob (5 : Int32)) (6 : Int32) (v_n2 pp xa xb xc xd xe)))])) t → Steps p.tables e below (s₁.setTop (entryFrame m #[(.int pp), (.int xa), (.int xb), (.int xc), (.int xd), (.int xe)] maxLocals)) t := by
            intro t k
            refine pre134 t ?_
            show Steps p.tables e below (T133.setTop (mkF m 568 (lo0_26 pp xa xb xc xd xe b16 b22 t29 t30 b114) [(.int (v_j pp)), (.int (Fix (v_st pp xa xb xc xd) (Fhob (5 : Int32)) (6 : Int32) (v_n2 pp xa xb xc xd xe)))])) _
            refine XS.icmpNo X133.here hx rfl (hb hby at_568) rfl (teq hc135).2 ?_
            show Steps p.tables e below (T133.setTop (mkF m 571 (lo0_26 pp xa xb xc xd xe b16 b22 t29 t30 b114) [])) _
            refine XS.aload X133.here hx rfl (hb hby at_571) rfl rfl ?_
            show Steps p.tables e below (T133.setTop (mkF m 573 (lo0_26 pp xa xb xc xd xe b16 b22 t29 t30 b114) [(.ref b114)])) _
            refine XS.lload X133.here hx rfl (hb hby at_573) rfl ?_
            show Steps p.tables e below (T133.setTop (mkF m 575 (lo0_26 pp xa xb xc xd xe b16 b22 t29 t30 b114) [(.long (v_st pp xa xb xc xd)), (.ref b114)])) _
            refine XS.lload X133.here hx rfl (hb hby at_575) rfl ?_
            show Steps p.tables e below (T133.setTop (mkF m 577 (lo0_26 pp xa xb xc xd xe b16 b22 t29 t30 b114) [(.long (v_sh pp xa xb xc xd xe)), (.long (v_st pp xa xb xc xd)), (.ref b114)])) _
            refine XS.ladd X133.here hx rfl (hb hby at_577) rfl ?_
            show Steps p.tables e below (T133.setTop (mkF m 578 (lo0_26 pp xa xb xc xd xe b16 b22 t29 t30 b114) [(.long ((v_st pp xa xb xc xd) + (v_sh pp xa xb xc xd xe))), (.ref b114)])) _
            refine XS.lconst X133.here hx rfl (hb hby at_578) ?_
            show Steps p.tables e below (T133.setTop (mkF m 579 (lo0_26 pp xa xb xc xd xe b16 b22 t29 t30 b114) [(.long (1 : Int64)), (.long ((v_st pp xa xb xc xd) + (v_sh pp xa xb xc xd xe))), (.ref b114)])) _
            refine XS.lsub X133.here hx rfl (hb hby at_579) rfl ?_
            show Steps p.tables e below (T133.setTop (mkF m 580 (lo0_26 pp xa xb xc xd xe b16 b22 t29 t30 b114) [(.long (((v_st pp xa xb xc xd) + (v_sh pp xa xb xc xd xe)) - (1 : Int64))), (.ref b114)])) _
            refine st136.trans ?_
            show Steps p.tables e below (T136.setTop (mkF m 583 (lo0_26 pp xa xb xc xd xe b16 b22 t29 t30 b114) [(.int (Fix (((v_st pp xa xb xc xd) + (v_sh pp xa xb xc xd xe)) - (1 : Int64)) (Fhob (5 : Int32)) (6 : Int32) (v_n2 pp xa xb xc xd xe)))])) _
            refine XS.iload X136.here hx rfl (hb hby at_583) rfl ?_
            exact k
          have pre138 : ∀ t, Steps p.tables e below (T136.setTop (mkF m 593 (lo0_26 pp xa xb xc xd xe b16 b22 t29 t30 b114) [(.int (b2i (if (Fix (((v_st pp xa xb xc xd) + (v_sh pp xa xb xc xd xe)) - (1 : Int64)) (Fhob (5 : Int32)) (6 : Int32) (v_n2 pp xa xb xc xd xe)) = (v_j pp) then true else false)))])) t → Steps p.tables e below (s₁.setTop (entryFrame m #[(.int pp), (.int xa), (.int xb), (.int xc), (.int xd), (.int xe)] maxLocals)) t := by
            intro t k
            refine pre137 t ?_
            have k : ∀ (v1 : Bool), v1 = (if (Fix (((v_st pp xa xb xc xd) + (v_sh pp xa xb xc xd xe)) - (1 : Int64)) (Fhob (5 : Int32)) (6 : Int32) (v_n2 pp xa xb xc xd xe)) = (v_j pp) then true else false) → Steps p.tables e below (T136.setTop (mkF m 593 (lo0_26 pp xa xb xc xd xe b16 b22 t29 t30 b114) [(.int (b2i v1))])) t := fun v1 hv1 => by subst hv1; exact k
            show Steps p.tables e below (T136.setTop (mkF m 585 (lo0_26 pp xa xb xc xd xe b16 b22 t29 t30 b114) [(.int (v_j pp)), (.int (Fix (((v_st pp xa xb xc xd) + (v_sh pp xa xb xc xd xe)) - (1 : Int64)) (Fhob (5 : Int32)) (6 : Int32) (v_n2 pp xa xb xc xd xe)))])) _
            by_cases hc139 : (Fix (((v_st pp xa xb xc xd) + (v_sh pp xa xb xc xd xe)) - (1 : Int64)) (Fhob (5 : Int32)) (6 : Int32) (v_n2 pp xa xb xc xd xe)) = (v_j pp)
            · refine XS.icmpNo X136.here hx rfl (hb hby at_585) rfl (teq hc139).2 ?_
              have k : ∀ (v1 : Bool), v1 = true → Steps p.tables e below (T136.setTop (mkF m 593 (lo0_26 pp xa xb xc xd xe b16 b22 t29 t30 b114) [(.int (b2i v1))])) t := fun v1 hv1 => k v1 (hv1.trans (if_pos hc139).symm)
              show Steps p.tables e below (T136.setTop (mkF m 588 (lo0_26 pp xa xb xc xd xe b16 b22 t29 t30 b114) [])) _
              refine XS.iconst X136.here hx rfl (hb hby at_588) ?_
              show Steps p.tables e below (T136.setTop (mkF m 589 (lo0_26 pp xa xb xc xd xe b16 b22 t29 t30 b114) [(.int (1 : Int32))])) _
              refine XS.goto X136.here hx rfl (pc0 := 589) (pc' := 593) rfl (hb hby at_589) (by decide) (by decide) ?_
              exact k true rfl
            · refine XS.icmpYes X136.here hx rfl (pc0 := 585) (pc' := 592) rfl (hb hby at_585) rfl (feq hc139).2 (by decide) (by decide) ?_
              have k : ∀ (v1 : Bool), v1 = false → Steps p.tables e below (T136.setTop (mkF m 593 (lo0_26 pp xa xb xc xd xe b16 b22 t29 t30 b114) [(.int (b2i v1))])) t := fun v1 hv1 => k v1 (hv1.trans (if_neg hc139).symm)
              show Steps p.tables e below (T136.setTop (mkF m 592 (lo0_26 pp xa xb xc xd xe b16 b22 t29 t30 b114) [])) _
              refine XS.iconst X136.here hx rfl (hb hby at_592) ?_
              exact k false rfl
          have pre140 : ∀ t, Steps p.tables e below (T136.setTop (mkF m 595 (lo0_27 pp xa xb xc xd xe b16 b22 t29 t30 b114) [])) t → Steps p.tables e below (s₁.setTop (entryFrame m #[(.int pp), (.int xa), (.int xb), (.int xc), (.int xd), (.int xe)] maxLocals)) t := by
            intro t k
            refine pre138 t ?_
            show Steps p.tables e below (T136.setTop (mkF m 593 (lo0_26 pp xa xb xc xd xe b16 b22 t29 t30 b114) [(.int (b2i (if (Fix (((v_st pp xa xb xc xd) + (v_sh pp xa xb xc xd xe)) - (1 : Int64)) (Fhob (5 : Int32)) (6 : Int32) (v_n2 pp xa xb xc xd xe)) = (v_j pp) then true else false)))])) _
            refine XS.istore X136.here hx rfl (hb hby at_593) rfl (l' := (lo0_27 pp xa xb xc xd xe b16 b22 t29 t30 b114)) rfl ?_
            exact k
          refine ⟨T136, _, X136, e136, N136, fun t k => ?_⟩
          rw [(show (v_ok2 pp xa xb xc xd xe) = (if (Fix (((v_st pp xa xb xc xd) + (v_sh pp xa xb xc xd xe)) - (1 : Int64)) (Fhob (5 : Int32)) (6 : Int32) (v_n2 pp xa xb xc xd xe)) = (v_j pp) then true else false) from ((if_pos hc130).trans ((if_pos hc132).trans ((if_pos hc135).trans rfl))))] at k
          exact pre140 t k
        ·
          have pre141 : ∀ t, Steps p.tables e below (T133.setTop (mkF m 595 (lo0_28 pp xa xb xc xd xe b16 b22 t29 t30 b114) [])) t → Steps p.tables e below (s₁.setTop (entryFrame m #[(.int pp), (.int xa), (.int xb), (.int xc), (.int xd), (.int xe)] maxLocals)) t := by
            intro t k
            refine pre134 t ?_
            show Steps p.tables e below (T133.setTop (mkF m 568 (lo0_26 pp xa xb xc xd xe b16 b22 t29 t30 b114) [(.int (v_j pp)), (.int (Fix (v_st pp xa xb xc xd) (Fhob (5 : Int32)) (6 : Int32) (v_n2 pp xa xb xc xd xe)))])) _
            refine XS.icmpYes X133.here hx rfl (pc0 := 568) (pc' := 592) rfl (hb hby at_568) rfl (feq hc135).2 (by decide) (by decide) ?_
            show Steps p.tables e below (T133.setTop (mkF m 592 (lo0_26 pp xa xb xc xd xe b16 b22 t29 t30 b114) [])) _
            refine XS.iconst X133.here hx rfl (hb hby at_592) ?_
            show Steps p.tables e below (T133.setTop (mkF m 593 (lo0_26 pp xa xb xc xd xe b16 b22 t29 t30 b114) [(.int (0 : Int32))])) _
            refine XS.istore X133.here hx rfl (hb hby at_593) rfl (l' := (lo0_28 pp xa xb xc xd xe b16 b22 t29 t30 b114)) rfl ?_
            exact k
          refine ⟨T133, _, X133, e133, N133, fun t k => ?_⟩
          rw [(show (v_ok2 pp xa xb xc xd xe) = false from ((if_pos hc130).trans ((if_pos hc132).trans ((if_neg hc135).trans rfl))))] at k
          exact pre141 t k
      ·
        have pre142 : ∀ t, Steps p.tables e below (T125.setTop (mkF m 595 (lo0_28 pp xa xb xc xd xe b16 b22 t29 t30 b114) [])) t → Steps p.tables e below (s₁.setTop (entryFrame m #[(.int pp), (.int xa), (.int xb), (.int xc), (.int xd), (.int xe)] maxLocals)) t := by
          intro t k
          refine pre131 t ?_
          show Steps p.tables e below (T125.setTop (mkF m 556 (lo0_26 pp xa xb xc xd xe b16 b22 t29 t30 b114) [(.int (b2i (v_ok pp xa xb xc xd xe)))])) _
          refine XS.ifYes X125.here hx rfl (pc0 := 556) (pc' := 592) rfl (hb hby at_556) rfl ((if0 _ _).trans (teq (b2i_eq hc132)).1) (by decide) (by decide) ?_
          show Steps p.tables e below (T125.setTop (mkF m 592 (lo0_26 pp xa xb xc xd xe b16 b22 t29 t30 b114) [])) _
          refine XS.iconst X125.here hx rfl (hb hby at_592) ?_
          show Steps p.tables e below (T125.setTop (mkF m 593 (lo0_26 pp xa xb xc xd xe b16 b22 t29 t30 b114) [(.int (0 : Int32))])) _
          refine XS.istore X125.here hx rfl (hb hby at_593) rfl (l' := (lo0_28 pp xa xb xc xd xe b16 b22 t29 t30 b114)) rfl ?_
          exact k
        refine ⟨T125, _, X125, e125, N125, fun t k => ?_⟩
        rw [(show (v_ok2 pp xa xb xc xd xe) = false from ((if_pos hc130).trans ((if_neg hc132).trans rfl)))] at k
        exact pre142 t k
    ·
      have pre143 : ∀ t, Steps p.tables e below (T125.setTop (mkF m 595 (lo0_26 pp xa xb xc xd xe b16 b22 t29 t30 b114) [])) t → Steps p.tables e below (s₁.setTop (entryFrame m #[(.int pp), (.int xa), (.int xb), (.int xc), (.int xd), (.int xe)] maxLocals)) t := by
        intro t k
        refine pre129 t ?_
        show Steps p.tables e below (T125.setTop (mkF m 551 (lo0_26 pp xa xb xc xd xe b16 b22 t29 t30 b114) [(.int (lcmpW (v_sh pp xa xb xc xd xe) (0 : Int64)))])) _
        refine XS.ifYes X125.here hx rfl (pc0 := 551) (pc' := 595) rfl (hb hby at_551) rfl ((if0 _ _).trans (flt (fun q => hc130 ((lw_gt _ _).mp q))).2.2.2) (by decide) (by decide) ?_
        exact k
      refine ⟨T125, _, X125, e125, N125, fun t k => ?_⟩
      rw [(show (v_ok2 pp xa xb xc xd xe) = (v_ok pp xa xb xc xd xe) from ((if_neg hc130).trans rfl))] at k
      exact pre143 t k
  obtain ⟨cq145, kq145, q145a, q145b, q145c⟩ := isOf hZ e144 k124_0
  obtain ⟨_, _, ⟨T145, L145, k145, n145⟩, -, X145, ⟨Lc145, hQ145, l145, y145, z145⟩, st145⟩ := X144.virtualBack hx (y := (⟨"com/example/dealer/dealer/ChangingShares", "set", "(II)V"⟩ : MethodName)) (z := (⟨"com/example/dealer/dealer/ChangingShares", "set", "(II)V"⟩ : MethodName)) hown (mvT hZ (hw _ (List.mem_of_getElem? (i := 47) rfl))) (mvT hZ (hw _ (List.mem_of_getElem? (i := 48) rfl))) (notFace_of_selects (args := #[]) (mvT hZ (hw _ (List.mem_of_getElem? (i := 50) rfl)))) (mvT hZ (hw _ (List.mem_of_getElem? (i := 50) rfl))) (mvT hZ (hw _ (List.mem_of_getElem? (i := 49) rfl))) (by decide) (backOf (W := 0) (rm9 l Z a0 hw [] b114 (v_j pp) (0 : Int32) an115 as115 (Fhob (5 : Int32)) (v_t2 pp xa xb xc xd xe) (6 : Int32) (v_n2 pp xa xb xc xd xe) (5 : Int32) (v_h2 pp xa xb xc xd xe) T123.heap n0 k124_sz ⟨k124_0, k124_1, k124_2, k124_3, k124_4, k124_5, k124_6, k124_g_ob, k124_g_an, k124_g_as, k124_n_ob_an, k124_n_ob_as, k124_n_an_as, k124_sz⟩ (own_sj pp).1 (own_sj pp).2.1 (own_sj pp).2.2) hZ (hw _ (List.mem_of_getElem? (i := 51) rfl)) (hw _ (List.mem_of_getElem? (i := 12) rfl)) (by decide) (by decide)) q145a q145c (g := (mkF m 600 (lo0_29 pp xa xb xc xd xe b16 b22 t29 t30 b114) [(.int (0 : Int32)), (.int (v_j pp)), (.ref b114)])) rfl (by rw [hml]; rfl) (Steps.refl _) (argsL := [(.int (v_j pp)), (.int (0 : Int32))]) (rest := []) (lenOf pd_7 rfl) rfl (by show 2 * 0 + _ ≤ _; exact Nat.le_of_eq rfl) (hb hby at_600) (fun _ _ => ⟨rfl, e144, (by decide : 7 + 0 ≤ _), (by decide : 41 + 0 ≤ _)⟩)
  dsimp only [Pt.U, Pt.locs, Pt.cells, Pt.slots] at X145 l145 y145 z145 st145 hQ145
  subst y145 z145
  obtain ⟨rfl, N145q, I145⟩ := hQ145
  obtain ⟨k146_0, k146_1, k146_2, k146_3, k146_4, k146_5, k146_6, k146_g_ob, k146_g_an, k146_g_as, k146_n_ob_an, k146_n_ob_as, k146_n_an_as, k146_sz⟩ := I145
  have N145 : Fr n0 L145 := by rw [l145]; exact Fr.app N144 N145q
  obtain ⟨cq147, kq147, q147a, q147b, q147c⟩ := isOf hZ rfl k146_0
  obtain ⟨_, _, ⟨T147, L147, k147, n147⟩, -, X147, ⟨Lc147, hQ147, l147, y147, z147⟩, st147⟩ := X145.virtualBack hx (y := (⟨"com/example/dealer/dealer/ChangingShares", "total", "()J"⟩ : MethodName)) (z := (⟨"com/example/dealer/dealer/ChangingShares", "total", "()J"⟩ : MethodName)) hown (mvT hZ (hw _ (List.mem_of_getElem? (i := 42) rfl))) (mvT hZ (hw _ (List.mem_of_getElem? (i := 43) rfl))) (notFace_of_selects (args := #[]) (mvT hZ (hw _ (List.mem_of_getElem? (i := 45) rfl)))) (mvT hZ (hw _ (List.mem_of_getElem? (i := 45) rfl))) (mvT hZ (hw _ (List.mem_of_getElem? (i := 44) rfl))) (by decide) (backOf (W := 0) (rm8 l Z a0 hw [] b114 an115 as115 (Fhob (5 : Int32)) (v_t3 pp xa xb xc xd xe) (6 : Int32) (v_n3 pp xa xb xc xd xe) (5 : Int32) (v_h3 pp xa xb xc xd xe) T145.heap n0 k146_sz ⟨k146_0, k146_1, k146_2, k146_3, k146_4, k146_5, k146_6, k146_g_ob, k146_g_an, k146_g_as, k146_n_ob_an, k146_n_ob_as, k146_n_an_as, k146_sz⟩) hZ (hw _ (List.mem_of_getElem? (i := 46) rfl)) (hw _ (List.mem_of_getElem? (i := 12) rfl)) (by decide) (by decide)) q147a q147c (g := (mkF m 610 (lo0_29 pp xa xb xc xd xe b16 b22 t29 t30 b114) [(.ref b114)])) rfl (by rw [hml]; rfl) (Steps.refl _) (argsL := []) (rest := []) (lenOf pd_6 rfl) rfl (by show 2 * 0 + _ ≤ _; exact Nat.le_of_eq rfl) (hb hby at_610) (fun _ _ => ⟨rfl, rfl, (by decide : 7 + 0 ≤ _), (by decide : 41 + 0 ≤ _)⟩)
  dsimp only [Pt.U, Pt.locs, Pt.cells, Pt.slots] at X147 l147 y147 z147 st147 hQ147
  subst y147 z147
  obtain ⟨rfl, N147q, e147⟩ := hQ147
  have N147 : Fr n0 L147 := by rw [l147]; exact Fr.app N145 N147q
  have pre148 : ∀ t, Steps p.tables e below (T147.setTop (mkF m 619 (lo0_29 pp xa xb xc xd xe b16 b22 t29 t30 b114) [(.int (lcmpW (Ftot (v_t3 pp xa xb xc xd xe)) ((v_tot pp xa xb xc xd xe) - (v_sh pp xa xb xc xd xe))))])) t → Steps p.tables e below (s₁.setTop (entryFrame m #[(.int pp), (.int xa), (.int xb), (.int xc), (.int xd), (.int xe)] maxLocals)) t := by
    intro t k
    refine pre144 t ?_
    show Steps p.tables e below (T144.setTop (mkF m 595 (lo0_29 pp xa xb xc xd xe b16 b22 t29 t30 b114) [])) _
    refine XS.aload X144.here hx rfl (hb hby at_595) rfl rfl ?_
    show Steps p.tables e below (T144.setTop (mkF m 597 (lo0_29 pp xa xb xc xd xe b16 b22 t29 t30 b114) [(.ref b114)])) _
    refine XS.iload X144.here hx rfl (hb hby at_597) rfl ?_
    show Steps p.tables e below (T144.setTop (mkF m 599 (lo0_29 pp xa xb xc xd xe b16 b22 t29 t30 b114) [(.int (v_j pp)), (.ref b114)])) _
    refine XS.iconst X144.here hx rfl (hb hby at_599) ?_
    show Steps p.tables e below (T144.setTop (mkF m 600 (lo0_29 pp xa xb xc xd xe b16 b22 t29 t30 b114) [(.int (0 : Int32)), (.int (v_j pp)), (.ref b114)])) _
    refine st145.trans ?_
    show Steps p.tables e below (T145.setTop (mkF m 603 (lo0_29 pp xa xb xc xd xe b16 b22 t29 t30 b114) [])) _
    refine XS.iload X145.here hx rfl (hb hby at_603) rfl ?_
    show Steps p.tables e below (T145.setTop (mkF m 605 (lo0_29 pp xa xb xc xd xe b16 b22 t29 t30 b114) [(.int (b2i (v_ok2 pp xa xb xc xd xe)))])) _
    refine XS.ifNo X145.here hx rfl (hb hby at_605) rfl ((if0 _ _).trans (feq (b2i_ne (own_ok2 pp xa xb xc xd xe))).1) ?_
    show Steps p.tables e below (T145.setTop (mkF m 608 (lo0_29 pp xa xb xc xd xe b16 b22 t29 t30 b114) [])) _
    refine XS.aload X145.here hx rfl (hb hby at_608) rfl rfl ?_
    show Steps p.tables e below (T145.setTop (mkF m 610 (lo0_29 pp xa xb xc xd xe b16 b22 t29 t30 b114) [(.ref b114)])) _
    refine st147.trans ?_
    show Steps p.tables e below (T147.setTop (mkF m 613 (lo0_29 pp xa xb xc xd xe b16 b22 t29 t30 b114) [(.long (Ftot (v_t3 pp xa xb xc xd xe)))])) _
    refine XS.lload X147.here hx rfl (hb hby at_613) rfl ?_
    show Steps p.tables e below (T147.setTop (mkF m 615 (lo0_29 pp xa xb xc xd xe b16 b22 t29 t30 b114) [(.long (v_tot pp xa xb xc xd xe)), (.long (Ftot (v_t3 pp xa xb xc xd xe)))])) _
    refine XS.lload X147.here hx rfl (hb hby at_615) rfl ?_
    show Steps p.tables e below (T147.setTop (mkF m 617 (lo0_29 pp xa xb xc xd xe b16 b22 t29 t30 b114) [(.long (v_sh pp xa xb xc xd xe)), (.long (v_tot pp xa xb xc xd xe)), (.long (Ftot (v_t3 pp xa xb xc xd xe)))])) _
    refine XS.lsub X147.here hx rfl (hb hby at_617) rfl ?_
    show Steps p.tables e below (T147.setTop (mkF m 618 (lo0_29 pp xa xb xc xd xe b16 b22 t29 t30 b114) [(.long ((v_tot pp xa xb xc xd xe) - (v_sh pp xa xb xc xd xe))), (.long (Ftot (v_t3 pp xa xb xc xd xe)))])) _
    refine XS.lcmp X147.here hx rfl (hb hby at_618) rfl ?_
    exact k
  have pre149 : ∀ t, Steps p.tables e below (T147.setTop (mkF m 627 (lo0_29 pp xa xb xc xd xe b16 b22 t29 t30 b114) [(.int (b2i (if (Ftot (v_t3 pp xa xb xc xd xe)) = ((v_tot pp xa xb xc xd xe) - (v_sh pp xa xb xc xd xe)) then true else false)))])) t → Steps p.tables e below (s₁.setTop (entryFrame m #[(.int pp), (.int xa), (.int xb), (.int xc), (.int xd), (.int xe)] maxLocals)) t := by
    intro t k
    refine pre148 t ?_
    have k : ∀ (v1 : Bool), v1 = (if (Ftot (v_t3 pp xa xb xc xd xe)) = ((v_tot pp xa xb xc xd xe) - (v_sh pp xa xb xc xd xe)) then true else false) → Steps p.tables e below (T147.setTop (mkF m 627 (lo0_29 pp xa xb xc xd xe b16 b22 t29 t30 b114) [(.int (b2i v1))])) t := fun v1 hv1 => by subst hv1; exact k
    show Steps p.tables e below (T147.setTop (mkF m 619 (lo0_29 pp xa xb xc xd xe b16 b22 t29 t30 b114) [(.int (lcmpW (Ftot (v_t3 pp xa xb xc xd xe)) ((v_tot pp xa xb xc xd xe) - (v_sh pp xa xb xc xd xe))))])) _
    by_cases hc150 : (Ftot (v_t3 pp xa xb xc xd xe)) = ((v_tot pp xa xb xc xd xe) - (v_sh pp xa xb xc xd xe))
    · refine XS.ifNo X147.here hx rfl (hb hby at_619) rfl ((if0 _ _).trans (teq ((lw_eq _ _).mpr hc150)).2) ?_
      have k : ∀ (v1 : Bool), v1 = true → Steps p.tables e below (T147.setTop (mkF m 627 (lo0_29 pp xa xb xc xd xe b16 b22 t29 t30 b114) [(.int (b2i v1))])) t := fun v1 hv1 => k v1 (hv1.trans (if_pos hc150).symm)
      show Steps p.tables e below (T147.setTop (mkF m 622 (lo0_29 pp xa xb xc xd xe b16 b22 t29 t30 b114) [])) _
      refine XS.iconst X147.here hx rfl (hb hby at_622) ?_
      show Steps p.tables e below (T147.setTop (mkF m 623 (lo0_29 pp xa xb xc xd xe b16 b22 t29 t30 b114) [(.int (1 : Int32))])) _
      refine XS.goto X147.here hx rfl (pc0 := 623) (pc' := 627) rfl (hb hby at_623) (by decide) (by decide) ?_
      exact k true rfl
    · refine XS.ifYes X147.here hx rfl (pc0 := 619) (pc' := 626) rfl (hb hby at_619) rfl ((if0 _ _).trans (feq (fun q => hc150 ((lw_eq _ _).mp q))).2) (by decide) (by decide) ?_
      have k : ∀ (v1 : Bool), v1 = false → Steps p.tables e below (T147.setTop (mkF m 627 (lo0_29 pp xa xb xc xd xe b16 b22 t29 t30 b114) [(.int (b2i v1))])) t := fun v1 hv1 => k v1 (hv1.trans (if_neg hc150).symm)
      show Steps p.tables e below (T147.setTop (mkF m 626 (lo0_29 pp xa xb xc xd xe b16 b22 t29 t30 b114) [])) _
      refine XS.iconst X147.here hx rfl (hb hby at_626) ?_
      exact k false rfl
  have hlaw : (if (Ftot (v_t3 pp xa xb xc xd xe)) = ((v_tot pp xa xb xc xd xe) - (v_sh pp xa xb xc xd xe)) then true else false) = true := own_law1 pp xa xb xc xd xe
  obtain ⟨fs, hr, hrun, hended, hW, hsame⟩ := X147.leave (v := some (.int (1 : Int32))) (fun h => by rw [Bd.returns] at h; cases h) (BodyLoose.notSynchronized Bd)
  refine ⟨_, _, pre149 _ ?_, hrun, hended, _, _, rfl, ?_, ⟨_, rfl⟩, hW, hsame.mono (by decide) (by decide)⟩
  · show Steps p.tables e below (T147.setTop (mkF m 627 (lo0_29 pp xa xb xc xd xe b16 b22 t29 t30 b114) [(.int (b2i (if (Ftot (v_t3 pp xa xb xc xd xe)) = ((v_tot pp xa xb xc xd xe) - (v_sh pp xa xb xc xd xe)) then true else false)))])) _
    exact retN X147 hx (t := .boolean) Bd.returns (by simp) (hb hby at_627) (by rw [b2i_one hlaw]; exact hr)
  · show Q0 Z pp xa xb xc xd xe h0 n0 _ T147.heap _
    rw [e147]
    exact ⟨rfl, N147⟩
set_option maxRecDepth 65536 in
set_option maxHeartbeats 40000000 in
theorem comes_1 {Post : Tables → Env → Array Value → State → Outcome → State → Prop} (hpost : ∀ tb e args s v u, (limb_1_1.after args s (.returned v) u = true ∧ limb_1_2.after args s (.returned v) u = true ∧ True) → FrameEnd s (.returned v) u (Jvm.fieldLocs frame_1_writes args s ++ Jvm.arrayLocs frame_1_arrays args s ++ Jvm.staticLocs frame_1_statics s) 24 192 → Post tb e args s (.returned v) u) :
    ArmFor flags0 classFile x code maxLocals ret World_1 tables_1 room_1 Calls_1 rest_1 Pre_1 Post := by
  intro l hfl _ _ p e ha hc hk s m args below hf hA hF happ hP
  obtain ⟨hcalls, hrest, hpre⟩ := hP
  obtain ⟨-, -, -, hnamed, -, -, -, hat⟩ := (Spec.applies_iff hf).mp happ
  obtain ⟨hg, hn⟩ := and_e (Cond.before_iff.mp (show (Jvm.Cond.and given_1 narrow_1).before args s = true from hpre))
  obtain ⟨g1, g2⟩ := and_e hg
  obtain ⟨g3, g4⟩ := and_e g2
  obtain ⟨g5, g6⟩ := and_e g4
  obtain ⟨g7, g8⟩ := and_e g6
  obtain ⟨g9, g10⟩ := and_e g8
  obtain ⟨g11, g12⟩ := and_e g10
  obtain ⟨w0, w1, w2, w3, w4, w5, rfl⟩ : ∃ w0 w1 w2 w3 w4 w5 : Value, args = #[w0, w1, w2, w3, w4, w5] := by
    have hs : args.size = 6 := by simpa [Cond.value, given_1] using g1
    obtain ⟨L⟩ := args
    match L, hs with
    | [w0, w1, w2, w3, w4, w5], _ => exact ⟨w0, w1, w2, w3, w4, w5, rfl⟩
  have hw := fun d (hd : d ∈ tables_1) => atoms_spec (ws := Jvm.Cond.code x code maxLocals ret :: tables_1) hat d (List.mem_cons_of_mem _ hd)
  obtain ⟨i0, ei0⟩ := is_v g3
  obtain rfl : w0 = (.int i0) := Option.some.inj ei0
  obtain ⟨i1, ei1⟩ := is_v g5
  obtain rfl : w1 = (.int i1) := Option.some.inj ei1
  obtain ⟨i2, ei2⟩ := is_v g7
  obtain rfl : w2 = (.int i2) := Option.some.inj ei2
  obtain ⟨i3, ei3⟩ := is_v g9
  obtain rfl : w3 = (.int i3) := Option.some.inj ei3
  obtain ⟨i4, ei4⟩ := is_v g11
  obtain rfl : w4 = (.int i4) := Option.some.inj ei4
  obtain ⟨i5, ei5⟩ := is_v g12
  obtain rfl : w5 = (.int i5) := Option.some.inj ei5
  obtain ⟨n, o, h1, h2, h3, _, L, rfl, ⟨rfl, N⟩, hq⟩ := rm0 l s _ hw tables_1 i0 i1 i2 i3 i4 i5 s.heap s.heap.size (Nat.le_refl _) p e ha hc hk s m _ below hf ((Spec.applies_iff_loose hf).mp happ).1 ⟨rfl, State.Warmed39.refl s, rfl⟩ trivial
  refine ⟨n, _, h1, h2, h3, hpost _ _ _ _ _ _ ⟨Cond.after_iff.mpr rfl, Cond.after_iff.mpr (eq_i res_at (Term.int_eval (1)) rfl), trivial⟩ ⟨hq.1, hq.2.1, (hq.2.2.sift fun y hy => Or.inr (N y hy)).mono (by decide) (by decide)⟩⟩
theorem main_1_1 : Claimed_1_1 := comes_1 fun _ _ _ _ _ _ h hF => ⟨h.1, hF⟩
theorem main_1_2 : Claimed_1_2 := comes_1 fun _ _ _ _ _ _ h hF => ⟨h.2.1, hF⟩
end Jvm.Pilot.@@N@@
namespace Jvm.Pilot.@@N@@
open Jvm Jvm.ClassFile Sem Op Lib Jvm.Free Jvm.Stand Jvm.Pilot.@@N@@.Jvm.D
/-! MADE BY PROGRAM (witnessworld.py) out of the Statement's table words and the real class files: 18 classes; the members and pool entries that the words name. The judged class is class 1, her method 3. -/
namespace start1
open Jvm.ClassFile
def u (s : String) : CpInfo := .utf8 (stringToUtf16 s)
/-- a pool by its gaps: so many unusable entries, then the entry; so many at the end -/
def gap : Nat → List CpInfo → List CpInfo
  | 0, r => r
  | n + 1, r => .unusable :: gap n r
def poolList (es : List (Nat × CpInfo)) (last : Nat) : List CpInfo := es.foldr (fun e r => gap e.1 (e.2 :: r)) (gap last [])
def pool (es : List (Nat × CpInfo)) (last : Nat) : Array CpInfo := ⟨poolList es last⟩
def fileOf (pool : Array CpInfo) (this : Nat) (attrs : Array Attribute := #[]) (ms : Array MethodInfo := #[]) (fl : Nat := 33) (sup : Nat := 0) (ifs : Array Nat := #[]) (fds : Array FieldInfo := #[]) : ClassFile where
  minorVersion := 0
  majorVersion := 65
  constantPool := pool
  accessFlags := fl
  thisClass := this
  superClass := sup
  interfaces := ifs
  fields := fds
  methods := ms
  attributes := attrs
def plain (name : String) (sup : Option ClassId) : Class where
  name := name
  kind := .ordinary
  loader := none
  accessFlags := 33
  super := sup
  interfaces := #[]
  cf := none
  fields := #[]
  methods := #[]
  instanceTypes := #[]
  staticTypes := #[]
  resolved := #[]
  callSites := []
  init := .initialized
  statics := none
  mirror := none

def pool0 : Array CpInfo := pool [(5, u "<init>"), (0, u "()V"), (1, .class_ 10), (1, u "java/lang/Object")] 113

def k0c0 : Code := { maxStack := 0, maxLocals := 1, code := object_method_1_code, exceptionTable := #[], attributes := #[] }
def k0m0 : Method := { name := "<init>", desc := "()V", sig := { parameters := [], returnType := none }, accessFlags := 1, code := some k0c0 }
/-- java/lang/Object -/
def k0 : Class := { plain "java/lang/Object" none with
  accessFlags := 33
  interfaces := #[]
  cf := some (fileOf pool0 8 #[] #[{ accessFlags := 1, nameIndex := 5, descriptorIndex := 6, attributes := #[] }] 33 0 #[] #[])
  fields := #[]
  methods := #[k0m0]
  instanceTypes := #[]
  staticTypes := #[]
  resolved := Array.replicate 124 none
  statics := none }

def pool1 : Array CpInfo := pool [(2, .class_ 4), (1, u "java/lang/Object"), (0, u "<init>"), (0, u "()V"), (0, .integer 2147483647), (0, .methodref 9 10), (0, .class_ 11), (0, .nameAndType 12 13), (0, u "com/example/dealer/dealer/ChangingSharesFillPinLaw"), (0, u "intsOf"), (0, u "(I)[I"), (0, .methodref 9 15), (0, .nameAndType 16 17), (0, u "flagsOf"), (0, u "(I)[Z"), (0, .class_ 19), (0, u "com/example/dealer/dealer/ChangingShares"), (0, .methodref 18 21), (0, .nameAndType 5 22), (0, u "(I)V"), (0, .methodref 18 24), (0, .nameAndType 25 26), (0, u "fill"), (0, u "([I[Z)V"), (0, .methodref 18 28), (0, .nameAndType 29 30), (0, u "total"), (0, u "()J"), (0, .methodref 18 32), (0, .nameAndType 33 34), (0, u "indexAt"), (0, u "(J)I"), (0, .methodref 18 36), (0, .nameAndType 37 38), (0, u "set"), (0, u "(II)V"), (7, u "law"), (0, u "(IIIIII)Z")] 2

def k1m0 : Method := { name := "<init>", desc := "()V", sig := { parameters := [], returnType := none }, accessFlags := 1, code := none }
def k1c1 : Code := { maxStack := 2, maxLocals := 1, code := method_2_code, exceptionTable := #[], attributes := #[] }
def k1m1 : Method := { name := "intsOf", desc := "(I)[I", sig := { parameters := [.int], returnType := some (.array .int) }, accessFlags := 10, code := some k1c1 }
def k1c2 : Code := { maxStack := 2, maxLocals := 1, code := method_3_code, exceptionTable := #[], attributes := #[] }
def k1m2 : Method := { name := "flagsOf", desc := "(I)[Z", sig := { parameters := [.int], returnType := some (.array .boolean) }, accessFlags := 10, code := some k1c2 }
def k1c3 : Code := { maxStack := 6, maxLocals := 40, code := code, exceptionTable := #[], attributes := #[] }
def k1m3 : Method := { name := "law", desc := "(IIIIII)Z", sig := { parameters := [.int, .int, .int, .int, .int, .int], returnType := some .boolean }, accessFlags := 9, code := some k1c3 }
/-- com/example/dealer/dealer/ChangingSharesFillPinLaw -/
def k1 : Class := { plain "com/example/dealer/dealer/ChangingSharesFillPinLaw" (some 0) with
  accessFlags := 49
  interfaces := #[]
  cf := some (fileOf pool1 9 #[] #[{ accessFlags := 1, nameIndex := 5, descriptorIndex := 6, attributes := #[] }, { accessFlags := 10, nameIndex := 12, descriptorIndex := 13, attributes := #[] }, { accessFlags := 10, nameIndex := 16, descriptorIndex := 17, attributes := #[] }, { accessFlags := 9, nameIndex := 46, descriptorIndex := 47, attributes := #[] }] 49 2 #[] #[])
  fields := #[]
  methods := #[k1m0, k1m1, k1m2, k1m3]
  instanceTypes := #[]
  staticTypes := #[]
  resolved := Array.replicate 50 none
  statics := none }

def pool2 : Array CpInfo := pool [(1, .methodref 2 3), (0, .class_ 4), (0, .nameAndType 5 6), (0, u "java/lang/Object"), (0, u "<init>"), (0, u "()V"), (0, .fieldref 8 9), (0, .class_ 10), (0, .nameAndType 11 12), (0, u "com/example/dealer/dealer/ChangingShares"), (0, u "nodes"), (0, u "[J"), (0, .fieldref 8 14), (0, .nameAndType 15 16), (0, u "shares"), (0, u "[I"), (0, .methodref 18 19), (0, .class_ 20), (0, .nameAndType 21 22), (0, u "java/lang/Integer"), (0, u "highestOneBit"), (0, u "(I)I"), (0, .fieldref 8 24), (0, .nameAndType 25 26), (0, u "firstStep"), (0, u "I"), (0, .fieldref 8 28), (0, .nameAndType 29 30), (0, u "total"), (0, u "J"), (6, u "(I)V"), (3, u "fill"), (0, u "([I[Z)V"), (0, u "set"), (0, u "(II)V"), (1, u "()J"), (0, u "indexAt"), (0, u "(J)I")] 2

def k2c0 : Code := { maxStack := 3, maxLocals := 2, code := prog_6_method_1_code, exceptionTable := #[], attributes := #[] }
def k2m0 : Method := { name := "<init>", desc := "(I)V", sig := { parameters := [.int], returnType := none }, accessFlags := 0, code := some k2c0 }
def k2c1 : Code := { maxStack := 6, maxLocals := 5, code := prog_6_method_2_code, exceptionTable := #[], attributes := #[] }
def k2m1 : Method := { name := "fill", desc := "([I[Z)V", sig := { parameters := [(.array .int), (.array .boolean)], returnType := none }, accessFlags := 0, code := some k2c1 }
def k2c2 : Code := { maxStack := 6, maxLocals := 6, code := prog_6_method_3_code, exceptionTable := #[], attributes := #[] }
def k2m2 : Method := { name := "set", desc := "(II)V", sig := { parameters := [.int, .int], returnType := none }, accessFlags := 0, code := some k2c2 }
def k2c3 : Code := { maxStack := 2, maxLocals := 1, code := prog_6_method_5_code, exceptionTable := #[], attributes := #[] }
def k2m3 : Method := { name := "total", desc := "()J", sig := { parameters := [], returnType := some .long }, accessFlags := 0, code := some k2c3 }
def k2c4 : Code := { maxStack := 6, maxLocals := 12, code := prog_6_method_6_code, exceptionTable := #[], attributes := #[] }
def k2m4 : Method := { name := "indexAt", desc := "(J)I", sig := { parameters := [.long], returnType := some .int }, accessFlags := 0, code := some k2c4 }
/-- com/example/dealer/dealer/ChangingShares -/
def k2 : Class := { plain "com/example/dealer/dealer/ChangingShares" (some 0) with
  accessFlags := 32
  interfaces := #[]
  cf := some (fileOf pool2 8 #[] #[{ accessFlags := 0, nameIndex := 5, descriptorIndex := 37, attributes := #[] }, { accessFlags := 0, nameIndex := 41, descriptorIndex := 42, attributes := #[] }, { accessFlags := 0, nameIndex := 43, descriptorIndex := 44, attributes := #[] }, { accessFlags := 0, nameIndex := 29, descriptorIndex := 46, attributes := #[] }, { accessFlags := 0, nameIndex := 47, descriptorIndex := 48, attributes := #[] }] 32 2 #[] #[{ accessFlags := 18, nameIndex := 11, descriptorIndex := 12, attributes := #[] }, { accessFlags := 18, nameIndex := 15, descriptorIndex := 16, attributes := #[] }, { accessFlags := 18, nameIndex := 25, descriptorIndex := 26, attributes := #[] }, { accessFlags := 2, nameIndex := 29, descriptorIndex := 30, attributes := #[] }])
  fields := #[{ name := "nodes", type := (.array .long), accessFlags := 18, slot := 0, constantValue := 0 }, { name := "shares", type := (.array .int), accessFlags := 18, slot := 1, constantValue := 0 }, { name := "firstStep", type := .int, accessFlags := 18, slot := 2, constantValue := 0 }, { name := "total", type := .long, accessFlags := 2, slot := 3, constantValue := 0 }]
  methods := #[k2m0, k2m1, k2m2, k2m3, k2m4]
  instanceTypes := #[(.array .long), (.array .int), .int, .long]
  staticTypes := #[]
  resolved := Array.replicate 51 none
  statics := none }

def pool3 : Array CpInfo := pool [(1, .class_ 2), (0, u "java/io/Serializable"), (0, .class_ 4), (0, u "java/lang/Object")] 2

/-- java/io/Serializable -/
def k3 : Class := { plain "java/io/Serializable" (some 0) with
  accessFlags := 1537
  interfaces := #[]
  cf := some (fileOf pool3 1 #[] #[] 1537 3 #[] #[])
  fields := #[]
  methods := #[]
  instanceTypes := #[]
  staticTypes := #[]
  resolved := Array.replicate 7 none
  statics := none }

def pool4 : Array CpInfo := pool [(2, .class_ 4), (1, u "java/lang/Object"), (0, u "<init>"), (0, u "()V"), (1, .class_ 10), (1, u "java/lang/Number"), (2, .class_ 14), (0, u "java/io/Serializable"), (0, u "serialVersionUID"), (0, u "J")] 20

def k4m0 : Method := { name := "<init>", desc := "()V", sig := { parameters := [], returnType := none }, accessFlags := 1, code := none }
/-- java/lang/Number -/
def k4 : Class := { plain "java/lang/Number" (some 0) with
  accessFlags := 1057
  interfaces := #[3]
  cf := some (fileOf pool4 8 #[] #[{ accessFlags := 1, nameIndex := 5, descriptorIndex := 6, attributes := #[] }] 1057 2 #[13] #[{ accessFlags := 26, nameIndex := 15, descriptorIndex := 16, attributes := #[] }])
  fields := #[{ name := "serialVersionUID", type := .long, accessFlags := 26, slot := 0, constantValue := 0 }]
  methods := #[k4m0]
  instanceTypes := #[]
  staticTypes := #[.long]
  resolved := Array.replicate 37 none
  statics := none }

def pool5 : Array CpInfo := pool [(1, .class_ 2), (0, u "java/lang/Comparable"), (0, .class_ 4), (0, u "java/lang/Object")] 7

/-- java/lang/Comparable -/
def k5 : Class := { plain "java/lang/Comparable" (some 0) with
  accessFlags := 1537
  interfaces := #[]
  cf := some (fileOf pool5 1 #[] #[] 1537 3 #[] #[])
  fields := #[]
  methods := #[]
  instanceTypes := #[]
  staticTypes := #[]
  resolved := Array.replicate 12 none
  statics := none }

def pool6 : Array CpInfo := pool [(1, .class_ 2), (0, u "java/lang/constant/Constable"), (0, .class_ 4), (0, u "java/lang/Object")] 6

/-- java/lang/constant/Constable -/
def k6 : Class := { plain "java/lang/constant/Constable" (some 0) with
  accessFlags := 1537
  interfaces := #[]
  cf := some (fileOf pool6 1 #[] #[] 1537 3 #[] #[])
  fields := #[]
  methods := #[]
  instanceTypes := #[]
  staticTypes := #[]
  resolved := Array.replicate 11 none
  statics := none }

def pool7 : Array CpInfo := pool [(1, .class_ 2), (0, u "java/lang/constant/ConstantDesc"), (0, .class_ 4), (0, u "java/lang/Object")] 32

/-- java/lang/constant/ConstantDesc -/
def k7 : Class := { plain "java/lang/constant/ConstantDesc" (some 0) with
  accessFlags := 1537
  interfaces := #[]
  cf := some (fileOf pool7 1 #[] #[] 1537 3 #[] #[])
  fields := #[]
  methods := #[]
  instanceTypes := #[]
  staticTypes := #[]
  resolved := Array.replicate 37 none
  statics := none }

def pool8 : Array CpInfo := pool [(1, .class_ 2), (0, u "java/lang/Integer"), (16, u "digits"), (0, u "[C"), (30, .methodref 1 52), (0, .nameAndType 53 54), (0, u "numberOfLeadingZeros"), (0, u "(I)I"), (30, u "DigitOnes"), (0, u "[B"), (2, u "DigitTens"), (37, .integer 2147483648), (61, .class_ 190), (0, u "java/lang/Integer$IntegerCache"), (3, u "I"), (8, .class_ 204), (0, u "java/lang/Number"), (2, u "value"), (56, .integer 65536), (37, u "TYPE"), (0, u "Ljava/lang/Class;"), (0, .class_ 305), (0, u "java/lang/Comparable"), (0, .class_ 307), (0, u "java/lang/constant/Constable"), (0, .class_ 309), (0, u "java/lang/constant/ConstantDesc"), (0, u "MIN_VALUE"), (1, u "MAX_VALUE"), (3, u "SIZE"), (1, u "BYTES"), (1, u "serialVersionUID"), (0, u "J"), (81, u "highestOneBit")] 49

def k8c0 : Code := { maxStack := 3, maxLocals := 1, code := jdk_33_method_45_code, exceptionTable := #[], attributes := #[] }
def k8m0 : Method := { name := "highestOneBit", desc := "(I)I", sig := { parameters := [.int], returnType := some .int }, accessFlags := 9, code := some k8c0 }
def k8c1 : Code := { maxStack := 3, maxLocals := 2, code := jdk_33_method_47_code, exceptionTable := #[], attributes := #[] }
def k8m1 : Method := { name := "numberOfLeadingZeros", desc := "(I)I", sig := { parameters := [.int], returnType := some .int }, accessFlags := 9, code := some k8c1 }
/-- java/lang/Integer -/
def k8 : Class := { plain "java/lang/Integer" (some 4) with
  accessFlags := 49
  interfaces := #[5, 6, 7]
  cf := some (fileOf pool8 1 #[.nestMembers #[189]] #[{ accessFlags := 9, nameIndex := 403, descriptorIndex := 54, attributes := #[] }, { accessFlags := 9, nameIndex := 53, descriptorIndex := 54, attributes := #[] }] 49 203 #[304, 306, 308] #[{ accessFlags := 25, nameIndex := 310, descriptorIndex := 194, attributes := #[] }, { accessFlags := 25, nameIndex := 312, descriptorIndex := 194, attributes := #[] }, { accessFlags := 25, nameIndex := 302, descriptorIndex := 303, attributes := #[] }, { accessFlags := 24, nameIndex := 19, descriptorIndex := 20, attributes := #[] }, { accessFlags := 24, nameIndex := 89, descriptorIndex := 86, attributes := #[] }, { accessFlags := 24, nameIndex := 85, descriptorIndex := 86, attributes := #[] }, { accessFlags := 18, nameIndex := 207, descriptorIndex := 194, attributes := #[] }, { accessFlags := 25, nameIndex := 316, descriptorIndex := 194, attributes := #[] }, { accessFlags := 25, nameIndex := 318, descriptorIndex := 194, attributes := #[] }, { accessFlags := 26, nameIndex := 320, descriptorIndex := 321, attributes := #[] }])
  fields := #[{ name := "MIN_VALUE", type := .int, accessFlags := 25, slot := 0, constantValue := 0 }, { name := "MAX_VALUE", type := .int, accessFlags := 25, slot := 1, constantValue := 0 }, { name := "TYPE", type := (.object "java/lang/Class"), accessFlags := 25, slot := 2, constantValue := 0 }, { name := "digits", type := (.array .char), accessFlags := 24, slot := 3, constantValue := 0 }, { name := "DigitTens", type := (.array .byte), accessFlags := 24, slot := 4, constantValue := 0 }, { name := "DigitOnes", type := (.array .byte), accessFlags := 24, slot := 5, constantValue := 0 }, { name := "value", type := .int, accessFlags := 18, slot := 0, constantValue := 0 }, { name := "SIZE", type := .int, accessFlags := 25, slot := 6, constantValue := 0 }, { name := "BYTES", type := .int, accessFlags := 25, slot := 7, constantValue := 0 }, { name := "serialVersionUID", type := .long, accessFlags := 26, slot := 8, constantValue := 0 }]
  methods := #[k8m0, k8m1]
  instanceTypes := #[.int]
  staticTypes := #[.int, .int, (.object "java/lang/Class"), (.array .char), (.array .byte), (.array .byte), .int, .int, .long]
  resolved := Array.replicate 453 none
  statics := none }

def pool9 : Array CpInfo := pool [(1, u "java/lang/Cloneable"), (0, .class_ 1), (0, u "java/lang/Object"), (0, .class_ 3)] 3

/-- java/lang/Cloneable -/
def k9 : Class := { plain "java/lang/Cloneable" (some 0) with
  accessFlags := 1537
  interfaces := #[]
  cf := some (fileOf pool9 2 #[] #[] 1537 4 #[] #[])
  fields := #[]
  methods := #[]
  instanceTypes := #[]
  staticTypes := #[]
  resolved := Array.replicate 8 none
  statics := none }

/-- the primitive boolean -/
def k10 : Class := { plain "boolean" none with kind := .primitive 'Z', accessFlags := 0x411 }
/-- [Z -/
def k11 : Class := { plain "[Z" (some 0) with kind := .array 10 .boolean, interfaces := #[9, 3], accessFlags := 1041 }

/-- the primitive byte -/
def k12 : Class := { plain "byte" none with kind := .primitive 'B', accessFlags := 0x411 }
/-- [B -/
def k13 : Class := { plain "[B" (some 0) with kind := .array 12 .byte, interfaces := #[9, 3], accessFlags := 1041 }

/-- the primitive int -/
def k14 : Class := { plain "int" none with kind := .primitive 'I', accessFlags := 0x411 }
/-- [I -/
def k15 : Class := { plain "[I" (some 0) with kind := .array 14 .int, interfaces := #[9, 3], accessFlags := 1041 }

/-- the primitive long -/
def k16 : Class := { plain "long" none with kind := .primitive 'J', accessFlags := 0x411 }
/-- [J -/
def k17 : Class := { plain "[J" (some 0) with kind := .array 16 .long, interfaces := #[9, 3], accessFlags := 1041 }

def heap : Heap := #[]
def classes : Array Class := #[k0, k1, k2, k3, k4, k5, k6, k7, k8, k9, k10, k11, k12, k13, k14, k15, k16, k17]
def interned : List (Array UInt16 × Addr) := []
def slotsUsed : Nat := 0
def theMethod : MethodId := ⟨1, 3⟩
def args0 : Array Value := #[.int 5, .int 3, .int 7, .int 4, .int 9, .int 12]
def aboutOver (below : List Frame) : State where
  vm := { classes := classes, interned := interned.toArray }
  heap := heap
  slotsUsed := slotsUsed
  threads := #[{ frames := .invoking theMethod args0 :: below }]
def below0 : List Frame := [.native { method := ⟨0, 0⟩, args := #[] }]
def about1 : State := aboutOver below0
def p0 : Program := .bare "" "" ""
def e0 : Env := launch0.env 0 0 0
theorem w_frames : about1.frames = Frame.invoking theMethod args0 :: below0 := rfl
set_option maxRecDepth 65536 in
theorem w_args : argsFit about1.vm theMethod args0 = true := by decide +kernel
set_option maxRecDepth 65536 in
theorem w_heap : heapFits about1 = true := by decide +kernel
set_option maxRecDepth 65536 in
theorem w_runnable : about1.curStatus? = some .runnable := by decide +kernel
set_option maxRecDepth 65536 in
theorem w_alone : about1.alone = true := by decide +kernel
set_option maxRecDepth 65536 in
theorem w_named : about1.methodNamed? x = some theMethod := by decide +kernel
set_option maxRecDepth 65536 in
theorem w_hears : about1.hears theMethod below0 = true := by decide +kernel
set_option maxRecDepth 65536 in
theorem w_ripe : about1.ripe theMethod args0 below0 = true := by decide +kernel
theorem w_running : about1.status = .running := rfl
set_option maxRecDepth 65536 in
theorem w_room : about1.hasRoom e0.platform room_1 = true :=
  launch0.hasRoom_least _ room_1 (by decide +kernel) (by decide +kernel) (by decide +kernel) (by decide +kernel) (by decide +kernel) (by decide +kernel)
theorem allAtoms_all (ts : List Jvm.Cond) (a : Array Jvm.Value) (st : Jvm.State) : (allAtoms ts).before a st = ts.all (fun c => c.before a st) := by
  induction ts with
  | nil => rfl
  | cons c t ih =>
    show (Jvm.Cond.and c (allAtoms t)).before a st = _
    rw [Jvm.Cond.before_and, ih, List.all_cons]
def words1 : List Jvm.Cond := Jvm.Cond.code x code maxLocals ret :: tables_1
/-- a 'code' word, met by the world's own term for the bytes: nothing is compared byte by byte -/
theorem code_word {y : MethodName} {bytes : ByteArray} {mx : Nat} {rt : Option FieldType} {a : Array Value} {s : State} {m : MethodId} {meth : Method} {c : Code} (h1 : s.methodNamed? y = some m) (h2 : s.vm.method? m = some meth) (h3 : meth.code = some c) (h4 : c.code = bytes)
    (h5 : (c.maxLocals == mx && c.exceptionTable.isEmpty && decide (c.maxStack ≤ mostOperands) && decide (meth.sig.returnType = rt) && !meth.locks && decide (parseMethodDescriptor y.desc = some meth.sig)) = true) : (Jvm.Cond.code y bytes mx rt).before a s = true := by
  simp only [Bool.and_eq_true, beq_iff_eq, Bool.not_eq_true', decide_eq_true_eq] at h5
  obtain ⟨⟨⟨⟨⟨g1, g2⟩, g3⟩, g4⟩, g5⟩, g6⟩ := h5
  simp [Cond.before, Cond.holds, Cond.value, h1, h2, h3, h4, g1, g2, g3, g4, g5, g6]
def isCode : Jvm.Cond → Bool
  | .code _ _ _ _ => true
  | _ => false
theorem all_split {L : List Jvm.Cond} {P : Jvm.Cond → Bool} (h1 : L.all (fun c => isCode c || P c) = true) (h2 : ∀ c ∈ L.filter isCode, P c = true) : L.all P = true := by
  refine List.all_eq_true.mpr fun c hc => ?_
  have h := List.all_eq_true.mp h1 c hc
  rcases Bool.eq_false_or_eq_true (isCode c) with hi | hi
  · exact h2 c (List.mem_filter.mpr ⟨hc, hi⟩)
  · simpa [hi] using h
set_option maxRecDepth 65536 in
theorem w_c0 : (Jvm.Cond.code x code maxLocals ret).before args0 about1 = true := code_word (m := ⟨1, 3⟩) (meth := k1m3) (c := k1c3) (by decide +kernel) rfl rfl rfl (by decide +kernel)
set_option maxRecDepth 65536 in
theorem w_c1 : (Jvm.Cond.code ({ cls := "com/example/dealer/dealer/ChangingSharesFillPinLaw", name := "intsOf", desc := "(I)[I" } : Jvm.MethodName) method_2_code (1 : Nat) (Option.some (Jvm.ClassFile.FieldType.array Jvm.ClassFile.FieldType.int))).before args0 about1 = true := code_word (m := ⟨1, 1⟩) (meth := k1m1) (c := k1c1) (by decide +kernel) rfl rfl rfl (by decide +kernel)
set_option maxRecDepth 65536 in
theorem w_c2 : (Jvm.Cond.code ({ cls := "com/example/dealer/dealer/ChangingSharesFillPinLaw", name := "flagsOf", desc := "(I)[Z" } : Jvm.MethodName) method_3_code (1 : Nat) (Option.some (Jvm.ClassFile.FieldType.array Jvm.ClassFile.FieldType.boolean))).before args0 about1 = true := code_word (m := ⟨1, 2⟩) (meth := k1m2) (c := k1c2) (by decide +kernel) rfl rfl rfl (by decide +kernel)
set_option maxRecDepth 65536 in
theorem w_c3 : (Jvm.Cond.code ({ cls := "com/example/dealer/dealer/ChangingShares", name := "<init>", desc := "(I)V" } : Jvm.MethodName) prog_6_method_1_code (2 : Nat) (Option.none : Option Jvm.ClassFile.FieldType)).before args0 about1 = true := code_word (m := ⟨2, 0⟩) (meth := k2m0) (c := k2c0) (by decide +kernel) rfl rfl rfl (by decide +kernel)
set_option maxRecDepth 65536 in
theorem w_c4 : (Jvm.Cond.code ({ cls := "java/lang/Object", name := "<init>", desc := "()V" } : Jvm.MethodName) object_method_1_code (1 : Nat) (Option.none : Option Jvm.ClassFile.FieldType)).before args0 about1 = true := code_word (m := ⟨0, 0⟩) (meth := k0m0) (c := k0c0) (by decide +kernel) rfl rfl rfl (by decide +kernel)
set_option maxRecDepth 65536 in
theorem w_c5 : (Jvm.Cond.code ({ cls := "java/lang/Integer", name := "highestOneBit", desc := "(I)I" } : Jvm.MethodName) jdk_33_method_45_code (1 : Nat) (Option.some Jvm.ClassFile.FieldType.int)).before args0 about1 = true := code_word (m := ⟨8, 0⟩) (meth := k8m0) (c := k8c0) (by decide +kernel) rfl rfl rfl (by decide +kernel)
set_option maxRecDepth 65536 in
theorem w_c6 : (Jvm.Cond.code ({ cls := "java/lang/Integer", name := "numberOfLeadingZeros", desc := "(I)I" } : Jvm.MethodName) jdk_33_method_47_code (2 : Nat) (Option.some Jvm.ClassFile.FieldType.int)).before args0 about1 = true := code_word (m := ⟨8, 1⟩) (meth := k8m1) (c := k8c1) (by decide +kernel) rfl rfl rfl (by decide +kernel)
set_option maxRecDepth 65536 in
theorem w_c7 : (Jvm.Cond.code ({ cls := "com/example/dealer/dealer/ChangingShares", name := "fill", desc := "([I[Z)V" } : Jvm.MethodName) prog_6_method_2_code (5 : Nat) (Option.none : Option Jvm.ClassFile.FieldType)).before args0 about1 = true := code_word (m := ⟨2, 1⟩) (meth := k2m1) (c := k2c1) (by decide +kernel) rfl rfl rfl (by decide +kernel)
set_option maxRecDepth 65536 in
theorem w_c8 : (Jvm.Cond.code ({ cls := "com/example/dealer/dealer/ChangingShares", name := "total", desc := "()J" } : Jvm.MethodName) prog_6_method_5_code (1 : Nat) (Option.some Jvm.ClassFile.FieldType.long)).before args0 about1 = true := code_word (m := ⟨2, 3⟩) (meth := k2m3) (c := k2c3) (by decide +kernel) rfl rfl rfl (by decide +kernel)
set_option maxRecDepth 65536 in
theorem w_c9 : (Jvm.Cond.code ({ cls := "com/example/dealer/dealer/ChangingShares", name := "set", desc := "(II)V" } : Jvm.MethodName) prog_6_method_3_code (6 : Nat) (Option.none : Option Jvm.ClassFile.FieldType)).before args0 about1 = true := code_word (m := ⟨2, 2⟩) (meth := k2m2) (c := k2c2) (by decide +kernel) rfl rfl rfl (by decide +kernel)
set_option maxRecDepth 65536 in
theorem w_c10 : (Jvm.Cond.code ({ cls := "com/example/dealer/dealer/ChangingShares", name := "indexAt", desc := "(J)I" } : Jvm.MethodName) prog_6_method_6_code (12 : Nat) (Option.some Jvm.ClassFile.FieldType.int)).before args0 about1 = true := code_word (m := ⟨2, 4⟩) (meth := k2m4) (c := k2c4) (by decide +kernel) rfl rfl rfl (by decide +kernel)
def codes1 : List Jvm.Cond := [Jvm.Cond.code x code maxLocals ret, Jvm.Cond.code ({ cls := "com/example/dealer/dealer/ChangingSharesFillPinLaw", name := "intsOf", desc := "(I)[I" } : Jvm.MethodName) method_2_code (1 : Nat) (Option.some (Jvm.ClassFile.FieldType.array Jvm.ClassFile.FieldType.int)), Jvm.Cond.code ({ cls := "com/example/dealer/dealer/ChangingSharesFillPinLaw", name := "flagsOf", desc := "(I)[Z" } : Jvm.MethodName) method_3_code (1 : Nat) (Option.some (Jvm.ClassFile.FieldType.array Jvm.ClassFile.FieldType.boolean)), Jvm.Cond.code ({ cls := "com/example/dealer/dealer/ChangingShares", name := "<init>", desc := "(I)V" } : Jvm.MethodName) prog_6_method_1_code (2 : Nat) (Option.none : Option Jvm.ClassFile.FieldType), Jvm.Cond.code ({ cls := "java/lang/Object", name := "<init>", desc := "()V" } : Jvm.MethodName) object_method_1_code (1 : Nat) (Option.none : Option Jvm.ClassFile.FieldType), Jvm.Cond.code ({ cls := "java/lang/Integer", name := "highestOneBit", desc := "(I)I" } : Jvm.MethodName) jdk_33_method_45_code (1 : Nat) (Option.some Jvm.ClassFile.FieldType.int), Jvm.Cond.code ({ cls := "java/lang/Integer", name := "numberOfLeadingZeros", desc := "(I)I" } : Jvm.MethodName) jdk_33_method_47_code (2 : Nat) (Option.some Jvm.ClassFile.FieldType.int), Jvm.Cond.code ({ cls := "com/example/dealer/dealer/ChangingShares", name := "fill", desc := "([I[Z)V" } : Jvm.MethodName) prog_6_method_2_code (5 : Nat) (Option.none : Option Jvm.ClassFile.FieldType), Jvm.Cond.code ({ cls := "com/example/dealer/dealer/ChangingShares", name := "total", desc := "()J" } : Jvm.MethodName) prog_6_method_5_code (1 : Nat) (Option.some Jvm.ClassFile.FieldType.long), Jvm.Cond.code ({ cls := "com/example/dealer/dealer/ChangingShares", name := "set", desc := "(II)V" } : Jvm.MethodName) prog_6_method_3_code (6 : Nat) (Option.none : Option Jvm.ClassFile.FieldType), Jvm.Cond.code ({ cls := "com/example/dealer/dealer/ChangingShares", name := "indexAt", desc := "(J)I" } : Jvm.MethodName) prog_6_method_6_code (12 : Nat) (Option.some Jvm.ClassFile.FieldType.int)]
set_option maxRecDepth 65536 in
theorem codes_eq : words1.filter isCode = codes1 := rfl
theorem w_codes : ∀ c ∈ words1.filter isCode, c.before args0 about1 = true := by
  rw [codes_eq]
  intro c hc
  simp only [codes1, List.mem_cons, List.not_mem_nil, or_false] at hc
  rcases hc with rfl | rfl | rfl | rfl | rfl | rfl | rfl | rfl | rfl | rfl | rfl
  · exact w_c0
  · exact w_c1
  · exact w_c2
  · exact w_c3
  · exact w_c4
  · exact w_c5
  · exact w_c6
  · exact w_c7
  · exact w_c8
  · exact w_c9
  · exact w_c10
set_option maxRecDepth 65536 in
theorem w_t1 : (words1.take 24).all (fun c => isCode c || c.before args0 about1) = true := by decide +kernel
set_option maxRecDepth 65536 in
theorem w_t2 : ((words1.drop 24).take 24).all (fun c => isCode c || c.before args0 about1) = true := by decide +kernel
set_option maxRecDepth 65536 in
theorem w_t3 : ((words1.drop 24).drop 24).all (fun c => isCode c || c.before args0 about1) = true := by decide +kernel
theorem w_tables : (allAtoms (Jvm.Cond.code x code maxLocals ret :: tables_1)).before args0 about1 = true := by
  rw [allAtoms_all]
  show words1.all (fun c => c.before args0 about1) = true
  refine all_split ?_ w_codes
  rw [← List.take_append_drop 24 words1, List.all_append, w_t1, ← List.take_append_drop 24 (words1.drop 24), List.all_append, w_t2, w_t3]
  rfl
set_option maxRecDepth 65536 in
theorem w_case : (Jvm.Cond.and given_1 narrow_1).before args0 about1 = true := by decide +kernel
theorem w_applies : (headSpec (Jvm.Cond.code x code maxLocals ret :: tables_1) room_1).applies x e0.platform about1 = true :=
  (Spec.applies_iff w_frames).mpr ⟨w_running, w_runnable, w_alone, w_named, w_hears, w_ripe, w_room, w_tables⟩
theorem atStart : AtStart classFile x code maxLocals ret World_1 tables_1 room_1 Calls_1 rest_1 Pre_1 launch0 p0 e0 about1 theMethod args0 below0 :=
  ⟨lists_1, trivial, launch0.admits_env _ _ _, launch0.least_env, fairChoices_fair.cas, fairChoices_fair.clock, w_frames, w_args, w_heap, w_applies, trivial, trivial, w_case⟩
end start1
theorem witness_1 : WitnessClaimed_1 := ⟨start1.p0, start1.e0, start1.about1, start1.theMethod, start1.args0, start1.below0, start1.atStart⟩
end Jvm.Pilot.@@N@@
