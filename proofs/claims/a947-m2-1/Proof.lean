import JvmDerived
import JvmDerived.Pilot.@@N@@Statement
import JvmDerived.Pilot.@@N@@Code
set_option linter.unusedVariables false
set_option linter.unusedSimpArgs false
namespace Jvm.RoadKit
open Sem ClassFile Op Lib Jvm.Stand Jvm.Free Jvm.LawKit
section New
variable {p : Program} {l : Launch} {e : Env} {R : Room} {s : State} {m : MethodId} {args : Array Value} {below : List Frame} {meth : Method} {c : Code} {T : State} {locs : List Loc} {cells slots : Nat}
theorem retI (X : Stand p l e R s m args below meth c T locs cells slots) (hx : p.tables.exec = Jvm.exec) {pc : Nat} {Ls : Array Slot} {z : Int32} {rest : List Value} (hret : meth.sig.returnType = some .int) (hd : decode c.code pc = .ok (.ireturn, 1)) {fs : List Frame}
    (hl : ∀ (f : JFrame) (acts : List Action), f.method = m → f.locked = none → f.entered = [] → (doReturn e (T.setTop f) acts (some (.int z))).1 = T.setFrames fs) : Steps p.tables e below (T.setTop (mkF m pc Ls (.int z :: rest))) (T.setFrames fs) := by
  have hm' : T.vm.method? m = some meth := X.method'
  have hn : narrow .int (.int z) = .int z := rfl
  show Steps p.tables e below (T.setTop { method := m, pc := pc, locals := Ls, stack := _ :: rest, locked := none }) _
  jvm_step X.here [X.here.top, hx, hd, hm', hret, hn]
  first | (intro acts; rw [hl _ acts rfl rfl rfl]) | rw [hl _ _ rfl rfl rfl]
  exact Steps.refl _
end New
end Jvm.RoadKit
namespace Jvm.OwnKit
open Sem ClassFile Op Lib Jvm.Stand Jvm.Free Jvm.LawKit Jvm.RoadKit
def b2i (b : Bool) : Int32 := if b = true then 1 else 0
theorem b2i_eq {b : Bool} (h : ¬ b = true) : b2i b = 0 := if_neg h
theorem b2i_ne {b : Bool} (h : b = true) : ¬ b2i b = 0 := by rw [b2i, if_pos h]; decide
theorem nar_b2i (b : Bool) : nar .boolean (b2i b) = b2i b := by cases b <;> decide
theorem b2i_one {b : Bool} (h : b = true) : nar .boolean (b2i b) = 1 := by rw [h]; decide
end Jvm.OwnKit
namespace Jvm.OwnKit
open Sem ClassFile Op Lib Jvm.Stand Jvm.Free Jvm.LawKit Jvm.RoadKit
section Arrays
variable {Z : State} {h h' : Heap} {a b : Addr} {ty : FieldType} {z : Int32} {G : Int32 → Value}
def AG (Z : State) (h : Heap) (a : Addr) (ty : FieldType) (z : Int32) (G : Int32 → Value) : Prop := ∃ c : Cell, Arr Z h a c ty ∧ c.slots.size = z.toNatClampNeg ∧ ¬ z < 0 ∧ ∀ j : Int32, ¬ j < 0 → j < z → c.slots[j.toNatClampNeg]? = some (G j)
def AJ (Z : State) (h : Heap) (a : Addr) (z : Int32) (f : Int32 → Int64) : Prop := AG Z h a .long z (fun i => .long (f i))
def AI (Z : State) (h : Heap) (a : Addr) (ty : FieldType) (z : Int32) (f : Int32 → Int32) : Prop := AG Z h a ty z (fun i => .int (f i))
def upA {α : Type} (f : Int32 → α) (j : Int32) (v : α) : Int32 → α := fun i => if i = j then v else f i
theorem upA_hit {α : Type} {f : Int32 → α} {j : Int32} {v : α} : upA f j v j = v := if_pos rfl
theorem upA_miss {α : Type} {f : Int32 → α} {i j : Int32} {v : α} (q : ¬ i = j) : upA f j v i = f i := if_neg q
theorem AG.lt (F : AG Z h a ty z G) : a < h.size := by obtain ⟨c, A, -⟩ := F; exact A.lt
theorem AG.ext (F : AG Z h a ty z G) (E : Ext h h') : AG Z h' a ty z G := by obtain ⟨c, A, r⟩ := F; exact ⟨c, A.ext E, r⟩
theorem AG.other (F : AG Z h b ty z G) {sl : Nat} {v : Value} (W : Wr h h' a sl v) (q : b ≠ a) : AG Z h' b ty z G := by obtain ⟨c, A, r⟩ := F; exact ⟨c, A.other W q, r⟩
theorem AG.new {k : ClassId} (A : Arr Z h a (newA k ty z) ty) (q : ¬ z < 0) : AG Z h a ty z (fun _ => defaultValue ty) :=
  ⟨_, A, sz_new _ _ _, q, fun j h1 h2 => get_new (by have w := inb_of (sz_new k ty z) ⟨h1, h2⟩; rwa [sz_new] at w)⟩
theorem AG.set (F : AG Z h a ty z G) {j : Int32} {v : Value} (W : Wr h h' a j.toNatClampNeg v) (q : ¬ j < 0 ∧ j < z) : AG Z h' a ty z (upA G j v) := by
  obtain ⟨c, A, S, M, H⟩ := F
  refine ⟨_, A.same W, by rw [sz_set]; exact S, M, fun i h1 h2 => ?_⟩
  by_cases e : i = j
  · rw [upA, if_pos e]; exact get_hit (inb_of S q) e
  · rw [upA, if_neg e, get_miss q.1 h1 e]; exact H i h1 h2
theorem AG.keep (F : AG Z h a ty z G) {ws : List Addr} (K : Keep h h' ws) (q : a ∉ ws) : AG Z h' a ty z G := by obtain ⟨c, A, r⟩ := F; exact ⟨c, ⟨K.2.1 a c A.1 q, A.2⟩, r⟩
theorem AJ.keep {f : Int32 → Int64} (F : AJ Z h a z f) {ws : List Addr} (K : Keep h h' ws) (q : a ∉ ws) : AJ Z h' a z f := AG.keep F K q
theorem AI.keep {f : Int32 → Int32} (F : AI Z h a ty z f) {ws : List Addr} (K : Keep h h' ws) (q : a ∉ ws) : AI Z h' a ty z f := AG.keep F K q
theorem AJ.lt {f : Int32 → Int64} (F : AJ Z h a z f) : a < h.size := AG.lt F
theorem AI.lt {f : Int32 → Int32} (F : AI Z h a ty z f) : a < h.size := AG.lt F
theorem AJ.ext {f : Int32 → Int64} (F : AJ Z h a z f) (E : Ext h h') : AJ Z h' a z f := AG.ext F E
theorem AI.ext {f : Int32 → Int32} (F : AI Z h a ty z f) (E : Ext h h') : AI Z h' a ty z f := AG.ext F E
theorem AJ.other {f : Int32 → Int64} (F : AJ Z h b z f) {sl : Nat} {v : Value} (W : Wr h h' a sl v) (q : b ≠ a) : AJ Z h' b z f := AG.other F W q
theorem AI.other {f : Int32 → Int32} (F : AI Z h b ty z f) {sl : Nat} {v : Value} (W : Wr h h' a sl v) (q : b ≠ a) : AI Z h' b ty z f := AG.other F W q
theorem AJ.set {f : Int32 → Int64} (F : AJ Z h a z f) {j : Int32} {v : Int64} (W : Wr h h' a j.toNatClampNeg (.long v)) (q : ¬ j < 0 ∧ j < z) : AJ Z h' a z (upA f j v) := by
  have e : (fun i => Value.long (upA f j v i)) = upA (fun i => Value.long (f i)) j (.long v) := funext fun i => by unfold upA; split <;> rfl
  unfold AJ; rw [e]; exact AG.set F W q
theorem AI.set {f : Int32 → Int32} (F : AI Z h a ty z f) {j v : Int32} (W : Wr h h' a j.toNatClampNeg (.int v)) (q : ¬ j < 0 ∧ j < z) : AI Z h' a ty z (upA f j v) := by
  have e : (fun i => Value.int (upA f j v i)) = upA (fun i => Value.int (f i)) j (.int v) := funext fun i => by unfold upA; split <;> rfl
  unfold AI; rw [e]; exact AG.set F W q
theorem AJ.congr {f g : Int32 → Int64} (F : AJ Z h a z f) (q : ∀ j : Int32, ¬ j < 0 → j < z → f j = g j) : AJ Z h a z g := by
  obtain ⟨c, A, S, M, H⟩ := F; exact ⟨c, A, S, M, fun j h1 h2 => (H j h1 h2).trans (congrArg (fun v => some (Value.long v)) (q j h1 h2))⟩
theorem AI.congr {f g : Int32 → Int32} (F : AI Z h a ty z f) (q : ∀ j : Int32, ¬ j < 0 → j < z → f j = g j) : AI Z h a ty z g := by
  obtain ⟨c, A, S, M, H⟩ := F; exact ⟨c, A, S, M, fun j h1 h2 => (H j h1 h2).trans (congrArg (fun v => some (Value.int v)) (q j h1 h2))⟩
theorem AJ.new {k : ClassId} (A : Arr Z h a (newA k .long z) .long) (q : ¬ z < 0) : AJ Z h a z (fun _ => 0) := AG.new A q
theorem AI.new {k : ClassId} (A : Arr Z h a (newA k .int z) .int) (q : ¬ z < 0) : AI Z h a .int z (fun _ => 0) := AG.new A q
theorem AI.newB {k : ClassId} (A : Arr Z h a (newA k .byte z) .byte) (q : ¬ z < 0) : AI Z h a .byte z (fun _ => 0) := AG.new A q
theorem AI.newZ {k : ClassId} (A : Arr Z h a (newA k .boolean z) .boolean) (q : ¬ z < 0) : AI Z h a .boolean z (fun _ => 0) := AG.new A q
variable {p : Program} {l : Launch} {e : Env} {R : Room} {s : State} {m : MethodId} {args : Array Value} {below : List Frame} {meth : Method} {c : Code} {T : State} {locs : List Loc} {cells slots : Nat} {g : JFrame} {rest : List Value} {j : Int32}
theorem rdJ {f : Int32 → Int64} {y : Int64} (X : Stand p l e R s m args below meth c T locs cells slots) (hx : p.tables.exec = Jvm.exec) (hZ : Z.Warmed39 s.vm) (eT : T.heap = h) (F : AJ Z h a z f) (q : ¬ j < 0 ∧ j < z) (hv : f j = y) (hg : g.method = m) (hs : g.stack = .int j :: .ref a :: rest) (hd : decode c.code g.pc = .ok (.laload, 1)) (target : State)
    (hr : Steps p.tables e below (T.setTop { g with pc := g.pc + 1, stack := .long y :: rest }) target) : Steps p.tables e below (T.setTop g) target := by
  subst hv
  obtain ⟨cl, A, S, M, H⟩ := F
  exact X.laload hx (by rw [eT]; exact A.1) (State.isArrayOf_alike hZ.alike A.2.1) A.2.2 (inb_of S q) (H j q.1 q.2) hg hs hd target hr
theorem rdI {f : Int32 → Int32} {y : Int32} (X : Stand p l e R s m args below meth c T locs cells slots) (hx : p.tables.exec = Jvm.exec) (hZ : Z.Warmed39 s.vm) (eT : T.heap = h) (F : AI Z h a .int z f) (q : ¬ j < 0 ∧ j < z) (hv : f j = y) (hg : g.method = m) (hs : g.stack = .int j :: .ref a :: rest) (hd : decode c.code g.pc = .ok (.iaload, 1)) (target : State)
    (hr : Steps p.tables e below (T.setTop { g with pc := g.pc + 1, stack := .int y :: rest }) target) : Steps p.tables e below (T.setTop g) target := by
  subst hv
  obtain ⟨cl, A, S, M, H⟩ := F
  exact X.iaload hx (by rw [eT]; exact A.1) (State.isArrayOf_alike hZ.alike A.2.1) A.2.2 (inb_of S q) (H j q.1 q.2) hg hs hd target hr
theorem rdB {f : Int32 → Int32} {y : Int32} (X : Stand p l e R s m args below meth c T locs cells slots) (hx : p.tables.exec = Jvm.exec) (hZ : Z.Warmed39 s.vm) (eT : T.heap = h) (F : AI Z h a .byte z f) (q : ¬ j < 0 ∧ j < z) (hv : f j = y) (hg : g.method = m) (hs : g.stack = .int j :: .ref a :: rest) (hd : decode c.code g.pc = .ok (.baload, 1)) (target : State)
    (hr : Steps p.tables e below (T.setTop { g with pc := g.pc + 1, stack := .int y :: rest }) target) : Steps p.tables e below (T.setTop g) target := by
  subst hv
  obtain ⟨cl, A, S, M, H⟩ := F
  exact X.baloadBytes hx (by rw [eT]; exact A.1) (State.isArrayOf_alike hZ.alike A.2.1) A.2.2 (inb_of S q) (H j q.1 q.2) hg hs hd target hr
theorem rdZ {f : Int32 → Int32} {y : Int32} (X : Stand p l e R s m args below meth c T locs cells slots) (hx : p.tables.exec = Jvm.exec) (hZ : Z.Warmed39 s.vm) (eT : T.heap = h) (F : AI Z h a .boolean z f) (q : ¬ j < 0 ∧ j < z) (hv : f j = y) (hg : g.method = m) (hs : g.stack = .int j :: .ref a :: rest) (hd : decode c.code g.pc = .ok (.baload, 1)) (target : State)
    (hr : Steps p.tables e below (T.setTop { g with pc := g.pc + 1, stack := .int y :: rest }) target) : Steps p.tables e below (T.setTop g) target := by
  subst hv
  obtain ⟨cl, A, S, M, H⟩ := F
  exact X.baloadBooleans hx (by rw [eT]; exact A.1) (State.isArrayOf_alike hZ.alike A.2.1) A.2.2 (inb_of S q) (H j q.1 q.2) hg hs hd target hr
theorem lnG (X : Stand p l e R s m args below meth c T locs cells slots) (hx : p.tables.exec = Jvm.exec) (hZ : Z.Warmed39 s.vm) (eT : T.heap = h) (F : AG Z h a ty z G) (hg : g.method = m) (hs : g.stack = .ref a :: rest) (hd : decode c.code g.pc = .ok (.arraylength, 1)) (target : State)
    (hr : Steps p.tables e below (T.setTop { g with pc := g.pc + 1, stack := .int z :: rest }) target) : Steps p.tables e below (T.setTop g) target := by
  obtain ⟨cl, A, S, M, H⟩ := F
  refine X.arraylength hx (by rw [eT]; exact A.1) (State.isArrayOf_alike hZ.alike A.2.1) hg hs hd target ?_
  rw [len_of S M]; exact hr
theorem wrJ {f : Int32 → Int64} {x : Int64} (X : Stand p l e R s m args below meth c T locs cells slots) (hx : p.tables.exec = Jvm.exec) (hZ : Z.Warmed39 s.vm) (eT : T.heap = h) (F : AJ Z h a z f) (q : ¬ j < 0 ∧ j < z) (hg : g.method = m) (hs : g.stack = .long x :: .int j :: .ref a :: rest) (hd : decode c.code g.pc = .ok (.lastore, 1)) :
    ∃ T' h', Stand p l e R s m args below meth c T' (locs ++ [⟨a, j.toNatClampNeg⟩]) cells slots ∧ T'.heap = h' ∧ Wr h h' a j.toNatClampNeg (.long x) ∧ AJ Z h' a z (upA f j x) ∧ ∀ target, Steps p.tables e below (T'.setTop { g with pc := g.pc + 1, stack := rest }) target → Steps p.tables e below (T.setTop g) target := by
  have F' := F
  obtain ⟨cl, A, S, M, H⟩ := F
  obtain ⟨T', h', X', e', W, st⟩ := stJ X hx hZ eT A (inb_of S q) hg hs hd
  exact ⟨T', h', X', e', W, AJ.set F' W q, st⟩
theorem wrI {f : Int32 → Int32} {x : Int32} (X : Stand p l e R s m args below meth c T locs cells slots) (hx : p.tables.exec = Jvm.exec) (hZ : Z.Warmed39 s.vm) (eT : T.heap = h) (F : AI Z h a .int z f) (q : ¬ j < 0 ∧ j < z) (hg : g.method = m) (hs : g.stack = .int x :: .int j :: .ref a :: rest) (hd : decode c.code g.pc = .ok (.iastore, 1)) :
    ∃ T' h', Stand p l e R s m args below meth c T' (locs ++ [⟨a, j.toNatClampNeg⟩]) cells slots ∧ T'.heap = h' ∧ Wr h h' a j.toNatClampNeg (.int x) ∧ AI Z h' a .int z (upA f j x) ∧ ∀ target, Steps p.tables e below (T'.setTop { g with pc := g.pc + 1, stack := rest }) target → Steps p.tables e below (T.setTop g) target := by
  have F' := F
  obtain ⟨cl, A, S, M, H⟩ := F
  obtain ⟨T', h', X', e', W, st⟩ := stI X hx hZ eT A (inb_of S q) hg hs hd
  exact ⟨T', h', X', e', W, AI.set F' W q, st⟩
theorem wrB {f : Int32 → Int32} {x y : Int32} (X : Stand p l e R s m args below meth c T locs cells slots) (hx : p.tables.exec = Jvm.exec) (hZ : Z.Warmed39 s.vm) (eT : T.heap = h) (F : AI Z h a .byte z f) (q : ¬ j < 0 ∧ j < z) (hn : nar .byte x = y) (hg : g.method = m) (hs : g.stack = .int x :: .int j :: .ref a :: rest) (hd : decode c.code g.pc = .ok (.bastore, 1)) :
    ∃ T' h', Stand p l e R s m args below meth c T' (locs ++ [⟨a, j.toNatClampNeg⟩]) cells slots ∧ T'.heap = h' ∧ Wr h h' a j.toNatClampNeg (.int y) ∧ AI Z h' a .byte z (upA f j y) ∧ ∀ target, Steps p.tables e below (T'.setTop { g with pc := g.pc + 1, stack := rest }) target → Steps p.tables e below (T.setTop g) target := by
  have F' := F
  obtain ⟨cl, A, S, M, H⟩ := F
  obtain ⟨T', h', X', e', W, st⟩ := stB X hx hZ eT A (inb_of S q) hg hs hd
  rw [hn] at W
  exact ⟨T', h', X', e', W, AI.set F' W q, st⟩
theorem wrZ {f : Int32 → Int32} {x y : Int32} (X : Stand p l e R s m args below meth c T locs cells slots) (hx : p.tables.exec = Jvm.exec) (hZ : Z.Warmed39 s.vm) (eT : T.heap = h) (F : AI Z h a .boolean z f) (q : ¬ j < 0 ∧ j < z) (hn : nar .boolean x = y) (hg : g.method = m) (hs : g.stack = .int x :: .int j :: .ref a :: rest) (hd : decode c.code g.pc = .ok (.bastore, 1)) :
    ∃ T' h', Stand p l e R s m args below meth c T' (locs ++ [⟨a, j.toNatClampNeg⟩]) cells slots ∧ T'.heap = h' ∧ Wr h h' a j.toNatClampNeg (.int y) ∧ AI Z h' a .boolean z (upA f j y) ∧ ∀ target, Steps p.tables e below (T'.setTop { g with pc := g.pc + 1, stack := rest }) target → Steps p.tables e below (T.setTop g) target := by
  have F' := F
  obtain ⟨cl, A, S, M, H⟩ := F
  obtain ⟨T', h', X', e', W, st⟩ := stZ X hx hZ eT A (inb_of S q) hg hs hd
  rw [hn] at W
  exact ⟨T', h', X', e', W, AI.set F' W q, st⟩
theorem nar_byte (x : Int32) : nar .byte x.toInt8.toInt32 = x.toInt8.toInt32 := by
  show x.toInt8.toInt32.toInt8.toInt32 = x.toInt8.toInt32
  rw [Int8.toInt8_toInt32]
end Arrays
end Jvm.OwnKit
namespace Jvm.Pilot.@@N@@
open Jvm Jvm.ClassFile Sem Op Lib Jvm.Free Jvm.Stand Jvm.LawKit Jvm.RoadKit Jvm.OwnKit Bundle Jvm.Pilot.@@N@@.Jvm.D
def own_ix (i : Int32) : Int32 := ((i.toUInt32 >>> ((6 : Int32) &&& 31).toUInt32).toInt32)
def own_bit (i : Int32) : Int64 := ((1 : Int64) <<< (i &&& 0x3f).toInt64)
def own_nw (i : Int32) : Int32 := (((i + (63 : Int32)).toUInt32 >>> ((6 : Int32) &&& 31).toUInt32).toInt32)
theorem own_shr6 (x : Int32) : (own_ix x).toInt = (x.toInt % 4294967296) / 64 := c_iushr x 6 6 (by decide) (by decide)
theorem own_nwv (p : Int32) (h0 : 0 ≤ p.toInt) (h1 : p.toInt ≤ 16384) : (own_nw p).toInt = (p.toInt + 63) / 64 := by
  have a := c_iadd p 63
  have b := rng32 (p + 63)
  have l : (63 : Int32).toInt = 63 := by decide
  have c : (own_nw p).toInt = ((p + 63).toInt % 4294967296) / 64 := own_shr6 (p + 63)
  omega
theorem own_capn (z : Int32) (h0 : 0 ≤ z.toInt) : ¬ z < 0 := by
  rw [Int32.lt_iff_toInt_lt]
  have l : (0 : Int32).toInt = 0 := by decide
  omega
theorem own_capc (z : Int32) (n : Nat) (h0 : 0 ≤ z.toInt) (h1 : z.toInt ≤ n) : z.toNatClampNeg ≤ n := by
  have := nat_of (own_capn z h0)
  omega
def IS0 (Z : State) (h : Heap) (n0 : Nat) (ob : Addr) (c0 : Int32) : Prop := Exa Z h ob "com/example/cutline/cutline/IndexSet" ∧ Fld Z h ob "com/example/cutline/cutline/IndexSet" "capacity" "I" (.int c0) ∧ Fld Z h ob "com/example/cutline/cutline/IndexSet" "words" "[J" .null ∧ Fld Z h ob "com/example/cutline/cutline/IndexSet" "summary" "[J" .null ∧ Fld Z h ob "com/example/cutline/cutline/IndexSet" "size" "I" (.int (0 : Int32)) ∧ n0 ≤ ob ∧ n0 ≤ h.size
def IS (Z : State) (h : Heap) (n0 : Nat) (ob : Addr) (aw : Addr) (au : Addr) (cap : Int32) (sz : Int32) (nw : Int32) (w : Int32 → Int64) (nu : Int32) (u : Int32 → Int64) : Prop := Exa Z h ob "com/example/cutline/cutline/IndexSet" ∧ Fld Z h ob "com/example/cutline/cutline/IndexSet" "capacity" "I" (.int cap) ∧ Fld Z h ob "com/example/cutline/cutline/IndexSet" "words" "[J" (.ref aw) ∧ Fld Z h ob "com/example/cutline/cutline/IndexSet" "summary" "[J" (.ref au) ∧ Fld Z h ob "com/example/cutline/cutline/IndexSet" "size" "I" (.int sz) ∧ AJ Z h aw nw w ∧ AJ Z h au nu u ∧ n0 ≤ ob ∧ n0 ≤ aw ∧ n0 ≤ au ∧ ob ≠ aw ∧ ob ≠ au ∧ aw ≠ au ∧ n0 ≤ h.size
theorem d1_0 : decode jdk_29_method_69_code 0 = .ok (.iload_n 0, 1) := by decide +kernel
theorem d1_1 : decode jdk_29_method_69_code 1 = .ok (.iload_n 1, 1) := by decide +kernel
theorem d1_2 : decode jdk_29_method_69_code 2 = .ok (.if_icmp .gt 7, 3) := by decide +kernel
theorem d1_5 : decode jdk_29_method_69_code 5 = .ok (.iload_n 0, 1) := by decide +kernel
theorem d1_6 : decode jdk_29_method_69_code 6 = .ok (.goto 4, 3) := by decide +kernel
theorem d1_9 : decode jdk_29_method_69_code 9 = .ok (.iload_n 1, 1) := by decide +kernel
theorem d1_10 : decode jdk_29_method_69_code 10 = .ok (.ireturn, 1) := by decide +kernel
theorem ef_1 (m : MethodId) (x0 : Int32) (x1 : Int32) : entryFrame m #[(.int x0), (.int x1)] 2 = mkF m 0 #[.val (.int x0), .val (.int x1)] [] := by first | (simp [entryFrame, mkF, argsToLocals, Value.category]; done) | rfl
def Fmin (z1 : Int32) (z2 : Int32) : Int32 := (if z2 < z1 then z2 else z1)
def Q1 (Z : State) (z1 : Int32) (z2 : Int32) (h0 : Heap) (n0 : Nat) (v : Option Value) (h : Heap) (L : List Loc) : Prop := v = some (.int (Fmin z1 z2)) ∧ Fr n0 L ∧ h = h0
set_option maxRecDepth 65536 in
set_option maxHeartbeats 40000000 in
theorem rm1 (l : Launch) (Z : State) (a0 : Array Value) (hw : ∀ d ∈ tables_1, d.before a0 Z = true) (ws : List Jvm.Cond) (z1 : Int32) (z2 : Int32) (h0 : Heap) (n0 : Nat) (Z0 : n0 ≤ h0.size) :
    MetFree l (⟨"java/lang/Math", "min", "(II)I"⟩ : MethodName) (head1 (Jvm.Cond.code (⟨"java/lang/Math", "min", "(II)I"⟩ : MethodName) jdk_29_method_69_code 2 (some .int) :: ws) ({ frames := 0, cells := 0, slots := 0, locals := 0 } : Room)) (fun a U => a = #[(.int z1), (.int z2)] ∧ Z.Warmed39 U.vm ∧ U.heap = h0) (fun _ _ _ _ _ => True) (fun _ U o U' => ∃ v L, o = .returned v ∧ Q1 Z z1 z2 h0 n0 v U'.heap L ∧ FrameEnd U o U' L ({ frames := 0, cells := 0, slots := 0, locals := 0 } : Room).cells ({ frames := 0, cells := 0, slots := 0, locals := 0 } : Room).slots) := by
  refine MetFree.of_bodySF (Jvm.Free.JP.mathPlain rfl (by decide +kernel)) hisR ?_
  intro p e s m args below meth c s₁ Bd hml0 hP hK
  obtain ⟨rfl, hZ, hh⟩ := hP
  have hx := Bd.exec
  have hby := Bd.bytes
  have hml : c.maxLocals = 2 := hml0
  have hown : s.vm.findClass "java/lang/Math" = some m.cls := findClass_of_methodNamed Bd.named
  have hnm := (name_of_methodNamed Bd.named Bd.method).1
  have X0 : Stand p l e ({ frames := 0, cells := 0, slots := 0, locals := 0 } : Room) s m #[(.int z1), (.int z2)] below meth c s₁ [] 0 0 := Stand.of_body Bd
  have e0 : s₁.heap = h0 := by rw [← hh, Bd.state]; rfl
  have N0 := Fr.nil n0
  have pre0 : ∀ t, Steps p.tables e below (s₁.setTop (mkF m 0 #[.val (.int z1), .val (.int z2)] [])) t → Steps p.tables e below (s₁.setTop (entryFrame m #[(.int z1), (.int z2)] 2)) t := fun t k => castTop (ef_1 m z1 z2) k
  have pre1 : ∀ t, Steps p.tables e below (s₁.setTop (mkF m 2 #[.val (.int z1), .val (.int z2)] [(.int z2), (.int z1)])) t → Steps p.tables e below (s₁.setTop (entryFrame m #[(.int z1), (.int z2)] 2)) t := by
    intro t k
    refine pre0 t ?_
    show Steps p.tables e below (s₁.setTop (mkF m 0 #[.val (.int z1), .val (.int z2)] [])) _
    refine XS.iloadN X0.here hx rfl (hb hby d1_0) rfl ?_
    show Steps p.tables e below (s₁.setTop (mkF m 1 #[.val (.int z1), .val (.int z2)] [(.int z1)])) _
    refine XS.iloadN X0.here hx rfl (hb hby d1_1) rfl ?_
    exact k
  have pre2 : ∀ t, Steps p.tables e below (s₁.setTop (mkF m 10 #[.val (.int z1), .val (.int z2)] [(.int (if z2 < z1 then z2 else z1))])) t → Steps p.tables e below (s₁.setTop (entryFrame m #[(.int z1), (.int z2)] 2)) t := by
    intro t k
    refine pre1 t ?_
    have k : ∀ (v1 : Int32), v1 = (if z2 < z1 then z2 else z1) → Steps p.tables e below (s₁.setTop (mkF m 10 #[.val (.int z1), .val (.int z2)] [(.int v1)])) t := fun v1 hv1 => by subst hv1; exact k
    show Steps p.tables e below (s₁.setTop (mkF m 2 #[.val (.int z1), .val (.int z2)] [(.int z2), (.int z1)])) _
    by_cases hc3 : z2 < z1
    · refine XS.icmpYes X0.here hx rfl (pc0 := 2) (pc' := 9) rfl (hb hby d1_2) rfl (tlt hc3).2.2.1 (by decide) (by decide) ?_
      have k : ∀ (v1 : Int32), v1 = z2 → Steps p.tables e below (s₁.setTop (mkF m 10 #[.val (.int z1), .val (.int z2)] [(.int v1)])) t := fun v1 hv1 => k v1 (hv1.trans (if_pos hc3).symm)
      show Steps p.tables e below (s₁.setTop (mkF m 9 #[.val (.int z1), .val (.int z2)] [])) _
      refine XS.iloadN X0.here hx rfl (hb hby d1_9) rfl ?_
      exact k _ rfl
    · refine XS.icmpNo X0.here hx rfl (hb hby d1_2) rfl (flt hc3).2.2.1 ?_
      have k : ∀ (v1 : Int32), v1 = z1 → Steps p.tables e below (s₁.setTop (mkF m 10 #[.val (.int z1), .val (.int z2)] [(.int v1)])) t := fun v1 hv1 => k v1 (hv1.trans (if_neg hc3).symm)
      show Steps p.tables e below (s₁.setTop (mkF m 5 #[.val (.int z1), .val (.int z2)] [])) _
      refine XS.iloadN X0.here hx rfl (hb hby d1_5) rfl ?_
      show Steps p.tables e below (s₁.setTop (mkF m 6 #[.val (.int z1), .val (.int z2)] [(.int z1)])) _
      refine XS.goto X0.here hx rfl (pc0 := 6) (pc' := 10) rfl (hb hby d1_6) (by decide) (by decide) ?_
      exact k _ rfl
  obtain ⟨fs, hr, hrun, hended, hW, hsame⟩ := X0.leave (v := some (.int (Fmin z1 z2))) (fun h => by rw [Bd.returns] at h; cases h) (BodyLoose.notSynchronized Bd)
  refine ⟨_, _, pre2 _ ?_, hrun, hended, _, _, rfl, ?_, ⟨_, rfl⟩, hW, hsame.mono (by decide) (by decide)⟩
  · show Steps p.tables e below (s₁.setTop (mkF m 10 #[.val (.int z1), .val (.int z2)] [(.int (if z2 < z1 then z2 else z1))])) _
    exact retI X0 hx Bd.returns (hb hby d1_10) hr
  · show Q1 Z z1 z2 h0 n0 _ s₁.heap _
    rw [e0]
    exact ⟨rfl, N0, rfl⟩
theorem d2_0 : decode jdk_29_method_65_code 0 = .ok (.iload_n 0, 1) := by decide +kernel
theorem d2_1 : decode jdk_29_method_65_code 1 = .ok (.iload_n 1, 1) := by decide +kernel
theorem d2_2 : decode jdk_29_method_65_code 2 = .ok (.if_icmp .lt 7, 3) := by decide +kernel
theorem d2_5 : decode jdk_29_method_65_code 5 = .ok (.iload_n 0, 1) := by decide +kernel
theorem d2_6 : decode jdk_29_method_65_code 6 = .ok (.goto 4, 3) := by decide +kernel
theorem d2_9 : decode jdk_29_method_65_code 9 = .ok (.iload_n 1, 1) := by decide +kernel
theorem d2_10 : decode jdk_29_method_65_code 10 = .ok (.ireturn, 1) := by decide +kernel
theorem ef_2 (m : MethodId) (x0 : Int32) (x1 : Int32) : entryFrame m #[(.int x0), (.int x1)] 2 = mkF m 0 #[.val (.int x0), .val (.int x1)] [] := by first | (simp [entryFrame, mkF, argsToLocals, Value.category]; done) | rfl
def Fmax (z1 : Int32) (z2 : Int32) : Int32 := (if z1 < z2 then z2 else z1)
def Q2 (Z : State) (z1 : Int32) (z2 : Int32) (h0 : Heap) (n0 : Nat) (v : Option Value) (h : Heap) (L : List Loc) : Prop := v = some (.int (Fmax z1 z2)) ∧ Fr n0 L ∧ h = h0
set_option maxRecDepth 65536 in
set_option maxHeartbeats 40000000 in
theorem rm2 (l : Launch) (Z : State) (a0 : Array Value) (hw : ∀ d ∈ tables_1, d.before a0 Z = true) (ws : List Jvm.Cond) (z1 : Int32) (z2 : Int32) (h0 : Heap) (n0 : Nat) (Z0 : n0 ≤ h0.size) :
    MetFree l (⟨"java/lang/Math", "max", "(II)I"⟩ : MethodName) (head1 (Jvm.Cond.code (⟨"java/lang/Math", "max", "(II)I"⟩ : MethodName) jdk_29_method_65_code 2 (some .int) :: ws) ({ frames := 0, cells := 0, slots := 0, locals := 0 } : Room)) (fun a U => a = #[(.int z1), (.int z2)] ∧ Z.Warmed39 U.vm ∧ U.heap = h0) (fun _ _ _ _ _ => True) (fun _ U o U' => ∃ v L, o = .returned v ∧ Q2 Z z1 z2 h0 n0 v U'.heap L ∧ FrameEnd U o U' L ({ frames := 0, cells := 0, slots := 0, locals := 0 } : Room).cells ({ frames := 0, cells := 0, slots := 0, locals := 0 } : Room).slots) := by
  refine MetFree.of_bodySF (Jvm.Free.JP.mathPlain rfl (by decide +kernel)) hisR ?_
  intro p e s m args below meth c s₁ Bd hml0 hP hK
  obtain ⟨rfl, hZ, hh⟩ := hP
  have hx := Bd.exec
  have hby := Bd.bytes
  have hml : c.maxLocals = 2 := hml0
  have hown : s.vm.findClass "java/lang/Math" = some m.cls := findClass_of_methodNamed Bd.named
  have hnm := (name_of_methodNamed Bd.named Bd.method).1
  have X0 : Stand p l e ({ frames := 0, cells := 0, slots := 0, locals := 0 } : Room) s m #[(.int z1), (.int z2)] below meth c s₁ [] 0 0 := Stand.of_body Bd
  have e0 : s₁.heap = h0 := by rw [← hh, Bd.state]; rfl
  have N0 := Fr.nil n0
  have pre0 : ∀ t, Steps p.tables e below (s₁.setTop (mkF m 0 #[.val (.int z1), .val (.int z2)] [])) t → Steps p.tables e below (s₁.setTop (entryFrame m #[(.int z1), (.int z2)] 2)) t := fun t k => castTop (ef_2 m z1 z2) k
  have pre1 : ∀ t, Steps p.tables e below (s₁.setTop (mkF m 2 #[.val (.int z1), .val (.int z2)] [(.int z2), (.int z1)])) t → Steps p.tables e below (s₁.setTop (entryFrame m #[(.int z1), (.int z2)] 2)) t := by
    intro t k
    refine pre0 t ?_
    show Steps p.tables e below (s₁.setTop (mkF m 0 #[.val (.int z1), .val (.int z2)] [])) _
    refine XS.iloadN X0.here hx rfl (hb hby d2_0) rfl ?_
    show Steps p.tables e below (s₁.setTop (mkF m 1 #[.val (.int z1), .val (.int z2)] [(.int z1)])) _
    refine XS.iloadN X0.here hx rfl (hb hby d2_1) rfl ?_
    exact k
  have pre2 : ∀ t, Steps p.tables e below (s₁.setTop (mkF m 10 #[.val (.int z1), .val (.int z2)] [(.int (if z1 < z2 then z2 else z1))])) t → Steps p.tables e below (s₁.setTop (entryFrame m #[(.int z1), (.int z2)] 2)) t := by
    intro t k
    refine pre1 t ?_
    have k : ∀ (v1 : Int32), v1 = (if z1 < z2 then z2 else z1) → Steps p.tables e below (s₁.setTop (mkF m 10 #[.val (.int z1), .val (.int z2)] [(.int v1)])) t := fun v1 hv1 => by subst hv1; exact k
    show Steps p.tables e below (s₁.setTop (mkF m 2 #[.val (.int z1), .val (.int z2)] [(.int z2), (.int z1)])) _
    by_cases hc3 : z1 < z2
    · refine XS.icmpYes X0.here hx rfl (pc0 := 2) (pc' := 9) rfl (hb hby d2_2) rfl (tlt hc3).1 (by decide) (by decide) ?_
      have k : ∀ (v1 : Int32), v1 = z2 → Steps p.tables e below (s₁.setTop (mkF m 10 #[.val (.int z1), .val (.int z2)] [(.int v1)])) t := fun v1 hv1 => k v1 (hv1.trans (if_pos hc3).symm)
      show Steps p.tables e below (s₁.setTop (mkF m 9 #[.val (.int z1), .val (.int z2)] [])) _
      refine XS.iloadN X0.here hx rfl (hb hby d2_9) rfl ?_
      exact k _ rfl
    · refine XS.icmpNo X0.here hx rfl (hb hby d2_2) rfl (flt hc3).1 ?_
      have k : ∀ (v1 : Int32), v1 = z1 → Steps p.tables e below (s₁.setTop (mkF m 10 #[.val (.int z1), .val (.int z2)] [(.int v1)])) t := fun v1 hv1 => k v1 (hv1.trans (if_neg hc3).symm)
      show Steps p.tables e below (s₁.setTop (mkF m 5 #[.val (.int z1), .val (.int z2)] [])) _
      refine XS.iloadN X0.here hx rfl (hb hby d2_5) rfl ?_
      show Steps p.tables e below (s₁.setTop (mkF m 6 #[.val (.int z1), .val (.int z2)] [(.int z1)])) _
      refine XS.goto X0.here hx rfl (pc0 := 6) (pc' := 10) rfl (hb hby d2_6) (by decide) (by decide) ?_
      exact k _ rfl
  obtain ⟨fs, hr, hrun, hended, hW, hsame⟩ := X0.leave (v := some (.int (Fmax z1 z2))) (fun h => by rw [Bd.returns] at h; cases h) (BodyLoose.notSynchronized Bd)
  refine ⟨_, _, pre2 _ ?_, hrun, hended, _, _, rfl, ?_, ⟨_, rfl⟩, hW, hsame.mono (by decide) (by decide)⟩
  · show Steps p.tables e below (s₁.setTop (mkF m 10 #[.val (.int z1), .val (.int z2)] [(.int (if z1 < z2 then z2 else z1))])) _
    exact retI X0 hx Bd.returns (hb hby d2_10) hr
  · show Q2 Z z1 z2 h0 n0 _ s₁.heap _
    rw [e0]
    exact ⟨rfl, N0, rfl⟩
theorem d3_0 : decode prog_16_method_1_code 0 = .ok (.aload_n 0, 1) := by decide +kernel
theorem d3_1 : decode prog_16_method_1_code 1 = .ok (.invokespecial 1, 3) := by decide +kernel
theorem d3_4 : decode prog_16_method_1_code 4 = .ok (.aload_n 0, 1) := by decide +kernel
theorem d3_5 : decode prog_16_method_1_code 5 = .ok (.iload_n 1, 1) := by decide +kernel
theorem d3_6 : decode prog_16_method_1_code 6 = .ok (.putfield 7, 3) := by decide +kernel
theorem d3_9 : decode prog_16_method_1_code 9 = .ok (.aload_n 0, 1) := by decide +kernel
theorem d3_10 : decode prog_16_method_1_code 10 = .ok (.iload_n 1, 1) := by decide +kernel
theorem d3_11 : decode prog_16_method_1_code 11 = .ok (.bipush 63, 2) := by decide +kernel
theorem d3_13 : decode prog_16_method_1_code 13 = .ok (.iadd, 1) := by decide +kernel
theorem d3_14 : decode prog_16_method_1_code 14 = .ok (.bipush 6, 2) := by decide +kernel
theorem d3_16 : decode prog_16_method_1_code 16 = .ok (.iushr, 1) := by decide +kernel
theorem d3_17 : decode prog_16_method_1_code 17 = .ok (.newarray .long, 2) := by decide +kernel
theorem d3_19 : decode prog_16_method_1_code 19 = .ok (.putfield 13, 3) := by decide +kernel
theorem d3_22 : decode prog_16_method_1_code 22 = .ok (.aload_n 0, 1) := by decide +kernel
theorem d3_23 : decode prog_16_method_1_code 23 = .ok (.aload_n 0, 1) := by decide +kernel
theorem d3_24 : decode prog_16_method_1_code 24 = .ok (.getfield 13, 3) := by decide +kernel
theorem d3_27 : decode prog_16_method_1_code 27 = .ok (.arraylength, 1) := by decide +kernel
theorem d3_28 : decode prog_16_method_1_code 28 = .ok (.bipush 63, 2) := by decide +kernel
theorem d3_30 : decode prog_16_method_1_code 30 = .ok (.iadd, 1) := by decide +kernel
theorem d3_31 : decode prog_16_method_1_code 31 = .ok (.bipush 6, 2) := by decide +kernel
theorem d3_33 : decode prog_16_method_1_code 33 = .ok (.iushr, 1) := by decide +kernel
theorem d3_34 : decode prog_16_method_1_code 34 = .ok (.newarray .long, 2) := by decide +kernel
theorem d3_36 : decode prog_16_method_1_code 36 = .ok (.putfield 17, 3) := by decide +kernel
theorem d3_39 : decode prog_16_method_1_code 39 = .ok (.return_, 1) := by decide +kernel
theorem pn_3 : plainName "com/example/cutline/cutline/IndexSet" = true := by first | (simp [plainName, overriddenIn]; done) | decide +kernel
theorem ef_3 (m : MethodId) (x0 : Addr) (x1 : Int32) : entryFrame m #[(.ref x0), (.int x1)] 2 = mkF m 0 #[.val (.ref x0), .val (.int x1)] [] := by first | (simp [entryFrame, mkF, argsToLocals, Value.category]; done) | rfl
def Q3 (Z : State) (ob : Addr) (p0 : Int32) (c0 : Int32) (h0 : Heap) (n0 : Nat) (v : Option Value) (h : Heap) (L : List Loc) : Prop := v = none ∧ Fr n0 L ∧ ∃ aw au : Addr, IS Z h n0 ob aw au p0 0 (own_nw p0) (fun _ => 0) (own_nw (own_nw p0)) (fun _ => 0)
set_option maxRecDepth 65536 in
set_option maxHeartbeats 40000000 in
theorem rm3 (l : Launch) (Z : State) (a0 : Array Value) (hw : ∀ d ∈ tables_1, d.before a0 Z = true) (ws : List Jvm.Cond) (ob : Addr) (p0 : Int32) (c0 : Int32) (h0 : Heap) (n0 : Nat) (Z0 : n0 ≤ h0.size) (I0 : IS0 Z h0 n0 ob c0) (hp0 : 0 ≤ p0.toInt) (hp1 : p0.toInt ≤ 16384) :
    MetFree l (⟨"com/example/cutline/cutline/IndexSet", "<init>", "(I)V"⟩ : MethodName) (head1 (Jvm.Cond.code (⟨"com/example/cutline/cutline/IndexSet", "<init>", "(I)V"⟩ : MethodName) prog_16_method_1_code 2 none :: ws) ({ frames := 1, cells := 2, slots := 260, locals := 12 } : Room)) (fun a U => a = #[(.ref ob), (.int p0)] ∧ Z.Warmed39 U.vm ∧ U.heap = h0) (fun _ _ _ _ _ => True) (fun _ U o U' => ∃ v L, o = .returned v ∧ Q3 Z ob p0 c0 h0 n0 v U'.heap L ∧ FrameEnd U o U' L ({ frames := 1, cells := 2, slots := 260, locals := 12 } : Room).cells ({ frames := 1, cells := 2, slots := 260, locals := 12 } : Room).slots) := by
  refine MetFree.of_bodySF (plainFor_of_name pn_3) hisR ?_
  intro p e s m args below meth c s₁ Bd hml0 hP hK
  obtain ⟨rfl, hZ, hh⟩ := hP
  have hx := Bd.exec
  have hby := Bd.bytes
  have hml : c.maxLocals = 2 := hml0
  have hown : s.vm.findClass "com/example/cutline/cutline/IndexSet" = some m.cls := findClass_of_methodNamed Bd.named
  have hnm := (name_of_methodNamed Bd.named Bd.method).1
  have X0 : Stand p l e ({ frames := 1, cells := 2, slots := 260, locals := 12 } : Room) s m #[(.ref ob), (.int p0)] below meth c s₁ [] 0 0 := Stand.of_body Bd
  have e0 : s₁.heap = h0 := by rw [← hh, Bd.state]; rfl
  have N0 := Fr.nil n0
  have pre0 : ∀ t, Steps p.tables e below (s₁.setTop (mkF m 0 #[.val (.ref ob), .val (.int p0)] [])) t → Steps p.tables e below (s₁.setTop (entryFrame m #[(.ref ob), (.int p0)] 2)) t := fun t k => castTop (ef_3 m ob p0) k
  obtain ⟨k1_0, k1_1, k1_2, k1_3, k1_4, k1_g_ob, k1_sz⟩ := I0
  obtain ⟨T2, X2, e2, st2⟩ := initO X0 hx hZ hown (hw _ (List.mem_of_getElem? (i := 14) rfl)) (hw _ (List.mem_of_getElem? (i := 15) rfl)) (hw _ (List.mem_of_getElem? (i := 16) rfl)) e0 (g := (mkF m 1 #[.val (.ref ob), .val (.int p0)] [(.ref ob)])) rfl (by rw [hml]; rfl) rfl (hb hby d3_1) (by decide) (W := 0) (by show 2 * 0 + _ ≤ _; exact Nat.le_of_eq rfl) (by decide)
  obtain ⟨T3, h3, X3, e3, W3, st3⟩ := putF X2 hx hZ hown (host := "") (Or.inl (hw _ (List.mem_of_getElem? (i := 17) rfl))) Via.refl e2 k1_1 k1_0 (Or.inr ⟨(hw _ (List.mem_of_getElem? (i := 18) rfl)), rfl, hnm⟩) (hw _ (List.mem_of_getElem? (i := 9) rfl)) (ty := .int) (by decide) rfl rfl (g := (mkF m 6 #[.val (.ref ob), .val (.int p0)] [(.int p0), (.ref ob)])) rfl rfl (hb hby d3_6)
  have f4 := (k1_2.other W3 (Or.inr (slot_ne (Or.inr (hw _ (List.mem_of_getElem? (i := 21) rfl))) (Or.inr (hw _ (List.mem_of_getElem? (i := 18) rfl))) (by decide) (t := (.array .long)) (t' := .int) (by decide) (by decide))))
  have f5 := (k1_3.other W3 (Or.inr (slot_ne (Or.inr (hw _ (List.mem_of_getElem? (i := 23) rfl))) (Or.inr (hw _ (List.mem_of_getElem? (i := 18) rfl))) (by decide) (t := (.array .long)) (t' := .int) (by decide) (by decide))))
  have f6 := (k1_4.other W3 (Or.inr (slot_ne (Or.inl (hw _ (List.mem_of_getElem? (i := 30) rfl))) (Or.inr (hw _ (List.mem_of_getElem? (i := 18) rfl))) (by decide) (t := .int) (t' := .int) (by decide) (by decide))))
  have Z3 : n0 ≤ h3.size := Nat.le_trans Z0 (Keep.of_wr W3).1
  have N3 := Fr.snoc X3 N0 k1_g_ob
  obtain ⟨T7, h7, k7, X7, e7, E7, A7, st7⟩ := newP X3 hx hZ (hw _ (List.mem_of_getElem? (i := 19) rfl)) e3 (g := (mkF m 17 #[.val (.ref ob), .val (.int p0)] [(.int (own_nw p0)), (.ref ob)])) rfl (hb hby d3_17) rfl (own_capn _ (by have := own_nwv p0 hp0 hp1; omega)) (cap := 256) (own_capc _ 256 (by have := own_nwv p0 hp0 hp1; omega) (by have := own_nwv p0 hp0 hp1; omega)) (by decide) (by decide) (by decide)
  obtain ⟨b7, g7⟩ : ∃ z, z = h3.size := ⟨_, rfl⟩
  rw [← g7] at A7 st7
  have ne_ob_b7 : ob ≠ b7 := Nat.ne_of_lt (Nat.lt_of_lt_of_le (k1_0.wr W3).lt (Nat.le_of_eq g7.symm))
  have ge_b7 : n0 ≤ b7 := Nat.le_trans Z3 (Nat.le_of_eq g7.symm)
  have Z7 : n0 ≤ h7.size := Nat.le_trans Z3 E7.1
  have V7 := AJ.new A7 (own_capn _ (by have := own_nwv p0 hp0 hp1; omega))
  obtain ⟨T8, h8, X8, e8, W8, st8⟩ := putF X7 hx hZ hown (host := "") (Or.inl (hw _ (List.mem_of_getElem? (i := 20) rfl))) Via.refl e7 (f4.ext E7) ((k1_0.wr W3).ext E7) (Or.inr ⟨(hw _ (List.mem_of_getElem? (i := 21) rfl)), rfl, hnm⟩) (hw _ (List.mem_of_getElem? (i := 9) rfl)) (ty := (.array .long)) (by decide) rfl rfl (g := (mkF m 19 #[.val (.ref ob), .val (.int p0)] [(.ref b7), (.ref ob)])) rfl rfl (hb hby d3_19)
  have f9 := (((k1_1.same W3).ext E7).other W8 (Or.inr (slot_ne (Or.inr (hw _ (List.mem_of_getElem? (i := 18) rfl))) (Or.inr (hw _ (List.mem_of_getElem? (i := 21) rfl))) (by decide) (t := .int) (t' := (.array .long)) (by decide) (by decide))))
  have f10 := ((f5.ext E7).other W8 (Or.inr (slot_ne (Or.inr (hw _ (List.mem_of_getElem? (i := 23) rfl))) (Or.inr (hw _ (List.mem_of_getElem? (i := 21) rfl))) (by decide) (t := (.array .long)) (t' := (.array .long)) (by decide) (by decide))))
  have f11 := ((f6.ext E7).other W8 (Or.inr (slot_ne (Or.inl (hw _ (List.mem_of_getElem? (i := 30) rfl))) (Or.inr (hw _ (List.mem_of_getElem? (i := 21) rfl))) (by decide) (t := .int) (t' := (.array .long)) (by decide) (by decide))))
  have Z8 : n0 ≤ h8.size := Nat.le_trans Z7 (Keep.of_wr W8).1
  have N8 := Fr.snoc X8 N3 k1_g_ob
  obtain ⟨T12, X12, e12, st12⟩ := getF X8 hx hZ hown (host := "") (Or.inl (hw _ (List.mem_of_getElem? (i := 20) rfl))) Via.refl e8 ((f4.ext E7).same W8) (g := (mkF m 24 #[.val (.ref ob), .val (.int p0)] [(.ref ob), (.ref ob)])) rfl rfl (hb hby d3_24)
  obtain ⟨T13, h13, k13, X13, e13, E13, A13, st13⟩ := newP X12 hx hZ (hw _ (List.mem_of_getElem? (i := 19) rfl)) e12 (g := (mkF m 34 #[.val (.ref ob), .val (.int p0)] [(.int (own_nw (own_nw p0))), (.ref ob)])) rfl (hb hby d3_34) rfl (own_capn _ (by have a := own_nwv p0 hp0 hp1; have b := own_nwv (own_nw p0) (by omega) (by omega); omega)) (cap := 4) (own_capc _ 4 (by have a := own_nwv p0 hp0 hp1; have b := own_nwv (own_nw p0) (by omega) (by omega); omega) (by have a := own_nwv p0 hp0 hp1; have b := own_nwv (own_nw p0) (by omega) (by omega); omega)) (by decide) (by decide) (by decide)
  obtain ⟨b13, g13⟩ : ∃ z, z = h8.size := ⟨_, rfl⟩
  rw [← g13] at A13 st13
  have ne_ob_b13 : ob ≠ b13 := Nat.ne_of_lt (Nat.lt_of_lt_of_le (((k1_0.wr W3).ext E7).wr W8).lt (Nat.le_of_eq g13.symm))
  have ne_b7_b13 : b7 ≠ b13 := Nat.ne_of_lt (Nat.lt_of_lt_of_le (V7.other W8 (Ne.symm ne_ob_b7)).lt (Nat.le_of_eq g13.symm))
  have ge_b13 : n0 ≤ b13 := Nat.le_trans Z8 (Nat.le_of_eq g13.symm)
  have Z13 : n0 ≤ h13.size := Nat.le_trans Z8 E13.1
  have V13 := AJ.new A13 (own_capn _ (by have a := own_nwv p0 hp0 hp1; have b := own_nwv (own_nw p0) (by omega) (by omega); omega))
  obtain ⟨T14, h14, X14, e14, W14, st14⟩ := putF X13 hx hZ hown (host := "") (Or.inl (hw _ (List.mem_of_getElem? (i := 22) rfl))) Via.refl e13 (f10.ext E13) ((((k1_0.wr W3).ext E7).wr W8).ext E13) (Or.inr ⟨(hw _ (List.mem_of_getElem? (i := 23) rfl)), rfl, hnm⟩) (hw _ (List.mem_of_getElem? (i := 9) rfl)) (ty := (.array .long)) (by decide) rfl rfl (g := (mkF m 36 #[.val (.ref ob), .val (.int p0)] [(.ref b13), (.ref ob)])) rfl rfl (hb hby d3_36)
  have f15 := ((f9.ext E13).other W14 (Or.inr (slot_ne (Or.inr (hw _ (List.mem_of_getElem? (i := 18) rfl))) (Or.inr (hw _ (List.mem_of_getElem? (i := 23) rfl))) (by decide) (t := .int) (t' := (.array .long)) (by decide) (by decide))))
  have f16 := ((((f4.ext E7).same W8).ext E13).other W14 (Or.inr (slot_ne (Or.inr (hw _ (List.mem_of_getElem? (i := 21) rfl))) (Or.inr (hw _ (List.mem_of_getElem? (i := 23) rfl))) (by decide) (t := (.array .long)) (t' := (.array .long)) (by decide) (by decide))))
  have f17 := ((f11.ext E13).other W14 (Or.inr (slot_ne (Or.inl (hw _ (List.mem_of_getElem? (i := 30) rfl))) (Or.inr (hw _ (List.mem_of_getElem? (i := 23) rfl))) (by decide) (t := .int) (t' := (.array .long)) (by decide) (by decide))))
  have Z14 : n0 ≤ h14.size := Nat.le_trans Z13 (Keep.of_wr W14).1
  have N14 := Fr.snoc X14 N8 k1_g_ob
  have pre18 : ∀ t, Steps p.tables e below (T14.setTop (mkF m 39 #[.val (.ref ob), .val (.int p0)] [])) t → Steps p.tables e below (s₁.setTop (entryFrame m #[(.ref ob), (.int p0)] 2)) t := by
    intro t k
    refine pre0 t ?_
    show Steps p.tables e below (s₁.setTop (mkF m 0 #[.val (.ref ob), .val (.int p0)] [])) _
    refine XS.aloadN X0.here hx rfl (hb hby d3_0) rfl rfl ?_
    show Steps p.tables e below (s₁.setTop (mkF m 1 #[.val (.ref ob), .val (.int p0)] [(.ref ob)])) _
    refine st2 _ ?_
    show Steps p.tables e below (T2.setTop (mkF m 4 #[.val (.ref ob), .val (.int p0)] [])) _
    refine XS.aloadN X2.here hx rfl (hb hby d3_4) rfl rfl ?_
    show Steps p.tables e below (T2.setTop (mkF m 5 #[.val (.ref ob), .val (.int p0)] [(.ref ob)])) _
    refine XS.iloadN X2.here hx rfl (hb hby d3_5) rfl ?_
    show Steps p.tables e below (T2.setTop (mkF m 6 #[.val (.ref ob), .val (.int p0)] [(.int p0), (.ref ob)])) _
    refine st3 _ ?_
    show Steps p.tables e below (T3.setTop (mkF m 9 #[.val (.ref ob), .val (.int p0)] [])) _
    refine XS.aloadN X3.here hx rfl (hb hby d3_9) rfl rfl ?_
    show Steps p.tables e below (T3.setTop (mkF m 10 #[.val (.ref ob), .val (.int p0)] [(.ref ob)])) _
    refine XS.iloadN X3.here hx rfl (hb hby d3_10) rfl ?_
    show Steps p.tables e below (T3.setTop (mkF m 11 #[.val (.ref ob), .val (.int p0)] [(.int p0), (.ref ob)])) _
    refine XS.bipush X3.here hx rfl (hb hby d3_11) ?_
    show Steps p.tables e below (T3.setTop (mkF m 13 #[.val (.ref ob), .val (.int p0)] [(.int (63 : Int32)), (.int p0), (.ref ob)])) _
    refine XS.iadd X3.here hx rfl (hb hby d3_13) rfl ?_
    show Steps p.tables e below (T3.setTop (mkF m 14 #[.val (.ref ob), .val (.int p0)] [(.int (p0 + (63 : Int32))), (.ref ob)])) _
    refine XS.bipush X3.here hx rfl (hb hby d3_14) ?_
    show Steps p.tables e below (T3.setTop (mkF m 16 #[.val (.ref ob), .val (.int p0)] [(.int (6 : Int32)), (.int (p0 + (63 : Int32))), (.ref ob)])) _
    refine XS.iushr X3.here hx rfl (hb hby d3_16) rfl ?_
    show Steps p.tables e below (T3.setTop (mkF m 17 #[.val (.ref ob), .val (.int p0)] [(.int (own_nw p0)), (.ref ob)])) _
    refine st7 _ ?_
    show Steps p.tables e below (T7.setTop (mkF m 19 #[.val (.ref ob), .val (.int p0)] [(.ref b7), (.ref ob)])) _
    refine st8 _ ?_
    show Steps p.tables e below (T8.setTop (mkF m 22 #[.val (.ref ob), .val (.int p0)] [])) _
    refine XS.aloadN X8.here hx rfl (hb hby d3_22) rfl rfl ?_
    show Steps p.tables e below (T8.setTop (mkF m 23 #[.val (.ref ob), .val (.int p0)] [(.ref ob)])) _
    refine XS.aloadN X8.here hx rfl (hb hby d3_23) rfl rfl ?_
    show Steps p.tables e below (T8.setTop (mkF m 24 #[.val (.ref ob), .val (.int p0)] [(.ref ob), (.ref ob)])) _
    refine st12 _ ?_
    show Steps p.tables e below (T12.setTop (mkF m 27 #[.val (.ref ob), .val (.int p0)] [(.ref b7), (.ref ob)])) _
    refine lnG X12 hx hZ e12 (V7.other W8 (Ne.symm ne_ob_b7)) (g := (mkF m 27 #[.val (.ref ob), .val (.int p0)] [(.ref b7), (.ref ob)])) rfl rfl (hb hby d3_27) _ ?_
    show Steps p.tables e below (T12.setTop (mkF m 28 #[.val (.ref ob), .val (.int p0)] [(.int (own_nw p0)), (.ref ob)])) _
    refine XS.bipush X12.here hx rfl (hb hby d3_28) ?_
    show Steps p.tables e below (T12.setTop (mkF m 30 #[.val (.ref ob), .val (.int p0)] [(.int (63 : Int32)), (.int (own_nw p0)), (.ref ob)])) _
    refine XS.iadd X12.here hx rfl (hb hby d3_30) rfl ?_
    show Steps p.tables e below (T12.setTop (mkF m 31 #[.val (.ref ob), .val (.int p0)] [(.int ((own_nw p0) + (63 : Int32))), (.ref ob)])) _
    refine XS.bipush X12.here hx rfl (hb hby d3_31) ?_
    show Steps p.tables e below (T12.setTop (mkF m 33 #[.val (.ref ob), .val (.int p0)] [(.int (6 : Int32)), (.int ((own_nw p0) + (63 : Int32))), (.ref ob)])) _
    refine XS.iushr X12.here hx rfl (hb hby d3_33) rfl ?_
    show Steps p.tables e below (T12.setTop (mkF m 34 #[.val (.ref ob), .val (.int p0)] [(.int (own_nw (own_nw p0))), (.ref ob)])) _
    refine st13 _ ?_
    show Steps p.tables e below (T13.setTop (mkF m 36 #[.val (.ref ob), .val (.int p0)] [(.ref b13), (.ref ob)])) _
    refine st14 _ ?_
    exact k
  obtain ⟨fs, hr, hrun, hended, hW, hsame⟩ := X14.leave (v := none) (fun _ => rfl) (BodyLoose.notSynchronized Bd)
  refine ⟨_, _, pre18 _ ?_, hrun, hended, _, _, rfl, ?_, ⟨_, rfl⟩, hW, hsame.mono (by decide) (by decide)⟩
  · show Steps p.tables e below (T14.setTop (mkF m 39 #[.val (.ref ob), .val (.int p0)] [])) _
    exact X14.returnOut hx Bd.returns (hb hby d3_39) hr
  · show Q3 Z ob p0 c0 h0 n0 _ T14.heap _
    rw [e14]
    exact ⟨rfl, N14, ⟨b7, b13, ⟨(((((k1_0.wr W3).ext E7).wr W8).ext E13).wr W14), f15, f16, ((f10.ext E13).same W14), f17, (((V7.other W8 (Ne.symm ne_ob_b7)).ext E13).other W14 (Ne.symm ne_ob_b7)), (V13.other W14 (Ne.symm ne_ob_b13)), k1_g_ob, ge_b7, ge_b13, ne_ob_b7, ne_ob_b13, ne_b7_b13, Z14⟩⟩⟩
theorem d5_0 : decode prog_16_method_4_code 0 = .ok (.iload_n 1, 1) := by decide +kernel
theorem d5_1 : decode prog_16_method_4_code 1 = .ok (.bipush 6, 2) := by decide +kernel
theorem d5_3 : decode prog_16_method_4_code 3 = .ok (.iushr, 1) := by decide +kernel
theorem d5_4 : decode prog_16_method_4_code 4 = .ok (.istore_n 2, 1) := by decide +kernel
theorem d5_5 : decode prog_16_method_4_code 5 = .ok (.lconst 1, 1) := by decide +kernel
theorem d5_6 : decode prog_16_method_4_code 6 = .ok (.iload_n 1, 1) := by decide +kernel
theorem d5_7 : decode prog_16_method_4_code 7 = .ok (.lshl, 1) := by decide +kernel
theorem d5_8 : decode prog_16_method_4_code 8 = .ok (.lstore_n 3, 1) := by decide +kernel
theorem d5_9 : decode prog_16_method_4_code 9 = .ok (.aload_n 0, 1) := by decide +kernel
theorem d5_10 : decode prog_16_method_4_code 10 = .ok (.getfield 13, 3) := by decide +kernel
theorem d5_13 : decode prog_16_method_4_code 13 = .ok (.iload_n 2, 1) := by decide +kernel
theorem d5_14 : decode prog_16_method_4_code 14 = .ok (.laload, 1) := by decide +kernel
theorem d5_15 : decode prog_16_method_4_code 15 = .ok (.lload_n 3, 1) := by decide +kernel
theorem d5_16 : decode prog_16_method_4_code 16 = .ok (.land, 1) := by decide +kernel
theorem d5_17 : decode prog_16_method_4_code 17 = .ok (.lconst 0, 1) := by decide +kernel
theorem d5_18 : decode prog_16_method_4_code 18 = .ok (.lcmp, 1) := by decide +kernel
theorem d5_19 : decode prog_16_method_4_code 19 = .ok (.ifCond .eq 5, 3) := by decide +kernel
theorem d5_22 : decode prog_16_method_4_code 22 = .ok (.iconst 0, 1) := by decide +kernel
theorem d5_23 : decode prog_16_method_4_code 23 = .ok (.ireturn, 1) := by decide +kernel
theorem d5_24 : decode prog_16_method_4_code 24 = .ok (.aload_n 0, 1) := by decide +kernel
theorem d5_25 : decode prog_16_method_4_code 25 = .ok (.getfield 13, 3) := by decide +kernel
theorem d5_28 : decode prog_16_method_4_code 28 = .ok (.iload_n 2, 1) := by decide +kernel
theorem d5_29 : decode prog_16_method_4_code 29 = .ok (.dup2, 1) := by decide +kernel
theorem d5_30 : decode prog_16_method_4_code 30 = .ok (.laload, 1) := by decide +kernel
theorem d5_31 : decode prog_16_method_4_code 31 = .ok (.lload_n 3, 1) := by decide +kernel
theorem d5_32 : decode prog_16_method_4_code 32 = .ok (.lor, 1) := by decide +kernel
theorem d5_33 : decode prog_16_method_4_code 33 = .ok (.lastore, 1) := by decide +kernel
theorem d5_34 : decode prog_16_method_4_code 34 = .ok (.aload_n 0, 1) := by decide +kernel
theorem d5_35 : decode prog_16_method_4_code 35 = .ok (.getfield 17, 3) := by decide +kernel
theorem d5_38 : decode prog_16_method_4_code 38 = .ok (.iload_n 2, 1) := by decide +kernel
theorem d5_39 : decode prog_16_method_4_code 39 = .ok (.bipush 6, 2) := by decide +kernel
theorem d5_41 : decode prog_16_method_4_code 41 = .ok (.iushr, 1) := by decide +kernel
theorem d5_42 : decode prog_16_method_4_code 42 = .ok (.dup2, 1) := by decide +kernel
theorem d5_43 : decode prog_16_method_4_code 43 = .ok (.laload, 1) := by decide +kernel
theorem d5_44 : decode prog_16_method_4_code 44 = .ok (.lconst 1, 1) := by decide +kernel
theorem d5_45 : decode prog_16_method_4_code 45 = .ok (.iload_n 2, 1) := by decide +kernel
theorem d5_46 : decode prog_16_method_4_code 46 = .ok (.lshl, 1) := by decide +kernel
theorem d5_47 : decode prog_16_method_4_code 47 = .ok (.lor, 1) := by decide +kernel
theorem d5_48 : decode prog_16_method_4_code 48 = .ok (.lastore, 1) := by decide +kernel
theorem d5_49 : decode prog_16_method_4_code 49 = .ok (.aload_n 0, 1) := by decide +kernel
theorem d5_50 : decode prog_16_method_4_code 50 = .ok (.dup, 1) := by decide +kernel
theorem d5_51 : decode prog_16_method_4_code 51 = .ok (.getfield 20, 3) := by decide +kernel
theorem d5_54 : decode prog_16_method_4_code 54 = .ok (.iconst 1, 1) := by decide +kernel
theorem d5_55 : decode prog_16_method_4_code 55 = .ok (.iadd, 1) := by decide +kernel
theorem d5_56 : decode prog_16_method_4_code 56 = .ok (.putfield 20, 3) := by decide +kernel
theorem d5_59 : decode prog_16_method_4_code 59 = .ok (.iconst 1, 1) := by decide +kernel
theorem d5_60 : decode prog_16_method_4_code 60 = .ok (.ireturn, 1) := by decide +kernel
theorem ef_5 (m : MethodId) (x0 : Addr) (x1 : Int32) : entryFrame m #[(.ref x0), (.int x1)] 5 = mkF m 0 #[.val (.ref x0), .val (.int x1), .unset, .unset, .unset] [] := by first | (simp [entryFrame, mkF, argsToLocals, Value.category]; done) | rfl
def Fadd (i : Int32) (w : Int32 → Int64) : Bool := (if ((w (own_ix i)) &&& (own_bit i)) = (0 : Int64) then true else false)
def Fadd_sz (i : Int32) (sz : Int32) (w : Int32 → Int64) : Int32 := (if ((w (own_ix i)) &&& (own_bit i)) = (0 : Int64) then (sz + (1 : Int32)) else sz)
def Fadd_w (i : Int32) (w : Int32 → Int64) : Int32 → Int64 := (if ((w (own_ix i)) &&& (own_bit i)) = (0 : Int64) then (@upA Int64 w (own_ix i) ((w (own_ix i)) ||| (own_bit i))) else w)
def Fadd_u (i : Int32) (w : Int32 → Int64) (u : Int32 → Int64) : Int32 → Int64 := (if ((w (own_ix i)) &&& (own_bit i)) = (0 : Int64) then (@upA Int64 u (own_ix (own_ix i)) ((u (own_ix (own_ix i))) ||| (own_bit (own_ix i)))) else u)
def Q5 (Z : State) (ob : Addr) (i : Int32) (aw : Addr) (au : Addr) (cap : Int32) (sz : Int32) (nw : Int32) (w : Int32 → Int64) (nu : Int32) (u : Int32 → Int64) (h0 : Heap) (n0 : Nat) (v : Option Value) (h : Heap) (L : List Loc) : Prop := v = some (.int (b2i (Fadd i w))) ∧ Fr n0 L ∧ IS Z h n0 ob aw au cap (Fadd_sz i sz w) nw (Fadd_w i w) nu (Fadd_u i w u)
set_option maxRecDepth 65536 in
set_option maxHeartbeats 40000000 in
theorem rm5 (l : Launch) (Z : State) (a0 : Array Value) (hw : ∀ d ∈ tables_1, d.before a0 Z = true) (ws : List Jvm.Cond) (ob : Addr) (i : Int32) (aw : Addr) (au : Addr) (cap : Int32) (sz : Int32) (nw : Int32) (w : Int32 → Int64) (nu : Int32) (u : Int32 → Int64) (h0 : Heap) (n0 : Nat) (Z0 : n0 ≤ h0.size) (I0 : IS Z h0 n0 ob aw au cap sz nw w nu u) (hi : ¬ (own_ix i) < 0 ∧ (own_ix i) < nw) (hj : ¬ (own_ix (own_ix i)) < 0 ∧ (own_ix (own_ix i)) < nu) :
    MetFree l (⟨"com/example/cutline/cutline/IndexSet", "add", "(I)Z"⟩ : MethodName) (head1 (Jvm.Cond.code (⟨"com/example/cutline/cutline/IndexSet", "add", "(I)Z"⟩ : MethodName) prog_16_method_4_code 5 (some .boolean) :: ws) ({ frames := 0, cells := 0, slots := 0, locals := 0 } : Room)) (fun a U => a = #[(.ref ob), (.int i)] ∧ Z.Warmed39 U.vm ∧ U.heap = h0) (fun _ _ _ _ _ => True) (fun _ U o U' => ∃ v L, o = .returned v ∧ Q5 Z ob i aw au cap sz nw w nu u h0 n0 v U'.heap L ∧ FrameEnd U o U' L ({ frames := 0, cells := 0, slots := 0, locals := 0 } : Room).cells ({ frames := 0, cells := 0, slots := 0, locals := 0 } : Room).slots) := by
  refine MetFree.of_bodySF (plainFor_of_name pn_3) hisR ?_
  intro p e s m args below meth c s₁ Bd hml0 hP hK
  obtain ⟨rfl, hZ, hh⟩ := hP
  have hx := Bd.exec
  have hby := Bd.bytes
  have hml : c.maxLocals = 5 := hml0
  have hown : s.vm.findClass "com/example/cutline/cutline/IndexSet" = some m.cls := findClass_of_methodNamed Bd.named
  have hnm := (name_of_methodNamed Bd.named Bd.method).1
  have X0 : Stand p l e ({ frames := 0, cells := 0, slots := 0, locals := 0 } : Room) s m #[(.ref ob), (.int i)] below meth c s₁ [] 0 0 := Stand.of_body Bd
  have e0 : s₁.heap = h0 := by rw [← hh, Bd.state]; rfl
  have N0 := Fr.nil n0
  have pre0 : ∀ t, Steps p.tables e below (s₁.setTop (mkF m 0 #[.val (.ref ob), .val (.int i), .unset, .unset, .unset] [])) t → Steps p.tables e below (s₁.setTop (entryFrame m #[(.ref ob), (.int i)] 5)) t := fun t k => castTop (ef_5 m ob i) k
  obtain ⟨k1_0, k1_1, k1_2, k1_3, k1_4, k1_5, k1_6, k1_g_ob, k1_g_aw, k1_g_au, k1_n_ob_aw, k1_n_ob_au, k1_n_aw_au, k1_sz⟩ := I0
  obtain ⟨T2, X2, e2, st2⟩ := getF X0 hx hZ hown (host := "") (Or.inl (hw _ (List.mem_of_getElem? (i := 20) rfl))) Via.refl e0 k1_2 (g := (mkF m 10 #[.val (.ref ob), .val (.int i), .val (.int (own_ix i)), .val (.long (own_bit i)), .second] [(.ref ob)])) rfl rfl (hb hby d5_10)
  have pre3 : ∀ t, Steps p.tables e below (T2.setTop (mkF m 19 #[.val (.ref ob), .val (.int i), .val (.int (own_ix i)), .val (.long (own_bit i)), .second] [(.int (lcmpW ((w (own_ix i)) &&& (own_bit i)) (0 : Int64)))])) t → Steps p.tables e below (s₁.setTop (entryFrame m #[(.ref ob), (.int i)] 5)) t := by
    intro t k
    refine pre0 t ?_
    show Steps p.tables e below (s₁.setTop (mkF m 0 #[.val (.ref ob), .val (.int i), .unset, .unset, .unset] [])) _
    refine XS.iloadN X0.here hx rfl (hb hby d5_0) rfl ?_
    show Steps p.tables e below (s₁.setTop (mkF m 1 #[.val (.ref ob), .val (.int i), .unset, .unset, .unset] [(.int i)])) _
    refine XS.bipush X0.here hx rfl (hb hby d5_1) ?_
    show Steps p.tables e below (s₁.setTop (mkF m 3 #[.val (.ref ob), .val (.int i), .unset, .unset, .unset] [(.int (6 : Int32)), (.int i)])) _
    refine XS.iushr X0.here hx rfl (hb hby d5_3) rfl ?_
    show Steps p.tables e below (s₁.setTop (mkF m 4 #[.val (.ref ob), .val (.int i), .unset, .unset, .unset] [(.int ((i.toUInt32 >>> ((6 : Int32) &&& 31).toUInt32).toInt32))])) _
    refine XS.istoreN X0.here hx rfl (hb hby d5_4) rfl (l' := #[.val (.ref ob), .val (.int i), .val (.int (own_ix i)), .unset, .unset]) rfl ?_
    show Steps p.tables e below (s₁.setTop (mkF m 5 #[.val (.ref ob), .val (.int i), .val (.int (own_ix i)), .unset, .unset] [])) _
    refine XS.lconst X0.here hx rfl (hb hby d5_5) ?_
    show Steps p.tables e below (s₁.setTop (mkF m 6 #[.val (.ref ob), .val (.int i), .val (.int (own_ix i)), .unset, .unset] [(.long (1 : Int64))])) _
    refine XS.iloadN X0.here hx rfl (hb hby d5_6) rfl ?_
    show Steps p.tables e below (s₁.setTop (mkF m 7 #[.val (.ref ob), .val (.int i), .val (.int (own_ix i)), .unset, .unset] [(.int i), (.long (1 : Int64))])) _
    refine XS.lshl X0.here hx rfl (hb hby d5_7) rfl ?_
    show Steps p.tables e below (s₁.setTop (mkF m 8 #[.val (.ref ob), .val (.int i), .val (.int (own_ix i)), .unset, .unset] [(.long ((1 : Int64) <<< (i &&& 0x3f).toInt64))])) _
    refine XS.lstoreN X0.here hx rfl (hb hby d5_8) rfl (l' := #[.val (.ref ob), .val (.int i), .val (.int (own_ix i)), .val (.long (own_bit i)), .second]) rfl ?_
    show Steps p.tables e below (s₁.setTop (mkF m 9 #[.val (.ref ob), .val (.int i), .val (.int (own_ix i)), .val (.long (own_bit i)), .second] [])) _
    refine XS.aloadN X0.here hx rfl (hb hby d5_9) rfl rfl ?_
    show Steps p.tables e below (s₁.setTop (mkF m 10 #[.val (.ref ob), .val (.int i), .val (.int (own_ix i)), .val (.long (own_bit i)), .second] [(.ref ob)])) _
    refine st2 _ ?_
    show Steps p.tables e below (T2.setTop (mkF m 13 #[.val (.ref ob), .val (.int i), .val (.int (own_ix i)), .val (.long (own_bit i)), .second] [(.ref aw)])) _
    refine XS.iloadN X2.here hx rfl (hb hby d5_13) rfl ?_
    show Steps p.tables e below (T2.setTop (mkF m 14 #[.val (.ref ob), .val (.int i), .val (.int (own_ix i)), .val (.long (own_bit i)), .second] [(.int (own_ix i)), (.ref aw)])) _
    refine rdJ X2 hx hZ e2 k1_5 (j := (own_ix i)) hi rfl (g := (mkF m 14 #[.val (.ref ob), .val (.int i), .val (.int (own_ix i)), .val (.long (own_bit i)), .second] [(.int (own_ix i)), (.ref aw)])) rfl rfl (hb hby d5_14) _ ?_
    show Steps p.tables e below (T2.setTop (mkF m 15 #[.val (.ref ob), .val (.int i), .val (.int (own_ix i)), .val (.long (own_bit i)), .second] [(.long (w (own_ix i)))])) _
    refine XS.lloadN X2.here hx rfl (hb hby d5_15) rfl ?_
    show Steps p.tables e below (T2.setTop (mkF m 16 #[.val (.ref ob), .val (.int i), .val (.int (own_ix i)), .val (.long (own_bit i)), .second] [(.long (own_bit i)), (.long (w (own_ix i)))])) _
    refine XS.land X2.here hx rfl (hb hby d5_16) rfl ?_
    show Steps p.tables e below (T2.setTop (mkF m 17 #[.val (.ref ob), .val (.int i), .val (.int (own_ix i)), .val (.long (own_bit i)), .second] [(.long ((w (own_ix i)) &&& (own_bit i)))])) _
    refine XS.lconst X2.here hx rfl (hb hby d5_17) ?_
    show Steps p.tables e below (T2.setTop (mkF m 18 #[.val (.ref ob), .val (.int i), .val (.int (own_ix i)), .val (.long (own_bit i)), .second] [(.long (0 : Int64)), (.long ((w (own_ix i)) &&& (own_bit i)))])) _
    refine XS.lcmp X2.here hx rfl (hb hby d5_18) rfl ?_
    exact k
  by_cases hc4 : ((w (own_ix i)) &&& (own_bit i)) = (0 : Int64)
  ·
    obtain ⟨T5, X5, e5, st5⟩ := getF X2 hx hZ hown (host := "") (Or.inl (hw _ (List.mem_of_getElem? (i := 20) rfl))) Via.refl e2 k1_2 (g := (mkF m 25 #[.val (.ref ob), .val (.int i), .val (.int (own_ix i)), .val (.long (own_bit i)), .second] [(.ref ob)])) rfl rfl (hb hby d5_25)
    obtain ⟨T6, h6, X6, e6, W6, V6, st6⟩ := wrJ X5 hx hZ e5 k1_5 (j := (own_ix i)) hi  (g := (mkF m 33 #[.val (.ref ob), .val (.int i), .val (.int (own_ix i)), .val (.long (own_bit i)), .second] [(.long ((w (own_ix i)) ||| (own_bit i))), (.int (own_ix i)), (.ref aw)])) rfl rfl (hb hby d5_33)
    have Z6 : n0 ≤ h6.size := Nat.le_trans Z0 (Keep.of_wr W6).1
    have N6 := Fr.snoc X6 N0 k1_g_aw
    obtain ⟨T7, X7, e7, st7⟩ := getF X6 hx hZ hown (host := "") (Or.inl (hw _ (List.mem_of_getElem? (i := 22) rfl))) Via.refl e6 (k1_3.other W6 (Or.inl k1_n_ob_aw)) (g := (mkF m 35 #[.val (.ref ob), .val (.int i), .val (.int (own_ix i)), .val (.long (own_bit i)), .second] [(.ref ob)])) rfl rfl (hb hby d5_35)
    obtain ⟨T8, h8, X8, e8, W8, V8, st8⟩ := wrJ X7 hx hZ e7 (k1_6.other W6 (Ne.symm k1_n_aw_au)) (j := (own_ix (own_ix i))) hj  (g := (mkF m 48 #[.val (.ref ob), .val (.int i), .val (.int (own_ix i)), .val (.long (own_bit i)), .second] [(.long ((u (own_ix (own_ix i))) ||| (own_bit (own_ix i)))), (.int (own_ix (own_ix i))), (.ref au)])) rfl rfl (hb hby d5_48)
    have Z8 : n0 ≤ h8.size := Nat.le_trans Z6 (Keep.of_wr W8).1
    have N8 := Fr.snoc X8 N6 k1_g_au
    obtain ⟨T9, X9, e9, st9⟩ := getF X8 hx hZ hown (host := "") (Or.inl (hw _ (List.mem_of_getElem? (i := 29) rfl))) Via.refl e8 ((k1_4.other W6 (Or.inl k1_n_ob_aw)).other W8 (Or.inl k1_n_ob_au)) (g := (mkF m 51 #[.val (.ref ob), .val (.int i), .val (.int (own_ix i)), .val (.long (own_bit i)), .second] [(.ref ob), (.ref ob)])) rfl rfl (hb hby d5_51)
    obtain ⟨T10, h10, X10, e10, W10, st10⟩ := putF X9 hx hZ hown (host := "") (Or.inl (hw _ (List.mem_of_getElem? (i := 29) rfl))) Via.refl e9 ((k1_4.other W6 (Or.inl k1_n_ob_aw)).other W8 (Or.inl k1_n_ob_au)) ((k1_0.wr W6).wr W8) (Or.inl (hw _ (List.mem_of_getElem? (i := 30) rfl))) (hw _ (List.mem_of_getElem? (i := 9) rfl)) (ty := .int) (by decide) rfl rfl (g := (mkF m 56 #[.val (.ref ob), .val (.int i), .val (.int (own_ix i)), .val (.long (own_bit i)), .second] [(.int (sz + (1 : Int32))), (.ref ob)])) rfl rfl (hb hby d5_56)
    have f11 := (((k1_1.other W6 (Or.inl k1_n_ob_aw)).other W8 (Or.inl k1_n_ob_au)).other W10 (Or.inr (slot_ne (Or.inr (hw _ (List.mem_of_getElem? (i := 18) rfl))) (Or.inl (hw _ (List.mem_of_getElem? (i := 30) rfl))) (by decide) (t := .int) (t' := .int) (by decide) (by decide))))
    have f12 := (((k1_2.other W6 (Or.inl k1_n_ob_aw)).other W8 (Or.inl k1_n_ob_au)).other W10 (Or.inr (slot_ne (Or.inr (hw _ (List.mem_of_getElem? (i := 21) rfl))) (Or.inl (hw _ (List.mem_of_getElem? (i := 30) rfl))) (by decide) (t := (.array .long)) (t' := .int) (by decide) (by decide))))
    have f13 := (((k1_3.other W6 (Or.inl k1_n_ob_aw)).other W8 (Or.inl k1_n_ob_au)).other W10 (Or.inr (slot_ne (Or.inr (hw _ (List.mem_of_getElem? (i := 23) rfl))) (Or.inl (hw _ (List.mem_of_getElem? (i := 30) rfl))) (by decide) (t := (.array .long)) (t' := .int) (by decide) (by decide))))
    have Z10 : n0 ≤ h10.size := Nat.le_trans Z8 (Keep.of_wr W10).1
    have N10 := Fr.snoc X10 N8 k1_g_ob
    have pre14 : ∀ t, Steps p.tables e below (T10.setTop (mkF m 60 #[.val (.ref ob), .val (.int i), .val (.int (own_ix i)), .val (.long (own_bit i)), .second] [(.int (1 : Int32))])) t → Steps p.tables e below (s₁.setTop (entryFrame m #[(.ref ob), (.int i)] 5)) t := by
      intro t k
      refine pre3 t ?_
      show Steps p.tables e below (T2.setTop (mkF m 19 #[.val (.ref ob), .val (.int i), .val (.int (own_ix i)), .val (.long (own_bit i)), .second] [(.int (lcmpW ((w (own_ix i)) &&& (own_bit i)) (0 : Int64)))])) _
      refine XS.ifYes X2.here hx rfl (pc0 := 19) (pc' := 24) rfl (hb hby d5_19) rfl ((if0 _ _).trans (teq ((lw_eq _ _).mpr hc4)).1) (by decide) (by decide) ?_
      show Steps p.tables e below (T2.setTop (mkF m 24 #[.val (.ref ob), .val (.int i), .val (.int (own_ix i)), .val (.long (own_bit i)), .second] [])) _
      refine XS.aloadN X2.here hx rfl (hb hby d5_24) rfl rfl ?_
      show Steps p.tables e below (T2.setTop (mkF m 25 #[.val (.ref ob), .val (.int i), .val (.int (own_ix i)), .val (.long (own_bit i)), .second] [(.ref ob)])) _
      refine st5 _ ?_
      show Steps p.tables e below (T5.setTop (mkF m 28 #[.val (.ref ob), .val (.int i), .val (.int (own_ix i)), .val (.long (own_bit i)), .second] [(.ref aw)])) _
      refine XS.iloadN X5.here hx rfl (hb hby d5_28) rfl ?_
      show Steps p.tables e below (T5.setTop (mkF m 29 #[.val (.ref ob), .val (.int i), .val (.int (own_ix i)), .val (.long (own_bit i)), .second] [(.int (own_ix i)), (.ref aw)])) _
      refine Jvm.Free.XT.dup2 X5.here hx rfl (hb hby d5_29) rfl rfl rfl ?_
      show Steps p.tables e below (T5.setTop (mkF m 30 #[.val (.ref ob), .val (.int i), .val (.int (own_ix i)), .val (.long (own_bit i)), .second] [(.int (own_ix i)), (.ref aw), (.int (own_ix i)), (.ref aw)])) _
      refine rdJ X5 hx hZ e5 k1_5 (j := (own_ix i)) hi rfl (g := (mkF m 30 #[.val (.ref ob), .val (.int i), .val (.int (own_ix i)), .val (.long (own_bit i)), .second] [(.int (own_ix i)), (.ref aw), (.int (own_ix i)), (.ref aw)])) rfl rfl (hb hby d5_30) _ ?_
      show Steps p.tables e below (T5.setTop (mkF m 31 #[.val (.ref ob), .val (.int i), .val (.int (own_ix i)), .val (.long (own_bit i)), .second] [(.long (w (own_ix i))), (.int (own_ix i)), (.ref aw)])) _
      refine XS.lloadN X5.here hx rfl (hb hby d5_31) rfl ?_
      show Steps p.tables e below (T5.setTop (mkF m 32 #[.val (.ref ob), .val (.int i), .val (.int (own_ix i)), .val (.long (own_bit i)), .second] [(.long (own_bit i)), (.long (w (own_ix i))), (.int (own_ix i)), (.ref aw)])) _
      refine XS.lor X5.here hx rfl (hb hby d5_32) rfl ?_
      show Steps p.tables e below (T5.setTop (mkF m 33 #[.val (.ref ob), .val (.int i), .val (.int (own_ix i)), .val (.long (own_bit i)), .second] [(.long ((w (own_ix i)) ||| (own_bit i))), (.int (own_ix i)), (.ref aw)])) _
      refine st6 _ ?_
      show Steps p.tables e below (T6.setTop (mkF m 34 #[.val (.ref ob), .val (.int i), .val (.int (own_ix i)), .val (.long (own_bit i)), .second] [])) _
      refine XS.aloadN X6.here hx rfl (hb hby d5_34) rfl rfl ?_
      show Steps p.tables e below (T6.setTop (mkF m 35 #[.val (.ref ob), .val (.int i), .val (.int (own_ix i)), .val (.long (own_bit i)), .second] [(.ref ob)])) _
      refine st7 _ ?_
      show Steps p.tables e below (T7.setTop (mkF m 38 #[.val (.ref ob), .val (.int i), .val (.int (own_ix i)), .val (.long (own_bit i)), .second] [(.ref au)])) _
      refine XS.iloadN X7.here hx rfl (hb hby d5_38) rfl ?_
      show Steps p.tables e below (T7.setTop (mkF m 39 #[.val (.ref ob), .val (.int i), .val (.int (own_ix i)), .val (.long (own_bit i)), .second] [(.int (own_ix i)), (.ref au)])) _
      refine XS.bipush X7.here hx rfl (hb hby d5_39) ?_
      show Steps p.tables e below (T7.setTop (mkF m 41 #[.val (.ref ob), .val (.int i), .val (.int (own_ix i)), .val (.long (own_bit i)), .second] [(.int (6 : Int32)), (.int (own_ix i)), (.ref au)])) _
      refine XS.iushr X7.here hx rfl (hb hby d5_41) rfl ?_
      show Steps p.tables e below (T7.setTop (mkF m 42 #[.val (.ref ob), .val (.int i), .val (.int (own_ix i)), .val (.long (own_bit i)), .second] [(.int (own_ix (own_ix i))), (.ref au)])) _
      refine Jvm.Free.XT.dup2 X7.here hx rfl (hb hby d5_42) rfl rfl rfl ?_
      show Steps p.tables e below (T7.setTop (mkF m 43 #[.val (.ref ob), .val (.int i), .val (.int (own_ix i)), .val (.long (own_bit i)), .second] [(.int (own_ix (own_ix i))), (.ref au), (.int (own_ix (own_ix i))), (.ref au)])) _
      refine rdJ X7 hx hZ e7 (k1_6.other W6 (Ne.symm k1_n_aw_au)) (j := (own_ix (own_ix i))) hj rfl (g := (mkF m 43 #[.val (.ref ob), .val (.int i), .val (.int (own_ix i)), .val (.long (own_bit i)), .second] [(.int (own_ix (own_ix i))), (.ref au), (.int (own_ix (own_ix i))), (.ref au)])) rfl rfl (hb hby d5_43) _ ?_
      show Steps p.tables e below (T7.setTop (mkF m 44 #[.val (.ref ob), .val (.int i), .val (.int (own_ix i)), .val (.long (own_bit i)), .second] [(.long (u (own_ix (own_ix i)))), (.int (own_ix (own_ix i))), (.ref au)])) _
      refine XS.lconst X7.here hx rfl (hb hby d5_44) ?_
      show Steps p.tables e below (T7.setTop (mkF m 45 #[.val (.ref ob), .val (.int i), .val (.int (own_ix i)), .val (.long (own_bit i)), .second] [(.long (1 : Int64)), (.long (u (own_ix (own_ix i)))), (.int (own_ix (own_ix i))), (.ref au)])) _
      refine XS.iloadN X7.here hx rfl (hb hby d5_45) rfl ?_
      show Steps p.tables e below (T7.setTop (mkF m 46 #[.val (.ref ob), .val (.int i), .val (.int (own_ix i)), .val (.long (own_bit i)), .second] [(.int (own_ix i)), (.long (1 : Int64)), (.long (u (own_ix (own_ix i)))), (.int (own_ix (own_ix i))), (.ref au)])) _
      refine XS.lshl X7.here hx rfl (hb hby d5_46) rfl ?_
      show Steps p.tables e below (T7.setTop (mkF m 47 #[.val (.ref ob), .val (.int i), .val (.int (own_ix i)), .val (.long (own_bit i)), .second] [(.long (own_bit (own_ix i))), (.long (u (own_ix (own_ix i)))), (.int (own_ix (own_ix i))), (.ref au)])) _
      refine XS.lor X7.here hx rfl (hb hby d5_47) rfl ?_
      show Steps p.tables e below (T7.setTop (mkF m 48 #[.val (.ref ob), .val (.int i), .val (.int (own_ix i)), .val (.long (own_bit i)), .second] [(.long ((u (own_ix (own_ix i))) ||| (own_bit (own_ix i)))), (.int (own_ix (own_ix i))), (.ref au)])) _
      refine st8 _ ?_
      show Steps p.tables e below (T8.setTop (mkF m 49 #[.val (.ref ob), .val (.int i), .val (.int (own_ix i)), .val (.long (own_bit i)), .second] [])) _
      refine XS.aloadN X8.here hx rfl (hb hby d5_49) rfl rfl ?_
      show Steps p.tables e below (T8.setTop (mkF m 50 #[.val (.ref ob), .val (.int i), .val (.int (own_ix i)), .val (.long (own_bit i)), .second] [(.ref ob)])) _
      refine XS.dup X8.here hx rfl (hb hby d5_50) rfl rfl ?_
      show Steps p.tables e below (T8.setTop (mkF m 51 #[.val (.ref ob), .val (.int i), .val (.int (own_ix i)), .val (.long (own_bit i)), .second] [(.ref ob), (.ref ob)])) _
      refine st9 _ ?_
      show Steps p.tables e below (T9.setTop (mkF m 54 #[.val (.ref ob), .val (.int i), .val (.int (own_ix i)), .val (.long (own_bit i)), .second] [(.int sz), (.ref ob)])) _
      refine XS.iconst X9.here hx rfl (hb hby d5_54) ?_
      show Steps p.tables e below (T9.setTop (mkF m 55 #[.val (.ref ob), .val (.int i), .val (.int (own_ix i)), .val (.long (own_bit i)), .second] [(.int (1 : Int32)), (.int sz), (.ref ob)])) _
      refine XS.iadd X9.here hx rfl (hb hby d5_55) rfl ?_
      show Steps p.tables e below (T9.setTop (mkF m 56 #[.val (.ref ob), .val (.int i), .val (.int (own_ix i)), .val (.long (own_bit i)), .second] [(.int (sz + (1 : Int32))), (.ref ob)])) _
      refine st10 _ ?_
      show Steps p.tables e below (T10.setTop (mkF m 59 #[.val (.ref ob), .val (.int i), .val (.int (own_ix i)), .val (.long (own_bit i)), .second] [])) _
      refine XS.iconst X10.here hx rfl (hb hby d5_59) ?_
      exact k
    obtain ⟨fs, hr, hrun, hended, hW, hsame⟩ := X10.leave (v := some (.int (b2i (Fadd i w)))) (fun h => by rw [Bd.returns] at h; cases h) (BodyLoose.notSynchronized Bd)
    refine ⟨_, _, pre14 _ ?_, hrun, hended, _, _, rfl, ?_, ⟨_, rfl⟩, hW, hsame.mono (by decide) (by decide)⟩
    · show Steps p.tables e below (T10.setTop (mkF m 60 #[.val (.ref ob), .val (.int i), .val (.int (own_ix i)), .val (.long (own_bit i)), .second] [(.int (1 : Int32))])) _
      have hr2 := hr
      rw [(show (Fadd i w) = true from ((if_pos hc4).trans rfl))] at hr2
      exact retN X10 hx (t := .boolean) Bd.returns (by simp) (hb hby d5_60) hr2
    · show Q5 Z ob i aw au cap sz nw w nu u h0 n0 _ T10.heap _
      rw [e10]
      exact ⟨rfl, N10, ⟨(((k1_0.wr W6).wr W8).wr W10), f11, f12, f13, (by rw [(show (Fadd_sz i sz w) = (sz + (1 : Int32)) from ((if_pos hc4).trans rfl))]; exact (((k1_4.other W6 (Or.inl k1_n_ob_aw)).other W8 (Or.inl k1_n_ob_au)).same W10)), (by rw [(show (Fadd_w i w) = (@upA Int64 w (own_ix i) ((w (own_ix i)) ||| (own_bit i))) from ((if_pos hc4).trans rfl))]; exact ((V6.other W8 k1_n_aw_au).other W10 (Ne.symm k1_n_ob_aw))), (by rw [(show (Fadd_u i w u) = (@upA Int64 u (own_ix (own_ix i)) ((u (own_ix (own_ix i))) ||| (own_bit (own_ix i)))) from ((if_pos hc4).trans rfl))]; exact (V8.other W10 (Ne.symm k1_n_ob_au))), k1_g_ob, k1_g_aw, k1_g_au, k1_n_ob_aw, k1_n_ob_au, k1_n_aw_au, Z10⟩⟩
  ·
    have pre15 : ∀ t, Steps p.tables e below (T2.setTop (mkF m 23 #[.val (.ref ob), .val (.int i), .val (.int (own_ix i)), .val (.long (own_bit i)), .second] [(.int (0 : Int32))])) t → Steps p.tables e below (s₁.setTop (entryFrame m #[(.ref ob), (.int i)] 5)) t := by
      intro t k
      refine pre3 t ?_
      show Steps p.tables e below (T2.setTop (mkF m 19 #[.val (.ref ob), .val (.int i), .val (.int (own_ix i)), .val (.long (own_bit i)), .second] [(.int (lcmpW ((w (own_ix i)) &&& (own_bit i)) (0 : Int64)))])) _
      refine XS.ifNo X2.here hx rfl (hb hby d5_19) rfl ((if0 _ _).trans (feq (fun q => hc4 ((lw_eq _ _).mp q))).1) ?_
      show Steps p.tables e below (T2.setTop (mkF m 22 #[.val (.ref ob), .val (.int i), .val (.int (own_ix i)), .val (.long (own_bit i)), .second] [])) _
      refine XS.iconst X2.here hx rfl (hb hby d5_22) ?_
      exact k
    obtain ⟨fs, hr, hrun, hended, hW, hsame⟩ := X2.leave (v := some (.int (b2i (Fadd i w)))) (fun h => by rw [Bd.returns] at h; cases h) (BodyLoose.notSynchronized Bd)
    refine ⟨_, _, pre15 _ ?_, hrun, hended, _, _, rfl, ?_, ⟨_, rfl⟩, hW, hsame.mono (by decide) (by decide)⟩
    · show Steps p.tables e below (T2.setTop (mkF m 23 #[.val (.ref ob), .val (.int i), .val (.int (own_ix i)), .val (.long (own_bit i)), .second] [(.int (0 : Int32))])) _
      have hr2 := hr
      rw [(show (Fadd i w) = false from ((if_neg hc4).trans rfl))] at hr2
      exact retN X2 hx (t := .boolean) Bd.returns (by simp) (hb hby d5_23) hr2
    · show Q5 Z ob i aw au cap sz nw w nu u h0 n0 _ T2.heap _
      rw [e2]
      exact ⟨rfl, N0, ⟨k1_0, k1_1, k1_2, k1_3, (by rw [(show (Fadd_sz i sz w) = sz from ((if_neg hc4).trans rfl))]; exact k1_4), (by rw [(show (Fadd_w i w) = w from ((if_neg hc4).trans rfl))]; exact k1_5), (by rw [(show (Fadd_u i w u) = u from ((if_neg hc4).trans rfl))]; exact k1_6), k1_g_ob, k1_g_aw, k1_g_au, k1_n_ob_aw, k1_n_ob_au, k1_n_aw_au, Z0⟩⟩
theorem d6_0 : decode prog_16_method_2_code 0 = .ok (.aload_n 0, 1) := by decide +kernel
theorem d6_1 : decode prog_16_method_2_code 1 = .ok (.getfield 20, 3) := by decide +kernel
theorem d6_4 : decode prog_16_method_2_code 4 = .ok (.ireturn, 1) := by decide +kernel
theorem ef_6 (m : MethodId) (x0 : Addr) : entryFrame m #[(.ref x0)] 1 = mkF m 0 #[.val (.ref x0)] [] := by first | (simp [entryFrame, mkF, argsToLocals, Value.category]; done) | rfl
def Fsize (sz : Int32) : Int32 := sz
def Q6 (Z : State) (ob : Addr) (aw : Addr) (au : Addr) (cap : Int32) (sz : Int32) (nw : Int32) (w : Int32 → Int64) (nu : Int32) (u : Int32 → Int64) (h0 : Heap) (n0 : Nat) (v : Option Value) (h : Heap) (L : List Loc) : Prop := v = some (.int (Fsize sz)) ∧ Fr n0 L ∧ h = h0
set_option maxRecDepth 65536 in
set_option maxHeartbeats 40000000 in
theorem rm6 (l : Launch) (Z : State) (a0 : Array Value) (hw : ∀ d ∈ tables_1, d.before a0 Z = true) (ws : List Jvm.Cond) (ob : Addr) (aw : Addr) (au : Addr) (cap : Int32) (sz : Int32) (nw : Int32) (w : Int32 → Int64) (nu : Int32) (u : Int32 → Int64) (h0 : Heap) (n0 : Nat) (Z0 : n0 ≤ h0.size) (I0 : IS Z h0 n0 ob aw au cap sz nw w nu u) :
    MetFree l (⟨"com/example/cutline/cutline/IndexSet", "size", "()I"⟩ : MethodName) (head1 (Jvm.Cond.code (⟨"com/example/cutline/cutline/IndexSet", "size", "()I"⟩ : MethodName) prog_16_method_2_code 1 (some .int) :: ws) ({ frames := 0, cells := 0, slots := 0, locals := 0 } : Room)) (fun a U => a = #[(.ref ob)] ∧ Z.Warmed39 U.vm ∧ U.heap = h0) (fun _ _ _ _ _ => True) (fun _ U o U' => ∃ v L, o = .returned v ∧ Q6 Z ob aw au cap sz nw w nu u h0 n0 v U'.heap L ∧ FrameEnd U o U' L ({ frames := 0, cells := 0, slots := 0, locals := 0 } : Room).cells ({ frames := 0, cells := 0, slots := 0, locals := 0 } : Room).slots) := by
  refine MetFree.of_bodySF (plainFor_of_name pn_3) hisR ?_
  intro p e s m args below meth c s₁ Bd hml0 hP hK
  obtain ⟨rfl, hZ, hh⟩ := hP
  have hx := Bd.exec
  have hby := Bd.bytes
  have hml : c.maxLocals = 1 := hml0
  have hown : s.vm.findClass "com/example/cutline/cutline/IndexSet" = some m.cls := findClass_of_methodNamed Bd.named
  have hnm := (name_of_methodNamed Bd.named Bd.method).1
  have X0 : Stand p l e ({ frames := 0, cells := 0, slots := 0, locals := 0 } : Room) s m #[(.ref ob)] below meth c s₁ [] 0 0 := Stand.of_body Bd
  have e0 : s₁.heap = h0 := by rw [← hh, Bd.state]; rfl
  have N0 := Fr.nil n0
  have pre0 : ∀ t, Steps p.tables e below (s₁.setTop (mkF m 0 #[.val (.ref ob)] [])) t → Steps p.tables e below (s₁.setTop (entryFrame m #[(.ref ob)] 1)) t := fun t k => castTop (ef_6 m ob) k
  obtain ⟨k1_0, k1_1, k1_2, k1_3, k1_4, k1_5, k1_6, k1_g_ob, k1_g_aw, k1_g_au, k1_n_ob_aw, k1_n_ob_au, k1_n_aw_au, k1_sz⟩ := I0
  obtain ⟨T2, X2, e2, st2⟩ := getF X0 hx hZ hown (host := "") (Or.inl (hw _ (List.mem_of_getElem? (i := 29) rfl))) Via.refl e0 k1_4 (g := (mkF m 1 #[.val (.ref ob)] [(.ref ob)])) rfl rfl (hb hby d6_1)
  have pre3 : ∀ t, Steps p.tables e below (T2.setTop (mkF m 4 #[.val (.ref ob)] [(.int sz)])) t → Steps p.tables e below (s₁.setTop (entryFrame m #[(.ref ob)] 1)) t := by
    intro t k
    refine pre0 t ?_
    show Steps p.tables e below (s₁.setTop (mkF m 0 #[.val (.ref ob)] [])) _
    refine XS.aloadN X0.here hx rfl (hb hby d6_0) rfl rfl ?_
    show Steps p.tables e below (s₁.setTop (mkF m 1 #[.val (.ref ob)] [(.ref ob)])) _
    refine st2 _ ?_
    exact k
  obtain ⟨fs, hr, hrun, hended, hW, hsame⟩ := X2.leave (v := some (.int (Fsize sz))) (fun h => by rw [Bd.returns] at h; cases h) (BodyLoose.notSynchronized Bd)
  refine ⟨_, _, pre3 _ ?_, hrun, hended, _, _, rfl, ?_, ⟨_, rfl⟩, hW, hsame.mono (by decide) (by decide)⟩
  · show Steps p.tables e below (T2.setTop (mkF m 4 #[.val (.ref ob)] [(.int sz)])) _
    have hr2 := hr
    rw [(show (Fsize sz) = sz from rfl)] at hr2
    exact retI X2 hx Bd.returns (hb hby d6_4) hr2
  · show Q6 Z ob aw au cap sz nw w nu u h0 n0 _ T2.heap _
    rw [e2]
    exact ⟨rfl, N0, rfl⟩
theorem d10_0 : decode prog_16_method_3_code 0 = .ok (.aload_n 0, 1) := by decide +kernel
theorem d10_1 : decode prog_16_method_3_code 1 = .ok (.getfield 13, 3) := by decide +kernel
theorem d10_4 : decode prog_16_method_3_code 4 = .ok (.iload_n 1, 1) := by decide +kernel
theorem d10_5 : decode prog_16_method_3_code 5 = .ok (.bipush 6, 2) := by decide +kernel
theorem d10_7 : decode prog_16_method_3_code 7 = .ok (.iushr, 1) := by decide +kernel
theorem d10_8 : decode prog_16_method_3_code 8 = .ok (.laload, 1) := by decide +kernel
theorem d10_9 : decode prog_16_method_3_code 9 = .ok (.lconst 1, 1) := by decide +kernel
theorem d10_10 : decode prog_16_method_3_code 10 = .ok (.iload_n 1, 1) := by decide +kernel
theorem d10_11 : decode prog_16_method_3_code 11 = .ok (.lshl, 1) := by decide +kernel
theorem d10_12 : decode prog_16_method_3_code 12 = .ok (.land, 1) := by decide +kernel
theorem d10_13 : decode prog_16_method_3_code 13 = .ok (.lconst 0, 1) := by decide +kernel
theorem d10_14 : decode prog_16_method_3_code 14 = .ok (.lcmp, 1) := by decide +kernel
theorem d10_15 : decode prog_16_method_3_code 15 = .ok (.ifCond .eq 7, 3) := by decide +kernel
theorem d10_18 : decode prog_16_method_3_code 18 = .ok (.iconst 1, 1) := by decide +kernel
theorem d10_19 : decode prog_16_method_3_code 19 = .ok (.goto 4, 3) := by decide +kernel
theorem d10_22 : decode prog_16_method_3_code 22 = .ok (.iconst 0, 1) := by decide +kernel
theorem d10_23 : decode prog_16_method_3_code 23 = .ok (.ireturn, 1) := by decide +kernel
theorem ef_10 (m : MethodId) (x0 : Addr) (x1 : Int32) : entryFrame m #[(.ref x0), (.int x1)] 2 = mkF m 0 #[.val (.ref x0), .val (.int x1)] [] := by first | (simp [entryFrame, mkF, argsToLocals, Value.category]; done) | rfl
def Fcon (i : Int32) (w : Int32 → Int64) : Bool := (if ((w (own_ix i)) &&& (own_bit i)) = (0 : Int64) then false else true)
def Q10 (Z : State) (ob : Addr) (i : Int32) (aw : Addr) (au : Addr) (cap : Int32) (sz : Int32) (nw : Int32) (w : Int32 → Int64) (nu : Int32) (u : Int32 → Int64) (h0 : Heap) (n0 : Nat) (v : Option Value) (h : Heap) (L : List Loc) : Prop := v = some (.int (b2i (Fcon i w))) ∧ Fr n0 L ∧ h = h0
set_option maxRecDepth 65536 in
set_option maxHeartbeats 40000000 in
theorem rm10 (l : Launch) (Z : State) (a0 : Array Value) (hw : ∀ d ∈ tables_1, d.before a0 Z = true) (ws : List Jvm.Cond) (ob : Addr) (i : Int32) (aw : Addr) (au : Addr) (cap : Int32) (sz : Int32) (nw : Int32) (w : Int32 → Int64) (nu : Int32) (u : Int32 → Int64) (h0 : Heap) (n0 : Nat) (Z0 : n0 ≤ h0.size) (I0 : IS Z h0 n0 ob aw au cap sz nw w nu u) (hi : ¬ (own_ix i) < 0 ∧ (own_ix i) < nw) :
    MetFree l (⟨"com/example/cutline/cutline/IndexSet", "contains", "(I)Z"⟩ : MethodName) (head1 (Jvm.Cond.code (⟨"com/example/cutline/cutline/IndexSet", "contains", "(I)Z"⟩ : MethodName) prog_16_method_3_code 2 (some .boolean) :: ws) ({ frames := 0, cells := 0, slots := 0, locals := 0 } : Room)) (fun a U => a = #[(.ref ob), (.int i)] ∧ Z.Warmed39 U.vm ∧ U.heap = h0) (fun _ _ _ _ _ => True) (fun _ U o U' => ∃ v L, o = .returned v ∧ Q10 Z ob i aw au cap sz nw w nu u h0 n0 v U'.heap L ∧ FrameEnd U o U' L ({ frames := 0, cells := 0, slots := 0, locals := 0 } : Room).cells ({ frames := 0, cells := 0, slots := 0, locals := 0 } : Room).slots) := by
  refine MetFree.of_bodySF (plainFor_of_name pn_3) hisR ?_
  intro p e s m args below meth c s₁ Bd hml0 hP hK
  obtain ⟨rfl, hZ, hh⟩ := hP
  have hx := Bd.exec
  have hby := Bd.bytes
  have hml : c.maxLocals = 2 := hml0
  have hown : s.vm.findClass "com/example/cutline/cutline/IndexSet" = some m.cls := findClass_of_methodNamed Bd.named
  have hnm := (name_of_methodNamed Bd.named Bd.method).1
  have X0 : Stand p l e ({ frames := 0, cells := 0, slots := 0, locals := 0 } : Room) s m #[(.ref ob), (.int i)] below meth c s₁ [] 0 0 := Stand.of_body Bd
  have e0 : s₁.heap = h0 := by rw [← hh, Bd.state]; rfl
  have N0 := Fr.nil n0
  have pre0 : ∀ t, Steps p.tables e below (s₁.setTop (mkF m 0 #[.val (.ref ob), .val (.int i)] [])) t → Steps p.tables e below (s₁.setTop (entryFrame m #[(.ref ob), (.int i)] 2)) t := fun t k => castTop (ef_10 m ob i) k
  obtain ⟨k1_0, k1_1, k1_2, k1_3, k1_4, k1_5, k1_6, k1_g_ob, k1_g_aw, k1_g_au, k1_n_ob_aw, k1_n_ob_au, k1_n_aw_au, k1_sz⟩ := I0
  obtain ⟨T2, X2, e2, st2⟩ := getF X0 hx hZ hown (host := "") (Or.inl (hw _ (List.mem_of_getElem? (i := 20) rfl))) Via.refl e0 k1_2 (g := (mkF m 1 #[.val (.ref ob), .val (.int i)] [(.ref ob)])) rfl rfl (hb hby d10_1)
  have pre3 : ∀ t, Steps p.tables e below (T2.setTop (mkF m 15 #[.val (.ref ob), .val (.int i)] [(.int (lcmpW ((w (own_ix i)) &&& (own_bit i)) (0 : Int64)))])) t → Steps p.tables e below (s₁.setTop (entryFrame m #[(.ref ob), (.int i)] 2)) t := by
    intro t k
    refine pre0 t ?_
    show Steps p.tables e below (s₁.setTop (mkF m 0 #[.val (.ref ob), .val (.int i)] [])) _
    refine XS.aloadN X0.here hx rfl (hb hby d10_0) rfl rfl ?_
    show Steps p.tables e below (s₁.setTop (mkF m 1 #[.val (.ref ob), .val (.int i)] [(.ref ob)])) _
    refine st2 _ ?_
    show Steps p.tables e below (T2.setTop (mkF m 4 #[.val (.ref ob), .val (.int i)] [(.ref aw)])) _
    refine XS.iloadN X2.here hx rfl (hb hby d10_4) rfl ?_
    show Steps p.tables e below (T2.setTop (mkF m 5 #[.val (.ref ob), .val (.int i)] [(.int i), (.ref aw)])) _
    refine XS.bipush X2.here hx rfl (hb hby d10_5) ?_
    show Steps p.tables e below (T2.setTop (mkF m 7 #[.val (.ref ob), .val (.int i)] [(.int (6 : Int32)), (.int i), (.ref aw)])) _
    refine XS.iushr X2.here hx rfl (hb hby d10_7) rfl ?_
    show Steps p.tables e below (T2.setTop (mkF m 8 #[.val (.ref ob), .val (.int i)] [(.int (own_ix i)), (.ref aw)])) _
    refine rdJ X2 hx hZ e2 k1_5 (j := (own_ix i)) hi rfl (g := (mkF m 8 #[.val (.ref ob), .val (.int i)] [(.int (own_ix i)), (.ref aw)])) rfl rfl (hb hby d10_8) _ ?_
    show Steps p.tables e below (T2.setTop (mkF m 9 #[.val (.ref ob), .val (.int i)] [(.long (w (own_ix i)))])) _
    refine XS.lconst X2.here hx rfl (hb hby d10_9) ?_
    show Steps p.tables e below (T2.setTop (mkF m 10 #[.val (.ref ob), .val (.int i)] [(.long (1 : Int64)), (.long (w (own_ix i)))])) _
    refine XS.iloadN X2.here hx rfl (hb hby d10_10) rfl ?_
    show Steps p.tables e below (T2.setTop (mkF m 11 #[.val (.ref ob), .val (.int i)] [(.int i), (.long (1 : Int64)), (.long (w (own_ix i)))])) _
    refine XS.lshl X2.here hx rfl (hb hby d10_11) rfl ?_
    show Steps p.tables e below (T2.setTop (mkF m 12 #[.val (.ref ob), .val (.int i)] [(.long (own_bit i)), (.long (w (own_ix i)))])) _
    refine XS.land X2.here hx rfl (hb hby d10_12) rfl ?_
    show Steps p.tables e below (T2.setTop (mkF m 13 #[.val (.ref ob), .val (.int i)] [(.long ((w (own_ix i)) &&& (own_bit i)))])) _
    refine XS.lconst X2.here hx rfl (hb hby d10_13) ?_
    show Steps p.tables e below (T2.setTop (mkF m 14 #[.val (.ref ob), .val (.int i)] [(.long (0 : Int64)), (.long ((w (own_ix i)) &&& (own_bit i)))])) _
    refine XS.lcmp X2.here hx rfl (hb hby d10_14) rfl ?_
    exact k
  have pre4 : ∀ t, Steps p.tables e below (T2.setTop (mkF m 23 #[.val (.ref ob), .val (.int i)] [(.int (b2i (if ((w (own_ix i)) &&& (own_bit i)) = (0 : Int64) then false else true)))])) t → Steps p.tables e below (s₁.setTop (entryFrame m #[(.ref ob), (.int i)] 2)) t := by
    intro t k
    refine pre3 t ?_
    have k : ∀ (v1 : Bool), v1 = (if ((w (own_ix i)) &&& (own_bit i)) = (0 : Int64) then false else true) → Steps p.tables e below (T2.setTop (mkF m 23 #[.val (.ref ob), .val (.int i)] [(.int (b2i v1))])) t := fun v1 hv1 => by subst hv1; exact k
    show Steps p.tables e below (T2.setTop (mkF m 15 #[.val (.ref ob), .val (.int i)] [(.int (lcmpW ((w (own_ix i)) &&& (own_bit i)) (0 : Int64)))])) _
    by_cases hc5 : ((w (own_ix i)) &&& (own_bit i)) = (0 : Int64)
    · refine XS.ifYes X2.here hx rfl (pc0 := 15) (pc' := 22) rfl (hb hby d10_15) rfl ((if0 _ _).trans (teq ((lw_eq _ _).mpr hc5)).1) (by decide) (by decide) ?_
      have k : ∀ (v1 : Bool), v1 = false → Steps p.tables e below (T2.setTop (mkF m 23 #[.val (.ref ob), .val (.int i)] [(.int (b2i v1))])) t := fun v1 hv1 => k v1 (hv1.trans (if_pos hc5).symm)
      show Steps p.tables e below (T2.setTop (mkF m 22 #[.val (.ref ob), .val (.int i)] [])) _
      refine XS.iconst X2.here hx rfl (hb hby d10_22) ?_
      exact k false rfl
    · refine XS.ifNo X2.here hx rfl (hb hby d10_15) rfl ((if0 _ _).trans (feq (fun q => hc5 ((lw_eq _ _).mp q))).1) ?_
      have k : ∀ (v1 : Bool), v1 = true → Steps p.tables e below (T2.setTop (mkF m 23 #[.val (.ref ob), .val (.int i)] [(.int (b2i v1))])) t := fun v1 hv1 => k v1 (hv1.trans (if_neg hc5).symm)
      show Steps p.tables e below (T2.setTop (mkF m 18 #[.val (.ref ob), .val (.int i)] [])) _
      refine XS.iconst X2.here hx rfl (hb hby d10_18) ?_
      show Steps p.tables e below (T2.setTop (mkF m 19 #[.val (.ref ob), .val (.int i)] [(.int (1 : Int32))])) _
      refine XS.goto X2.here hx rfl (pc0 := 19) (pc' := 23) rfl (hb hby d10_19) (by decide) (by decide) ?_
      exact k true rfl
  obtain ⟨fs, hr, hrun, hended, hW, hsame⟩ := X2.leave (v := some (.int (b2i (Fcon i w)))) (fun h => by rw [Bd.returns] at h; cases h) (BodyLoose.notSynchronized Bd)
  refine ⟨_, _, pre4 _ ?_, hrun, hended, _, _, rfl, ?_, ⟨_, rfl⟩, hW, hsame.mono (by decide) (by decide)⟩
  · show Steps p.tables e below (T2.setTop (mkF m 23 #[.val (.ref ob), .val (.int i)] [(.int (b2i (if ((w (own_ix i)) &&& (own_bit i)) = (0 : Int64) then false else true)))])) _
    have hr2 := hr
    rw [(show (Fcon i w) = (if ((w (own_ix i)) &&& (own_bit i)) = (0 : Int64) then false else true) from rfl)] at hr2
    exact retN X2 hx (t := .boolean) Bd.returns (by simp) (hb hby d10_23) (by rw [nar_b2i]; exact hr2)
  · show Q10 Z ob i aw au cap sz nw w nu u h0 n0 _ T2.heap _
    rw [e2]
    exact ⟨rfl, N0, rfl⟩
theorem d9_0 : decode jdk_33_method_48_code 0 = .ok (.iload_n 0, 1) := by decide +kernel
theorem d9_1 : decode jdk_33_method_48_code 1 = .ok (.iconst (-1), 1) := by decide +kernel
theorem d9_2 : decode jdk_33_method_48_code 2 = .ok (.ixor, 1) := by decide +kernel
theorem d9_3 : decode jdk_33_method_48_code 3 = .ok (.iload_n 0, 1) := by decide +kernel
theorem d9_4 : decode jdk_33_method_48_code 4 = .ok (.iconst 1, 1) := by decide +kernel
theorem d9_5 : decode jdk_33_method_48_code 5 = .ok (.isub, 1) := by decide +kernel
theorem d9_6 : decode jdk_33_method_48_code 6 = .ok (.iand, 1) := by decide +kernel
theorem d9_7 : decode jdk_33_method_48_code 7 = .ok (.istore_n 0, 1) := by decide +kernel
theorem d9_8 : decode jdk_33_method_48_code 8 = .ok (.iload_n 0, 1) := by decide +kernel
theorem d9_9 : decode jdk_33_method_48_code 9 = .ok (.ifCond .gt 8, 3) := by decide +kernel
theorem d9_12 : decode jdk_33_method_48_code 12 = .ok (.iload_n 0, 1) := by decide +kernel
theorem d9_13 : decode jdk_33_method_48_code 13 = .ok (.bipush 32, 2) := by decide +kernel
theorem d9_15 : decode jdk_33_method_48_code 15 = .ok (.iand, 1) := by decide +kernel
theorem d9_16 : decode jdk_33_method_48_code 16 = .ok (.ireturn, 1) := by decide +kernel
theorem d9_17 : decode jdk_33_method_48_code 17 = .ok (.iconst 1, 1) := by decide +kernel
theorem d9_18 : decode jdk_33_method_48_code 18 = .ok (.istore_n 1, 1) := by decide +kernel
theorem d9_19 : decode jdk_33_method_48_code 19 = .ok (.iload_n 0, 1) := by decide +kernel
theorem d9_20 : decode jdk_33_method_48_code 20 = .ok (.ldc_w 264, 3) := by decide +kernel
theorem d9_23 : decode jdk_33_method_48_code 23 = .ok (.if_icmp .le 11, 3) := by decide +kernel
theorem d9_26 : decode jdk_33_method_48_code 26 = .ok (.iinc 1 16, 3) := by decide +kernel
theorem d9_29 : decode jdk_33_method_48_code 29 = .ok (.iload_n 0, 1) := by decide +kernel
theorem d9_30 : decode jdk_33_method_48_code 30 = .ok (.bipush 16, 2) := by decide +kernel
theorem d9_32 : decode jdk_33_method_48_code 32 = .ok (.iushr, 1) := by decide +kernel
theorem d9_33 : decode jdk_33_method_48_code 33 = .ok (.istore_n 0, 1) := by decide +kernel
theorem d9_34 : decode jdk_33_method_48_code 34 = .ok (.iload_n 0, 1) := by decide +kernel
theorem d9_35 : decode jdk_33_method_48_code 35 = .ok (.sipush 256, 3) := by decide +kernel
theorem d9_38 : decode jdk_33_method_48_code 38 = .ok (.if_icmp .le 11, 3) := by decide +kernel
theorem d9_41 : decode jdk_33_method_48_code 41 = .ok (.iinc 1 8, 3) := by decide +kernel
theorem d9_44 : decode jdk_33_method_48_code 44 = .ok (.iload_n 0, 1) := by decide +kernel
theorem d9_45 : decode jdk_33_method_48_code 45 = .ok (.bipush 8, 2) := by decide +kernel
theorem d9_47 : decode jdk_33_method_48_code 47 = .ok (.iushr, 1) := by decide +kernel
theorem d9_48 : decode jdk_33_method_48_code 48 = .ok (.istore_n 0, 1) := by decide +kernel
theorem d9_49 : decode jdk_33_method_48_code 49 = .ok (.iload_n 0, 1) := by decide +kernel
theorem d9_50 : decode jdk_33_method_48_code 50 = .ok (.bipush 16, 2) := by decide +kernel
theorem d9_52 : decode jdk_33_method_48_code 52 = .ok (.if_icmp .le 10, 3) := by decide +kernel
theorem d9_55 : decode jdk_33_method_48_code 55 = .ok (.iinc 1 4, 3) := by decide +kernel
theorem d9_58 : decode jdk_33_method_48_code 58 = .ok (.iload_n 0, 1) := by decide +kernel
theorem d9_59 : decode jdk_33_method_48_code 59 = .ok (.iconst 4, 1) := by decide +kernel
theorem d9_60 : decode jdk_33_method_48_code 60 = .ok (.iushr, 1) := by decide +kernel
theorem d9_61 : decode jdk_33_method_48_code 61 = .ok (.istore_n 0, 1) := by decide +kernel
theorem d9_62 : decode jdk_33_method_48_code 62 = .ok (.iload_n 0, 1) := by decide +kernel
theorem d9_63 : decode jdk_33_method_48_code 63 = .ok (.iconst 4, 1) := by decide +kernel
theorem d9_64 : decode jdk_33_method_48_code 64 = .ok (.if_icmp .le 10, 3) := by decide +kernel
theorem d9_67 : decode jdk_33_method_48_code 67 = .ok (.iinc 1 2, 3) := by decide +kernel
theorem d9_70 : decode jdk_33_method_48_code 70 = .ok (.iload_n 0, 1) := by decide +kernel
theorem d9_71 : decode jdk_33_method_48_code 71 = .ok (.iconst 2, 1) := by decide +kernel
theorem d9_72 : decode jdk_33_method_48_code 72 = .ok (.iushr, 1) := by decide +kernel
theorem d9_73 : decode jdk_33_method_48_code 73 = .ok (.istore_n 0, 1) := by decide +kernel
theorem d9_74 : decode jdk_33_method_48_code 74 = .ok (.iload_n 1, 1) := by decide +kernel
theorem d9_75 : decode jdk_33_method_48_code 75 = .ok (.iload_n 0, 1) := by decide +kernel
theorem d9_76 : decode jdk_33_method_48_code 76 = .ok (.iconst 1, 1) := by decide +kernel
theorem d9_77 : decode jdk_33_method_48_code 77 = .ok (.iushr, 1) := by decide +kernel
theorem d9_78 : decode jdk_33_method_48_code 78 = .ok (.iadd, 1) := by decide +kernel
theorem d9_79 : decode jdk_33_method_48_code 79 = .ok (.ireturn, 1) := by decide +kernel
theorem pn_9 : plainName "java/lang/Integer" = true := by first | (simp [plainName, overriddenIn]; done) | decide +kernel
theorem ef_9 (m : MethodId) (x0 : Int32) : entryFrame m #[(.int x0)] 2 = mkF m 0 #[.val (.int x0), .unset] [] := by first | (simp [entryFrame, mkF, argsToLocals, Value.category]; done) | rfl
def Fmask (xi : Int32) : Int32 := ((xi ^^^ (-1 : Int32)) &&& (xi - (1 : Int32)))
def Fntz (xi : Int32) : Int32 := (if (0 : Int32) < (Fmask xi) then (if (65536 : Int32) < (Fmask xi) then (if (256 : Int32) < (((Fmask xi).toUInt32 >>> ((16 : Int32) &&& 31).toUInt32).toInt32) then (if (16 : Int32) < (((((Fmask xi).toUInt32 >>> ((16 : Int32) &&& 31).toUInt32).toInt32).toUInt32 >>> ((8 : Int32) &&& 31).toUInt32).toInt32) then (if (4 : Int32) < (((((((Fmask xi).toUInt32 >>> ((16 : Int32) &&& 31).toUInt32).toInt32).toUInt32 >>> ((8 : Int32) &&& 31).toUInt32).toInt32).toUInt32 >>> ((4 : Int32) &&& 31).toUInt32).toInt32) then ((31 : Int32) + (((((((((((Fmask xi).toUInt32 >>> ((16 : Int32) &&& 31).toUInt32).toInt32).toUInt32 >>> ((8 : Int32) &&& 31).toUInt32).toInt32).toUInt32 >>> ((4 : Int32) &&& 31).toUInt32).toInt32).toUInt32 >>> ((2 : Int32) &&& 31).toUInt32).toInt32).toUInt32 >>> ((1 : Int32) &&& 31).toUInt32).toInt32)) else ((29 : Int32) + (((((((((Fmask xi).toUInt32 >>> ((16 : Int32) &&& 31).toUInt32).toInt32).toUInt32 >>> ((8 : Int32) &&& 31).toUInt32).toInt32).toUInt32 >>> ((4 : Int32) &&& 31).toUInt32).toInt32).toUInt32 >>> ((1 : Int32) &&& 31).toUInt32).toInt32))) else (if (4 : Int32) < (((((Fmask xi).toUInt32 >>> ((16 : Int32) &&& 31).toUInt32).toInt32).toUInt32 >>> ((8 : Int32) &&& 31).toUInt32).toInt32) then ((27 : Int32) + (((((((((Fmask xi).toUInt32 >>> ((16 : Int32) &&& 31).toUInt32).toInt32).toUInt32 >>> ((8 : Int32) &&& 31).toUInt32).toInt32).toUInt32 >>> ((2 : Int32) &&& 31).toUInt32).toInt32).toUInt32 >>> ((1 : Int32) &&& 31).toUInt32).toInt32)) else ((25 : Int32) + (((((((Fmask xi).toUInt32 >>> ((16 : Int32) &&& 31).toUInt32).toInt32).toUInt32 >>> ((8 : Int32) &&& 31).toUInt32).toInt32).toUInt32 >>> ((1 : Int32) &&& 31).toUInt32).toInt32)))) else (if (16 : Int32) < (((Fmask xi).toUInt32 >>> ((16 : Int32) &&& 31).toUInt32).toInt32) then (if (4 : Int32) < (((((Fmask xi).toUInt32 >>> ((16 : Int32) &&& 31).toUInt32).toInt32).toUInt32 >>> ((4 : Int32) &&& 31).toUInt32).toInt32) then ((23 : Int32) + (((((((((Fmask xi).toUInt32 >>> ((16 : Int32) &&& 31).toUInt32).toInt32).toUInt32 >>> ((4 : Int32) &&& 31).toUInt32).toInt32).toUInt32 >>> ((2 : Int32) &&& 31).toUInt32).toInt32).toUInt32 >>> ((1 : Int32) &&& 31).toUInt32).toInt32)) else ((21 : Int32) + (((((((Fmask xi).toUInt32 >>> ((16 : Int32) &&& 31).toUInt32).toInt32).toUInt32 >>> ((4 : Int32) &&& 31).toUInt32).toInt32).toUInt32 >>> ((1 : Int32) &&& 31).toUInt32).toInt32))) else (if (4 : Int32) < (((Fmask xi).toUInt32 >>> ((16 : Int32) &&& 31).toUInt32).toInt32) then ((19 : Int32) + (((((((Fmask xi).toUInt32 >>> ((16 : Int32) &&& 31).toUInt32).toInt32).toUInt32 >>> ((2 : Int32) &&& 31).toUInt32).toInt32).toUInt32 >>> ((1 : Int32) &&& 31).toUInt32).toInt32)) else ((17 : Int32) + (((((Fmask xi).toUInt32 >>> ((16 : Int32) &&& 31).toUInt32).toInt32).toUInt32 >>> ((1 : Int32) &&& 31).toUInt32).toInt32))))) else (if (256 : Int32) < (Fmask xi) then (if (16 : Int32) < (((Fmask xi).toUInt32 >>> ((8 : Int32) &&& 31).toUInt32).toInt32) then (if (4 : Int32) < (((((Fmask xi).toUInt32 >>> ((8 : Int32) &&& 31).toUInt32).toInt32).toUInt32 >>> ((4 : Int32) &&& 31).toUInt32).toInt32) then ((15 : Int32) + (((((((((Fmask xi).toUInt32 >>> ((8 : Int32) &&& 31).toUInt32).toInt32).toUInt32 >>> ((4 : Int32) &&& 31).toUInt32).toInt32).toUInt32 >>> ((2 : Int32) &&& 31).toUInt32).toInt32).toUInt32 >>> ((1 : Int32) &&& 31).toUInt32).toInt32)) else ((13 : Int32) + (((((((Fmask xi).toUInt32 >>> ((8 : Int32) &&& 31).toUInt32).toInt32).toUInt32 >>> ((4 : Int32) &&& 31).toUInt32).toInt32).toUInt32 >>> ((1 : Int32) &&& 31).toUInt32).toInt32))) else (if (4 : Int32) < (((Fmask xi).toUInt32 >>> ((8 : Int32) &&& 31).toUInt32).toInt32) then ((11 : Int32) + (((((((Fmask xi).toUInt32 >>> ((8 : Int32) &&& 31).toUInt32).toInt32).toUInt32 >>> ((2 : Int32) &&& 31).toUInt32).toInt32).toUInt32 >>> ((1 : Int32) &&& 31).toUInt32).toInt32)) else ((9 : Int32) + (((((Fmask xi).toUInt32 >>> ((8 : Int32) &&& 31).toUInt32).toInt32).toUInt32 >>> ((1 : Int32) &&& 31).toUInt32).toInt32)))) else (if (16 : Int32) < (Fmask xi) then (if (4 : Int32) < (((Fmask xi).toUInt32 >>> ((4 : Int32) &&& 31).toUInt32).toInt32) then ((7 : Int32) + (((((((Fmask xi).toUInt32 >>> ((4 : Int32) &&& 31).toUInt32).toInt32).toUInt32 >>> ((2 : Int32) &&& 31).toUInt32).toInt32).toUInt32 >>> ((1 : Int32) &&& 31).toUInt32).toInt32)) else ((5 : Int32) + (((((Fmask xi).toUInt32 >>> ((4 : Int32) &&& 31).toUInt32).toInt32).toUInt32 >>> ((1 : Int32) &&& 31).toUInt32).toInt32))) else (if (4 : Int32) < (Fmask xi) then ((3 : Int32) + (((((Fmask xi).toUInt32 >>> ((2 : Int32) &&& 31).toUInt32).toInt32).toUInt32 >>> ((1 : Int32) &&& 31).toUInt32).toInt32)) else ((1 : Int32) + (((Fmask xi).toUInt32 >>> ((1 : Int32) &&& 31).toUInt32).toInt32)))))) else ((Fmask xi) &&& (32 : Int32)))
def Q9 (Z : State) (xi : Int32) (h0 : Heap) (n0 : Nat) (v : Option Value) (h : Heap) (L : List Loc) : Prop := v = some (.int (Fntz xi)) ∧ Fr n0 L ∧ h = h0
set_option maxRecDepth 65536 in
set_option maxHeartbeats 40000000 in
theorem rm9 (l : Launch) (Z : State) (a0 : Array Value) (hw : ∀ d ∈ tables_1, d.before a0 Z = true) (ws : List Jvm.Cond) (xi : Int32) (h0 : Heap) (n0 : Nat) (Z0 : n0 ≤ h0.size) :
    MetFree l (⟨"java/lang/Integer", "numberOfTrailingZeros", "(I)I"⟩ : MethodName) (head1 (Jvm.Cond.code (⟨"java/lang/Integer", "numberOfTrailingZeros", "(I)I"⟩ : MethodName) jdk_33_method_48_code 2 (some .int) :: ws) ({ frames := 0, cells := 0, slots := 0, locals := 0 } : Room)) (fun a U => a = #[(.int xi)] ∧ Z.Warmed39 U.vm ∧ U.heap = h0) (fun _ _ _ _ _ => True) (fun _ U o U' => ∃ v L, o = .returned v ∧ Q9 Z xi h0 n0 v U'.heap L ∧ FrameEnd U o U' L ({ frames := 0, cells := 0, slots := 0, locals := 0 } : Room).cells ({ frames := 0, cells := 0, slots := 0, locals := 0 } : Room).slots) := by
  refine MetFree.of_bodySF (plainFor_of_name pn_9) hisR ?_
  intro p e s m args below meth c s₁ Bd hml0 hP hK
  obtain ⟨rfl, hZ, hh⟩ := hP
  have hx := Bd.exec
  have hby := Bd.bytes
  have hml : c.maxLocals = 2 := hml0
  have hown : s.vm.findClass "java/lang/Integer" = some m.cls := findClass_of_methodNamed Bd.named
  have hnm := (name_of_methodNamed Bd.named Bd.method).1
  have X0 : Stand p l e ({ frames := 0, cells := 0, slots := 0, locals := 0 } : Room) s m #[(.int xi)] below meth c s₁ [] 0 0 := Stand.of_body Bd
  have e0 : s₁.heap = h0 := by rw [← hh, Bd.state]; rfl
  have N0 := Fr.nil n0
  have pre0 : ∀ t, Steps p.tables e below (s₁.setTop (mkF m 0 #[.val (.int xi), .unset] [])) t → Steps p.tables e below (s₁.setTop (entryFrame m #[(.int xi)] 2)) t := fun t k => castTop (ef_9 m xi) k
  have pre1 : ∀ t, Steps p.tables e below (s₁.setTop (mkF m 9 #[.val (.int (Fmask xi)), .unset] [(.int (Fmask xi))])) t → Steps p.tables e below (s₁.setTop (entryFrame m #[(.int xi)] 2)) t := by
    intro t k
    refine pre0 t ?_
    show Steps p.tables e below (s₁.setTop (mkF m 0 #[.val (.int xi), .unset] [])) _
    refine XS.iloadN X0.here hx rfl (hb hby d9_0) rfl ?_
    show Steps p.tables e below (s₁.setTop (mkF m 1 #[.val (.int xi), .unset] [(.int xi)])) _
    refine XS.iconst X0.here hx rfl (hb hby d9_1) ?_
    show Steps p.tables e below (s₁.setTop (mkF m 2 #[.val (.int xi), .unset] [(.int (-1 : Int32)), (.int xi)])) _
    refine XS.ixor X0.here hx rfl (hb hby d9_2) rfl ?_
    show Steps p.tables e below (s₁.setTop (mkF m 3 #[.val (.int xi), .unset] [(.int (xi ^^^ (-1 : Int32)))])) _
    refine XS.iloadN X0.here hx rfl (hb hby d9_3) rfl ?_
    show Steps p.tables e below (s₁.setTop (mkF m 4 #[.val (.int xi), .unset] [(.int xi), (.int (xi ^^^ (-1 : Int32)))])) _
    refine XS.iconst X0.here hx rfl (hb hby d9_4) ?_
    show Steps p.tables e below (s₁.setTop (mkF m 5 #[.val (.int xi), .unset] [(.int (1 : Int32)), (.int xi), (.int (xi ^^^ (-1 : Int32)))])) _
    refine XS.isub X0.here hx rfl (hb hby d9_5) rfl ?_
    show Steps p.tables e below (s₁.setTop (mkF m 6 #[.val (.int xi), .unset] [(.int (xi - (1 : Int32))), (.int (xi ^^^ (-1 : Int32)))])) _
    refine XS.iand X0.here hx rfl (hb hby d9_6) rfl ?_
    show Steps p.tables e below (s₁.setTop (mkF m 7 #[.val (.int xi), .unset] [(.int ((xi ^^^ (-1 : Int32)) &&& (xi - (1 : Int32))))])) _
    refine XS.istoreN X0.here hx rfl (hb hby d9_7) rfl (l' := #[.val (.int (Fmask xi)), .unset]) rfl ?_
    show Steps p.tables e below (s₁.setTop (mkF m 8 #[.val (.int (Fmask xi)), .unset] [])) _
    refine XS.iloadN X0.here hx rfl (hb hby d9_8) rfl ?_
    exact k
  obtain ⟨fs, hr, hrun, hended, hW, hsame⟩ := X0.leave (v := some (.int (Fntz xi))) (fun h => by rw [Bd.returns] at h; cases h) (BodyLoose.notSynchronized Bd)
  refine ⟨_, _, pre1 _ ?_, hrun, hended, _, _, rfl, ?_, ⟨_, rfl⟩, hW, hsame.mono (by decide) (by decide)⟩
  · have k : ∀ (v1 : Int32), v1 = (if (0 : Int32) < (Fmask xi) then (if (65536 : Int32) < (Fmask xi) then (if (256 : Int32) < (((Fmask xi).toUInt32 >>> ((16 : Int32) &&& 31).toUInt32).toInt32) then (if (16 : Int32) < (((((Fmask xi).toUInt32 >>> ((16 : Int32) &&& 31).toUInt32).toInt32).toUInt32 >>> ((8 : Int32) &&& 31).toUInt32).toInt32) then (if (4 : Int32) < (((((((Fmask xi).toUInt32 >>> ((16 : Int32) &&& 31).toUInt32).toInt32).toUInt32 >>> ((8 : Int32) &&& 31).toUInt32).toInt32).toUInt32 >>> ((4 : Int32) &&& 31).toUInt32).toInt32) then ((31 : Int32) + (((((((((((Fmask xi).toUInt32 >>> ((16 : Int32) &&& 31).toUInt32).toInt32).toUInt32 >>> ((8 : Int32) &&& 31).toUInt32).toInt32).toUInt32 >>> ((4 : Int32) &&& 31).toUInt32).toInt32).toUInt32 >>> ((2 : Int32) &&& 31).toUInt32).toInt32).toUInt32 >>> ((1 : Int32) &&& 31).toUInt32).toInt32)) else ((29 : Int32) + (((((((((Fmask xi).toUInt32 >>> ((16 : Int32) &&& 31).toUInt32).toInt32).toUInt32 >>> ((8 : Int32) &&& 31).toUInt32).toInt32).toUInt32 >>> ((4 : Int32) &&& 31).toUInt32).toInt32).toUInt32 >>> ((1 : Int32) &&& 31).toUInt32).toInt32))) else (if (4 : Int32) < (((((Fmask xi).toUInt32 >>> ((16 : Int32) &&& 31).toUInt32).toInt32).toUInt32 >>> ((8 : Int32) &&& 31).toUInt32).toInt32) then ((27 : Int32) + (((((((((Fmask xi).toUInt32 >>> ((16 : Int32) &&& 31).toUInt32).toInt32).toUInt32 >>> ((8 : Int32) &&& 31).toUInt32).toInt32).toUInt32 >>> ((2 : Int32) &&& 31).toUInt32).toInt32).toUInt32 >>> ((1 : Int32) &&& 31).toUInt32).toInt32)) else ((25 : Int32) + (((((((Fmask xi).toUInt32 >>> ((16 : Int32) &&& 31).toUInt32).toInt32).toUInt32 >>> ((8 : Int32) &&& 31).toUInt32).toInt32).toUInt32 >>> ((1 : Int32) &&& 31).toUInt32).toInt32)))) else (if (16 : Int32) < (((Fmask xi).toUInt32 >>> ((16 : Int32) &&& 31).toUInt32).toInt32) then (if (4 : Int32) < (((((Fmask xi).toUInt32 >>> ((16 : Int32) &&& 31).toUInt32).toInt32).toUInt32 >>> ((4 : Int32) &&& 31).toUInt32).toInt32) then ((23 : Int32) + (((((((((Fmask xi).toUInt32 >>> ((16 : Int32) &&& 31).toUInt32).toInt32).toUInt32 >>> ((4 : Int32) &&& 31).toUInt32).toInt32).toUInt32 >>> ((2 : Int32) &&& 31).toUInt32).toInt32).toUInt32 >>> ((1 : Int32) &&& 31).toUInt32).toInt32)) else ((21 : Int32) + (((((((Fmask xi).toUInt32 >>> ((16 : Int32) &&& 31).toUInt32).toInt32).toUInt32 >>> ((4 : Int32) &&& 31).toUInt32).toInt32).toUInt32 >>> ((1 : Int32) &&& 31).toUInt32).toInt32))) else (if (4 : Int32) < (((Fmask xi).toUInt32 >>> ((16 : Int32) &&& 31).toUInt32).toInt32) then ((19 : Int32) + (((((((Fmask xi).toUInt32 >>> ((16 : Int32) &&& 31).toUInt32).toInt32).toUInt32 >>> ((2 : Int32) &&& 31).toUInt32).toInt32).toUInt32 >>> ((1 : Int32) &&& 31).toUInt32).toInt32)) else ((17 : Int32) + (((((Fmask xi).toUInt32 >>> ((16 : Int32) &&& 31).toUInt32).toInt32).toUInt32 >>> ((1 : Int32) &&& 31).toUInt32).toInt32))))) else (if (256 : Int32) < (Fmask xi) then (if (16 : Int32) < (((Fmask xi).toUInt32 >>> ((8 : Int32) &&& 31).toUInt32).toInt32) then (if (4 : Int32) < (((((Fmask xi).toUInt32 >>> ((8 : Int32) &&& 31).toUInt32).toInt32).toUInt32 >>> ((4 : Int32) &&& 31).toUInt32).toInt32) then ((15 : Int32) + (((((((((Fmask xi).toUInt32 >>> ((8 : Int32) &&& 31).toUInt32).toInt32).toUInt32 >>> ((4 : Int32) &&& 31).toUInt32).toInt32).toUInt32 >>> ((2 : Int32) &&& 31).toUInt32).toInt32).toUInt32 >>> ((1 : Int32) &&& 31).toUInt32).toInt32)) else ((13 : Int32) + (((((((Fmask xi).toUInt32 >>> ((8 : Int32) &&& 31).toUInt32).toInt32).toUInt32 >>> ((4 : Int32) &&& 31).toUInt32).toInt32).toUInt32 >>> ((1 : Int32) &&& 31).toUInt32).toInt32))) else (if (4 : Int32) < (((Fmask xi).toUInt32 >>> ((8 : Int32) &&& 31).toUInt32).toInt32) then ((11 : Int32) + (((((((Fmask xi).toUInt32 >>> ((8 : Int32) &&& 31).toUInt32).toInt32).toUInt32 >>> ((2 : Int32) &&& 31).toUInt32).toInt32).toUInt32 >>> ((1 : Int32) &&& 31).toUInt32).toInt32)) else ((9 : Int32) + (((((Fmask xi).toUInt32 >>> ((8 : Int32) &&& 31).toUInt32).toInt32).toUInt32 >>> ((1 : Int32) &&& 31).toUInt32).toInt32)))) else (if (16 : Int32) < (Fmask xi) then (if (4 : Int32) < (((Fmask xi).toUInt32 >>> ((4 : Int32) &&& 31).toUInt32).toInt32) then ((7 : Int32) + (((((((Fmask xi).toUInt32 >>> ((4 : Int32) &&& 31).toUInt32).toInt32).toUInt32 >>> ((2 : Int32) &&& 31).toUInt32).toInt32).toUInt32 >>> ((1 : Int32) &&& 31).toUInt32).toInt32)) else ((5 : Int32) + (((((Fmask xi).toUInt32 >>> ((4 : Int32) &&& 31).toUInt32).toInt32).toUInt32 >>> ((1 : Int32) &&& 31).toUInt32).toInt32))) else (if (4 : Int32) < (Fmask xi) then ((3 : Int32) + (((((Fmask xi).toUInt32 >>> ((2 : Int32) &&& 31).toUInt32).toInt32).toUInt32 >>> ((1 : Int32) &&& 31).toUInt32).toInt32)) else ((1 : Int32) + (((Fmask xi).toUInt32 >>> ((1 : Int32) &&& 31).toUInt32).toInt32)))))) else ((Fmask xi) &&& (32 : Int32))) → ∀ (f : JFrame) (acts : List Action), f.method = m → f.locked = none → f.entered = [] → (doReturn e (s₁.setTop f) acts (some (.int v1))).1 = s₁.setFrames fs := fun v1 hv1 => by subst hv1; exact hr
    show Steps p.tables e below (s₁.setTop (mkF m 9 #[.val (.int (Fmask xi)), .unset] [(.int (Fmask xi))])) _
    by_cases hc2 : (0 : Int32) < (Fmask xi)
    · refine XS.ifYes X0.here hx rfl (pc0 := 9) (pc' := 17) rfl (hb hby d9_9) rfl ((if0 _ _).trans (tlt hc2).2.2.1) (by decide) (by decide) ?_
      have k : ∀ (v1 : Int32), v1 = (if (65536 : Int32) < (Fmask xi) then (if (256 : Int32) < (((Fmask xi).toUInt32 >>> ((16 : Int32) &&& 31).toUInt32).toInt32) then (if (16 : Int32) < (((((Fmask xi).toUInt32 >>> ((16 : Int32) &&& 31).toUInt32).toInt32).toUInt32 >>> ((8 : Int32) &&& 31).toUInt32).toInt32) then (if (4 : Int32) < (((((((Fmask xi).toUInt32 >>> ((16 : Int32) &&& 31).toUInt32).toInt32).toUInt32 >>> ((8 : Int32) &&& 31).toUInt32).toInt32).toUInt32 >>> ((4 : Int32) &&& 31).toUInt32).toInt32) then ((31 : Int32) + (((((((((((Fmask xi).toUInt32 >>> ((16 : Int32) &&& 31).toUInt32).toInt32).toUInt32 >>> ((8 : Int32) &&& 31).toUInt32).toInt32).toUInt32 >>> ((4 : Int32) &&& 31).toUInt32).toInt32).toUInt32 >>> ((2 : Int32) &&& 31).toUInt32).toInt32).toUInt32 >>> ((1 : Int32) &&& 31).toUInt32).toInt32)) else ((29 : Int32) + (((((((((Fmask xi).toUInt32 >>> ((16 : Int32) &&& 31).toUInt32).toInt32).toUInt32 >>> ((8 : Int32) &&& 31).toUInt32).toInt32).toUInt32 >>> ((4 : Int32) &&& 31).toUInt32).toInt32).toUInt32 >>> ((1 : Int32) &&& 31).toUInt32).toInt32))) else (if (4 : Int32) < (((((Fmask xi).toUInt32 >>> ((16 : Int32) &&& 31).toUInt32).toInt32).toUInt32 >>> ((8 : Int32) &&& 31).toUInt32).toInt32) then ((27 : Int32) + (((((((((Fmask xi).toUInt32 >>> ((16 : Int32) &&& 31).toUInt32).toInt32).toUInt32 >>> ((8 : Int32) &&& 31).toUInt32).toInt32).toUInt32 >>> ((2 : Int32) &&& 31).toUInt32).toInt32).toUInt32 >>> ((1 : Int32) &&& 31).toUInt32).toInt32)) else ((25 : Int32) + (((((((Fmask xi).toUInt32 >>> ((16 : Int32) &&& 31).toUInt32).toInt32).toUInt32 >>> ((8 : Int32) &&& 31).toUInt32).toInt32).toUInt32 >>> ((1 : Int32) &&& 31).toUInt32).toInt32)))) else (if (16 : Int32) < (((Fmask xi).toUInt32 >>> ((16 : Int32) &&& 31).toUInt32).toInt32) then (if (4 : Int32) < (((((Fmask xi).toUInt32 >>> ((16 : Int32) &&& 31).toUInt32).toInt32).toUInt32 >>> ((4 : Int32) &&& 31).toUInt32).toInt32) then ((23 : Int32) + (((((((((Fmask xi).toUInt32 >>> ((16 : Int32) &&& 31).toUInt32).toInt32).toUInt32 >>> ((4 : Int32) &&& 31).toUInt32).toInt32).toUInt32 >>> ((2 : Int32) &&& 31).toUInt32).toInt32).toUInt32 >>> ((1 : Int32) &&& 31).toUInt32).toInt32)) else ((21 : Int32) + (((((((Fmask xi).toUInt32 >>> ((16 : Int32) &&& 31).toUInt32).toInt32).toUInt32 >>> ((4 : Int32) &&& 31).toUInt32).toInt32).toUInt32 >>> ((1 : Int32) &&& 31).toUInt32).toInt32))) else (if (4 : Int32) < (((Fmask xi).toUInt32 >>> ((16 : Int32) &&& 31).toUInt32).toInt32) then ((19 : Int32) + (((((((Fmask xi).toUInt32 >>> ((16 : Int32) &&& 31).toUInt32).toInt32).toUInt32 >>> ((2 : Int32) &&& 31).toUInt32).toInt32).toUInt32 >>> ((1 : Int32) &&& 31).toUInt32).toInt32)) else ((17 : Int32) + (((((Fmask xi).toUInt32 >>> ((16 : Int32) &&& 31).toUInt32).toInt32).toUInt32 >>> ((1 : Int32) &&& 31).toUInt32).toInt32))))) else (if (256 : Int32) < (Fmask xi) then (if (16 : Int32) < (((Fmask xi).toUInt32 >>> ((8 : Int32) &&& 31).toUInt32).toInt32) then (if (4 : Int32) < (((((Fmask xi).toUInt32 >>> ((8 : Int32) &&& 31).toUInt32).toInt32).toUInt32 >>> ((4 : Int32) &&& 31).toUInt32).toInt32) then ((15 : Int32) + (((((((((Fmask xi).toUInt32 >>> ((8 : Int32) &&& 31).toUInt32).toInt32).toUInt32 >>> ((4 : Int32) &&& 31).toUInt32).toInt32).toUInt32 >>> ((2 : Int32) &&& 31).toUInt32).toInt32).toUInt32 >>> ((1 : Int32) &&& 31).toUInt32).toInt32)) else ((13 : Int32) + (((((((Fmask xi).toUInt32 >>> ((8 : Int32) &&& 31).toUInt32).toInt32).toUInt32 >>> ((4 : Int32) &&& 31).toUInt32).toInt32).toUInt32 >>> ((1 : Int32) &&& 31).toUInt32).toInt32))) else (if (4 : Int32) < (((Fmask xi).toUInt32 >>> ((8 : Int32) &&& 31).toUInt32).toInt32) then ((11 : Int32) + (((((((Fmask xi).toUInt32 >>> ((8 : Int32) &&& 31).toUInt32).toInt32).toUInt32 >>> ((2 : Int32) &&& 31).toUInt32).toInt32).toUInt32 >>> ((1 : Int32) &&& 31).toUInt32).toInt32)) else ((9 : Int32) + (((((Fmask xi).toUInt32 >>> ((8 : Int32) &&& 31).toUInt32).toInt32).toUInt32 >>> ((1 : Int32) &&& 31).toUInt32).toInt32)))) else (if (16 : Int32) < (Fmask xi) then (if (4 : Int32) < (((Fmask xi).toUInt32 >>> ((4 : Int32) &&& 31).toUInt32).toInt32) then ((7 : Int32) + (((((((Fmask xi).toUInt32 >>> ((4 : Int32) &&& 31).toUInt32).toInt32).toUInt32 >>> ((2 : Int32) &&& 31).toUInt32).toInt32).toUInt32 >>> ((1 : Int32) &&& 31).toUInt32).toInt32)) else ((5 : Int32) + (((((Fmask xi).toUInt32 >>> ((4 : Int32) &&& 31).toUInt32).toInt32).toUInt32 >>> ((1 : Int32) &&& 31).toUInt32).toInt32))) else (if (4 : Int32) < (Fmask xi) then ((3 : Int32) + (((((Fmask xi).toUInt32 >>> ((2 : Int32) &&& 31).toUInt32).toInt32).toUInt32 >>> ((1 : Int32) &&& 31).toUInt32).toInt32)) else ((1 : Int32) + (((Fmask xi).toUInt32 >>> ((1 : Int32) &&& 31).toUInt32).toInt32)))))) → ∀ (f : JFrame) (acts : List Action), f.method = m → f.locked = none → f.entered = [] → (doReturn e (s₁.setTop f) acts (some (.int v1))).1 = s₁.setFrames fs := fun v1 hv1 => k v1 (hv1.trans (if_pos hc2).symm)
      show Steps p.tables e below (s₁.setTop (mkF m 17 #[.val (.int (Fmask xi)), .unset] [])) _
      refine XS.iconst X0.here hx rfl (hb hby d9_17) ?_
      show Steps p.tables e below (s₁.setTop (mkF m 18 #[.val (.int (Fmask xi)), .unset] [(.int (1 : Int32))])) _
      refine XS.istoreN X0.here hx rfl (hb hby d9_18) rfl (l' := #[.val (.int (Fmask xi)), .val (.int (1 : Int32))]) rfl ?_
      show Steps p.tables e below (s₁.setTop (mkF m 19 #[.val (.int (Fmask xi)), .val (.int (1 : Int32))] [])) _
      refine XS.iloadN X0.here hx rfl (hb hby d9_19) rfl ?_
      show Steps p.tables e below (s₁.setTop (mkF m 20 #[.val (.int (Fmask xi)), .val (.int (1 : Int32))] [(.int (Fmask xi))])) _
      refine X0.ldcwInt hx hown (mvT hZ (hw _ (List.mem_of_getElem? (i := 55) rfl))) (g := (mkF m 20 #[.val (.int (Fmask xi)), .val (.int (1 : Int32))] [(.int (Fmask xi))])) rfl (hb hby d9_20) _ ?_
      show Steps p.tables e below (s₁.setTop (mkF m 23 #[.val (.int (Fmask xi)), .val (.int (1 : Int32))] [(.int (65536 : Int32)), (.int (Fmask xi))])) _
      by_cases hc3 : (65536 : Int32) < (Fmask xi)
      · refine XS.icmpNo X0.here hx rfl (hb hby d9_23) rfl (tlt hc3).2.2.2 ?_
        have k : ∀ (v1 : Int32), v1 = (if (256 : Int32) < (((Fmask xi).toUInt32 >>> ((16 : Int32) &&& 31).toUInt32).toInt32) then (if (16 : Int32) < (((((Fmask xi).toUInt32 >>> ((16 : Int32) &&& 31).toUInt32).toInt32).toUInt32 >>> ((8 : Int32) &&& 31).toUInt32).toInt32) then (if (4 : Int32) < (((((((Fmask xi).toUInt32 >>> ((16 : Int32) &&& 31).toUInt32).toInt32).toUInt32 >>> ((8 : Int32) &&& 31).toUInt32).toInt32).toUInt32 >>> ((4 : Int32) &&& 31).toUInt32).toInt32) then ((31 : Int32) + (((((((((((Fmask xi).toUInt32 >>> ((16 : Int32) &&& 31).toUInt32).toInt32).toUInt32 >>> ((8 : Int32) &&& 31).toUInt32).toInt32).toUInt32 >>> ((4 : Int32) &&& 31).toUInt32).toInt32).toUInt32 >>> ((2 : Int32) &&& 31).toUInt32).toInt32).toUInt32 >>> ((1 : Int32) &&& 31).toUInt32).toInt32)) else ((29 : Int32) + (((((((((Fmask xi).toUInt32 >>> ((16 : Int32) &&& 31).toUInt32).toInt32).toUInt32 >>> ((8 : Int32) &&& 31).toUInt32).toInt32).toUInt32 >>> ((4 : Int32) &&& 31).toUInt32).toInt32).toUInt32 >>> ((1 : Int32) &&& 31).toUInt32).toInt32))) else (if (4 : Int32) < (((((Fmask xi).toUInt32 >>> ((16 : Int32) &&& 31).toUInt32).toInt32).toUInt32 >>> ((8 : Int32) &&& 31).toUInt32).toInt32) then ((27 : Int32) + (((((((((Fmask xi).toUInt32 >>> ((16 : Int32) &&& 31).toUInt32).toInt32).toUInt32 >>> ((8 : Int32) &&& 31).toUInt32).toInt32).toUInt32 >>> ((2 : Int32) &&& 31).toUInt32).toInt32).toUInt32 >>> ((1 : Int32) &&& 31).toUInt32).toInt32)) else ((25 : Int32) + (((((((Fmask xi).toUInt32 >>> ((16 : Int32) &&& 31).toUInt32).toInt32).toUInt32 >>> ((8 : Int32) &&& 31).toUInt32).toInt32).toUInt32 >>> ((1 : Int32) &&& 31).toUInt32).toInt32)))) else (if (16 : Int32) < (((Fmask xi).toUInt32 >>> ((16 : Int32) &&& 31).toUInt32).toInt32) then (if (4 : Int32) < (((((Fmask xi).toUInt32 >>> ((16 : Int32) &&& 31).toUInt32).toInt32).toUInt32 >>> ((4 : Int32) &&& 31).toUInt32).toInt32) then ((23 : Int32) + (((((((((Fmask xi).toUInt32 >>> ((16 : Int32) &&& 31).toUInt32).toInt32).toUInt32 >>> ((4 : Int32) &&& 31).toUInt32).toInt32).toUInt32 >>> ((2 : Int32) &&& 31).toUInt32).toInt32).toUInt32 >>> ((1 : Int32) &&& 31).toUInt32).toInt32)) else ((21 : Int32) + (((((((Fmask xi).toUInt32 >>> ((16 : Int32) &&& 31).toUInt32).toInt32).toUInt32 >>> ((4 : Int32) &&& 31).toUInt32).toInt32).toUInt32 >>> ((1 : Int32) &&& 31).toUInt32).toInt32))) else (if (4 : Int32) < (((Fmask xi).toUInt32 >>> ((16 : Int32) &&& 31).toUInt32).toInt32) then ((19 : Int32) + (((((((Fmask xi).toUInt32 >>> ((16 : Int32) &&& 31).toUInt32).toInt32).toUInt32 >>> ((2 : Int32) &&& 31).toUInt32).toInt32).toUInt32 >>> ((1 : Int32) &&& 31).toUInt32).toInt32)) else ((17 : Int32) + (((((Fmask xi).toUInt32 >>> ((16 : Int32) &&& 31).toUInt32).toInt32).toUInt32 >>> ((1 : Int32) &&& 31).toUInt32).toInt32))))) → ∀ (f : JFrame) (acts : List Action), f.method = m → f.locked = none → f.entered = [] → (doReturn e (s₁.setTop f) acts (some (.int v1))).1 = s₁.setFrames fs := fun v1 hv1 => k v1 (hv1.trans (if_pos hc3).symm)
        show Steps p.tables e below (s₁.setTop (mkF m 26 #[.val (.int (Fmask xi)), .val (.int (1 : Int32))] [])) _
        refine XS.iinc X0.here hx rfl (hb hby d9_26) rfl (l' := #[.val (.int (Fmask xi)), .val (.int (17 : Int32))]) rfl ?_
        show Steps p.tables e below (s₁.setTop (mkF m 29 #[.val (.int (Fmask xi)), .val (.int (17 : Int32))] [])) _
        refine XS.iloadN X0.here hx rfl (hb hby d9_29) rfl ?_
        show Steps p.tables e below (s₁.setTop (mkF m 30 #[.val (.int (Fmask xi)), .val (.int (17 : Int32))] [(.int (Fmask xi))])) _
        refine XS.bipush X0.here hx rfl (hb hby d9_30) ?_
        show Steps p.tables e below (s₁.setTop (mkF m 32 #[.val (.int (Fmask xi)), .val (.int (17 : Int32))] [(.int (16 : Int32)), (.int (Fmask xi))])) _
        refine XS.iushr X0.here hx rfl (hb hby d9_32) rfl ?_
        show Steps p.tables e below (s₁.setTop (mkF m 33 #[.val (.int (Fmask xi)), .val (.int (17 : Int32))] [(.int (((Fmask xi).toUInt32 >>> ((16 : Int32) &&& 31).toUInt32).toInt32))])) _
        refine XS.istoreN X0.here hx rfl (hb hby d9_33) rfl (l' := #[.val (.int (((Fmask xi).toUInt32 >>> ((16 : Int32) &&& 31).toUInt32).toInt32)), .val (.int (17 : Int32))]) rfl ?_
        show Steps p.tables e below (s₁.setTop (mkF m 34 #[.val (.int (((Fmask xi).toUInt32 >>> ((16 : Int32) &&& 31).toUInt32).toInt32)), .val (.int (17 : Int32))] [])) _
        refine XS.iloadN X0.here hx rfl (hb hby d9_34) rfl ?_
        show Steps p.tables e below (s₁.setTop (mkF m 35 #[.val (.int (((Fmask xi).toUInt32 >>> ((16 : Int32) &&& 31).toUInt32).toInt32)), .val (.int (17 : Int32))] [(.int (((Fmask xi).toUInt32 >>> ((16 : Int32) &&& 31).toUInt32).toInt32))])) _
        refine XS.sipush X0.here hx rfl (hb hby d9_35) ?_
        show Steps p.tables e below (s₁.setTop (mkF m 38 #[.val (.int (((Fmask xi).toUInt32 >>> ((16 : Int32) &&& 31).toUInt32).toInt32)), .val (.int (17 : Int32))] [(.int (256 : Int32)), (.int (((Fmask xi).toUInt32 >>> ((16 : Int32) &&& 31).toUInt32).toInt32))])) _
        by_cases hc4 : (256 : Int32) < (((Fmask xi).toUInt32 >>> ((16 : Int32) &&& 31).toUInt32).toInt32)
        · refine XS.icmpNo X0.here hx rfl (hb hby d9_38) rfl (tlt hc4).2.2.2 ?_
          have k : ∀ (v1 : Int32), v1 = (if (16 : Int32) < (((((Fmask xi).toUInt32 >>> ((16 : Int32) &&& 31).toUInt32).toInt32).toUInt32 >>> ((8 : Int32) &&& 31).toUInt32).toInt32) then (if (4 : Int32) < (((((((Fmask xi).toUInt32 >>> ((16 : Int32) &&& 31).toUInt32).toInt32).toUInt32 >>> ((8 : Int32) &&& 31).toUInt32).toInt32).toUInt32 >>> ((4 : Int32) &&& 31).toUInt32).toInt32) then ((31 : Int32) + (((((((((((Fmask xi).toUInt32 >>> ((16 : Int32) &&& 31).toUInt32).toInt32).toUInt32 >>> ((8 : Int32) &&& 31).toUInt32).toInt32).toUInt32 >>> ((4 : Int32) &&& 31).toUInt32).toInt32).toUInt32 >>> ((2 : Int32) &&& 31).toUInt32).toInt32).toUInt32 >>> ((1 : Int32) &&& 31).toUInt32).toInt32)) else ((29 : Int32) + (((((((((Fmask xi).toUInt32 >>> ((16 : Int32) &&& 31).toUInt32).toInt32).toUInt32 >>> ((8 : Int32) &&& 31).toUInt32).toInt32).toUInt32 >>> ((4 : Int32) &&& 31).toUInt32).toInt32).toUInt32 >>> ((1 : Int32) &&& 31).toUInt32).toInt32))) else (if (4 : Int32) < (((((Fmask xi).toUInt32 >>> ((16 : Int32) &&& 31).toUInt32).toInt32).toUInt32 >>> ((8 : Int32) &&& 31).toUInt32).toInt32) then ((27 : Int32) + (((((((((Fmask xi).toUInt32 >>> ((16 : Int32) &&& 31).toUInt32).toInt32).toUInt32 >>> ((8 : Int32) &&& 31).toUInt32).toInt32).toUInt32 >>> ((2 : Int32) &&& 31).toUInt32).toInt32).toUInt32 >>> ((1 : Int32) &&& 31).toUInt32).toInt32)) else ((25 : Int32) + (((((((Fmask xi).toUInt32 >>> ((16 : Int32) &&& 31).toUInt32).toInt32).toUInt32 >>> ((8 : Int32) &&& 31).toUInt32).toInt32).toUInt32 >>> ((1 : Int32) &&& 31).toUInt32).toInt32)))) → ∀ (f : JFrame) (acts : List Action), f.method = m → f.locked = none → f.entered = [] → (doReturn e (s₁.setTop f) acts (some (.int v1))).1 = s₁.setFrames fs := fun v1 hv1 => k v1 (hv1.trans (if_pos hc4).symm)
          show Steps p.tables e below (s₁.setTop (mkF m 41 #[.val (.int (((Fmask xi).toUInt32 >>> ((16 : Int32) &&& 31).toUInt32).toInt32)), .val (.int (17 : Int32))] [])) _
          refine XS.iinc X0.here hx rfl (hb hby d9_41) rfl (l' := #[.val (.int (((Fmask xi).toUInt32 >>> ((16 : Int32) &&& 31).toUInt32).toInt32)), .val (.int (25 : Int32))]) rfl ?_
          show Steps p.tables e below (s₁.setTop (mkF m 44 #[.val (.int (((Fmask xi).toUInt32 >>> ((16 : Int32) &&& 31).toUInt32).toInt32)), .val (.int (25 : Int32))] [])) _
          refine XS.iloadN X0.here hx rfl (hb hby d9_44) rfl ?_
          show Steps p.tables e below (s₁.setTop (mkF m 45 #[.val (.int (((Fmask xi).toUInt32 >>> ((16 : Int32) &&& 31).toUInt32).toInt32)), .val (.int (25 : Int32))] [(.int (((Fmask xi).toUInt32 >>> ((16 : Int32) &&& 31).toUInt32).toInt32))])) _
          refine XS.bipush X0.here hx rfl (hb hby d9_45) ?_
          show Steps p.tables e below (s₁.setTop (mkF m 47 #[.val (.int (((Fmask xi).toUInt32 >>> ((16 : Int32) &&& 31).toUInt32).toInt32)), .val (.int (25 : Int32))] [(.int (8 : Int32)), (.int (((Fmask xi).toUInt32 >>> ((16 : Int32) &&& 31).toUInt32).toInt32))])) _
          refine XS.iushr X0.here hx rfl (hb hby d9_47) rfl ?_
          show Steps p.tables e below (s₁.setTop (mkF m 48 #[.val (.int (((Fmask xi).toUInt32 >>> ((16 : Int32) &&& 31).toUInt32).toInt32)), .val (.int (25 : Int32))] [(.int (((((Fmask xi).toUInt32 >>> ((16 : Int32) &&& 31).toUInt32).toInt32).toUInt32 >>> ((8 : Int32) &&& 31).toUInt32).toInt32))])) _
          refine XS.istoreN X0.here hx rfl (hb hby d9_48) rfl (l' := #[.val (.int (((((Fmask xi).toUInt32 >>> ((16 : Int32) &&& 31).toUInt32).toInt32).toUInt32 >>> ((8 : Int32) &&& 31).toUInt32).toInt32)), .val (.int (25 : Int32))]) rfl ?_
          show Steps p.tables e below (s₁.setTop (mkF m 49 #[.val (.int (((((Fmask xi).toUInt32 >>> ((16 : Int32) &&& 31).toUInt32).toInt32).toUInt32 >>> ((8 : Int32) &&& 31).toUInt32).toInt32)), .val (.int (25 : Int32))] [])) _
          refine XS.iloadN X0.here hx rfl (hb hby d9_49) rfl ?_
          show Steps p.tables e below (s₁.setTop (mkF m 50 #[.val (.int (((((Fmask xi).toUInt32 >>> ((16 : Int32) &&& 31).toUInt32).toInt32).toUInt32 >>> ((8 : Int32) &&& 31).toUInt32).toInt32)), .val (.int (25 : Int32))] [(.int (((((Fmask xi).toUInt32 >>> ((16 : Int32) &&& 31).toUInt32).toInt32).toUInt32 >>> ((8 : Int32) &&& 31).toUInt32).toInt32))])) _
          refine XS.bipush X0.here hx rfl (hb hby d9_50) ?_
          show Steps p.tables e below (s₁.setTop (mkF m 52 #[.val (.int (((((Fmask xi).toUInt32 >>> ((16 : Int32) &&& 31).toUInt32).toInt32).toUInt32 >>> ((8 : Int32) &&& 31).toUInt32).toInt32)), .val (.int (25 : Int32))] [(.int (16 : Int32)), (.int (((((Fmask xi).toUInt32 >>> ((16 : Int32) &&& 31).toUInt32).toInt32).toUInt32 >>> ((8 : Int32) &&& 31).toUInt32).toInt32))])) _
          by_cases hc5 : (16 : Int32) < (((((Fmask xi).toUInt32 >>> ((16 : Int32) &&& 31).toUInt32).toInt32).toUInt32 >>> ((8 : Int32) &&& 31).toUInt32).toInt32)
          · refine XS.icmpNo X0.here hx rfl (hb hby d9_52) rfl (tlt hc5).2.2.2 ?_
            have k : ∀ (v1 : Int32), v1 = (if (4 : Int32) < (((((((Fmask xi).toUInt32 >>> ((16 : Int32) &&& 31).toUInt32).toInt32).toUInt32 >>> ((8 : Int32) &&& 31).toUInt32).toInt32).toUInt32 >>> ((4 : Int32) &&& 31).toUInt32).toInt32) then ((31 : Int32) + (((((((((((Fmask xi).toUInt32 >>> ((16 : Int32) &&& 31).toUInt32).toInt32).toUInt32 >>> ((8 : Int32) &&& 31).toUInt32).toInt32).toUInt32 >>> ((4 : Int32) &&& 31).toUInt32).toInt32).toUInt32 >>> ((2 : Int32) &&& 31).toUInt32).toInt32).toUInt32 >>> ((1 : Int32) &&& 31).toUInt32).toInt32)) else ((29 : Int32) + (((((((((Fmask xi).toUInt32 >>> ((16 : Int32) &&& 31).toUInt32).toInt32).toUInt32 >>> ((8 : Int32) &&& 31).toUInt32).toInt32).toUInt32 >>> ((4 : Int32) &&& 31).toUInt32).toInt32).toUInt32 >>> ((1 : Int32) &&& 31).toUInt32).toInt32))) → ∀ (f : JFrame) (acts : List Action), f.method = m → f.locked = none → f.entered = [] → (doReturn e (s₁.setTop f) acts (some (.int v1))).1 = s₁.setFrames fs := fun v1 hv1 => k v1 (hv1.trans (if_pos hc5).symm)
            show Steps p.tables e below (s₁.setTop (mkF m 55 #[.val (.int (((((Fmask xi).toUInt32 >>> ((16 : Int32) &&& 31).toUInt32).toInt32).toUInt32 >>> ((8 : Int32) &&& 31).toUInt32).toInt32)), .val (.int (25 : Int32))] [])) _
            refine XS.iinc X0.here hx rfl (hb hby d9_55) rfl (l' := #[.val (.int (((((Fmask xi).toUInt32 >>> ((16 : Int32) &&& 31).toUInt32).toInt32).toUInt32 >>> ((8 : Int32) &&& 31).toUInt32).toInt32)), .val (.int (29 : Int32))]) rfl ?_
            show Steps p.tables e below (s₁.setTop (mkF m 58 #[.val (.int (((((Fmask xi).toUInt32 >>> ((16 : Int32) &&& 31).toUInt32).toInt32).toUInt32 >>> ((8 : Int32) &&& 31).toUInt32).toInt32)), .val (.int (29 : Int32))] [])) _
            refine XS.iloadN X0.here hx rfl (hb hby d9_58) rfl ?_
            show Steps p.tables e below (s₁.setTop (mkF m 59 #[.val (.int (((((Fmask xi).toUInt32 >>> ((16 : Int32) &&& 31).toUInt32).toInt32).toUInt32 >>> ((8 : Int32) &&& 31).toUInt32).toInt32)), .val (.int (29 : Int32))] [(.int (((((Fmask xi).toUInt32 >>> ((16 : Int32) &&& 31).toUInt32).toInt32).toUInt32 >>> ((8 : Int32) &&& 31).toUInt32).toInt32))])) _
            refine XS.iconst X0.here hx rfl (hb hby d9_59) ?_
            show Steps p.tables e below (s₁.setTop (mkF m 60 #[.val (.int (((((Fmask xi).toUInt32 >>> ((16 : Int32) &&& 31).toUInt32).toInt32).toUInt32 >>> ((8 : Int32) &&& 31).toUInt32).toInt32)), .val (.int (29 : Int32))] [(.int (4 : Int32)), (.int (((((Fmask xi).toUInt32 >>> ((16 : Int32) &&& 31).toUInt32).toInt32).toUInt32 >>> ((8 : Int32) &&& 31).toUInt32).toInt32))])) _
            refine XS.iushr X0.here hx rfl (hb hby d9_60) rfl ?_
            show Steps p.tables e below (s₁.setTop (mkF m 61 #[.val (.int (((((Fmask xi).toUInt32 >>> ((16 : Int32) &&& 31).toUInt32).toInt32).toUInt32 >>> ((8 : Int32) &&& 31).toUInt32).toInt32)), .val (.int (29 : Int32))] [(.int (((((((Fmask xi).toUInt32 >>> ((16 : Int32) &&& 31).toUInt32).toInt32).toUInt32 >>> ((8 : Int32) &&& 31).toUInt32).toInt32).toUInt32 >>> ((4 : Int32) &&& 31).toUInt32).toInt32))])) _
            refine XS.istoreN X0.here hx rfl (hb hby d9_61) rfl (l' := #[.val (.int (((((((Fmask xi).toUInt32 >>> ((16 : Int32) &&& 31).toUInt32).toInt32).toUInt32 >>> ((8 : Int32) &&& 31).toUInt32).toInt32).toUInt32 >>> ((4 : Int32) &&& 31).toUInt32).toInt32)), .val (.int (29 : Int32))]) rfl ?_
            show Steps p.tables e below (s₁.setTop (mkF m 62 #[.val (.int (((((((Fmask xi).toUInt32 >>> ((16 : Int32) &&& 31).toUInt32).toInt32).toUInt32 >>> ((8 : Int32) &&& 31).toUInt32).toInt32).toUInt32 >>> ((4 : Int32) &&& 31).toUInt32).toInt32)), .val (.int (29 : Int32))] [])) _
            refine XS.iloadN X0.here hx rfl (hb hby d9_62) rfl ?_
            show Steps p.tables e below (s₁.setTop (mkF m 63 #[.val (.int (((((((Fmask xi).toUInt32 >>> ((16 : Int32) &&& 31).toUInt32).toInt32).toUInt32 >>> ((8 : Int32) &&& 31).toUInt32).toInt32).toUInt32 >>> ((4 : Int32) &&& 31).toUInt32).toInt32)), .val (.int (29 : Int32))] [(.int (((((((Fmask xi).toUInt32 >>> ((16 : Int32) &&& 31).toUInt32).toInt32).toUInt32 >>> ((8 : Int32) &&& 31).toUInt32).toInt32).toUInt32 >>> ((4 : Int32) &&& 31).toUInt32).toInt32))])) _
            refine XS.iconst X0.here hx rfl (hb hby d9_63) ?_
            show Steps p.tables e below (s₁.setTop (mkF m 64 #[.val (.int (((((((Fmask xi).toUInt32 >>> ((16 : Int32) &&& 31).toUInt32).toInt32).toUInt32 >>> ((8 : Int32) &&& 31).toUInt32).toInt32).toUInt32 >>> ((4 : Int32) &&& 31).toUInt32).toInt32)), .val (.int (29 : Int32))] [(.int (4 : Int32)), (.int (((((((Fmask xi).toUInt32 >>> ((16 : Int32) &&& 31).toUInt32).toInt32).toUInt32 >>> ((8 : Int32) &&& 31).toUInt32).toInt32).toUInt32 >>> ((4 : Int32) &&& 31).toUInt32).toInt32))])) _
            by_cases hc6 : (4 : Int32) < (((((((Fmask xi).toUInt32 >>> ((16 : Int32) &&& 31).toUInt32).toInt32).toUInt32 >>> ((8 : Int32) &&& 31).toUInt32).toInt32).toUInt32 >>> ((4 : Int32) &&& 31).toUInt32).toInt32)
            · refine XS.icmpNo X0.here hx rfl (hb hby d9_64) rfl (tlt hc6).2.2.2 ?_
              have k : ∀ (v1 : Int32), v1 = ((31 : Int32) + (((((((((((Fmask xi).toUInt32 >>> ((16 : Int32) &&& 31).toUInt32).toInt32).toUInt32 >>> ((8 : Int32) &&& 31).toUInt32).toInt32).toUInt32 >>> ((4 : Int32) &&& 31).toUInt32).toInt32).toUInt32 >>> ((2 : Int32) &&& 31).toUInt32).toInt32).toUInt32 >>> ((1 : Int32) &&& 31).toUInt32).toInt32)) → ∀ (f : JFrame) (acts : List Action), f.method = m → f.locked = none → f.entered = [] → (doReturn e (s₁.setTop f) acts (some (.int v1))).1 = s₁.setFrames fs := fun v1 hv1 => k v1 (hv1.trans (if_pos hc6).symm)
              show Steps p.tables e below (s₁.setTop (mkF m 67 #[.val (.int (((((((Fmask xi).toUInt32 >>> ((16 : Int32) &&& 31).toUInt32).toInt32).toUInt32 >>> ((8 : Int32) &&& 31).toUInt32).toInt32).toUInt32 >>> ((4 : Int32) &&& 31).toUInt32).toInt32)), .val (.int (29 : Int32))] [])) _
              refine XS.iinc X0.here hx rfl (hb hby d9_67) rfl (l' := #[.val (.int (((((((Fmask xi).toUInt32 >>> ((16 : Int32) &&& 31).toUInt32).toInt32).toUInt32 >>> ((8 : Int32) &&& 31).toUInt32).toInt32).toUInt32 >>> ((4 : Int32) &&& 31).toUInt32).toInt32)), .val (.int (31 : Int32))]) rfl ?_
              show Steps p.tables e below (s₁.setTop (mkF m 70 #[.val (.int (((((((Fmask xi).toUInt32 >>> ((16 : Int32) &&& 31).toUInt32).toInt32).toUInt32 >>> ((8 : Int32) &&& 31).toUInt32).toInt32).toUInt32 >>> ((4 : Int32) &&& 31).toUInt32).toInt32)), .val (.int (31 : Int32))] [])) _
              refine XS.iloadN X0.here hx rfl (hb hby d9_70) rfl ?_
              show Steps p.tables e below (s₁.setTop (mkF m 71 #[.val (.int (((((((Fmask xi).toUInt32 >>> ((16 : Int32) &&& 31).toUInt32).toInt32).toUInt32 >>> ((8 : Int32) &&& 31).toUInt32).toInt32).toUInt32 >>> ((4 : Int32) &&& 31).toUInt32).toInt32)), .val (.int (31 : Int32))] [(.int (((((((Fmask xi).toUInt32 >>> ((16 : Int32) &&& 31).toUInt32).toInt32).toUInt32 >>> ((8 : Int32) &&& 31).toUInt32).toInt32).toUInt32 >>> ((4 : Int32) &&& 31).toUInt32).toInt32))])) _
              refine XS.iconst X0.here hx rfl (hb hby d9_71) ?_
              show Steps p.tables e below (s₁.setTop (mkF m 72 #[.val (.int (((((((Fmask xi).toUInt32 >>> ((16 : Int32) &&& 31).toUInt32).toInt32).toUInt32 >>> ((8 : Int32) &&& 31).toUInt32).toInt32).toUInt32 >>> ((4 : Int32) &&& 31).toUInt32).toInt32)), .val (.int (31 : Int32))] [(.int (2 : Int32)), (.int (((((((Fmask xi).toUInt32 >>> ((16 : Int32) &&& 31).toUInt32).toInt32).toUInt32 >>> ((8 : Int32) &&& 31).toUInt32).toInt32).toUInt32 >>> ((4 : Int32) &&& 31).toUInt32).toInt32))])) _
              refine XS.iushr X0.here hx rfl (hb hby d9_72) rfl ?_
              show Steps p.tables e below (s₁.setTop (mkF m 73 #[.val (.int (((((((Fmask xi).toUInt32 >>> ((16 : Int32) &&& 31).toUInt32).toInt32).toUInt32 >>> ((8 : Int32) &&& 31).toUInt32).toInt32).toUInt32 >>> ((4 : Int32) &&& 31).toUInt32).toInt32)), .val (.int (31 : Int32))] [(.int (((((((((Fmask xi).toUInt32 >>> ((16 : Int32) &&& 31).toUInt32).toInt32).toUInt32 >>> ((8 : Int32) &&& 31).toUInt32).toInt32).toUInt32 >>> ((4 : Int32) &&& 31).toUInt32).toInt32).toUInt32 >>> ((2 : Int32) &&& 31).toUInt32).toInt32))])) _
              refine XS.istoreN X0.here hx rfl (hb hby d9_73) rfl (l' := #[.val (.int (((((((((Fmask xi).toUInt32 >>> ((16 : Int32) &&& 31).toUInt32).toInt32).toUInt32 >>> ((8 : Int32) &&& 31).toUInt32).toInt32).toUInt32 >>> ((4 : Int32) &&& 31).toUInt32).toInt32).toUInt32 >>> ((2 : Int32) &&& 31).toUInt32).toInt32)), .val (.int (31 : Int32))]) rfl ?_
              show Steps p.tables e below (s₁.setTop (mkF m 74 #[.val (.int (((((((((Fmask xi).toUInt32 >>> ((16 : Int32) &&& 31).toUInt32).toInt32).toUInt32 >>> ((8 : Int32) &&& 31).toUInt32).toInt32).toUInt32 >>> ((4 : Int32) &&& 31).toUInt32).toInt32).toUInt32 >>> ((2 : Int32) &&& 31).toUInt32).toInt32)), .val (.int (31 : Int32))] [])) _
              refine XS.iloadN X0.here hx rfl (hb hby d9_74) rfl ?_
              show Steps p.tables e below (s₁.setTop (mkF m 75 #[.val (.int (((((((((Fmask xi).toUInt32 >>> ((16 : Int32) &&& 31).toUInt32).toInt32).toUInt32 >>> ((8 : Int32) &&& 31).toUInt32).toInt32).toUInt32 >>> ((4 : Int32) &&& 31).toUInt32).toInt32).toUInt32 >>> ((2 : Int32) &&& 31).toUInt32).toInt32)), .val (.int (31 : Int32))] [(.int (31 : Int32))])) _
              refine XS.iloadN X0.here hx rfl (hb hby d9_75) rfl ?_
              show Steps p.tables e below (s₁.setTop (mkF m 76 #[.val (.int (((((((((Fmask xi).toUInt32 >>> ((16 : Int32) &&& 31).toUInt32).toInt32).toUInt32 >>> ((8 : Int32) &&& 31).toUInt32).toInt32).toUInt32 >>> ((4 : Int32) &&& 31).toUInt32).toInt32).toUInt32 >>> ((2 : Int32) &&& 31).toUInt32).toInt32)), .val (.int (31 : Int32))] [(.int (((((((((Fmask xi).toUInt32 >>> ((16 : Int32) &&& 31).toUInt32).toInt32).toUInt32 >>> ((8 : Int32) &&& 31).toUInt32).toInt32).toUInt32 >>> ((4 : Int32) &&& 31).toUInt32).toInt32).toUInt32 >>> ((2 : Int32) &&& 31).toUInt32).toInt32)), (.int (31 : Int32))])) _
              refine XS.iconst X0.here hx rfl (hb hby d9_76) ?_
              show Steps p.tables e below (s₁.setTop (mkF m 77 #[.val (.int (((((((((Fmask xi).toUInt32 >>> ((16 : Int32) &&& 31).toUInt32).toInt32).toUInt32 >>> ((8 : Int32) &&& 31).toUInt32).toInt32).toUInt32 >>> ((4 : Int32) &&& 31).toUInt32).toInt32).toUInt32 >>> ((2 : Int32) &&& 31).toUInt32).toInt32)), .val (.int (31 : Int32))] [(.int (1 : Int32)), (.int (((((((((Fmask xi).toUInt32 >>> ((16 : Int32) &&& 31).toUInt32).toInt32).toUInt32 >>> ((8 : Int32) &&& 31).toUInt32).toInt32).toUInt32 >>> ((4 : Int32) &&& 31).toUInt32).toInt32).toUInt32 >>> ((2 : Int32) &&& 31).toUInt32).toInt32)), (.int (31 : Int32))])) _
              refine XS.iushr X0.here hx rfl (hb hby d9_77) rfl ?_
              show Steps p.tables e below (s₁.setTop (mkF m 78 #[.val (.int (((((((((Fmask xi).toUInt32 >>> ((16 : Int32) &&& 31).toUInt32).toInt32).toUInt32 >>> ((8 : Int32) &&& 31).toUInt32).toInt32).toUInt32 >>> ((4 : Int32) &&& 31).toUInt32).toInt32).toUInt32 >>> ((2 : Int32) &&& 31).toUInt32).toInt32)), .val (.int (31 : Int32))] [(.int (((((((((((Fmask xi).toUInt32 >>> ((16 : Int32) &&& 31).toUInt32).toInt32).toUInt32 >>> ((8 : Int32) &&& 31).toUInt32).toInt32).toUInt32 >>> ((4 : Int32) &&& 31).toUInt32).toInt32).toUInt32 >>> ((2 : Int32) &&& 31).toUInt32).toInt32).toUInt32 >>> ((1 : Int32) &&& 31).toUInt32).toInt32)), (.int (31 : Int32))])) _
              refine XS.iadd X0.here hx rfl (hb hby d9_78) rfl ?_
              show Steps p.tables e below (s₁.setTop (mkF m 79 #[.val (.int (((((((((Fmask xi).toUInt32 >>> ((16 : Int32) &&& 31).toUInt32).toInt32).toUInt32 >>> ((8 : Int32) &&& 31).toUInt32).toInt32).toUInt32 >>> ((4 : Int32) &&& 31).toUInt32).toInt32).toUInt32 >>> ((2 : Int32) &&& 31).toUInt32).toInt32)), .val (.int (31 : Int32))] [(.int ((31 : Int32) + (((((((((((Fmask xi).toUInt32 >>> ((16 : Int32) &&& 31).toUInt32).toInt32).toUInt32 >>> ((8 : Int32) &&& 31).toUInt32).toInt32).toUInt32 >>> ((4 : Int32) &&& 31).toUInt32).toInt32).toUInt32 >>> ((2 : Int32) &&& 31).toUInt32).toInt32).toUInt32 >>> ((1 : Int32) &&& 31).toUInt32).toInt32)))])) _
              exact retI X0 hx Bd.returns (hb hby d9_79) (k _ rfl)
            · refine XS.icmpYes X0.here hx rfl (pc0 := 64) (pc' := 74) rfl (hb hby d9_64) rfl (flt hc6).2.2.2 (by decide) (by decide) ?_
              have k : ∀ (v1 : Int32), v1 = ((29 : Int32) + (((((((((Fmask xi).toUInt32 >>> ((16 : Int32) &&& 31).toUInt32).toInt32).toUInt32 >>> ((8 : Int32) &&& 31).toUInt32).toInt32).toUInt32 >>> ((4 : Int32) &&& 31).toUInt32).toInt32).toUInt32 >>> ((1 : Int32) &&& 31).toUInt32).toInt32)) → ∀ (f : JFrame) (acts : List Action), f.method = m → f.locked = none → f.entered = [] → (doReturn e (s₁.setTop f) acts (some (.int v1))).1 = s₁.setFrames fs := fun v1 hv1 => k v1 (hv1.trans (if_neg hc6).symm)
              show Steps p.tables e below (s₁.setTop (mkF m 74 #[.val (.int (((((((Fmask xi).toUInt32 >>> ((16 : Int32) &&& 31).toUInt32).toInt32).toUInt32 >>> ((8 : Int32) &&& 31).toUInt32).toInt32).toUInt32 >>> ((4 : Int32) &&& 31).toUInt32).toInt32)), .val (.int (29 : Int32))] [])) _
              refine XS.iloadN X0.here hx rfl (hb hby d9_74) rfl ?_
              show Steps p.tables e below (s₁.setTop (mkF m 75 #[.val (.int (((((((Fmask xi).toUInt32 >>> ((16 : Int32) &&& 31).toUInt32).toInt32).toUInt32 >>> ((8 : Int32) &&& 31).toUInt32).toInt32).toUInt32 >>> ((4 : Int32) &&& 31).toUInt32).toInt32)), .val (.int (29 : Int32))] [(.int (29 : Int32))])) _
              refine XS.iloadN X0.here hx rfl (hb hby d9_75) rfl ?_
              show Steps p.tables e below (s₁.setTop (mkF m 76 #[.val (.int (((((((Fmask xi).toUInt32 >>> ((16 : Int32) &&& 31).toUInt32).toInt32).toUInt32 >>> ((8 : Int32) &&& 31).toUInt32).toInt32).toUInt32 >>> ((4 : Int32) &&& 31).toUInt32).toInt32)), .val (.int (29 : Int32))] [(.int (((((((Fmask xi).toUInt32 >>> ((16 : Int32) &&& 31).toUInt32).toInt32).toUInt32 >>> ((8 : Int32) &&& 31).toUInt32).toInt32).toUInt32 >>> ((4 : Int32) &&& 31).toUInt32).toInt32)), (.int (29 : Int32))])) _
              refine XS.iconst X0.here hx rfl (hb hby d9_76) ?_
              show Steps p.tables e below (s₁.setTop (mkF m 77 #[.val (.int (((((((Fmask xi).toUInt32 >>> ((16 : Int32) &&& 31).toUInt32).toInt32).toUInt32 >>> ((8 : Int32) &&& 31).toUInt32).toInt32).toUInt32 >>> ((4 : Int32) &&& 31).toUInt32).toInt32)), .val (.int (29 : Int32))] [(.int (1 : Int32)), (.int (((((((Fmask xi).toUInt32 >>> ((16 : Int32) &&& 31).toUInt32).toInt32).toUInt32 >>> ((8 : Int32) &&& 31).toUInt32).toInt32).toUInt32 >>> ((4 : Int32) &&& 31).toUInt32).toInt32)), (.int (29 : Int32))])) _
              refine XS.iushr X0.here hx rfl (hb hby d9_77) rfl ?_
              show Steps p.tables e below (s₁.setTop (mkF m 78 #[.val (.int (((((((Fmask xi).toUInt32 >>> ((16 : Int32) &&& 31).toUInt32).toInt32).toUInt32 >>> ((8 : Int32) &&& 31).toUInt32).toInt32).toUInt32 >>> ((4 : Int32) &&& 31).toUInt32).toInt32)), .val (.int (29 : Int32))] [(.int (((((((((Fmask xi).toUInt32 >>> ((16 : Int32) &&& 31).toUInt32).toInt32).toUInt32 >>> ((8 : Int32) &&& 31).toUInt32).toInt32).toUInt32 >>> ((4 : Int32) &&& 31).toUInt32).toInt32).toUInt32 >>> ((1 : Int32) &&& 31).toUInt32).toInt32)), (.int (29 : Int32))])) _
              refine XS.iadd X0.here hx rfl (hb hby d9_78) rfl ?_
              show Steps p.tables e below (s₁.setTop (mkF m 79 #[.val (.int (((((((Fmask xi).toUInt32 >>> ((16 : Int32) &&& 31).toUInt32).toInt32).toUInt32 >>> ((8 : Int32) &&& 31).toUInt32).toInt32).toUInt32 >>> ((4 : Int32) &&& 31).toUInt32).toInt32)), .val (.int (29 : Int32))] [(.int ((29 : Int32) + (((((((((Fmask xi).toUInt32 >>> ((16 : Int32) &&& 31).toUInt32).toInt32).toUInt32 >>> ((8 : Int32) &&& 31).toUInt32).toInt32).toUInt32 >>> ((4 : Int32) &&& 31).toUInt32).toInt32).toUInt32 >>> ((1 : Int32) &&& 31).toUInt32).toInt32)))])) _
              exact retI X0 hx Bd.returns (hb hby d9_79) (k _ rfl)
          · refine XS.icmpYes X0.here hx rfl (pc0 := 52) (pc' := 62) rfl (hb hby d9_52) rfl (flt hc5).2.2.2 (by decide) (by decide) ?_
            have k : ∀ (v1 : Int32), v1 = (if (4 : Int32) < (((((Fmask xi).toUInt32 >>> ((16 : Int32) &&& 31).toUInt32).toInt32).toUInt32 >>> ((8 : Int32) &&& 31).toUInt32).toInt32) then ((27 : Int32) + (((((((((Fmask xi).toUInt32 >>> ((16 : Int32) &&& 31).toUInt32).toInt32).toUInt32 >>> ((8 : Int32) &&& 31).toUInt32).toInt32).toUInt32 >>> ((2 : Int32) &&& 31).toUInt32).toInt32).toUInt32 >>> ((1 : Int32) &&& 31).toUInt32).toInt32)) else ((25 : Int32) + (((((((Fmask xi).toUInt32 >>> ((16 : Int32) &&& 31).toUInt32).toInt32).toUInt32 >>> ((8 : Int32) &&& 31).toUInt32).toInt32).toUInt32 >>> ((1 : Int32) &&& 31).toUInt32).toInt32))) → ∀ (f : JFrame) (acts : List Action), f.method = m → f.locked = none → f.entered = [] → (doReturn e (s₁.setTop f) acts (some (.int v1))).1 = s₁.setFrames fs := fun v1 hv1 => k v1 (hv1.trans (if_neg hc5).symm)
            show Steps p.tables e below (s₁.setTop (mkF m 62 #[.val (.int (((((Fmask xi).toUInt32 >>> ((16 : Int32) &&& 31).toUInt32).toInt32).toUInt32 >>> ((8 : Int32) &&& 31).toUInt32).toInt32)), .val (.int (25 : Int32))] [])) _
            refine XS.iloadN X0.here hx rfl (hb hby d9_62) rfl ?_
            show Steps p.tables e below (s₁.setTop (mkF m 63 #[.val (.int (((((Fmask xi).toUInt32 >>> ((16 : Int32) &&& 31).toUInt32).toInt32).toUInt32 >>> ((8 : Int32) &&& 31).toUInt32).toInt32)), .val (.int (25 : Int32))] [(.int (((((Fmask xi).toUInt32 >>> ((16 : Int32) &&& 31).toUInt32).toInt32).toUInt32 >>> ((8 : Int32) &&& 31).toUInt32).toInt32))])) _
            refine XS.iconst X0.here hx rfl (hb hby d9_63) ?_
            show Steps p.tables e below (s₁.setTop (mkF m 64 #[.val (.int (((((Fmask xi).toUInt32 >>> ((16 : Int32) &&& 31).toUInt32).toInt32).toUInt32 >>> ((8 : Int32) &&& 31).toUInt32).toInt32)), .val (.int (25 : Int32))] [(.int (4 : Int32)), (.int (((((Fmask xi).toUInt32 >>> ((16 : Int32) &&& 31).toUInt32).toInt32).toUInt32 >>> ((8 : Int32) &&& 31).toUInt32).toInt32))])) _
            by_cases hc7 : (4 : Int32) < (((((Fmask xi).toUInt32 >>> ((16 : Int32) &&& 31).toUInt32).toInt32).toUInt32 >>> ((8 : Int32) &&& 31).toUInt32).toInt32)
            · refine XS.icmpNo X0.here hx rfl (hb hby d9_64) rfl (tlt hc7).2.2.2 ?_
              have k : ∀ (v1 : Int32), v1 = ((27 : Int32) + (((((((((Fmask xi).toUInt32 >>> ((16 : Int32) &&& 31).toUInt32).toInt32).toUInt32 >>> ((8 : Int32) &&& 31).toUInt32).toInt32).toUInt32 >>> ((2 : Int32) &&& 31).toUInt32).toInt32).toUInt32 >>> ((1 : Int32) &&& 31).toUInt32).toInt32)) → ∀ (f : JFrame) (acts : List Action), f.method = m → f.locked = none → f.entered = [] → (doReturn e (s₁.setTop f) acts (some (.int v1))).1 = s₁.setFrames fs := fun v1 hv1 => k v1 (hv1.trans (if_pos hc7).symm)
              show Steps p.tables e below (s₁.setTop (mkF m 67 #[.val (.int (((((Fmask xi).toUInt32 >>> ((16 : Int32) &&& 31).toUInt32).toInt32).toUInt32 >>> ((8 : Int32) &&& 31).toUInt32).toInt32)), .val (.int (25 : Int32))] [])) _
              refine XS.iinc X0.here hx rfl (hb hby d9_67) rfl (l' := #[.val (.int (((((Fmask xi).toUInt32 >>> ((16 : Int32) &&& 31).toUInt32).toInt32).toUInt32 >>> ((8 : Int32) &&& 31).toUInt32).toInt32)), .val (.int (27 : Int32))]) rfl ?_
              show Steps p.tables e below (s₁.setTop (mkF m 70 #[.val (.int (((((Fmask xi).toUInt32 >>> ((16 : Int32) &&& 31).toUInt32).toInt32).toUInt32 >>> ((8 : Int32) &&& 31).toUInt32).toInt32)), .val (.int (27 : Int32))] [])) _
              refine XS.iloadN X0.here hx rfl (hb hby d9_70) rfl ?_
              show Steps p.tables e below (s₁.setTop (mkF m 71 #[.val (.int (((((Fmask xi).toUInt32 >>> ((16 : Int32) &&& 31).toUInt32).toInt32).toUInt32 >>> ((8 : Int32) &&& 31).toUInt32).toInt32)), .val (.int (27 : Int32))] [(.int (((((Fmask xi).toUInt32 >>> ((16 : Int32) &&& 31).toUInt32).toInt32).toUInt32 >>> ((8 : Int32) &&& 31).toUInt32).toInt32))])) _
              refine XS.iconst X0.here hx rfl (hb hby d9_71) ?_
              show Steps p.tables e below (s₁.setTop (mkF m 72 #[.val (.int (((((Fmask xi).toUInt32 >>> ((16 : Int32) &&& 31).toUInt32).toInt32).toUInt32 >>> ((8 : Int32) &&& 31).toUInt32).toInt32)), .val (.int (27 : Int32))] [(.int (2 : Int32)), (.int (((((Fmask xi).toUInt32 >>> ((16 : Int32) &&& 31).toUInt32).toInt32).toUInt32 >>> ((8 : Int32) &&& 31).toUInt32).toInt32))])) _
              refine XS.iushr X0.here hx rfl (hb hby d9_72) rfl ?_
              show Steps p.tables e below (s₁.setTop (mkF m 73 #[.val (.int (((((Fmask xi).toUInt32 >>> ((16 : Int32) &&& 31).toUInt32).toInt32).toUInt32 >>> ((8 : Int32) &&& 31).toUInt32).toInt32)), .val (.int (27 : Int32))] [(.int (((((((Fmask xi).toUInt32 >>> ((16 : Int32) &&& 31).toUInt32).toInt32).toUInt32 >>> ((8 : Int32) &&& 31).toUInt32).toInt32).toUInt32 >>> ((2 : Int32) &&& 31).toUInt32).toInt32))])) _
              refine XS.istoreN X0.here hx rfl (hb hby d9_73) rfl (l' := #[.val (.int (((((((Fmask xi).toUInt32 >>> ((16 : Int32) &&& 31).toUInt32).toInt32).toUInt32 >>> ((8 : Int32) &&& 31).toUInt32).toInt32).toUInt32 >>> ((2 : Int32) &&& 31).toUInt32).toInt32)), .val (.int (27 : Int32))]) rfl ?_
              show Steps p.tables e below (s₁.setTop (mkF m 74 #[.val (.int (((((((Fmask xi).toUInt32 >>> ((16 : Int32) &&& 31).toUInt32).toInt32).toUInt32 >>> ((8 : Int32) &&& 31).toUInt32).toInt32).toUInt32 >>> ((2 : Int32) &&& 31).toUInt32).toInt32)), .val (.int (27 : Int32))] [])) _
              refine XS.iloadN X0.here hx rfl (hb hby d9_74) rfl ?_
              show Steps p.tables e below (s₁.setTop (mkF m 75 #[.val (.int (((((((Fmask xi).toUInt32 >>> ((16 : Int32) &&& 31).toUInt32).toInt32).toUInt32 >>> ((8 : Int32) &&& 31).toUInt32).toInt32).toUInt32 >>> ((2 : Int32) &&& 31).toUInt32).toInt32)), .val (.int (27 : Int32))] [(.int (27 : Int32))])) _
              refine XS.iloadN X0.here hx rfl (hb hby d9_75) rfl ?_
              show Steps p.tables e below (s₁.setTop (mkF m 76 #[.val (.int (((((((Fmask xi).toUInt32 >>> ((16 : Int32) &&& 31).toUInt32).toInt32).toUInt32 >>> ((8 : Int32) &&& 31).toUInt32).toInt32).toUInt32 >>> ((2 : Int32) &&& 31).toUInt32).toInt32)), .val (.int (27 : Int32))] [(.int (((((((Fmask xi).toUInt32 >>> ((16 : Int32) &&& 31).toUInt32).toInt32).toUInt32 >>> ((8 : Int32) &&& 31).toUInt32).toInt32).toUInt32 >>> ((2 : Int32) &&& 31).toUInt32).toInt32)), (.int (27 : Int32))])) _
              refine XS.iconst X0.here hx rfl (hb hby d9_76) ?_
              show Steps p.tables e below (s₁.setTop (mkF m 77 #[.val (.int (((((((Fmask xi).toUInt32 >>> ((16 : Int32) &&& 31).toUInt32).toInt32).toUInt32 >>> ((8 : Int32) &&& 31).toUInt32).toInt32).toUInt32 >>> ((2 : Int32) &&& 31).toUInt32).toInt32)), .val (.int (27 : Int32))] [(.int (1 : Int32)), (.int (((((((Fmask xi).toUInt32 >>> ((16 : Int32) &&& 31).toUInt32).toInt32).toUInt32 >>> ((8 : Int32) &&& 31).toUInt32).toInt32).toUInt32 >>> ((2 : Int32) &&& 31).toUInt32).toInt32)), (.int (27 : Int32))])) _
              refine XS.iushr X0.here hx rfl (hb hby d9_77) rfl ?_
              show Steps p.tables e below (s₁.setTop (mkF m 78 #[.val (.int (((((((Fmask xi).toUInt32 >>> ((16 : Int32) &&& 31).toUInt32).toInt32).toUInt32 >>> ((8 : Int32) &&& 31).toUInt32).toInt32).toUInt32 >>> ((2 : Int32) &&& 31).toUInt32).toInt32)), .val (.int (27 : Int32))] [(.int (((((((((Fmask xi).toUInt32 >>> ((16 : Int32) &&& 31).toUInt32).toInt32).toUInt32 >>> ((8 : Int32) &&& 31).toUInt32).toInt32).toUInt32 >>> ((2 : Int32) &&& 31).toUInt32).toInt32).toUInt32 >>> ((1 : Int32) &&& 31).toUInt32).toInt32)), (.int (27 : Int32))])) _
              refine XS.iadd X0.here hx rfl (hb hby d9_78) rfl ?_
              show Steps p.tables e below (s₁.setTop (mkF m 79 #[.val (.int (((((((Fmask xi).toUInt32 >>> ((16 : Int32) &&& 31).toUInt32).toInt32).toUInt32 >>> ((8 : Int32) &&& 31).toUInt32).toInt32).toUInt32 >>> ((2 : Int32) &&& 31).toUInt32).toInt32)), .val (.int (27 : Int32))] [(.int ((27 : Int32) + (((((((((Fmask xi).toUInt32 >>> ((16 : Int32) &&& 31).toUInt32).toInt32).toUInt32 >>> ((8 : Int32) &&& 31).toUInt32).toInt32).toUInt32 >>> ((2 : Int32) &&& 31).toUInt32).toInt32).toUInt32 >>> ((1 : Int32) &&& 31).toUInt32).toInt32)))])) _
              exact retI X0 hx Bd.returns (hb hby d9_79) (k _ rfl)
            · refine XS.icmpYes X0.here hx rfl (pc0 := 64) (pc' := 74) rfl (hb hby d9_64) rfl (flt hc7).2.2.2 (by decide) (by decide) ?_
              have k : ∀ (v1 : Int32), v1 = ((25 : Int32) + (((((((Fmask xi).toUInt32 >>> ((16 : Int32) &&& 31).toUInt32).toInt32).toUInt32 >>> ((8 : Int32) &&& 31).toUInt32).toInt32).toUInt32 >>> ((1 : Int32) &&& 31).toUInt32).toInt32)) → ∀ (f : JFrame) (acts : List Action), f.method = m → f.locked = none → f.entered = [] → (doReturn e (s₁.setTop f) acts (some (.int v1))).1 = s₁.setFrames fs := fun v1 hv1 => k v1 (hv1.trans (if_neg hc7).symm)
              show Steps p.tables e below (s₁.setTop (mkF m 74 #[.val (.int (((((Fmask xi).toUInt32 >>> ((16 : Int32) &&& 31).toUInt32).toInt32).toUInt32 >>> ((8 : Int32) &&& 31).toUInt32).toInt32)), .val (.int (25 : Int32))] [])) _
              refine XS.iloadN X0.here hx rfl (hb hby d9_74) rfl ?_
              show Steps p.tables e below (s₁.setTop (mkF m 75 #[.val (.int (((((Fmask xi).toUInt32 >>> ((16 : Int32) &&& 31).toUInt32).toInt32).toUInt32 >>> ((8 : Int32) &&& 31).toUInt32).toInt32)), .val (.int (25 : Int32))] [(.int (25 : Int32))])) _
              refine XS.iloadN X0.here hx rfl (hb hby d9_75) rfl ?_
              show Steps p.tables e below (s₁.setTop (mkF m 76 #[.val (.int (((((Fmask xi).toUInt32 >>> ((16 : Int32) &&& 31).toUInt32).toInt32).toUInt32 >>> ((8 : Int32) &&& 31).toUInt32).toInt32)), .val (.int (25 : Int32))] [(.int (((((Fmask xi).toUInt32 >>> ((16 : Int32) &&& 31).toUInt32).toInt32).toUInt32 >>> ((8 : Int32) &&& 31).toUInt32).toInt32)), (.int (25 : Int32))])) _
              refine XS.iconst X0.here hx rfl (hb hby d9_76) ?_
              show Steps p.tables e below (s₁.setTop (mkF m 77 #[.val (.int (((((Fmask xi).toUInt32 >>> ((16 : Int32) &&& 31).toUInt32).toInt32).toUInt32 >>> ((8 : Int32) &&& 31).toUInt32).toInt32)), .val (.int (25 : Int32))] [(.int (1 : Int32)), (.int (((((Fmask xi).toUInt32 >>> ((16 : Int32) &&& 31).toUInt32).toInt32).toUInt32 >>> ((8 : Int32) &&& 31).toUInt32).toInt32)), (.int (25 : Int32))])) _
              refine XS.iushr X0.here hx rfl (hb hby d9_77) rfl ?_
              show Steps p.tables e below (s₁.setTop (mkF m 78 #[.val (.int (((((Fmask xi).toUInt32 >>> ((16 : Int32) &&& 31).toUInt32).toInt32).toUInt32 >>> ((8 : Int32) &&& 31).toUInt32).toInt32)), .val (.int (25 : Int32))] [(.int (((((((Fmask xi).toUInt32 >>> ((16 : Int32) &&& 31).toUInt32).toInt32).toUInt32 >>> ((8 : Int32) &&& 31).toUInt32).toInt32).toUInt32 >>> ((1 : Int32) &&& 31).toUInt32).toInt32)), (.int (25 : Int32))])) _
              refine XS.iadd X0.here hx rfl (hb hby d9_78) rfl ?_
              show Steps p.tables e below (s₁.setTop (mkF m 79 #[.val (.int (((((Fmask xi).toUInt32 >>> ((16 : Int32) &&& 31).toUInt32).toInt32).toUInt32 >>> ((8 : Int32) &&& 31).toUInt32).toInt32)), .val (.int (25 : Int32))] [(.int ((25 : Int32) + (((((((Fmask xi).toUInt32 >>> ((16 : Int32) &&& 31).toUInt32).toInt32).toUInt32 >>> ((8 : Int32) &&& 31).toUInt32).toInt32).toUInt32 >>> ((1 : Int32) &&& 31).toUInt32).toInt32)))])) _
              exact retI X0 hx Bd.returns (hb hby d9_79) (k _ rfl)
        · refine XS.icmpYes X0.here hx rfl (pc0 := 38) (pc' := 49) rfl (hb hby d9_38) rfl (flt hc4).2.2.2 (by decide) (by decide) ?_
          have k : ∀ (v1 : Int32), v1 = (if (16 : Int32) < (((Fmask xi).toUInt32 >>> ((16 : Int32) &&& 31).toUInt32).toInt32) then (if (4 : Int32) < (((((Fmask xi).toUInt32 >>> ((16 : Int32) &&& 31).toUInt32).toInt32).toUInt32 >>> ((4 : Int32) &&& 31).toUInt32).toInt32) then ((23 : Int32) + (((((((((Fmask xi).toUInt32 >>> ((16 : Int32) &&& 31).toUInt32).toInt32).toUInt32 >>> ((4 : Int32) &&& 31).toUInt32).toInt32).toUInt32 >>> ((2 : Int32) &&& 31).toUInt32).toInt32).toUInt32 >>> ((1 : Int32) &&& 31).toUInt32).toInt32)) else ((21 : Int32) + (((((((Fmask xi).toUInt32 >>> ((16 : Int32) &&& 31).toUInt32).toInt32).toUInt32 >>> ((4 : Int32) &&& 31).toUInt32).toInt32).toUInt32 >>> ((1 : Int32) &&& 31).toUInt32).toInt32))) else (if (4 : Int32) < (((Fmask xi).toUInt32 >>> ((16 : Int32) &&& 31).toUInt32).toInt32) then ((19 : Int32) + (((((((Fmask xi).toUInt32 >>> ((16 : Int32) &&& 31).toUInt32).toInt32).toUInt32 >>> ((2 : Int32) &&& 31).toUInt32).toInt32).toUInt32 >>> ((1 : Int32) &&& 31).toUInt32).toInt32)) else ((17 : Int32) + (((((Fmask xi).toUInt32 >>> ((16 : Int32) &&& 31).toUInt32).toInt32).toUInt32 >>> ((1 : Int32) &&& 31).toUInt32).toInt32)))) → ∀ (f : JFrame) (acts : List Action), f.method = m → f.locked = none → f.entered = [] → (doReturn e (s₁.setTop f) acts (some (.int v1))).1 = s₁.setFrames fs := fun v1 hv1 => k v1 (hv1.trans (if_neg hc4).symm)
          show Steps p.tables e below (s₁.setTop (mkF m 49 #[.val (.int (((Fmask xi).toUInt32 >>> ((16 : Int32) &&& 31).toUInt32).toInt32)), .val (.int (17 : Int32))] [])) _
          refine XS.iloadN X0.here hx rfl (hb hby d9_49) rfl ?_
          show Steps p.tables e below (s₁.setTop (mkF m 50 #[.val (.int (((Fmask xi).toUInt32 >>> ((16 : Int32) &&& 31).toUInt32).toInt32)), .val (.int (17 : Int32))] [(.int (((Fmask xi).toUInt32 >>> ((16 : Int32) &&& 31).toUInt32).toInt32))])) _
          refine XS.bipush X0.here hx rfl (hb hby d9_50) ?_
          show Steps p.tables e below (s₁.setTop (mkF m 52 #[.val (.int (((Fmask xi).toUInt32 >>> ((16 : Int32) &&& 31).toUInt32).toInt32)), .val (.int (17 : Int32))] [(.int (16 : Int32)), (.int (((Fmask xi).toUInt32 >>> ((16 : Int32) &&& 31).toUInt32).toInt32))])) _
          by_cases hc8 : (16 : Int32) < (((Fmask xi).toUInt32 >>> ((16 : Int32) &&& 31).toUInt32).toInt32)
          · refine XS.icmpNo X0.here hx rfl (hb hby d9_52) rfl (tlt hc8).2.2.2 ?_
            have k : ∀ (v1 : Int32), v1 = (if (4 : Int32) < (((((Fmask xi).toUInt32 >>> ((16 : Int32) &&& 31).toUInt32).toInt32).toUInt32 >>> ((4 : Int32) &&& 31).toUInt32).toInt32) then ((23 : Int32) + (((((((((Fmask xi).toUInt32 >>> ((16 : Int32) &&& 31).toUInt32).toInt32).toUInt32 >>> ((4 : Int32) &&& 31).toUInt32).toInt32).toUInt32 >>> ((2 : Int32) &&& 31).toUInt32).toInt32).toUInt32 >>> ((1 : Int32) &&& 31).toUInt32).toInt32)) else ((21 : Int32) + (((((((Fmask xi).toUInt32 >>> ((16 : Int32) &&& 31).toUInt32).toInt32).toUInt32 >>> ((4 : Int32) &&& 31).toUInt32).toInt32).toUInt32 >>> ((1 : Int32) &&& 31).toUInt32).toInt32))) → ∀ (f : JFrame) (acts : List Action), f.method = m → f.locked = none → f.entered = [] → (doReturn e (s₁.setTop f) acts (some (.int v1))).1 = s₁.setFrames fs := fun v1 hv1 => k v1 (hv1.trans (if_pos hc8).symm)
            show Steps p.tables e below (s₁.setTop (mkF m 55 #[.val (.int (((Fmask xi).toUInt32 >>> ((16 : Int32) &&& 31).toUInt32).toInt32)), .val (.int (17 : Int32))] [])) _
            refine XS.iinc X0.here hx rfl (hb hby d9_55) rfl (l' := #[.val (.int (((Fmask xi).toUInt32 >>> ((16 : Int32) &&& 31).toUInt32).toInt32)), .val (.int (21 : Int32))]) rfl ?_
            show Steps p.tables e below (s₁.setTop (mkF m 58 #[.val (.int (((Fmask xi).toUInt32 >>> ((16 : Int32) &&& 31).toUInt32).toInt32)), .val (.int (21 : Int32))] [])) _
            refine XS.iloadN X0.here hx rfl (hb hby d9_58) rfl ?_
            show Steps p.tables e below (s₁.setTop (mkF m 59 #[.val (.int (((Fmask xi).toUInt32 >>> ((16 : Int32) &&& 31).toUInt32).toInt32)), .val (.int (21 : Int32))] [(.int (((Fmask xi).toUInt32 >>> ((16 : Int32) &&& 31).toUInt32).toInt32))])) _
            refine XS.iconst X0.here hx rfl (hb hby d9_59) ?_
            show Steps p.tables e below (s₁.setTop (mkF m 60 #[.val (.int (((Fmask xi).toUInt32 >>> ((16 : Int32) &&& 31).toUInt32).toInt32)), .val (.int (21 : Int32))] [(.int (4 : Int32)), (.int (((Fmask xi).toUInt32 >>> ((16 : Int32) &&& 31).toUInt32).toInt32))])) _
            refine XS.iushr X0.here hx rfl (hb hby d9_60) rfl ?_
            show Steps p.tables e below (s₁.setTop (mkF m 61 #[.val (.int (((Fmask xi).toUInt32 >>> ((16 : Int32) &&& 31).toUInt32).toInt32)), .val (.int (21 : Int32))] [(.int (((((Fmask xi).toUInt32 >>> ((16 : Int32) &&& 31).toUInt32).toInt32).toUInt32 >>> ((4 : Int32) &&& 31).toUInt32).toInt32))])) _
            refine XS.istoreN X0.here hx rfl (hb hby d9_61) rfl (l' := #[.val (.int (((((Fmask xi).toUInt32 >>> ((16 : Int32) &&& 31).toUInt32).toInt32).toUInt32 >>> ((4 : Int32) &&& 31).toUInt32).toInt32)), .val (.int (21 : Int32))]) rfl ?_
            show Steps p.tables e below (s₁.setTop (mkF m 62 #[.val (.int (((((Fmask xi).toUInt32 >>> ((16 : Int32) &&& 31).toUInt32).toInt32).toUInt32 >>> ((4 : Int32) &&& 31).toUInt32).toInt32)), .val (.int (21 : Int32))] [])) _
            refine XS.iloadN X0.here hx rfl (hb hby d9_62) rfl ?_
            show Steps p.tables e below (s₁.setTop (mkF m 63 #[.val (.int (((((Fmask xi).toUInt32 >>> ((16 : Int32) &&& 31).toUInt32).toInt32).toUInt32 >>> ((4 : Int32) &&& 31).toUInt32).toInt32)), .val (.int (21 : Int32))] [(.int (((((Fmask xi).toUInt32 >>> ((16 : Int32) &&& 31).toUInt32).toInt32).toUInt32 >>> ((4 : Int32) &&& 31).toUInt32).toInt32))])) _
            refine XS.iconst X0.here hx rfl (hb hby d9_63) ?_
            show Steps p.tables e below (s₁.setTop (mkF m 64 #[.val (.int (((((Fmask xi).toUInt32 >>> ((16 : Int32) &&& 31).toUInt32).toInt32).toUInt32 >>> ((4 : Int32) &&& 31).toUInt32).toInt32)), .val (.int (21 : Int32))] [(.int (4 : Int32)), (.int (((((Fmask xi).toUInt32 >>> ((16 : Int32) &&& 31).toUInt32).toInt32).toUInt32 >>> ((4 : Int32) &&& 31).toUInt32).toInt32))])) _
            by_cases hc9 : (4 : Int32) < (((((Fmask xi).toUInt32 >>> ((16 : Int32) &&& 31).toUInt32).toInt32).toUInt32 >>> ((4 : Int32) &&& 31).toUInt32).toInt32)
            · refine XS.icmpNo X0.here hx rfl (hb hby d9_64) rfl (tlt hc9).2.2.2 ?_
              have k : ∀ (v1 : Int32), v1 = ((23 : Int32) + (((((((((Fmask xi).toUInt32 >>> ((16 : Int32) &&& 31).toUInt32).toInt32).toUInt32 >>> ((4 : Int32) &&& 31).toUInt32).toInt32).toUInt32 >>> ((2 : Int32) &&& 31).toUInt32).toInt32).toUInt32 >>> ((1 : Int32) &&& 31).toUInt32).toInt32)) → ∀ (f : JFrame) (acts : List Action), f.method = m → f.locked = none → f.entered = [] → (doReturn e (s₁.setTop f) acts (some (.int v1))).1 = s₁.setFrames fs := fun v1 hv1 => k v1 (hv1.trans (if_pos hc9).symm)
              show Steps p.tables e below (s₁.setTop (mkF m 67 #[.val (.int (((((Fmask xi).toUInt32 >>> ((16 : Int32) &&& 31).toUInt32).toInt32).toUInt32 >>> ((4 : Int32) &&& 31).toUInt32).toInt32)), .val (.int (21 : Int32))] [])) _
              refine XS.iinc X0.here hx rfl (hb hby d9_67) rfl (l' := #[.val (.int (((((Fmask xi).toUInt32 >>> ((16 : Int32) &&& 31).toUInt32).toInt32).toUInt32 >>> ((4 : Int32) &&& 31).toUInt32).toInt32)), .val (.int (23 : Int32))]) rfl ?_
              show Steps p.tables e below (s₁.setTop (mkF m 70 #[.val (.int (((((Fmask xi).toUInt32 >>> ((16 : Int32) &&& 31).toUInt32).toInt32).toUInt32 >>> ((4 : Int32) &&& 31).toUInt32).toInt32)), .val (.int (23 : Int32))] [])) _
              refine XS.iloadN X0.here hx rfl (hb hby d9_70) rfl ?_
              show Steps p.tables e below (s₁.setTop (mkF m 71 #[.val (.int (((((Fmask xi).toUInt32 >>> ((16 : Int32) &&& 31).toUInt32).toInt32).toUInt32 >>> ((4 : Int32) &&& 31).toUInt32).toInt32)), .val (.int (23 : Int32))] [(.int (((((Fmask xi).toUInt32 >>> ((16 : Int32) &&& 31).toUInt32).toInt32).toUInt32 >>> ((4 : Int32) &&& 31).toUInt32).toInt32))])) _
              refine XS.iconst X0.here hx rfl (hb hby d9_71) ?_
              show Steps p.tables e below (s₁.setTop (mkF m 72 #[.val (.int (((((Fmask xi).toUInt32 >>> ((16 : Int32) &&& 31).toUInt32).toInt32).toUInt32 >>> ((4 : Int32) &&& 31).toUInt32).toInt32)), .val (.int (23 : Int32))] [(.int (2 : Int32)), (.int (((((Fmask xi).toUInt32 >>> ((16 : Int32) &&& 31).toUInt32).toInt32).toUInt32 >>> ((4 : Int32) &&& 31).toUInt32).toInt32))])) _
              refine XS.iushr X0.here hx rfl (hb hby d9_72) rfl ?_
              show Steps p.tables e below (s₁.setTop (mkF m 73 #[.val (.int (((((Fmask xi).toUInt32 >>> ((16 : Int32) &&& 31).toUInt32).toInt32).toUInt32 >>> ((4 : Int32) &&& 31).toUInt32).toInt32)), .val (.int (23 : Int32))] [(.int (((((((Fmask xi).toUInt32 >>> ((16 : Int32) &&& 31).toUInt32).toInt32).toUInt32 >>> ((4 : Int32) &&& 31).toUInt32).toInt32).toUInt32 >>> ((2 : Int32) &&& 31).toUInt32).toInt32))])) _
              refine XS.istoreN X0.here hx rfl (hb hby d9_73) rfl (l' := #[.val (.int (((((((Fmask xi).toUInt32 >>> ((16 : Int32) &&& 31).toUInt32).toInt32).toUInt32 >>> ((4 : Int32) &&& 31).toUInt32).toInt32).toUInt32 >>> ((2 : Int32) &&& 31).toUInt32).toInt32)), .val (.int (23 : Int32))]) rfl ?_
              show Steps p.tables e below (s₁.setTop (mkF m 74 #[.val (.int (((((((Fmask xi).toUInt32 >>> ((16 : Int32) &&& 31).toUInt32).toInt32).toUInt32 >>> ((4 : Int32) &&& 31).toUInt32).toInt32).toUInt32 >>> ((2 : Int32) &&& 31).toUInt32).toInt32)), .val (.int (23 : Int32))] [])) _
              refine XS.iloadN X0.here hx rfl (hb hby d9_74) rfl ?_
              show Steps p.tables e below (s₁.setTop (mkF m 75 #[.val (.int (((((((Fmask xi).toUInt32 >>> ((16 : Int32) &&& 31).toUInt32).toInt32).toUInt32 >>> ((4 : Int32) &&& 31).toUInt32).toInt32).toUInt32 >>> ((2 : Int32) &&& 31).toUInt32).toInt32)), .val (.int (23 : Int32))] [(.int (23 : Int32))])) _
              refine XS.iloadN X0.here hx rfl (hb hby d9_75) rfl ?_
              show Steps p.tables e below (s₁.setTop (mkF m 76 #[.val (.int (((((((Fmask xi).toUInt32 >>> ((16 : Int32) &&& 31).toUInt32).toInt32).toUInt32 >>> ((4 : Int32) &&& 31).toUInt32).toInt32).toUInt32 >>> ((2 : Int32) &&& 31).toUInt32).toInt32)), .val (.int (23 : Int32))] [(.int (((((((Fmask xi).toUInt32 >>> ((16 : Int32) &&& 31).toUInt32).toInt32).toUInt32 >>> ((4 : Int32) &&& 31).toUInt32).toInt32).toUInt32 >>> ((2 : Int32) &&& 31).toUInt32).toInt32)), (.int (23 : Int32))])) _
              refine XS.iconst X0.here hx rfl (hb hby d9_76) ?_
              show Steps p.tables e below (s₁.setTop (mkF m 77 #[.val (.int (((((((Fmask xi).toUInt32 >>> ((16 : Int32) &&& 31).toUInt32).toInt32).toUInt32 >>> ((4 : Int32) &&& 31).toUInt32).toInt32).toUInt32 >>> ((2 : Int32) &&& 31).toUInt32).toInt32)), .val (.int (23 : Int32))] [(.int (1 : Int32)), (.int (((((((Fmask xi).toUInt32 >>> ((16 : Int32) &&& 31).toUInt32).toInt32).toUInt32 >>> ((4 : Int32) &&& 31).toUInt32).toInt32).toUInt32 >>> ((2 : Int32) &&& 31).toUInt32).toInt32)), (.int (23 : Int32))])) _
              refine XS.iushr X0.here hx rfl (hb hby d9_77) rfl ?_
              show Steps p.tables e below (s₁.setTop (mkF m 78 #[.val (.int (((((((Fmask xi).toUInt32 >>> ((16 : Int32) &&& 31).toUInt32).toInt32).toUInt32 >>> ((4 : Int32) &&& 31).toUInt32).toInt32).toUInt32 >>> ((2 : Int32) &&& 31).toUInt32).toInt32)), .val (.int (23 : Int32))] [(.int (((((((((Fmask xi).toUInt32 >>> ((16 : Int32) &&& 31).toUInt32).toInt32).toUInt32 >>> ((4 : Int32) &&& 31).toUInt32).toInt32).toUInt32 >>> ((2 : Int32) &&& 31).toUInt32).toInt32).toUInt32 >>> ((1 : Int32) &&& 31).toUInt32).toInt32)), (.int (23 : Int32))])) _
              refine XS.iadd X0.here hx rfl (hb hby d9_78) rfl ?_
              show Steps p.tables e below (s₁.setTop (mkF m 79 #[.val (.int (((((((Fmask xi).toUInt32 >>> ((16 : Int32) &&& 31).toUInt32).toInt32).toUInt32 >>> ((4 : Int32) &&& 31).toUInt32).toInt32).toUInt32 >>> ((2 : Int32) &&& 31).toUInt32).toInt32)), .val (.int (23 : Int32))] [(.int ((23 : Int32) + (((((((((Fmask xi).toUInt32 >>> ((16 : Int32) &&& 31).toUInt32).toInt32).toUInt32 >>> ((4 : Int32) &&& 31).toUInt32).toInt32).toUInt32 >>> ((2 : Int32) &&& 31).toUInt32).toInt32).toUInt32 >>> ((1 : Int32) &&& 31).toUInt32).toInt32)))])) _
              exact retI X0 hx Bd.returns (hb hby d9_79) (k _ rfl)
            · refine XS.icmpYes X0.here hx rfl (pc0 := 64) (pc' := 74) rfl (hb hby d9_64) rfl (flt hc9).2.2.2 (by decide) (by decide) ?_
              have k : ∀ (v1 : Int32), v1 = ((21 : Int32) + (((((((Fmask xi).toUInt32 >>> ((16 : Int32) &&& 31).toUInt32).toInt32).toUInt32 >>> ((4 : Int32) &&& 31).toUInt32).toInt32).toUInt32 >>> ((1 : Int32) &&& 31).toUInt32).toInt32)) → ∀ (f : JFrame) (acts : List Action), f.method = m → f.locked = none → f.entered = [] → (doReturn e (s₁.setTop f) acts (some (.int v1))).1 = s₁.setFrames fs := fun v1 hv1 => k v1 (hv1.trans (if_neg hc9).symm)
              show Steps p.tables e below (s₁.setTop (mkF m 74 #[.val (.int (((((Fmask xi).toUInt32 >>> ((16 : Int32) &&& 31).toUInt32).toInt32).toUInt32 >>> ((4 : Int32) &&& 31).toUInt32).toInt32)), .val (.int (21 : Int32))] [])) _
              refine XS.iloadN X0.here hx rfl (hb hby d9_74) rfl ?_
              show Steps p.tables e below (s₁.setTop (mkF m 75 #[.val (.int (((((Fmask xi).toUInt32 >>> ((16 : Int32) &&& 31).toUInt32).toInt32).toUInt32 >>> ((4 : Int32) &&& 31).toUInt32).toInt32)), .val (.int (21 : Int32))] [(.int (21 : Int32))])) _
              refine XS.iloadN X0.here hx rfl (hb hby d9_75) rfl ?_
              show Steps p.tables e below (s₁.setTop (mkF m 76 #[.val (.int (((((Fmask xi).toUInt32 >>> ((16 : Int32) &&& 31).toUInt32).toInt32).toUInt32 >>> ((4 : Int32) &&& 31).toUInt32).toInt32)), .val (.int (21 : Int32))] [(.int (((((Fmask xi).toUInt32 >>> ((16 : Int32) &&& 31).toUInt32).toInt32).toUInt32 >>> ((4 : Int32) &&& 31).toUInt32).toInt32)), (.int (21 : Int32))])) _
              refine XS.iconst X0.here hx rfl (hb hby d9_76) ?_
              show Steps p.tables e below (s₁.setTop (mkF m 77 #[.val (.int (((((Fmask xi).toUInt32 >>> ((16 : Int32) &&& 31).toUInt32).toInt32).toUInt32 >>> ((4 : Int32) &&& 31).toUInt32).toInt32)), .val (.int (21 : Int32))] [(.int (1 : Int32)), (.int (((((Fmask xi).toUInt32 >>> ((16 : Int32) &&& 31).toUInt32).toInt32).toUInt32 >>> ((4 : Int32) &&& 31).toUInt32).toInt32)), (.int (21 : Int32))])) _
              refine XS.iushr X0.here hx rfl (hb hby d9_77) rfl ?_
              show Steps p.tables e below (s₁.setTop (mkF m 78 #[.val (.int (((((Fmask xi).toUInt32 >>> ((16 : Int32) &&& 31).toUInt32).toInt32).toUInt32 >>> ((4 : Int32) &&& 31).toUInt32).toInt32)), .val (.int (21 : Int32))] [(.int (((((((Fmask xi).toUInt32 >>> ((16 : Int32) &&& 31).toUInt32).toInt32).toUInt32 >>> ((4 : Int32) &&& 31).toUInt32).toInt32).toUInt32 >>> ((1 : Int32) &&& 31).toUInt32).toInt32)), (.int (21 : Int32))])) _
              refine XS.iadd X0.here hx rfl (hb hby d9_78) rfl ?_
              show Steps p.tables e below (s₁.setTop (mkF m 79 #[.val (.int (((((Fmask xi).toUInt32 >>> ((16 : Int32) &&& 31).toUInt32).toInt32).toUInt32 >>> ((4 : Int32) &&& 31).toUInt32).toInt32)), .val (.int (21 : Int32))] [(.int ((21 : Int32) + (((((((Fmask xi).toUInt32 >>> ((16 : Int32) &&& 31).toUInt32).toInt32).toUInt32 >>> ((4 : Int32) &&& 31).toUInt32).toInt32).toUInt32 >>> ((1 : Int32) &&& 31).toUInt32).toInt32)))])) _
              exact retI X0 hx Bd.returns (hb hby d9_79) (k _ rfl)
          · refine XS.icmpYes X0.here hx rfl (pc0 := 52) (pc' := 62) rfl (hb hby d9_52) rfl (flt hc8).2.2.2 (by decide) (by decide) ?_
            have k : ∀ (v1 : Int32), v1 = (if (4 : Int32) < (((Fmask xi).toUInt32 >>> ((16 : Int32) &&& 31).toUInt32).toInt32) then ((19 : Int32) + (((((((Fmask xi).toUInt32 >>> ((16 : Int32) &&& 31).toUInt32).toInt32).toUInt32 >>> ((2 : Int32) &&& 31).toUInt32).toInt32).toUInt32 >>> ((1 : Int32) &&& 31).toUInt32).toInt32)) else ((17 : Int32) + (((((Fmask xi).toUInt32 >>> ((16 : Int32) &&& 31).toUInt32).toInt32).toUInt32 >>> ((1 : Int32) &&& 31).toUInt32).toInt32))) → ∀ (f : JFrame) (acts : List Action), f.method = m → f.locked = none → f.entered = [] → (doReturn e (s₁.setTop f) acts (some (.int v1))).1 = s₁.setFrames fs := fun v1 hv1 => k v1 (hv1.trans (if_neg hc8).symm)
            show Steps p.tables e below (s₁.setTop (mkF m 62 #[.val (.int (((Fmask xi).toUInt32 >>> ((16 : Int32) &&& 31).toUInt32).toInt32)), .val (.int (17 : Int32))] [])) _
            refine XS.iloadN X0.here hx rfl (hb hby d9_62) rfl ?_
            show Steps p.tables e below (s₁.setTop (mkF m 63 #[.val (.int (((Fmask xi).toUInt32 >>> ((16 : Int32) &&& 31).toUInt32).toInt32)), .val (.int (17 : Int32))] [(.int (((Fmask xi).toUInt32 >>> ((16 : Int32) &&& 31).toUInt32).toInt32))])) _
            refine XS.iconst X0.here hx rfl (hb hby d9_63) ?_
            show Steps p.tables e below (s₁.setTop (mkF m 64 #[.val (.int (((Fmask xi).toUInt32 >>> ((16 : Int32) &&& 31).toUInt32).toInt32)), .val (.int (17 : Int32))] [(.int (4 : Int32)), (.int (((Fmask xi).toUInt32 >>> ((16 : Int32) &&& 31).toUInt32).toInt32))])) _
            by_cases hc10 : (4 : Int32) < (((Fmask xi).toUInt32 >>> ((16 : Int32) &&& 31).toUInt32).toInt32)
            · refine XS.icmpNo X0.here hx rfl (hb hby d9_64) rfl (tlt hc10).2.2.2 ?_
              have k : ∀ (v1 : Int32), v1 = ((19 : Int32) + (((((((Fmask xi).toUInt32 >>> ((16 : Int32) &&& 31).toUInt32).toInt32).toUInt32 >>> ((2 : Int32) &&& 31).toUInt32).toInt32).toUInt32 >>> ((1 : Int32) &&& 31).toUInt32).toInt32)) → ∀ (f : JFrame) (acts : List Action), f.method = m → f.locked = none → f.entered = [] → (doReturn e (s₁.setTop f) acts (some (.int v1))).1 = s₁.setFrames fs := fun v1 hv1 => k v1 (hv1.trans (if_pos hc10).symm)
              show Steps p.tables e below (s₁.setTop (mkF m 67 #[.val (.int (((Fmask xi).toUInt32 >>> ((16 : Int32) &&& 31).toUInt32).toInt32)), .val (.int (17 : Int32))] [])) _
              refine XS.iinc X0.here hx rfl (hb hby d9_67) rfl (l' := #[.val (.int (((Fmask xi).toUInt32 >>> ((16 : Int32) &&& 31).toUInt32).toInt32)), .val (.int (19 : Int32))]) rfl ?_
              show Steps p.tables e below (s₁.setTop (mkF m 70 #[.val (.int (((Fmask xi).toUInt32 >>> ((16 : Int32) &&& 31).toUInt32).toInt32)), .val (.int (19 : Int32))] [])) _
              refine XS.iloadN X0.here hx rfl (hb hby d9_70) rfl ?_
              show Steps p.tables e below (s₁.setTop (mkF m 71 #[.val (.int (((Fmask xi).toUInt32 >>> ((16 : Int32) &&& 31).toUInt32).toInt32)), .val (.int (19 : Int32))] [(.int (((Fmask xi).toUInt32 >>> ((16 : Int32) &&& 31).toUInt32).toInt32))])) _
              refine XS.iconst X0.here hx rfl (hb hby d9_71) ?_
              show Steps p.tables e below (s₁.setTop (mkF m 72 #[.val (.int (((Fmask xi).toUInt32 >>> ((16 : Int32) &&& 31).toUInt32).toInt32)), .val (.int (19 : Int32))] [(.int (2 : Int32)), (.int (((Fmask xi).toUInt32 >>> ((16 : Int32) &&& 31).toUInt32).toInt32))])) _
              refine XS.iushr X0.here hx rfl (hb hby d9_72) rfl ?_
              show Steps p.tables e below (s₁.setTop (mkF m 73 #[.val (.int (((Fmask xi).toUInt32 >>> ((16 : Int32) &&& 31).toUInt32).toInt32)), .val (.int (19 : Int32))] [(.int (((((Fmask xi).toUInt32 >>> ((16 : Int32) &&& 31).toUInt32).toInt32).toUInt32 >>> ((2 : Int32) &&& 31).toUInt32).toInt32))])) _
              refine XS.istoreN X0.here hx rfl (hb hby d9_73) rfl (l' := #[.val (.int (((((Fmask xi).toUInt32 >>> ((16 : Int32) &&& 31).toUInt32).toInt32).toUInt32 >>> ((2 : Int32) &&& 31).toUInt32).toInt32)), .val (.int (19 : Int32))]) rfl ?_
              show Steps p.tables e below (s₁.setTop (mkF m 74 #[.val (.int (((((Fmask xi).toUInt32 >>> ((16 : Int32) &&& 31).toUInt32).toInt32).toUInt32 >>> ((2 : Int32) &&& 31).toUInt32).toInt32)), .val (.int (19 : Int32))] [])) _
              refine XS.iloadN X0.here hx rfl (hb hby d9_74) rfl ?_
              show Steps p.tables e below (s₁.setTop (mkF m 75 #[.val (.int (((((Fmask xi).toUInt32 >>> ((16 : Int32) &&& 31).toUInt32).toInt32).toUInt32 >>> ((2 : Int32) &&& 31).toUInt32).toInt32)), .val (.int (19 : Int32))] [(.int (19 : Int32))])) _
              refine XS.iloadN X0.here hx rfl (hb hby d9_75) rfl ?_
              show Steps p.tables e below (s₁.setTop (mkF m 76 #[.val (.int (((((Fmask xi).toUInt32 >>> ((16 : Int32) &&& 31).toUInt32).toInt32).toUInt32 >>> ((2 : Int32) &&& 31).toUInt32).toInt32)), .val (.int (19 : Int32))] [(.int (((((Fmask xi).toUInt32 >>> ((16 : Int32) &&& 31).toUInt32).toInt32).toUInt32 >>> ((2 : Int32) &&& 31).toUInt32).toInt32)), (.int (19 : Int32))])) _
              refine XS.iconst X0.here hx rfl (hb hby d9_76) ?_
              show Steps p.tables e below (s₁.setTop (mkF m 77 #[.val (.int (((((Fmask xi).toUInt32 >>> ((16 : Int32) &&& 31).toUInt32).toInt32).toUInt32 >>> ((2 : Int32) &&& 31).toUInt32).toInt32)), .val (.int (19 : Int32))] [(.int (1 : Int32)), (.int (((((Fmask xi).toUInt32 >>> ((16 : Int32) &&& 31).toUInt32).toInt32).toUInt32 >>> ((2 : Int32) &&& 31).toUInt32).toInt32)), (.int (19 : Int32))])) _
              refine XS.iushr X0.here hx rfl (hb hby d9_77) rfl ?_
              show Steps p.tables e below (s₁.setTop (mkF m 78 #[.val (.int (((((Fmask xi).toUInt32 >>> ((16 : Int32) &&& 31).toUInt32).toInt32).toUInt32 >>> ((2 : Int32) &&& 31).toUInt32).toInt32)), .val (.int (19 : Int32))] [(.int (((((((Fmask xi).toUInt32 >>> ((16 : Int32) &&& 31).toUInt32).toInt32).toUInt32 >>> ((2 : Int32) &&& 31).toUInt32).toInt32).toUInt32 >>> ((1 : Int32) &&& 31).toUInt32).toInt32)), (.int (19 : Int32))])) _
              refine XS.iadd X0.here hx rfl (hb hby d9_78) rfl ?_
              show Steps p.tables e below (s₁.setTop (mkF m 79 #[.val (.int (((((Fmask xi).toUInt32 >>> ((16 : Int32) &&& 31).toUInt32).toInt32).toUInt32 >>> ((2 : Int32) &&& 31).toUInt32).toInt32)), .val (.int (19 : Int32))] [(.int ((19 : Int32) + (((((((Fmask xi).toUInt32 >>> ((16 : Int32) &&& 31).toUInt32).toInt32).toUInt32 >>> ((2 : Int32) &&& 31).toUInt32).toInt32).toUInt32 >>> ((1 : Int32) &&& 31).toUInt32).toInt32)))])) _
              exact retI X0 hx Bd.returns (hb hby d9_79) (k _ rfl)
            · refine XS.icmpYes X0.here hx rfl (pc0 := 64) (pc' := 74) rfl (hb hby d9_64) rfl (flt hc10).2.2.2 (by decide) (by decide) ?_
              have k : ∀ (v1 : Int32), v1 = ((17 : Int32) + (((((Fmask xi).toUInt32 >>> ((16 : Int32) &&& 31).toUInt32).toInt32).toUInt32 >>> ((1 : Int32) &&& 31).toUInt32).toInt32)) → ∀ (f : JFrame) (acts : List Action), f.method = m → f.locked = none → f.entered = [] → (doReturn e (s₁.setTop f) acts (some (.int v1))).1 = s₁.setFrames fs := fun v1 hv1 => k v1 (hv1.trans (if_neg hc10).symm)
              show Steps p.tables e below (s₁.setTop (mkF m 74 #[.val (.int (((Fmask xi).toUInt32 >>> ((16 : Int32) &&& 31).toUInt32).toInt32)), .val (.int (17 : Int32))] [])) _
              refine XS.iloadN X0.here hx rfl (hb hby d9_74) rfl ?_
              show Steps p.tables e below (s₁.setTop (mkF m 75 #[.val (.int (((Fmask xi).toUInt32 >>> ((16 : Int32) &&& 31).toUInt32).toInt32)), .val (.int (17 : Int32))] [(.int (17 : Int32))])) _
              refine XS.iloadN X0.here hx rfl (hb hby d9_75) rfl ?_
              show Steps p.tables e below (s₁.setTop (mkF m 76 #[.val (.int (((Fmask xi).toUInt32 >>> ((16 : Int32) &&& 31).toUInt32).toInt32)), .val (.int (17 : Int32))] [(.int (((Fmask xi).toUInt32 >>> ((16 : Int32) &&& 31).toUInt32).toInt32)), (.int (17 : Int32))])) _
              refine XS.iconst X0.here hx rfl (hb hby d9_76) ?_
              show Steps p.tables e below (s₁.setTop (mkF m 77 #[.val (.int (((Fmask xi).toUInt32 >>> ((16 : Int32) &&& 31).toUInt32).toInt32)), .val (.int (17 : Int32))] [(.int (1 : Int32)), (.int (((Fmask xi).toUInt32 >>> ((16 : Int32) &&& 31).toUInt32).toInt32)), (.int (17 : Int32))])) _
              refine XS.iushr X0.here hx rfl (hb hby d9_77) rfl ?_
              show Steps p.tables e below (s₁.setTop (mkF m 78 #[.val (.int (((Fmask xi).toUInt32 >>> ((16 : Int32) &&& 31).toUInt32).toInt32)), .val (.int (17 : Int32))] [(.int (((((Fmask xi).toUInt32 >>> ((16 : Int32) &&& 31).toUInt32).toInt32).toUInt32 >>> ((1 : Int32) &&& 31).toUInt32).toInt32)), (.int (17 : Int32))])) _
              refine XS.iadd X0.here hx rfl (hb hby d9_78) rfl ?_
              show Steps p.tables e below (s₁.setTop (mkF m 79 #[.val (.int (((Fmask xi).toUInt32 >>> ((16 : Int32) &&& 31).toUInt32).toInt32)), .val (.int (17 : Int32))] [(.int ((17 : Int32) + (((((Fmask xi).toUInt32 >>> ((16 : Int32) &&& 31).toUInt32).toInt32).toUInt32 >>> ((1 : Int32) &&& 31).toUInt32).toInt32)))])) _
              exact retI X0 hx Bd.returns (hb hby d9_79) (k _ rfl)
      · refine XS.icmpYes X0.here hx rfl (pc0 := 23) (pc' := 34) rfl (hb hby d9_23) rfl (flt hc3).2.2.2 (by decide) (by decide) ?_
        have k : ∀ (v1 : Int32), v1 = (if (256 : Int32) < (Fmask xi) then (if (16 : Int32) < (((Fmask xi).toUInt32 >>> ((8 : Int32) &&& 31).toUInt32).toInt32) then (if (4 : Int32) < (((((Fmask xi).toUInt32 >>> ((8 : Int32) &&& 31).toUInt32).toInt32).toUInt32 >>> ((4 : Int32) &&& 31).toUInt32).toInt32) then ((15 : Int32) + (((((((((Fmask xi).toUInt32 >>> ((8 : Int32) &&& 31).toUInt32).toInt32).toUInt32 >>> ((4 : Int32) &&& 31).toUInt32).toInt32).toUInt32 >>> ((2 : Int32) &&& 31).toUInt32).toInt32).toUInt32 >>> ((1 : Int32) &&& 31).toUInt32).toInt32)) else ((13 : Int32) + (((((((Fmask xi).toUInt32 >>> ((8 : Int32) &&& 31).toUInt32).toInt32).toUInt32 >>> ((4 : Int32) &&& 31).toUInt32).toInt32).toUInt32 >>> ((1 : Int32) &&& 31).toUInt32).toInt32))) else (if (4 : Int32) < (((Fmask xi).toUInt32 >>> ((8 : Int32) &&& 31).toUInt32).toInt32) then ((11 : Int32) + (((((((Fmask xi).toUInt32 >>> ((8 : Int32) &&& 31).toUInt32).toInt32).toUInt32 >>> ((2 : Int32) &&& 31).toUInt32).toInt32).toUInt32 >>> ((1 : Int32) &&& 31).toUInt32).toInt32)) else ((9 : Int32) + (((((Fmask xi).toUInt32 >>> ((8 : Int32) &&& 31).toUInt32).toInt32).toUInt32 >>> ((1 : Int32) &&& 31).toUInt32).toInt32)))) else (if (16 : Int32) < (Fmask xi) then (if (4 : Int32) < (((Fmask xi).toUInt32 >>> ((4 : Int32) &&& 31).toUInt32).toInt32) then ((7 : Int32) + (((((((Fmask xi).toUInt32 >>> ((4 : Int32) &&& 31).toUInt32).toInt32).toUInt32 >>> ((2 : Int32) &&& 31).toUInt32).toInt32).toUInt32 >>> ((1 : Int32) &&& 31).toUInt32).toInt32)) else ((5 : Int32) + (((((Fmask xi).toUInt32 >>> ((4 : Int32) &&& 31).toUInt32).toInt32).toUInt32 >>> ((1 : Int32) &&& 31).toUInt32).toInt32))) else (if (4 : Int32) < (Fmask xi) then ((3 : Int32) + (((((Fmask xi).toUInt32 >>> ((2 : Int32) &&& 31).toUInt32).toInt32).toUInt32 >>> ((1 : Int32) &&& 31).toUInt32).toInt32)) else ((1 : Int32) + (((Fmask xi).toUInt32 >>> ((1 : Int32) &&& 31).toUInt32).toInt32))))) → ∀ (f : JFrame) (acts : List Action), f.method = m → f.locked = none → f.entered = [] → (doReturn e (s₁.setTop f) acts (some (.int v1))).1 = s₁.setFrames fs := fun v1 hv1 => k v1 (hv1.trans (if_neg hc3).symm)
        show Steps p.tables e below (s₁.setTop (mkF m 34 #[.val (.int (Fmask xi)), .val (.int (1 : Int32))] [])) _
        refine XS.iloadN X0.here hx rfl (hb hby d9_34) rfl ?_
        show Steps p.tables e below (s₁.setTop (mkF m 35 #[.val (.int (Fmask xi)), .val (.int (1 : Int32))] [(.int (Fmask xi))])) _
        refine XS.sipush X0.here hx rfl (hb hby d9_35) ?_
        show Steps p.tables e below (s₁.setTop (mkF m 38 #[.val (.int (Fmask xi)), .val (.int (1 : Int32))] [(.int (256 : Int32)), (.int (Fmask xi))])) _
        by_cases hc11 : (256 : Int32) < (Fmask xi)
        · refine XS.icmpNo X0.here hx rfl (hb hby d9_38) rfl (tlt hc11).2.2.2 ?_
          have k : ∀ (v1 : Int32), v1 = (if (16 : Int32) < (((Fmask xi).toUInt32 >>> ((8 : Int32) &&& 31).toUInt32).toInt32) then (if (4 : Int32) < (((((Fmask xi).toUInt32 >>> ((8 : Int32) &&& 31).toUInt32).toInt32).toUInt32 >>> ((4 : Int32) &&& 31).toUInt32).toInt32) then ((15 : Int32) + (((((((((Fmask xi).toUInt32 >>> ((8 : Int32) &&& 31).toUInt32).toInt32).toUInt32 >>> ((4 : Int32) &&& 31).toUInt32).toInt32).toUInt32 >>> ((2 : Int32) &&& 31).toUInt32).toInt32).toUInt32 >>> ((1 : Int32) &&& 31).toUInt32).toInt32)) else ((13 : Int32) + (((((((Fmask xi).toUInt32 >>> ((8 : Int32) &&& 31).toUInt32).toInt32).toUInt32 >>> ((4 : Int32) &&& 31).toUInt32).toInt32).toUInt32 >>> ((1 : Int32) &&& 31).toUInt32).toInt32))) else (if (4 : Int32) < (((Fmask xi).toUInt32 >>> ((8 : Int32) &&& 31).toUInt32).toInt32) then ((11 : Int32) + (((((((Fmask xi).toUInt32 >>> ((8 : Int32) &&& 31).toUInt32).toInt32).toUInt32 >>> ((2 : Int32) &&& 31).toUInt32).toInt32).toUInt32 >>> ((1 : Int32) &&& 31).toUInt32).toInt32)) else ((9 : Int32) + (((((Fmask xi).toUInt32 >>> ((8 : Int32) &&& 31).toUInt32).toInt32).toUInt32 >>> ((1 : Int32) &&& 31).toUInt32).toInt32)))) → ∀ (f : JFrame) (acts : List Action), f.method = m → f.locked = none → f.entered = [] → (doReturn e (s₁.setTop f) acts (some (.int v1))).1 = s₁.setFrames fs := fun v1 hv1 => k v1 (hv1.trans (if_pos hc11).symm)
          show Steps p.tables e below (s₁.setTop (mkF m 41 #[.val (.int (Fmask xi)), .val (.int (1 : Int32))] [])) _
          refine XS.iinc X0.here hx rfl (hb hby d9_41) rfl (l' := #[.val (.int (Fmask xi)), .val (.int (9 : Int32))]) rfl ?_
          show Steps p.tables e below (s₁.setTop (mkF m 44 #[.val (.int (Fmask xi)), .val (.int (9 : Int32))] [])) _
          refine XS.iloadN X0.here hx rfl (hb hby d9_44) rfl ?_
          show Steps p.tables e below (s₁.setTop (mkF m 45 #[.val (.int (Fmask xi)), .val (.int (9 : Int32))] [(.int (Fmask xi))])) _
          refine XS.bipush X0.here hx rfl (hb hby d9_45) ?_
          show Steps p.tables e below (s₁.setTop (mkF m 47 #[.val (.int (Fmask xi)), .val (.int (9 : Int32))] [(.int (8 : Int32)), (.int (Fmask xi))])) _
          refine XS.iushr X0.here hx rfl (hb hby d9_47) rfl ?_
          show Steps p.tables e below (s₁.setTop (mkF m 48 #[.val (.int (Fmask xi)), .val (.int (9 : Int32))] [(.int (((Fmask xi).toUInt32 >>> ((8 : Int32) &&& 31).toUInt32).toInt32))])) _
          refine XS.istoreN X0.here hx rfl (hb hby d9_48) rfl (l' := #[.val (.int (((Fmask xi).toUInt32 >>> ((8 : Int32) &&& 31).toUInt32).toInt32)), .val (.int (9 : Int32))]) rfl ?_
          show Steps p.tables e below (s₁.setTop (mkF m 49 #[.val (.int (((Fmask xi).toUInt32 >>> ((8 : Int32) &&& 31).toUInt32).toInt32)), .val (.int (9 : Int32))] [])) _
          refine XS.iloadN X0.here hx rfl (hb hby d9_49) rfl ?_
          show Steps p.tables e below (s₁.setTop (mkF m 50 #[.val (.int (((Fmask xi).toUInt32 >>> ((8 : Int32) &&& 31).toUInt32).toInt32)), .val (.int (9 : Int32))] [(.int (((Fmask xi).toUInt32 >>> ((8 : Int32) &&& 31).toUInt32).toInt32))])) _
          refine XS.bipush X0.here hx rfl (hb hby d9_50) ?_
          show Steps p.tables e below (s₁.setTop (mkF m 52 #[.val (.int (((Fmask xi).toUInt32 >>> ((8 : Int32) &&& 31).toUInt32).toInt32)), .val (.int (9 : Int32))] [(.int (16 : Int32)), (.int (((Fmask xi).toUInt32 >>> ((8 : Int32) &&& 31).toUInt32).toInt32))])) _
          by_cases hc12 : (16 : Int32) < (((Fmask xi).toUInt32 >>> ((8 : Int32) &&& 31).toUInt32).toInt32)
          · refine XS.icmpNo X0.here hx rfl (hb hby d9_52) rfl (tlt hc12).2.2.2 ?_
            have k : ∀ (v1 : Int32), v1 = (if (4 : Int32) < (((((Fmask xi).toUInt32 >>> ((8 : Int32) &&& 31).toUInt32).toInt32).toUInt32 >>> ((4 : Int32) &&& 31).toUInt32).toInt32) then ((15 : Int32) + (((((((((Fmask xi).toUInt32 >>> ((8 : Int32) &&& 31).toUInt32).toInt32).toUInt32 >>> ((4 : Int32) &&& 31).toUInt32).toInt32).toUInt32 >>> ((2 : Int32) &&& 31).toUInt32).toInt32).toUInt32 >>> ((1 : Int32) &&& 31).toUInt32).toInt32)) else ((13 : Int32) + (((((((Fmask xi).toUInt32 >>> ((8 : Int32) &&& 31).toUInt32).toInt32).toUInt32 >>> ((4 : Int32) &&& 31).toUInt32).toInt32).toUInt32 >>> ((1 : Int32) &&& 31).toUInt32).toInt32))) → ∀ (f : JFrame) (acts : List Action), f.method = m → f.locked = none → f.entered = [] → (doReturn e (s₁.setTop f) acts (some (.int v1))).1 = s₁.setFrames fs := fun v1 hv1 => k v1 (hv1.trans (if_pos hc12).symm)
            show Steps p.tables e below (s₁.setTop (mkF m 55 #[.val (.int (((Fmask xi).toUInt32 >>> ((8 : Int32) &&& 31).toUInt32).toInt32)), .val (.int (9 : Int32))] [])) _
            refine XS.iinc X0.here hx rfl (hb hby d9_55) rfl (l' := #[.val (.int (((Fmask xi).toUInt32 >>> ((8 : Int32) &&& 31).toUInt32).toInt32)), .val (.int (13 : Int32))]) rfl ?_
            show Steps p.tables e below (s₁.setTop (mkF m 58 #[.val (.int (((Fmask xi).toUInt32 >>> ((8 : Int32) &&& 31).toUInt32).toInt32)), .val (.int (13 : Int32))] [])) _
            refine XS.iloadN X0.here hx rfl (hb hby d9_58) rfl ?_
            show Steps p.tables e below (s₁.setTop (mkF m 59 #[.val (.int (((Fmask xi).toUInt32 >>> ((8 : Int32) &&& 31).toUInt32).toInt32)), .val (.int (13 : Int32))] [(.int (((Fmask xi).toUInt32 >>> ((8 : Int32) &&& 31).toUInt32).toInt32))])) _
            refine XS.iconst X0.here hx rfl (hb hby d9_59) ?_
            show Steps p.tables e below (s₁.setTop (mkF m 60 #[.val (.int (((Fmask xi).toUInt32 >>> ((8 : Int32) &&& 31).toUInt32).toInt32)), .val (.int (13 : Int32))] [(.int (4 : Int32)), (.int (((Fmask xi).toUInt32 >>> ((8 : Int32) &&& 31).toUInt32).toInt32))])) _
            refine XS.iushr X0.here hx rfl (hb hby d9_60) rfl ?_
            show Steps p.tables e below (s₁.setTop (mkF m 61 #[.val (.int (((Fmask xi).toUInt32 >>> ((8 : Int32) &&& 31).toUInt32).toInt32)), .val (.int (13 : Int32))] [(.int (((((Fmask xi).toUInt32 >>> ((8 : Int32) &&& 31).toUInt32).toInt32).toUInt32 >>> ((4 : Int32) &&& 31).toUInt32).toInt32))])) _
            refine XS.istoreN X0.here hx rfl (hb hby d9_61) rfl (l' := #[.val (.int (((((Fmask xi).toUInt32 >>> ((8 : Int32) &&& 31).toUInt32).toInt32).toUInt32 >>> ((4 : Int32) &&& 31).toUInt32).toInt32)), .val (.int (13 : Int32))]) rfl ?_
            show Steps p.tables e below (s₁.setTop (mkF m 62 #[.val (.int (((((Fmask xi).toUInt32 >>> ((8 : Int32) &&& 31).toUInt32).toInt32).toUInt32 >>> ((4 : Int32) &&& 31).toUInt32).toInt32)), .val (.int (13 : Int32))] [])) _
            refine XS.iloadN X0.here hx rfl (hb hby d9_62) rfl ?_
            show Steps p.tables e below (s₁.setTop (mkF m 63 #[.val (.int (((((Fmask xi).toUInt32 >>> ((8 : Int32) &&& 31).toUInt32).toInt32).toUInt32 >>> ((4 : Int32) &&& 31).toUInt32).toInt32)), .val (.int (13 : Int32))] [(.int (((((Fmask xi).toUInt32 >>> ((8 : Int32) &&& 31).toUInt32).toInt32).toUInt32 >>> ((4 : Int32) &&& 31).toUInt32).toInt32))])) _
            refine XS.iconst X0.here hx rfl (hb hby d9_63) ?_
            show Steps p.tables e below (s₁.setTop (mkF m 64 #[.val (.int (((((Fmask xi).toUInt32 >>> ((8 : Int32) &&& 31).toUInt32).toInt32).toUInt32 >>> ((4 : Int32) &&& 31).toUInt32).toInt32)), .val (.int (13 : Int32))] [(.int (4 : Int32)), (.int (((((Fmask xi).toUInt32 >>> ((8 : Int32) &&& 31).toUInt32).toInt32).toUInt32 >>> ((4 : Int32) &&& 31).toUInt32).toInt32))])) _
            by_cases hc13 : (4 : Int32) < (((((Fmask xi).toUInt32 >>> ((8 : Int32) &&& 31).toUInt32).toInt32).toUInt32 >>> ((4 : Int32) &&& 31).toUInt32).toInt32)
            · refine XS.icmpNo X0.here hx rfl (hb hby d9_64) rfl (tlt hc13).2.2.2 ?_
              have k : ∀ (v1 : Int32), v1 = ((15 : Int32) + (((((((((Fmask xi).toUInt32 >>> ((8 : Int32) &&& 31).toUInt32).toInt32).toUInt32 >>> ((4 : Int32) &&& 31).toUInt32).toInt32).toUInt32 >>> ((2 : Int32) &&& 31).toUInt32).toInt32).toUInt32 >>> ((1 : Int32) &&& 31).toUInt32).toInt32)) → ∀ (f : JFrame) (acts : List Action), f.method = m → f.locked = none → f.entered = [] → (doReturn e (s₁.setTop f) acts (some (.int v1))).1 = s₁.setFrames fs := fun v1 hv1 => k v1 (hv1.trans (if_pos hc13).symm)
              show Steps p.tables e below (s₁.setTop (mkF m 67 #[.val (.int (((((Fmask xi).toUInt32 >>> ((8 : Int32) &&& 31).toUInt32).toInt32).toUInt32 >>> ((4 : Int32) &&& 31).toUInt32).toInt32)), .val (.int (13 : Int32))] [])) _
              refine XS.iinc X0.here hx rfl (hb hby d9_67) rfl (l' := #[.val (.int (((((Fmask xi).toUInt32 >>> ((8 : Int32) &&& 31).toUInt32).toInt32).toUInt32 >>> ((4 : Int32) &&& 31).toUInt32).toInt32)), .val (.int (15 : Int32))]) rfl ?_
              show Steps p.tables e below (s₁.setTop (mkF m 70 #[.val (.int (((((Fmask xi).toUInt32 >>> ((8 : Int32) &&& 31).toUInt32).toInt32).toUInt32 >>> ((4 : Int32) &&& 31).toUInt32).toInt32)), .val (.int (15 : Int32))] [])) _
              refine XS.iloadN X0.here hx rfl (hb hby d9_70) rfl ?_
              show Steps p.tables e below (s₁.setTop (mkF m 71 #[.val (.int (((((Fmask xi).toUInt32 >>> ((8 : Int32) &&& 31).toUInt32).toInt32).toUInt32 >>> ((4 : Int32) &&& 31).toUInt32).toInt32)), .val (.int (15 : Int32))] [(.int (((((Fmask xi).toUInt32 >>> ((8 : Int32) &&& 31).toUInt32).toInt32).toUInt32 >>> ((4 : Int32) &&& 31).toUInt32).toInt32))])) _
              refine XS.iconst X0.here hx rfl (hb hby d9_71) ?_
              show Steps p.tables e below (s₁.setTop (mkF m 72 #[.val (.int (((((Fmask xi).toUInt32 >>> ((8 : Int32) &&& 31).toUInt32).toInt32).toUInt32 >>> ((4 : Int32) &&& 31).toUInt32).toInt32)), .val (.int (15 : Int32))] [(.int (2 : Int32)), (.int (((((Fmask xi).toUInt32 >>> ((8 : Int32) &&& 31).toUInt32).toInt32).toUInt32 >>> ((4 : Int32) &&& 31).toUInt32).toInt32))])) _
              refine XS.iushr X0.here hx rfl (hb hby d9_72) rfl ?_
              show Steps p.tables e below (s₁.setTop (mkF m 73 #[.val (.int (((((Fmask xi).toUInt32 >>> ((8 : Int32) &&& 31).toUInt32).toInt32).toUInt32 >>> ((4 : Int32) &&& 31).toUInt32).toInt32)), .val (.int (15 : Int32))] [(.int (((((((Fmask xi).toUInt32 >>> ((8 : Int32) &&& 31).toUInt32).toInt32).toUInt32 >>> ((4 : Int32) &&& 31).toUInt32).toInt32).toUInt32 >>> ((2 : Int32) &&& 31).toUInt32).toInt32))])) _
              refine XS.istoreN X0.here hx rfl (hb hby d9_73) rfl (l' := #[.val (.int (((((((Fmask xi).toUInt32 >>> ((8 : Int32) &&& 31).toUInt32).toInt32).toUInt32 >>> ((4 : Int32) &&& 31).toUInt32).toInt32).toUInt32 >>> ((2 : Int32) &&& 31).toUInt32).toInt32)), .val (.int (15 : Int32))]) rfl ?_
              show Steps p.tables e below (s₁.setTop (mkF m 74 #[.val (.int (((((((Fmask xi).toUInt32 >>> ((8 : Int32) &&& 31).toUInt32).toInt32).toUInt32 >>> ((4 : Int32) &&& 31).toUInt32).toInt32).toUInt32 >>> ((2 : Int32) &&& 31).toUInt32).toInt32)), .val (.int (15 : Int32))] [])) _
              refine XS.iloadN X0.here hx rfl (hb hby d9_74) rfl ?_
              show Steps p.tables e below (s₁.setTop (mkF m 75 #[.val (.int (((((((Fmask xi).toUInt32 >>> ((8 : Int32) &&& 31).toUInt32).toInt32).toUInt32 >>> ((4 : Int32) &&& 31).toUInt32).toInt32).toUInt32 >>> ((2 : Int32) &&& 31).toUInt32).toInt32)), .val (.int (15 : Int32))] [(.int (15 : Int32))])) _
              refine XS.iloadN X0.here hx rfl (hb hby d9_75) rfl ?_
              show Steps p.tables e below (s₁.setTop (mkF m 76 #[.val (.int (((((((Fmask xi).toUInt32 >>> ((8 : Int32) &&& 31).toUInt32).toInt32).toUInt32 >>> ((4 : Int32) &&& 31).toUInt32).toInt32).toUInt32 >>> ((2 : Int32) &&& 31).toUInt32).toInt32)), .val (.int (15 : Int32))] [(.int (((((((Fmask xi).toUInt32 >>> ((8 : Int32) &&& 31).toUInt32).toInt32).toUInt32 >>> ((4 : Int32) &&& 31).toUInt32).toInt32).toUInt32 >>> ((2 : Int32) &&& 31).toUInt32).toInt32)), (.int (15 : Int32))])) _
              refine XS.iconst X0.here hx rfl (hb hby d9_76) ?_
              show Steps p.tables e below (s₁.setTop (mkF m 77 #[.val (.int (((((((Fmask xi).toUInt32 >>> ((8 : Int32) &&& 31).toUInt32).toInt32).toUInt32 >>> ((4 : Int32) &&& 31).toUInt32).toInt32).toUInt32 >>> ((2 : Int32) &&& 31).toUInt32).toInt32)), .val (.int (15 : Int32))] [(.int (1 : Int32)), (.int (((((((Fmask xi).toUInt32 >>> ((8 : Int32) &&& 31).toUInt32).toInt32).toUInt32 >>> ((4 : Int32) &&& 31).toUInt32).toInt32).toUInt32 >>> ((2 : Int32) &&& 31).toUInt32).toInt32)), (.int (15 : Int32))])) _
              refine XS.iushr X0.here hx rfl (hb hby d9_77) rfl ?_
              show Steps p.tables e below (s₁.setTop (mkF m 78 #[.val (.int (((((((Fmask xi).toUInt32 >>> ((8 : Int32) &&& 31).toUInt32).toInt32).toUInt32 >>> ((4 : Int32) &&& 31).toUInt32).toInt32).toUInt32 >>> ((2 : Int32) &&& 31).toUInt32).toInt32)), .val (.int (15 : Int32))] [(.int (((((((((Fmask xi).toUInt32 >>> ((8 : Int32) &&& 31).toUInt32).toInt32).toUInt32 >>> ((4 : Int32) &&& 31).toUInt32).toInt32).toUInt32 >>> ((2 : Int32) &&& 31).toUInt32).toInt32).toUInt32 >>> ((1 : Int32) &&& 31).toUInt32).toInt32)), (.int (15 : Int32))])) _
              refine XS.iadd X0.here hx rfl (hb hby d9_78) rfl ?_
              show Steps p.tables e below (s₁.setTop (mkF m 79 #[.val (.int (((((((Fmask xi).toUInt32 >>> ((8 : Int32) &&& 31).toUInt32).toInt32).toUInt32 >>> ((4 : Int32) &&& 31).toUInt32).toInt32).toUInt32 >>> ((2 : Int32) &&& 31).toUInt32).toInt32)), .val (.int (15 : Int32))] [(.int ((15 : Int32) + (((((((((Fmask xi).toUInt32 >>> ((8 : Int32) &&& 31).toUInt32).toInt32).toUInt32 >>> ((4 : Int32) &&& 31).toUInt32).toInt32).toUInt32 >>> ((2 : Int32) &&& 31).toUInt32).toInt32).toUInt32 >>> ((1 : Int32) &&& 31).toUInt32).toInt32)))])) _
              exact retI X0 hx Bd.returns (hb hby d9_79) (k _ rfl)
            · refine XS.icmpYes X0.here hx rfl (pc0 := 64) (pc' := 74) rfl (hb hby d9_64) rfl (flt hc13).2.2.2 (by decide) (by decide) ?_
              have k : ∀ (v1 : Int32), v1 = ((13 : Int32) + (((((((Fmask xi).toUInt32 >>> ((8 : Int32) &&& 31).toUInt32).toInt32).toUInt32 >>> ((4 : Int32) &&& 31).toUInt32).toInt32).toUInt32 >>> ((1 : Int32) &&& 31).toUInt32).toInt32)) → ∀ (f : JFrame) (acts : List Action), f.method = m → f.locked = none → f.entered = [] → (doReturn e (s₁.setTop f) acts (some (.int v1))).1 = s₁.setFrames fs := fun v1 hv1 => k v1 (hv1.trans (if_neg hc13).symm)
              show Steps p.tables e below (s₁.setTop (mkF m 74 #[.val (.int (((((Fmask xi).toUInt32 >>> ((8 : Int32) &&& 31).toUInt32).toInt32).toUInt32 >>> ((4 : Int32) &&& 31).toUInt32).toInt32)), .val (.int (13 : Int32))] [])) _
              refine XS.iloadN X0.here hx rfl (hb hby d9_74) rfl ?_
              show Steps p.tables e below (s₁.setTop (mkF m 75 #[.val (.int (((((Fmask xi).toUInt32 >>> ((8 : Int32) &&& 31).toUInt32).toInt32).toUInt32 >>> ((4 : Int32) &&& 31).toUInt32).toInt32)), .val (.int (13 : Int32))] [(.int (13 : Int32))])) _
              refine XS.iloadN X0.here hx rfl (hb hby d9_75) rfl ?_
              show Steps p.tables e below (s₁.setTop (mkF m 76 #[.val (.int (((((Fmask xi).toUInt32 >>> ((8 : Int32) &&& 31).toUInt32).toInt32).toUInt32 >>> ((4 : Int32) &&& 31).toUInt32).toInt32)), .val (.int (13 : Int32))] [(.int (((((Fmask xi).toUInt32 >>> ((8 : Int32) &&& 31).toUInt32).toInt32).toUInt32 >>> ((4 : Int32) &&& 31).toUInt32).toInt32)), (.int (13 : Int32))])) _
              refine XS.iconst X0.here hx rfl (hb hby d9_76) ?_
              show Steps p.tables e below (s₁.setTop (mkF m 77 #[.val (.int (((((Fmask xi).toUInt32 >>> ((8 : Int32) &&& 31).toUInt32).toInt32).toUInt32 >>> ((4 : Int32) &&& 31).toUInt32).toInt32)), .val (.int (13 : Int32))] [(.int (1 : Int32)), (.int (((((Fmask xi).toUInt32 >>> ((8 : Int32) &&& 31).toUInt32).toInt32).toUInt32 >>> ((4 : Int32) &&& 31).toUInt32).toInt32)), (.int (13 : Int32))])) _
              refine XS.iushr X0.here hx rfl (hb hby d9_77) rfl ?_
              show Steps p.tables e below (s₁.setTop (mkF m 78 #[.val (.int (((((Fmask xi).toUInt32 >>> ((8 : Int32) &&& 31).toUInt32).toInt32).toUInt32 >>> ((4 : Int32) &&& 31).toUInt32).toInt32)), .val (.int (13 : Int32))] [(.int (((((((Fmask xi).toUInt32 >>> ((8 : Int32) &&& 31).toUInt32).toInt32).toUInt32 >>> ((4 : Int32) &&& 31).toUInt32).toInt32).toUInt32 >>> ((1 : Int32) &&& 31).toUInt32).toInt32)), (.int (13 : Int32))])) _
              refine XS.iadd X0.here hx rfl (hb hby d9_78) rfl ?_
              show Steps p.tables e below (s₁.setTop (mkF m 79 #[.val (.int (((((Fmask xi).toUInt32 >>> ((8 : Int32) &&& 31).toUInt32).toInt32).toUInt32 >>> ((4 : Int32) &&& 31).toUInt32).toInt32)), .val (.int (13 : Int32))] [(.int ((13 : Int32) + (((((((Fmask xi).toUInt32 >>> ((8 : Int32) &&& 31).toUInt32).toInt32).toUInt32 >>> ((4 : Int32) &&& 31).toUInt32).toInt32).toUInt32 >>> ((1 : Int32) &&& 31).toUInt32).toInt32)))])) _
              exact retI X0 hx Bd.returns (hb hby d9_79) (k _ rfl)
          · refine XS.icmpYes X0.here hx rfl (pc0 := 52) (pc' := 62) rfl (hb hby d9_52) rfl (flt hc12).2.2.2 (by decide) (by decide) ?_
            have k : ∀ (v1 : Int32), v1 = (if (4 : Int32) < (((Fmask xi).toUInt32 >>> ((8 : Int32) &&& 31).toUInt32).toInt32) then ((11 : Int32) + (((((((Fmask xi).toUInt32 >>> ((8 : Int32) &&& 31).toUInt32).toInt32).toUInt32 >>> ((2 : Int32) &&& 31).toUInt32).toInt32).toUInt32 >>> ((1 : Int32) &&& 31).toUInt32).toInt32)) else ((9 : Int32) + (((((Fmask xi).toUInt32 >>> ((8 : Int32) &&& 31).toUInt32).toInt32).toUInt32 >>> ((1 : Int32) &&& 31).toUInt32).toInt32))) → ∀ (f : JFrame) (acts : List Action), f.method = m → f.locked = none → f.entered = [] → (doReturn e (s₁.setTop f) acts (some (.int v1))).1 = s₁.setFrames fs := fun v1 hv1 => k v1 (hv1.trans (if_neg hc12).symm)
            show Steps p.tables e below (s₁.setTop (mkF m 62 #[.val (.int (((Fmask xi).toUInt32 >>> ((8 : Int32) &&& 31).toUInt32).toInt32)), .val (.int (9 : Int32))] [])) _
            refine XS.iloadN X0.here hx rfl (hb hby d9_62) rfl ?_
            show Steps p.tables e below (s₁.setTop (mkF m 63 #[.val (.int (((Fmask xi).toUInt32 >>> ((8 : Int32) &&& 31).toUInt32).toInt32)), .val (.int (9 : Int32))] [(.int (((Fmask xi).toUInt32 >>> ((8 : Int32) &&& 31).toUInt32).toInt32))])) _
            refine XS.iconst X0.here hx rfl (hb hby d9_63) ?_
            show Steps p.tables e below (s₁.setTop (mkF m 64 #[.val (.int (((Fmask xi).toUInt32 >>> ((8 : Int32) &&& 31).toUInt32).toInt32)), .val (.int (9 : Int32))] [(.int (4 : Int32)), (.int (((Fmask xi).toUInt32 >>> ((8 : Int32) &&& 31).toUInt32).toInt32))])) _
            by_cases hc14 : (4 : Int32) < (((Fmask xi).toUInt32 >>> ((8 : Int32) &&& 31).toUInt32).toInt32)
            · refine XS.icmpNo X0.here hx rfl (hb hby d9_64) rfl (tlt hc14).2.2.2 ?_
              have k : ∀ (v1 : Int32), v1 = ((11 : Int32) + (((((((Fmask xi).toUInt32 >>> ((8 : Int32) &&& 31).toUInt32).toInt32).toUInt32 >>> ((2 : Int32) &&& 31).toUInt32).toInt32).toUInt32 >>> ((1 : Int32) &&& 31).toUInt32).toInt32)) → ∀ (f : JFrame) (acts : List Action), f.method = m → f.locked = none → f.entered = [] → (doReturn e (s₁.setTop f) acts (some (.int v1))).1 = s₁.setFrames fs := fun v1 hv1 => k v1 (hv1.trans (if_pos hc14).symm)
              show Steps p.tables e below (s₁.setTop (mkF m 67 #[.val (.int (((Fmask xi).toUInt32 >>> ((8 : Int32) &&& 31).toUInt32).toInt32)), .val (.int (9 : Int32))] [])) _
              refine XS.iinc X0.here hx rfl (hb hby d9_67) rfl (l' := #[.val (.int (((Fmask xi).toUInt32 >>> ((8 : Int32) &&& 31).toUInt32).toInt32)), .val (.int (11 : Int32))]) rfl ?_
              show Steps p.tables e below (s₁.setTop (mkF m 70 #[.val (.int (((Fmask xi).toUInt32 >>> ((8 : Int32) &&& 31).toUInt32).toInt32)), .val (.int (11 : Int32))] [])) _
              refine XS.iloadN X0.here hx rfl (hb hby d9_70) rfl ?_
              show Steps p.tables e below (s₁.setTop (mkF m 71 #[.val (.int (((Fmask xi).toUInt32 >>> ((8 : Int32) &&& 31).toUInt32).toInt32)), .val (.int (11 : Int32))] [(.int (((Fmask xi).toUInt32 >>> ((8 : Int32) &&& 31).toUInt32).toInt32))])) _
              refine XS.iconst X0.here hx rfl (hb hby d9_71) ?_
              show Steps p.tables e below (s₁.setTop (mkF m 72 #[.val (.int (((Fmask xi).toUInt32 >>> ((8 : Int32) &&& 31).toUInt32).toInt32)), .val (.int (11 : Int32))] [(.int (2 : Int32)), (.int (((Fmask xi).toUInt32 >>> ((8 : Int32) &&& 31).toUInt32).toInt32))])) _
              refine XS.iushr X0.here hx rfl (hb hby d9_72) rfl ?_
              show Steps p.tables e below (s₁.setTop (mkF m 73 #[.val (.int (((Fmask xi).toUInt32 >>> ((8 : Int32) &&& 31).toUInt32).toInt32)), .val (.int (11 : Int32))] [(.int (((((Fmask xi).toUInt32 >>> ((8 : Int32) &&& 31).toUInt32).toInt32).toUInt32 >>> ((2 : Int32) &&& 31).toUInt32).toInt32))])) _
              refine XS.istoreN X0.here hx rfl (hb hby d9_73) rfl (l' := #[.val (.int (((((Fmask xi).toUInt32 >>> ((8 : Int32) &&& 31).toUInt32).toInt32).toUInt32 >>> ((2 : Int32) &&& 31).toUInt32).toInt32)), .val (.int (11 : Int32))]) rfl ?_
              show Steps p.tables e below (s₁.setTop (mkF m 74 #[.val (.int (((((Fmask xi).toUInt32 >>> ((8 : Int32) &&& 31).toUInt32).toInt32).toUInt32 >>> ((2 : Int32) &&& 31).toUInt32).toInt32)), .val (.int (11 : Int32))] [])) _
              refine XS.iloadN X0.here hx rfl (hb hby d9_74) rfl ?_
              show Steps p.tables e below (s₁.setTop (mkF m 75 #[.val (.int (((((Fmask xi).toUInt32 >>> ((8 : Int32) &&& 31).toUInt32).toInt32).toUInt32 >>> ((2 : Int32) &&& 31).toUInt32).toInt32)), .val (.int (11 : Int32))] [(.int (11 : Int32))])) _
              refine XS.iloadN X0.here hx rfl (hb hby d9_75) rfl ?_
              show Steps p.tables e below (s₁.setTop (mkF m 76 #[.val (.int (((((Fmask xi).toUInt32 >>> ((8 : Int32) &&& 31).toUInt32).toInt32).toUInt32 >>> ((2 : Int32) &&& 31).toUInt32).toInt32)), .val (.int (11 : Int32))] [(.int (((((Fmask xi).toUInt32 >>> ((8 : Int32) &&& 31).toUInt32).toInt32).toUInt32 >>> ((2 : Int32) &&& 31).toUInt32).toInt32)), (.int (11 : Int32))])) _
              refine XS.iconst X0.here hx rfl (hb hby d9_76) ?_
              show Steps p.tables e below (s₁.setTop (mkF m 77 #[.val (.int (((((Fmask xi).toUInt32 >>> ((8 : Int32) &&& 31).toUInt32).toInt32).toUInt32 >>> ((2 : Int32) &&& 31).toUInt32).toInt32)), .val (.int (11 : Int32))] [(.int (1 : Int32)), (.int (((((Fmask xi).toUInt32 >>> ((8 : Int32) &&& 31).toUInt32).toInt32).toUInt32 >>> ((2 : Int32) &&& 31).toUInt32).toInt32)), (.int (11 : Int32))])) _
              refine XS.iushr X0.here hx rfl (hb hby d9_77) rfl ?_
              show Steps p.tables e below (s₁.setTop (mkF m 78 #[.val (.int (((((Fmask xi).toUInt32 >>> ((8 : Int32) &&& 31).toUInt32).toInt32).toUInt32 >>> ((2 : Int32) &&& 31).toUInt32).toInt32)), .val (.int (11 : Int32))] [(.int (((((((Fmask xi).toUInt32 >>> ((8 : Int32) &&& 31).toUInt32).toInt32).toUInt32 >>> ((2 : Int32) &&& 31).toUInt32).toInt32).toUInt32 >>> ((1 : Int32) &&& 31).toUInt32).toInt32)), (.int (11 : Int32))])) _
              refine XS.iadd X0.here hx rfl (hb hby d9_78) rfl ?_
              show Steps p.tables e below (s₁.setTop (mkF m 79 #[.val (.int (((((Fmask xi).toUInt32 >>> ((8 : Int32) &&& 31).toUInt32).toInt32).toUInt32 >>> ((2 : Int32) &&& 31).toUInt32).toInt32)), .val (.int (11 : Int32))] [(.int ((11 : Int32) + (((((((Fmask xi).toUInt32 >>> ((8 : Int32) &&& 31).toUInt32).toInt32).toUInt32 >>> ((2 : Int32) &&& 31).toUInt32).toInt32).toUInt32 >>> ((1 : Int32) &&& 31).toUInt32).toInt32)))])) _
              exact retI X0 hx Bd.returns (hb hby d9_79) (k _ rfl)
            · refine XS.icmpYes X0.here hx rfl (pc0 := 64) (pc' := 74) rfl (hb hby d9_64) rfl (flt hc14).2.2.2 (by decide) (by decide) ?_
              have k : ∀ (v1 : Int32), v1 = ((9 : Int32) + (((((Fmask xi).toUInt32 >>> ((8 : Int32) &&& 31).toUInt32).toInt32).toUInt32 >>> ((1 : Int32) &&& 31).toUInt32).toInt32)) → ∀ (f : JFrame) (acts : List Action), f.method = m → f.locked = none → f.entered = [] → (doReturn e (s₁.setTop f) acts (some (.int v1))).1 = s₁.setFrames fs := fun v1 hv1 => k v1 (hv1.trans (if_neg hc14).symm)
              show Steps p.tables e below (s₁.setTop (mkF m 74 #[.val (.int (((Fmask xi).toUInt32 >>> ((8 : Int32) &&& 31).toUInt32).toInt32)), .val (.int (9 : Int32))] [])) _
              refine XS.iloadN X0.here hx rfl (hb hby d9_74) rfl ?_
              show Steps p.tables e below (s₁.setTop (mkF m 75 #[.val (.int (((Fmask xi).toUInt32 >>> ((8 : Int32) &&& 31).toUInt32).toInt32)), .val (.int (9 : Int32))] [(.int (9 : Int32))])) _
              refine XS.iloadN X0.here hx rfl (hb hby d9_75) rfl ?_
              show Steps p.tables e below (s₁.setTop (mkF m 76 #[.val (.int (((Fmask xi).toUInt32 >>> ((8 : Int32) &&& 31).toUInt32).toInt32)), .val (.int (9 : Int32))] [(.int (((Fmask xi).toUInt32 >>> ((8 : Int32) &&& 31).toUInt32).toInt32)), (.int (9 : Int32))])) _
              refine XS.iconst X0.here hx rfl (hb hby d9_76) ?_
              show Steps p.tables e below (s₁.setTop (mkF m 77 #[.val (.int (((Fmask xi).toUInt32 >>> ((8 : Int32) &&& 31).toUInt32).toInt32)), .val (.int (9 : Int32))] [(.int (1 : Int32)), (.int (((Fmask xi).toUInt32 >>> ((8 : Int32) &&& 31).toUInt32).toInt32)), (.int (9 : Int32))])) _
              refine XS.iushr X0.here hx rfl (hb hby d9_77) rfl ?_
              show Steps p.tables e below (s₁.setTop (mkF m 78 #[.val (.int (((Fmask xi).toUInt32 >>> ((8 : Int32) &&& 31).toUInt32).toInt32)), .val (.int (9 : Int32))] [(.int (((((Fmask xi).toUInt32 >>> ((8 : Int32) &&& 31).toUInt32).toInt32).toUInt32 >>> ((1 : Int32) &&& 31).toUInt32).toInt32)), (.int (9 : Int32))])) _
              refine XS.iadd X0.here hx rfl (hb hby d9_78) rfl ?_
              show Steps p.tables e below (s₁.setTop (mkF m 79 #[.val (.int (((Fmask xi).toUInt32 >>> ((8 : Int32) &&& 31).toUInt32).toInt32)), .val (.int (9 : Int32))] [(.int ((9 : Int32) + (((((Fmask xi).toUInt32 >>> ((8 : Int32) &&& 31).toUInt32).toInt32).toUInt32 >>> ((1 : Int32) &&& 31).toUInt32).toInt32)))])) _
              exact retI X0 hx Bd.returns (hb hby d9_79) (k _ rfl)
        · refine XS.icmpYes X0.here hx rfl (pc0 := 38) (pc' := 49) rfl (hb hby d9_38) rfl (flt hc11).2.2.2 (by decide) (by decide) ?_
          have k : ∀ (v1 : Int32), v1 = (if (16 : Int32) < (Fmask xi) then (if (4 : Int32) < (((Fmask xi).toUInt32 >>> ((4 : Int32) &&& 31).toUInt32).toInt32) then ((7 : Int32) + (((((((Fmask xi).toUInt32 >>> ((4 : Int32) &&& 31).toUInt32).toInt32).toUInt32 >>> ((2 : Int32) &&& 31).toUInt32).toInt32).toUInt32 >>> ((1 : Int32) &&& 31).toUInt32).toInt32)) else ((5 : Int32) + (((((Fmask xi).toUInt32 >>> ((4 : Int32) &&& 31).toUInt32).toInt32).toUInt32 >>> ((1 : Int32) &&& 31).toUInt32).toInt32))) else (if (4 : Int32) < (Fmask xi) then ((3 : Int32) + (((((Fmask xi).toUInt32 >>> ((2 : Int32) &&& 31).toUInt32).toInt32).toUInt32 >>> ((1 : Int32) &&& 31).toUInt32).toInt32)) else ((1 : Int32) + (((Fmask xi).toUInt32 >>> ((1 : Int32) &&& 31).toUInt32).toInt32)))) → ∀ (f : JFrame) (acts : List Action), f.method = m → f.locked = none → f.entered = [] → (doReturn e (s₁.setTop f) acts (some (.int v1))).1 = s₁.setFrames fs := fun v1 hv1 => k v1 (hv1.trans (if_neg hc11).symm)
          show Steps p.tables e below (s₁.setTop (mkF m 49 #[.val (.int (Fmask xi)), .val (.int (1 : Int32))] [])) _
          refine XS.iloadN X0.here hx rfl (hb hby d9_49) rfl ?_
          show Steps p.tables e below (s₁.setTop (mkF m 50 #[.val (.int (Fmask xi)), .val (.int (1 : Int32))] [(.int (Fmask xi))])) _
          refine XS.bipush X0.here hx rfl (hb hby d9_50) ?_
          show Steps p.tables e below (s₁.setTop (mkF m 52 #[.val (.int (Fmask xi)), .val (.int (1 : Int32))] [(.int (16 : Int32)), (.int (Fmask xi))])) _
          by_cases hc15 : (16 : Int32) < (Fmask xi)
          · refine XS.icmpNo X0.here hx rfl (hb hby d9_52) rfl (tlt hc15).2.2.2 ?_
            have k : ∀ (v1 : Int32), v1 = (if (4 : Int32) < (((Fmask xi).toUInt32 >>> ((4 : Int32) &&& 31).toUInt32).toInt32) then ((7 : Int32) + (((((((Fmask xi).toUInt32 >>> ((4 : Int32) &&& 31).toUInt32).toInt32).toUInt32 >>> ((2 : Int32) &&& 31).toUInt32).toInt32).toUInt32 >>> ((1 : Int32) &&& 31).toUInt32).toInt32)) else ((5 : Int32) + (((((Fmask xi).toUInt32 >>> ((4 : Int32) &&& 31).toUInt32).toInt32).toUInt32 >>> ((1 : Int32) &&& 31).toUInt32).toInt32))) → ∀ (f : JFrame) (acts : List Action), f.method = m → f.locked = none → f.entered = [] → (doReturn e (s₁.setTop f) acts (some (.int v1))).1 = s₁.setFrames fs := fun v1 hv1 => k v1 (hv1.trans (if_pos hc15).symm)
            show Steps p.tables e below (s₁.setTop (mkF m 55 #[.val (.int (Fmask xi)), .val (.int (1 : Int32))] [])) _
            refine XS.iinc X0.here hx rfl (hb hby d9_55) rfl (l' := #[.val (.int (Fmask xi)), .val (.int (5 : Int32))]) rfl ?_
            show Steps p.tables e below (s₁.setTop (mkF m 58 #[.val (.int (Fmask xi)), .val (.int (5 : Int32))] [])) _
            refine XS.iloadN X0.here hx rfl (hb hby d9_58) rfl ?_
            show Steps p.tables e below (s₁.setTop (mkF m 59 #[.val (.int (Fmask xi)), .val (.int (5 : Int32))] [(.int (Fmask xi))])) _
            refine XS.iconst X0.here hx rfl (hb hby d9_59) ?_
            show Steps p.tables e below (s₁.setTop (mkF m 60 #[.val (.int (Fmask xi)), .val (.int (5 : Int32))] [(.int (4 : Int32)), (.int (Fmask xi))])) _
            refine XS.iushr X0.here hx rfl (hb hby d9_60) rfl ?_
            show Steps p.tables e below (s₁.setTop (mkF m 61 #[.val (.int (Fmask xi)), .val (.int (5 : Int32))] [(.int (((Fmask xi).toUInt32 >>> ((4 : Int32) &&& 31).toUInt32).toInt32))])) _
            refine XS.istoreN X0.here hx rfl (hb hby d9_61) rfl (l' := #[.val (.int (((Fmask xi).toUInt32 >>> ((4 : Int32) &&& 31).toUInt32).toInt32)), .val (.int (5 : Int32))]) rfl ?_
            show Steps p.tables e below (s₁.setTop (mkF m 62 #[.val (.int (((Fmask xi).toUInt32 >>> ((4 : Int32) &&& 31).toUInt32).toInt32)), .val (.int (5 : Int32))] [])) _
            refine XS.iloadN X0.here hx rfl (hb hby d9_62) rfl ?_
            show Steps p.tables e below (s₁.setTop (mkF m 63 #[.val (.int (((Fmask xi).toUInt32 >>> ((4 : Int32) &&& 31).toUInt32).toInt32)), .val (.int (5 : Int32))] [(.int (((Fmask xi).toUInt32 >>> ((4 : Int32) &&& 31).toUInt32).toInt32))])) _
            refine XS.iconst X0.here hx rfl (hb hby d9_63) ?_
            show Steps p.tables e below (s₁.setTop (mkF m 64 #[.val (.int (((Fmask xi).toUInt32 >>> ((4 : Int32) &&& 31).toUInt32).toInt32)), .val (.int (5 : Int32))] [(.int (4 : Int32)), (.int (((Fmask xi).toUInt32 >>> ((4 : Int32) &&& 31).toUInt32).toInt32))])) _
            by_cases hc16 : (4 : Int32) < (((Fmask xi).toUInt32 >>> ((4 : Int32) &&& 31).toUInt32).toInt32)
            · refine XS.icmpNo X0.here hx rfl (hb hby d9_64) rfl (tlt hc16).2.2.2 ?_
              have k : ∀ (v1 : Int32), v1 = ((7 : Int32) + (((((((Fmask xi).toUInt32 >>> ((4 : Int32) &&& 31).toUInt32).toInt32).toUInt32 >>> ((2 : Int32) &&& 31).toUInt32).toInt32).toUInt32 >>> ((1 : Int32) &&& 31).toUInt32).toInt32)) → ∀ (f : JFrame) (acts : List Action), f.method = m → f.locked = none → f.entered = [] → (doReturn e (s₁.setTop f) acts (some (.int v1))).1 = s₁.setFrames fs := fun v1 hv1 => k v1 (hv1.trans (if_pos hc16).symm)
              show Steps p.tables e below (s₁.setTop (mkF m 67 #[.val (.int (((Fmask xi).toUInt32 >>> ((4 : Int32) &&& 31).toUInt32).toInt32)), .val (.int (5 : Int32))] [])) _
              refine XS.iinc X0.here hx rfl (hb hby d9_67) rfl (l' := #[.val (.int (((Fmask xi).toUInt32 >>> ((4 : Int32) &&& 31).toUInt32).toInt32)), .val (.int (7 : Int32))]) rfl ?_
              show Steps p.tables e below (s₁.setTop (mkF m 70 #[.val (.int (((Fmask xi).toUInt32 >>> ((4 : Int32) &&& 31).toUInt32).toInt32)), .val (.int (7 : Int32))] [])) _
              refine XS.iloadN X0.here hx rfl (hb hby d9_70) rfl ?_
              show Steps p.tables e below (s₁.setTop (mkF m 71 #[.val (.int (((Fmask xi).toUInt32 >>> ((4 : Int32) &&& 31).toUInt32).toInt32)), .val (.int (7 : Int32))] [(.int (((Fmask xi).toUInt32 >>> ((4 : Int32) &&& 31).toUInt32).toInt32))])) _
              refine XS.iconst X0.here hx rfl (hb hby d9_71) ?_
              show Steps p.tables e below (s₁.setTop (mkF m 72 #[.val (.int (((Fmask xi).toUInt32 >>> ((4 : Int32) &&& 31).toUInt32).toInt32)), .val (.int (7 : Int32))] [(.int (2 : Int32)), (.int (((Fmask xi).toUInt32 >>> ((4 : Int32) &&& 31).toUInt32).toInt32))])) _
              refine XS.iushr X0.here hx rfl (hb hby d9_72) rfl ?_
              show Steps p.tables e below (s₁.setTop (mkF m 73 #[.val (.int (((Fmask xi).toUInt32 >>> ((4 : Int32) &&& 31).toUInt32).toInt32)), .val (.int (7 : Int32))] [(.int (((((Fmask xi).toUInt32 >>> ((4 : Int32) &&& 31).toUInt32).toInt32).toUInt32 >>> ((2 : Int32) &&& 31).toUInt32).toInt32))])) _
              refine XS.istoreN X0.here hx rfl (hb hby d9_73) rfl (l' := #[.val (.int (((((Fmask xi).toUInt32 >>> ((4 : Int32) &&& 31).toUInt32).toInt32).toUInt32 >>> ((2 : Int32) &&& 31).toUInt32).toInt32)), .val (.int (7 : Int32))]) rfl ?_
              show Steps p.tables e below (s₁.setTop (mkF m 74 #[.val (.int (((((Fmask xi).toUInt32 >>> ((4 : Int32) &&& 31).toUInt32).toInt32).toUInt32 >>> ((2 : Int32) &&& 31).toUInt32).toInt32)), .val (.int (7 : Int32))] [])) _
              refine XS.iloadN X0.here hx rfl (hb hby d9_74) rfl ?_
              show Steps p.tables e below (s₁.setTop (mkF m 75 #[.val (.int (((((Fmask xi).toUInt32 >>> ((4 : Int32) &&& 31).toUInt32).toInt32).toUInt32 >>> ((2 : Int32) &&& 31).toUInt32).toInt32)), .val (.int (7 : Int32))] [(.int (7 : Int32))])) _
              refine XS.iloadN X0.here hx rfl (hb hby d9_75) rfl ?_
              show Steps p.tables e below (s₁.setTop (mkF m 76 #[.val (.int (((((Fmask xi).toUInt32 >>> ((4 : Int32) &&& 31).toUInt32).toInt32).toUInt32 >>> ((2 : Int32) &&& 31).toUInt32).toInt32)), .val (.int (7 : Int32))] [(.int (((((Fmask xi).toUInt32 >>> ((4 : Int32) &&& 31).toUInt32).toInt32).toUInt32 >>> ((2 : Int32) &&& 31).toUInt32).toInt32)), (.int (7 : Int32))])) _
              refine XS.iconst X0.here hx rfl (hb hby d9_76) ?_
              show Steps p.tables e below (s₁.setTop (mkF m 77 #[.val (.int (((((Fmask xi).toUInt32 >>> ((4 : Int32) &&& 31).toUInt32).toInt32).toUInt32 >>> ((2 : Int32) &&& 31).toUInt32).toInt32)), .val (.int (7 : Int32))] [(.int (1 : Int32)), (.int (((((Fmask xi).toUInt32 >>> ((4 : Int32) &&& 31).toUInt32).toInt32).toUInt32 >>> ((2 : Int32) &&& 31).toUInt32).toInt32)), (.int (7 : Int32))])) _
              refine XS.iushr X0.here hx rfl (hb hby d9_77) rfl ?_
              show Steps p.tables e below (s₁.setTop (mkF m 78 #[.val (.int (((((Fmask xi).toUInt32 >>> ((4 : Int32) &&& 31).toUInt32).toInt32).toUInt32 >>> ((2 : Int32) &&& 31).toUInt32).toInt32)), .val (.int (7 : Int32))] [(.int (((((((Fmask xi).toUInt32 >>> ((4 : Int32) &&& 31).toUInt32).toInt32).toUInt32 >>> ((2 : Int32) &&& 31).toUInt32).toInt32).toUInt32 >>> ((1 : Int32) &&& 31).toUInt32).toInt32)), (.int (7 : Int32))])) _
              refine XS.iadd X0.here hx rfl (hb hby d9_78) rfl ?_
              show Steps p.tables e below (s₁.setTop (mkF m 79 #[.val (.int (((((Fmask xi).toUInt32 >>> ((4 : Int32) &&& 31).toUInt32).toInt32).toUInt32 >>> ((2 : Int32) &&& 31).toUInt32).toInt32)), .val (.int (7 : Int32))] [(.int ((7 : Int32) + (((((((Fmask xi).toUInt32 >>> ((4 : Int32) &&& 31).toUInt32).toInt32).toUInt32 >>> ((2 : Int32) &&& 31).toUInt32).toInt32).toUInt32 >>> ((1 : Int32) &&& 31).toUInt32).toInt32)))])) _
              exact retI X0 hx Bd.returns (hb hby d9_79) (k _ rfl)
            · refine XS.icmpYes X0.here hx rfl (pc0 := 64) (pc' := 74) rfl (hb hby d9_64) rfl (flt hc16).2.2.2 (by decide) (by decide) ?_
              have k : ∀ (v1 : Int32), v1 = ((5 : Int32) + (((((Fmask xi).toUInt32 >>> ((4 : Int32) &&& 31).toUInt32).toInt32).toUInt32 >>> ((1 : Int32) &&& 31).toUInt32).toInt32)) → ∀ (f : JFrame) (acts : List Action), f.method = m → f.locked = none → f.entered = [] → (doReturn e (s₁.setTop f) acts (some (.int v1))).1 = s₁.setFrames fs := fun v1 hv1 => k v1 (hv1.trans (if_neg hc16).symm)
              show Steps p.tables e below (s₁.setTop (mkF m 74 #[.val (.int (((Fmask xi).toUInt32 >>> ((4 : Int32) &&& 31).toUInt32).toInt32)), .val (.int (5 : Int32))] [])) _
              refine XS.iloadN X0.here hx rfl (hb hby d9_74) rfl ?_
              show Steps p.tables e below (s₁.setTop (mkF m 75 #[.val (.int (((Fmask xi).toUInt32 >>> ((4 : Int32) &&& 31).toUInt32).toInt32)), .val (.int (5 : Int32))] [(.int (5 : Int32))])) _
              refine XS.iloadN X0.here hx rfl (hb hby d9_75) rfl ?_
              show Steps p.tables e below (s₁.setTop (mkF m 76 #[.val (.int (((Fmask xi).toUInt32 >>> ((4 : Int32) &&& 31).toUInt32).toInt32)), .val (.int (5 : Int32))] [(.int (((Fmask xi).toUInt32 >>> ((4 : Int32) &&& 31).toUInt32).toInt32)), (.int (5 : Int32))])) _
              refine XS.iconst X0.here hx rfl (hb hby d9_76) ?_
              show Steps p.tables e below (s₁.setTop (mkF m 77 #[.val (.int (((Fmask xi).toUInt32 >>> ((4 : Int32) &&& 31).toUInt32).toInt32)), .val (.int (5 : Int32))] [(.int (1 : Int32)), (.int (((Fmask xi).toUInt32 >>> ((4 : Int32) &&& 31).toUInt32).toInt32)), (.int (5 : Int32))])) _
              refine XS.iushr X0.here hx rfl (hb hby d9_77) rfl ?_
              show Steps p.tables e below (s₁.setTop (mkF m 78 #[.val (.int (((Fmask xi).toUInt32 >>> ((4 : Int32) &&& 31).toUInt32).toInt32)), .val (.int (5 : Int32))] [(.int (((((Fmask xi).toUInt32 >>> ((4 : Int32) &&& 31).toUInt32).toInt32).toUInt32 >>> ((1 : Int32) &&& 31).toUInt32).toInt32)), (.int (5 : Int32))])) _
              refine XS.iadd X0.here hx rfl (hb hby d9_78) rfl ?_
              show Steps p.tables e below (s₁.setTop (mkF m 79 #[.val (.int (((Fmask xi).toUInt32 >>> ((4 : Int32) &&& 31).toUInt32).toInt32)), .val (.int (5 : Int32))] [(.int ((5 : Int32) + (((((Fmask xi).toUInt32 >>> ((4 : Int32) &&& 31).toUInt32).toInt32).toUInt32 >>> ((1 : Int32) &&& 31).toUInt32).toInt32)))])) _
              exact retI X0 hx Bd.returns (hb hby d9_79) (k _ rfl)
          · refine XS.icmpYes X0.here hx rfl (pc0 := 52) (pc' := 62) rfl (hb hby d9_52) rfl (flt hc15).2.2.2 (by decide) (by decide) ?_
            have k : ∀ (v1 : Int32), v1 = (if (4 : Int32) < (Fmask xi) then ((3 : Int32) + (((((Fmask xi).toUInt32 >>> ((2 : Int32) &&& 31).toUInt32).toInt32).toUInt32 >>> ((1 : Int32) &&& 31).toUInt32).toInt32)) else ((1 : Int32) + (((Fmask xi).toUInt32 >>> ((1 : Int32) &&& 31).toUInt32).toInt32))) → ∀ (f : JFrame) (acts : List Action), f.method = m → f.locked = none → f.entered = [] → (doReturn e (s₁.setTop f) acts (some (.int v1))).1 = s₁.setFrames fs := fun v1 hv1 => k v1 (hv1.trans (if_neg hc15).symm)
            show Steps p.tables e below (s₁.setTop (mkF m 62 #[.val (.int (Fmask xi)), .val (.int (1 : Int32))] [])) _
            refine XS.iloadN X0.here hx rfl (hb hby d9_62) rfl ?_
            show Steps p.tables e below (s₁.setTop (mkF m 63 #[.val (.int (Fmask xi)), .val (.int (1 : Int32))] [(.int (Fmask xi))])) _
            refine XS.iconst X0.here hx rfl (hb hby d9_63) ?_
            show Steps p.tables e below (s₁.setTop (mkF m 64 #[.val (.int (Fmask xi)), .val (.int (1 : Int32))] [(.int (4 : Int32)), (.int (Fmask xi))])) _
            by_cases hc17 : (4 : Int32) < (Fmask xi)
            · refine XS.icmpNo X0.here hx rfl (hb hby d9_64) rfl (tlt hc17).2.2.2 ?_
              have k : ∀ (v1 : Int32), v1 = ((3 : Int32) + (((((Fmask xi).toUInt32 >>> ((2 : Int32) &&& 31).toUInt32).toInt32).toUInt32 >>> ((1 : Int32) &&& 31).toUInt32).toInt32)) → ∀ (f : JFrame) (acts : List Action), f.method = m → f.locked = none → f.entered = [] → (doReturn e (s₁.setTop f) acts (some (.int v1))).1 = s₁.setFrames fs := fun v1 hv1 => k v1 (hv1.trans (if_pos hc17).symm)
              show Steps p.tables e below (s₁.setTop (mkF m 67 #[.val (.int (Fmask xi)), .val (.int (1 : Int32))] [])) _
              refine XS.iinc X0.here hx rfl (hb hby d9_67) rfl (l' := #[.val (.int (Fmask xi)), .val (.int (3 : Int32))]) rfl ?_
              show Steps p.tables e below (s₁.setTop (mkF m 70 #[.val (.int (Fmask xi)), .val (.int (3 : Int32))] [])) _
              refine XS.iloadN X0.here hx rfl (hb hby d9_70) rfl ?_
              show Steps p.tables e below (s₁.setTop (mkF m 71 #[.val (.int (Fmask xi)), .val (.int (3 : Int32))] [(.int (Fmask xi))])) _
              refine XS.iconst X0.here hx rfl (hb hby d9_71) ?_
              show Steps p.tables e below (s₁.setTop (mkF m 72 #[.val (.int (Fmask xi)), .val (.int (3 : Int32))] [(.int (2 : Int32)), (.int (Fmask xi))])) _
              refine XS.iushr X0.here hx rfl (hb hby d9_72) rfl ?_
              show Steps p.tables e below (s₁.setTop (mkF m 73 #[.val (.int (Fmask xi)), .val (.int (3 : Int32))] [(.int (((Fmask xi).toUInt32 >>> ((2 : Int32) &&& 31).toUInt32).toInt32))])) _
              refine XS.istoreN X0.here hx rfl (hb hby d9_73) rfl (l' := #[.val (.int (((Fmask xi).toUInt32 >>> ((2 : Int32) &&& 31).toUInt32).toInt32)), .val (.int (3 : Int32))]) rfl ?_
              show Steps p.tables e below (s₁.setTop (mkF m 74 #[.val (.int (((Fmask xi).toUInt32 >>> ((2 : Int32) &&& 31).toUInt32).toInt32)), .val (.int (3 : Int32))] [])) _
              refine XS.iloadN X0.here hx rfl (hb hby d9_74) rfl ?_
              show Steps p.tables e below (s₁.setTop (mkF m 75 #[.val (.int (((Fmask xi).toUInt32 >>> ((2 : Int32) &&& 31).toUInt32).toInt32)), .val (.int (3 : Int32))] [(.int (3 : Int32))])) _
              refine XS.iloadN X0.here hx rfl (hb hby d9_75) rfl ?_
              show Steps p.tables e below (s₁.setTop (mkF m 76 #[.val (.int (((Fmask xi).toUInt32 >>> ((2 : Int32) &&& 31).toUInt32).toInt32)), .val (.int (3 : Int32))] [(.int (((Fmask xi).toUInt32 >>> ((2 : Int32) &&& 31).toUInt32).toInt32)), (.int (3 : Int32))])) _
              refine XS.iconst X0.here hx rfl (hb hby d9_76) ?_
              show Steps p.tables e below (s₁.setTop (mkF m 77 #[.val (.int (((Fmask xi).toUInt32 >>> ((2 : Int32) &&& 31).toUInt32).toInt32)), .val (.int (3 : Int32))] [(.int (1 : Int32)), (.int (((Fmask xi).toUInt32 >>> ((2 : Int32) &&& 31).toUInt32).toInt32)), (.int (3 : Int32))])) _
              refine XS.iushr X0.here hx rfl (hb hby d9_77) rfl ?_
              show Steps p.tables e below (s₁.setTop (mkF m 78 #[.val (.int (((Fmask xi).toUInt32 >>> ((2 : Int32) &&& 31).toUInt32).toInt32)), .val (.int (3 : Int32))] [(.int (((((Fmask xi).toUInt32 >>> ((2 : Int32) &&& 31).toUInt32).toInt32).toUInt32 >>> ((1 : Int32) &&& 31).toUInt32).toInt32)), (.int (3 : Int32))])) _
              refine XS.iadd X0.here hx rfl (hb hby d9_78) rfl ?_
              show Steps p.tables e below (s₁.setTop (mkF m 79 #[.val (.int (((Fmask xi).toUInt32 >>> ((2 : Int32) &&& 31).toUInt32).toInt32)), .val (.int (3 : Int32))] [(.int ((3 : Int32) + (((((Fmask xi).toUInt32 >>> ((2 : Int32) &&& 31).toUInt32).toInt32).toUInt32 >>> ((1 : Int32) &&& 31).toUInt32).toInt32)))])) _
              exact retI X0 hx Bd.returns (hb hby d9_79) (k _ rfl)
            · refine XS.icmpYes X0.here hx rfl (pc0 := 64) (pc' := 74) rfl (hb hby d9_64) rfl (flt hc17).2.2.2 (by decide) (by decide) ?_
              have k : ∀ (v1 : Int32), v1 = ((1 : Int32) + (((Fmask xi).toUInt32 >>> ((1 : Int32) &&& 31).toUInt32).toInt32)) → ∀ (f : JFrame) (acts : List Action), f.method = m → f.locked = none → f.entered = [] → (doReturn e (s₁.setTop f) acts (some (.int v1))).1 = s₁.setFrames fs := fun v1 hv1 => k v1 (hv1.trans (if_neg hc17).symm)
              show Steps p.tables e below (s₁.setTop (mkF m 74 #[.val (.int (Fmask xi)), .val (.int (1 : Int32))] [])) _
              refine XS.iloadN X0.here hx rfl (hb hby d9_74) rfl ?_
              show Steps p.tables e below (s₁.setTop (mkF m 75 #[.val (.int (Fmask xi)), .val (.int (1 : Int32))] [(.int (1 : Int32))])) _
              refine XS.iloadN X0.here hx rfl (hb hby d9_75) rfl ?_
              show Steps p.tables e below (s₁.setTop (mkF m 76 #[.val (.int (Fmask xi)), .val (.int (1 : Int32))] [(.int (Fmask xi)), (.int (1 : Int32))])) _
              refine XS.iconst X0.here hx rfl (hb hby d9_76) ?_
              show Steps p.tables e below (s₁.setTop (mkF m 77 #[.val (.int (Fmask xi)), .val (.int (1 : Int32))] [(.int (1 : Int32)), (.int (Fmask xi)), (.int (1 : Int32))])) _
              refine XS.iushr X0.here hx rfl (hb hby d9_77) rfl ?_
              show Steps p.tables e below (s₁.setTop (mkF m 78 #[.val (.int (Fmask xi)), .val (.int (1 : Int32))] [(.int (((Fmask xi).toUInt32 >>> ((1 : Int32) &&& 31).toUInt32).toInt32)), (.int (1 : Int32))])) _
              refine XS.iadd X0.here hx rfl (hb hby d9_78) rfl ?_
              show Steps p.tables e below (s₁.setTop (mkF m 79 #[.val (.int (Fmask xi)), .val (.int (1 : Int32))] [(.int ((1 : Int32) + (((Fmask xi).toUInt32 >>> ((1 : Int32) &&& 31).toUInt32).toInt32)))])) _
              exact retI X0 hx Bd.returns (hb hby d9_79) (k _ rfl)
    · refine XS.ifNo X0.here hx rfl (hb hby d9_9) rfl ((if0 _ _).trans (flt hc2).2.2.1) ?_
      have k : ∀ (v1 : Int32), v1 = ((Fmask xi) &&& (32 : Int32)) → ∀ (f : JFrame) (acts : List Action), f.method = m → f.locked = none → f.entered = [] → (doReturn e (s₁.setTop f) acts (some (.int v1))).1 = s₁.setFrames fs := fun v1 hv1 => k v1 (hv1.trans (if_neg hc2).symm)
      show Steps p.tables e below (s₁.setTop (mkF m 12 #[.val (.int (Fmask xi)), .unset] [])) _
      refine XS.iloadN X0.here hx rfl (hb hby d9_12) rfl ?_
      show Steps p.tables e below (s₁.setTop (mkF m 13 #[.val (.int (Fmask xi)), .unset] [(.int (Fmask xi))])) _
      refine XS.bipush X0.here hx rfl (hb hby d9_13) ?_
      show Steps p.tables e below (s₁.setTop (mkF m 15 #[.val (.int (Fmask xi)), .unset] [(.int (32 : Int32)), (.int (Fmask xi))])) _
      refine XS.iand X0.here hx rfl (hb hby d9_15) rfl ?_
      show Steps p.tables e below (s₁.setTop (mkF m 16 #[.val (.int (Fmask xi)), .unset] [(.int ((Fmask xi) &&& (32 : Int32)))])) _
      exact retI X0 hx Bd.returns (hb hby d9_16) (k _ rfl)
  · show Q9 Z xi h0 n0 _ s₁.heap _
    rw [e0]
    exact ⟨rfl, N0, rfl⟩
theorem d8_0 : decode jdk_35_method_49_code 0 = .ok (.lload_n 0, 1) := by decide +kernel
theorem d8_1 : decode jdk_35_method_49_code 1 = .ok (.l2i, 1) := by decide +kernel
theorem d8_2 : decode jdk_35_method_49_code 2 = .ok (.istore_n 2, 1) := by decide +kernel
theorem d8_3 : decode jdk_35_method_49_code 3 = .ok (.iload_n 2, 1) := by decide +kernel
theorem d8_4 : decode jdk_35_method_49_code 4 = .ok (.ifCond .ne 17, 3) := by decide +kernel
theorem d8_7 : decode jdk_35_method_49_code 7 = .ok (.bipush 32, 2) := by decide +kernel
theorem d8_9 : decode jdk_35_method_49_code 9 = .ok (.lload_n 0, 1) := by decide +kernel
theorem d8_10 : decode jdk_35_method_49_code 10 = .ok (.bipush 32, 2) := by decide +kernel
theorem d8_12 : decode jdk_35_method_49_code 12 = .ok (.lushr, 1) := by decide +kernel
theorem d8_13 : decode jdk_35_method_49_code 13 = .ok (.l2i, 1) := by decide +kernel
theorem d8_14 : decode jdk_35_method_49_code 14 = .ok (.invokestatic 311, 3) := by decide +kernel
theorem d8_17 : decode jdk_35_method_49_code 17 = .ok (.iadd, 1) := by decide +kernel
theorem d8_18 : decode jdk_35_method_49_code 18 = .ok (.goto 7, 3) := by decide +kernel
theorem d8_21 : decode jdk_35_method_49_code 21 = .ok (.iload_n 2, 1) := by decide +kernel
theorem d8_22 : decode jdk_35_method_49_code 22 = .ok (.invokestatic 311, 3) := by decide +kernel
theorem d8_25 : decode jdk_35_method_49_code 25 = .ok (.ireturn, 1) := by decide +kernel
theorem pn_8 : plainName "java/lang/Long" = true := by first | (simp [plainName, overriddenIn]; done) | decide +kernel
theorem pd_5 : parseMethodDescriptor "(I)I" = some ⟨[.int], some .int⟩ := by decide +kernel
theorem ef_8 (m : MethodId) (x0 : Int64) : entryFrame m #[(.long x0)] 3 = mkF m 0 #[.val (.long x0), .second, .unset] [] := by first | (simp [entryFrame, mkF, argsToLocals, Value.category]; done) | rfl
def Fntzl (xl : Int64) : Int32 := (if (xl.toInt32) = (0 : Int32) then ((32 : Int32) + (Fntz (((xl.toUInt64 >>> ((32 : Int32) &&& 0x3f).toInt64.toUInt64).toInt64).toInt32))) else (Fntz (xl.toInt32)))
def Q8 (Z : State) (xl : Int64) (h0 : Heap) (n0 : Nat) (v : Option Value) (h : Heap) (L : List Loc) : Prop := v = some (.int (Fntzl xl)) ∧ Fr n0 L ∧ h = h0
set_option maxRecDepth 65536 in
set_option maxHeartbeats 40000000 in
theorem rm8 (l : Launch) (Z : State) (a0 : Array Value) (hw : ∀ d ∈ tables_1, d.before a0 Z = true) (ws : List Jvm.Cond) (xl : Int64) (h0 : Heap) (n0 : Nat) (Z0 : n0 ≤ h0.size) :
    MetFree l (⟨"java/lang/Long", "numberOfTrailingZeros", "(J)I"⟩ : MethodName) (head1 (Jvm.Cond.code (⟨"java/lang/Long", "numberOfTrailingZeros", "(J)I"⟩ : MethodName) jdk_35_method_49_code 3 (some .int) :: ws) ({ frames := 1, cells := 0, slots := 0, locals := 14 } : Room)) (fun a U => a = #[(.long xl)] ∧ Z.Warmed39 U.vm ∧ U.heap = h0) (fun _ _ _ _ _ => True) (fun _ U o U' => ∃ v L, o = .returned v ∧ Q8 Z xl h0 n0 v U'.heap L ∧ FrameEnd U o U' L ({ frames := 1, cells := 0, slots := 0, locals := 14 } : Room).cells ({ frames := 1, cells := 0, slots := 0, locals := 14 } : Room).slots) := by
  refine MetFree.of_bodySF (plainFor_of_name pn_8) hisR ?_
  intro p e s m args below meth c s₁ Bd hml0 hP hK
  obtain ⟨rfl, hZ, hh⟩ := hP
  have hx := Bd.exec
  have hby := Bd.bytes
  have hml : c.maxLocals = 3 := hml0
  have hown : s.vm.findClass "java/lang/Long" = some m.cls := findClass_of_methodNamed Bd.named
  have hnm := (name_of_methodNamed Bd.named Bd.method).1
  have X0 : Stand p l e ({ frames := 1, cells := 0, slots := 0, locals := 14 } : Room) s m #[(.long xl)] below meth c s₁ [] 0 0 := Stand.of_body Bd
  have e0 : s₁.heap = h0 := by rw [← hh, Bd.state]; rfl
  have N0 := Fr.nil n0
  have pre0 : ∀ t, Steps p.tables e below (s₁.setTop (mkF m 0 #[.val (.long xl), .second, .unset] [])) t → Steps p.tables e below (s₁.setTop (entryFrame m #[(.long xl)] 3)) t := fun t k => castTop (ef_8 m xl) k
  have pre1 : ∀ t, Steps p.tables e below (s₁.setTop (mkF m 4 #[.val (.long xl), .second, .val (.int (xl.toInt32))] [(.int (xl.toInt32))])) t → Steps p.tables e below (s₁.setTop (entryFrame m #[(.long xl)] 3)) t := by
    intro t k
    refine pre0 t ?_
    show Steps p.tables e below (s₁.setTop (mkF m 0 #[.val (.long xl), .second, .unset] [])) _
    refine XS.lloadN X0.here hx rfl (hb hby d8_0) rfl ?_
    show Steps p.tables e below (s₁.setTop (mkF m 1 #[.val (.long xl), .second, .unset] [(.long xl)])) _
    refine XS.l2i X0.here hx rfl (hb hby d8_1) rfl ?_
    show Steps p.tables e below (s₁.setTop (mkF m 2 #[.val (.long xl), .second, .unset] [(.int (xl.toInt32))])) _
    refine XS.istoreN X0.here hx rfl (hb hby d8_2) rfl (l' := #[.val (.long xl), .second, .val (.int (xl.toInt32))]) rfl ?_
    show Steps p.tables e below (s₁.setTop (mkF m 3 #[.val (.long xl), .second, .val (.int (xl.toInt32))] [])) _
    refine XS.iloadN X0.here hx rfl (hb hby d8_3) rfl ?_
    exact k
  by_cases hc2 : (xl.toInt32) = (0 : Int32)
  ·
    obtain ⟨_, _, ⟨T3, L3, k3, n3⟩, -, X3, ⟨Lc3, hQ3, l3, y3, z3⟩, st3⟩ := Jvm.LawKit.callS X0 hx (y := (⟨"java/lang/Integer", "numberOfTrailingZeros", "(I)I"⟩ : MethodName)) hown (mvT hZ (hw _ (List.mem_of_getElem? (i := 46) rfl))) (mvT hZ (hw _ (List.mem_of_getElem? (i := 47) rfl))) (mvT hZ (hw _ (List.mem_of_getElem? (i := 48) rfl))) (mvT hZ (hw _ (List.mem_of_getElem? (i := 49) rfl))) (by decide) (backOf (W := 1) (rm9 l Z a0 hw [] (((xl.toUInt64 >>> ((32 : Int32) &&& 0x3f).toInt64.toUInt64).toInt64).toInt32) h0 n0 Z0) hZ (hw _ (List.mem_of_getElem? (i := 49) rfl)) (hw _ (List.mem_of_getElem? (i := 48) rfl)) (by decide) (by decide)) (g := (mkF m 14 #[.val (.long xl), .second, .val (.int (xl.toInt32))] [(.int (((xl.toUInt64 >>> ((32 : Int32) &&& 0x3f).toInt64.toUInt64).toInt64).toInt32)), (.int (32 : Int32))])) rfl (by rw [hml]; rfl) (argsL := [(.int (((xl.toUInt64 >>> ((32 : Int32) &&& 0x3f).toInt64.toUInt64).toInt64).toInt32))]) (rest := [(.int (32 : Int32))]) (lenOf pd_5 rfl) rfl (by show 2 * 0 + _ ≤ _; exact Nat.le_of_eq rfl) (hb hby d8_14) (fun _ _ => ⟨rfl, e0, (by decide : 0 + 0 ≤ _), (by decide : 0 + 0 ≤ _)⟩)
    dsimp only [Pt.U, Pt.locs, Pt.cells, Pt.slots] at X3 l3 y3 z3 st3 hQ3
    subst y3 z3
    obtain ⟨rfl, N3q, e3⟩ := hQ3
    have N3 : Fr n0 L3 := by rw [l3]; exact Fr.app N0 N3q
    have pre4 : ∀ t, Steps p.tables e below (T3.setTop (mkF m 25 #[.val (.long xl), .second, .val (.int (xl.toInt32))] [(.int ((32 : Int32) + (Fntz (((xl.toUInt64 >>> ((32 : Int32) &&& 0x3f).toInt64.toUInt64).toInt64).toInt32))))])) t → Steps p.tables e below (s₁.setTop (entryFrame m #[(.long xl)] 3)) t := by
      intro t k
      refine pre1 t ?_
      show Steps p.tables e below (s₁.setTop (mkF m 4 #[.val (.long xl), .second, .val (.int (xl.toInt32))] [(.int (xl.toInt32))])) _
      refine XS.ifNo X0.here hx rfl (hb hby d8_4) rfl ((if0 _ _).trans (teq hc2).2) ?_
      show Steps p.tables e below (s₁.setTop (mkF m 7 #[.val (.long xl), .second, .val (.int (xl.toInt32))] [])) _
      refine XS.bipush X0.here hx rfl (hb hby d8_7) ?_
      show Steps p.tables e below (s₁.setTop (mkF m 9 #[.val (.long xl), .second, .val (.int (xl.toInt32))] [(.int (32 : Int32))])) _
      refine XS.lloadN X0.here hx rfl (hb hby d8_9) rfl ?_
      show Steps p.tables e below (s₁.setTop (mkF m 10 #[.val (.long xl), .second, .val (.int (xl.toInt32))] [(.long xl), (.int (32 : Int32))])) _
      refine XS.bipush X0.here hx rfl (hb hby d8_10) ?_
      show Steps p.tables e below (s₁.setTop (mkF m 12 #[.val (.long xl), .second, .val (.int (xl.toInt32))] [(.int (32 : Int32)), (.long xl), (.int (32 : Int32))])) _
      refine XS.lushr X0.here hx rfl (hb hby d8_12) rfl ?_
      show Steps p.tables e below (s₁.setTop (mkF m 13 #[.val (.long xl), .second, .val (.int (xl.toInt32))] [(.long ((xl.toUInt64 >>> ((32 : Int32) &&& 0x3f).toInt64.toUInt64).toInt64)), (.int (32 : Int32))])) _
      refine XS.l2i X0.here hx rfl (hb hby d8_13) rfl ?_
      show Steps p.tables e below (s₁.setTop (mkF m 14 #[.val (.long xl), .second, .val (.int (xl.toInt32))] [(.int (((xl.toUInt64 >>> ((32 : Int32) &&& 0x3f).toInt64.toUInt64).toInt64).toInt32)), (.int (32 : Int32))])) _
      refine st3 _ ?_
      show Steps p.tables e below (T3.setTop (mkF m 17 #[.val (.long xl), .second, .val (.int (xl.toInt32))] [(.int (Fntz (((xl.toUInt64 >>> ((32 : Int32) &&& 0x3f).toInt64.toUInt64).toInt64).toInt32))), (.int (32 : Int32))])) _
      refine XS.iadd X3.here hx rfl (hb hby d8_17) rfl ?_
      show Steps p.tables e below (T3.setTop (mkF m 18 #[.val (.long xl), .second, .val (.int (xl.toInt32))] [(.int ((32 : Int32) + (Fntz (((xl.toUInt64 >>> ((32 : Int32) &&& 0x3f).toInt64.toUInt64).toInt64).toInt32))))])) _
      refine XS.goto X3.here hx rfl (pc0 := 18) (pc' := 25) rfl (hb hby d8_18) (by decide) (by decide) ?_
      exact k
    obtain ⟨fs, hr, hrun, hended, hW, hsame⟩ := X3.leave (v := some (.int (Fntzl xl))) (fun h => by rw [Bd.returns] at h; cases h) (BodyLoose.notSynchronized Bd)
    refine ⟨_, _, pre4 _ ?_, hrun, hended, _, _, rfl, ?_, ⟨_, rfl⟩, hW, hsame.mono (by decide) (by decide)⟩
    · show Steps p.tables e below (T3.setTop (mkF m 25 #[.val (.long xl), .second, .val (.int (xl.toInt32))] [(.int ((32 : Int32) + (Fntz (((xl.toUInt64 >>> ((32 : Int32) &&& 0x3f).toInt64.toUInt64).toInt64).toInt32))))])) _
      have hr2 := hr
      rw [(show (Fntzl xl) = ((32 : Int32) + (Fntz (((xl.toUInt64 >>> ((32 : Int32) &&& 0x3f).toInt64.toUInt64).toInt64).toInt32))) from ((if_pos hc2).trans rfl))] at hr2
      exact retI X3 hx Bd.returns (hb hby d8_25) hr2
    · show Q8 Z xl h0 n0 _ T3.heap _
      rw [e3]
      exact ⟨rfl, N3, rfl⟩
  ·
    obtain ⟨_, _, ⟨T5, L5, k5, n5⟩, -, X5, ⟨Lc5, hQ5, l5, y5, z5⟩, st5⟩ := Jvm.LawKit.callS X0 hx (y := (⟨"java/lang/Integer", "numberOfTrailingZeros", "(I)I"⟩ : MethodName)) hown (mvT hZ (hw _ (List.mem_of_getElem? (i := 46) rfl))) (mvT hZ (hw _ (List.mem_of_getElem? (i := 47) rfl))) (mvT hZ (hw _ (List.mem_of_getElem? (i := 48) rfl))) (mvT hZ (hw _ (List.mem_of_getElem? (i := 49) rfl))) (by decide) (backOf (W := 0) (rm9 l Z a0 hw [] (xl.toInt32) h0 n0 Z0) hZ (hw _ (List.mem_of_getElem? (i := 49) rfl)) (hw _ (List.mem_of_getElem? (i := 48) rfl)) (by decide) (by decide)) (g := (mkF m 22 #[.val (.long xl), .second, .val (.int (xl.toInt32))] [(.int (xl.toInt32))])) rfl (by rw [hml]; rfl) (argsL := [(.int (xl.toInt32))]) (rest := []) (lenOf pd_5 rfl) rfl (by show 2 * 0 + _ ≤ _; exact Nat.le_of_eq rfl) (hb hby d8_22) (fun _ _ => ⟨rfl, e0, (by decide : 0 + 0 ≤ _), (by decide : 0 + 0 ≤ _)⟩)
    dsimp only [Pt.U, Pt.locs, Pt.cells, Pt.slots] at X5 l5 y5 z5 st5 hQ5
    subst y5 z5
    obtain ⟨rfl, N5q, e5⟩ := hQ5
    have N5 : Fr n0 L5 := by rw [l5]; exact Fr.app N0 N5q
    have pre6 : ∀ t, Steps p.tables e below (T5.setTop (mkF m 25 #[.val (.long xl), .second, .val (.int (xl.toInt32))] [(.int (Fntz (xl.toInt32)))])) t → Steps p.tables e below (s₁.setTop (entryFrame m #[(.long xl)] 3)) t := by
      intro t k
      refine pre1 t ?_
      show Steps p.tables e below (s₁.setTop (mkF m 4 #[.val (.long xl), .second, .val (.int (xl.toInt32))] [(.int (xl.toInt32))])) _
      refine XS.ifYes X0.here hx rfl (pc0 := 4) (pc' := 21) rfl (hb hby d8_4) rfl ((if0 _ _).trans (feq hc2).2) (by decide) (by decide) ?_
      show Steps p.tables e below (s₁.setTop (mkF m 21 #[.val (.long xl), .second, .val (.int (xl.toInt32))] [])) _
      refine XS.iloadN X0.here hx rfl (hb hby d8_21) rfl ?_
      show Steps p.tables e below (s₁.setTop (mkF m 22 #[.val (.long xl), .second, .val (.int (xl.toInt32))] [(.int (xl.toInt32))])) _
      refine st5 _ ?_
      exact k
    obtain ⟨fs, hr, hrun, hended, hW, hsame⟩ := X5.leave (v := some (.int (Fntzl xl))) (fun h => by rw [Bd.returns] at h; cases h) (BodyLoose.notSynchronized Bd)
    refine ⟨_, _, pre6 _ ?_, hrun, hended, _, _, rfl, ?_, ⟨_, rfl⟩, hW, hsame.mono (by decide) (by decide)⟩
    · show Steps p.tables e below (T5.setTop (mkF m 25 #[.val (.long xl), .second, .val (.int (xl.toInt32))] [(.int (Fntz (xl.toInt32)))])) _
      have hr2 := hr
      rw [(show (Fntzl xl) = (Fntz (xl.toInt32)) from ((if_neg hc2).trans rfl))] at hr2
      exact retI X5 hx Bd.returns (hb hby d8_25) hr2
    · show Q8 Z xl h0 n0 _ T5.heap _
      rw [e5]
      exact ⟨rfl, N5, rfl⟩
def own_wd (fr : Int32) (w : Int32 → Int64) : Int64 := ((w (own_ix fr)) &&& ((-1 : Int64) <<< (fr &&& 0x3f).toInt64))
def own_wi (fr : Int32) : Int32 := ((own_ix fr) + (1 : Int32))
def own_sw (fr : Int32) (u : Int32 → Int64) : Int64 := ((u (own_ix (own_wi fr))) &&& ((-1 : Int64) <<< ((own_wi fr) &&& 0x3f).toInt64))
theorem d7_87 : decode prog_16_method_8_code 87 = .ok (.lload 6, 2) := by decide +kernel
theorem d7_89 : decode prog_16_method_8_code 89 = .ok (.lconst 0, 1) := by decide +kernel
theorem d7_90 : decode prog_16_method_8_code 90 = .ok (.lcmp, 1) := by decide +kernel
theorem d7_91 : decode prog_16_method_8_code 91 = .ok (.ifCond .ne 30, 3) := by decide +kernel
theorem d7_94 : decode prog_16_method_8_code 94 = .ok (.iinc 5 1, 3) := by decide +kernel
theorem d7_97 : decode prog_16_method_8_code 97 = .ok (.iload 5, 2) := by decide +kernel
theorem d7_99 : decode prog_16_method_8_code 99 = .ok (.aload_n 0, 1) := by decide +kernel
theorem d7_100 : decode prog_16_method_8_code 100 = .ok (.getfield 17, 3) := by decide +kernel
theorem d7_103 : decode prog_16_method_8_code 103 = .ok (.arraylength, 1) := by decide +kernel
theorem d7_104 : decode prog_16_method_8_code 104 = .ok (.if_icmp .ne 5, 3) := by decide +kernel
theorem d7_109 : decode prog_16_method_8_code 109 = .ok (.aload_n 0, 1) := by decide +kernel
theorem d7_110 : decode prog_16_method_8_code 110 = .ok (.getfield 17, 3) := by decide +kernel
theorem d7_113 : decode prog_16_method_8_code 113 = .ok (.iload 5, 2) := by decide +kernel
theorem d7_115 : decode prog_16_method_8_code 115 = .ok (.laload, 1) := by decide +kernel
theorem d7_116 : decode prog_16_method_8_code 116 = .ok (.lstore 6, 2) := by decide +kernel
theorem d7_118 : decode prog_16_method_8_code 118 = .ok (.goto (-31), 3) := by decide +kernel
def nx_i (si : Int32) : Int32 := (si + (1 : Int32))
def nx_w (si : Int32) (u : Int32 → Int64) : Int64 := (u (si + (1 : Int32)))
set_option maxRecDepth 65536 in
set_option maxHeartbeats 40000000 in
theorem nxTurn {p : Program} {l : Launch} {e : Env} {R : Room} {s : State} {m : MethodId} {args : Array Value} {below : List Frame} {meth : Method} {c : Code} {T0 : State} {locs : List Loc} {cells slots : Nat} {Z : State} {a0 : Array Value} {h0 : Heap} {n0 : Nat} (fr : Int32) (si : Int32) (sw : Int64) (ob : Addr) (aw : Addr) (au : Addr) (cap : Int32) (sz : Int32) (nw : Int32) (w : Int32 → Int64) (nu : Int32) (u : Int32 → Int64)
    (X0 : Stand p l e R s m args below meth c T0 locs cells slots) (hx : p.tables.exec = Jvm.exec) (hZ : Z.Warmed39 s.vm) (hw : ∀ d ∈ tables_1, d.before a0 Z = true) (hby : c.code = prog_16_method_8_code) (hml : c.maxLocals = 8) (hown : s.vm.findClass "com/example/cutline/cutline/IndexSet" = some m.cls) (e0 : T0.heap = h0) (N0 : Fr n0 locs) (Z0 : n0 ≤ h0.size) (I0 : IS Z h0 n0 ob aw au cap sz nw w nu u) (hz : sw = 0) (hn : ¬ ((si + (1 : Int32)) = nu)) (hin : ¬ (si + (1 : Int32)) < 0 ∧ (si + (1 : Int32)) < nu) :
    ∃ (T' : State) (h' : Heap) (locs' : List Loc), Stand p l e R s m args below meth c T' locs' cells slots ∧ T'.heap = h' ∧ Fr n0 locs' ∧ (h' = h0) ∧ ∀ t, Steps p.tables e below (T'.setTop (mkF m 87 #[.val (.ref ob), .val (.int fr), .val (.int (own_wi fr)), .val (.long (own_wd fr w)), .second, .val (.int (nx_i si)), .val (.long (nx_w si u)), .second] [])) t → Steps p.tables e below (T0.setTop (mkF m 87 #[.val (.ref ob), .val (.int fr), .val (.int (own_wi fr)), .val (.long (own_wd fr w)), .second, .val (.int si), .val (.long sw), .second] [])) t := by
  have pre0 : ∀ t, Steps p.tables e below (T0.setTop (mkF m 87 #[.val (.ref ob), .val (.int fr), .val (.int (own_wi fr)), .val (.long (own_wd fr w)), .second, .val (.int si), .val (.long sw), .second] [])) t → Steps p.tables e below (T0.setTop (mkF m 87 #[.val (.ref ob), .val (.int fr), .val (.int (own_wi fr)), .val (.long (own_wd fr w)), .second, .val (.int si), .val (.long sw), .second] [])) t := fun t k => k
  obtain ⟨k1_0, k1_1, k1_2, k1_3, k1_4, k1_5, k1_6, k1_g_ob, k1_g_aw, k1_g_au, k1_n_ob_aw, k1_n_ob_au, k1_n_aw_au, k1_sz⟩ := I0
  obtain ⟨T2, X2, e2, st2⟩ := getF X0 hx hZ hown (host := "") (Or.inl (hw _ (List.mem_of_getElem? (i := 22) rfl))) Via.refl e0 k1_3 (g := (mkF m 100 #[.val (.ref ob), .val (.int fr), .val (.int (own_wi fr)), .val (.long (own_wd fr w)), .second, .val (.int (si + (1 : Int32))), .val (.long sw), .second] [(.ref ob), (.int (si + (1 : Int32)))])) rfl rfl (hb hby d7_100)
  obtain ⟨T3, X3, e3, st3⟩ := getF X2 hx hZ hown (host := "") (Or.inl (hw _ (List.mem_of_getElem? (i := 22) rfl))) Via.refl e2 k1_3 (g := (mkF m 110 #[.val (.ref ob), .val (.int fr), .val (.int (own_wi fr)), .val (.long (own_wd fr w)), .second, .val (.int (si + (1 : Int32))), .val (.long sw), .second] [(.ref ob)])) rfl rfl (hb hby d7_110)
  have pre4 : ∀ t, Steps p.tables e below (T3.setTop (mkF m 87 #[.val (.ref ob), .val (.int fr), .val (.int (own_wi fr)), .val (.long (own_wd fr w)), .second, .val (.int (si + (1 : Int32))), .val (.long (u (si + (1 : Int32)))), .second] [])) t → Steps p.tables e below (T0.setTop (mkF m 87 #[.val (.ref ob), .val (.int fr), .val (.int (own_wi fr)), .val (.long (own_wd fr w)), .second, .val (.int si), .val (.long sw), .second] [])) t := by
    intro t k
    refine pre0 t ?_
    show Steps p.tables e below (T0.setTop (mkF m 87 #[.val (.ref ob), .val (.int fr), .val (.int (own_wi fr)), .val (.long (own_wd fr w)), .second, .val (.int si), .val (.long sw), .second] [])) _
    refine XS.lload X0.here hx rfl (hb hby d7_87) rfl ?_
    show Steps p.tables e below (T0.setTop (mkF m 89 #[.val (.ref ob), .val (.int fr), .val (.int (own_wi fr)), .val (.long (own_wd fr w)), .second, .val (.int si), .val (.long sw), .second] [(.long sw)])) _
    refine XS.lconst X0.here hx rfl (hb hby d7_89) ?_
    show Steps p.tables e below (T0.setTop (mkF m 90 #[.val (.ref ob), .val (.int fr), .val (.int (own_wi fr)), .val (.long (own_wd fr w)), .second, .val (.int si), .val (.long sw), .second] [(.long (0 : Int64)), (.long sw)])) _
    refine XS.lcmp X0.here hx rfl (hb hby d7_90) rfl ?_
    show Steps p.tables e below (T0.setTop (mkF m 91 #[.val (.ref ob), .val (.int fr), .val (.int (own_wi fr)), .val (.long (own_wd fr w)), .second, .val (.int si), .val (.long sw), .second] [(.int (lcmpW sw (0 : Int64)))])) _
    refine XS.ifNo X0.here hx rfl (hb hby d7_91) rfl ((if0 _ _).trans (teq ((lw_eq _ _).mpr hz)).2) ?_
    show Steps p.tables e below (T0.setTop (mkF m 94 #[.val (.ref ob), .val (.int fr), .val (.int (own_wi fr)), .val (.long (own_wd fr w)), .second, .val (.int si), .val (.long sw), .second] [])) _
    refine XS.iinc X0.here hx rfl (hb hby d7_94) rfl (l' := #[.val (.ref ob), .val (.int fr), .val (.int (own_wi fr)), .val (.long (own_wd fr w)), .second, .val (.int (si + (1 : Int32))), .val (.long sw), .second]) rfl ?_
    show Steps p.tables e below (T0.setTop (mkF m 97 #[.val (.ref ob), .val (.int fr), .val (.int (own_wi fr)), .val (.long (own_wd fr w)), .second, .val (.int (si + (1 : Int32))), .val (.long sw), .second] [])) _
    refine XS.iload X0.here hx rfl (hb hby d7_97) rfl ?_
    show Steps p.tables e below (T0.setTop (mkF m 99 #[.val (.ref ob), .val (.int fr), .val (.int (own_wi fr)), .val (.long (own_wd fr w)), .second, .val (.int (si + (1 : Int32))), .val (.long sw), .second] [(.int (si + (1 : Int32)))])) _
    refine XS.aloadN X0.here hx rfl (hb hby d7_99) rfl rfl ?_
    show Steps p.tables e below (T0.setTop (mkF m 100 #[.val (.ref ob), .val (.int fr), .val (.int (own_wi fr)), .val (.long (own_wd fr w)), .second, .val (.int (si + (1 : Int32))), .val (.long sw), .second] [(.ref ob), (.int (si + (1 : Int32)))])) _
    refine st2 _ ?_
    show Steps p.tables e below (T2.setTop (mkF m 103 #[.val (.ref ob), .val (.int fr), .val (.int (own_wi fr)), .val (.long (own_wd fr w)), .second, .val (.int (si + (1 : Int32))), .val (.long sw), .second] [(.ref au), (.int (si + (1 : Int32)))])) _
    refine lnG X2 hx hZ e2 k1_6 (g := (mkF m 103 #[.val (.ref ob), .val (.int fr), .val (.int (own_wi fr)), .val (.long (own_wd fr w)), .second, .val (.int (si + (1 : Int32))), .val (.long sw), .second] [(.ref au), (.int (si + (1 : Int32)))])) rfl rfl (hb hby d7_103) _ ?_
    show Steps p.tables e below (T2.setTop (mkF m 104 #[.val (.ref ob), .val (.int fr), .val (.int (own_wi fr)), .val (.long (own_wd fr w)), .second, .val (.int (si + (1 : Int32))), .val (.long sw), .second] [(.int nu), (.int (si + (1 : Int32)))])) _
    refine XS.icmpYes X2.here hx rfl (pc0 := 104) (pc' := 109) rfl (hb hby d7_104) rfl (feq hn).2 (by decide) (by decide) ?_
    show Steps p.tables e below (T2.setTop (mkF m 109 #[.val (.ref ob), .val (.int fr), .val (.int (own_wi fr)), .val (.long (own_wd fr w)), .second, .val (.int (si + (1 : Int32))), .val (.long sw), .second] [])) _
    refine XS.aloadN X2.here hx rfl (hb hby d7_109) rfl rfl ?_
    show Steps p.tables e below (T2.setTop (mkF m 110 #[.val (.ref ob), .val (.int fr), .val (.int (own_wi fr)), .val (.long (own_wd fr w)), .second, .val (.int (si + (1 : Int32))), .val (.long sw), .second] [(.ref ob)])) _
    refine st3 _ ?_
    show Steps p.tables e below (T3.setTop (mkF m 113 #[.val (.ref ob), .val (.int fr), .val (.int (own_wi fr)), .val (.long (own_wd fr w)), .second, .val (.int (si + (1 : Int32))), .val (.long sw), .second] [(.ref au)])) _
    refine XS.iload X3.here hx rfl (hb hby d7_113) rfl ?_
    show Steps p.tables e below (T3.setTop (mkF m 115 #[.val (.ref ob), .val (.int fr), .val (.int (own_wi fr)), .val (.long (own_wd fr w)), .second, .val (.int (si + (1 : Int32))), .val (.long sw), .second] [(.int (si + (1 : Int32))), (.ref au)])) _
    refine rdJ X3 hx hZ e3 k1_6 (j := (si + (1 : Int32))) hin rfl (g := (mkF m 115 #[.val (.ref ob), .val (.int fr), .val (.int (own_wi fr)), .val (.long (own_wd fr w)), .second, .val (.int (si + (1 : Int32))), .val (.long sw), .second] [(.int (si + (1 : Int32))), (.ref au)])) rfl rfl (hb hby d7_115) _ ?_
    show Steps p.tables e below (T3.setTop (mkF m 116 #[.val (.ref ob), .val (.int fr), .val (.int (own_wi fr)), .val (.long (own_wd fr w)), .second, .val (.int (si + (1 : Int32))), .val (.long sw), .second] [(.long (u (si + (1 : Int32))))])) _
    refine XS.lstore X3.here hx rfl (hb hby d7_116) rfl (l' := #[.val (.ref ob), .val (.int fr), .val (.int (own_wi fr)), .val (.long (own_wd fr w)), .second, .val (.int (si + (1 : Int32))), .val (.long (u (si + (1 : Int32)))), .second]) rfl ?_
    show Steps p.tables e below (T3.setTop (mkF m 118 #[.val (.ref ob), .val (.int fr), .val (.int (own_wi fr)), .val (.long (own_wd fr w)), .second, .val (.int (si + (1 : Int32))), .val (.long (u (si + (1 : Int32)))), .second] [])) _
    refine XS.goto X3.here hx rfl (pc0 := 118) (pc' := 87) rfl (hb hby d7_118) (by decide) (by decide) ?_
    exact k
  refine ⟨T3, _, _, X3, e3, N0, rfl, fun t k => ?_⟩
  rw [(show (nx_i si) = (si + (1 : Int32)) from rfl), (show (nx_w si u) = (u (si + (1 : Int32))) from rfl)] at k
  exact pre4 t k
def scan (u : Int32 → Int64) : Nat → Int32 → Int64 → Int32 × Int64
  | 0, si, sw => (si, sw)
  | k + 1, si, sw => if sw = 0 then scan u k (nx_i si) (nx_w si u) else (si, sw)
set_option maxHeartbeats 4000000 in
theorem nxLoop {p : Program} {l : Launch} {e : Env} {R : Room} {s : State} {m : MethodId} {args : Array Value} {below : List Frame} {meth : Method} {c : Code} {cells slots : Nat} {Z : State} {a0 : Array Value} {h0 : Heap} {n0 : Nat} (fr : Int32) (ob aw au : Addr) (cap sz nw : Int32) (w : Int32 → Int64) (nu : Int32) (u : Int32 → Int64)
    (hx : p.tables.exec = Jvm.exec) (hZ : Z.Warmed39 s.vm) (hw : ∀ d ∈ tables_1, d.before a0 Z = true) (hby : c.code = prog_16_method_8_code) (hml : c.maxLocals = 8) (hown : s.vm.findClass "com/example/cutline/cutline/IndexSet" = some m.cls) (hnu : nu.toInt ≤ 16384) (I0 : IS Z h0 n0 ob aw au cap sz nw w nu u) (k : Nat) : ∀ {T0 : State} {locs : List Loc} (si : Int32) (sw : Int64) (X0 : Stand p l e R s m args below meth c T0 locs cells slots) (e0 : T0.heap = h0) (N0 : Fr n0 locs) (hk : si.toInt + k = nu.toInt - 1) (hi0 : 0 ≤ si.toInt),
    ∃ (T' : State) (locs' : List Loc), Stand p l e R s m args below meth c T' locs' cells slots ∧ T'.heap = h0 ∧ Fr n0 locs' ∧ ∀ t, Steps p.tables e below (T'.setTop (mkF m 87 #[.val (.ref ob), .val (.int fr), .val (.int (own_wi fr)), .val (.long (own_wd fr w)), .second, .val (.int (scan u k si sw).1), .val (.long (scan u k si sw).2), .second] [])) t → Steps p.tables e below (T0.setTop (mkF m 87 #[.val (.ref ob), .val (.int fr), .val (.int (own_wi fr)), .val (.long (own_wd fr w)), .second, .val (.int si), .val (.long sw), .second] [])) t := by
  induction k with
  | zero =>
    intro T0 locs si sw X0 e0 N0 hk hi0
    exact ⟨T0, locs, X0, e0, N0, fun t k => k⟩
  | succ k ih =>
    intro T0 locs si sw X0 e0 N0 hk hi0
    by_cases hz : sw = 0
    · have l1 : (1 : Int32).toInt = 1 := by decide
      have l0 : (0 : Int32).toInt = 0 := by decide
      have a := c_iadd si 1
      have b := rng32 (si + 1)
      have e1 : (si + 1).toInt = si.toInt + 1 := by omega
      obtain ⟨T1, h1, locs1, X1, q1, N1, rfl, st1⟩ := nxTurn fr si sw ob aw au cap sz nw w nu u X0 hx hZ hw hby hml hown e0 N0 I0.2.2.2.2.2.2.2.2.2.2.2.2.2 I0 hz (fun q => by rw [← Int32.toInt_inj, e1] at q; omega) ⟨by rw [Int32.lt_iff_toInt_lt, e1, l0]; omega, by rw [Int32.lt_iff_toInt_lt, e1]; omega⟩
      have hs : scan u (k + 1) si sw = scan u k (nx_i si) (nx_w si u) := if_pos hz
      rw [hs]
      obtain ⟨T2, locs2, X2, q2, N2, st2⟩ := ih (nx_i si) (nx_w si u) X1 q1 N1 (by show (si + 1).toInt + _ = _; omega) (by show 0 ≤ (si + 1).toInt; omega)
      exact ⟨T2, locs2, X2, q2, N2, fun t k => st1 t (st2 t k)⟩
    · have hs : scan u (k + 1) si sw = (si, sw) := if_neg hz
      rw [hs]
      exact ⟨T0, locs, X0, e0, N0, fun t k => k⟩
def own_fi (fr nu : Int32) (u : Int32 → Int64) : Int32 := ((((scan u (nu.toInt - 1 - (own_ix (own_wi fr)).toInt).toNat (own_ix (own_wi fr)) (own_sw fr u)).1) <<< ((6 : Int32) &&& 31)) + (Fntzl (scan u (nu.toInt - 1 - (own_ix (own_wi fr)).toInt).toNat (own_ix (own_wi fr)) (own_sw fr u)).2))
theorem own_ix0 (fr : Int32) (h0 : 0 ≤ fr.toInt) (h1 : fr.toInt ≤ 16384) : 0 ≤ (own_ix (own_wi fr)).toInt := by
  have a := own_shr6 (own_wi fr)
  omega
theorem own_kk (fr nu : Int32) (h0 : 0 ≤ fr.toInt) (h1 : fr.toInt ≤ 16384) (h : (own_ix (own_wi fr)) < nu) : (own_ix (own_wi fr)).toInt + ((nu.toInt - 1 - (own_ix (own_wi fr)).toInt).toNat : Nat) = nu.toInt - 1 := by
  rw [Int32.lt_iff_toInt_lt] at h
  omega
theorem d7_0 : decode prog_16_method_8_code 0 = .ok (.iload_n 1, 1) := by decide +kernel
theorem d7_1 : decode prog_16_method_8_code 1 = .ok (.aload_n 0, 1) := by decide +kernel
theorem d7_2 : decode prog_16_method_8_code 2 = .ok (.getfield 7, 3) := by decide +kernel
theorem d7_5 : decode prog_16_method_8_code 5 = .ok (.if_icmp .ge 10, 3) := by decide +kernel
theorem d7_8 : decode prog_16_method_8_code 8 = .ok (.aload_n 0, 1) := by decide +kernel
theorem d7_9 : decode prog_16_method_8_code 9 = .ok (.getfield 20, 3) := by decide +kernel
theorem d7_12 : decode prog_16_method_8_code 12 = .ok (.ifCond .ne 5, 3) := by decide +kernel
theorem d7_15 : decode prog_16_method_8_code 15 = .ok (.iconst (-1), 1) := by decide +kernel
theorem d7_16 : decode prog_16_method_8_code 16 = .ok (.ireturn, 1) := by decide +kernel
theorem d7_17 : decode prog_16_method_8_code 17 = .ok (.iload_n 1, 1) := by decide +kernel
theorem d7_18 : decode prog_16_method_8_code 18 = .ok (.bipush 6, 2) := by decide +kernel
theorem d7_20 : decode prog_16_method_8_code 20 = .ok (.iushr, 1) := by decide +kernel
theorem d7_21 : decode prog_16_method_8_code 21 = .ok (.istore_n 2, 1) := by decide +kernel
theorem d7_22 : decode prog_16_method_8_code 22 = .ok (.aload_n 0, 1) := by decide +kernel
theorem d7_23 : decode prog_16_method_8_code 23 = .ok (.getfield 13, 3) := by decide +kernel
theorem d7_26 : decode prog_16_method_8_code 26 = .ok (.iload_n 2, 1) := by decide +kernel
theorem d7_27 : decode prog_16_method_8_code 27 = .ok (.laload, 1) := by decide +kernel
theorem d7_28 : decode prog_16_method_8_code 28 = .ok (.ldc2_w 23, 3) := by decide +kernel
theorem d7_31 : decode prog_16_method_8_code 31 = .ok (.iload_n 1, 1) := by decide +kernel
theorem d7_32 : decode prog_16_method_8_code 32 = .ok (.lshl, 1) := by decide +kernel
theorem d7_33 : decode prog_16_method_8_code 33 = .ok (.land, 1) := by decide +kernel
theorem d7_34 : decode prog_16_method_8_code 34 = .ok (.lstore_n 3, 1) := by decide +kernel
theorem d7_35 : decode prog_16_method_8_code 35 = .ok (.lload_n 3, 1) := by decide +kernel
theorem d7_36 : decode prog_16_method_8_code 36 = .ok (.lconst 0, 1) := by decide +kernel
theorem d7_37 : decode prog_16_method_8_code 37 = .ok (.lcmp, 1) := by decide +kernel
theorem d7_38 : decode prog_16_method_8_code 38 = .ok (.ifCond .eq 13, 3) := by decide +kernel
theorem d7_41 : decode prog_16_method_8_code 41 = .ok (.iload_n 2, 1) := by decide +kernel
theorem d7_42 : decode prog_16_method_8_code 42 = .ok (.bipush 6, 2) := by decide +kernel
theorem d7_44 : decode prog_16_method_8_code 44 = .ok (.ishl, 1) := by decide +kernel
theorem d7_45 : decode prog_16_method_8_code 45 = .ok (.lload_n 3, 1) := by decide +kernel
theorem d7_46 : decode prog_16_method_8_code 46 = .ok (.invokestatic 25, 3) := by decide +kernel
theorem d7_49 : decode prog_16_method_8_code 49 = .ok (.iadd, 1) := by decide +kernel
theorem d7_50 : decode prog_16_method_8_code 50 = .ok (.ireturn, 1) := by decide +kernel
theorem d7_51 : decode prog_16_method_8_code 51 = .ok (.iinc 2 1, 3) := by decide +kernel
theorem d7_54 : decode prog_16_method_8_code 54 = .ok (.iload_n 2, 1) := by decide +kernel
theorem d7_55 : decode prog_16_method_8_code 55 = .ok (.bipush 6, 2) := by decide +kernel
theorem d7_57 : decode prog_16_method_8_code 57 = .ok (.iushr, 1) := by decide +kernel
theorem d7_58 : decode prog_16_method_8_code 58 = .ok (.istore 5, 2) := by decide +kernel
theorem d7_60 : decode prog_16_method_8_code 60 = .ok (.iload 5, 2) := by decide +kernel
theorem d7_62 : decode prog_16_method_8_code 62 = .ok (.aload_n 0, 1) := by decide +kernel
theorem d7_63 : decode prog_16_method_8_code 63 = .ok (.getfield 17, 3) := by decide +kernel
theorem d7_66 : decode prog_16_method_8_code 66 = .ok (.arraylength, 1) := by decide +kernel
theorem d7_67 : decode prog_16_method_8_code 67 = .ok (.if_icmp .lt 5, 3) := by decide +kernel
theorem d7_70 : decode prog_16_method_8_code 70 = .ok (.iconst (-1), 1) := by decide +kernel
theorem d7_71 : decode prog_16_method_8_code 71 = .ok (.ireturn, 1) := by decide +kernel
theorem d7_72 : decode prog_16_method_8_code 72 = .ok (.aload_n 0, 1) := by decide +kernel
theorem d7_73 : decode prog_16_method_8_code 73 = .ok (.getfield 17, 3) := by decide +kernel
theorem d7_76 : decode prog_16_method_8_code 76 = .ok (.iload 5, 2) := by decide +kernel
theorem d7_78 : decode prog_16_method_8_code 78 = .ok (.laload, 1) := by decide +kernel
theorem d7_79 : decode prog_16_method_8_code 79 = .ok (.ldc2_w 23, 3) := by decide +kernel
theorem d7_82 : decode prog_16_method_8_code 82 = .ok (.iload_n 2, 1) := by decide +kernel
theorem d7_83 : decode prog_16_method_8_code 83 = .ok (.lshl, 1) := by decide +kernel
theorem d7_84 : decode prog_16_method_8_code 84 = .ok (.land, 1) := by decide +kernel
theorem d7_85 : decode prog_16_method_8_code 85 = .ok (.lstore 6, 2) := by decide +kernel
theorem d7_107 : decode prog_16_method_8_code 107 = .ok (.iconst (-1), 1) := by decide +kernel
theorem d7_108 : decode prog_16_method_8_code 108 = .ok (.ireturn, 1) := by decide +kernel
theorem d7_121 : decode prog_16_method_8_code 121 = .ok (.iload 5, 2) := by decide +kernel
theorem d7_123 : decode prog_16_method_8_code 123 = .ok (.bipush 6, 2) := by decide +kernel
theorem d7_125 : decode prog_16_method_8_code 125 = .ok (.ishl, 1) := by decide +kernel
theorem d7_126 : decode prog_16_method_8_code 126 = .ok (.lload 6, 2) := by decide +kernel
theorem d7_128 : decode prog_16_method_8_code 128 = .ok (.invokestatic 25, 3) := by decide +kernel
theorem d7_131 : decode prog_16_method_8_code 131 = .ok (.iadd, 1) := by decide +kernel
theorem d7_132 : decode prog_16_method_8_code 132 = .ok (.istore_n 2, 1) := by decide +kernel
theorem d7_133 : decode prog_16_method_8_code 133 = .ok (.iload_n 2, 1) := by decide +kernel
theorem d7_134 : decode prog_16_method_8_code 134 = .ok (.bipush 6, 2) := by decide +kernel
theorem d7_136 : decode prog_16_method_8_code 136 = .ok (.ishl, 1) := by decide +kernel
theorem d7_137 : decode prog_16_method_8_code 137 = .ok (.aload_n 0, 1) := by decide +kernel
theorem d7_138 : decode prog_16_method_8_code 138 = .ok (.getfield 13, 3) := by decide +kernel
theorem d7_141 : decode prog_16_method_8_code 141 = .ok (.iload_n 2, 1) := by decide +kernel
theorem d7_142 : decode prog_16_method_8_code 142 = .ok (.laload, 1) := by decide +kernel
theorem d7_143 : decode prog_16_method_8_code 143 = .ok (.invokestatic 25, 3) := by decide +kernel
theorem d7_146 : decode prog_16_method_8_code 146 = .ok (.iadd, 1) := by decide +kernel
theorem d7_147 : decode prog_16_method_8_code 147 = .ok (.ireturn, 1) := by decide +kernel
theorem pd_6 : parseMethodDescriptor "(J)I" = some ⟨[.long], some .int⟩ := by decide +kernel
theorem ef_7 (m : MethodId) (x0 : Addr) (x1 : Int32) : entryFrame m #[(.ref x0), (.int x1)] 8 = mkF m 0 #[.val (.ref x0), .val (.int x1), .unset, .unset, .unset, .unset, .unset, .unset] [] := by first | (simp [entryFrame, mkF, argsToLocals, Value.category]; done) | rfl
def Fnext (fr : Int32) (cap : Int32) (sz : Int32) (w : Int32 → Int64) (nu : Int32) (u : Int32 → Int64) : Int32 := (if fr < cap then (if sz = (0 : Int32) then (-1 : Int32) else (if (own_wd fr w) = (0 : Int64) then (if (own_ix (own_wi fr)) < nu then (if (scan u (nu.toInt - 1 - (own_ix (own_wi fr)).toInt).toNat (own_ix (own_wi fr)) (own_sw fr u)).2 = (0 : Int64) then (-1 : Int32) else (((own_fi fr nu u) <<< ((6 : Int32) &&& 31)) + (Fntzl (w (own_fi fr nu u))))) else (-1 : Int32)) else (((own_ix fr) <<< ((6 : Int32) &&& 31)) + (Fntzl (own_wd fr w))))) else (-1 : Int32))
def Q7 (Z : State) (ob : Addr) (fr : Int32) (aw : Addr) (au : Addr) (cap : Int32) (sz : Int32) (nw : Int32) (w : Int32 → Int64) (nu : Int32) (u : Int32 → Int64) (h0 : Heap) (n0 : Nat) (v : Option Value) (h : Heap) (L : List Loc) : Prop := v = some (.int (Fnext fr cap sz w nu u)) ∧ Fr n0 L ∧ h = h0
set_option maxRecDepth 65536 in
set_option maxHeartbeats 40000000 in
theorem rm7 (l : Launch) (Z : State) (a0 : Array Value) (hw : ∀ d ∈ tables_1, d.before a0 Z = true) (ws : List Jvm.Cond) (ob : Addr) (fr : Int32) (aw : Addr) (au : Addr) (cap : Int32) (sz : Int32) (nw : Int32) (w : Int32 → Int64) (nu : Int32) (u : Int32 → Int64) (h0 : Heap) (n0 : Nat) (Z0 : n0 ≤ h0.size) (I0 : IS Z h0 n0 ob aw au cap sz nw w nu u) (hfr0 : 0 ≤ fr.toInt) (hfrc : fr.toInt ≤ 16384) (hnu : nu.toInt ≤ 16384) (hi : fr < cap → ¬ (own_ix fr) < 0 ∧ (own_ix fr) < nw) (hj : ¬ (own_ix (own_wi fr)) < 0) (hend : (scan u (nu.toInt - 1 - (own_ix (own_wi fr)).toInt).toNat (own_ix (own_wi fr)) (own_sw fr u)).2 = 0 → (own_ix (own_wi fr)) < nu → ((scan u (nu.toInt - 1 - (own_ix (own_wi fr)).toInt).toNat (own_ix (own_wi fr)) (own_sw fr u)).1 + (1 : Int32)) = nu) (hfin : ¬ ((scan u (nu.toInt - 1 - (own_ix (own_wi fr)).toInt).toNat (own_ix (own_wi fr)) (own_sw fr u)).2 = 0) → (own_ix (own_wi fr)) < nu → ¬ (own_fi fr nu u) < 0 ∧ (own_fi fr nu u) < nw) :
    MetFree l (⟨"com/example/cutline/cutline/IndexSet", "next", "(I)I"⟩ : MethodName) (head1 (Jvm.Cond.code (⟨"com/example/cutline/cutline/IndexSet", "next", "(I)I"⟩ : MethodName) prog_16_method_8_code 8 (some .int) :: ws) ({ frames := 2, cells := 0, slots := 0, locals := 29 } : Room)) (fun a U => a = #[(.ref ob), (.int fr)] ∧ Z.Warmed39 U.vm ∧ U.heap = h0) (fun _ _ _ _ _ => True) (fun _ U o U' => ∃ v L, o = .returned v ∧ Q7 Z ob fr aw au cap sz nw w nu u h0 n0 v U'.heap L ∧ FrameEnd U o U' L ({ frames := 2, cells := 0, slots := 0, locals := 29 } : Room).cells ({ frames := 2, cells := 0, slots := 0, locals := 29 } : Room).slots) := by
  refine MetFree.of_bodySF (plainFor_of_name pn_3) hisR ?_
  intro p e s m args below meth c s₁ Bd hml0 hP hK
  obtain ⟨rfl, hZ, hh⟩ := hP
  have hx := Bd.exec
  have hby := Bd.bytes
  have hml : c.maxLocals = 8 := hml0
  have hown : s.vm.findClass "com/example/cutline/cutline/IndexSet" = some m.cls := findClass_of_methodNamed Bd.named
  have hnm := (name_of_methodNamed Bd.named Bd.method).1
  have X0 : Stand p l e ({ frames := 2, cells := 0, slots := 0, locals := 29 } : Room) s m #[(.ref ob), (.int fr)] below meth c s₁ [] 0 0 := Stand.of_body Bd
  have e0 : s₁.heap = h0 := by rw [← hh, Bd.state]; rfl
  have N0 := Fr.nil n0
  have pre0 : ∀ t, Steps p.tables e below (s₁.setTop (mkF m 0 #[.val (.ref ob), .val (.int fr), .unset, .unset, .unset, .unset, .unset, .unset] [])) t → Steps p.tables e below (s₁.setTop (entryFrame m #[(.ref ob), (.int fr)] 8)) t := fun t k => castTop (ef_7 m ob fr) k
  obtain ⟨k1_0, k1_1, k1_2, k1_3, k1_4, k1_5, k1_6, k1_g_ob, k1_g_aw, k1_g_au, k1_n_ob_aw, k1_n_ob_au, k1_n_aw_au, k1_sz⟩ := I0
  obtain ⟨T2, X2, e2, st2⟩ := getF X0 hx hZ hown (host := "") (Or.inl (hw _ (List.mem_of_getElem? (i := 17) rfl))) Via.refl e0 k1_1 (g := (mkF m 2 #[.val (.ref ob), .val (.int fr), .unset, .unset, .unset, .unset, .unset, .unset] [(.ref ob), (.int fr)])) rfl rfl (hb hby d7_2)
  have pre3 : ∀ t, Steps p.tables e below (T2.setTop (mkF m 5 #[.val (.ref ob), .val (.int fr), .unset, .unset, .unset, .unset, .unset, .unset] [(.int cap), (.int fr)])) t → Steps p.tables e below (s₁.setTop (entryFrame m #[(.ref ob), (.int fr)] 8)) t := by
    intro t k
    refine pre0 t ?_
    show Steps p.tables e below (s₁.setTop (mkF m 0 #[.val (.ref ob), .val (.int fr), .unset, .unset, .unset, .unset, .unset, .unset] [])) _
    refine XS.iloadN X0.here hx rfl (hb hby d7_0) rfl ?_
    show Steps p.tables e below (s₁.setTop (mkF m 1 #[.val (.ref ob), .val (.int fr), .unset, .unset, .unset, .unset, .unset, .unset] [(.int fr)])) _
    refine XS.aloadN X0.here hx rfl (hb hby d7_1) rfl rfl ?_
    show Steps p.tables e below (s₁.setTop (mkF m 2 #[.val (.ref ob), .val (.int fr), .unset, .unset, .unset, .unset, .unset, .unset] [(.ref ob), (.int fr)])) _
    refine st2 _ ?_
    exact k
  by_cases hc4 : fr < cap
  ·
    obtain ⟨T5, X5, e5, st5⟩ := getF X2 hx hZ hown (host := "") (Or.inl (hw _ (List.mem_of_getElem? (i := 29) rfl))) Via.refl e2 k1_4 (g := (mkF m 9 #[.val (.ref ob), .val (.int fr), .unset, .unset, .unset, .unset, .unset, .unset] [(.ref ob)])) rfl rfl (hb hby d7_9)
    have pre6 : ∀ t, Steps p.tables e below (T5.setTop (mkF m 12 #[.val (.ref ob), .val (.int fr), .unset, .unset, .unset, .unset, .unset, .unset] [(.int sz)])) t → Steps p.tables e below (s₁.setTop (entryFrame m #[(.ref ob), (.int fr)] 8)) t := by
      intro t k
      refine pre3 t ?_
      show Steps p.tables e below (T2.setTop (mkF m 5 #[.val (.ref ob), .val (.int fr), .unset, .unset, .unset, .unset, .unset, .unset] [(.int cap), (.int fr)])) _
      refine XS.icmpNo X2.here hx rfl (hb hby d7_5) rfl (tlt hc4).2.1 ?_
      show Steps p.tables e below (T2.setTop (mkF m 8 #[.val (.ref ob), .val (.int fr), .unset, .unset, .unset, .unset, .unset, .unset] [])) _
      refine XS.aloadN X2.here hx rfl (hb hby d7_8) rfl rfl ?_
      show Steps p.tables e below (T2.setTop (mkF m 9 #[.val (.ref ob), .val (.int fr), .unset, .unset, .unset, .unset, .unset, .unset] [(.ref ob)])) _
      refine st5 _ ?_
      exact k
    by_cases hc7 : sz = (0 : Int32)
    ·
      have pre8 : ∀ t, Steps p.tables e below (T5.setTop (mkF m 16 #[.val (.ref ob), .val (.int fr), .unset, .unset, .unset, .unset, .unset, .unset] [(.int (-1 : Int32))])) t → Steps p.tables e below (s₁.setTop (entryFrame m #[(.ref ob), (.int fr)] 8)) t := by
        intro t k
        refine pre6 t ?_
        show Steps p.tables e below (T5.setTop (mkF m 12 #[.val (.ref ob), .val (.int fr), .unset, .unset, .unset, .unset, .unset, .unset] [(.int sz)])) _
        refine XS.ifNo X5.here hx rfl (hb hby d7_12) rfl ((if0 _ _).trans (teq hc7).2) ?_
        show Steps p.tables e below (T5.setTop (mkF m 15 #[.val (.ref ob), .val (.int fr), .unset, .unset, .unset, .unset, .unset, .unset] [])) _
        refine XS.iconst X5.here hx rfl (hb hby d7_15) ?_
        exact k
      obtain ⟨fs, hr, hrun, hended, hW, hsame⟩ := X5.leave (v := some (.int (Fnext fr cap sz w nu u))) (fun h => by rw [Bd.returns] at h; cases h) (BodyLoose.notSynchronized Bd)
      refine ⟨_, _, pre8 _ ?_, hrun, hended, _, _, rfl, ?_, ⟨_, rfl⟩, hW, hsame.mono (by decide) (by decide)⟩
      · show Steps p.tables e below (T5.setTop (mkF m 16 #[.val (.ref ob), .val (.int fr), .unset, .unset, .unset, .unset, .unset, .unset] [(.int (-1 : Int32))])) _
        have hr2 := hr
        rw [(show (Fnext fr cap sz w nu u) = (-1 : Int32) from ((if_pos hc4).trans ((if_pos hc7).trans rfl)))] at hr2
        exact retI X5 hx Bd.returns (hb hby d7_16) hr2
      · show Q7 Z ob fr aw au cap sz nw w nu u h0 n0 _ T5.heap _
        rw [e5]
        exact ⟨rfl, N0, rfl⟩
    ·
      obtain ⟨T9, X9, e9, st9⟩ := getF X5 hx hZ hown (host := "") (Or.inl (hw _ (List.mem_of_getElem? (i := 20) rfl))) Via.refl e5 k1_2 (g := (mkF m 23 #[.val (.ref ob), .val (.int fr), .val (.int (own_ix fr)), .unset, .unset, .unset, .unset, .unset] [(.ref ob)])) rfl rfl (hb hby d7_23)
      have pre10 : ∀ t, Steps p.tables e below (T9.setTop (mkF m 38 #[.val (.ref ob), .val (.int fr), .val (.int (own_ix fr)), .val (.long (own_wd fr w)), .second, .unset, .unset, .unset] [(.int (lcmpW (own_wd fr w) (0 : Int64)))])) t → Steps p.tables e below (s₁.setTop (entryFrame m #[(.ref ob), (.int fr)] 8)) t := by
        intro t k
        refine pre6 t ?_
        show Steps p.tables e below (T5.setTop (mkF m 12 #[.val (.ref ob), .val (.int fr), .unset, .unset, .unset, .unset, .unset, .unset] [(.int sz)])) _
        refine XS.ifYes X5.here hx rfl (pc0 := 12) (pc' := 17) rfl (hb hby d7_12) rfl ((if0 _ _).trans (feq hc7).2) (by decide) (by decide) ?_
        show Steps p.tables e below (T5.setTop (mkF m 17 #[.val (.ref ob), .val (.int fr), .unset, .unset, .unset, .unset, .unset, .unset] [])) _
        refine XS.iloadN X5.here hx rfl (hb hby d7_17) rfl ?_
        show Steps p.tables e below (T5.setTop (mkF m 18 #[.val (.ref ob), .val (.int fr), .unset, .unset, .unset, .unset, .unset, .unset] [(.int fr)])) _
        refine XS.bipush X5.here hx rfl (hb hby d7_18) ?_
        show Steps p.tables e below (T5.setTop (mkF m 20 #[.val (.ref ob), .val (.int fr), .unset, .unset, .unset, .unset, .unset, .unset] [(.int (6 : Int32)), (.int fr)])) _
        refine XS.iushr X5.here hx rfl (hb hby d7_20) rfl ?_
        show Steps p.tables e below (T5.setTop (mkF m 21 #[.val (.ref ob), .val (.int fr), .unset, .unset, .unset, .unset, .unset, .unset] [(.int ((fr.toUInt32 >>> ((6 : Int32) &&& 31).toUInt32).toInt32))])) _
        refine XS.istoreN X5.here hx rfl (hb hby d7_21) rfl (l' := #[.val (.ref ob), .val (.int fr), .val (.int (own_ix fr)), .unset, .unset, .unset, .unset, .unset]) rfl ?_
        show Steps p.tables e below (T5.setTop (mkF m 22 #[.val (.ref ob), .val (.int fr), .val (.int (own_ix fr)), .unset, .unset, .unset, .unset, .unset] [])) _
        refine XS.aloadN X5.here hx rfl (hb hby d7_22) rfl rfl ?_
        show Steps p.tables e below (T5.setTop (mkF m 23 #[.val (.ref ob), .val (.int fr), .val (.int (own_ix fr)), .unset, .unset, .unset, .unset, .unset] [(.ref ob)])) _
        refine st9 _ ?_
        show Steps p.tables e below (T9.setTop (mkF m 26 #[.val (.ref ob), .val (.int fr), .val (.int (own_ix fr)), .unset, .unset, .unset, .unset, .unset] [(.ref aw)])) _
        refine XS.iloadN X9.here hx rfl (hb hby d7_26) rfl ?_
        show Steps p.tables e below (T9.setTop (mkF m 27 #[.val (.ref ob), .val (.int fr), .val (.int (own_ix fr)), .unset, .unset, .unset, .unset, .unset] [(.int (own_ix fr)), (.ref aw)])) _
        refine rdJ X9 hx hZ e9 k1_5 (j := (own_ix fr)) (hi hc4) rfl (g := (mkF m 27 #[.val (.ref ob), .val (.int fr), .val (.int (own_ix fr)), .unset, .unset, .unset, .unset, .unset] [(.int (own_ix fr)), (.ref aw)])) rfl rfl (hb hby d7_27) _ ?_
        show Steps p.tables e below (T9.setTop (mkF m 28 #[.val (.ref ob), .val (.int fr), .val (.int (own_ix fr)), .unset, .unset, .unset, .unset, .unset] [(.long (w (own_ix fr)))])) _
        refine X9.ldc2Long hx hown (mvT hZ (hw _ (List.mem_of_getElem? (i := 41) rfl))) (g := (mkF m 28 #[.val (.ref ob), .val (.int fr), .val (.int (own_ix fr)), .unset, .unset, .unset, .unset, .unset] [(.long (w (own_ix fr)))])) rfl (hb hby d7_28) _ ?_
        show Steps p.tables e below (T9.setTop (mkF m 31 #[.val (.ref ob), .val (.int fr), .val (.int (own_ix fr)), .unset, .unset, .unset, .unset, .unset] [(.long (-1 : Int64)), (.long (w (own_ix fr)))])) _
        refine XS.iloadN X9.here hx rfl (hb hby d7_31) rfl ?_
        show Steps p.tables e below (T9.setTop (mkF m 32 #[.val (.ref ob), .val (.int fr), .val (.int (own_ix fr)), .unset, .unset, .unset, .unset, .unset] [(.int fr), (.long (-1 : Int64)), (.long (w (own_ix fr)))])) _
        refine XS.lshl X9.here hx rfl (hb hby d7_32) rfl ?_
        show Steps p.tables e below (T9.setTop (mkF m 33 #[.val (.ref ob), .val (.int fr), .val (.int (own_ix fr)), .unset, .unset, .unset, .unset, .unset] [(.long ((-1 : Int64) <<< (fr &&& 0x3f).toInt64)), (.long (w (own_ix fr)))])) _
        refine XS.land X9.here hx rfl (hb hby d7_33) rfl ?_
        show Steps p.tables e below (T9.setTop (mkF m 34 #[.val (.ref ob), .val (.int fr), .val (.int (own_ix fr)), .unset, .unset, .unset, .unset, .unset] [(.long ((w (own_ix fr)) &&& ((-1 : Int64) <<< (fr &&& 0x3f).toInt64)))])) _
        refine XS.lstoreN X9.here hx rfl (hb hby d7_34) rfl (l' := #[.val (.ref ob), .val (.int fr), .val (.int (own_ix fr)), .val (.long (own_wd fr w)), .second, .unset, .unset, .unset]) rfl ?_
        show Steps p.tables e below (T9.setTop (mkF m 35 #[.val (.ref ob), .val (.int fr), .val (.int (own_ix fr)), .val (.long (own_wd fr w)), .second, .unset, .unset, .unset] [])) _
        refine XS.lloadN X9.here hx rfl (hb hby d7_35) rfl ?_
        show Steps p.tables e below (T9.setTop (mkF m 36 #[.val (.ref ob), .val (.int fr), .val (.int (own_ix fr)), .val (.long (own_wd fr w)), .second, .unset, .unset, .unset] [(.long (own_wd fr w))])) _
        refine XS.lconst X9.here hx rfl (hb hby d7_36) ?_
        show Steps p.tables e below (T9.setTop (mkF m 37 #[.val (.ref ob), .val (.int fr), .val (.int (own_ix fr)), .val (.long (own_wd fr w)), .second, .unset, .unset, .unset] [(.long (0 : Int64)), (.long (own_wd fr w))])) _
        refine XS.lcmp X9.here hx rfl (hb hby d7_37) rfl ?_
        exact k
      by_cases hc11 : (own_wd fr w) = (0 : Int64)
      ·
        obtain ⟨T12, X12, e12, st12⟩ := getF X9 hx hZ hown (host := "") (Or.inl (hw _ (List.mem_of_getElem? (i := 22) rfl))) Via.refl e9 k1_3 (g := (mkF m 63 #[.val (.ref ob), .val (.int fr), .val (.int (own_wi fr)), .val (.long (own_wd fr w)), .second, .val (.int (own_ix (own_wi fr))), .unset, .unset] [(.ref ob), (.int (own_ix (own_wi fr)))])) rfl rfl (hb hby d7_63)
        have pre13 : ∀ t, Steps p.tables e below (T12.setTop (mkF m 67 #[.val (.ref ob), .val (.int fr), .val (.int (own_wi fr)), .val (.long (own_wd fr w)), .second, .val (.int (own_ix (own_wi fr))), .unset, .unset] [(.int nu), (.int (own_ix (own_wi fr)))])) t → Steps p.tables e below (s₁.setTop (entryFrame m #[(.ref ob), (.int fr)] 8)) t := by
          intro t k
          refine pre10 t ?_
          show Steps p.tables e below (T9.setTop (mkF m 38 #[.val (.ref ob), .val (.int fr), .val (.int (own_ix fr)), .val (.long (own_wd fr w)), .second, .unset, .unset, .unset] [(.int (lcmpW (own_wd fr w) (0 : Int64)))])) _
          refine XS.ifYes X9.here hx rfl (pc0 := 38) (pc' := 51) rfl (hb hby d7_38) rfl ((if0 _ _).trans (teq ((lw_eq _ _).mpr hc11)).1) (by decide) (by decide) ?_
          show Steps p.tables e below (T9.setTop (mkF m 51 #[.val (.ref ob), .val (.int fr), .val (.int (own_ix fr)), .val (.long (own_wd fr w)), .second, .unset, .unset, .unset] [])) _
          refine XS.iinc X9.here hx rfl (hb hby d7_51) rfl (l' := #[.val (.ref ob), .val (.int fr), .val (.int (own_wi fr)), .val (.long (own_wd fr w)), .second, .unset, .unset, .unset]) rfl ?_
          show Steps p.tables e below (T9.setTop (mkF m 54 #[.val (.ref ob), .val (.int fr), .val (.int (own_wi fr)), .val (.long (own_wd fr w)), .second, .unset, .unset, .unset] [])) _
          refine XS.iloadN X9.here hx rfl (hb hby d7_54) rfl ?_
          show Steps p.tables e below (T9.setTop (mkF m 55 #[.val (.ref ob), .val (.int fr), .val (.int (own_wi fr)), .val (.long (own_wd fr w)), .second, .unset, .unset, .unset] [(.int (own_wi fr))])) _
          refine XS.bipush X9.here hx rfl (hb hby d7_55) ?_
          show Steps p.tables e below (T9.setTop (mkF m 57 #[.val (.ref ob), .val (.int fr), .val (.int (own_wi fr)), .val (.long (own_wd fr w)), .second, .unset, .unset, .unset] [(.int (6 : Int32)), (.int (own_wi fr))])) _
          refine XS.iushr X9.here hx rfl (hb hby d7_57) rfl ?_
          show Steps p.tables e below (T9.setTop (mkF m 58 #[.val (.ref ob), .val (.int fr), .val (.int (own_wi fr)), .val (.long (own_wd fr w)), .second, .unset, .unset, .unset] [(.int (((own_wi fr).toUInt32 >>> ((6 : Int32) &&& 31).toUInt32).toInt32))])) _
          refine XS.istore X9.here hx rfl (hb hby d7_58) rfl (l' := #[.val (.ref ob), .val (.int fr), .val (.int (own_wi fr)), .val (.long (own_wd fr w)), .second, .val (.int (own_ix (own_wi fr))), .unset, .unset]) rfl ?_
          show Steps p.tables e below (T9.setTop (mkF m 60 #[.val (.ref ob), .val (.int fr), .val (.int (own_wi fr)), .val (.long (own_wd fr w)), .second, .val (.int (own_ix (own_wi fr))), .unset, .unset] [])) _
          refine XS.iload X9.here hx rfl (hb hby d7_60) rfl ?_
          show Steps p.tables e below (T9.setTop (mkF m 62 #[.val (.ref ob), .val (.int fr), .val (.int (own_wi fr)), .val (.long (own_wd fr w)), .second, .val (.int (own_ix (own_wi fr))), .unset, .unset] [(.int (own_ix (own_wi fr)))])) _
          refine XS.aloadN X9.here hx rfl (hb hby d7_62) rfl rfl ?_
          show Steps p.tables e below (T9.setTop (mkF m 63 #[.val (.ref ob), .val (.int fr), .val (.int (own_wi fr)), .val (.long (own_wd fr w)), .second, .val (.int (own_ix (own_wi fr))), .unset, .unset] [(.ref ob), (.int (own_ix (own_wi fr)))])) _
          refine st12 _ ?_
          show Steps p.tables e below (T12.setTop (mkF m 66 #[.val (.ref ob), .val (.int fr), .val (.int (own_wi fr)), .val (.long (own_wd fr w)), .second, .val (.int (own_ix (own_wi fr))), .unset, .unset] [(.ref au), (.int (own_ix (own_wi fr)))])) _
          refine lnG X12 hx hZ e12 k1_6 (g := (mkF m 66 #[.val (.ref ob), .val (.int fr), .val (.int (own_wi fr)), .val (.long (own_wd fr w)), .second, .val (.int (own_ix (own_wi fr))), .unset, .unset] [(.ref au), (.int (own_ix (own_wi fr)))])) rfl rfl (hb hby d7_66) _ ?_
          exact k
        by_cases hc14 : (own_ix (own_wi fr)) < nu
        ·
          obtain ⟨T15, X15, e15, st15⟩ := getF X12 hx hZ hown (host := "") (Or.inl (hw _ (List.mem_of_getElem? (i := 22) rfl))) Via.refl e12 k1_3 (g := (mkF m 73 #[.val (.ref ob), .val (.int fr), .val (.int (own_wi fr)), .val (.long (own_wd fr w)), .second, .val (.int (own_ix (own_wi fr))), .unset, .unset] [(.ref ob)])) rfl rfl (hb hby d7_73)
          have pre16 : ∀ t, Steps p.tables e below (T15.setTop (mkF m 87 #[.val (.ref ob), .val (.int fr), .val (.int (own_wi fr)), .val (.long (own_wd fr w)), .second, .val (.int (own_ix (own_wi fr))), .val (.long (own_sw fr u)), .second] [])) t → Steps p.tables e below (s₁.setTop (entryFrame m #[(.ref ob), (.int fr)] 8)) t := by
            intro t k
            refine pre13 t ?_
            show Steps p.tables e below (T12.setTop (mkF m 67 #[.val (.ref ob), .val (.int fr), .val (.int (own_wi fr)), .val (.long (own_wd fr w)), .second, .val (.int (own_ix (own_wi fr))), .unset, .unset] [(.int nu), (.int (own_ix (own_wi fr)))])) _
            refine XS.icmpYes X12.here hx rfl (pc0 := 67) (pc' := 72) rfl (hb hby d7_67) rfl (tlt hc14).1 (by decide) (by decide) ?_
            show Steps p.tables e below (T12.setTop (mkF m 72 #[.val (.ref ob), .val (.int fr), .val (.int (own_wi fr)), .val (.long (own_wd fr w)), .second, .val (.int (own_ix (own_wi fr))), .unset, .unset] [])) _
            refine XS.aloadN X12.here hx rfl (hb hby d7_72) rfl rfl ?_
            show Steps p.tables e below (T12.setTop (mkF m 73 #[.val (.ref ob), .val (.int fr), .val (.int (own_wi fr)), .val (.long (own_wd fr w)), .second, .val (.int (own_ix (own_wi fr))), .unset, .unset] [(.ref ob)])) _
            refine st15 _ ?_
            show Steps p.tables e below (T15.setTop (mkF m 76 #[.val (.ref ob), .val (.int fr), .val (.int (own_wi fr)), .val (.long (own_wd fr w)), .second, .val (.int (own_ix (own_wi fr))), .unset, .unset] [(.ref au)])) _
            refine XS.iload X15.here hx rfl (hb hby d7_76) rfl ?_
            show Steps p.tables e below (T15.setTop (mkF m 78 #[.val (.ref ob), .val (.int fr), .val (.int (own_wi fr)), .val (.long (own_wd fr w)), .second, .val (.int (own_ix (own_wi fr))), .unset, .unset] [(.int (own_ix (own_wi fr))), (.ref au)])) _
            refine rdJ X15 hx hZ e15 k1_6 (j := (own_ix (own_wi fr))) ⟨hj, hc14⟩ rfl (g := (mkF m 78 #[.val (.ref ob), .val (.int fr), .val (.int (own_wi fr)), .val (.long (own_wd fr w)), .second, .val (.int (own_ix (own_wi fr))), .unset, .unset] [(.int (own_ix (own_wi fr))), (.ref au)])) rfl rfl (hb hby d7_78) _ ?_
            show Steps p.tables e below (T15.setTop (mkF m 79 #[.val (.ref ob), .val (.int fr), .val (.int (own_wi fr)), .val (.long (own_wd fr w)), .second, .val (.int (own_ix (own_wi fr))), .unset, .unset] [(.long (u (own_ix (own_wi fr))))])) _
            refine X15.ldc2Long hx hown (mvT hZ (hw _ (List.mem_of_getElem? (i := 41) rfl))) (g := (mkF m 79 #[.val (.ref ob), .val (.int fr), .val (.int (own_wi fr)), .val (.long (own_wd fr w)), .second, .val (.int (own_ix (own_wi fr))), .unset, .unset] [(.long (u (own_ix (own_wi fr))))])) rfl (hb hby d7_79) _ ?_
            show Steps p.tables e below (T15.setTop (mkF m 82 #[.val (.ref ob), .val (.int fr), .val (.int (own_wi fr)), .val (.long (own_wd fr w)), .second, .val (.int (own_ix (own_wi fr))), .unset, .unset] [(.long (-1 : Int64)), (.long (u (own_ix (own_wi fr))))])) _
            refine XS.iloadN X15.here hx rfl (hb hby d7_82) rfl ?_
            show Steps p.tables e below (T15.setTop (mkF m 83 #[.val (.ref ob), .val (.int fr), .val (.int (own_wi fr)), .val (.long (own_wd fr w)), .second, .val (.int (own_ix (own_wi fr))), .unset, .unset] [(.int (own_wi fr)), (.long (-1 : Int64)), (.long (u (own_ix (own_wi fr))))])) _
            refine XS.lshl X15.here hx rfl (hb hby d7_83) rfl ?_
            show Steps p.tables e below (T15.setTop (mkF m 84 #[.val (.ref ob), .val (.int fr), .val (.int (own_wi fr)), .val (.long (own_wd fr w)), .second, .val (.int (own_ix (own_wi fr))), .unset, .unset] [(.long ((-1 : Int64) <<< ((own_wi fr) &&& 0x3f).toInt64)), (.long (u (own_ix (own_wi fr))))])) _
            refine XS.land X15.here hx rfl (hb hby d7_84) rfl ?_
            show Steps p.tables e below (T15.setTop (mkF m 85 #[.val (.ref ob), .val (.int fr), .val (.int (own_wi fr)), .val (.long (own_wd fr w)), .second, .val (.int (own_ix (own_wi fr))), .unset, .unset] [(.long ((u (own_ix (own_wi fr))) &&& ((-1 : Int64) <<< ((own_wi fr) &&& 0x3f).toInt64)))])) _
            refine XS.lstore X15.here hx rfl (hb hby d7_85) rfl (l' := #[.val (.ref ob), .val (.int fr), .val (.int (own_wi fr)), .val (.long (own_wd fr w)), .second, .val (.int (own_ix (own_wi fr))), .val (.long (own_sw fr u)), .second]) rfl ?_
            exact k
          obtain ⟨T17, L17, X17, e17, N17, st17⟩ := nxLoop fr ob aw au cap sz nw w nu u hx hZ hw hby hml hown hnu ⟨k1_0, k1_1, k1_2, k1_3, k1_4, k1_5, k1_6, k1_g_ob, k1_g_aw, k1_g_au, k1_n_ob_aw, k1_n_ob_au, k1_n_aw_au, Z0⟩ (nu.toInt - 1 - (own_ix (own_wi fr)).toInt).toNat (own_ix (own_wi fr)) (own_sw fr u) X15 e15 N0 (own_kk fr nu hfr0 hfrc hc14) (own_ix0 _ hfr0 hfrc)
          have pre17 : ∀ t, Steps p.tables e below (T17.setTop (mkF m 87 #[.val (.ref ob), .val (.int fr), .val (.int (own_wi fr)), .val (.long (own_wd fr w)), .second, .val (.int (scan u (nu.toInt - 1 - (own_ix (own_wi fr)).toInt).toNat (own_ix (own_wi fr)) (own_sw fr u)).1), .val (.long (scan u (nu.toInt - 1 - (own_ix (own_wi fr)).toInt).toNat (own_ix (own_wi fr)) (own_sw fr u)).2), .second] [])) t → Steps p.tables e below (s₁.setTop (entryFrame m #[(.ref ob), (.int fr)] 8)) t := fun t k => pre16 t (st17 t k)
          have pre18 : ∀ t, Steps p.tables e below (T17.setTop (mkF m 91 #[.val (.ref ob), .val (.int fr), .val (.int (own_wi fr)), .val (.long (own_wd fr w)), .second, .val (.int (scan u (nu.toInt - 1 - (own_ix (own_wi fr)).toInt).toNat (own_ix (own_wi fr)) (own_sw fr u)).1), .val (.long (scan u (nu.toInt - 1 - (own_ix (own_wi fr)).toInt).toNat (own_ix (own_wi fr)) (own_sw fr u)).2), .second] [(.int (lcmpW (scan u (nu.toInt - 1 - (own_ix (own_wi fr)).toInt).toNat (own_ix (own_wi fr)) (own_sw fr u)).2 (0 : Int64)))])) t → Steps p.tables e below (s₁.setTop (entryFrame m #[(.ref ob), (.int fr)] 8)) t := by
            intro t k
            refine pre17 t ?_
            show Steps p.tables e below (T17.setTop (mkF m 87 #[.val (.ref ob), .val (.int fr), .val (.int (own_wi fr)), .val (.long (own_wd fr w)), .second, .val (.int (scan u (nu.toInt - 1 - (own_ix (own_wi fr)).toInt).toNat (own_ix (own_wi fr)) (own_sw fr u)).1), .val (.long (scan u (nu.toInt - 1 - (own_ix (own_wi fr)).toInt).toNat (own_ix (own_wi fr)) (own_sw fr u)).2), .second] [])) _
            refine XS.lload X17.here hx rfl (hb hby d7_87) rfl ?_
            show Steps p.tables e below (T17.setTop (mkF m 89 #[.val (.ref ob), .val (.int fr), .val (.int (own_wi fr)), .val (.long (own_wd fr w)), .second, .val (.int (scan u (nu.toInt - 1 - (own_ix (own_wi fr)).toInt).toNat (own_ix (own_wi fr)) (own_sw fr u)).1), .val (.long (scan u (nu.toInt - 1 - (own_ix (own_wi fr)).toInt).toNat (own_ix (own_wi fr)) (own_sw fr u)).2), .second] [(.long (scan u (nu.toInt - 1 - (own_ix (own_wi fr)).toInt).toNat (own_ix (own_wi fr)) (own_sw fr u)).2)])) _
            refine XS.lconst X17.here hx rfl (hb hby d7_89) ?_
            show Steps p.tables e below (T17.setTop (mkF m 90 #[.val (.ref ob), .val (.int fr), .val (.int (own_wi fr)), .val (.long (own_wd fr w)), .second, .val (.int (scan u (nu.toInt - 1 - (own_ix (own_wi fr)).toInt).toNat (own_ix (own_wi fr)) (own_sw fr u)).1), .val (.long (scan u (nu.toInt - 1 - (own_ix (own_wi fr)).toInt).toNat (own_ix (own_wi fr)) (own_sw fr u)).2), .second] [(.long (0 : Int64)), (.long (scan u (nu.toInt - 1 - (own_ix (own_wi fr)).toInt).toNat (own_ix (own_wi fr)) (own_sw fr u)).2)])) _
            refine XS.lcmp X17.here hx rfl (hb hby d7_90) rfl ?_
            exact k
          by_cases hc19 : (scan u (nu.toInt - 1 - (own_ix (own_wi fr)).toInt).toNat (own_ix (own_wi fr)) (own_sw fr u)).2 = (0 : Int64)
          ·
            obtain ⟨T20, X20, e20, st20⟩ := getF X17 hx hZ hown (host := "") (Or.inl (hw _ (List.mem_of_getElem? (i := 22) rfl))) Via.refl e17 k1_3 (g := (mkF m 100 #[.val (.ref ob), .val (.int fr), .val (.int (own_wi fr)), .val (.long (own_wd fr w)), .second, .val (.int ((scan u (nu.toInt - 1 - (own_ix (own_wi fr)).toInt).toNat (own_ix (own_wi fr)) (own_sw fr u)).1 + (1 : Int32))), .val (.long (scan u (nu.toInt - 1 - (own_ix (own_wi fr)).toInt).toNat (own_ix (own_wi fr)) (own_sw fr u)).2), .second] [(.ref ob), (.int ((scan u (nu.toInt - 1 - (own_ix (own_wi fr)).toInt).toNat (own_ix (own_wi fr)) (own_sw fr u)).1 + (1 : Int32)))])) rfl rfl (hb hby d7_100)
            have pre21 : ∀ t, Steps p.tables e below (T20.setTop (mkF m 108 #[.val (.ref ob), .val (.int fr), .val (.int (own_wi fr)), .val (.long (own_wd fr w)), .second, .val (.int ((scan u (nu.toInt - 1 - (own_ix (own_wi fr)).toInt).toNat (own_ix (own_wi fr)) (own_sw fr u)).1 + (1 : Int32))), .val (.long (scan u (nu.toInt - 1 - (own_ix (own_wi fr)).toInt).toNat (own_ix (own_wi fr)) (own_sw fr u)).2), .second] [(.int (-1 : Int32))])) t → Steps p.tables e below (s₁.setTop (entryFrame m #[(.ref ob), (.int fr)] 8)) t := by
              intro t k
              refine pre18 t ?_
              show Steps p.tables e below (T17.setTop (mkF m 91 #[.val (.ref ob), .val (.int fr), .val (.int (own_wi fr)), .val (.long (own_wd fr w)), .second, .val (.int (scan u (nu.toInt - 1 - (own_ix (own_wi fr)).toInt).toNat (own_ix (own_wi fr)) (own_sw fr u)).1), .val (.long (scan u (nu.toInt - 1 - (own_ix (own_wi fr)).toInt).toNat (own_ix (own_wi fr)) (own_sw fr u)).2), .second] [(.int (lcmpW (scan u (nu.toInt - 1 - (own_ix (own_wi fr)).toInt).toNat (own_ix (own_wi fr)) (own_sw fr u)).2 (0 : Int64)))])) _
              refine XS.ifNo X17.here hx rfl (hb hby d7_91) rfl ((if0 _ _).trans (teq ((lw_eq _ _).mpr hc19)).2) ?_
              show Steps p.tables e below (T17.setTop (mkF m 94 #[.val (.ref ob), .val (.int fr), .val (.int (own_wi fr)), .val (.long (own_wd fr w)), .second, .val (.int (scan u (nu.toInt - 1 - (own_ix (own_wi fr)).toInt).toNat (own_ix (own_wi fr)) (own_sw fr u)).1), .val (.long (scan u (nu.toInt - 1 - (own_ix (own_wi fr)).toInt).toNat (own_ix (own_wi fr)) (own_sw fr u)).2), .second] [])) _
              refine XS.iinc X17.here hx rfl (hb hby d7_94) rfl (l' := #[.val (.ref ob), .val (.int fr), .val (.int (own_wi fr)), .val (.long (own_wd fr w)), .second, .val (.int ((scan u (nu.toInt - 1 - (own_ix (own_wi fr)).toInt).toNat (own_ix (own_wi fr)) (own_sw fr u)).1 + (1 : Int32))), .val (.long (scan u (nu.toInt - 1 - (own_ix (own_wi fr)).toInt).toNat (own_ix (own_wi fr)) (own_sw fr u)).2), .second]) rfl ?_
              show Steps p.tables e below (T17.setTop (mkF m 97 #[.val (.ref ob), .val (.int fr), .val (.int (own_wi fr)), .val (.long (own_wd fr w)), .second, .val (.int ((scan u (nu.toInt - 1 - (own_ix (own_wi fr)).toInt).toNat (own_ix (own_wi fr)) (own_sw fr u)).1 + (1 : Int32))), .val (.long (scan u (nu.toInt - 1 - (own_ix (own_wi fr)).toInt).toNat (own_ix (own_wi fr)) (own_sw fr u)).2), .second] [])) _
              refine XS.iload X17.here hx rfl (hb hby d7_97) rfl ?_
              show Steps p.tables e below (T17.setTop (mkF m 99 #[.val (.ref ob), .val (.int fr), .val (.int (own_wi fr)), .val (.long (own_wd fr w)), .second, .val (.int ((scan u (nu.toInt - 1 - (own_ix (own_wi fr)).toInt).toNat (own_ix (own_wi fr)) (own_sw fr u)).1 + (1 : Int32))), .val (.long (scan u (nu.toInt - 1 - (own_ix (own_wi fr)).toInt).toNat (own_ix (own_wi fr)) (own_sw fr u)).2), .second] [(.int ((scan u (nu.toInt - 1 - (own_ix (own_wi fr)).toInt).toNat (own_ix (own_wi fr)) (own_sw fr u)).1 + (1 : Int32)))])) _
              refine XS.aloadN X17.here hx rfl (hb hby d7_99) rfl rfl ?_
              show Steps p.tables e below (T17.setTop (mkF m 100 #[.val (.ref ob), .val (.int fr), .val (.int (own_wi fr)), .val (.long (own_wd fr w)), .second, .val (.int ((scan u (nu.toInt - 1 - (own_ix (own_wi fr)).toInt).toNat (own_ix (own_wi fr)) (own_sw fr u)).1 + (1 : Int32))), .val (.long (scan u (nu.toInt - 1 - (own_ix (own_wi fr)).toInt).toNat (own_ix (own_wi fr)) (own_sw fr u)).2), .second] [(.ref ob), (.int ((scan u (nu.toInt - 1 - (own_ix (own_wi fr)).toInt).toNat (own_ix (own_wi fr)) (own_sw fr u)).1 + (1 : Int32)))])) _
              refine st20 _ ?_
              show Steps p.tables e below (T20.setTop (mkF m 103 #[.val (.ref ob), .val (.int fr), .val (.int (own_wi fr)), .val (.long (own_wd fr w)), .second, .val (.int ((scan u (nu.toInt - 1 - (own_ix (own_wi fr)).toInt).toNat (own_ix (own_wi fr)) (own_sw fr u)).1 + (1 : Int32))), .val (.long (scan u (nu.toInt - 1 - (own_ix (own_wi fr)).toInt).toNat (own_ix (own_wi fr)) (own_sw fr u)).2), .second] [(.ref au), (.int ((scan u (nu.toInt - 1 - (own_ix (own_wi fr)).toInt).toNat (own_ix (own_wi fr)) (own_sw fr u)).1 + (1 : Int32)))])) _
              refine lnG X20 hx hZ e20 k1_6 (g := (mkF m 103 #[.val (.ref ob), .val (.int fr), .val (.int (own_wi fr)), .val (.long (own_wd fr w)), .second, .val (.int ((scan u (nu.toInt - 1 - (own_ix (own_wi fr)).toInt).toNat (own_ix (own_wi fr)) (own_sw fr u)).1 + (1 : Int32))), .val (.long (scan u (nu.toInt - 1 - (own_ix (own_wi fr)).toInt).toNat (own_ix (own_wi fr)) (own_sw fr u)).2), .second] [(.ref au), (.int ((scan u (nu.toInt - 1 - (own_ix (own_wi fr)).toInt).toNat (own_ix (own_wi fr)) (own_sw fr u)).1 + (1 : Int32)))])) rfl rfl (hb hby d7_103) _ ?_
              show Steps p.tables e below (T20.setTop (mkF m 104 #[.val (.ref ob), .val (.int fr), .val (.int (own_wi fr)), .val (.long (own_wd fr w)), .second, .val (.int ((scan u (nu.toInt - 1 - (own_ix (own_wi fr)).toInt).toNat (own_ix (own_wi fr)) (own_sw fr u)).1 + (1 : Int32))), .val (.long (scan u (nu.toInt - 1 - (own_ix (own_wi fr)).toInt).toNat (own_ix (own_wi fr)) (own_sw fr u)).2), .second] [(.int nu), (.int ((scan u (nu.toInt - 1 - (own_ix (own_wi fr)).toInt).toNat (own_ix (own_wi fr)) (own_sw fr u)).1 + (1 : Int32)))])) _
              refine XS.icmpNo X20.here hx rfl (hb hby d7_104) rfl (teq (hend hc19 hc14 : ((scan u (nu.toInt - 1 - (own_ix (own_wi fr)).toInt).toNat (own_ix (own_wi fr)) (own_sw fr u)).1 + (1 : Int32)) = nu)).2 ?_
              show Steps p.tables e below (T20.setTop (mkF m 107 #[.val (.ref ob), .val (.int fr), .val (.int (own_wi fr)), .val (.long (own_wd fr w)), .second, .val (.int ((scan u (nu.toInt - 1 - (own_ix (own_wi fr)).toInt).toNat (own_ix (own_wi fr)) (own_sw fr u)).1 + (1 : Int32))), .val (.long (scan u (nu.toInt - 1 - (own_ix (own_wi fr)).toInt).toNat (own_ix (own_wi fr)) (own_sw fr u)).2), .second] [])) _
              refine XS.iconst X20.here hx rfl (hb hby d7_107) ?_
              exact k
            obtain ⟨fs, hr, hrun, hended, hW, hsame⟩ := X20.leave (v := some (.int (Fnext fr cap sz w nu u))) (fun h => by rw [Bd.returns] at h; cases h) (BodyLoose.notSynchronized Bd)
            refine ⟨_, _, pre21 _ ?_, hrun, hended, _, _, rfl, ?_, ⟨_, rfl⟩, hW, hsame.mono (by decide) (by decide)⟩
            · show Steps p.tables e below (T20.setTop (mkF m 108 #[.val (.ref ob), .val (.int fr), .val (.int (own_wi fr)), .val (.long (own_wd fr w)), .second, .val (.int ((scan u (nu.toInt - 1 - (own_ix (own_wi fr)).toInt).toNat (own_ix (own_wi fr)) (own_sw fr u)).1 + (1 : Int32))), .val (.long (scan u (nu.toInt - 1 - (own_ix (own_wi fr)).toInt).toNat (own_ix (own_wi fr)) (own_sw fr u)).2), .second] [(.int (-1 : Int32))])) _
              have hr2 := hr
              rw [(show (Fnext fr cap sz w nu u) = (-1 : Int32) from ((if_pos hc4).trans ((if_neg hc7).trans ((if_pos hc11).trans ((if_pos hc14).trans ((if_pos hc19).trans rfl))))))] at hr2
              exact retI X20 hx Bd.returns (hb hby d7_108) hr2
            · show Q7 Z ob fr aw au cap sz nw w nu u h0 n0 _ T20.heap _
              rw [e20]
              exact ⟨rfl, N17, rfl⟩
          ·
            obtain ⟨_, _, ⟨T22, L22, k22, n22⟩, -, X22, ⟨Lc22, hQ22, l22, y22, z22⟩, st22⟩ := Jvm.LawKit.callS X17 hx (y := (⟨"java/lang/Long", "numberOfTrailingZeros", "(J)I"⟩ : MethodName)) hown (mvT hZ (hw _ (List.mem_of_getElem? (i := 42) rfl))) (mvT hZ (hw _ (List.mem_of_getElem? (i := 43) rfl))) (mvT hZ (hw _ (List.mem_of_getElem? (i := 44) rfl))) (mvT hZ (hw _ (List.mem_of_getElem? (i := 45) rfl))) (by decide) (backOf (W := 1) (rm8 l Z a0 hw [] (scan u (nu.toInt - 1 - (own_ix (own_wi fr)).toInt).toNat (own_ix (own_wi fr)) (own_sw fr u)).2 h0 n0 Z0) hZ (hw _ (List.mem_of_getElem? (i := 45) rfl)) (hw _ (List.mem_of_getElem? (i := 44) rfl)) (by decide) (by decide)) (g := (mkF m 128 #[.val (.ref ob), .val (.int fr), .val (.int (own_wi fr)), .val (.long (own_wd fr w)), .second, .val (.int (scan u (nu.toInt - 1 - (own_ix (own_wi fr)).toInt).toNat (own_ix (own_wi fr)) (own_sw fr u)).1), .val (.long (scan u (nu.toInt - 1 - (own_ix (own_wi fr)).toInt).toNat (own_ix (own_wi fr)) (own_sw fr u)).2), .second] [(.long (scan u (nu.toInt - 1 - (own_ix (own_wi fr)).toInt).toNat (own_ix (own_wi fr)) (own_sw fr u)).2), (.int ((scan u (nu.toInt - 1 - (own_ix (own_wi fr)).toInt).toNat (own_ix (own_wi fr)) (own_sw fr u)).1 <<< ((6 : Int32) &&& 31)))])) rfl (by rw [hml]; rfl) (argsL := [(.long (scan u (nu.toInt - 1 - (own_ix (own_wi fr)).toInt).toNat (own_ix (own_wi fr)) (own_sw fr u)).2)]) (rest := [(.int ((scan u (nu.toInt - 1 - (own_ix (own_wi fr)).toInt).toNat (own_ix (own_wi fr)) (own_sw fr u)).1 <<< ((6 : Int32) &&& 31)))]) (lenOf pd_6 rfl) rfl (by show 2 * 0 + _ ≤ _; exact Nat.le_of_eq rfl) (hb hby d7_128) (fun _ _ => ⟨rfl, e17, (by decide : 0 + 0 ≤ _), (by decide : 0 + 0 ≤ _)⟩)
            dsimp only [Pt.U, Pt.locs, Pt.cells, Pt.slots] at X22 l22 y22 z22 st22 hQ22
            subst y22 z22
            obtain ⟨rfl, N22q, e22⟩ := hQ22
            have N22 : Fr n0 L22 := by rw [l22]; exact Fr.app N17 N22q
            obtain ⟨T23, X23, e23, st23⟩ := getF X22 hx hZ hown (host := "") (Or.inl (hw _ (List.mem_of_getElem? (i := 20) rfl))) Via.refl e22 k1_2 (g := (mkF m 138 #[.val (.ref ob), .val (.int fr), .val (.int (own_fi fr nu u)), .val (.long (own_wd fr w)), .second, .val (.int (scan u (nu.toInt - 1 - (own_ix (own_wi fr)).toInt).toNat (own_ix (own_wi fr)) (own_sw fr u)).1), .val (.long (scan u (nu.toInt - 1 - (own_ix (own_wi fr)).toInt).toNat (own_ix (own_wi fr)) (own_sw fr u)).2), .second] [(.ref ob), (.int ((own_fi fr nu u) <<< ((6 : Int32) &&& 31)))])) rfl rfl (hb hby d7_138)
            obtain ⟨_, _, ⟨T24, L24, k24, n24⟩, -, X24, ⟨Lc24, hQ24, l24, y24, z24⟩, st24⟩ := Jvm.LawKit.callS X23 hx (y := (⟨"java/lang/Long", "numberOfTrailingZeros", "(J)I"⟩ : MethodName)) hown (mvT hZ (hw _ (List.mem_of_getElem? (i := 42) rfl))) (mvT hZ (hw _ (List.mem_of_getElem? (i := 43) rfl))) (mvT hZ (hw _ (List.mem_of_getElem? (i := 44) rfl))) (mvT hZ (hw _ (List.mem_of_getElem? (i := 45) rfl))) (by decide) (backOf (W := 1) (rm8 l Z a0 hw [] (w (own_fi fr nu u)) h0 n0 Z0) hZ (hw _ (List.mem_of_getElem? (i := 45) rfl)) (hw _ (List.mem_of_getElem? (i := 44) rfl)) (by decide) (by decide)) (g := (mkF m 143 #[.val (.ref ob), .val (.int fr), .val (.int (own_fi fr nu u)), .val (.long (own_wd fr w)), .second, .val (.int (scan u (nu.toInt - 1 - (own_ix (own_wi fr)).toInt).toNat (own_ix (own_wi fr)) (own_sw fr u)).1), .val (.long (scan u (nu.toInt - 1 - (own_ix (own_wi fr)).toInt).toNat (own_ix (own_wi fr)) (own_sw fr u)).2), .second] [(.long (w (own_fi fr nu u))), (.int ((own_fi fr nu u) <<< ((6 : Int32) &&& 31)))])) rfl (by rw [hml]; rfl) (argsL := [(.long (w (own_fi fr nu u)))]) (rest := [(.int ((own_fi fr nu u) <<< ((6 : Int32) &&& 31)))]) (lenOf pd_6 rfl) rfl (by show 2 * 0 + _ ≤ _; exact Nat.le_of_eq rfl) (hb hby d7_143) (fun _ _ => ⟨rfl, e23, (by decide : 0 + 0 ≤ _), (by decide : 0 + 0 ≤ _)⟩)
            dsimp only [Pt.U, Pt.locs, Pt.cells, Pt.slots] at X24 l24 y24 z24 st24 hQ24
            subst y24 z24
            obtain ⟨rfl, N24q, e24⟩ := hQ24
            have N24 : Fr n0 L24 := by rw [l24]; exact Fr.app N22 N24q
            have pre25 : ∀ t, Steps p.tables e below (T24.setTop (mkF m 147 #[.val (.ref ob), .val (.int fr), .val (.int (own_fi fr nu u)), .val (.long (own_wd fr w)), .second, .val (.int (scan u (nu.toInt - 1 - (own_ix (own_wi fr)).toInt).toNat (own_ix (own_wi fr)) (own_sw fr u)).1), .val (.long (scan u (nu.toInt - 1 - (own_ix (own_wi fr)).toInt).toNat (own_ix (own_wi fr)) (own_sw fr u)).2), .second] [(.int (((own_fi fr nu u) <<< ((6 : Int32) &&& 31)) + (Fntzl (w (own_fi fr nu u)))))])) t → Steps p.tables e below (s₁.setTop (entryFrame m #[(.ref ob), (.int fr)] 8)) t := by
              intro t k
              refine pre18 t ?_
              show Steps p.tables e below (T17.setTop (mkF m 91 #[.val (.ref ob), .val (.int fr), .val (.int (own_wi fr)), .val (.long (own_wd fr w)), .second, .val (.int (scan u (nu.toInt - 1 - (own_ix (own_wi fr)).toInt).toNat (own_ix (own_wi fr)) (own_sw fr u)).1), .val (.long (scan u (nu.toInt - 1 - (own_ix (own_wi fr)).toInt).toNat (own_ix (own_wi fr)) (own_sw fr u)).2), .second] [(.int (lcmpW (scan u (nu.toInt - 1 - (own_ix (own_wi fr)).toInt).toNat (own_ix (own_wi fr)) (own_sw fr u)).2 (0 : Int64)))])) _
              refine XS.ifYes X17.here hx rfl (pc0 := 91) (pc' := 121) rfl (hb hby d7_91) rfl ((if0 _ _).trans (feq (fun q => hc19 ((lw_eq _ _).mp q))).2) (by decide) (by decide) ?_
              show Steps p.tables e below (T17.setTop (mkF m 121 #[.val (.ref ob), .val (.int fr), .val (.int (own_wi fr)), .val (.long (own_wd fr w)), .second, .val (.int (scan u (nu.toInt - 1 - (own_ix (own_wi fr)).toInt).toNat (own_ix (own_wi fr)) (own_sw fr u)).1), .val (.long (scan u (nu.toInt - 1 - (own_ix (own_wi fr)).toInt).toNat (own_ix (own_wi fr)) (own_sw fr u)).2), .second] [])) _
              refine XS.iload X17.here hx rfl (hb hby d7_121) rfl ?_
              show Steps p.tables e below (T17.setTop (mkF m 123 #[.val (.ref ob), .val (.int fr), .val (.int (own_wi fr)), .val (.long (own_wd fr w)), .second, .val (.int (scan u (nu.toInt - 1 - (own_ix (own_wi fr)).toInt).toNat (own_ix (own_wi fr)) (own_sw fr u)).1), .val (.long (scan u (nu.toInt - 1 - (own_ix (own_wi fr)).toInt).toNat (own_ix (own_wi fr)) (own_sw fr u)).2), .second] [(.int (scan u (nu.toInt - 1 - (own_ix (own_wi fr)).toInt).toNat (own_ix (own_wi fr)) (own_sw fr u)).1)])) _
              refine XS.bipush X17.here hx rfl (hb hby d7_123) ?_
              show Steps p.tables e below (T17.setTop (mkF m 125 #[.val (.ref ob), .val (.int fr), .val (.int (own_wi fr)), .val (.long (own_wd fr w)), .second, .val (.int (scan u (nu.toInt - 1 - (own_ix (own_wi fr)).toInt).toNat (own_ix (own_wi fr)) (own_sw fr u)).1), .val (.long (scan u (nu.toInt - 1 - (own_ix (own_wi fr)).toInt).toNat (own_ix (own_wi fr)) (own_sw fr u)).2), .second] [(.int (6 : Int32)), (.int (scan u (nu.toInt - 1 - (own_ix (own_wi fr)).toInt).toNat (own_ix (own_wi fr)) (own_sw fr u)).1)])) _
              refine XS.ishl X17.here hx rfl (hb hby d7_125) rfl ?_
              show Steps p.tables e below (T17.setTop (mkF m 126 #[.val (.ref ob), .val (.int fr), .val (.int (own_wi fr)), .val (.long (own_wd fr w)), .second, .val (.int (scan u (nu.toInt - 1 - (own_ix (own_wi fr)).toInt).toNat (own_ix (own_wi fr)) (own_sw fr u)).1), .val (.long (scan u (nu.toInt - 1 - (own_ix (own_wi fr)).toInt).toNat (own_ix (own_wi fr)) (own_sw fr u)).2), .second] [(.int ((scan u (nu.toInt - 1 - (own_ix (own_wi fr)).toInt).toNat (own_ix (own_wi fr)) (own_sw fr u)).1 <<< ((6 : Int32) &&& 31)))])) _
              refine XS.lload X17.here hx rfl (hb hby d7_126) rfl ?_
              show Steps p.tables e below (T17.setTop (mkF m 128 #[.val (.ref ob), .val (.int fr), .val (.int (own_wi fr)), .val (.long (own_wd fr w)), .second, .val (.int (scan u (nu.toInt - 1 - (own_ix (own_wi fr)).toInt).toNat (own_ix (own_wi fr)) (own_sw fr u)).1), .val (.long (scan u (nu.toInt - 1 - (own_ix (own_wi fr)).toInt).toNat (own_ix (own_wi fr)) (own_sw fr u)).2), .second] [(.long (scan u (nu.toInt - 1 - (own_ix (own_wi fr)).toInt).toNat (own_ix (own_wi fr)) (own_sw fr u)).2), (.int ((scan u (nu.toInt - 1 - (own_ix (own_wi fr)).toInt).toNat (own_ix (own_wi fr)) (own_sw fr u)).1 <<< ((6 : Int32) &&& 31)))])) _
              refine st22 _ ?_
              show Steps p.tables e below (T22.setTop (mkF m 131 #[.val (.ref ob), .val (.int fr), .val (.int (own_wi fr)), .val (.long (own_wd fr w)), .second, .val (.int (scan u (nu.toInt - 1 - (own_ix (own_wi fr)).toInt).toNat (own_ix (own_wi fr)) (own_sw fr u)).1), .val (.long (scan u (nu.toInt - 1 - (own_ix (own_wi fr)).toInt).toNat (own_ix (own_wi fr)) (own_sw fr u)).2), .second] [(.int (Fntzl (scan u (nu.toInt - 1 - (own_ix (own_wi fr)).toInt).toNat (own_ix (own_wi fr)) (own_sw fr u)).2)), (.int ((scan u (nu.toInt - 1 - (own_ix (own_wi fr)).toInt).toNat (own_ix (own_wi fr)) (own_sw fr u)).1 <<< ((6 : Int32) &&& 31)))])) _
              refine XS.iadd X22.here hx rfl (hb hby d7_131) rfl ?_
              show Steps p.tables e below (T22.setTop (mkF m 132 #[.val (.ref ob), .val (.int fr), .val (.int (own_wi fr)), .val (.long (own_wd fr w)), .second, .val (.int (scan u (nu.toInt - 1 - (own_ix (own_wi fr)).toInt).toNat (own_ix (own_wi fr)) (own_sw fr u)).1), .val (.long (scan u (nu.toInt - 1 - (own_ix (own_wi fr)).toInt).toNat (own_ix (own_wi fr)) (own_sw fr u)).2), .second] [(.int (((scan u (nu.toInt - 1 - (own_ix (own_wi fr)).toInt).toNat (own_ix (own_wi fr)) (own_sw fr u)).1 <<< ((6 : Int32) &&& 31)) + (Fntzl (scan u (nu.toInt - 1 - (own_ix (own_wi fr)).toInt).toNat (own_ix (own_wi fr)) (own_sw fr u)).2)))])) _
              refine XS.istoreN X22.here hx rfl (hb hby d7_132) rfl (l' := #[.val (.ref ob), .val (.int fr), .val (.int (own_fi fr nu u)), .val (.long (own_wd fr w)), .second, .val (.int (scan u (nu.toInt - 1 - (own_ix (own_wi fr)).toInt).toNat (own_ix (own_wi fr)) (own_sw fr u)).1), .val (.long (scan u (nu.toInt - 1 - (own_ix (own_wi fr)).toInt).toNat (own_ix (own_wi fr)) (own_sw fr u)).2), .second]) rfl ?_
              show Steps p.tables e below (T22.setTop (mkF m 133 #[.val (.ref ob), .val (.int fr), .val (.int (own_fi fr nu u)), .val (.long (own_wd fr w)), .second, .val (.int (scan u (nu.toInt - 1 - (own_ix (own_wi fr)).toInt).toNat (own_ix (own_wi fr)) (own_sw fr u)).1), .val (.long (scan u (nu.toInt - 1 - (own_ix (own_wi fr)).toInt).toNat (own_ix (own_wi fr)) (own_sw fr u)).2), .second] [])) _
              refine XS.iloadN X22.here hx rfl (hb hby d7_133) rfl ?_
              show Steps p.tables e below (T22.setTop (mkF m 134 #[.val (.ref ob), .val (.int fr), .val (.int (own_fi fr nu u)), .val (.long (own_wd fr w)), .second, .val (.int (scan u (nu.toInt - 1 - (own_ix (own_wi fr)).toInt).toNat (own_ix (own_wi fr)) (own_sw fr u)).1), .val (.long (scan u (nu.toInt - 1 - (own_ix (own_wi fr)).toInt).toNat (own_ix (own_wi fr)) (own_sw fr u)).2), .second] [(.int (own_fi fr nu u))])) _
              refine XS.bipush X22.here hx rfl (hb hby d7_134) ?_
              show Steps p.tables e below (T22.setTop (mkF m 136 #[.val (.ref ob), .val (.int fr), .val (.int (own_fi fr nu u)), .val (.long (own_wd fr w)), .second, .val (.int (scan u (nu.toInt - 1 - (own_ix (own_wi fr)).toInt).toNat (own_ix (own_wi fr)) (own_sw fr u)).1), .val (.long (scan u (nu.toInt - 1 - (own_ix (own_wi fr)).toInt).toNat (own_ix (own_wi fr)) (own_sw fr u)).2), .second] [(.int (6 : Int32)), (.int (own_fi fr nu u))])) _
              refine XS.ishl X22.here hx rfl (hb hby d7_136) rfl ?_
              show Steps p.tables e below (T22.setTop (mkF m 137 #[.val (.ref ob), .val (.int fr), .val (.int (own_fi fr nu u)), .val (.long (own_wd fr w)), .second, .val (.int (scan u (nu.toInt - 1 - (own_ix (own_wi fr)).toInt).toNat (own_ix (own_wi fr)) (own_sw fr u)).1), .val (.long (scan u (nu.toInt - 1 - (own_ix (own_wi fr)).toInt).toNat (own_ix (own_wi fr)) (own_sw fr u)).2), .second] [(.int ((own_fi fr nu u) <<< ((6 : Int32) &&& 31)))])) _
              refine XS.aloadN X22.here hx rfl (hb hby d7_137) rfl rfl ?_
              show Steps p.tables e below (T22.setTop (mkF m 138 #[.val (.ref ob), .val (.int fr), .val (.int (own_fi fr nu u)), .val (.long (own_wd fr w)), .second, .val (.int (scan u (nu.toInt - 1 - (own_ix (own_wi fr)).toInt).toNat (own_ix (own_wi fr)) (own_sw fr u)).1), .val (.long (scan u (nu.toInt - 1 - (own_ix (own_wi fr)).toInt).toNat (own_ix (own_wi fr)) (own_sw fr u)).2), .second] [(.ref ob), (.int ((own_fi fr nu u) <<< ((6 : Int32) &&& 31)))])) _
              refine st23 _ ?_
              show Steps p.tables e below (T23.setTop (mkF m 141 #[.val (.ref ob), .val (.int fr), .val (.int (own_fi fr nu u)), .val (.long (own_wd fr w)), .second, .val (.int (scan u (nu.toInt - 1 - (own_ix (own_wi fr)).toInt).toNat (own_ix (own_wi fr)) (own_sw fr u)).1), .val (.long (scan u (nu.toInt - 1 - (own_ix (own_wi fr)).toInt).toNat (own_ix (own_wi fr)) (own_sw fr u)).2), .second] [(.ref aw), (.int ((own_fi fr nu u) <<< ((6 : Int32) &&& 31)))])) _
              refine XS.iloadN X23.here hx rfl (hb hby d7_141) rfl ?_
              show Steps p.tables e below (T23.setTop (mkF m 142 #[.val (.ref ob), .val (.int fr), .val (.int (own_fi fr nu u)), .val (.long (own_wd fr w)), .second, .val (.int (scan u (nu.toInt - 1 - (own_ix (own_wi fr)).toInt).toNat (own_ix (own_wi fr)) (own_sw fr u)).1), .val (.long (scan u (nu.toInt - 1 - (own_ix (own_wi fr)).toInt).toNat (own_ix (own_wi fr)) (own_sw fr u)).2), .second] [(.int (own_fi fr nu u)), (.ref aw), (.int ((own_fi fr nu u) <<< ((6 : Int32) &&& 31)))])) _
              refine rdJ X23 hx hZ e23 k1_5 (j := (own_fi fr nu u)) (hfin hc19 hc14) rfl (g := (mkF m 142 #[.val (.ref ob), .val (.int fr), .val (.int (own_fi fr nu u)), .val (.long (own_wd fr w)), .second, .val (.int (scan u (nu.toInt - 1 - (own_ix (own_wi fr)).toInt).toNat (own_ix (own_wi fr)) (own_sw fr u)).1), .val (.long (scan u (nu.toInt - 1 - (own_ix (own_wi fr)).toInt).toNat (own_ix (own_wi fr)) (own_sw fr u)).2), .second] [(.int (own_fi fr nu u)), (.ref aw), (.int ((own_fi fr nu u) <<< ((6 : Int32) &&& 31)))])) rfl rfl (hb hby d7_142) _ ?_
              show Steps p.tables e below (T23.setTop (mkF m 143 #[.val (.ref ob), .val (.int fr), .val (.int (own_fi fr nu u)), .val (.long (own_wd fr w)), .second, .val (.int (scan u (nu.toInt - 1 - (own_ix (own_wi fr)).toInt).toNat (own_ix (own_wi fr)) (own_sw fr u)).1), .val (.long (scan u (nu.toInt - 1 - (own_ix (own_wi fr)).toInt).toNat (own_ix (own_wi fr)) (own_sw fr u)).2), .second] [(.long (w (own_fi fr nu u))), (.int ((own_fi fr nu u) <<< ((6 : Int32) &&& 31)))])) _
              refine st24 _ ?_
              show Steps p.tables e below (T24.setTop (mkF m 146 #[.val (.ref ob), .val (.int fr), .val (.int (own_fi fr nu u)), .val (.long (own_wd fr w)), .second, .val (.int (scan u (nu.toInt - 1 - (own_ix (own_wi fr)).toInt).toNat (own_ix (own_wi fr)) (own_sw fr u)).1), .val (.long (scan u (nu.toInt - 1 - (own_ix (own_wi fr)).toInt).toNat (own_ix (own_wi fr)) (own_sw fr u)).2), .second] [(.int (Fntzl (w (own_fi fr nu u)))), (.int ((own_fi fr nu u) <<< ((6 : Int32) &&& 31)))])) _
              refine XS.iadd X24.here hx rfl (hb hby d7_146) rfl ?_
              exact k
            obtain ⟨fs, hr, hrun, hended, hW, hsame⟩ := X24.leave (v := some (.int (Fnext fr cap sz w nu u))) (fun h => by rw [Bd.returns] at h; cases h) (BodyLoose.notSynchronized Bd)
            refine ⟨_, _, pre25 _ ?_, hrun, hended, _, _, rfl, ?_, ⟨_, rfl⟩, hW, hsame.mono (by decide) (by decide)⟩
            · show Steps p.tables e below (T24.setTop (mkF m 147 #[.val (.ref ob), .val (.int fr), .val (.int (own_fi fr nu u)), .val (.long (own_wd fr w)), .second, .val (.int (scan u (nu.toInt - 1 - (own_ix (own_wi fr)).toInt).toNat (own_ix (own_wi fr)) (own_sw fr u)).1), .val (.long (scan u (nu.toInt - 1 - (own_ix (own_wi fr)).toInt).toNat (own_ix (own_wi fr)) (own_sw fr u)).2), .second] [(.int (((own_fi fr nu u) <<< ((6 : Int32) &&& 31)) + (Fntzl (w (own_fi fr nu u)))))])) _
              have hr2 := hr
              rw [(show (Fnext fr cap sz w nu u) = (((own_fi fr nu u) <<< ((6 : Int32) &&& 31)) + (Fntzl (w (own_fi fr nu u)))) from ((if_pos hc4).trans ((if_neg hc7).trans ((if_pos hc11).trans ((if_pos hc14).trans ((if_neg hc19).trans rfl))))))] at hr2
              exact retI X24 hx Bd.returns (hb hby d7_147) hr2
            · show Q7 Z ob fr aw au cap sz nw w nu u h0 n0 _ T24.heap _
              rw [e24]
              exact ⟨rfl, N24, rfl⟩
        ·
          have pre26 : ∀ t, Steps p.tables e below (T12.setTop (mkF m 71 #[.val (.ref ob), .val (.int fr), .val (.int (own_wi fr)), .val (.long (own_wd fr w)), .second, .val (.int (own_ix (own_wi fr))), .unset, .unset] [(.int (-1 : Int32))])) t → Steps p.tables e below (s₁.setTop (entryFrame m #[(.ref ob), (.int fr)] 8)) t := by
            intro t k
            refine pre13 t ?_
            show Steps p.tables e below (T12.setTop (mkF m 67 #[.val (.ref ob), .val (.int fr), .val (.int (own_wi fr)), .val (.long (own_wd fr w)), .second, .val (.int (own_ix (own_wi fr))), .unset, .unset] [(.int nu), (.int (own_ix (own_wi fr)))])) _
            refine XS.icmpNo X12.here hx rfl (hb hby d7_67) rfl (flt hc14).1 ?_
            show Steps p.tables e below (T12.setTop (mkF m 70 #[.val (.ref ob), .val (.int fr), .val (.int (own_wi fr)), .val (.long (own_wd fr w)), .second, .val (.int (own_ix (own_wi fr))), .unset, .unset] [])) _
            refine XS.iconst X12.here hx rfl (hb hby d7_70) ?_
            exact k
          obtain ⟨fs, hr, hrun, hended, hW, hsame⟩ := X12.leave (v := some (.int (Fnext fr cap sz w nu u))) (fun h => by rw [Bd.returns] at h; cases h) (BodyLoose.notSynchronized Bd)
          refine ⟨_, _, pre26 _ ?_, hrun, hended, _, _, rfl, ?_, ⟨_, rfl⟩, hW, hsame.mono (by decide) (by decide)⟩
          · show Steps p.tables e below (T12.setTop (mkF m 71 #[.val (.ref ob), .val (.int fr), .val (.int (own_wi fr)), .val (.long (own_wd fr w)), .second, .val (.int (own_ix (own_wi fr))), .unset, .unset] [(.int (-1 : Int32))])) _
            have hr2 := hr
            rw [(show (Fnext fr cap sz w nu u) = (-1 : Int32) from ((if_pos hc4).trans ((if_neg hc7).trans ((if_pos hc11).trans ((if_neg hc14).trans rfl)))))] at hr2
            exact retI X12 hx Bd.returns (hb hby d7_71) hr2
          · show Q7 Z ob fr aw au cap sz nw w nu u h0 n0 _ T12.heap _
            rw [e12]
            exact ⟨rfl, N0, rfl⟩
      ·
        obtain ⟨_, _, ⟨T27, L27, k27, n27⟩, -, X27, ⟨Lc27, hQ27, l27, y27, z27⟩, st27⟩ := Jvm.LawKit.callS X9 hx (y := (⟨"java/lang/Long", "numberOfTrailingZeros", "(J)I"⟩ : MethodName)) hown (mvT hZ (hw _ (List.mem_of_getElem? (i := 42) rfl))) (mvT hZ (hw _ (List.mem_of_getElem? (i := 43) rfl))) (mvT hZ (hw _ (List.mem_of_getElem? (i := 44) rfl))) (mvT hZ (hw _ (List.mem_of_getElem? (i := 45) rfl))) (by decide) (backOf (W := 1) (rm8 l Z a0 hw [] (own_wd fr w) h0 n0 Z0) hZ (hw _ (List.mem_of_getElem? (i := 45) rfl)) (hw _ (List.mem_of_getElem? (i := 44) rfl)) (by decide) (by decide)) (g := (mkF m 46 #[.val (.ref ob), .val (.int fr), .val (.int (own_ix fr)), .val (.long (own_wd fr w)), .second, .unset, .unset, .unset] [(.long (own_wd fr w)), (.int ((own_ix fr) <<< ((6 : Int32) &&& 31)))])) rfl (by rw [hml]; rfl) (argsL := [(.long (own_wd fr w))]) (rest := [(.int ((own_ix fr) <<< ((6 : Int32) &&& 31)))]) (lenOf pd_6 rfl) rfl (by show 2 * 0 + _ ≤ _; exact Nat.le_of_eq rfl) (hb hby d7_46) (fun _ _ => ⟨rfl, e9, (by decide : 0 + 0 ≤ _), (by decide : 0 + 0 ≤ _)⟩)
        dsimp only [Pt.U, Pt.locs, Pt.cells, Pt.slots] at X27 l27 y27 z27 st27 hQ27
        subst y27 z27
        obtain ⟨rfl, N27q, e27⟩ := hQ27
        have N27 : Fr n0 L27 := by rw [l27]; exact Fr.app N0 N27q
        have pre28 : ∀ t, Steps p.tables e below (T27.setTop (mkF m 50 #[.val (.ref ob), .val (.int fr), .val (.int (own_ix fr)), .val (.long (own_wd fr w)), .second, .unset, .unset, .unset] [(.int (((own_ix fr) <<< ((6 : Int32) &&& 31)) + (Fntzl (own_wd fr w))))])) t → Steps p.tables e below (s₁.setTop (entryFrame m #[(.ref ob), (.int fr)] 8)) t := by
          intro t k
          refine pre10 t ?_
          show Steps p.tables e below (T9.setTop (mkF m 38 #[.val (.ref ob), .val (.int fr), .val (.int (own_ix fr)), .val (.long (own_wd fr w)), .second, .unset, .unset, .unset] [(.int (lcmpW (own_wd fr w) (0 : Int64)))])) _
          refine XS.ifNo X9.here hx rfl (hb hby d7_38) rfl ((if0 _ _).trans (feq (fun q => hc11 ((lw_eq _ _).mp q))).1) ?_
          show Steps p.tables e below (T9.setTop (mkF m 41 #[.val (.ref ob), .val (.int fr), .val (.int (own_ix fr)), .val (.long (own_wd fr w)), .second, .unset, .unset, .unset] [])) _
          refine XS.iloadN X9.here hx rfl (hb hby d7_41) rfl ?_
          show Steps p.tables e below (T9.setTop (mkF m 42 #[.val (.ref ob), .val (.int fr), .val (.int (own_ix fr)), .val (.long (own_wd fr w)), .second, .unset, .unset, .unset] [(.int (own_ix fr))])) _
          refine XS.bipush X9.here hx rfl (hb hby d7_42) ?_
          show Steps p.tables e below (T9.setTop (mkF m 44 #[.val (.ref ob), .val (.int fr), .val (.int (own_ix fr)), .val (.long (own_wd fr w)), .second, .unset, .unset, .unset] [(.int (6 : Int32)), (.int (own_ix fr))])) _
          refine XS.ishl X9.here hx rfl (hb hby d7_44) rfl ?_
          show Steps p.tables e below (T9.setTop (mkF m 45 #[.val (.ref ob), .val (.int fr), .val (.int (own_ix fr)), .val (.long (own_wd fr w)), .second, .unset, .unset, .unset] [(.int ((own_ix fr) <<< ((6 : Int32) &&& 31)))])) _
          refine XS.lloadN X9.here hx rfl (hb hby d7_45) rfl ?_
          show Steps p.tables e below (T9.setTop (mkF m 46 #[.val (.ref ob), .val (.int fr), .val (.int (own_ix fr)), .val (.long (own_wd fr w)), .second, .unset, .unset, .unset] [(.long (own_wd fr w)), (.int ((own_ix fr) <<< ((6 : Int32) &&& 31)))])) _
          refine st27 _ ?_
          show Steps p.tables e below (T27.setTop (mkF m 49 #[.val (.ref ob), .val (.int fr), .val (.int (own_ix fr)), .val (.long (own_wd fr w)), .second, .unset, .unset, .unset] [(.int (Fntzl (own_wd fr w))), (.int ((own_ix fr) <<< ((6 : Int32) &&& 31)))])) _
          refine XS.iadd X27.here hx rfl (hb hby d7_49) rfl ?_
          exact k
        obtain ⟨fs, hr, hrun, hended, hW, hsame⟩ := X27.leave (v := some (.int (Fnext fr cap sz w nu u))) (fun h => by rw [Bd.returns] at h; cases h) (BodyLoose.notSynchronized Bd)
        refine ⟨_, _, pre28 _ ?_, hrun, hended, _, _, rfl, ?_, ⟨_, rfl⟩, hW, hsame.mono (by decide) (by decide)⟩
        · show Steps p.tables e below (T27.setTop (mkF m 50 #[.val (.ref ob), .val (.int fr), .val (.int (own_ix fr)), .val (.long (own_wd fr w)), .second, .unset, .unset, .unset] [(.int (((own_ix fr) <<< ((6 : Int32) &&& 31)) + (Fntzl (own_wd fr w))))])) _
          have hr2 := hr
          rw [(show (Fnext fr cap sz w nu u) = (((own_ix fr) <<< ((6 : Int32) &&& 31)) + (Fntzl (own_wd fr w))) from ((if_pos hc4).trans ((if_neg hc7).trans ((if_neg hc11).trans rfl))))] at hr2
          exact retI X27 hx Bd.returns (hb hby d7_50) hr2
        · show Q7 Z ob fr aw au cap sz nw w nu u h0 n0 _ T27.heap _
          rw [e27]
          exact ⟨rfl, N27, rfl⟩
  ·
    have pre29 : ∀ t, Steps p.tables e below (T2.setTop (mkF m 16 #[.val (.ref ob), .val (.int fr), .unset, .unset, .unset, .unset, .unset, .unset] [(.int (-1 : Int32))])) t → Steps p.tables e below (s₁.setTop (entryFrame m #[(.ref ob), (.int fr)] 8)) t := by
      intro t k
      refine pre3 t ?_
      show Steps p.tables e below (T2.setTop (mkF m 5 #[.val (.ref ob), .val (.int fr), .unset, .unset, .unset, .unset, .unset, .unset] [(.int cap), (.int fr)])) _
      refine XS.icmpYes X2.here hx rfl (pc0 := 5) (pc' := 15) rfl (hb hby d7_5) rfl (flt hc4).2.1 (by decide) (by decide) ?_
      show Steps p.tables e below (T2.setTop (mkF m 15 #[.val (.ref ob), .val (.int fr), .unset, .unset, .unset, .unset, .unset, .unset] [])) _
      refine XS.iconst X2.here hx rfl (hb hby d7_15) ?_
      exact k
    obtain ⟨fs, hr, hrun, hended, hW, hsame⟩ := X2.leave (v := some (.int (Fnext fr cap sz w nu u))) (fun h => by rw [Bd.returns] at h; cases h) (BodyLoose.notSynchronized Bd)
    refine ⟨_, _, pre29 _ ?_, hrun, hended, _, _, rfl, ?_, ⟨_, rfl⟩, hW, hsame.mono (by decide) (by decide)⟩
    · show Steps p.tables e below (T2.setTop (mkF m 16 #[.val (.ref ob), .val (.int fr), .unset, .unset, .unset, .unset, .unset, .unset] [(.int (-1 : Int32))])) _
      have hr2 := hr
      rw [(show (Fnext fr cap sz w nu u) = (-1 : Int32) from ((if_neg hc4).trans rfl))] at hr2
      exact retI X2 hx Bd.returns (hb hby d7_16) hr2
    · show Q7 Z ob fr aw au cap sz nw w nu u h0 n0 _ T2.heap _
      rw [e2]
      exact ⟨rfl, N0, rfl⟩
def tb (x : Int64) (k : Nat) : Bool := x.toBitVec.getLsbD k
def md (i : Int32) : Nat := i.toBitVec.toNat % 64
theorem tb_or (x y : Int64) (k : Nat) : tb (x ||| y) k = (tb x k || tb y k) := by
  unfold tb; rw [Int64.toBitVec_or, BitVec.getLsbD_or]
theorem tb_and (x y : Int64) (k : Nat) : tb (x &&& y) k = (tb x k && tb y k) := by
  unfold tb; rw [Int64.toBitVec_and, BitVec.getLsbD_and]
theorem tb_not (x : Int64) (k : Nat) (hk : k < 64) : tb (x ^^^ -1) k = !tb x k := by
  have e : (-1 : Int64).toBitVec = BitVec.allOnes 64 := by decide
  unfold tb; rw [Int64.toBitVec_xor, BitVec.getLsbD_xor, e, BitVec.getLsbD_allOnes, decide_eq_true hk, Bool.xor_true]
theorem tb_zero (k : Nat) : tb 0 k = false := by
  have e : (0 : Int64).toBitVec = 0#64 := by decide
  unfold tb; rw [e, BitVec.getLsbD_zero]
theorem tb_ext {x y : Int64} (h : ∀ k, k < 64 → tb x k = tb y k) : x = y := by
  rw [← Int64.toBitVec_inj]
  exact BitVec.eq_of_getLsbD_eq fun k hk => h k hk
theorem md_lt (i : Int32) : md i < 64 := Nat.mod_lt _ (by decide)
theorem tb_bit (i : Int32) (k : Nat) (hk : k < 64) : tb (own_bit i) k = decide (k = md i) := by
  obtain ⟨h1, h2⟩ := sm64 i (md i) rfl
  have e : (own_bit i).toBitVec = 1#64 <<< ((BitVec.ofNat 64 (md i)).smod 64).toNat := by
    show (1#64 <<< ((i &&& 0x3f).toInt64.toBitVec.smod 64)) = _
    rw [h1]; rfl
  unfold tb
  rw [e, smod64 _ h2, BitVec.getLsbD_shiftLeft, BitVec.getLsbD_one]
  by_cases q : k = md i
  · subst q; simp [hk]
  · by_cases r : k < md i
    · simp [r, q]
    · have : ¬ k - md i = 0 := by omega
      simp [q, this]
theorem and_bit (x : Int64) (i : Int32) : (x &&& own_bit i = 0) ↔ tb x (md i) = false := by
  constructor
  · intro h
    have q := congrArg (fun z => tb z (md i)) h
    simp only [tb_and, tb_zero, tb_bit i (md i) (md_lt i), decide_true, Bool.and_true] at q
    exact q
  · intro h
    refine tb_ext fun k hk => ?_
    rw [tb_and, tb_zero, tb_bit i k hk]
    by_cases q : k = md i
    · rw [q, h]; rfl
    · rw [decide_eq_false q, Bool.and_false]
theorem md_int (i : Int32) (h : 0 ≤ i.toInt) : (md i : Int) = i.toInt % 64 := by
  have e : i.toInt = (i.toBitVec.toNat : Int) := by
    have := nat_of (own_capn i h)
    have h2 : i.toInt = i.toBitVec.toInt := rfl
    have h3 := BitVec.toInt_eq_toNat_cond i.toBitVec
    have h4 := i.toBitVec.isLt
    rw [h2] at h ⊢
    split at h3 <;> omega
  unfold md
  omega
theorem own_inj {i j : Int32} (hi : 0 ≤ i.toInt) (hj : 0 ≤ j.toInt) (h1 : own_ix i = own_ix j) (h2 : md i = md j) : i = j := by
  have a := own_shr6 i
  have b := own_shr6 j
  have c := md_int i hi
  have d := md_int j hj
  have r1 := rng32 i
  have r2 := rng32 j
  rw [h1] at a
  rw [h2] at c
  rw [← Int32.toInt_inj]
  omega
def mem (w : Int32 → Int64) (i : Int32) : Bool := tb (w (own_ix i)) (md i)
theorem own_con (i : Int32) (w : Int32 → Int64) : Fcon i w = mem w i := by
  unfold Fcon mem
  by_cases h : w (own_ix i) &&& own_bit i = 0
  · rw [if_pos h, (and_bit _ _).mp h]
  · rw [if_neg h]
    cases q : tb (w (own_ix i)) (md i)
    · exact absurd ((and_bit _ _).mpr q) h
    · rfl
theorem mem_add {i j : Int32} (hi : 0 ≤ i.toInt) (hj : 0 ≤ j.toInt) (w : Int32 → Int64) : mem (Fadd_w i w) j = (mem w j || decide (j = i)) := by
  unfold Fadd_w mem
  by_cases h : w (own_ix i) &&& own_bit i = 0
  · rw [if_pos h]
    by_cases q : own_ix j = own_ix i
    · rw [q, upA_hit, tb_or, tb_bit i _ (md_lt j)]
      congr 1
      by_cases r : md j = md i
      · rw [decide_eq_true r, decide_eq_true (own_inj hj hi q r)]
      · rw [decide_eq_false r, decide_eq_false fun e => r (by rw [e])]
    · rw [upA_miss q, decide_eq_false fun e => q (by rw [e]), Bool.or_false]
  · rw [if_neg h]
    by_cases q : j = i
    · rw [q, decide_eq_true rfl, Bool.or_true]
      cases r : tb (w (own_ix i)) (md i)
      · exact absurd ((and_bit _ _).mpr r) h
      · rfl
    · rw [decide_eq_false q, Bool.or_false]
def own_Gf (xm : Int32) : Int32 := (if (0 : Int32) < xm then (if (65536 : Int32) < xm then (if (256 : Int32) < ((xm.toUInt32 >>> ((16 : Int32) &&& 31).toUInt32).toInt32) then (if (16 : Int32) < ((((xm.toUInt32 >>> ((16 : Int32) &&& 31).toUInt32).toInt32).toUInt32 >>> ((8 : Int32) &&& 31).toUInt32).toInt32) then (if (4 : Int32) < ((((((xm.toUInt32 >>> ((16 : Int32) &&& 31).toUInt32).toInt32).toUInt32 >>> ((8 : Int32) &&& 31).toUInt32).toInt32).toUInt32 >>> ((4 : Int32) &&& 31).toUInt32).toInt32) then ((31 : Int32) + ((((((((((xm.toUInt32 >>> ((16 : Int32) &&& 31).toUInt32).toInt32).toUInt32 >>> ((8 : Int32) &&& 31).toUInt32).toInt32).toUInt32 >>> ((4 : Int32) &&& 31).toUInt32).toInt32).toUInt32 >>> ((2 : Int32) &&& 31).toUInt32).toInt32).toUInt32 >>> ((1 : Int32) &&& 31).toUInt32).toInt32)) else ((29 : Int32) + ((((((((xm.toUInt32 >>> ((16 : Int32) &&& 31).toUInt32).toInt32).toUInt32 >>> ((8 : Int32) &&& 31).toUInt32).toInt32).toUInt32 >>> ((4 : Int32) &&& 31).toUInt32).toInt32).toUInt32 >>> ((1 : Int32) &&& 31).toUInt32).toInt32))) else (if (4 : Int32) < ((((xm.toUInt32 >>> ((16 : Int32) &&& 31).toUInt32).toInt32).toUInt32 >>> ((8 : Int32) &&& 31).toUInt32).toInt32) then ((27 : Int32) + ((((((((xm.toUInt32 >>> ((16 : Int32) &&& 31).toUInt32).toInt32).toUInt32 >>> ((8 : Int32) &&& 31).toUInt32).toInt32).toUInt32 >>> ((2 : Int32) &&& 31).toUInt32).toInt32).toUInt32 >>> ((1 : Int32) &&& 31).toUInt32).toInt32)) else ((25 : Int32) + ((((((xm.toUInt32 >>> ((16 : Int32) &&& 31).toUInt32).toInt32).toUInt32 >>> ((8 : Int32) &&& 31).toUInt32).toInt32).toUInt32 >>> ((1 : Int32) &&& 31).toUInt32).toInt32)))) else (if (16 : Int32) < ((xm.toUInt32 >>> ((16 : Int32) &&& 31).toUInt32).toInt32) then (if (4 : Int32) < ((((xm.toUInt32 >>> ((16 : Int32) &&& 31).toUInt32).toInt32).toUInt32 >>> ((4 : Int32) &&& 31).toUInt32).toInt32) then ((23 : Int32) + ((((((((xm.toUInt32 >>> ((16 : Int32) &&& 31).toUInt32).toInt32).toUInt32 >>> ((4 : Int32) &&& 31).toUInt32).toInt32).toUInt32 >>> ((2 : Int32) &&& 31).toUInt32).toInt32).toUInt32 >>> ((1 : Int32) &&& 31).toUInt32).toInt32)) else ((21 : Int32) + ((((((xm.toUInt32 >>> ((16 : Int32) &&& 31).toUInt32).toInt32).toUInt32 >>> ((4 : Int32) &&& 31).toUInt32).toInt32).toUInt32 >>> ((1 : Int32) &&& 31).toUInt32).toInt32))) else (if (4 : Int32) < ((xm.toUInt32 >>> ((16 : Int32) &&& 31).toUInt32).toInt32) then ((19 : Int32) + ((((((xm.toUInt32 >>> ((16 : Int32) &&& 31).toUInt32).toInt32).toUInt32 >>> ((2 : Int32) &&& 31).toUInt32).toInt32).toUInt32 >>> ((1 : Int32) &&& 31).toUInt32).toInt32)) else ((17 : Int32) + ((((xm.toUInt32 >>> ((16 : Int32) &&& 31).toUInt32).toInt32).toUInt32 >>> ((1 : Int32) &&& 31).toUInt32).toInt32))))) else (if (256 : Int32) < xm then (if (16 : Int32) < ((xm.toUInt32 >>> ((8 : Int32) &&& 31).toUInt32).toInt32) then (if (4 : Int32) < ((((xm.toUInt32 >>> ((8 : Int32) &&& 31).toUInt32).toInt32).toUInt32 >>> ((4 : Int32) &&& 31).toUInt32).toInt32) then ((15 : Int32) + ((((((((xm.toUInt32 >>> ((8 : Int32) &&& 31).toUInt32).toInt32).toUInt32 >>> ((4 : Int32) &&& 31).toUInt32).toInt32).toUInt32 >>> ((2 : Int32) &&& 31).toUInt32).toInt32).toUInt32 >>> ((1 : Int32) &&& 31).toUInt32).toInt32)) else ((13 : Int32) + ((((((xm.toUInt32 >>> ((8 : Int32) &&& 31).toUInt32).toInt32).toUInt32 >>> ((4 : Int32) &&& 31).toUInt32).toInt32).toUInt32 >>> ((1 : Int32) &&& 31).toUInt32).toInt32))) else (if (4 : Int32) < ((xm.toUInt32 >>> ((8 : Int32) &&& 31).toUInt32).toInt32) then ((11 : Int32) + ((((((xm.toUInt32 >>> ((8 : Int32) &&& 31).toUInt32).toInt32).toUInt32 >>> ((2 : Int32) &&& 31).toUInt32).toInt32).toUInt32 >>> ((1 : Int32) &&& 31).toUInt32).toInt32)) else ((9 : Int32) + ((((xm.toUInt32 >>> ((8 : Int32) &&& 31).toUInt32).toInt32).toUInt32 >>> ((1 : Int32) &&& 31).toUInt32).toInt32)))) else (if (16 : Int32) < xm then (if (4 : Int32) < ((xm.toUInt32 >>> ((4 : Int32) &&& 31).toUInt32).toInt32) then ((7 : Int32) + ((((((xm.toUInt32 >>> ((4 : Int32) &&& 31).toUInt32).toInt32).toUInt32 >>> ((2 : Int32) &&& 31).toUInt32).toInt32).toUInt32 >>> ((1 : Int32) &&& 31).toUInt32).toInt32)) else ((5 : Int32) + ((((xm.toUInt32 >>> ((4 : Int32) &&& 31).toUInt32).toInt32).toUInt32 >>> ((1 : Int32) &&& 31).toUInt32).toInt32))) else (if (4 : Int32) < xm then ((3 : Int32) + ((((xm.toUInt32 >>> ((2 : Int32) &&& 31).toUInt32).toInt32).toUInt32 >>> ((1 : Int32) &&& 31).toUInt32).toInt32)) else ((1 : Int32) + ((xm.toUInt32 >>> ((1 : Int32) &&& 31).toUInt32).toInt32)))))) else (xm &&& (32 : Int32)))
theorem own_GF (xi : Int32) : Fntz xi = own_Gf (Fmask xi) := rfl
theorem own_low : ∀ N : Nat, 0 < N → ∃ n b, N = 2 ^ n * (2 * b + 1) := by
  intro N
  induction N using Nat.strongRecOn with
  | _ N ih =>
    intro h
    by_cases q : N % 2 = 1
    · exact ⟨0, N / 2, by omega⟩
    · obtain ⟨n, b, e⟩ := ih (N / 2) (by omega) (by omega)
      refine ⟨n + 1, b, ?_⟩
      have e2 : 2 ^ (n + 1) * (2 * b + 1) = 2 * (2 ^ n * (2 * b + 1)) := by rw [Nat.pow_succ, Nat.mul_comm (2 ^ n) 2, Nat.mul_assoc]
      rw [e2, ← e]; omega
theorem own_bits (N n b k : Nat) (h : N = 2 ^ n * (2 * b + 1)) : N.testBit k = (if k < n then false else (2 * b + 1).testBit (k - n)) ∧ (N - 1).testBit k = (if k < n then true else (2 * b).testBit (k - n)) := by
  have hp : 0 < 2 ^ n := Nat.pow_pos (by decide)
  have e1 : N = 2 ^ n * (2 * b + 1) + 0 := by omega
  have e2 : N - 1 = 2 ^ n * (2 * b) + (2 ^ n - 1) := by rw [h, Nat.mul_add]; omega
  constructor
  · rw [e1, Nat.testBit_two_pow_mul_add _ hp]
    split
    · rw [Nat.zero_testBit]
    · rfl
  · rw [e2, Nat.testBit_two_pow_mul_add _ (by omega)]
    split
    · rename_i q; rw [Nat.testBit_two_pow_sub_one, decide_eq_true q]
    · rfl
theorem own_odd (b m : Nat) : (!(2 * b + 1).testBit m && (2 * b).testBit m) = false := by
  cases m with
  | zero => simp
  | succ m =>
    have e1 : (2 * b + 1) / 2 = b := by omega
    have e2 : (2 * b) / 2 = b := by omega
    rw [Nat.testBit_succ, Nat.testBit_succ, e1, e2]
    cases b.testBit m <;> rfl
theorem own_maskv (xi : Int32) (n b : Nat) (hn : n < 32) (h : xi.toBitVec.toNat = 2 ^ n * (2 * b + 1)) : Fmask xi = Int32.ofInt ((2 ^ n - 1 : Nat) : Int) := by
  rw [← Int32.toBitVec_inj]
  have e0 : (Fmask xi).toBitVec = ~~~xi.toBitVec &&& (xi.toBitVec - 1#32) := by
    have a : (-1 : Int32).toBitVec = BitVec.allOnes 32 := by decide
    show (xi.toBitVec ^^^ (-1 : Int32).toBitVec) &&& (xi.toBitVec - 1#32) = _
    rw [a, BitVec.xor_allOnes]
  have e1 : (Int32.ofInt ((2 ^ n - 1 : Nat) : Int)).toBitVec = BitVec.ofNat 32 (2 ^ n - 1) := by
    show BitVec.ofInt 32 ((2 ^ n - 1 : Nat) : Int) = _
    rw [BitVec.ofInt_natCast]
  have hp : 0 < 2 ^ n := Nat.pow_pos (by decide)
  have hpos : 0 < xi.toBitVec.toNat := by rw [h]; exact Nat.mul_pos hp (by omega)
  have hlt := xi.toBitVec.isLt
  have e2 : (xi.toBitVec - 1#32).toNat = xi.toBitVec.toNat - 1 := by
    rw [BitVec.toNat_sub]
    have : (1#32).toNat = 1 := rfl
    rw [this]
    omega
  rw [e0, e1]
  refine BitVec.eq_of_getLsbD_eq fun k hk => ?_
  rw [BitVec.getLsbD_and, BitVec.getLsbD_not, BitVec.getLsbD_ofNat, decide_eq_true hk, Bool.true_and, Bool.true_and, Nat.testBit_two_pow_sub_one]
  obtain ⟨b1, b2⟩ := own_bits xi.toBitVec.toNat n b k h
  have f1 : xi.toBitVec.getLsbD k = xi.toBitVec.toNat.testBit k := rfl
  have f2 : (xi.toBitVec - 1#32).getLsbD k = (xi.toBitVec - 1#32).toNat.testBit k := rfl
  rw [f1, f2, e2, b1, b2]
  by_cases q : k < n
  · rw [if_pos q, if_pos q, decide_eq_true q]; rfl
  · rw [if_neg q, if_neg q, decide_eq_false q]; exact own_odd b _
theorem own_Gt : ∀ n : Fin 32, own_Gf (Int32.ofInt ((2 ^ n.1 - 1 : Nat) : Int)) = Int32.ofInt (n.1 : Int) := by decide +kernel
theorem ntz32 (xi : Int32) (h : xi ≠ 0) : ∃ n : Nat, n < 32 ∧ (Fntz xi).toInt = n ∧ xi.toBitVec.getLsbD n = true ∧ ∀ k, k < n → xi.toBitVec.getLsbD k = false := by
  have hpos : 0 < xi.toBitVec.toNat := by
    refine Nat.pos_of_ne_zero fun q => h ?_
    rw [← Int32.toBitVec_inj]
    exact BitVec.eq_of_toNat_eq q
  obtain ⟨n, b, e⟩ := own_low _ hpos
  have hn : n < 32 := by
    refine Nat.lt_of_not_le fun q => ?_
    have h1 := xi.toBitVec.isLt
    have h2 : 2 ^ 32 ≤ 2 ^ n := Nat.pow_le_pow_right (by decide) q
    have h3 : 2 ^ n * 1 ≤ 2 ^ n * (2 * b + 1) := Nat.mul_le_mul_left _ (by omega)
    omega
  have hv : Fntz xi = Int32.ofInt (n : Int) := by
    rw [own_GF, own_maskv xi n b hn e]; exact own_Gt ⟨n, hn⟩
  have hB := own_bits xi.toBitVec.toNat n b
  refine ⟨n, hn, ?_, ?_, fun k hk => ?_⟩
  · rw [hv, Int32.toInt_ofInt]
    have q : (Int32.size : Int) = 4294967296 := rfl
    exact Int.bmod_eq_of_le (by omega) (by omega)
  · show xi.toBitVec.toNat.testBit n = true
    rw [(hB n e).1, if_neg (Nat.lt_irrefl n), Nat.sub_self]; simp
  · show xi.toBitVec.toNat.testBit k = false
    rw [(hB k e).1, if_pos hk]
theorem own_lo (xl : Int64) (k : Nat) (hk : k < 32) : xl.toInt32.toBitVec.getLsbD k = tb xl k := by
  show (xl.toBitVec.signExtend 32).getLsbD k = _
  rw [BitVec.signExtend_eq_setWidth_of_le _ (by decide), BitVec.getLsbD_setWidth, decide_eq_true hk, Bool.true_and]; rfl
def own_hi (xl : Int64) : Int32 := (((xl.toUInt64 >>> ((32 : Int32) &&& 0x3f).toInt64.toUInt64).toInt64).toInt32)
theorem own_hib (xl : Int64) (k : Nat) (hk : k < 32) : (own_hi xl).toBitVec.getLsbD k = tb xl (k + 32) := by
  rw [own_hi, own_lo _ k hk]
  unfold tb
  show (xl.toBitVec >>> (((32 : Int32) &&& 0x3f).toInt64.toUInt64.toBitVec % 64)).getLsbD k = _
  have e : (((32 : Int32) &&& 0x3f).toInt64.toUInt64.toBitVec % 64) = 32#64 := by decide
  rw [e, BitVec.ushiftRight_eq', BitVec.getLsbD_ushiftRight]
  congr 1
  show 32 + k = k + 32
  omega
theorem ntz64 (xl : Int64) (h : xl ≠ 0) : ∃ n : Nat, n < 64 ∧ (Fntzl xl).toInt = n ∧ tb xl n = true ∧ ∀ k, k < n → tb xl k = false := by
  unfold Fntzl
  by_cases q : xl.toInt32 = 0
  · rw [if_pos q]
    have lo0 : ∀ k, k < 32 → tb xl k = false := fun k hk => by
      rw [← own_lo xl k hk, q]; exact BitVec.getLsbD_zero
    have hh : own_hi xl ≠ 0 := fun w => h (tb_ext fun k hk => by
      rw [tb_zero]
      by_cases r : k < 32
      · exact lo0 k r
      · have := own_hib xl (k - 32) (by omega)
        rw [w, Nat.sub_add_cancel (by omega)] at this
        rw [← this]; exact BitVec.getLsbD_zero)
    obtain ⟨n, h1, h2, h3, h4⟩ := ntz32 (own_hi xl) hh
    refine ⟨n + 32, by omega, ?_, ?_, fun k hk => ?_⟩
    · have a := c_iadd 32 (Fntz (own_hi xl))
      have b := rng32 (32 + Fntz (own_hi xl))
      have l : (32 : Int32).toInt = 32 := by decide
      show (32 + Fntz (own_hi xl)).toInt = _
      omega
    · rw [← own_hib xl n h1]; exact h3
    · by_cases r : k < 32
      · exact lo0 k r
      · have := own_hib xl (k - 32) (by omega)
        rw [Nat.sub_add_cancel (by omega)] at this
        rw [← this]; exact h4 _ (by omega)
  · rw [if_neg q]
    obtain ⟨n, h1, h2, h3, h4⟩ := ntz32 xl.toInt32 q
    exact ⟨n, by omega, h2, by rw [← own_lo xl n h1]; exact h3, fun k hk => by rw [← own_lo xl k (by omega)]; exact h4 k hk⟩
theorem tb_msk (i : Int32) (k : Nat) (hk : k < 64) : tb ((-1 : Int64) <<< (i &&& 0x3f).toInt64) k = decide (md i ≤ k) := by
  obtain ⟨h1, h2⟩ := sm64 i (md i) rfl
  have a : (-1 : Int64).toBitVec = BitVec.allOnes 64 := by decide
  have e : ((-1 : Int64) <<< (i &&& 0x3f).toInt64).toBitVec = BitVec.allOnes 64 <<< ((BitVec.ofNat 64 (md i)).smod 64).toNat := by
    rw [← a]
    show ((-1 : Int64).toBitVec <<< ((i &&& 0x3f).toInt64.toBitVec.smod 64)) = _
    rw [h1]; rfl
  unfold tb
  rw [e, smod64 _ h2, BitVec.getLsbD_shiftLeft, BitVec.getLsbD_allOnes]
  by_cases q : k < md i
  · have : ¬ md i ≤ k := by omega
    simp [q, this]
  · have h3 : md i ≤ k := by omega
    have h4 : k - md i < 64 := by omega
    simp [q, h3, h4, hk]
def Inv (cap : Int32) (w u : Int32 → Int64) : Prop :=
  (∀ k : Int32, 0 ≤ k.toInt → k.toInt < (own_nw cap).toInt → (mem u k = true ↔ w k ≠ 0)) ∧
  (∀ j : Int32, 0 ≤ j.toInt → (own_ix j).toInt < (own_nw cap).toInt → mem w j = true → j.toInt < cap.toInt) ∧
  (∀ k : Int32, 0 ≤ k.toInt → (own_ix k).toInt < (own_nw (own_nw cap)).toInt → mem u k = true → k.toInt < (own_nw cap).toInt)
theorem own_mk (s b : Nat) (hs : s < 1000000) (hb : b < 64) : ∃ k : Int32, k.toInt = 64 * s + b ∧ (own_ix k).toInt = s ∧ md k = b := by
  have e : (Int32.ofInt ((64 * s + b : Nat) : Int)).toInt = 64 * s + b := by
    rw [Int32.toInt_ofInt]
    have q : (Int32.size : Int) = 4294967296 := rfl
    rw [Int.bmod_eq_of_le (by omega) (by omega)]; omega
  refine ⟨Int32.ofInt ((64 * s + b : Nat) : Int), e, ?_, ?_⟩
  · have a := own_shr6 (Int32.ofInt ((64 * s + b : Nat) : Int))
    omega
  · have c := md_int (Int32.ofInt ((64 * s + b : Nat) : Int)) (by omega)
    omega
theorem own_split (j : Int32) (h : 0 ≤ j.toInt) : j.toInt = 64 * (own_ix j).toInt + md j := by
  have a := own_shr6 j
  have b := md_int j h
  have r := rng32 j
  omega
theorem w_ne (x : Int64) : x ≠ 0 ↔ ∃ b, b < 64 ∧ tb x b = true := by
  constructor
  · intro h
    obtain ⟨n, h1, -, h3, -⟩ := ntz64 x h
    exact ⟨n, h1, h3⟩
  · rintro ⟨b, -, hb⟩ q
    rw [q, tb_zero] at hb; cases hb
theorem own_ixI (k : Int32) (s : Int32) (h : (own_ix k).toInt = s.toInt) : own_ix k = s := Int32.toInt_inj.mp h
theorem scan_spec (u : Int32 → Int64) (k : Nat) : ∀ (si : Int32) (sw : Int64), 0 ≤ si.toInt → si.toInt + k ≤ 1000000 →
    ((scan u k si sw).2 ≠ 0 → ((scan u k si sw).1 = si ∧ (scan u k si sw).2 = sw) ∨ (sw = 0 ∧ si.toInt < (scan u k si sw).1.toInt ∧ (scan u k si sw).1.toInt ≤ si.toInt + k ∧ (scan u k si sw).2 = u (scan u k si sw).1 ∧ ∀ t : Int32, si.toInt < t.toInt → t.toInt < (scan u k si sw).1.toInt → u t = 0)) ∧
    ((scan u k si sw).2 = 0 → (scan u k si sw).1.toInt = si.toInt + k ∧ sw = 0 ∧ ∀ t : Int32, si.toInt < t.toInt → t.toInt ≤ si.toInt + k → u t = 0) := by
  induction k with
  | zero =>
    intro si sw h0 h1
    refine ⟨fun _ => Or.inl ⟨rfl, rfl⟩, fun q => ⟨by show si.toInt = _; omega, q, fun t a b => by omega⟩⟩
  | succ k ih =>
    intro si sw h0 h1
    by_cases hz : sw = 0
    · have hs : scan u (k + 1) si sw = scan u k (nx_i si) (nx_w si u) := if_pos hz
      have l1 : (1 : Int32).toInt = 1 := by decide
      have a := c_iadd si 1
      have b := rng32 (si + 1)
      have e1 : (nx_i si).toInt = si.toInt + 1 := by show (si + 1).toInt = _; omega
      obtain ⟨p, q⟩ := ih (nx_i si) (nx_w si u) (by omega) (by omega)
      rw [hs]
      constructor
      · intro hne
        refine Or.inr ⟨hz, ?_⟩
        rcases p hne with ⟨c1, c2⟩ | ⟨c1, c2, c3, c4, c5⟩
        · refine ⟨by rw [c1]; omega, by rw [c1]; omega, by rw [c2, c1]; rfl, fun t t1 t2 => ?_⟩
          rw [c1] at t2; omega
        · refine ⟨by omega, by omega, c4, fun t t1 t2 => ?_⟩
          by_cases w : t.toInt = si.toInt + 1
          · have : t = nx_i si := by rw [← Int32.toInt_inj]; omega
            rw [this]; exact c1
          · exact c5 t (by omega) t2
      · intro he
        obtain ⟨c1, c2, c3⟩ := q he
        refine ⟨by omega, hz, fun t t1 t2 => ?_⟩
        by_cases w : t.toInt = si.toInt + 1
        · have : t = nx_i si := by rw [← Int32.toInt_inj]; omega
          rw [this]; exact c2
        · exact c3 t (by omega) (by omega)
    · have hs : scan u (k + 1) si sw = (si, sw) := if_neg hz
      rw [hs]
      exact ⟨fun _ => Or.inl ⟨rfl, rfl⟩, fun q => absurd q hz⟩
theorem own_shl6 (x n : Int32) (hx0 : 0 ≤ x.toInt) (hx1 : x.toInt ≤ 1000000) (hn0 : 0 ≤ n.toInt) (hn : n.toInt < 64) : ((x <<< ((6 : Int32) &&& 31)) + n).toInt = 64 * x.toInt + n.toInt := by
  have a := c_ishl x 6 6 (by decide)
  have b := rng32 (x <<< ((6 : Int32) &&& 31))
  have c := c_iadd (x <<< ((6 : Int32) &&& 31)) n
  have d := rng32 ((x <<< ((6 : Int32) &&& 31)) + n)
  omega
theorem own_wiv (fr : Int32) (h0 : 0 ≤ fr.toInt) (h1 : fr.toInt ≤ 16384) : (own_wi fr).toInt = (own_ix fr).toInt + 1 ∧ 0 ≤ (own_ix fr).toInt ∧ (own_ix fr).toInt ≤ 256 := by
  have a := own_shr6 fr
  have c := c_iadd (own_ix fr) 1
  have d := rng32 (own_ix fr + 1)
  have l1 : (1 : Int32).toInt = 1 := by decide
  have e : (own_wi fr).toInt = (own_ix fr + 1).toInt := rfl
  omega
theorem own_sc (fr nu : Int32) (h0 : 0 ≤ fr.toInt) (h1 : fr.toInt ≤ 16384) (hn : nu.toInt ≤ 16384) (h : (own_ix (own_wi fr)) < nu) : 0 ≤ (own_ix (own_wi fr)).toInt ∧ (own_ix (own_wi fr)).toInt + ((nu.toInt - 1 - (own_ix (own_wi fr)).toInt).toNat : Nat) = nu.toInt - 1 :=
  ⟨own_ix0 fr h0 h1, own_kk fr nu h0 h1 h⟩
theorem own_in (cap i : Int32) (h : 0 ≤ i.toInt ∧ i.toInt < cap.toInt) (hc : 0 ≤ cap.toInt ∧ cap.toInt ≤ 16384) : (¬ own_ix i < 0 ∧ own_ix i < own_nw cap) ∧ (¬ own_ix (own_ix i) < 0 ∧ own_ix (own_ix i) < own_nw (own_nw cap)) := by
  have a := own_shr6 i
  have b := own_shr6 (own_ix i)
  have c := own_nwv cap hc.1 hc.2
  have d := own_nwv (own_nw cap) (by omega) (by omega)
  have l : (0 : Int32).toInt = 0 := by decide
  simp only [Int32.lt_iff_toInt_lt, l]
  omega
theorem tb_sw (fr : Int32) (u : Int32 → Int64) (b : Nat) (hb : b < 64) : tb (own_sw fr u) b = (tb (u (own_ix (own_wi fr))) b && decide (md (own_wi fr) ≤ b)) := by
  unfold own_sw; rw [tb_and, tb_msk _ b hb]
theorem tb_wd (fr : Int32) (w : Int32 → Int64) (b : Nat) (hb : b < 64) : tb (own_wd fr w) b = (tb (w (own_ix fr)) b && decide (md fr ≤ b)) := by
  unfold own_wd; rw [tb_and, tb_msk _ b hb]
theorem own_first (cap : Int32) (hc0 : 1 ≤ cap.toInt) (hc1 : cap.toInt ≤ 16384) (u : Int32 → Int64) (fr : Int32) (h0 : 0 ≤ fr.toInt) (h1 : fr.toInt ≤ 16384) (hlt : (own_ix (own_wi fr)) < own_nw (own_nw cap)) :
    ((scan u ((own_nw (own_nw cap)).toInt - 1 - (own_ix (own_wi fr)).toInt).toNat (own_ix (own_wi fr)) (own_sw fr u)).2 = 0 → (scan u ((own_nw (own_nw cap)).toInt - 1 - (own_ix (own_wi fr)).toInt).toNat (own_ix (own_wi fr)) (own_sw fr u)).1.toInt = (own_nw (own_nw cap)).toInt - 1 ∧ ∀ k : Int32, (own_wi fr).toInt ≤ k.toInt → k.toInt < (own_nw cap).toInt → mem u k = false) ∧
    (¬ (scan u ((own_nw (own_nw cap)).toInt - 1 - (own_ix (own_wi fr)).toInt).toNat (own_ix (own_wi fr)) (own_sw fr u)).2 = 0 → (own_wi fr).toInt ≤ (own_fi fr (own_nw (own_nw cap)) u).toInt ∧ (own_ix (own_fi fr (own_nw (own_nw cap)) u)).toInt < (own_nw (own_nw cap)).toInt ∧ mem u (own_fi fr (own_nw (own_nw cap)) u) = true ∧ ∀ k : Int32, (own_wi fr).toInt ≤ k.toInt → k.toInt < (own_fi fr (own_nw (own_nw cap)) u).toInt → mem u k = false) := by
  have nv := own_nwv cap (by omega) hc1
  have uv := own_nwv (own_nw cap) (by omega) (by omega)
  obtain ⟨wv, ix0, ix1⟩ := own_wiv fr h0 h1
  obtain ⟨s0, kv⟩ := own_sc fr (own_nw (own_nw cap)) h0 h1 (by omega) hlt
  have sp := scan_spec u ((own_nw (own_nw cap)).toInt - 1 - (own_ix (own_wi fr)).toInt).toNat (own_ix (own_wi fr)) (own_sw fr u) s0 (by omega)
  have wsp := own_split (own_wi fr) (by omega)
  have fidef : own_fi fr (own_nw (own_nw cap)) u = (((scan u ((own_nw (own_nw cap)).toInt - 1 - (own_ix (own_wi fr)).toInt).toNat (own_ix (own_wi fr)) (own_sw fr u)).1) <<< ((6 : Int32) &&& 31)) + (Fntzl (scan u ((own_nw (own_nw cap)).toInt - 1 - (own_ix (own_wi fr)).toInt).toNat (own_ix (own_wi fr)) (own_sw fr u)).2) := rfl
  generalize scan u ((own_nw (own_nw cap)).toInt - 1 - (own_ix (own_wi fr)).toInt).toNat (own_ix (own_wi fr)) (own_sw fr u) = r at *
  obtain ⟨p, q⟩ := sp
  have low : ∀ k : Int32, (own_wi fr).toInt ≤ k.toInt → own_ix k = own_ix (own_wi fr) → own_sw fr u = 0 → mem u k = false := fun k hk he hz => by
    have ks := own_split k (by omega)
    have m := tb_sw fr u (md k) (md_lt k)
    rw [hz, tb_zero] at m
    have d : decide (md (own_wi fr) ≤ md k) = true := decide_eq_true (by rw [he] at ks; omega)
    rw [d, Bool.and_true] at m
    unfold mem; rw [he]; exact m.symm
  constructor
  · intro hz
    obtain ⟨c1, c2, c3⟩ := q hz
    refine ⟨by omega, fun k k0 k1 => ?_⟩
    have ks := own_split k (by omega)
    have ml := md_lt k
    by_cases e : (own_ix k).toInt = (own_ix (own_wi fr)).toInt
    · exact low k k0 (own_ixI _ _ e) c2
    · have mw := md_lt (own_wi fr)
      unfold mem
      rw [c3 (own_ix k) (by omega) (by omega), tb_zero]
  · intro hz
    obtain ⟨n, n1, n2, n3, n4⟩ := ntz64 r.2 hz
    have rb : (own_ix (own_wi fr)).toInt ≤ r.1.toInt ∧ r.1.toInt ≤ (own_nw (own_nw cap)).toInt - 1 := by
      rcases p hz with ⟨c1, -⟩ | ⟨-, c2, c3, -, -⟩
      · rw [c1]; omega
      · omega
    have fv := own_shl6 r.1 (Fntzl r.2) (by omega) (by omega) (by omega) (by omega)
    rw [← fidef] at fv
    have fs := own_split (own_fi fr (own_nw (own_nw cap)) u) (by omega)
    have fm := md_lt (own_fi fr (own_nw (own_nw cap)) u)
    have fx : (own_ix (own_fi fr (own_nw (own_nw cap)) u)).toInt = r.1.toInt := by omega
    have fd : md (own_fi fr (own_nw (own_nw cap)) u) = n := by omega
    have mw := md_lt (own_wi fr)
    rcases p hz with ⟨c1, c2⟩ | ⟨c1, c2, c3, c4, c5⟩
    · have m := tb_sw fr u n n1
      rw [← c2, n3] at m
      have m1 : tb (u (own_ix (own_wi fr))) n = true := by
        cases q1 : tb (u (own_ix (own_wi fr))) n
        · rw [q1] at m; cases m
        · rfl
      have m2 : md (own_wi fr) ≤ n := by
        rw [m1, Bool.true_and] at m
        exact of_decide_eq_true m.symm
      rw [c1] at fx fv
      refine ⟨by omega, by omega, by unfold mem; rw [own_ixI _ _ fx, fd]; exact m1, fun k k0 k1 => ?_⟩
      have ks := own_split k (by omega)
      have ml := md_lt k
      have kx : (own_ix k).toInt = (own_ix (own_wi fr)).toInt := by omega
      have t := tb_sw fr u (md k) (md_lt k)
      rw [← c2, n4 (md k) (by omega), decide_eq_true (by omega : md (own_wi fr) ≤ md k), Bool.and_true] at t
      unfold mem; rw [own_ixI _ _ kx]; exact t.symm
    · refine ⟨by omega, by omega, by unfold mem; rw [own_ixI _ _ fx, fd, ← c4]; exact n3, fun k k0 k1 => ?_⟩
      have ks := own_split k (by omega)
      have ml := md_lt k
      by_cases e : (own_ix k).toInt = (own_ix (own_wi fr)).toInt
      · exact low k k0 (own_ixI _ _ e) c1
      · by_cases e2 : (own_ix k).toInt = r.1.toInt
        · unfold mem
          rw [own_ixI _ _ e2, ← c4]; exact n4 _ (by omega)
        · unfold mem
          rw [c5 (own_ix k) (by omega) (by omega), tb_zero]
theorem own_next (cap : Int32) (hc0 : 1 ≤ cap.toInt) (hc1 : cap.toInt ≤ 16384) (w u : Int32 → Int64) (sz : Int32) (I : Inv cap w u) (hs : ∀ j : Int32, 0 ≤ j.toInt → j.toInt < cap.toInt → mem w j = true → sz ≠ 0) (fr : Int32) (h0 : 0 ≤ fr.toInt) (h1 : fr.toInt ≤ cap.toInt) :
    (Fnext fr cap sz w (own_nw (own_nw cap)) u = -1 ∧ ∀ j : Int32, fr.toInt ≤ j.toInt → j.toInt < cap.toInt → mem w j = false) ∨
    (fr.toInt ≤ (Fnext fr cap sz w (own_nw (own_nw cap)) u).toInt ∧ (Fnext fr cap sz w (own_nw (own_nw cap)) u).toInt < cap.toInt ∧ mem w (Fnext fr cap sz w (own_nw (own_nw cap)) u) = true ∧ ∀ j : Int32, fr.toInt ≤ j.toInt → j.toInt < (Fnext fr cap sz w (own_nw (own_nw cap)) u).toInt → mem w j = false) := by
  have nv := own_nwv cap (by omega) hc1
  have uv := own_nwv (own_nw cap) (by omega) (by omega)
  obtain ⟨wv, ix0, ix1⟩ := own_wiv fr h0 (by omega)
  obtain ⟨I1, I2, I3⟩ := I
  have frs := own_split fr h0
  have frm := md_lt fr
  unfold Fnext
  by_cases q1 : fr < cap
  rotate_left
  · rw [if_neg q1]
    rw [Int32.lt_iff_toInt_lt] at q1
    exact Or.inl ⟨rfl, fun j a b => by omega⟩
  have q1' := q1
  rw [Int32.lt_iff_toInt_lt] at q1'
  rw [if_pos q1]
  by_cases q2 : sz = 0
  · rw [if_pos q2]
    refine Or.inl ⟨rfl, fun j a b => ?_⟩
    cases m : mem w j
    · rfl
    · exact absurd q2 (hs j (by omega) b m)
  rw [if_neg q2]
  by_cases q3 : own_wd fr w = 0
  rotate_left
  · rw [if_neg q3]
    obtain ⟨n, n1, n2, n3, n4⟩ := ntz64 _ q3
    have rv := own_shl6 (own_ix fr) (Fntzl (own_wd fr w)) ix0 (by omega) (by omega) (by omega)
    have m := tb_wd fr w n n1
    rw [n3] at m
    have m1 : tb (w (own_ix fr)) n = true := by
      cases q4 : tb (w (own_ix fr)) n
      · rw [q4] at m; cases m
      · rfl
    have m2 : md fr ≤ n := by
      rw [m1, Bool.true_and] at m
      exact of_decide_eq_true m.symm
    generalize ((own_ix fr) <<< ((6 : Int32) &&& 31)) + (Fntzl (own_wd fr w)) = r at *
    have rs := own_split r (by omega)
    have rm := md_lt r
    have rx : (own_ix r).toInt = (own_ix fr).toInt := by omega
    have rd : md r = n := by omega
    have mr : mem w r = true := by unfold mem; rw [own_ixI _ _ rx, rd]; exact m1
    refine Or.inr ⟨by omega, I2 r (by omega) (by omega) mr, mr, fun j a b => ?_⟩
    have js := own_split j (by omega)
    have jm := md_lt j
    have jx : (own_ix j).toInt = (own_ix fr).toInt := by omega
    have t := tb_wd fr w (md j) jm
    rw [n4 (md j) (by omega), decide_eq_true (by omega : md fr ≤ md j), Bool.and_true] at t
    unfold mem; rw [own_ixI _ _ jx]; exact t.symm
  rw [if_pos q3]
  have low : ∀ j : Int32, fr.toInt ≤ j.toInt → own_ix j = own_ix fr → mem w j = false := fun j hj he => by
    have js := own_split j (by omega)
    have m := tb_wd fr w (md j) (md_lt j)
    rw [q3, tb_zero] at m
    have d : decide (md fr ≤ md j) = true := decide_eq_true (by rw [he] at js; omega)
    rw [d, Bool.and_true] at m
    unfold mem; rw [he]; exact m.symm
  have wz : ∀ k : Int32, 0 ≤ k.toInt → k.toInt < (own_nw cap).toInt → mem u k = false → w k = 0 := fun k a b c => by
    refine Classical.byContradiction fun q => ?_
    rw [(I1 k a b).mpr q] at c; cases c
  have wsp := own_split (own_wi fr) (by omega)
  have wm := md_lt (own_wi fr)
  by_cases q4 : (own_ix (own_wi fr)) < own_nw (own_nw cap)
  rotate_left
  · rw [if_neg q4]
    rw [Int32.lt_iff_toInt_lt] at q4
    refine Or.inl ⟨rfl, fun j a b => ?_⟩
    have js := own_split j (by omega)
    have jm := md_lt j
    exact low j a (own_ixI _ _ (by omega))
  rw [if_pos q4]
  obtain ⟨F1, F2⟩ := own_first cap hc0 hc1 u fr h0 (by omega) q4
  by_cases q5 : (scan u ((own_nw (own_nw cap)).toInt - 1 - (own_ix (own_wi fr)).toInt).toNat (own_ix (own_wi fr)) (own_sw fr u)).2 = 0
  · rw [if_pos q5]
    refine Or.inl ⟨rfl, fun j a b => ?_⟩
    have js := own_split j (by omega)
    have jm := md_lt j
    by_cases e : (own_ix j).toInt = (own_ix fr).toInt
    · exact low j a (own_ixI _ _ e)
    · have := wz (own_ix j) (by omega) (by omega) ((F1 q5).2 (own_ix j) (by omega) (by omega))
      unfold mem; rw [this, tb_zero]
  · rw [if_neg q5]
    obtain ⟨f1, f2, f3, f4⟩ := F2 q5
    generalize own_fi fr (own_nw (own_nw cap)) u = fi at *
    have f5 := I3 fi (by omega) f2 f3
    have f6 : w fi ≠ 0 := (I1 fi (by omega) f5).mp f3
    obtain ⟨n, n1, n2, n3, n4⟩ := ntz64 _ f6
    have rv := own_shl6 fi (Fntzl (w fi)) (by omega) (by omega) (by omega) (by omega)
    generalize (fi <<< ((6 : Int32) &&& 31)) + (Fntzl (w fi)) = r at *
    have rs := own_split r (by omega)
    have rm := md_lt r
    have rx : (own_ix r).toInt = fi.toInt := by omega
    have rd : md r = n := by omega
    have mr : mem w r = true := by unfold mem; rw [own_ixI _ _ rx, rd]; exact n3
    refine Or.inr ⟨by omega, I2 r (by omega) (by omega) mr, mr, fun j a b => ?_⟩
    have js := own_split j (by omega)
    have jm := md_lt j
    by_cases e : (own_ix j).toInt = (own_ix fr).toInt
    · exact low j a (own_ixI _ _ e)
    · by_cases e2 : (own_ix j).toInt = fi.toInt
      · unfold mem
        rw [own_ixI _ _ e2]; exact n4 _ (by omega)
      · have := wz (own_ix j) (by omega) (by omega) (f4 (own_ix j) (by omega) (by omega))
        unfold mem; rw [this, tb_zero]
theorem inv_nil (cap : Int32) : Inv cap (fun _ => 0) (fun _ => 0) := by
  have z : ∀ k : Int32, mem (fun _ => 0) k = false := fun k => tb_zero _
  refine ⟨fun k _ _ => ⟨fun h => ?_, fun h => absurd rfl h⟩, fun j _ _ h => ?_, fun k _ _ h => ?_⟩ <;> (rw [z] at h; cases h)
theorem mem_or {i k : Int32} (hi : 0 ≤ i.toInt) (hk : 0 ≤ k.toInt) (u : Int32 → Int64) : mem (upA u (own_ix i) ((u (own_ix i)) ||| own_bit i)) k = (mem u k || decide (k = i)) := by
  unfold mem
  by_cases q : own_ix k = own_ix i
  · rw [q, upA_hit, tb_or, tb_bit i _ (md_lt k)]
    congr 1
    by_cases r : md k = md i
    · rw [decide_eq_true r, decide_eq_true (own_inj hk hi q r)]
    · rw [decide_eq_false r, decide_eq_false fun e => r (by rw [e])]
  · rw [upA_miss q, decide_eq_false fun e => q (by rw [e]), Bool.or_false]
theorem inv_add (cap i : Int32) (hc0 : 1 ≤ cap.toInt) (hc1 : cap.toInt ≤ 16384) (hi : 0 ≤ i.toInt) (hic : i.toInt < cap.toInt) (w u : Int32 → Int64) (I : Inv cap w u) : Inv cap (Fadd_w i w) (Fadd_u i w u) := by
  have nv := own_nwv cap (by omega) hc1
  have is := own_split i hi
  have im := md_lt i
  obtain ⟨I1, I2, I3⟩ := I
  by_cases h : w (own_ix i) &&& own_bit i = 0
  · have ew : Fadd_w i w = upA w (own_ix i) ((w (own_ix i)) ||| own_bit i) := if_pos h
    have eu : Fadd_u i w u = upA u (own_ix (own_ix i)) ((u (own_ix (own_ix i))) ||| own_bit (own_ix i)) := if_pos h
    refine ⟨fun k k0 k1 => ?_, fun j j0 j1 m => ?_, fun k k0 k1 m => ?_⟩
    · rw [eu, mem_or (by omega) k0, ew]
      by_cases e : k = own_ix i
      · rw [e, upA_hit, decide_eq_true rfl, Bool.or_true]
        refine ⟨fun _ => (w_ne _).mpr ⟨md i, im, ?_⟩, fun _ => rfl⟩
        rw [tb_or, tb_bit i _ im, decide_eq_true rfl, Bool.or_true]
      · rw [upA_miss e, decide_eq_false e, Bool.or_false]; exact I1 k k0 k1
    · rw [mem_add hi j0] at m
      by_cases e : j = i
      · rw [e]; exact hic
      · rw [decide_eq_false e, Bool.or_false] at m; exact I2 j j0 j1 m
    · rw [eu, mem_or (by omega) k0] at m
      by_cases e : k = own_ix i
      · rw [e]; omega
      · rw [decide_eq_false e, Bool.or_false] at m; exact I3 k k0 k1 m
  · have ew : Fadd_w i w = w := if_neg h
    have eu : Fadd_u i w u = u := if_neg h
    rw [ew, eu]; exact ⟨I1, I2, I3⟩
theorem own_addr (i : Int32) (w : Int32 → Int64) : Fadd i w = !mem w i := by
  unfold Fadd mem
  by_cases h : w (own_ix i) &&& own_bit i = 0
  · rw [if_pos h, (and_bit _ _).mp h]; rfl
  · rw [if_neg h]
    cases q : tb (w (own_ix i)) (md i)
    · exact absurd ((and_bit _ _).mpr q) h
    · rfl
theorem own_addsz (i sz : Int32) (w : Int32 → Int64) : Fadd_sz i sz w = if mem w i = true then sz else sz + 1 := by
  unfold Fadd_sz mem
  by_cases h : w (own_ix i) &&& own_bit i = 0
  · rw [if_pos h, (and_bit _ _).mp h]; rfl
  · rw [if_neg h]
    cases q : tb (w (own_ix i)) (md i)
    · exact absurd ((and_bit _ _).mpr q) h
    · rfl
theorem own_nprem (cap : Int32) (hc0 : 1 ≤ cap.toInt) (hc1 : cap.toInt ≤ 16384) (w u : Int32 → Int64) (I : Inv cap w u) (fr : Int32) (h0 : 0 ≤ fr.toInt) (h1 : fr.toInt ≤ cap.toInt) :
    0 ≤ fr.toInt ∧ fr.toInt ≤ 16384 ∧ (own_nw (own_nw cap)).toInt ≤ 16384 ∧ (fr < cap → ¬ (own_ix fr) < 0 ∧ (own_ix fr) < own_nw cap) ∧ ¬ (own_ix (own_wi fr)) < 0 ∧
    ((scan u ((own_nw (own_nw cap)).toInt - 1 - (own_ix (own_wi fr)).toInt).toNat (own_ix (own_wi fr)) (own_sw fr u)).2 = 0 → (own_ix (own_wi fr)) < own_nw (own_nw cap) → ((scan u ((own_nw (own_nw cap)).toInt - 1 - (own_ix (own_wi fr)).toInt).toNat (own_ix (own_wi fr)) (own_sw fr u)).1 + (1 : Int32)) = own_nw (own_nw cap)) ∧
    (¬ ((scan u ((own_nw (own_nw cap)).toInt - 1 - (own_ix (own_wi fr)).toInt).toNat (own_ix (own_wi fr)) (own_sw fr u)).2 = 0) → (own_ix (own_wi fr)) < own_nw (own_nw cap) → ¬ (own_fi fr (own_nw (own_nw cap)) u) < 0 ∧ (own_fi fr (own_nw (own_nw cap)) u) < own_nw cap) := by
  have nv := own_nwv cap (by omega) hc1
  have uv := own_nwv (own_nw cap) (by omega) (by omega)
  obtain ⟨wv, ix0, ix1⟩ := own_wiv fr h0 (by omega)
  have l0 : (0 : Int32).toInt = 0 := by decide
  have l1 : (1 : Int32).toInt = 1 := by decide
  refine ⟨h0, by omega, by omega, fun q => ?_, ?_, fun q1 q2 => ?_, fun q1 q2 => ?_⟩
  · rw [Int32.lt_iff_toInt_lt] at q
    exact (own_in cap fr ⟨h0, q⟩ ⟨by omega, hc1⟩).1
  · rw [Int32.lt_iff_toInt_lt, l0]
    have := own_ix0 fr h0 (by omega)
    omega
  · have e := ((own_first cap hc0 hc1 u fr h0 (by omega) q2).1 q1).1
    generalize (scan u ((own_nw (own_nw cap)).toInt - 1 - (own_ix (own_wi fr)).toInt).toNat (own_ix (own_wi fr)) (own_sw fr u)).1 = x at *
    have a := c_iadd x 1
    have b := rng32 (x + 1)
    rw [← Int32.toInt_inj]
    omega
  · obtain ⟨f1, f2, f3, f4⟩ := (own_first cap hc0 hc1 u fr h0 (by omega) q2).2 q1
    have f5 := I.2.2 _ (by omega) f2 f3
    rw [Int32.lt_iff_toInt_lt, Int32.lt_iff_toInt_lt, l0]
    omega
theorem pn_0 : plainName "com/example/cutline/cutline/IndexSetAddPinLaw" = true := by first | (simp [plainName, overriddenIn]; done) | decide +kernel
theorem pd_0 : parseMethodDescriptor "(II)I" = some ⟨[.int, .int], some .int⟩ := by decide +kernel
theorem pd_1 : parseMethodDescriptor "(I)V" = some ⟨[.int], none⟩ := by decide +kernel
theorem pd_3 : parseMethodDescriptor "(I)Z" = some ⟨[.int], some .boolean⟩ := by decide +kernel
theorem pd_4 : parseMethodDescriptor "()I" = some ⟨[], some .int⟩ := by decide +kernel
theorem ef_0 (m : MethodId) (x0 : Int32) (x1 : Int32) (x2 : Int32) (x3 : Int32) (x4 : Int32) : entryFrame m #[(.int x0), (.int x1), (.int x2), (.int x3), (.int x4)] maxLocals = mkF m 0 #[.val (.int x0), .val (.int x1), .val (.int x2), .val (.int x3), .val (.int x4), .unset, .unset, .unset, .unset, .unset, .unset, .unset, .unset, .unset, .unset, .unset, .unset, .unset, .unset, .unset, .unset, .unset, .unset, .unset] [] := by first | (simp [entryFrame, mkF, argsToLocals, Value.category, maxLocals]; done) | rfl
def v_cap (ci : Int32) : Int32 := ((1 : Int32) + (ci &&& (16383 : Int32)))
def v_i (ai : Int32) (ci : Int32) : Int32 := ((ai &&& (2147483647 : Int32)) % (v_cap ci))
def v_mode (ei : Int32) : Int32 := (ei &&& (3 : Int32))
def v_jm (ai : Int32) (bi : Int32) (ci : Int32) : Int32 := (Fmin ((v_cap ci) - (1 : Int32)) (((v_i ai ci) &&& (-64 : Int32)) ||| (bi &&& (63 : Int32))))
def v_jr (bi : Int32) (ci : Int32) : Int32 := ((bi &&& (2147483647 : Int32)) % (v_cap ci))
def v_j (ai : Int32) (bi : Int32) (ci : Int32) (ei : Int32) : Int32 := (if (v_mode ei) = (1 : Int32) then (v_i ai ci) else (if (v_mode ei) = (2 : Int32) then (v_jm ai bi ci) else (v_jr bi ci)))
def v_km (ei : Int32) : Int32 := (((ei.toUInt32 >>> ((2 : Int32) &&& 31).toUInt32).toInt32) &&& (3 : Int32))
def v_kr (ci : Int32) (di : Int32) : Int32 := ((di &&& (2147483647 : Int32)) % (v_cap ci))
def v_k (ai : Int32) (bi : Int32) (ci : Int32) (di : Int32) (ei : Int32) : Int32 := (if (v_km ei) = (1 : Int32) then (v_i ai ci) else (if (v_km ei) = (2 : Int32) then (v_j ai bi ci ei) else (v_kr ci di)))
def v_lo (ai : Int32) (bi : Int32) (ci : Int32) (ei : Int32) : Int32 := (Fmin (v_i ai ci) (v_j ai bi ci ei))
def v_hi (ai : Int32) (bi : Int32) (ci : Int32) (ei : Int32) : Int32 := (Fmax (v_i ai ci) (v_j ai bi ci ei))
def v_s1 (ai : Int32) (ci : Int32) : Int32 := (Fadd_sz (v_i ai ci) (0 : Int32) (fun _ => 0))
def v_w1 (ai : Int32) (ci : Int32) : Int32 → Int64 := (Fadd_w (v_i ai ci) (fun _ => 0))
def v_u1 (ai : Int32) (ci : Int32) : Int32 → Int64 := (Fadd_u (v_i ai ci) (fun _ => 0) (fun _ => 0))
def v_r1 (ai : Int32) (ci : Int32) : Bool := (Fadd (v_i ai ci) (fun _ => 0))
def v_s2 (ai : Int32) (bi : Int32) (ci : Int32) (ei : Int32) : Int32 := (Fadd_sz (v_j ai bi ci ei) (v_s1 ai ci) (v_w1 ai ci))
def v_w2 (ai : Int32) (bi : Int32) (ci : Int32) (ei : Int32) : Int32 → Int64 := (Fadd_w (v_j ai bi ci ei) (v_w1 ai ci))
def v_u2 (ai : Int32) (bi : Int32) (ci : Int32) (ei : Int32) : Int32 → Int64 := (Fadd_u (v_j ai bi ci ei) (v_w1 ai ci) (v_u1 ai ci))
def v_r2 (ai : Int32) (bi : Int32) (ci : Int32) (ei : Int32) : Bool := (Fadd (v_j ai bi ci ei) (v_w1 ai ci))
def v_s3 (ai : Int32) (bi : Int32) (ci : Int32) (ei : Int32) : Int32 := (Fadd_sz (v_i ai ci) (v_s2 ai bi ci ei) (v_w2 ai bi ci ei))
def v_w3 (ai : Int32) (bi : Int32) (ci : Int32) (ei : Int32) : Int32 → Int64 := (Fadd_w (v_i ai ci) (v_w2 ai bi ci ei))
def v_u3 (ai : Int32) (bi : Int32) (ci : Int32) (ei : Int32) : Int32 → Int64 := (Fadd_u (v_i ai ci) (v_w2 ai bi ci ei) (v_u2 ai bi ci ei))
def v_r3 (ai : Int32) (bi : Int32) (ci : Int32) (ei : Int32) : Bool := (Fadd (v_i ai ci) (v_w2 ai bi ci ei))
def v_sz (ai : Int32) (bi : Int32) (ci : Int32) (ei : Int32) : Int32 := (Fsize (v_s3 ai bi ci ei))
def v_n0 (ai : Int32) (bi : Int32) (ci : Int32) (ei : Int32) : Int32 := (Fnext (0 : Int32) (v_cap ci) (v_s3 ai bi ci ei) (v_w3 ai bi ci ei) (own_nw (own_nw (v_cap ci))) (v_u3 ai bi ci ei))
def v_lo1 (ai : Int32) (bi : Int32) (ci : Int32) (ei : Int32) : Int32 := ((v_lo ai bi ci ei) + (1 : Int32))
def v_n1 (ai : Int32) (bi : Int32) (ci : Int32) (ei : Int32) : Int32 := (Fnext (v_lo1 ai bi ci ei) (v_cap ci) (v_s3 ai bi ci ei) (v_w3 ai bi ci ei) (own_nw (own_nw (v_cap ci))) (v_u3 ai bi ci ei))
def v_ck (ai : Int32) (bi : Int32) (ci : Int32) (di : Int32) (ei : Int32) : Bool := (Fcon (v_k ai bi ci di ei) (v_w3 ai bi ci ei))
def v_es (ai : Int32) (bi : Int32) (ci : Int32) (ei : Int32) : Int32 := (if (v_i ai ci) = (v_j ai bi ci ei) then (1 : Int32) else (2 : Int32))
def v_en (ai : Int32) (bi : Int32) (ci : Int32) (ei : Int32) : Int32 := (if (v_i ai ci) = (v_j ai bi ci ei) then (-1 : Int32) else (v_hi ai bi ci ei))
def v_ec (ai : Int32) (bi : Int32) (ci : Int32) (di : Int32) (ei : Int32) : Bool := (if (v_k ai bi ci di ei) = (v_i ai ci) then true else (if (v_k ai bi ci di ei) = (v_j ai bi ci ei) then true else false))
def nd0_280_41 (ai : Int32) (bi : Int32) (ci : Int32) (di : Int32) (ei : Int32) : Bool := (if (v_r3 ai bi ci ei) = true then false else (if (v_sz ai bi ci ei) = (v_es ai bi ci ei) then (if (v_n0 ai bi ci ei) = (v_lo ai bi ci ei) then (if (v_n1 ai bi ci ei) = (v_en ai bi ci ei) then (if (b2i (v_ck ai bi ci di ei)) = (b2i (v_ec ai bi ci di ei)) then true else false) else false) else false) else false))
def lawE1 (ai : Int32) (bi : Int32) (ci : Int32) (di : Int32) (ei : Int32) : Bool := (if (v_r1 ai ci) = true then (if (v_i ai ci) = (v_j ai bi ci ei) then (if (v_r2 ai bi ci ei) = true then false else (nd0_280_41 ai bi ci di ei)) else (if (b2i (v_r2 ai bi ci ei)) = (1 : Int32) then (nd0_280_41 ai bi ci di ei) else false)) else false)
theorem own_vc1 (ci : Int32) : 1 ≤ (v_cap ci).toInt ∧ (v_cap ci).toInt ≤ 16384 := by
  have a := c_mask ci 16383 14 (by decide) (by decide)
  have b := c_iadd 1 (ci &&& 16383)
  have c := rng32 (1 + (ci &&& 16383))
  have l : (1 : Int32).toInt = 1 := by decide
  show 1 ≤ (1 + (ci &&& 16383)).toInt ∧ (1 + (ci &&& 16383)).toInt ≤ 16384
  omega
theorem own_vcap (ci : Int32) : 0 ≤ (v_cap ci).toInt ∧ (v_cap ci).toInt ≤ 16384 := by have := own_vc1 ci; omega
theorem own_nz (ci : Int32) : ¬ (v_cap ci = 0) := fun h => by
  have a := (own_vc1 ci).1
  rw [h] at a
  exact absurd a (by decide)
theorem own_rem (y c : Int32) (h : 1 ≤ c.toInt) : 0 ≤ ((y &&& 2147483647) % c).toInt ∧ ((y &&& 2147483647) % c).toInt < c.toInt := by
  have a := c_mask y 2147483647 31 (by decide) (by decide)
  have b := (c_iremV (y &&& 2147483647) c).1 (by omega) (by omega)
  exact ⟨b.1, b.2.1⟩
theorem own_vi (ai ci : Int32) : 0 ≤ (v_i ai ci).toInt ∧ (v_i ai ci).toInt < (v_cap ci).toInt := own_rem ai _ (own_vc1 ci).1
theorem own_min (a b : Int32) : (Fmin a b).toInt ≤ a.toInt ∧ (Fmin a b).toInt ≤ b.toInt ∧ (Fmin a b = a ∨ Fmin a b = b) := by
  unfold Fmin
  by_cases h : b < a
  · rw [if_pos h]; rw [Int32.lt_iff_toInt_lt] at h; exact ⟨by omega, by omega, Or.inr rfl⟩
  · rw [if_neg h]; rw [Int32.lt_iff_toInt_lt] at h; exact ⟨by omega, by omega, Or.inl rfl⟩
theorem own_max (a b : Int32) : a.toInt ≤ (Fmax a b).toInt ∧ b.toInt ≤ (Fmax a b).toInt ∧ (Fmax a b = a ∨ Fmax a b = b) := by
  unfold Fmax
  by_cases h : a < b
  · rw [if_pos h]; rw [Int32.lt_iff_toInt_lt] at h; exact ⟨by omega, by omega, Or.inr rfl⟩
  · rw [if_neg h]; rw [Int32.lt_iff_toInt_lt] at h; exact ⟨by omega, by omega, Or.inl rfl⟩
theorem own_vj (ai bi ci ei : Int32) : 0 ≤ (v_j ai bi ci ei).toInt ∧ (v_j ai bi ci ei).toInt < (v_cap ci).toInt := by
  unfold v_j
  split
  · exact own_vi ai ci
  · split
    · obtain ⟨c0, c1⟩ := own_vc1 ci
      have iv := own_vi ai ci
      have l1 : (1 : Int32).toInt = 1 := by decide
      have a := c_isub (v_cap ci) 1
      have b := rng32 (v_cap ci - 1)
      have d := (c_andS (v_i ai ci) (-64)).2.1 iv.1
      have f := c_mask bi 63 6 (by decide) (by decide)
      have g := (c_orS (v_i ai ci &&& -64) (bi &&& 63)).1 d (by omega)
      have m := own_min (v_cap ci - 1) ((v_i ai ci &&& -64) ||| (bi &&& 63))
      show 0 ≤ (Fmin (v_cap ci - 1) ((v_i ai ci &&& -64) ||| (bi &&& 63))).toInt ∧ (Fmin (v_cap ci - 1) ((v_i ai ci &&& -64) ||| (bi &&& 63))).toInt < (v_cap ci).toInt
      obtain ⟨m1, m2, m3⟩ := m
      rcases m3 with m3 | m3
      · rw [m3] at m1 m2 ⊢; omega
      · rw [m3] at m1 m2 ⊢; omega
    · exact own_rem bi _ (own_vc1 ci).1
theorem own_vk (ai bi ci di ei : Int32) : 0 ≤ (v_k ai bi ci di ei).toInt ∧ (v_k ai bi ci di ei).toInt < (v_cap ci).toInt := by
  unfold v_k
  split
  · exact own_vi ai ci
  · split
    · exact own_vj ai bi ci ei
    · exact own_rem di _ (own_vc1 ci).1
theorem own_m1 (ai ci x : Int32) (hx : 0 ≤ x.toInt) : mem (v_w1 ai ci) x = decide (x = v_i ai ci) := by
  unfold v_w1
  rw [mem_add (own_vi ai ci).1 hx, show mem (fun _ => 0) x = false from tb_zero _, Bool.false_or]
theorem own_m2 (ai bi ci ei x : Int32) (hx : 0 ≤ x.toInt) : mem (v_w2 ai bi ci ei) x = (decide (x = v_i ai ci) || decide (x = v_j ai bi ci ei)) := by
  unfold v_w2
  rw [mem_add (own_vj ai bi ci ei).1 hx, own_m1 ai ci x hx]
theorem own_m3 (ai bi ci ei x : Int32) (hx : 0 ≤ x.toInt) : mem (v_w3 ai bi ci ei) x = (decide (x = v_i ai ci) || decide (x = v_j ai bi ci ei)) := by
  unfold v_w3
  rw [mem_add (own_vi ai ci).1 hx, own_m2 ai bi ci ei x hx]
  cases decide (x = v_i ai ci) <;> cases decide (x = v_j ai bi ci ei) <;> rfl
theorem own_inv3 (ai bi ci ei : Int32) : Inv (v_cap ci) (v_w3 ai bi ci ei) (v_u3 ai bi ci ei) := by
  obtain ⟨c0, c1⟩ := own_vc1 ci
  have i := own_vi ai ci
  have j := own_vj ai bi ci ei
  exact inv_add _ _ c0 c1 i.1 i.2 _ _ (inv_add _ _ c0 c1 j.1 j.2 _ _ (inv_add _ _ c0 c1 i.1 i.2 _ _ (inv_nil _)))
theorem own_s3 (ai bi ci ei : Int32) : v_s3 ai bi ci ei = if v_i ai ci = v_j ai bi ci ei then 1 else 2 := by
  have i := (own_vi ai ci).1
  have j := (own_vj ai bi ci ei).1
  have e1 : v_s1 ai ci = 1 := by
    unfold v_s1
    rw [own_addsz, show mem (fun _ => 0) (v_i ai ci) = false from tb_zero _]; decide
  unfold v_s3
  rw [own_addsz, own_m2 ai bi ci ei _ i, decide_eq_true rfl, Bool.true_or, if_pos rfl]
  unfold v_s2
  rw [own_addsz, own_m1 ai ci _ j, e1]
  by_cases q : v_i ai ci = v_j ai bi ci ei
  · rw [if_pos q, decide_eq_true q.symm, if_pos rfl]
  · rw [if_neg q, decide_eq_false (fun w => q w.symm), if_neg (by decide)]; decide
theorem own_lov (ai bi ci ei : Int32) : 0 ≤ (v_lo ai bi ci ei).toInt ∧ (v_lo ai bi ci ei).toInt < (v_cap ci).toInt ∧ (v_lo1 ai bi ci ei).toInt = (v_lo ai bi ci ei).toInt + 1 := by
  have i := own_vi ai ci
  have j := own_vj ai bi ci ei
  have c := own_vc1 ci
  obtain ⟨m1, m2, m3⟩ := own_min (v_i ai ci) (v_j ai bi ci ei)
  have e : v_lo ai bi ci ei = Fmin (v_i ai ci) (v_j ai bi ci ei) := rfl
  rw [← e] at m1 m2 m3
  have a := c_iadd (v_lo ai bi ci ei) 1
  have b := rng32 (v_lo ai bi ci ei + 1)
  have l1 : (1 : Int32).toInt = 1 := by decide
  have e1 : (v_lo1 ai bi ci ei).toInt = (v_lo ai bi ci ei + 1).toInt := rfl
  have h0 : 0 ≤ (v_lo ai bi ci ei).toInt := by rcases m3 with m3 | m3 <;> rw [m3] <;> omega
  exact ⟨h0, by omega, by omega⟩
def own_np0 (ai bi ci ei : Int32) := own_nprem (v_cap ci) (own_vc1 ci).1 (own_vc1 ci).2 (v_w3 ai bi ci ei) (v_u3 ai bi ci ei) (own_inv3 ai bi ci ei) (0 : Int32) (by decide) (by have := own_vc1 ci; have l : (0 : Int32).toInt = 0 := (by decide); omega)
def own_np1 (ai bi ci ei : Int32) := own_nprem (v_cap ci) (own_vc1 ci).1 (own_vc1 ci).2 (v_w3 ai bi ci ei) (v_u3 ai bi ci ei) (own_inv3 ai bi ci ei) (v_lo1 ai bi ci ei) (by have := own_lov ai bi ci ei; omega) (by have := own_lov ai bi ci ei; omega)
theorem own_hs (ai bi ci ei : Int32) : v_s3 ai bi ci ei ≠ 0 := by
  rw [own_s3]
  split <;> decide
theorem own_n0 (ai bi ci ei : Int32) : v_n0 ai bi ci ei = v_lo ai bi ci ei := by
  have i := own_vi ai ci
  have j := own_vj ai bi ci ei
  have c := own_vc1 ci
  have l0 : (0 : Int32).toInt = 0 := by decide
  obtain ⟨m1, m2, m3⟩ := own_min (v_i ai ci) (v_j ai bi ci ei)
  have e : v_lo ai bi ci ei = Fmin (v_i ai ci) (v_j ai bi ci ei) := rfl
  rw [← e] at m1 m2 m3
  have lm : mem (v_w3 ai bi ci ei) (v_lo ai bi ci ei) = true := by
    rw [own_m3 ai bi ci ei _ (own_lov ai bi ci ei).1]
    rcases m3 with m3 | m3
    · rw [decide_eq_true m3]; rfl
    · rw [decide_eq_true m3, Bool.or_true]
  have n := own_next (v_cap ci) c.1 c.2 (v_w3 ai bi ci ei) (v_u3 ai bi ci ei) (v_s3 ai bi ci ei) (own_inv3 ai bi ci ei) (fun _ _ _ _ => own_hs ai bi ci ei) (0 : Int32) (by decide) (by omega)
  have e2 : v_n0 ai bi ci ei = Fnext (0 : Int32) (v_cap ci) (v_s3 ai bi ci ei) (v_w3 ai bi ci ei) (own_nw (own_nw (v_cap ci))) (v_u3 ai bi ci ei) := rfl
  rw [← e2] at n
  have lv := own_lov ai bi ci ei
  rcases n with ⟨-, n2⟩ | ⟨n1, n2, n3, n4⟩
  · rw [n2 (v_lo ai bi ci ei) (by omega) lv.2.1] at lm; cases lm
  · rw [own_m3 ai bi ci ei _ (by omega)] at n3
    rw [← Int32.toInt_inj]
    have le : (v_n0 ai bi ci ei).toInt ≤ (v_lo ai bi ci ei).toInt := by
      refine Int.not_lt.mp fun q => ?_
      rw [n4 (v_lo ai bi ci ei) (by omega) q] at lm; cases lm
    have ge : (v_lo ai bi ci ei).toInt ≤ (v_n0 ai bi ci ei).toInt := by
      rcases Bool.or_eq_true_iff.mp n3 with q | q
      · rw [of_decide_eq_true q]; exact m1
      · rw [of_decide_eq_true q]; exact m2
    omega
theorem own_n1 (ai bi ci ei : Int32) : v_n1 ai bi ci ei = v_en ai bi ci ei := by
  have i := own_vi ai ci
  have j := own_vj ai bi ci ei
  have c := own_vc1 ci
  have lv := own_lov ai bi ci ei
  obtain ⟨m1, m2, m3⟩ := own_min (v_i ai ci) (v_j ai bi ci ei)
  obtain ⟨x1, x2, x3⟩ := own_max (v_i ai ci) (v_j ai bi ci ei)
  have e : v_lo ai bi ci ei = Fmin (v_i ai ci) (v_j ai bi ci ei) := rfl
  have eh : v_hi ai bi ci ei = Fmax (v_i ai ci) (v_j ai bi ci ei) := rfl
  rw [← e] at m1 m2 m3
  rw [← eh] at x1 x2 x3
  have n := own_next (v_cap ci) c.1 c.2 (v_w3 ai bi ci ei) (v_u3 ai bi ci ei) (v_s3 ai bi ci ei) (own_inv3 ai bi ci ei) (fun _ _ _ _ => own_hs ai bi ci ei) (v_lo1 ai bi ci ei) (by omega) (by omega)
  have e2 : v_n1 ai bi ci ei = Fnext (v_lo1 ai bi ci ei) (v_cap ci) (v_s3 ai bi ci ei) (v_w3 ai bi ci ei) (own_nw (own_nw (v_cap ci))) (v_u3 ai bi ci ei) := rfl
  rw [← e2] at n
  unfold v_en
  by_cases q : v_i ai ci = v_j ai bi ci ei
  · rw [if_pos q]
    rcases n with ⟨n1, -⟩ | ⟨n1, n2, n3, n4⟩
    · exact n1
    · exfalso
      rw [own_m3 ai bi ci ei _ (by omega)] at n3
      rw [q] at m3
      rcases Bool.or_eq_true_iff.mp n3 with w | w
      · have w' := of_decide_eq_true w
        rw [q] at w'
        rcases m3 with m3 | m3 <;> (rw [w', ← m3] at n1; omega)
      · have w' := of_decide_eq_true w
        rcases m3 with m3 | m3 <;> (rw [w', ← m3] at n1; omega)
  · rw [if_neg q]
    have ne : (v_i ai ci).toInt ≠ (v_j ai bi ci ei).toInt := fun w => q (Int32.toInt_inj.mp w)
    have gap : (v_lo ai bi ci ei).toInt < (v_hi ai bi ci ei).toInt := by omega
    have hm : mem (v_w3 ai bi ci ei) (v_hi ai bi ci ei) = true := by
      rw [own_m3 ai bi ci ei _ (by omega)]
      rcases x3 with x3 | x3
      · rw [decide_eq_true x3]; rfl
      · rw [decide_eq_true x3, Bool.or_true]
    have hc : (v_hi ai bi ci ei).toInt < (v_cap ci).toInt := by rcases x3 with x3 | x3 <;> rw [x3] <;> omega
    rcases n with ⟨-, n2⟩ | ⟨n1, n2, n3, n4⟩
    · rw [n2 (v_hi ai bi ci ei) (by omega) hc] at hm; cases hm
    · rw [own_m3 ai bi ci ei _ (by omega)] at n3
      rw [← Int32.toInt_inj]
      have le : (v_n1 ai bi ci ei).toInt ≤ (v_hi ai bi ci ei).toInt := by
        refine Int.not_lt.mp fun w => ?_
        rw [n4 (v_hi ai bi ci ei) (by omega) w] at hm; cases hm
      have two : (v_n1 ai bi ci ei).toInt = (v_i ai ci).toInt ∨ (v_n1 ai bi ci ei).toInt = (v_j ai bi ci ei).toInt := by
        rcases Bool.or_eq_true_iff.mp n3 with w | w
        · exact Or.inl (by rw [of_decide_eq_true w])
        · exact Or.inr (by rw [of_decide_eq_true w])
      have lo2 : (v_lo ai bi ci ei).toInt = (v_i ai ci).toInt ∨ (v_lo ai bi ci ei).toInt = (v_j ai bi ci ei).toInt := by
        rcases m3 with m3 | m3 <;> rw [m3] <;> simp
      have hi2 : (v_hi ai bi ci ei).toInt = (v_i ai ci).toInt ∨ (v_hi ai bi ci ei).toInt = (v_j ai bi ci ei).toInt := by
        rcases x3 with x3 | x3 <;> rw [x3] <;> simp
      omega
theorem own_law1 (ai : Int32) (bi : Int32) (ci : Int32) (di : Int32) (ei : Int32) : lawE1 ai bi ci di ei = true := by
  have i := own_vi ai ci
  have j := own_vj ai bi ci ei
  have k := own_vk ai bi ci di ei
  have r1 : v_r1 ai ci = true := by
    unfold v_r1
    rw [own_addr, show mem (fun _ => 0) (v_i ai ci) = false from tb_zero _]; rfl
  have r2 : v_r2 ai bi ci ei = !decide (v_j ai bi ci ei = v_i ai ci) := by
    unfold v_r2
    rw [own_addr, own_m1 ai ci _ j.1]
  have r3 : v_r3 ai bi ci ei = false := by
    unfold v_r3
    rw [own_addr, own_m2 ai bi ci ei _ i.1, decide_eq_true rfl]; rfl
  have sz : v_sz ai bi ci ei = v_es ai bi ci ei := own_s3 ai bi ci ei
  have ck : v_ck ai bi ci di ei = v_ec ai bi ci di ei := by
    unfold v_ck v_ec
    rw [own_con, own_m3 ai bi ci ei _ k.1]
    by_cases q1 : v_k ai bi ci di ei = v_i ai ci
    · rw [if_pos q1, decide_eq_true q1]; rfl
    · rw [if_neg q1, decide_eq_false q1, Bool.false_or]
      by_cases q2 : v_k ai bi ci di ei = v_j ai bi ci ei
      · rw [if_pos q2, decide_eq_true q2]
      · rw [if_neg q2, decide_eq_false q2]
  have nd : nd0_280_41 ai bi ci di ei = true := by
    unfold nd0_280_41
    rw [r3, if_neg (by decide), if_pos sz, if_pos (own_n0 ai bi ci ei), if_pos (own_n1 ai bi ci ei), if_pos (by rw [ck])]
  unfold lawE1
  rw [r1, if_pos rfl, nd, r2]
  by_cases q : v_i ai ci = v_j ai bi ci ei
  · rw [if_pos q, decide_eq_true q.symm]; rfl
  · rw [if_neg q, decide_eq_false (fun w => q w.symm)]; rfl
def Q0 (Z : State) (ai : Int32) (bi : Int32) (ci : Int32) (di : Int32) (ei : Int32) (h0 : Heap) (n0 : Nat) (v : Option Value) (h : Heap) (L : List Loc) : Prop := v = some (.int (1 : Int32)) ∧ Fr n0 L
set_option maxRecDepth 65536 in
set_option maxHeartbeats 40000000 in
theorem rm0 (l : Launch) (Z : State) (a0 : Array Value) (hw : ∀ d ∈ tables_1, d.before a0 Z = true) (ws : List Jvm.Cond) (ai : Int32) (bi : Int32) (ci : Int32) (di : Int32) (ei : Int32) (h0 : Heap) (n0 : Nat) (Z0 : n0 ≤ h0.size) :
    MetFree l x (head1 (Jvm.Cond.code x code maxLocals ret :: ws) room_1) (fun a U => a = #[(.int ai), (.int bi), (.int ci), (.int di), (.int ei)] ∧ Z.Warmed39 U.vm ∧ U.heap = h0) (fun _ _ _ _ _ => True) (fun _ U o U' => ∃ v L, o = .returned v ∧ Q0 Z ai bi ci di ei h0 n0 v U'.heap L ∧ FrameEnd U o U' L room_1.cells room_1.slots) := by
  refine MetFree.of_bodySF (plainFor_of_name pn_0) hisR ?_
  intro p e s m args below meth c s₁ Bd hml0 hP hK
  obtain ⟨rfl, hZ, hh⟩ := hP
  have hx := Bd.exec
  have hby := Bd.bytes
  have hml : c.maxLocals = 24 := hml0
  have hown : s.vm.findClass "com/example/cutline/cutline/IndexSetAddPinLaw" = some m.cls := findClass_of_methodNamed Bd.named
  have hnm := (name_of_methodNamed Bd.named Bd.method).1
  have X0 : Stand p l e room_1 s m #[(.int ai), (.int bi), (.int ci), (.int di), (.int ei)] below meth c s₁ [] 0 0 := Stand.of_body Bd
  have e0 : s₁.heap = h0 := by rw [← hh, Bd.state]; rfl
  have N0 := Fr.nil n0
  have pre0 : ∀ t, Steps p.tables e below (s₁.setTop (mkF m 0 #[.val (.int ai), .val (.int bi), .val (.int ci), .val (.int di), .val (.int ei), .unset, .unset, .unset, .unset, .unset, .unset, .unset, .unset, .unset, .unset, .unset, .unset, .unset, .unset, .unset, .unset, .unset, .unset, .unset] [])) t → Steps p.tables e below (s₁.setTop (entryFrame m #[(.int ai), (.int bi), (.int ci), (.int di), (.int ei)] maxLocals)) t := fun t k => castTop (ef_0 m ai bi ci di ei) k
  have pre1 : ∀ t, Steps p.tables e below (s₁.setTop (mkF m 27 #[.val (.int ai), .val (.int bi), .val (.int ci), .val (.int di), .val (.int ei), .val (.int (v_cap ci)), .val (.int (v_i ai ci)), .val (.int (v_mode ei)), .unset, .unset, .unset, .unset, .unset, .unset, .unset, .unset, .unset, .unset, .unset, .unset, .unset, .unset, .unset, .unset] [(.int (1 : Int32)), (.int (v_mode ei))])) t → Steps p.tables e below (s₁.setTop (entryFrame m #[(.int ai), (.int bi), (.int ci), (.int di), (.int ei)] maxLocals)) t := by
    intro t k
    refine pre0 t ?_
    show Steps p.tables e below (s₁.setTop (mkF m 0 #[.val (.int ai), .val (.int bi), .val (.int ci), .val (.int di), .val (.int ei), .unset, .unset, .unset, .unset, .unset, .unset, .unset, .unset, .unset, .unset, .unset, .unset, .unset, .unset, .unset, .unset, .unset, .unset, .unset] [])) _
    refine XS.iconst X0.here hx rfl (hb hby at_0) ?_
    show Steps p.tables e below (s₁.setTop (mkF m 1 #[.val (.int ai), .val (.int bi), .val (.int ci), .val (.int di), .val (.int ei), .unset, .unset, .unset, .unset, .unset, .unset, .unset, .unset, .unset, .unset, .unset, .unset, .unset, .unset, .unset, .unset, .unset, .unset, .unset] [(.int (1 : Int32))])) _
    refine XS.iloadN X0.here hx rfl (hb hby at_1) rfl ?_
    show Steps p.tables e below (s₁.setTop (mkF m 2 #[.val (.int ai), .val (.int bi), .val (.int ci), .val (.int di), .val (.int ei), .unset, .unset, .unset, .unset, .unset, .unset, .unset, .unset, .unset, .unset, .unset, .unset, .unset, .unset, .unset, .unset, .unset, .unset, .unset] [(.int ci), (.int (1 : Int32))])) _
    refine XS.sipush X0.here hx rfl (hb hby at_2) ?_
    show Steps p.tables e below (s₁.setTop (mkF m 5 #[.val (.int ai), .val (.int bi), .val (.int ci), .val (.int di), .val (.int ei), .unset, .unset, .unset, .unset, .unset, .unset, .unset, .unset, .unset, .unset, .unset, .unset, .unset, .unset, .unset, .unset, .unset, .unset, .unset] [(.int (16383 : Int32)), (.int ci), (.int (1 : Int32))])) _
    refine XS.iand X0.here hx rfl (hb hby at_5) rfl ?_
    show Steps p.tables e below (s₁.setTop (mkF m 6 #[.val (.int ai), .val (.int bi), .val (.int ci), .val (.int di), .val (.int ei), .unset, .unset, .unset, .unset, .unset, .unset, .unset, .unset, .unset, .unset, .unset, .unset, .unset, .unset, .unset, .unset, .unset, .unset, .unset] [(.int (ci &&& (16383 : Int32))), (.int (1 : Int32))])) _
    refine XS.iadd X0.here hx rfl (hb hby at_6) rfl ?_
    show Steps p.tables e below (s₁.setTop (mkF m 7 #[.val (.int ai), .val (.int bi), .val (.int ci), .val (.int di), .val (.int ei), .unset, .unset, .unset, .unset, .unset, .unset, .unset, .unset, .unset, .unset, .unset, .unset, .unset, .unset, .unset, .unset, .unset, .unset, .unset] [(.int ((1 : Int32) + (ci &&& (16383 : Int32))))])) _
    refine XS.istore X0.here hx rfl (hb hby at_7) rfl (l' := #[.val (.int ai), .val (.int bi), .val (.int ci), .val (.int di), .val (.int ei), .val (.int (v_cap ci)), .unset, .unset, .unset, .unset, .unset, .unset, .unset, .unset, .unset, .unset, .unset, .unset, .unset, .unset, .unset, .unset, .unset, .unset]) rfl ?_
    show Steps p.tables e below (s₁.setTop (mkF m 9 #[.val (.int ai), .val (.int bi), .val (.int ci), .val (.int di), .val (.int ei), .val (.int (v_cap ci)), .unset, .unset, .unset, .unset, .unset, .unset, .unset, .unset, .unset, .unset, .unset, .unset, .unset, .unset, .unset, .unset, .unset, .unset] [])) _
    refine XS.iloadN X0.here hx rfl (hb hby at_9) rfl ?_
    show Steps p.tables e below (s₁.setTop (mkF m 10 #[.val (.int ai), .val (.int bi), .val (.int ci), .val (.int di), .val (.int ei), .val (.int (v_cap ci)), .unset, .unset, .unset, .unset, .unset, .unset, .unset, .unset, .unset, .unset, .unset, .unset, .unset, .unset, .unset, .unset, .unset, .unset] [(.int ai)])) _
    refine X0.ldcInt hx hown (mvT hZ (hw _ (List.mem_of_getElem? (i := 0) rfl))) (g := (mkF m 10 #[.val (.int ai), .val (.int bi), .val (.int ci), .val (.int di), .val (.int ei), .val (.int (v_cap ci)), .unset, .unset, .unset, .unset, .unset, .unset, .unset, .unset, .unset, .unset, .unset, .unset, .unset, .unset, .unset, .unset, .unset, .unset] [(.int ai)])) rfl (hb hby at_10) _ ?_
    show Steps p.tables e below (s₁.setTop (mkF m 12 #[.val (.int ai), .val (.int bi), .val (.int ci), .val (.int di), .val (.int ei), .val (.int (v_cap ci)), .unset, .unset, .unset, .unset, .unset, .unset, .unset, .unset, .unset, .unset, .unset, .unset, .unset, .unset, .unset, .unset, .unset, .unset] [(.int (2147483647 : Int32)), (.int ai)])) _
    refine XS.iand X0.here hx rfl (hb hby at_12) rfl ?_
    show Steps p.tables e below (s₁.setTop (mkF m 13 #[.val (.int ai), .val (.int bi), .val (.int ci), .val (.int di), .val (.int ei), .val (.int (v_cap ci)), .unset, .unset, .unset, .unset, .unset, .unset, .unset, .unset, .unset, .unset, .unset, .unset, .unset, .unset, .unset, .unset, .unset, .unset] [(.int (ai &&& (2147483647 : Int32)))])) _
    refine XS.iload X0.here hx rfl (hb hby at_13) rfl ?_
    show Steps p.tables e below (s₁.setTop (mkF m 15 #[.val (.int ai), .val (.int bi), .val (.int ci), .val (.int di), .val (.int ei), .val (.int (v_cap ci)), .unset, .unset, .unset, .unset, .unset, .unset, .unset, .unset, .unset, .unset, .unset, .unset, .unset, .unset, .unset, .unset, .unset, .unset] [(.int (v_cap ci)), (.int (ai &&& (2147483647 : Int32)))])) _
    refine iremM X0 hx rfl (hb hby at_15) rfl (own_nz ci) ?_
    show Steps p.tables e below (s₁.setTop (mkF m 16 #[.val (.int ai), .val (.int bi), .val (.int ci), .val (.int di), .val (.int ei), .val (.int (v_cap ci)), .unset, .unset, .unset, .unset, .unset, .unset, .unset, .unset, .unset, .unset, .unset, .unset, .unset, .unset, .unset, .unset, .unset, .unset] [(.int ((ai &&& (2147483647 : Int32)) % (v_cap ci)))])) _
    refine XS.istore X0.here hx rfl (hb hby at_16) rfl (l' := #[.val (.int ai), .val (.int bi), .val (.int ci), .val (.int di), .val (.int ei), .val (.int (v_cap ci)), .val (.int (v_i ai ci)), .unset, .unset, .unset, .unset, .unset, .unset, .unset, .unset, .unset, .unset, .unset, .unset, .unset, .unset, .unset, .unset, .unset]) rfl ?_
    show Steps p.tables e below (s₁.setTop (mkF m 18 #[.val (.int ai), .val (.int bi), .val (.int ci), .val (.int di), .val (.int ei), .val (.int (v_cap ci)), .val (.int (v_i ai ci)), .unset, .unset, .unset, .unset, .unset, .unset, .unset, .unset, .unset, .unset, .unset, .unset, .unset, .unset, .unset, .unset, .unset] [])) _
    refine XS.iload X0.here hx rfl (hb hby at_18) rfl ?_
    show Steps p.tables e below (s₁.setTop (mkF m 20 #[.val (.int ai), .val (.int bi), .val (.int ci), .val (.int di), .val (.int ei), .val (.int (v_cap ci)), .val (.int (v_i ai ci)), .unset, .unset, .unset, .unset, .unset, .unset, .unset, .unset, .unset, .unset, .unset, .unset, .unset, .unset, .unset, .unset, .unset] [(.int ei)])) _
    refine XS.iconst X0.here hx rfl (hb hby at_20) ?_
    show Steps p.tables e below (s₁.setTop (mkF m 21 #[.val (.int ai), .val (.int bi), .val (.int ci), .val (.int di), .val (.int ei), .val (.int (v_cap ci)), .val (.int (v_i ai ci)), .unset, .unset, .unset, .unset, .unset, .unset, .unset, .unset, .unset, .unset, .unset, .unset, .unset, .unset, .unset, .unset, .unset] [(.int (3 : Int32)), (.int ei)])) _
    refine XS.iand X0.here hx rfl (hb hby at_21) rfl ?_
    show Steps p.tables e below (s₁.setTop (mkF m 22 #[.val (.int ai), .val (.int bi), .val (.int ci), .val (.int di), .val (.int ei), .val (.int (v_cap ci)), .val (.int (v_i ai ci)), .unset, .unset, .unset, .unset, .unset, .unset, .unset, .unset, .unset, .unset, .unset, .unset, .unset, .unset, .unset, .unset, .unset] [(.int (ei &&& (3 : Int32)))])) _
    refine XS.istore X0.here hx rfl (hb hby at_22) rfl (l' := #[.val (.int ai), .val (.int bi), .val (.int ci), .val (.int di), .val (.int ei), .val (.int (v_cap ci)), .val (.int (v_i ai ci)), .val (.int (v_mode ei)), .unset, .unset, .unset, .unset, .unset, .unset, .unset, .unset, .unset, .unset, .unset, .unset, .unset, .unset, .unset, .unset]) rfl ?_
    show Steps p.tables e below (s₁.setTop (mkF m 24 #[.val (.int ai), .val (.int bi), .val (.int ci), .val (.int di), .val (.int ei), .val (.int (v_cap ci)), .val (.int (v_i ai ci)), .val (.int (v_mode ei)), .unset, .unset, .unset, .unset, .unset, .unset, .unset, .unset, .unset, .unset, .unset, .unset, .unset, .unset, .unset, .unset] [])) _
    refine XS.iload X0.here hx rfl (hb hby at_24) rfl ?_
    show Steps p.tables e below (s₁.setTop (mkF m 26 #[.val (.int ai), .val (.int bi), .val (.int ci), .val (.int di), .val (.int ei), .val (.int (v_cap ci)), .val (.int (v_i ai ci)), .val (.int (v_mode ei)), .unset, .unset, .unset, .unset, .unset, .unset, .unset, .unset, .unset, .unset, .unset, .unset, .unset, .unset, .unset, .unset] [(.int (v_mode ei))])) _
    refine XS.iconst X0.here hx rfl (hb hby at_26) ?_
    exact k
  obtain ⟨T9, L9, X9, e9, N9, pre9⟩ : ∃ (T : State) (L : List Loc), Stand p l e room_1 s m #[(.int ai), (.int bi), (.int ci), (.int di), (.int ei)] below meth c T L 0 0 ∧ T.heap = h0 ∧ Fr n0 L ∧ ∀ t, Steps p.tables e below (T.setTop (mkF m 74 #[.val (.int ai), .val (.int bi), .val (.int ci), .val (.int di), .val (.int ei), .val (.int (v_cap ci)), .val (.int (v_i ai ci)), .val (.int (v_mode ei)), .val (.int (v_j ai bi ci ei)), .unset, .unset, .unset, .unset, .unset, .unset, .unset, .unset, .unset, .unset, .unset, .unset, .unset, .unset, .unset] [])) t → Steps p.tables e below (s₁.setTop (entryFrame m #[(.int ai), (.int bi), (.int ci), (.int di), (.int ei)] maxLocals)) t := by
    by_cases hc2 : (v_mode ei) = (1 : Int32)
    ·
      have pre3 : ∀ t, Steps p.tables e below (s₁.setTop (mkF m 74 #[.val (.int ai), .val (.int bi), .val (.int ci), .val (.int di), .val (.int ei), .val (.int (v_cap ci)), .val (.int (v_i ai ci)), .val (.int (v_mode ei)), .val (.int (v_i ai ci)), .unset, .unset, .unset, .unset, .unset, .unset, .unset, .unset, .unset, .unset, .unset, .unset, .unset, .unset, .unset] [])) t → Steps p.tables e below (s₁.setTop (entryFrame m #[(.int ai), (.int bi), (.int ci), (.int di), (.int ei)] maxLocals)) t := by
        intro t k
        refine pre1 t ?_
        show Steps p.tables e below (s₁.setTop (mkF m 27 #[.val (.int ai), .val (.int bi), .val (.int ci), .val (.int di), .val (.int ei), .val (.int (v_cap ci)), .val (.int (v_i ai ci)), .val (.int (v_mode ei)), .unset, .unset, .unset, .unset, .unset, .unset, .unset, .unset, .unset, .unset, .unset, .unset, .unset, .unset, .unset, .unset] [(.int (1 : Int32)), (.int (v_mode ei))])) _
        refine XS.icmpNo X0.here hx rfl (hb hby at_27) rfl (teq hc2).2 ?_
        show Steps p.tables e below (s₁.setTop (mkF m 30 #[.val (.int ai), .val (.int bi), .val (.int ci), .val (.int di), .val (.int ei), .val (.int (v_cap ci)), .val (.int (v_i ai ci)), .val (.int (v_mode ei)), .unset, .unset, .unset, .unset, .unset, .unset, .unset, .unset, .unset, .unset, .unset, .unset, .unset, .unset, .unset, .unset] [])) _
        refine XS.iload X0.here hx rfl (hb hby at_30) rfl ?_
        show Steps p.tables e below (s₁.setTop (mkF m 32 #[.val (.int ai), .val (.int bi), .val (.int ci), .val (.int di), .val (.int ei), .val (.int (v_cap ci)), .val (.int (v_i ai ci)), .val (.int (v_mode ei)), .unset, .unset, .unset, .unset, .unset, .unset, .unset, .unset, .unset, .unset, .unset, .unset, .unset, .unset, .unset, .unset] [(.int (v_i ai ci))])) _
        refine XS.istore X0.here hx rfl (hb hby at_32) rfl (l' := #[.val (.int ai), .val (.int bi), .val (.int ci), .val (.int di), .val (.int ei), .val (.int (v_cap ci)), .val (.int (v_i ai ci)), .val (.int (v_mode ei)), .val (.int (v_i ai ci)), .unset, .unset, .unset, .unset, .unset, .unset, .unset, .unset, .unset, .unset, .unset, .unset, .unset, .unset, .unset]) rfl ?_
        show Steps p.tables e below (s₁.setTop (mkF m 34 #[.val (.int ai), .val (.int bi), .val (.int ci), .val (.int di), .val (.int ei), .val (.int (v_cap ci)), .val (.int (v_i ai ci)), .val (.int (v_mode ei)), .val (.int (v_i ai ci)), .unset, .unset, .unset, .unset, .unset, .unset, .unset, .unset, .unset, .unset, .unset, .unset, .unset, .unset, .unset] [])) _
        refine XS.goto X0.here hx rfl (pc0 := 34) (pc' := 74) rfl (hb hby at_34) (by decide) (by decide) ?_
        exact k
      refine ⟨s₁, _, X0, e0, N0, fun t k => ?_⟩
      rw [(show (v_j ai bi ci ei) = (v_i ai ci) from ((if_pos hc2).trans rfl))] at k
      exact pre3 t k
    ·
      have pre4 : ∀ t, Steps p.tables e below (s₁.setTop (mkF m 40 #[.val (.int ai), .val (.int bi), .val (.int ci), .val (.int di), .val (.int ei), .val (.int (v_cap ci)), .val (.int (v_i ai ci)), .val (.int (v_mode ei)), .unset, .unset, .unset, .unset, .unset, .unset, .unset, .unset, .unset, .unset, .unset, .unset, .unset, .unset, .unset, .unset] [(.int (2 : Int32)), (.int (v_mode ei))])) t → Steps p.tables e below (s₁.setTop (entryFrame m #[(.int ai), (.int bi), (.int ci), (.int di), (.int ei)] maxLocals)) t := by
        intro t k
        refine pre1 t ?_
        show Steps p.tables e below (s₁.setTop (mkF m 27 #[.val (.int ai), .val (.int bi), .val (.int ci), .val (.int di), .val (.int ei), .val (.int (v_cap ci)), .val (.int (v_i ai ci)), .val (.int (v_mode ei)), .unset, .unset, .unset, .unset, .unset, .unset, .unset, .unset, .unset, .unset, .unset, .unset, .unset, .unset, .unset, .unset] [(.int (1 : Int32)), (.int (v_mode ei))])) _
        refine XS.icmpYes X0.here hx rfl (pc0 := 27) (pc' := 37) rfl (hb hby at_27) rfl (feq hc2).2 (by decide) (by decide) ?_
        show Steps p.tables e below (s₁.setTop (mkF m 37 #[.val (.int ai), .val (.int bi), .val (.int ci), .val (.int di), .val (.int ei), .val (.int (v_cap ci)), .val (.int (v_i ai ci)), .val (.int (v_mode ei)), .unset, .unset, .unset, .unset, .unset, .unset, .unset, .unset, .unset, .unset, .unset, .unset, .unset, .unset, .unset, .unset] [])) _
        refine XS.iload X0.here hx rfl (hb hby at_37) rfl ?_
        show Steps p.tables e below (s₁.setTop (mkF m 39 #[.val (.int ai), .val (.int bi), .val (.int ci), .val (.int di), .val (.int ei), .val (.int (v_cap ci)), .val (.int (v_i ai ci)), .val (.int (v_mode ei)), .unset, .unset, .unset, .unset, .unset, .unset, .unset, .unset, .unset, .unset, .unset, .unset, .unset, .unset, .unset, .unset] [(.int (v_mode ei))])) _
        refine XS.iconst X0.here hx rfl (hb hby at_39) ?_
        exact k
      by_cases hc5 : (v_mode ei) = (2 : Int32)
      ·
        obtain ⟨_, _, ⟨T6, L6, k6, n6⟩, -, X6, ⟨Lc6, hQ6, l6, y6, z6⟩, st6⟩ := Jvm.LawKit.callS X0 hx (y := (⟨"java/lang/Math", "min", "(II)I"⟩ : MethodName)) hown (mvT hZ (hw _ (List.mem_of_getElem? (i := 1) rfl))) (mvT hZ (hw _ (List.mem_of_getElem? (i := 2) rfl))) (mvT hZ (hw _ (List.mem_of_getElem? (i := 3) rfl))) (mvT hZ (hw _ (List.mem_of_getElem? (i := 4) rfl))) (by decide) (backOf (W := 0) (rm1 l Z a0 hw [] ((v_cap ci) - (1 : Int32)) (((v_i ai ci) &&& (-64 : Int32)) ||| (bi &&& (63 : Int32))) h0 n0 Z0) hZ (hw _ (List.mem_of_getElem? (i := 4) rfl)) (hw _ (List.mem_of_getElem? (i := 3) rfl)) (by decide) (by decide)) (g := (mkF m 57 #[.val (.int ai), .val (.int bi), .val (.int ci), .val (.int di), .val (.int ei), .val (.int (v_cap ci)), .val (.int (v_i ai ci)), .val (.int (v_mode ei)), .unset, .unset, .unset, .unset, .unset, .unset, .unset, .unset, .unset, .unset, .unset, .unset, .unset, .unset, .unset, .unset] [(.int (((v_i ai ci) &&& (-64 : Int32)) ||| (bi &&& (63 : Int32)))), (.int ((v_cap ci) - (1 : Int32)))])) rfl (by rw [hml]; rfl) (argsL := [(.int ((v_cap ci) - (1 : Int32))), (.int (((v_i ai ci) &&& (-64 : Int32)) ||| (bi &&& (63 : Int32))))]) (rest := []) (lenOf pd_0 rfl) rfl (by show 2 * 0 + _ ≤ _; exact Nat.le_of_eq rfl) (hb hby at_57) (fun _ _ => ⟨rfl, e0, (by decide : 0 + 0 ≤ _), (by decide : 0 + 0 ≤ _)⟩)
        dsimp only [Pt.U, Pt.locs, Pt.cells, Pt.slots] at X6 l6 y6 z6 st6 hQ6
        subst y6 z6
        obtain ⟨rfl, N6q, e6⟩ := hQ6
        have N6 : Fr n0 L6 := by rw [l6]; exact Fr.app N0 N6q
        have pre7 : ∀ t, Steps p.tables e below (T6.setTop (mkF m 74 #[.val (.int ai), .val (.int bi), .val (.int ci), .val (.int di), .val (.int ei), .val (.int (v_cap ci)), .val (.int (v_i ai ci)), .val (.int (v_mode ei)), .val (.int (v_jm ai bi ci)), .unset, .unset, .unset, .unset, .unset, .unset, .unset, .unset, .unset, .unset, .unset, .unset, .unset, .unset, .unset] [])) t → Steps p.tables e below (s₁.setTop (entryFrame m #[(.int ai), (.int bi), (.int ci), (.int di), (.int ei)] maxLocals)) t := by
          intro t k
          refine pre4 t ?_
          show Steps p.tables e below (s₁.setTop (mkF m 40 #[.val (.int ai), .val (.int bi), .val (.int ci), .val (.int di), .val (.int ei), .val (.int (v_cap ci)), .val (.int (v_i ai ci)), .val (.int (v_mode ei)), .unset, .unset, .unset, .unset, .unset, .unset, .unset, .unset, .unset, .unset, .unset, .unset, .unset, .unset, .unset, .unset] [(.int (2 : Int32)), (.int (v_mode ei))])) _
          refine XS.icmpNo X0.here hx rfl (hb hby at_40) rfl (teq hc5).2 ?_
          show Steps p.tables e below (s₁.setTop (mkF m 43 #[.val (.int ai), .val (.int bi), .val (.int ci), .val (.int di), .val (.int ei), .val (.int (v_cap ci)), .val (.int (v_i ai ci)), .val (.int (v_mode ei)), .unset, .unset, .unset, .unset, .unset, .unset, .unset, .unset, .unset, .unset, .unset, .unset, .unset, .unset, .unset, .unset] [])) _
          refine XS.iload X0.here hx rfl (hb hby at_43) rfl ?_
          show Steps p.tables e below (s₁.setTop (mkF m 45 #[.val (.int ai), .val (.int bi), .val (.int ci), .val (.int di), .val (.int ei), .val (.int (v_cap ci)), .val (.int (v_i ai ci)), .val (.int (v_mode ei)), .unset, .unset, .unset, .unset, .unset, .unset, .unset, .unset, .unset, .unset, .unset, .unset, .unset, .unset, .unset, .unset] [(.int (v_cap ci))])) _
          refine XS.iconst X0.here hx rfl (hb hby at_45) ?_
          show Steps p.tables e below (s₁.setTop (mkF m 46 #[.val (.int ai), .val (.int bi), .val (.int ci), .val (.int di), .val (.int ei), .val (.int (v_cap ci)), .val (.int (v_i ai ci)), .val (.int (v_mode ei)), .unset, .unset, .unset, .unset, .unset, .unset, .unset, .unset, .unset, .unset, .unset, .unset, .unset, .unset, .unset, .unset] [(.int (1 : Int32)), (.int (v_cap ci))])) _
          refine XS.isub X0.here hx rfl (hb hby at_46) rfl ?_
          show Steps p.tables e below (s₁.setTop (mkF m 47 #[.val (.int ai), .val (.int bi), .val (.int ci), .val (.int di), .val (.int ei), .val (.int (v_cap ci)), .val (.int (v_i ai ci)), .val (.int (v_mode ei)), .unset, .unset, .unset, .unset, .unset, .unset, .unset, .unset, .unset, .unset, .unset, .unset, .unset, .unset, .unset, .unset] [(.int ((v_cap ci) - (1 : Int32)))])) _
          refine XS.iload X0.here hx rfl (hb hby at_47) rfl ?_
          show Steps p.tables e below (s₁.setTop (mkF m 49 #[.val (.int ai), .val (.int bi), .val (.int ci), .val (.int di), .val (.int ei), .val (.int (v_cap ci)), .val (.int (v_i ai ci)), .val (.int (v_mode ei)), .unset, .unset, .unset, .unset, .unset, .unset, .unset, .unset, .unset, .unset, .unset, .unset, .unset, .unset, .unset, .unset] [(.int (v_i ai ci)), (.int ((v_cap ci) - (1 : Int32)))])) _
          refine XS.bipush X0.here hx rfl (hb hby at_49) ?_
          show Steps p.tables e below (s₁.setTop (mkF m 51 #[.val (.int ai), .val (.int bi), .val (.int ci), .val (.int di), .val (.int ei), .val (.int (v_cap ci)), .val (.int (v_i ai ci)), .val (.int (v_mode ei)), .unset, .unset, .unset, .unset, .unset, .unset, .unset, .unset, .unset, .unset, .unset, .unset, .unset, .unset, .unset, .unset] [(.int (-64 : Int32)), (.int (v_i ai ci)), (.int ((v_cap ci) - (1 : Int32)))])) _
          refine XS.iand X0.here hx rfl (hb hby at_51) rfl ?_
          show Steps p.tables e below (s₁.setTop (mkF m 52 #[.val (.int ai), .val (.int bi), .val (.int ci), .val (.int di), .val (.int ei), .val (.int (v_cap ci)), .val (.int (v_i ai ci)), .val (.int (v_mode ei)), .unset, .unset, .unset, .unset, .unset, .unset, .unset, .unset, .unset, .unset, .unset, .unset, .unset, .unset, .unset, .unset] [(.int ((v_i ai ci) &&& (-64 : Int32))), (.int ((v_cap ci) - (1 : Int32)))])) _
          refine XS.iloadN X0.here hx rfl (hb hby at_52) rfl ?_
          show Steps p.tables e below (s₁.setTop (mkF m 53 #[.val (.int ai), .val (.int bi), .val (.int ci), .val (.int di), .val (.int ei), .val (.int (v_cap ci)), .val (.int (v_i ai ci)), .val (.int (v_mode ei)), .unset, .unset, .unset, .unset, .unset, .unset, .unset, .unset, .unset, .unset, .unset, .unset, .unset, .unset, .unset, .unset] [(.int bi), (.int ((v_i ai ci) &&& (-64 : Int32))), (.int ((v_cap ci) - (1 : Int32)))])) _
          refine XS.bipush X0.here hx rfl (hb hby at_53) ?_
          show Steps p.tables e below (s₁.setTop (mkF m 55 #[.val (.int ai), .val (.int bi), .val (.int ci), .val (.int di), .val (.int ei), .val (.int (v_cap ci)), .val (.int (v_i ai ci)), .val (.int (v_mode ei)), .unset, .unset, .unset, .unset, .unset, .unset, .unset, .unset, .unset, .unset, .unset, .unset, .unset, .unset, .unset, .unset] [(.int (63 : Int32)), (.int bi), (.int ((v_i ai ci) &&& (-64 : Int32))), (.int ((v_cap ci) - (1 : Int32)))])) _
          refine XS.iand X0.here hx rfl (hb hby at_55) rfl ?_
          show Steps p.tables e below (s₁.setTop (mkF m 56 #[.val (.int ai), .val (.int bi), .val (.int ci), .val (.int di), .val (.int ei), .val (.int (v_cap ci)), .val (.int (v_i ai ci)), .val (.int (v_mode ei)), .unset, .unset, .unset, .unset, .unset, .unset, .unset, .unset, .unset, .unset, .unset, .unset, .unset, .unset, .unset, .unset] [(.int (bi &&& (63 : Int32))), (.int ((v_i ai ci) &&& (-64 : Int32))), (.int ((v_cap ci) - (1 : Int32)))])) _
          refine XS.ior X0.here hx rfl (hb hby at_56) rfl ?_
          show Steps p.tables e below (s₁.setTop (mkF m 57 #[.val (.int ai), .val (.int bi), .val (.int ci), .val (.int di), .val (.int ei), .val (.int (v_cap ci)), .val (.int (v_i ai ci)), .val (.int (v_mode ei)), .unset, .unset, .unset, .unset, .unset, .unset, .unset, .unset, .unset, .unset, .unset, .unset, .unset, .unset, .unset, .unset] [(.int (((v_i ai ci) &&& (-64 : Int32)) ||| (bi &&& (63 : Int32)))), (.int ((v_cap ci) - (1 : Int32)))])) _
          refine st6 _ ?_
          show Steps p.tables e below (T6.setTop (mkF m 60 #[.val (.int ai), .val (.int bi), .val (.int ci), .val (.int di), .val (.int ei), .val (.int (v_cap ci)), .val (.int (v_i ai ci)), .val (.int (v_mode ei)), .unset, .unset, .unset, .unset, .unset, .unset, .unset, .unset, .unset, .unset, .unset, .unset, .unset, .unset, .unset, .unset] [(.int (Fmin ((v_cap ci) - (1 : Int32)) (((v_i ai ci) &&& (-64 : Int32)) ||| (bi &&& (63 : Int32)))))])) _
          refine XS.istore X6.here hx rfl (hb hby at_60) rfl (l' := #[.val (.int ai), .val (.int bi), .val (.int ci), .val (.int di), .val (.int ei), .val (.int (v_cap ci)), .val (.int (v_i ai ci)), .val (.int (v_mode ei)), .val (.int (v_jm ai bi ci)), .unset, .unset, .unset, .unset, .unset, .unset, .unset, .unset, .unset, .unset, .unset, .unset, .unset, .unset, .unset]) rfl ?_
          show Steps p.tables e below (T6.setTop (mkF m 62 #[.val (.int ai), .val (.int bi), .val (.int ci), .val (.int di), .val (.int ei), .val (.int (v_cap ci)), .val (.int (v_i ai ci)), .val (.int (v_mode ei)), .val (.int (v_jm ai bi ci)), .unset, .unset, .unset, .unset, .unset, .unset, .unset, .unset, .unset, .unset, .unset, .unset, .unset, .unset, .unset] [])) _
          refine XS.goto X6.here hx rfl (pc0 := 62) (pc' := 74) rfl (hb hby at_62) (by decide) (by decide) ?_
          exact k
        refine ⟨T6, _, X6, e6, N6, fun t k => ?_⟩
        rw [(show (v_j ai bi ci ei) = (v_jm ai bi ci) from ((if_neg hc2).trans ((if_pos hc5).trans rfl)))] at k
        exact pre7 t k
      ·
        have pre8 : ∀ t, Steps p.tables e below (s₁.setTop (mkF m 74 #[.val (.int ai), .val (.int bi), .val (.int ci), .val (.int di), .val (.int ei), .val (.int (v_cap ci)), .val (.int (v_i ai ci)), .val (.int (v_mode ei)), .val (.int (v_jr bi ci)), .unset, .unset, .unset, .unset, .unset, .unset, .unset, .unset, .unset, .unset, .unset, .unset, .unset, .unset, .unset] [])) t → Steps p.tables e below (s₁.setTop (entryFrame m #[(.int ai), (.int bi), (.int ci), (.int di), (.int ei)] maxLocals)) t := by
          intro t k
          refine pre4 t ?_
          show Steps p.tables e below (s₁.setTop (mkF m 40 #[.val (.int ai), .val (.int bi), .val (.int ci), .val (.int di), .val (.int ei), .val (.int (v_cap ci)), .val (.int (v_i ai ci)), .val (.int (v_mode ei)), .unset, .unset, .unset, .unset, .unset, .unset, .unset, .unset, .unset, .unset, .unset, .unset, .unset, .unset, .unset, .unset] [(.int (2 : Int32)), (.int (v_mode ei))])) _
          refine XS.icmpYes X0.here hx rfl (pc0 := 40) (pc' := 65) rfl (hb hby at_40) rfl (feq hc5).2 (by decide) (by decide) ?_
          show Steps p.tables e below (s₁.setTop (mkF m 65 #[.val (.int ai), .val (.int bi), .val (.int ci), .val (.int di), .val (.int ei), .val (.int (v_cap ci)), .val (.int (v_i ai ci)), .val (.int (v_mode ei)), .unset, .unset, .unset, .unset, .unset, .unset, .unset, .unset, .unset, .unset, .unset, .unset, .unset, .unset, .unset, .unset] [])) _
          refine XS.iloadN X0.here hx rfl (hb hby at_65) rfl ?_
          show Steps p.tables e below (s₁.setTop (mkF m 66 #[.val (.int ai), .val (.int bi), .val (.int ci), .val (.int di), .val (.int ei), .val (.int (v_cap ci)), .val (.int (v_i ai ci)), .val (.int (v_mode ei)), .unset, .unset, .unset, .unset, .unset, .unset, .unset, .unset, .unset, .unset, .unset, .unset, .unset, .unset, .unset, .unset] [(.int bi)])) _
          refine X0.ldcInt hx hown (mvT hZ (hw _ (List.mem_of_getElem? (i := 0) rfl))) (g := (mkF m 66 #[.val (.int ai), .val (.int bi), .val (.int ci), .val (.int di), .val (.int ei), .val (.int (v_cap ci)), .val (.int (v_i ai ci)), .val (.int (v_mode ei)), .unset, .unset, .unset, .unset, .unset, .unset, .unset, .unset, .unset, .unset, .unset, .unset, .unset, .unset, .unset, .unset] [(.int bi)])) rfl (hb hby at_66) _ ?_
          show Steps p.tables e below (s₁.setTop (mkF m 68 #[.val (.int ai), .val (.int bi), .val (.int ci), .val (.int di), .val (.int ei), .val (.int (v_cap ci)), .val (.int (v_i ai ci)), .val (.int (v_mode ei)), .unset, .unset, .unset, .unset, .unset, .unset, .unset, .unset, .unset, .unset, .unset, .unset, .unset, .unset, .unset, .unset] [(.int (2147483647 : Int32)), (.int bi)])) _
          refine XS.iand X0.here hx rfl (hb hby at_68) rfl ?_
          show Steps p.tables e below (s₁.setTop (mkF m 69 #[.val (.int ai), .val (.int bi), .val (.int ci), .val (.int di), .val (.int ei), .val (.int (v_cap ci)), .val (.int (v_i ai ci)), .val (.int (v_mode ei)), .unset, .unset, .unset, .unset, .unset, .unset, .unset, .unset, .unset, .unset, .unset, .unset, .unset, .unset, .unset, .unset] [(.int (bi &&& (2147483647 : Int32)))])) _
          refine XS.iload X0.here hx rfl (hb hby at_69) rfl ?_
          show Steps p.tables e below (s₁.setTop (mkF m 71 #[.val (.int ai), .val (.int bi), .val (.int ci), .val (.int di), .val (.int ei), .val (.int (v_cap ci)), .val (.int (v_i ai ci)), .val (.int (v_mode ei)), .unset, .unset, .unset, .unset, .unset, .unset, .unset, .unset, .unset, .unset, .unset, .unset, .unset, .unset, .unset, .unset] [(.int (v_cap ci)), (.int (bi &&& (2147483647 : Int32)))])) _
          refine iremM X0 hx rfl (hb hby at_71) rfl (own_nz ci) ?_
          show Steps p.tables e below (s₁.setTop (mkF m 72 #[.val (.int ai), .val (.int bi), .val (.int ci), .val (.int di), .val (.int ei), .val (.int (v_cap ci)), .val (.int (v_i ai ci)), .val (.int (v_mode ei)), .unset, .unset, .unset, .unset, .unset, .unset, .unset, .unset, .unset, .unset, .unset, .unset, .unset, .unset, .unset, .unset] [(.int ((bi &&& (2147483647 : Int32)) % (v_cap ci)))])) _
          refine XS.istore X0.here hx rfl (hb hby at_72) rfl (l' := #[.val (.int ai), .val (.int bi), .val (.int ci), .val (.int di), .val (.int ei), .val (.int (v_cap ci)), .val (.int (v_i ai ci)), .val (.int (v_mode ei)), .val (.int (v_jr bi ci)), .unset, .unset, .unset, .unset, .unset, .unset, .unset, .unset, .unset, .unset, .unset, .unset, .unset, .unset, .unset]) rfl ?_
          exact k
        refine ⟨s₁, _, X0, e0, N0, fun t k => ?_⟩
        rw [(show (v_j ai bi ci ei) = (v_jr bi ci) from ((if_neg hc2).trans ((if_neg hc5).trans rfl)))] at k
        exact pre8 t k
  have pre10 : ∀ t, Steps p.tables e below (T9.setTop (mkF m 85 #[.val (.int ai), .val (.int bi), .val (.int ci), .val (.int di), .val (.int ei), .val (.int (v_cap ci)), .val (.int (v_i ai ci)), .val (.int (v_mode ei)), .val (.int (v_j ai bi ci ei)), .unset, .val (.int (v_km ei)), .unset, .unset, .unset, .unset, .unset, .unset, .unset, .unset, .unset, .unset, .unset, .unset, .unset] [(.int (1 : Int32)), (.int (v_km ei))])) t → Steps p.tables e below (s₁.setTop (entryFrame m #[(.int ai), (.int bi), (.int ci), (.int di), (.int ei)] maxLocals)) t := by
    intro t k
    refine pre9 t ?_
    show Steps p.tables e below (T9.setTop (mkF m 74 #[.val (.int ai), .val (.int bi), .val (.int ci), .val (.int di), .val (.int ei), .val (.int (v_cap ci)), .val (.int (v_i ai ci)), .val (.int (v_mode ei)), .val (.int (v_j ai bi ci ei)), .unset, .unset, .unset, .unset, .unset, .unset, .unset, .unset, .unset, .unset, .unset, .unset, .unset, .unset, .unset] [])) _
    refine XS.iload X9.here hx rfl (hb hby at_74) rfl ?_
    show Steps p.tables e below (T9.setTop (mkF m 76 #[.val (.int ai), .val (.int bi), .val (.int ci), .val (.int di), .val (.int ei), .val (.int (v_cap ci)), .val (.int (v_i ai ci)), .val (.int (v_mode ei)), .val (.int (v_j ai bi ci ei)), .unset, .unset, .unset, .unset, .unset, .unset, .unset, .unset, .unset, .unset, .unset, .unset, .unset, .unset, .unset] [(.int ei)])) _
    refine XS.iconst X9.here hx rfl (hb hby at_76) ?_
    show Steps p.tables e below (T9.setTop (mkF m 77 #[.val (.int ai), .val (.int bi), .val (.int ci), .val (.int di), .val (.int ei), .val (.int (v_cap ci)), .val (.int (v_i ai ci)), .val (.int (v_mode ei)), .val (.int (v_j ai bi ci ei)), .unset, .unset, .unset, .unset, .unset, .unset, .unset, .unset, .unset, .unset, .unset, .unset, .unset, .unset, .unset] [(.int (2 : Int32)), (.int ei)])) _
    refine XS.iushr X9.here hx rfl (hb hby at_77) rfl ?_
    show Steps p.tables e below (T9.setTop (mkF m 78 #[.val (.int ai), .val (.int bi), .val (.int ci), .val (.int di), .val (.int ei), .val (.int (v_cap ci)), .val (.int (v_i ai ci)), .val (.int (v_mode ei)), .val (.int (v_j ai bi ci ei)), .unset, .unset, .unset, .unset, .unset, .unset, .unset, .unset, .unset, .unset, .unset, .unset, .unset, .unset, .unset] [(.int ((ei.toUInt32 >>> ((2 : Int32) &&& 31).toUInt32).toInt32))])) _
    refine XS.iconst X9.here hx rfl (hb hby at_78) ?_
    show Steps p.tables e below (T9.setTop (mkF m 79 #[.val (.int ai), .val (.int bi), .val (.int ci), .val (.int di), .val (.int ei), .val (.int (v_cap ci)), .val (.int (v_i ai ci)), .val (.int (v_mode ei)), .val (.int (v_j ai bi ci ei)), .unset, .unset, .unset, .unset, .unset, .unset, .unset, .unset, .unset, .unset, .unset, .unset, .unset, .unset, .unset] [(.int (3 : Int32)), (.int ((ei.toUInt32 >>> ((2 : Int32) &&& 31).toUInt32).toInt32))])) _
    refine XS.iand X9.here hx rfl (hb hby at_79) rfl ?_
    show Steps p.tables e below (T9.setTop (mkF m 80 #[.val (.int ai), .val (.int bi), .val (.int ci), .val (.int di), .val (.int ei), .val (.int (v_cap ci)), .val (.int (v_i ai ci)), .val (.int (v_mode ei)), .val (.int (v_j ai bi ci ei)), .unset, .unset, .unset, .unset, .unset, .unset, .unset, .unset, .unset, .unset, .unset, .unset, .unset, .unset, .unset] [(.int (((ei.toUInt32 >>> ((2 : Int32) &&& 31).toUInt32).toInt32) &&& (3 : Int32)))])) _
    refine XS.istore X9.here hx rfl (hb hby at_80) rfl (l' := #[.val (.int ai), .val (.int bi), .val (.int ci), .val (.int di), .val (.int ei), .val (.int (v_cap ci)), .val (.int (v_i ai ci)), .val (.int (v_mode ei)), .val (.int (v_j ai bi ci ei)), .unset, .val (.int (v_km ei)), .unset, .unset, .unset, .unset, .unset, .unset, .unset, .unset, .unset, .unset, .unset, .unset, .unset]) rfl ?_
    show Steps p.tables e below (T9.setTop (mkF m 82 #[.val (.int ai), .val (.int bi), .val (.int ci), .val (.int di), .val (.int ei), .val (.int (v_cap ci)), .val (.int (v_i ai ci)), .val (.int (v_mode ei)), .val (.int (v_j ai bi ci ei)), .unset, .val (.int (v_km ei)), .unset, .unset, .unset, .unset, .unset, .unset, .unset, .unset, .unset, .unset, .unset, .unset, .unset] [])) _
    refine XS.iload X9.here hx rfl (hb hby at_82) rfl ?_
    show Steps p.tables e below (T9.setTop (mkF m 84 #[.val (.int ai), .val (.int bi), .val (.int ci), .val (.int di), .val (.int ei), .val (.int (v_cap ci)), .val (.int (v_i ai ci)), .val (.int (v_mode ei)), .val (.int (v_j ai bi ci ei)), .unset, .val (.int (v_km ei)), .unset, .unset, .unset, .unset, .unset, .unset, .unset, .unset, .unset, .unset, .unset, .unset, .unset] [(.int (v_km ei))])) _
    refine XS.iconst X9.here hx rfl (hb hby at_84) ?_
    exact k
  have pre11 : ∀ t, Steps p.tables e below (T9.setTop (mkF m 117 #[.val (.int ai), .val (.int bi), .val (.int ci), .val (.int di), .val (.int ei), .val (.int (v_cap ci)), .val (.int (v_i ai ci)), .val (.int (v_mode ei)), .val (.int (v_j ai bi ci ei)), .val (.int (v_k ai bi ci di ei)), .val (.int (v_km ei)), .unset, .unset, .unset, .unset, .unset, .unset, .unset, .unset, .unset, .unset, .unset, .unset, .unset] [])) t → Steps p.tables e below (s₁.setTop (entryFrame m #[(.int ai), (.int bi), (.int ci), (.int di), (.int ei)] maxLocals)) t := by
    intro t k
    refine pre10 t ?_
    have k : ∀ (v1 : Int32), v1 = (if (v_km ei) = (1 : Int32) then (v_i ai ci) else (if (v_km ei) = (2 : Int32) then (v_j ai bi ci ei) else (v_kr ci di))) → Steps p.tables e below (T9.setTop (mkF m 117 #[.val (.int ai), .val (.int bi), .val (.int ci), .val (.int di), .val (.int ei), .val (.int (v_cap ci)), .val (.int (v_i ai ci)), .val (.int (v_mode ei)), .val (.int (v_j ai bi ci ei)), .val (.int v1), .val (.int (v_km ei)), .unset, .unset, .unset, .unset, .unset, .unset, .unset, .unset, .unset, .unset, .unset, .unset, .unset] [])) t := fun v1 hv1 => by subst hv1; exact k
    show Steps p.tables e below (T9.setTop (mkF m 85 #[.val (.int ai), .val (.int bi), .val (.int ci), .val (.int di), .val (.int ei), .val (.int (v_cap ci)), .val (.int (v_i ai ci)), .val (.int (v_mode ei)), .val (.int (v_j ai bi ci ei)), .unset, .val (.int (v_km ei)), .unset, .unset, .unset, .unset, .unset, .unset, .unset, .unset, .unset, .unset, .unset, .unset, .unset] [(.int (1 : Int32)), (.int (v_km ei))])) _
    by_cases hc12 : (v_km ei) = (1 : Int32)
    · refine XS.icmpNo X9.here hx rfl (hb hby at_85) rfl (teq hc12).2 ?_
      have k : ∀ (v1 : Int32), v1 = (v_i ai ci) → Steps p.tables e below (T9.setTop (mkF m 117 #[.val (.int ai), .val (.int bi), .val (.int ci), .val (.int di), .val (.int ei), .val (.int (v_cap ci)), .val (.int (v_i ai ci)), .val (.int (v_mode ei)), .val (.int (v_j ai bi ci ei)), .val (.int v1), .val (.int (v_km ei)), .unset, .unset, .unset, .unset, .unset, .unset, .unset, .unset, .unset, .unset, .unset, .unset, .unset] [])) t := fun v1 hv1 => k v1 (hv1.trans (if_pos hc12).symm)
      show Steps p.tables e below (T9.setTop (mkF m 88 #[.val (.int ai), .val (.int bi), .val (.int ci), .val (.int di), .val (.int ei), .val (.int (v_cap ci)), .val (.int (v_i ai ci)), .val (.int (v_mode ei)), .val (.int (v_j ai bi ci ei)), .unset, .val (.int (v_km ei)), .unset, .unset, .unset, .unset, .unset, .unset, .unset, .unset, .unset, .unset, .unset, .unset, .unset] [])) _
      refine XS.iload X9.here hx rfl (hb hby at_88) rfl ?_
      show Steps p.tables e below (T9.setTop (mkF m 90 #[.val (.int ai), .val (.int bi), .val (.int ci), .val (.int di), .val (.int ei), .val (.int (v_cap ci)), .val (.int (v_i ai ci)), .val (.int (v_mode ei)), .val (.int (v_j ai bi ci ei)), .unset, .val (.int (v_km ei)), .unset, .unset, .unset, .unset, .unset, .unset, .unset, .unset, .unset, .unset, .unset, .unset, .unset] [(.int (v_i ai ci))])) _
      refine XS.istore X9.here hx rfl (hb hby at_90) rfl (l' := #[.val (.int ai), .val (.int bi), .val (.int ci), .val (.int di), .val (.int ei), .val (.int (v_cap ci)), .val (.int (v_i ai ci)), .val (.int (v_mode ei)), .val (.int (v_j ai bi ci ei)), .val (.int (v_i ai ci)), .val (.int (v_km ei)), .unset, .unset, .unset, .unset, .unset, .unset, .unset, .unset, .unset, .unset, .unset, .unset, .unset]) rfl ?_
      show Steps p.tables e below (T9.setTop (mkF m 92 #[.val (.int ai), .val (.int bi), .val (.int ci), .val (.int di), .val (.int ei), .val (.int (v_cap ci)), .val (.int (v_i ai ci)), .val (.int (v_mode ei)), .val (.int (v_j ai bi ci ei)), .val (.int (v_i ai ci)), .val (.int (v_km ei)), .unset, .unset, .unset, .unset, .unset, .unset, .unset, .unset, .unset, .unset, .unset, .unset, .unset] [])) _
      refine XS.goto X9.here hx rfl (pc0 := 92) (pc' := 117) rfl (hb hby at_92) (by decide) (by decide) ?_
      exact k _ rfl
    · refine XS.icmpYes X9.here hx rfl (pc0 := 85) (pc' := 95) rfl (hb hby at_85) rfl (feq hc12).2 (by decide) (by decide) ?_
      have k : ∀ (v1 : Int32), v1 = (if (v_km ei) = (2 : Int32) then (v_j ai bi ci ei) else (v_kr ci di)) → Steps p.tables e below (T9.setTop (mkF m 117 #[.val (.int ai), .val (.int bi), .val (.int ci), .val (.int di), .val (.int ei), .val (.int (v_cap ci)), .val (.int (v_i ai ci)), .val (.int (v_mode ei)), .val (.int (v_j ai bi ci ei)), .val (.int v1), .val (.int (v_km ei)), .unset, .unset, .unset, .unset, .unset, .unset, .unset, .unset, .unset, .unset, .unset, .unset, .unset] [])) t := fun v1 hv1 => k v1 (hv1.trans (if_neg hc12).symm)
      show Steps p.tables e below (T9.setTop (mkF m 95 #[.val (.int ai), .val (.int bi), .val (.int ci), .val (.int di), .val (.int ei), .val (.int (v_cap ci)), .val (.int (v_i ai ci)), .val (.int (v_mode ei)), .val (.int (v_j ai bi ci ei)), .unset, .val (.int (v_km ei)), .unset, .unset, .unset, .unset, .unset, .unset, .unset, .unset, .unset, .unset, .unset, .unset, .unset] [])) _
      refine XS.iload X9.here hx rfl (hb hby at_95) rfl ?_
      show Steps p.tables e below (T9.setTop (mkF m 97 #[.val (.int ai), .val (.int bi), .val (.int ci), .val (.int di), .val (.int ei), .val (.int (v_cap ci)), .val (.int (v_i ai ci)), .val (.int (v_mode ei)), .val (.int (v_j ai bi ci ei)), .unset, .val (.int (v_km ei)), .unset, .unset, .unset, .unset, .unset, .unset, .unset, .unset, .unset, .unset, .unset, .unset, .unset] [(.int (v_km ei))])) _
      refine XS.iconst X9.here hx rfl (hb hby at_97) ?_
      show Steps p.tables e below (T9.setTop (mkF m 98 #[.val (.int ai), .val (.int bi), .val (.int ci), .val (.int di), .val (.int ei), .val (.int (v_cap ci)), .val (.int (v_i ai ci)), .val (.int (v_mode ei)), .val (.int (v_j ai bi ci ei)), .unset, .val (.int (v_km ei)), .unset, .unset, .unset, .unset, .unset, .unset, .unset, .unset, .unset, .unset, .unset, .unset, .unset] [(.int (2 : Int32)), (.int (v_km ei))])) _
      by_cases hc13 : (v_km ei) = (2 : Int32)
      · refine XS.icmpNo X9.here hx rfl (hb hby at_98) rfl (teq hc13).2 ?_
        have k : ∀ (v1 : Int32), v1 = (v_j ai bi ci ei) → Steps p.tables e below (T9.setTop (mkF m 117 #[.val (.int ai), .val (.int bi), .val (.int ci), .val (.int di), .val (.int ei), .val (.int (v_cap ci)), .val (.int (v_i ai ci)), .val (.int (v_mode ei)), .val (.int (v_j ai bi ci ei)), .val (.int v1), .val (.int (v_km ei)), .unset, .unset, .unset, .unset, .unset, .unset, .unset, .unset, .unset, .unset, .unset, .unset, .unset] [])) t := fun v1 hv1 => k v1 (hv1.trans (if_pos hc13).symm)
        show Steps p.tables e below (T9.setTop (mkF m 101 #[.val (.int ai), .val (.int bi), .val (.int ci), .val (.int di), .val (.int ei), .val (.int (v_cap ci)), .val (.int (v_i ai ci)), .val (.int (v_mode ei)), .val (.int (v_j ai bi ci ei)), .unset, .val (.int (v_km ei)), .unset, .unset, .unset, .unset, .unset, .unset, .unset, .unset, .unset, .unset, .unset, .unset, .unset] [])) _
        refine XS.iload X9.here hx rfl (hb hby at_101) rfl ?_
        show Steps p.tables e below (T9.setTop (mkF m 103 #[.val (.int ai), .val (.int bi), .val (.int ci), .val (.int di), .val (.int ei), .val (.int (v_cap ci)), .val (.int (v_i ai ci)), .val (.int (v_mode ei)), .val (.int (v_j ai bi ci ei)), .unset, .val (.int (v_km ei)), .unset, .unset, .unset, .unset, .unset, .unset, .unset, .unset, .unset, .unset, .unset, .unset, .unset] [(.int (v_j ai bi ci ei))])) _
        refine XS.istore X9.here hx rfl (hb hby at_103) rfl (l' := #[.val (.int ai), .val (.int bi), .val (.int ci), .val (.int di), .val (.int ei), .val (.int (v_cap ci)), .val (.int (v_i ai ci)), .val (.int (v_mode ei)), .val (.int (v_j ai bi ci ei)), .val (.int (v_j ai bi ci ei)), .val (.int (v_km ei)), .unset, .unset, .unset, .unset, .unset, .unset, .unset, .unset, .unset, .unset, .unset, .unset, .unset]) rfl ?_
        show Steps p.tables e below (T9.setTop (mkF m 105 #[.val (.int ai), .val (.int bi), .val (.int ci), .val (.int di), .val (.int ei), .val (.int (v_cap ci)), .val (.int (v_i ai ci)), .val (.int (v_mode ei)), .val (.int (v_j ai bi ci ei)), .val (.int (v_j ai bi ci ei)), .val (.int (v_km ei)), .unset, .unset, .unset, .unset, .unset, .unset, .unset, .unset, .unset, .unset, .unset, .unset, .unset] [])) _
        refine XS.goto X9.here hx rfl (pc0 := 105) (pc' := 117) rfl (hb hby at_105) (by decide) (by decide) ?_
        exact k _ rfl
      · refine XS.icmpYes X9.here hx rfl (pc0 := 98) (pc' := 108) rfl (hb hby at_98) rfl (feq hc13).2 (by decide) (by decide) ?_
        have k : ∀ (v1 : Int32), v1 = (v_kr ci di) → Steps p.tables e below (T9.setTop (mkF m 117 #[.val (.int ai), .val (.int bi), .val (.int ci), .val (.int di), .val (.int ei), .val (.int (v_cap ci)), .val (.int (v_i ai ci)), .val (.int (v_mode ei)), .val (.int (v_j ai bi ci ei)), .val (.int v1), .val (.int (v_km ei)), .unset, .unset, .unset, .unset, .unset, .unset, .unset, .unset, .unset, .unset, .unset, .unset, .unset] [])) t := fun v1 hv1 => k v1 (hv1.trans (if_neg hc13).symm)
        show Steps p.tables e below (T9.setTop (mkF m 108 #[.val (.int ai), .val (.int bi), .val (.int ci), .val (.int di), .val (.int ei), .val (.int (v_cap ci)), .val (.int (v_i ai ci)), .val (.int (v_mode ei)), .val (.int (v_j ai bi ci ei)), .unset, .val (.int (v_km ei)), .unset, .unset, .unset, .unset, .unset, .unset, .unset, .unset, .unset, .unset, .unset, .unset, .unset] [])) _
        refine XS.iloadN X9.here hx rfl (hb hby at_108) rfl ?_
        show Steps p.tables e below (T9.setTop (mkF m 109 #[.val (.int ai), .val (.int bi), .val (.int ci), .val (.int di), .val (.int ei), .val (.int (v_cap ci)), .val (.int (v_i ai ci)), .val (.int (v_mode ei)), .val (.int (v_j ai bi ci ei)), .unset, .val (.int (v_km ei)), .unset, .unset, .unset, .unset, .unset, .unset, .unset, .unset, .unset, .unset, .unset, .unset, .unset] [(.int di)])) _
        refine X9.ldcInt hx hown (mvT hZ (hw _ (List.mem_of_getElem? (i := 0) rfl))) (g := (mkF m 109 #[.val (.int ai), .val (.int bi), .val (.int ci), .val (.int di), .val (.int ei), .val (.int (v_cap ci)), .val (.int (v_i ai ci)), .val (.int (v_mode ei)), .val (.int (v_j ai bi ci ei)), .unset, .val (.int (v_km ei)), .unset, .unset, .unset, .unset, .unset, .unset, .unset, .unset, .unset, .unset, .unset, .unset, .unset] [(.int di)])) rfl (hb hby at_109) _ ?_
        show Steps p.tables e below (T9.setTop (mkF m 111 #[.val (.int ai), .val (.int bi), .val (.int ci), .val (.int di), .val (.int ei), .val (.int (v_cap ci)), .val (.int (v_i ai ci)), .val (.int (v_mode ei)), .val (.int (v_j ai bi ci ei)), .unset, .val (.int (v_km ei)), .unset, .unset, .unset, .unset, .unset, .unset, .unset, .unset, .unset, .unset, .unset, .unset, .unset] [(.int (2147483647 : Int32)), (.int di)])) _
        refine XS.iand X9.here hx rfl (hb hby at_111) rfl ?_
        show Steps p.tables e below (T9.setTop (mkF m 112 #[.val (.int ai), .val (.int bi), .val (.int ci), .val (.int di), .val (.int ei), .val (.int (v_cap ci)), .val (.int (v_i ai ci)), .val (.int (v_mode ei)), .val (.int (v_j ai bi ci ei)), .unset, .val (.int (v_km ei)), .unset, .unset, .unset, .unset, .unset, .unset, .unset, .unset, .unset, .unset, .unset, .unset, .unset] [(.int (di &&& (2147483647 : Int32)))])) _
        refine XS.iload X9.here hx rfl (hb hby at_112) rfl ?_
        show Steps p.tables e below (T9.setTop (mkF m 114 #[.val (.int ai), .val (.int bi), .val (.int ci), .val (.int di), .val (.int ei), .val (.int (v_cap ci)), .val (.int (v_i ai ci)), .val (.int (v_mode ei)), .val (.int (v_j ai bi ci ei)), .unset, .val (.int (v_km ei)), .unset, .unset, .unset, .unset, .unset, .unset, .unset, .unset, .unset, .unset, .unset, .unset, .unset] [(.int (v_cap ci)), (.int (di &&& (2147483647 : Int32)))])) _
        refine iremM X9 hx rfl (hb hby at_114) rfl (own_nz ci) ?_
        show Steps p.tables e below (T9.setTop (mkF m 115 #[.val (.int ai), .val (.int bi), .val (.int ci), .val (.int di), .val (.int ei), .val (.int (v_cap ci)), .val (.int (v_i ai ci)), .val (.int (v_mode ei)), .val (.int (v_j ai bi ci ei)), .unset, .val (.int (v_km ei)), .unset, .unset, .unset, .unset, .unset, .unset, .unset, .unset, .unset, .unset, .unset, .unset, .unset] [(.int ((di &&& (2147483647 : Int32)) % (v_cap ci)))])) _
        refine XS.istore X9.here hx rfl (hb hby at_115) rfl (l' := #[.val (.int ai), .val (.int bi), .val (.int ci), .val (.int di), .val (.int ei), .val (.int (v_cap ci)), .val (.int (v_i ai ci)), .val (.int (v_mode ei)), .val (.int (v_j ai bi ci ei)), .val (.int (v_kr ci di)), .val (.int (v_km ei)), .unset, .unset, .unset, .unset, .unset, .unset, .unset, .unset, .unset, .unset, .unset, .unset, .unset]) rfl ?_
        exact k _ rfl
  obtain ⟨_, _, ⟨T14, L14, k14, n14⟩, -, X14, ⟨Lc14, hQ14, l14, y14, z14⟩, st14⟩ := Jvm.LawKit.callS X9 hx (y := (⟨"java/lang/Math", "min", "(II)I"⟩ : MethodName)) hown (mvT hZ (hw _ (List.mem_of_getElem? (i := 1) rfl))) (mvT hZ (hw _ (List.mem_of_getElem? (i := 2) rfl))) (mvT hZ (hw _ (List.mem_of_getElem? (i := 3) rfl))) (mvT hZ (hw _ (List.mem_of_getElem? (i := 4) rfl))) (by decide) (backOf (W := 0) (rm1 l Z a0 hw [] (v_i ai ci) (v_j ai bi ci ei) h0 n0 Z0) hZ (hw _ (List.mem_of_getElem? (i := 4) rfl)) (hw _ (List.mem_of_getElem? (i := 3) rfl)) (by decide) (by decide)) (g := (mkF m 121 #[.val (.int ai), .val (.int bi), .val (.int ci), .val (.int di), .val (.int ei), .val (.int (v_cap ci)), .val (.int (v_i ai ci)), .val (.int (v_mode ei)), .val (.int (v_j ai bi ci ei)), .val (.int (v_k ai bi ci di ei)), .val (.int (v_km ei)), .unset, .unset, .unset, .unset, .unset, .unset, .unset, .unset, .unset, .unset, .unset, .unset, .unset] [(.int (v_j ai bi ci ei)), (.int (v_i ai ci))])) rfl (by rw [hml]; rfl) (argsL := [(.int (v_i ai ci)), (.int (v_j ai bi ci ei))]) (rest := []) (lenOf pd_0 rfl) rfl (by show 2 * 0 + _ ≤ _; exact Nat.le_of_eq rfl) (hb hby at_121) (fun _ _ => ⟨rfl, e9, (by decide : 0 + 0 ≤ _), (by decide : 0 + 0 ≤ _)⟩)
  dsimp only [Pt.U, Pt.locs, Pt.cells, Pt.slots] at X14 l14 y14 z14 st14 hQ14
  subst y14 z14
  obtain ⟨rfl, N14q, e14⟩ := hQ14
  have N14 : Fr n0 L14 := by rw [l14]; exact Fr.app N9 N14q
  obtain ⟨_, _, ⟨T15, L15, k15, n15⟩, -, X15, ⟨Lc15, hQ15, l15, y15, z15⟩, st15⟩ := Jvm.LawKit.callS X14 hx (y := (⟨"java/lang/Math", "max", "(II)I"⟩ : MethodName)) hown (mvT hZ (hw _ (List.mem_of_getElem? (i := 5) rfl))) (mvT hZ (hw _ (List.mem_of_getElem? (i := 6) rfl))) (mvT hZ (hw _ (List.mem_of_getElem? (i := 3) rfl))) (mvT hZ (hw _ (List.mem_of_getElem? (i := 7) rfl))) (by decide) (backOf (W := 0) (rm2 l Z a0 hw [] (v_i ai ci) (v_j ai bi ci ei) h0 n0 Z0) hZ (hw _ (List.mem_of_getElem? (i := 7) rfl)) (hw _ (List.mem_of_getElem? (i := 3) rfl)) (by decide) (by decide)) (g := (mkF m 130 #[.val (.int ai), .val (.int bi), .val (.int ci), .val (.int di), .val (.int ei), .val (.int (v_cap ci)), .val (.int (v_i ai ci)), .val (.int (v_mode ei)), .val (.int (v_j ai bi ci ei)), .val (.int (v_k ai bi ci di ei)), .val (.int (v_km ei)), .val (.int (v_lo ai bi ci ei)), .unset, .unset, .unset, .unset, .unset, .unset, .unset, .unset, .unset, .unset, .unset, .unset] [(.int (v_j ai bi ci ei)), (.int (v_i ai ci))])) rfl (by rw [hml]; rfl) (argsL := [(.int (v_i ai ci)), (.int (v_j ai bi ci ei))]) (rest := []) (lenOf pd_0 rfl) rfl (by show 2 * 0 + _ ≤ _; exact Nat.le_of_eq rfl) (hb hby at_130) (fun _ _ => ⟨rfl, e14, (by decide : 0 + 0 ≤ _), (by decide : 0 + 0 ≤ _)⟩)
  dsimp only [Pt.U, Pt.locs, Pt.cells, Pt.slots] at X15 l15 y15 z15 st15 hQ15
  subst y15 z15
  obtain ⟨rfl, N15q, e15⟩ := hQ15
  have N15 : Fr n0 L15 := by rw [l15]; exact Fr.app N14 N15q
  obtain ⟨T16, h16, X16, e16, E16, A16, D16, -, st16⟩ := newO X15 hx hZ hown (hw _ (List.mem_of_getElem? (i := 8) rfl)) (hw _ (List.mem_of_getElem? (i := 9) rfl)) (hw _ (List.mem_of_getElem? (i := 10) rfl)) e15 (g := (mkF m 135 #[.val (.int ai), .val (.int bi), .val (.int ci), .val (.int di), .val (.int ei), .val (.int (v_cap ci)), .val (.int (v_i ai ci)), .val (.int (v_mode ei)), .val (.int (v_j ai bi ci ei)), .val (.int (v_k ai bi ci di ei)), .val (.int (v_km ei)), .val (.int (v_lo ai bi ci ei)), .val (.int (v_hi ai bi ci ei)), .unset, .unset, .unset, .unset, .unset, .unset, .unset, .unset, .unset, .unset, .unset] [])) rfl (hb hby at_135) (by decide) (by decide)
  obtain ⟨b16, g16⟩ : ∃ z, z = h0.size := ⟨_, rfl⟩
  rw [← g16] at A16 D16 st16
  have ge_b16 : n0 ≤ b16 := Nat.le_trans Z0 (Nat.le_of_eq g16.symm)
  have Z16 : n0 ≤ h16.size := Nat.le_trans Z0 E16.1
  have F16_capacity : Fld Z h16 b16 "com/example/cutline/cutline/IndexSet" "capacity" "I" (.int (0 : Int32)) := D16 (Or.inr (hw _ (List.mem_of_getElem? (i := 18) rfl))) (ty := .int) (by decide)
  have F16_words : Fld Z h16 b16 "com/example/cutline/cutline/IndexSet" "words" "[J" .null := D16 (Or.inr (hw _ (List.mem_of_getElem? (i := 21) rfl))) (ty := (.array .long)) (by decide)
  have F16_summary : Fld Z h16 b16 "com/example/cutline/cutline/IndexSet" "summary" "[J" .null := D16 (Or.inr (hw _ (List.mem_of_getElem? (i := 23) rfl))) (ty := (.array .long)) (by decide)
  have F16_size : Fld Z h16 b16 "com/example/cutline/cutline/IndexSet" "size" "I" (.int (0 : Int32)) := D16 (Or.inl (hw _ (List.mem_of_getElem? (i := 30) rfl))) (ty := .int) (by decide)
  obtain ⟨_, _, ⟨T17, L17, k17, n17⟩, -, X17, ⟨Lc17, hQ17, l17, y17, z17⟩, st17⟩ := X16.specialBack hx (y := (⟨"com/example/cutline/cutline/IndexSet", "<init>", "(I)V"⟩ : MethodName)) rfl hown (mvT hZ (hw _ (List.mem_of_getElem? (i := 11) rfl))) (mvT hZ (hw _ (List.mem_of_getElem? (i := 12) rfl))) (mvT hZ (hw _ (List.mem_of_getElem? (i := 13) rfl))) (by decide) (backOf (W := 1) (rm3 l Z a0 hw [] b16 (v_cap ci) (0 : Int32) h16 n0 Z16 ⟨A16, F16_capacity, F16_words, F16_summary, F16_size, ge_b16, Z16⟩ (own_vcap ci).1 (own_vcap ci).2) hZ (hw _ (List.mem_of_getElem? (i := 13) rfl)) (hw _ (List.mem_of_getElem? (i := 10) rfl)) (by decide) (by decide)) (g := (mkF m 141 #[.val (.int ai), .val (.int bi), .val (.int ci), .val (.int di), .val (.int ei), .val (.int (v_cap ci)), .val (.int (v_i ai ci)), .val (.int (v_mode ei)), .val (.int (v_j ai bi ci ei)), .val (.int (v_k ai bi ci di ei)), .val (.int (v_km ei)), .val (.int (v_lo ai bi ci ei)), .val (.int (v_hi ai bi ci ei)), .unset, .unset, .unset, .unset, .unset, .unset, .unset, .unset, .unset, .unset, .unset] [(.int (v_cap ci)), (.ref b16), (.ref b16)])) rfl (by rw [hml]; rfl) (Steps.refl _) (a := b16) (argsL := [(.int (v_cap ci))]) (rest := [(.ref b16)]) (lenOf pd_1 rfl) rfl (by show 2 * 0 + _ ≤ _; exact Nat.le_of_eq rfl) (hb hby at_141) (fun _ _ => ⟨rfl, e16, (by decide : 1 + 2 ≤ _), (by decide : 4 + 260 ≤ _)⟩)
  dsimp only [Pt.U, Pt.locs, Pt.cells, Pt.slots] at X17 l17 y17 z17 st17 hQ17
  subst y17 z17
  obtain ⟨rfl, N17q, aw17, au17, I17⟩ := hQ17
  obtain ⟨k18_0, k18_1, k18_2, k18_3, k18_4, k18_5, k18_6, k18_g_ob, k18_g_aw, k18_g_au, k18_n_ob_aw, k18_n_ob_au, k18_n_aw_au, k18_sz⟩ := I17
  have N17 : Fr n0 L17 := by rw [l17]; exact Fr.app N15 N17q
  obtain ⟨cq19, kq19, q19a, q19b, q19c⟩ := isOf hZ rfl k18_0
  obtain ⟨_, _, ⟨T19, L19, k19, n19⟩, -, X19, ⟨Lc19, hQ19, l19, y19, z19⟩, st19⟩ := X17.virtualBack hx (y := (⟨"com/example/cutline/cutline/IndexSet", "add", "(I)Z"⟩ : MethodName)) (z := (⟨"com/example/cutline/cutline/IndexSet", "add", "(I)Z"⟩ : MethodName)) hown (mvT hZ (hw _ (List.mem_of_getElem? (i := 24) rfl))) (mvT hZ (hw _ (List.mem_of_getElem? (i := 25) rfl))) (notFace_of_selects (args := #[]) (mvT hZ (hw _ (List.mem_of_getElem? (i := 27) rfl)))) (mvT hZ (hw _ (List.mem_of_getElem? (i := 27) rfl))) (mvT hZ (hw _ (List.mem_of_getElem? (i := 26) rfl))) (by decide) (backOf (W := 0) (rm5 l Z a0 hw [] b16 (v_i ai ci) aw17 au17 (v_cap ci) (0 : Int32) (own_nw (v_cap ci)) (fun _ => 0) (own_nw (own_nw (v_cap ci))) (fun _ => 0) T17.heap n0 k18_sz ⟨k18_0, k18_1, k18_2, k18_3, k18_4, k18_5, k18_6, k18_g_ob, k18_g_aw, k18_g_au, k18_n_ob_aw, k18_n_ob_au, k18_n_aw_au, k18_sz⟩ (own_in _ _ (own_vi ai ci) (own_vcap ci)).1 (own_in _ _ (own_vi ai ci) (own_vcap ci)).2) hZ (hw _ (List.mem_of_getElem? (i := 28) rfl)) (hw _ (List.mem_of_getElem? (i := 10) rfl)) (by decide) (by decide)) q19a q19c (g := (mkF m 150 #[.val (.int ai), .val (.int bi), .val (.int ci), .val (.int di), .val (.int ei), .val (.int (v_cap ci)), .val (.int (v_i ai ci)), .val (.int (v_mode ei)), .val (.int (v_j ai bi ci ei)), .val (.int (v_k ai bi ci di ei)), .val (.int (v_km ei)), .val (.int (v_lo ai bi ci ei)), .val (.int (v_hi ai bi ci ei)), .val (.ref b16), .unset, .unset, .unset, .unset, .unset, .unset, .unset, .unset, .unset, .unset] [(.int (v_i ai ci)), (.ref b16)])) rfl (by rw [hml]; rfl) (Steps.refl _) (argsL := [(.int (v_i ai ci))]) (rest := []) (lenOf pd_3 rfl) rfl (by show 2 * 0 + _ ≤ _; exact Nat.le_of_eq rfl) (hb hby at_150) (fun _ _ => ⟨rfl, rfl, (by decide : 3 + 0 ≤ _), (by decide : 264 + 0 ≤ _)⟩)
  dsimp only [Pt.U, Pt.locs, Pt.cells, Pt.slots] at X19 l19 y19 z19 st19 hQ19
  subst y19 z19
  obtain ⟨rfl, N19q, I19⟩ := hQ19
  obtain ⟨k20_0, k20_1, k20_2, k20_3, k20_4, k20_5, k20_6, k20_g_ob, k20_g_aw, k20_g_au, k20_n_ob_aw, k20_n_ob_au, k20_n_aw_au, k20_sz⟩ := I19
  have N19 : Fr n0 L19 := by rw [l19]; exact Fr.app N17 N19q
  obtain ⟨cq21, kq21, q21a, q21b, q21c⟩ := isOf hZ rfl k20_0
  obtain ⟨_, _, ⟨T21, L21, k21, n21⟩, -, X21, ⟨Lc21, hQ21, l21, y21, z21⟩, st21⟩ := X19.virtualBack hx (y := (⟨"com/example/cutline/cutline/IndexSet", "add", "(I)Z"⟩ : MethodName)) (z := (⟨"com/example/cutline/cutline/IndexSet", "add", "(I)Z"⟩ : MethodName)) hown (mvT hZ (hw _ (List.mem_of_getElem? (i := 24) rfl))) (mvT hZ (hw _ (List.mem_of_getElem? (i := 25) rfl))) (notFace_of_selects (args := #[]) (mvT hZ (hw _ (List.mem_of_getElem? (i := 27) rfl)))) (mvT hZ (hw _ (List.mem_of_getElem? (i := 27) rfl))) (mvT hZ (hw _ (List.mem_of_getElem? (i := 26) rfl))) (by decide) (backOf (W := 0) (rm5 l Z a0 hw [] b16 (v_j ai bi ci ei) aw17 au17 (v_cap ci) (v_s1 ai ci) (own_nw (v_cap ci)) (v_w1 ai ci) (own_nw (own_nw (v_cap ci))) (v_u1 ai ci) T19.heap n0 k20_sz ⟨k20_0, k20_1, k20_2, k20_3, k20_4, k20_5, k20_6, k20_g_ob, k20_g_aw, k20_g_au, k20_n_ob_aw, k20_n_ob_au, k20_n_aw_au, k20_sz⟩ (own_in _ _ (own_vj ai bi ci ei) (own_vcap ci)).1 (own_in _ _ (own_vj ai bi ci ei) (own_vcap ci)).2) hZ (hw _ (List.mem_of_getElem? (i := 28) rfl)) (hw _ (List.mem_of_getElem? (i := 10) rfl)) (by decide) (by decide)) q21a q21c (g := (mkF m 159 #[.val (.int ai), .val (.int bi), .val (.int ci), .val (.int di), .val (.int ei), .val (.int (v_cap ci)), .val (.int (v_i ai ci)), .val (.int (v_mode ei)), .val (.int (v_j ai bi ci ei)), .val (.int (v_k ai bi ci di ei)), .val (.int (v_km ei)), .val (.int (v_lo ai bi ci ei)), .val (.int (v_hi ai bi ci ei)), .val (.ref b16), .val (.int (b2i (v_r1 ai ci))), .unset, .unset, .unset, .unset, .unset, .unset, .unset, .unset, .unset] [(.int (v_j ai bi ci ei)), (.ref b16)])) rfl (by rw [hml]; rfl) (Steps.refl _) (argsL := [(.int (v_j ai bi ci ei))]) (rest := []) (lenOf pd_3 rfl) rfl (by show 2 * 0 + _ ≤ _; exact Nat.le_of_eq rfl) (hb hby at_159) (fun _ _ => ⟨rfl, rfl, (by decide : 3 + 0 ≤ _), (by decide : 264 + 0 ≤ _)⟩)
  dsimp only [Pt.U, Pt.locs, Pt.cells, Pt.slots] at X21 l21 y21 z21 st21 hQ21
  subst y21 z21
  obtain ⟨rfl, N21q, I21⟩ := hQ21
  obtain ⟨k22_0, k22_1, k22_2, k22_3, k22_4, k22_5, k22_6, k22_g_ob, k22_g_aw, k22_g_au, k22_n_ob_aw, k22_n_ob_au, k22_n_aw_au, k22_sz⟩ := I21
  have N21 : Fr n0 L21 := by rw [l21]; exact Fr.app N19 N21q
  obtain ⟨cq23, kq23, q23a, q23b, q23c⟩ := isOf hZ rfl k22_0
  obtain ⟨_, _, ⟨T23, L23, k23, n23⟩, -, X23, ⟨Lc23, hQ23, l23, y23, z23⟩, st23⟩ := X21.virtualBack hx (y := (⟨"com/example/cutline/cutline/IndexSet", "add", "(I)Z"⟩ : MethodName)) (z := (⟨"com/example/cutline/cutline/IndexSet", "add", "(I)Z"⟩ : MethodName)) hown (mvT hZ (hw _ (List.mem_of_getElem? (i := 24) rfl))) (mvT hZ (hw _ (List.mem_of_getElem? (i := 25) rfl))) (notFace_of_selects (args := #[]) (mvT hZ (hw _ (List.mem_of_getElem? (i := 27) rfl)))) (mvT hZ (hw _ (List.mem_of_getElem? (i := 27) rfl))) (mvT hZ (hw _ (List.mem_of_getElem? (i := 26) rfl))) (by decide) (backOf (W := 0) (rm5 l Z a0 hw [] b16 (v_i ai ci) aw17 au17 (v_cap ci) (v_s2 ai bi ci ei) (own_nw (v_cap ci)) (v_w2 ai bi ci ei) (own_nw (own_nw (v_cap ci))) (v_u2 ai bi ci ei) T21.heap n0 k22_sz ⟨k22_0, k22_1, k22_2, k22_3, k22_4, k22_5, k22_6, k22_g_ob, k22_g_aw, k22_g_au, k22_n_ob_aw, k22_n_ob_au, k22_n_aw_au, k22_sz⟩ (own_in _ _ (own_vi ai ci) (own_vcap ci)).1 (own_in _ _ (own_vi ai ci) (own_vcap ci)).2) hZ (hw _ (List.mem_of_getElem? (i := 28) rfl)) (hw _ (List.mem_of_getElem? (i := 10) rfl)) (by decide) (by decide)) q23a q23c (g := (mkF m 168 #[.val (.int ai), .val (.int bi), .val (.int ci), .val (.int di), .val (.int ei), .val (.int (v_cap ci)), .val (.int (v_i ai ci)), .val (.int (v_mode ei)), .val (.int (v_j ai bi ci ei)), .val (.int (v_k ai bi ci di ei)), .val (.int (v_km ei)), .val (.int (v_lo ai bi ci ei)), .val (.int (v_hi ai bi ci ei)), .val (.ref b16), .val (.int (b2i (v_r1 ai ci))), .val (.int (b2i (v_r2 ai bi ci ei))), .unset, .unset, .unset, .unset, .unset, .unset, .unset, .unset] [(.int (v_i ai ci)), (.ref b16)])) rfl (by rw [hml]; rfl) (Steps.refl _) (argsL := [(.int (v_i ai ci))]) (rest := []) (lenOf pd_3 rfl) rfl (by show 2 * 0 + _ ≤ _; exact Nat.le_of_eq rfl) (hb hby at_168) (fun _ _ => ⟨rfl, rfl, (by decide : 3 + 0 ≤ _), (by decide : 264 + 0 ≤ _)⟩)
  dsimp only [Pt.U, Pt.locs, Pt.cells, Pt.slots] at X23 l23 y23 z23 st23 hQ23
  subst y23 z23
  obtain ⟨rfl, N23q, I23⟩ := hQ23
  obtain ⟨k24_0, k24_1, k24_2, k24_3, k24_4, k24_5, k24_6, k24_g_ob, k24_g_aw, k24_g_au, k24_n_ob_aw, k24_n_ob_au, k24_n_aw_au, k24_sz⟩ := I23
  have N23 : Fr n0 L23 := by rw [l23]; exact Fr.app N21 N23q
  obtain ⟨cq25, kq25, q25a, q25b, q25c⟩ := isOf hZ rfl k24_0
  obtain ⟨_, _, ⟨T25, L25, k25, n25⟩, -, X25, ⟨Lc25, hQ25, l25, y25, z25⟩, st25⟩ := X23.virtualBack hx (y := (⟨"com/example/cutline/cutline/IndexSet", "size", "()I"⟩ : MethodName)) (z := (⟨"com/example/cutline/cutline/IndexSet", "size", "()I"⟩ : MethodName)) hown (mvT hZ (hw _ (List.mem_of_getElem? (i := 31) rfl))) (mvT hZ (hw _ (List.mem_of_getElem? (i := 32) rfl))) (notFace_of_selects (args := #[]) (mvT hZ (hw _ (List.mem_of_getElem? (i := 34) rfl)))) (mvT hZ (hw _ (List.mem_of_getElem? (i := 34) rfl))) (mvT hZ (hw _ (List.mem_of_getElem? (i := 33) rfl))) (by decide) (backOf (W := 0) (rm6 l Z a0 hw [] b16 aw17 au17 (v_cap ci) (v_s3 ai bi ci ei) (own_nw (v_cap ci)) (v_w3 ai bi ci ei) (own_nw (own_nw (v_cap ci))) (v_u3 ai bi ci ei) T23.heap n0 k24_sz ⟨k24_0, k24_1, k24_2, k24_3, k24_4, k24_5, k24_6, k24_g_ob, k24_g_aw, k24_g_au, k24_n_ob_aw, k24_n_ob_au, k24_n_aw_au, k24_sz⟩) hZ (hw _ (List.mem_of_getElem? (i := 35) rfl)) (hw _ (List.mem_of_getElem? (i := 10) rfl)) (by decide) (by decide)) q25a q25c (g := (mkF m 175 #[.val (.int ai), .val (.int bi), .val (.int ci), .val (.int di), .val (.int ei), .val (.int (v_cap ci)), .val (.int (v_i ai ci)), .val (.int (v_mode ei)), .val (.int (v_j ai bi ci ei)), .val (.int (v_k ai bi ci di ei)), .val (.int (v_km ei)), .val (.int (v_lo ai bi ci ei)), .val (.int (v_hi ai bi ci ei)), .val (.ref b16), .val (.int (b2i (v_r1 ai ci))), .val (.int (b2i (v_r2 ai bi ci ei))), .val (.int (b2i (v_r3 ai bi ci ei))), .unset, .unset, .unset, .unset, .unset, .unset, .unset] [(.ref b16)])) rfl (by rw [hml]; rfl) (Steps.refl _) (argsL := []) (rest := []) (lenOf pd_4 rfl) rfl (by show 2 * 0 + _ ≤ _; exact Nat.le_of_eq rfl) (hb hby at_175) (fun _ _ => ⟨rfl, rfl, (by decide : 3 + 0 ≤ _), (by decide : 264 + 0 ≤ _)⟩)
  dsimp only [Pt.U, Pt.locs, Pt.cells, Pt.slots] at X25 l25 y25 z25 st25 hQ25
  subst y25 z25
  obtain ⟨rfl, N25q, e25⟩ := hQ25
  have N25 : Fr n0 L25 := by rw [l25]; exact Fr.app N23 N25q
  obtain ⟨cq26, kq26, q26a, q26b, q26c⟩ := isOf hZ e25 k24_0
  obtain ⟨_, _, ⟨T26, L26, k26, n26⟩, -, X26, ⟨Lc26, hQ26, l26, y26, z26⟩, st26⟩ := X25.virtualBack hx (y := (⟨"com/example/cutline/cutline/IndexSet", "next", "(I)I"⟩ : MethodName)) (z := (⟨"com/example/cutline/cutline/IndexSet", "next", "(I)I"⟩ : MethodName)) hown (mvT hZ (hw _ (List.mem_of_getElem? (i := 36) rfl))) (mvT hZ (hw _ (List.mem_of_getElem? (i := 37) rfl))) (notFace_of_selects (args := #[]) (mvT hZ (hw _ (List.mem_of_getElem? (i := 39) rfl)))) (mvT hZ (hw _ (List.mem_of_getElem? (i := 39) rfl))) (mvT hZ (hw _ (List.mem_of_getElem? (i := 38) rfl))) (by decide) (backOf (W := 0) (rm7 l Z a0 hw [] b16 (0 : Int32) aw17 au17 (v_cap ci) (v_s3 ai bi ci ei) (own_nw (v_cap ci)) (v_w3 ai bi ci ei) (own_nw (own_nw (v_cap ci))) (v_u3 ai bi ci ei) T23.heap n0 k24_sz ⟨k24_0, k24_1, k24_2, k24_3, k24_4, k24_5, k24_6, k24_g_ob, k24_g_aw, k24_g_au, k24_n_ob_aw, k24_n_ob_au, k24_n_aw_au, k24_sz⟩ (own_np0 ai bi ci ei).1 (own_np0 ai bi ci ei).2.1 (own_np0 ai bi ci ei).2.2.1 (own_np0 ai bi ci ei).2.2.2.1 (own_np0 ai bi ci ei).2.2.2.2.1 (own_np0 ai bi ci ei).2.2.2.2.2.1 (own_np0 ai bi ci ei).2.2.2.2.2.2) hZ (hw _ (List.mem_of_getElem? (i := 40) rfl)) (hw _ (List.mem_of_getElem? (i := 10) rfl)) (by decide) (by decide)) q26a q26c (g := (mkF m 183 #[.val (.int ai), .val (.int bi), .val (.int ci), .val (.int di), .val (.int ei), .val (.int (v_cap ci)), .val (.int (v_i ai ci)), .val (.int (v_mode ei)), .val (.int (v_j ai bi ci ei)), .val (.int (v_k ai bi ci di ei)), .val (.int (v_km ei)), .val (.int (v_lo ai bi ci ei)), .val (.int (v_hi ai bi ci ei)), .val (.ref b16), .val (.int (b2i (v_r1 ai ci))), .val (.int (b2i (v_r2 ai bi ci ei))), .val (.int (b2i (v_r3 ai bi ci ei))), .val (.int (v_sz ai bi ci ei)), .unset, .unset, .unset, .unset, .unset, .unset] [(.int (0 : Int32)), (.ref b16)])) rfl (by rw [hml]; rfl) (Steps.refl _) (argsL := [(.int (0 : Int32))]) (rest := []) (lenOf pd_5 rfl) rfl (by show 2 * 0 + _ ≤ _; exact Nat.le_of_eq rfl) (hb hby at_183) (fun _ _ => ⟨rfl, e25, (by decide : 3 + 0 ≤ _), (by decide : 264 + 0 ≤ _)⟩)
  dsimp only [Pt.U, Pt.locs, Pt.cells, Pt.slots] at X26 l26 y26 z26 st26 hQ26
  subst y26 z26
  obtain ⟨rfl, N26q, e26⟩ := hQ26
  have N26 : Fr n0 L26 := by rw [l26]; exact Fr.app N25 N26q
  obtain ⟨cq27, kq27, q27a, q27b, q27c⟩ := isOf hZ e26 k24_0
  obtain ⟨_, _, ⟨T27, L27, k27, n27⟩, -, X27, ⟨Lc27, hQ27, l27, y27, z27⟩, st27⟩ := X26.virtualBack hx (y := (⟨"com/example/cutline/cutline/IndexSet", "next", "(I)I"⟩ : MethodName)) (z := (⟨"com/example/cutline/cutline/IndexSet", "next", "(I)I"⟩ : MethodName)) hown (mvT hZ (hw _ (List.mem_of_getElem? (i := 36) rfl))) (mvT hZ (hw _ (List.mem_of_getElem? (i := 37) rfl))) (notFace_of_selects (args := #[]) (mvT hZ (hw _ (List.mem_of_getElem? (i := 39) rfl)))) (mvT hZ (hw _ (List.mem_of_getElem? (i := 39) rfl))) (mvT hZ (hw _ (List.mem_of_getElem? (i := 38) rfl))) (by decide) (backOf (W := 0) (rm7 l Z a0 hw [] b16 (v_lo1 ai bi ci ei) aw17 au17 (v_cap ci) (v_s3 ai bi ci ei) (own_nw (v_cap ci)) (v_w3 ai bi ci ei) (own_nw (own_nw (v_cap ci))) (v_u3 ai bi ci ei) T23.heap n0 k24_sz ⟨k24_0, k24_1, k24_2, k24_3, k24_4, k24_5, k24_6, k24_g_ob, k24_g_aw, k24_g_au, k24_n_ob_aw, k24_n_ob_au, k24_n_aw_au, k24_sz⟩ (own_np1 ai bi ci ei).1 (own_np1 ai bi ci ei).2.1 (own_np1 ai bi ci ei).2.2.1 (own_np1 ai bi ci ei).2.2.2.1 (own_np1 ai bi ci ei).2.2.2.2.1 (own_np1 ai bi ci ei).2.2.2.2.2.1 (own_np1 ai bi ci ei).2.2.2.2.2.2) hZ (hw _ (List.mem_of_getElem? (i := 40) rfl)) (hw _ (List.mem_of_getElem? (i := 10) rfl)) (by decide) (by decide)) q27a q27c (g := (mkF m 194 #[.val (.int ai), .val (.int bi), .val (.int ci), .val (.int di), .val (.int ei), .val (.int (v_cap ci)), .val (.int (v_i ai ci)), .val (.int (v_mode ei)), .val (.int (v_j ai bi ci ei)), .val (.int (v_k ai bi ci di ei)), .val (.int (v_km ei)), .val (.int (v_lo ai bi ci ei)), .val (.int (v_hi ai bi ci ei)), .val (.ref b16), .val (.int (b2i (v_r1 ai ci))), .val (.int (b2i (v_r2 ai bi ci ei))), .val (.int (b2i (v_r3 ai bi ci ei))), .val (.int (v_sz ai bi ci ei)), .val (.int (v_n0 ai bi ci ei)), .unset, .unset, .unset, .unset, .unset] [(.int (v_lo1 ai bi ci ei)), (.ref b16)])) rfl (by rw [hml]; rfl) (Steps.refl _) (argsL := [(.int (v_lo1 ai bi ci ei))]) (rest := []) (lenOf pd_5 rfl) rfl (by show 2 * 0 + _ ≤ _; exact Nat.le_of_eq rfl) (hb hby at_194) (fun _ _ => ⟨rfl, e26, (by decide : 3 + 0 ≤ _), (by decide : 264 + 0 ≤ _)⟩)
  dsimp only [Pt.U, Pt.locs, Pt.cells, Pt.slots] at X27 l27 y27 z27 st27 hQ27
  subst y27 z27
  obtain ⟨rfl, N27q, e27⟩ := hQ27
  have N27 : Fr n0 L27 := by rw [l27]; exact Fr.app N26 N27q
  obtain ⟨cq28, kq28, q28a, q28b, q28c⟩ := isOf hZ e27 k24_0
  obtain ⟨_, _, ⟨T28, L28, k28, n28⟩, -, X28, ⟨Lc28, hQ28, l28, y28, z28⟩, st28⟩ := X27.virtualBack hx (y := (⟨"com/example/cutline/cutline/IndexSet", "contains", "(I)Z"⟩ : MethodName)) (z := (⟨"com/example/cutline/cutline/IndexSet", "contains", "(I)Z"⟩ : MethodName)) hown (mvT hZ (hw _ (List.mem_of_getElem? (i := 50) rfl))) (mvT hZ (hw _ (List.mem_of_getElem? (i := 51) rfl))) (notFace_of_selects (args := #[]) (mvT hZ (hw _ (List.mem_of_getElem? (i := 53) rfl)))) (mvT hZ (hw _ (List.mem_of_getElem? (i := 53) rfl))) (mvT hZ (hw _ (List.mem_of_getElem? (i := 52) rfl))) (by decide) (backOf (W := 0) (rm10 l Z a0 hw [] b16 (v_k ai bi ci di ei) aw17 au17 (v_cap ci) (v_s3 ai bi ci ei) (own_nw (v_cap ci)) (v_w3 ai bi ci ei) (own_nw (own_nw (v_cap ci))) (v_u3 ai bi ci ei) T23.heap n0 k24_sz ⟨k24_0, k24_1, k24_2, k24_3, k24_4, k24_5, k24_6, k24_g_ob, k24_g_aw, k24_g_au, k24_n_ob_aw, k24_n_ob_au, k24_n_aw_au, k24_sz⟩ (own_in _ _ (own_vk ai bi ci di ei) (own_vcap ci)).1) hZ (hw _ (List.mem_of_getElem? (i := 54) rfl)) (hw _ (List.mem_of_getElem? (i := 10) rfl)) (by decide) (by decide)) q28a q28c (g := (mkF m 203 #[.val (.int ai), .val (.int bi), .val (.int ci), .val (.int di), .val (.int ei), .val (.int (v_cap ci)), .val (.int (v_i ai ci)), .val (.int (v_mode ei)), .val (.int (v_j ai bi ci ei)), .val (.int (v_k ai bi ci di ei)), .val (.int (v_km ei)), .val (.int (v_lo ai bi ci ei)), .val (.int (v_hi ai bi ci ei)), .val (.ref b16), .val (.int (b2i (v_r1 ai ci))), .val (.int (b2i (v_r2 ai bi ci ei))), .val (.int (b2i (v_r3 ai bi ci ei))), .val (.int (v_sz ai bi ci ei)), .val (.int (v_n0 ai bi ci ei)), .val (.int (v_n1 ai bi ci ei)), .unset, .unset, .unset, .unset] [(.int (v_k ai bi ci di ei)), (.ref b16)])) rfl (by rw [hml]; rfl) (Steps.refl _) (argsL := [(.int (v_k ai bi ci di ei))]) (rest := []) (lenOf pd_3 rfl) rfl (by show 2 * 0 + _ ≤ _; exact Nat.le_of_eq rfl) (hb hby at_203) (fun _ _ => ⟨rfl, e27, (by decide : 3 + 0 ≤ _), (by decide : 264 + 0 ≤ _)⟩)
  dsimp only [Pt.U, Pt.locs, Pt.cells, Pt.slots] at X28 l28 y28 z28 st28 hQ28
  subst y28 z28
  obtain ⟨rfl, N28q, e28⟩ := hQ28
  have N28 : Fr n0 L28 := by rw [l28]; exact Fr.app N27 N28q
  have pre29 : ∀ t, Steps p.tables e below (T28.setTop (mkF m 212 #[.val (.int ai), .val (.int bi), .val (.int ci), .val (.int di), .val (.int ei), .val (.int (v_cap ci)), .val (.int (v_i ai ci)), .val (.int (v_mode ei)), .val (.int (v_j ai bi ci ei)), .val (.int (v_k ai bi ci di ei)), .val (.int (v_km ei)), .val (.int (v_lo ai bi ci ei)), .val (.int (v_hi ai bi ci ei)), .val (.ref b16), .val (.int (b2i (v_r1 ai ci))), .val (.int (b2i (v_r2 ai bi ci ei))), .val (.int (b2i (v_r3 ai bi ci ei))), .val (.int (v_sz ai bi ci ei)), .val (.int (v_n0 ai bi ci ei)), .val (.int (v_n1 ai bi ci ei)), .val (.int (b2i (v_ck ai bi ci di ei))), .unset, .unset, .unset] [(.int (v_j ai bi ci ei)), (.int (v_i ai ci))])) t → Steps p.tables e below (s₁.setTop (entryFrame m #[(.int ai), (.int bi), (.int ci), (.int di), (.int ei)] maxLocals)) t := by
    intro t k
    refine pre11 t ?_
    show Steps p.tables e below (T9.setTop (mkF m 117 #[.val (.int ai), .val (.int bi), .val (.int ci), .val (.int di), .val (.int ei), .val (.int (v_cap ci)), .val (.int (v_i ai ci)), .val (.int (v_mode ei)), .val (.int (v_j ai bi ci ei)), .val (.int (v_k ai bi ci di ei)), .val (.int (v_km ei)), .unset, .unset, .unset, .unset, .unset, .unset, .unset, .unset, .unset, .unset, .unset, .unset, .unset] [])) _
    refine XS.iload X9.here hx rfl (hb hby at_117) rfl ?_
    show Steps p.tables e below (T9.setTop (mkF m 119 #[.val (.int ai), .val (.int bi), .val (.int ci), .val (.int di), .val (.int ei), .val (.int (v_cap ci)), .val (.int (v_i ai ci)), .val (.int (v_mode ei)), .val (.int (v_j ai bi ci ei)), .val (.int (v_k ai bi ci di ei)), .val (.int (v_km ei)), .unset, .unset, .unset, .unset, .unset, .unset, .unset, .unset, .unset, .unset, .unset, .unset, .unset] [(.int (v_i ai ci))])) _
    refine XS.iload X9.here hx rfl (hb hby at_119) rfl ?_
    show Steps p.tables e below (T9.setTop (mkF m 121 #[.val (.int ai), .val (.int bi), .val (.int ci), .val (.int di), .val (.int ei), .val (.int (v_cap ci)), .val (.int (v_i ai ci)), .val (.int (v_mode ei)), .val (.int (v_j ai bi ci ei)), .val (.int (v_k ai bi ci di ei)), .val (.int (v_km ei)), .unset, .unset, .unset, .unset, .unset, .unset, .unset, .unset, .unset, .unset, .unset, .unset, .unset] [(.int (v_j ai bi ci ei)), (.int (v_i ai ci))])) _
    refine st14 _ ?_
    show Steps p.tables e below (T14.setTop (mkF m 124 #[.val (.int ai), .val (.int bi), .val (.int ci), .val (.int di), .val (.int ei), .val (.int (v_cap ci)), .val (.int (v_i ai ci)), .val (.int (v_mode ei)), .val (.int (v_j ai bi ci ei)), .val (.int (v_k ai bi ci di ei)), .val (.int (v_km ei)), .unset, .unset, .unset, .unset, .unset, .unset, .unset, .unset, .unset, .unset, .unset, .unset, .unset] [(.int (Fmin (v_i ai ci) (v_j ai bi ci ei)))])) _
    refine XS.istore X14.here hx rfl (hb hby at_124) rfl (l' := #[.val (.int ai), .val (.int bi), .val (.int ci), .val (.int di), .val (.int ei), .val (.int (v_cap ci)), .val (.int (v_i ai ci)), .val (.int (v_mode ei)), .val (.int (v_j ai bi ci ei)), .val (.int (v_k ai bi ci di ei)), .val (.int (v_km ei)), .val (.int (v_lo ai bi ci ei)), .unset, .unset, .unset, .unset, .unset, .unset, .unset, .unset, .unset, .unset, .unset, .unset]) rfl ?_
    show Steps p.tables e below (T14.setTop (mkF m 126 #[.val (.int ai), .val (.int bi), .val (.int ci), .val (.int di), .val (.int ei), .val (.int (v_cap ci)), .val (.int (v_i ai ci)), .val (.int (v_mode ei)), .val (.int (v_j ai bi ci ei)), .val (.int (v_k ai bi ci di ei)), .val (.int (v_km ei)), .val (.int (v_lo ai bi ci ei)), .unset, .unset, .unset, .unset, .unset, .unset, .unset, .unset, .unset, .unset, .unset, .unset] [])) _
    refine XS.iload X14.here hx rfl (hb hby at_126) rfl ?_
    show Steps p.tables e below (T14.setTop (mkF m 128 #[.val (.int ai), .val (.int bi), .val (.int ci), .val (.int di), .val (.int ei), .val (.int (v_cap ci)), .val (.int (v_i ai ci)), .val (.int (v_mode ei)), .val (.int (v_j ai bi ci ei)), .val (.int (v_k ai bi ci di ei)), .val (.int (v_km ei)), .val (.int (v_lo ai bi ci ei)), .unset, .unset, .unset, .unset, .unset, .unset, .unset, .unset, .unset, .unset, .unset, .unset] [(.int (v_i ai ci))])) _
    refine XS.iload X14.here hx rfl (hb hby at_128) rfl ?_
    show Steps p.tables e below (T14.setTop (mkF m 130 #[.val (.int ai), .val (.int bi), .val (.int ci), .val (.int di), .val (.int ei), .val (.int (v_cap ci)), .val (.int (v_i ai ci)), .val (.int (v_mode ei)), .val (.int (v_j ai bi ci ei)), .val (.int (v_k ai bi ci di ei)), .val (.int (v_km ei)), .val (.int (v_lo ai bi ci ei)), .unset, .unset, .unset, .unset, .unset, .unset, .unset, .unset, .unset, .unset, .unset, .unset] [(.int (v_j ai bi ci ei)), (.int (v_i ai ci))])) _
    refine st15 _ ?_
    show Steps p.tables e below (T15.setTop (mkF m 133 #[.val (.int ai), .val (.int bi), .val (.int ci), .val (.int di), .val (.int ei), .val (.int (v_cap ci)), .val (.int (v_i ai ci)), .val (.int (v_mode ei)), .val (.int (v_j ai bi ci ei)), .val (.int (v_k ai bi ci di ei)), .val (.int (v_km ei)), .val (.int (v_lo ai bi ci ei)), .unset, .unset, .unset, .unset, .unset, .unset, .unset, .unset, .unset, .unset, .unset, .unset] [(.int (Fmax (v_i ai ci) (v_j ai bi ci ei)))])) _
    refine XS.istore X15.here hx rfl (hb hby at_133) rfl (l' := #[.val (.int ai), .val (.int bi), .val (.int ci), .val (.int di), .val (.int ei), .val (.int (v_cap ci)), .val (.int (v_i ai ci)), .val (.int (v_mode ei)), .val (.int (v_j ai bi ci ei)), .val (.int (v_k ai bi ci di ei)), .val (.int (v_km ei)), .val (.int (v_lo ai bi ci ei)), .val (.int (v_hi ai bi ci ei)), .unset, .unset, .unset, .unset, .unset, .unset, .unset, .unset, .unset, .unset, .unset]) rfl ?_
    show Steps p.tables e below (T15.setTop (mkF m 135 #[.val (.int ai), .val (.int bi), .val (.int ci), .val (.int di), .val (.int ei), .val (.int (v_cap ci)), .val (.int (v_i ai ci)), .val (.int (v_mode ei)), .val (.int (v_j ai bi ci ei)), .val (.int (v_k ai bi ci di ei)), .val (.int (v_km ei)), .val (.int (v_lo ai bi ci ei)), .val (.int (v_hi ai bi ci ei)), .unset, .unset, .unset, .unset, .unset, .unset, .unset, .unset, .unset, .unset, .unset] [])) _
    refine st16 _ ?_
    show Steps p.tables e below (T16.setTop (mkF m 138 #[.val (.int ai), .val (.int bi), .val (.int ci), .val (.int di), .val (.int ei), .val (.int (v_cap ci)), .val (.int (v_i ai ci)), .val (.int (v_mode ei)), .val (.int (v_j ai bi ci ei)), .val (.int (v_k ai bi ci di ei)), .val (.int (v_km ei)), .val (.int (v_lo ai bi ci ei)), .val (.int (v_hi ai bi ci ei)), .unset, .unset, .unset, .unset, .unset, .unset, .unset, .unset, .unset, .unset, .unset] [(.ref b16)])) _
    refine XS.dup X16.here hx rfl (hb hby at_138) rfl rfl ?_
    show Steps p.tables e below (T16.setTop (mkF m 139 #[.val (.int ai), .val (.int bi), .val (.int ci), .val (.int di), .val (.int ei), .val (.int (v_cap ci)), .val (.int (v_i ai ci)), .val (.int (v_mode ei)), .val (.int (v_j ai bi ci ei)), .val (.int (v_k ai bi ci di ei)), .val (.int (v_km ei)), .val (.int (v_lo ai bi ci ei)), .val (.int (v_hi ai bi ci ei)), .unset, .unset, .unset, .unset, .unset, .unset, .unset, .unset, .unset, .unset, .unset] [(.ref b16), (.ref b16)])) _
    refine XS.iload X16.here hx rfl (hb hby at_139) rfl ?_
    show Steps p.tables e below (T16.setTop (mkF m 141 #[.val (.int ai), .val (.int bi), .val (.int ci), .val (.int di), .val (.int ei), .val (.int (v_cap ci)), .val (.int (v_i ai ci)), .val (.int (v_mode ei)), .val (.int (v_j ai bi ci ei)), .val (.int (v_k ai bi ci di ei)), .val (.int (v_km ei)), .val (.int (v_lo ai bi ci ei)), .val (.int (v_hi ai bi ci ei)), .unset, .unset, .unset, .unset, .unset, .unset, .unset, .unset, .unset, .unset, .unset] [(.int (v_cap ci)), (.ref b16), (.ref b16)])) _
    refine st17.trans ?_
    show Steps p.tables e below (T17.setTop (mkF m 144 #[.val (.int ai), .val (.int bi), .val (.int ci), .val (.int di), .val (.int ei), .val (.int (v_cap ci)), .val (.int (v_i ai ci)), .val (.int (v_mode ei)), .val (.int (v_j ai bi ci ei)), .val (.int (v_k ai bi ci di ei)), .val (.int (v_km ei)), .val (.int (v_lo ai bi ci ei)), .val (.int (v_hi ai bi ci ei)), .unset, .unset, .unset, .unset, .unset, .unset, .unset, .unset, .unset, .unset, .unset] [(.ref b16)])) _
    refine XS.astore X17.here hx rfl (hb hby at_144) rfl rfl (l' := #[.val (.int ai), .val (.int bi), .val (.int ci), .val (.int di), .val (.int ei), .val (.int (v_cap ci)), .val (.int (v_i ai ci)), .val (.int (v_mode ei)), .val (.int (v_j ai bi ci ei)), .val (.int (v_k ai bi ci di ei)), .val (.int (v_km ei)), .val (.int (v_lo ai bi ci ei)), .val (.int (v_hi ai bi ci ei)), .val (.ref b16), .unset, .unset, .unset, .unset, .unset, .unset, .unset, .unset, .unset, .unset]) rfl ?_
    show Steps p.tables e below (T17.setTop (mkF m 146 #[.val (.int ai), .val (.int bi), .val (.int ci), .val (.int di), .val (.int ei), .val (.int (v_cap ci)), .val (.int (v_i ai ci)), .val (.int (v_mode ei)), .val (.int (v_j ai bi ci ei)), .val (.int (v_k ai bi ci di ei)), .val (.int (v_km ei)), .val (.int (v_lo ai bi ci ei)), .val (.int (v_hi ai bi ci ei)), .val (.ref b16), .unset, .unset, .unset, .unset, .unset, .unset, .unset, .unset, .unset, .unset] [])) _
    refine XS.aload X17.here hx rfl (hb hby at_146) rfl rfl ?_
    show Steps p.tables e below (T17.setTop (mkF m 148 #[.val (.int ai), .val (.int bi), .val (.int ci), .val (.int di), .val (.int ei), .val (.int (v_cap ci)), .val (.int (v_i ai ci)), .val (.int (v_mode ei)), .val (.int (v_j ai bi ci ei)), .val (.int (v_k ai bi ci di ei)), .val (.int (v_km ei)), .val (.int (v_lo ai bi ci ei)), .val (.int (v_hi ai bi ci ei)), .val (.ref b16), .unset, .unset, .unset, .unset, .unset, .unset, .unset, .unset, .unset, .unset] [(.ref b16)])) _
    refine XS.iload X17.here hx rfl (hb hby at_148) rfl ?_
    show Steps p.tables e below (T17.setTop (mkF m 150 #[.val (.int ai), .val (.int bi), .val (.int ci), .val (.int di), .val (.int ei), .val (.int (v_cap ci)), .val (.int (v_i ai ci)), .val (.int (v_mode ei)), .val (.int (v_j ai bi ci ei)), .val (.int (v_k ai bi ci di ei)), .val (.int (v_km ei)), .val (.int (v_lo ai bi ci ei)), .val (.int (v_hi ai bi ci ei)), .val (.ref b16), .unset, .unset, .unset, .unset, .unset, .unset, .unset, .unset, .unset, .unset] [(.int (v_i ai ci)), (.ref b16)])) _
    refine st19.trans ?_
    show Steps p.tables e below (T19.setTop (mkF m 153 #[.val (.int ai), .val (.int bi), .val (.int ci), .val (.int di), .val (.int ei), .val (.int (v_cap ci)), .val (.int (v_i ai ci)), .val (.int (v_mode ei)), .val (.int (v_j ai bi ci ei)), .val (.int (v_k ai bi ci di ei)), .val (.int (v_km ei)), .val (.int (v_lo ai bi ci ei)), .val (.int (v_hi ai bi ci ei)), .val (.ref b16), .unset, .unset, .unset, .unset, .unset, .unset, .unset, .unset, .unset, .unset] [(.int (b2i (Fadd (v_i ai ci) (fun _ => 0))))])) _
    refine XS.istore X19.here hx rfl (hb hby at_153) rfl (l' := #[.val (.int ai), .val (.int bi), .val (.int ci), .val (.int di), .val (.int ei), .val (.int (v_cap ci)), .val (.int (v_i ai ci)), .val (.int (v_mode ei)), .val (.int (v_j ai bi ci ei)), .val (.int (v_k ai bi ci di ei)), .val (.int (v_km ei)), .val (.int (v_lo ai bi ci ei)), .val (.int (v_hi ai bi ci ei)), .val (.ref b16), .val (.int (b2i (v_r1 ai ci))), .unset, .unset, .unset, .unset, .unset, .unset, .unset, .unset, .unset]) rfl ?_
    show Steps p.tables e below (T19.setTop (mkF m 155 #[.val (.int ai), .val (.int bi), .val (.int ci), .val (.int di), .val (.int ei), .val (.int (v_cap ci)), .val (.int (v_i ai ci)), .val (.int (v_mode ei)), .val (.int (v_j ai bi ci ei)), .val (.int (v_k ai bi ci di ei)), .val (.int (v_km ei)), .val (.int (v_lo ai bi ci ei)), .val (.int (v_hi ai bi ci ei)), .val (.ref b16), .val (.int (b2i (v_r1 ai ci))), .unset, .unset, .unset, .unset, .unset, .unset, .unset, .unset, .unset] [])) _
    refine XS.aload X19.here hx rfl (hb hby at_155) rfl rfl ?_
    show Steps p.tables e below (T19.setTop (mkF m 157 #[.val (.int ai), .val (.int bi), .val (.int ci), .val (.int di), .val (.int ei), .val (.int (v_cap ci)), .val (.int (v_i ai ci)), .val (.int (v_mode ei)), .val (.int (v_j ai bi ci ei)), .val (.int (v_k ai bi ci di ei)), .val (.int (v_km ei)), .val (.int (v_lo ai bi ci ei)), .val (.int (v_hi ai bi ci ei)), .val (.ref b16), .val (.int (b2i (v_r1 ai ci))), .unset, .unset, .unset, .unset, .unset, .unset, .unset, .unset, .unset] [(.ref b16)])) _
    refine XS.iload X19.here hx rfl (hb hby at_157) rfl ?_
    show Steps p.tables e below (T19.setTop (mkF m 159 #[.val (.int ai), .val (.int bi), .val (.int ci), .val (.int di), .val (.int ei), .val (.int (v_cap ci)), .val (.int (v_i ai ci)), .val (.int (v_mode ei)), .val (.int (v_j ai bi ci ei)), .val (.int (v_k ai bi ci di ei)), .val (.int (v_km ei)), .val (.int (v_lo ai bi ci ei)), .val (.int (v_hi ai bi ci ei)), .val (.ref b16), .val (.int (b2i (v_r1 ai ci))), .unset, .unset, .unset, .unset, .unset, .unset, .unset, .unset, .unset] [(.int (v_j ai bi ci ei)), (.ref b16)])) _
    refine st21.trans ?_
    show Steps p.tables e below (T21.setTop (mkF m 162 #[.val (.int ai), .val (.int bi), .val (.int ci), .val (.int di), .val (.int ei), .val (.int (v_cap ci)), .val (.int (v_i ai ci)), .val (.int (v_mode ei)), .val (.int (v_j ai bi ci ei)), .val (.int (v_k ai bi ci di ei)), .val (.int (v_km ei)), .val (.int (v_lo ai bi ci ei)), .val (.int (v_hi ai bi ci ei)), .val (.ref b16), .val (.int (b2i (v_r1 ai ci))), .unset, .unset, .unset, .unset, .unset, .unset, .unset, .unset, .unset] [(.int (b2i (Fadd (v_j ai bi ci ei) (v_w1 ai ci))))])) _
    refine XS.istore X21.here hx rfl (hb hby at_162) rfl (l' := #[.val (.int ai), .val (.int bi), .val (.int ci), .val (.int di), .val (.int ei), .val (.int (v_cap ci)), .val (.int (v_i ai ci)), .val (.int (v_mode ei)), .val (.int (v_j ai bi ci ei)), .val (.int (v_k ai bi ci di ei)), .val (.int (v_km ei)), .val (.int (v_lo ai bi ci ei)), .val (.int (v_hi ai bi ci ei)), .val (.ref b16), .val (.int (b2i (v_r1 ai ci))), .val (.int (b2i (v_r2 ai bi ci ei))), .unset, .unset, .unset, .unset, .unset, .unset, .unset, .unset]) rfl ?_
    show Steps p.tables e below (T21.setTop (mkF m 164 #[.val (.int ai), .val (.int bi), .val (.int ci), .val (.int di), .val (.int ei), .val (.int (v_cap ci)), .val (.int (v_i ai ci)), .val (.int (v_mode ei)), .val (.int (v_j ai bi ci ei)), .val (.int (v_k ai bi ci di ei)), .val (.int (v_km ei)), .val (.int (v_lo ai bi ci ei)), .val (.int (v_hi ai bi ci ei)), .val (.ref b16), .val (.int (b2i (v_r1 ai ci))), .val (.int (b2i (v_r2 ai bi ci ei))), .unset, .unset, .unset, .unset, .unset, .unset, .unset, .unset] [])) _
    refine XS.aload X21.here hx rfl (hb hby at_164) rfl rfl ?_
    show Steps p.tables e below (T21.setTop (mkF m 166 #[.val (.int ai), .val (.int bi), .val (.int ci), .val (.int di), .val (.int ei), .val (.int (v_cap ci)), .val (.int (v_i ai ci)), .val (.int (v_mode ei)), .val (.int (v_j ai bi ci ei)), .val (.int (v_k ai bi ci di ei)), .val (.int (v_km ei)), .val (.int (v_lo ai bi ci ei)), .val (.int (v_hi ai bi ci ei)), .val (.ref b16), .val (.int (b2i (v_r1 ai ci))), .val (.int (b2i (v_r2 ai bi ci ei))), .unset, .unset, .unset, .unset, .unset, .unset, .unset, .unset] [(.ref b16)])) _
    refine XS.iload X21.here hx rfl (hb hby at_166) rfl ?_
    show Steps p.tables e below (T21.setTop (mkF m 168 #[.val (.int ai), .val (.int bi), .val (.int ci), .val (.int di), .val (.int ei), .val (.int (v_cap ci)), .val (.int (v_i ai ci)), .val (.int (v_mode ei)), .val (.int (v_j ai bi ci ei)), .val (.int (v_k ai bi ci di ei)), .val (.int (v_km ei)), .val (.int (v_lo ai bi ci ei)), .val (.int (v_hi ai bi ci ei)), .val (.ref b16), .val (.int (b2i (v_r1 ai ci))), .val (.int (b2i (v_r2 ai bi ci ei))), .unset, .unset, .unset, .unset, .unset, .unset, .unset, .unset] [(.int (v_i ai ci)), (.ref b16)])) _
    refine st23.trans ?_
    show Steps p.tables e below (T23.setTop (mkF m 171 #[.val (.int ai), .val (.int bi), .val (.int ci), .val (.int di), .val (.int ei), .val (.int (v_cap ci)), .val (.int (v_i ai ci)), .val (.int (v_mode ei)), .val (.int (v_j ai bi ci ei)), .val (.int (v_k ai bi ci di ei)), .val (.int (v_km ei)), .val (.int (v_lo ai bi ci ei)), .val (.int (v_hi ai bi ci ei)), .val (.ref b16), .val (.int (b2i (v_r1 ai ci))), .val (.int (b2i (v_r2 ai bi ci ei))), .unset, .unset, .unset, .unset, .unset, .unset, .unset, .unset] [(.int (b2i (Fadd (v_i ai ci) (v_w2 ai bi ci ei))))])) _
    refine XS.istore X23.here hx rfl (hb hby at_171) rfl (l' := #[.val (.int ai), .val (.int bi), .val (.int ci), .val (.int di), .val (.int ei), .val (.int (v_cap ci)), .val (.int (v_i ai ci)), .val (.int (v_mode ei)), .val (.int (v_j ai bi ci ei)), .val (.int (v_k ai bi ci di ei)), .val (.int (v_km ei)), .val (.int (v_lo ai bi ci ei)), .val (.int (v_hi ai bi ci ei)), .val (.ref b16), .val (.int (b2i (v_r1 ai ci))), .val (.int (b2i (v_r2 ai bi ci ei))), .val (.int (b2i (v_r3 ai bi ci ei))), .unset, .unset, .unset, .unset, .unset, .unset, .unset]) rfl ?_
    show Steps p.tables e below (T23.setTop (mkF m 173 #[.val (.int ai), .val (.int bi), .val (.int ci), .val (.int di), .val (.int ei), .val (.int (v_cap ci)), .val (.int (v_i ai ci)), .val (.int (v_mode ei)), .val (.int (v_j ai bi ci ei)), .val (.int (v_k ai bi ci di ei)), .val (.int (v_km ei)), .val (.int (v_lo ai bi ci ei)), .val (.int (v_hi ai bi ci ei)), .val (.ref b16), .val (.int (b2i (v_r1 ai ci))), .val (.int (b2i (v_r2 ai bi ci ei))), .val (.int (b2i (v_r3 ai bi ci ei))), .unset, .unset, .unset, .unset, .unset, .unset, .unset] [])) _
    refine XS.aload X23.here hx rfl (hb hby at_173) rfl rfl ?_
    show Steps p.tables e below (T23.setTop (mkF m 175 #[.val (.int ai), .val (.int bi), .val (.int ci), .val (.int di), .val (.int ei), .val (.int (v_cap ci)), .val (.int (v_i ai ci)), .val (.int (v_mode ei)), .val (.int (v_j ai bi ci ei)), .val (.int (v_k ai bi ci di ei)), .val (.int (v_km ei)), .val (.int (v_lo ai bi ci ei)), .val (.int (v_hi ai bi ci ei)), .val (.ref b16), .val (.int (b2i (v_r1 ai ci))), .val (.int (b2i (v_r2 ai bi ci ei))), .val (.int (b2i (v_r3 ai bi ci ei))), .unset, .unset, .unset, .unset, .unset, .unset, .unset] [(.ref b16)])) _
    refine st25.trans ?_
    show Steps p.tables e below (T25.setTop (mkF m 178 #[.val (.int ai), .val (.int bi), .val (.int ci), .val (.int di), .val (.int ei), .val (.int (v_cap ci)), .val (.int (v_i ai ci)), .val (.int (v_mode ei)), .val (.int (v_j ai bi ci ei)), .val (.int (v_k ai bi ci di ei)), .val (.int (v_km ei)), .val (.int (v_lo ai bi ci ei)), .val (.int (v_hi ai bi ci ei)), .val (.ref b16), .val (.int (b2i (v_r1 ai ci))), .val (.int (b2i (v_r2 ai bi ci ei))), .val (.int (b2i (v_r3 ai bi ci ei))), .unset, .unset, .unset, .unset, .unset, .unset, .unset] [(.int (Fsize (v_s3 ai bi ci ei)))])) _
    refine XS.istore X25.here hx rfl (hb hby at_178) rfl (l' := #[.val (.int ai), .val (.int bi), .val (.int ci), .val (.int di), .val (.int ei), .val (.int (v_cap ci)), .val (.int (v_i ai ci)), .val (.int (v_mode ei)), .val (.int (v_j ai bi ci ei)), .val (.int (v_k ai bi ci di ei)), .val (.int (v_km ei)), .val (.int (v_lo ai bi ci ei)), .val (.int (v_hi ai bi ci ei)), .val (.ref b16), .val (.int (b2i (v_r1 ai ci))), .val (.int (b2i (v_r2 ai bi ci ei))), .val (.int (b2i (v_r3 ai bi ci ei))), .val (.int (v_sz ai bi ci ei)), .unset, .unset, .unset, .unset, .unset, .unset]) rfl ?_
    show Steps p.tables e below (T25.setTop (mkF m 180 #[.val (.int ai), .val (.int bi), .val (.int ci), .val (.int di), .val (.int ei), .val (.int (v_cap ci)), .val (.int (v_i ai ci)), .val (.int (v_mode ei)), .val (.int (v_j ai bi ci ei)), .val (.int (v_k ai bi ci di ei)), .val (.int (v_km ei)), .val (.int (v_lo ai bi ci ei)), .val (.int (v_hi ai bi ci ei)), .val (.ref b16), .val (.int (b2i (v_r1 ai ci))), .val (.int (b2i (v_r2 ai bi ci ei))), .val (.int (b2i (v_r3 ai bi ci ei))), .val (.int (v_sz ai bi ci ei)), .unset, .unset, .unset, .unset, .unset, .unset] [])) _
    refine XS.aload X25.here hx rfl (hb hby at_180) rfl rfl ?_
    show Steps p.tables e below (T25.setTop (mkF m 182 #[.val (.int ai), .val (.int bi), .val (.int ci), .val (.int di), .val (.int ei), .val (.int (v_cap ci)), .val (.int (v_i ai ci)), .val (.int (v_mode ei)), .val (.int (v_j ai bi ci ei)), .val (.int (v_k ai bi ci di ei)), .val (.int (v_km ei)), .val (.int (v_lo ai bi ci ei)), .val (.int (v_hi ai bi ci ei)), .val (.ref b16), .val (.int (b2i (v_r1 ai ci))), .val (.int (b2i (v_r2 ai bi ci ei))), .val (.int (b2i (v_r3 ai bi ci ei))), .val (.int (v_sz ai bi ci ei)), .unset, .unset, .unset, .unset, .unset, .unset] [(.ref b16)])) _
    refine XS.iconst X25.here hx rfl (hb hby at_182) ?_
    show Steps p.tables e below (T25.setTop (mkF m 183 #[.val (.int ai), .val (.int bi), .val (.int ci), .val (.int di), .val (.int ei), .val (.int (v_cap ci)), .val (.int (v_i ai ci)), .val (.int (v_mode ei)), .val (.int (v_j ai bi ci ei)), .val (.int (v_k ai bi ci di ei)), .val (.int (v_km ei)), .val (.int (v_lo ai bi ci ei)), .val (.int (v_hi ai bi ci ei)), .val (.ref b16), .val (.int (b2i (v_r1 ai ci))), .val (.int (b2i (v_r2 ai bi ci ei))), .val (.int (b2i (v_r3 ai bi ci ei))), .val (.int (v_sz ai bi ci ei)), .unset, .unset, .unset, .unset, .unset, .unset] [(.int (0 : Int32)), (.ref b16)])) _
    refine st26.trans ?_
    show Steps p.tables e below (T26.setTop (mkF m 186 #[.val (.int ai), .val (.int bi), .val (.int ci), .val (.int di), .val (.int ei), .val (.int (v_cap ci)), .val (.int (v_i ai ci)), .val (.int (v_mode ei)), .val (.int (v_j ai bi ci ei)), .val (.int (v_k ai bi ci di ei)), .val (.int (v_km ei)), .val (.int (v_lo ai bi ci ei)), .val (.int (v_hi ai bi ci ei)), .val (.ref b16), .val (.int (b2i (v_r1 ai ci))), .val (.int (b2i (v_r2 ai bi ci ei))), .val (.int (b2i (v_r3 ai bi ci ei))), .val (.int (v_sz ai bi ci ei)), .unset, .unset, .unset, .unset, .unset, .unset] [(.int (Fnext (0 : Int32) (v_cap ci) (v_s3 ai bi ci ei) (v_w3 ai bi ci ei) (own_nw (own_nw (v_cap ci))) (v_u3 ai bi ci ei)))])) _
    refine XS.istore X26.here hx rfl (hb hby at_186) rfl (l' := #[.val (.int ai), .val (.int bi), .val (.int ci), .val (.int di), .val (.int ei), .val (.int (v_cap ci)), .val (.int (v_i ai ci)), .val (.int (v_mode ei)), .val (.int (v_j ai bi ci ei)), .val (.int (v_k ai bi ci di ei)), .val (.int (v_km ei)), .val (.int (v_lo ai bi ci ei)), .val (.int (v_hi ai bi ci ei)), .val (.ref b16), .val (.int (b2i (v_r1 ai ci))), .val (.int (b2i (v_r2 ai bi ci ei))), .val (.int (b2i (v_r3 ai bi ci ei))), .val (.int (v_sz ai bi ci ei)), .val (.int (v_n0 ai bi ci ei)), .unset, .unset, .unset, .unset, .unset]) rfl ?_
    show Steps p.tables e below (T26.setTop (mkF m 188 #[.val (.int ai), .val (.int bi), .val (.int ci), .val (.int di), .val (.int ei), .val (.int (v_cap ci)), .val (.int (v_i ai ci)), .val (.int (v_mode ei)), .val (.int (v_j ai bi ci ei)), .val (.int (v_k ai bi ci di ei)), .val (.int (v_km ei)), .val (.int (v_lo ai bi ci ei)), .val (.int (v_hi ai bi ci ei)), .val (.ref b16), .val (.int (b2i (v_r1 ai ci))), .val (.int (b2i (v_r2 ai bi ci ei))), .val (.int (b2i (v_r3 ai bi ci ei))), .val (.int (v_sz ai bi ci ei)), .val (.int (v_n0 ai bi ci ei)), .unset, .unset, .unset, .unset, .unset] [])) _
    refine XS.aload X26.here hx rfl (hb hby at_188) rfl rfl ?_
    show Steps p.tables e below (T26.setTop (mkF m 190 #[.val (.int ai), .val (.int bi), .val (.int ci), .val (.int di), .val (.int ei), .val (.int (v_cap ci)), .val (.int (v_i ai ci)), .val (.int (v_mode ei)), .val (.int (v_j ai bi ci ei)), .val (.int (v_k ai bi ci di ei)), .val (.int (v_km ei)), .val (.int (v_lo ai bi ci ei)), .val (.int (v_hi ai bi ci ei)), .val (.ref b16), .val (.int (b2i (v_r1 ai ci))), .val (.int (b2i (v_r2 ai bi ci ei))), .val (.int (b2i (v_r3 ai bi ci ei))), .val (.int (v_sz ai bi ci ei)), .val (.int (v_n0 ai bi ci ei)), .unset, .unset, .unset, .unset, .unset] [(.ref b16)])) _
    refine XS.iload X26.here hx rfl (hb hby at_190) rfl ?_
    show Steps p.tables e below (T26.setTop (mkF m 192 #[.val (.int ai), .val (.int bi), .val (.int ci), .val (.int di), .val (.int ei), .val (.int (v_cap ci)), .val (.int (v_i ai ci)), .val (.int (v_mode ei)), .val (.int (v_j ai bi ci ei)), .val (.int (v_k ai bi ci di ei)), .val (.int (v_km ei)), .val (.int (v_lo ai bi ci ei)), .val (.int (v_hi ai bi ci ei)), .val (.ref b16), .val (.int (b2i (v_r1 ai ci))), .val (.int (b2i (v_r2 ai bi ci ei))), .val (.int (b2i (v_r3 ai bi ci ei))), .val (.int (v_sz ai bi ci ei)), .val (.int (v_n0 ai bi ci ei)), .unset, .unset, .unset, .unset, .unset] [(.int (v_lo ai bi ci ei)), (.ref b16)])) _
    refine XS.iconst X26.here hx rfl (hb hby at_192) ?_
    show Steps p.tables e below (T26.setTop (mkF m 193 #[.val (.int ai), .val (.int bi), .val (.int ci), .val (.int di), .val (.int ei), .val (.int (v_cap ci)), .val (.int (v_i ai ci)), .val (.int (v_mode ei)), .val (.int (v_j ai bi ci ei)), .val (.int (v_k ai bi ci di ei)), .val (.int (v_km ei)), .val (.int (v_lo ai bi ci ei)), .val (.int (v_hi ai bi ci ei)), .val (.ref b16), .val (.int (b2i (v_r1 ai ci))), .val (.int (b2i (v_r2 ai bi ci ei))), .val (.int (b2i (v_r3 ai bi ci ei))), .val (.int (v_sz ai bi ci ei)), .val (.int (v_n0 ai bi ci ei)), .unset, .unset, .unset, .unset, .unset] [(.int (1 : Int32)), (.int (v_lo ai bi ci ei)), (.ref b16)])) _
    refine XS.iadd X26.here hx rfl (hb hby at_193) rfl ?_
    show Steps p.tables e below (T26.setTop (mkF m 194 #[.val (.int ai), .val (.int bi), .val (.int ci), .val (.int di), .val (.int ei), .val (.int (v_cap ci)), .val (.int (v_i ai ci)), .val (.int (v_mode ei)), .val (.int (v_j ai bi ci ei)), .val (.int (v_k ai bi ci di ei)), .val (.int (v_km ei)), .val (.int (v_lo ai bi ci ei)), .val (.int (v_hi ai bi ci ei)), .val (.ref b16), .val (.int (b2i (v_r1 ai ci))), .val (.int (b2i (v_r2 ai bi ci ei))), .val (.int (b2i (v_r3 ai bi ci ei))), .val (.int (v_sz ai bi ci ei)), .val (.int (v_n0 ai bi ci ei)), .unset, .unset, .unset, .unset, .unset] [(.int (v_lo1 ai bi ci ei)), (.ref b16)])) _
    refine st27.trans ?_
    show Steps p.tables e below (T27.setTop (mkF m 197 #[.val (.int ai), .val (.int bi), .val (.int ci), .val (.int di), .val (.int ei), .val (.int (v_cap ci)), .val (.int (v_i ai ci)), .val (.int (v_mode ei)), .val (.int (v_j ai bi ci ei)), .val (.int (v_k ai bi ci di ei)), .val (.int (v_km ei)), .val (.int (v_lo ai bi ci ei)), .val (.int (v_hi ai bi ci ei)), .val (.ref b16), .val (.int (b2i (v_r1 ai ci))), .val (.int (b2i (v_r2 ai bi ci ei))), .val (.int (b2i (v_r3 ai bi ci ei))), .val (.int (v_sz ai bi ci ei)), .val (.int (v_n0 ai bi ci ei)), .unset, .unset, .unset, .unset, .unset] [(.int (Fnext (v_lo1 ai bi ci ei) (v_cap ci) (v_s3 ai bi ci ei) (v_w3 ai bi ci ei) (own_nw (own_nw (v_cap ci))) (v_u3 ai bi ci ei)))])) _
    refine XS.istore X27.here hx rfl (hb hby at_197) rfl (l' := #[.val (.int ai), .val (.int bi), .val (.int ci), .val (.int di), .val (.int ei), .val (.int (v_cap ci)), .val (.int (v_i ai ci)), .val (.int (v_mode ei)), .val (.int (v_j ai bi ci ei)), .val (.int (v_k ai bi ci di ei)), .val (.int (v_km ei)), .val (.int (v_lo ai bi ci ei)), .val (.int (v_hi ai bi ci ei)), .val (.ref b16), .val (.int (b2i (v_r1 ai ci))), .val (.int (b2i (v_r2 ai bi ci ei))), .val (.int (b2i (v_r3 ai bi ci ei))), .val (.int (v_sz ai bi ci ei)), .val (.int (v_n0 ai bi ci ei)), .val (.int (v_n1 ai bi ci ei)), .unset, .unset, .unset, .unset]) rfl ?_
    show Steps p.tables e below (T27.setTop (mkF m 199 #[.val (.int ai), .val (.int bi), .val (.int ci), .val (.int di), .val (.int ei), .val (.int (v_cap ci)), .val (.int (v_i ai ci)), .val (.int (v_mode ei)), .val (.int (v_j ai bi ci ei)), .val (.int (v_k ai bi ci di ei)), .val (.int (v_km ei)), .val (.int (v_lo ai bi ci ei)), .val (.int (v_hi ai bi ci ei)), .val (.ref b16), .val (.int (b2i (v_r1 ai ci))), .val (.int (b2i (v_r2 ai bi ci ei))), .val (.int (b2i (v_r3 ai bi ci ei))), .val (.int (v_sz ai bi ci ei)), .val (.int (v_n0 ai bi ci ei)), .val (.int (v_n1 ai bi ci ei)), .unset, .unset, .unset, .unset] [])) _
    refine XS.aload X27.here hx rfl (hb hby at_199) rfl rfl ?_
    show Steps p.tables e below (T27.setTop (mkF m 201 #[.val (.int ai), .val (.int bi), .val (.int ci), .val (.int di), .val (.int ei), .val (.int (v_cap ci)), .val (.int (v_i ai ci)), .val (.int (v_mode ei)), .val (.int (v_j ai bi ci ei)), .val (.int (v_k ai bi ci di ei)), .val (.int (v_km ei)), .val (.int (v_lo ai bi ci ei)), .val (.int (v_hi ai bi ci ei)), .val (.ref b16), .val (.int (b2i (v_r1 ai ci))), .val (.int (b2i (v_r2 ai bi ci ei))), .val (.int (b2i (v_r3 ai bi ci ei))), .val (.int (v_sz ai bi ci ei)), .val (.int (v_n0 ai bi ci ei)), .val (.int (v_n1 ai bi ci ei)), .unset, .unset, .unset, .unset] [(.ref b16)])) _
    refine XS.iload X27.here hx rfl (hb hby at_201) rfl ?_
    show Steps p.tables e below (T27.setTop (mkF m 203 #[.val (.int ai), .val (.int bi), .val (.int ci), .val (.int di), .val (.int ei), .val (.int (v_cap ci)), .val (.int (v_i ai ci)), .val (.int (v_mode ei)), .val (.int (v_j ai bi ci ei)), .val (.int (v_k ai bi ci di ei)), .val (.int (v_km ei)), .val (.int (v_lo ai bi ci ei)), .val (.int (v_hi ai bi ci ei)), .val (.ref b16), .val (.int (b2i (v_r1 ai ci))), .val (.int (b2i (v_r2 ai bi ci ei))), .val (.int (b2i (v_r3 ai bi ci ei))), .val (.int (v_sz ai bi ci ei)), .val (.int (v_n0 ai bi ci ei)), .val (.int (v_n1 ai bi ci ei)), .unset, .unset, .unset, .unset] [(.int (v_k ai bi ci di ei)), (.ref b16)])) _
    refine st28.trans ?_
    show Steps p.tables e below (T28.setTop (mkF m 206 #[.val (.int ai), .val (.int bi), .val (.int ci), .val (.int di), .val (.int ei), .val (.int (v_cap ci)), .val (.int (v_i ai ci)), .val (.int (v_mode ei)), .val (.int (v_j ai bi ci ei)), .val (.int (v_k ai bi ci di ei)), .val (.int (v_km ei)), .val (.int (v_lo ai bi ci ei)), .val (.int (v_hi ai bi ci ei)), .val (.ref b16), .val (.int (b2i (v_r1 ai ci))), .val (.int (b2i (v_r2 ai bi ci ei))), .val (.int (b2i (v_r3 ai bi ci ei))), .val (.int (v_sz ai bi ci ei)), .val (.int (v_n0 ai bi ci ei)), .val (.int (v_n1 ai bi ci ei)), .unset, .unset, .unset, .unset] [(.int (b2i (Fcon (v_k ai bi ci di ei) (v_w3 ai bi ci ei))))])) _
    refine XS.istore X28.here hx rfl (hb hby at_206) rfl (l' := #[.val (.int ai), .val (.int bi), .val (.int ci), .val (.int di), .val (.int ei), .val (.int (v_cap ci)), .val (.int (v_i ai ci)), .val (.int (v_mode ei)), .val (.int (v_j ai bi ci ei)), .val (.int (v_k ai bi ci di ei)), .val (.int (v_km ei)), .val (.int (v_lo ai bi ci ei)), .val (.int (v_hi ai bi ci ei)), .val (.ref b16), .val (.int (b2i (v_r1 ai ci))), .val (.int (b2i (v_r2 ai bi ci ei))), .val (.int (b2i (v_r3 ai bi ci ei))), .val (.int (v_sz ai bi ci ei)), .val (.int (v_n0 ai bi ci ei)), .val (.int (v_n1 ai bi ci ei)), .val (.int (b2i (v_ck ai bi ci di ei))), .unset, .unset, .unset]) rfl ?_
    show Steps p.tables e below (T28.setTop (mkF m 208 #[.val (.int ai), .val (.int bi), .val (.int ci), .val (.int di), .val (.int ei), .val (.int (v_cap ci)), .val (.int (v_i ai ci)), .val (.int (v_mode ei)), .val (.int (v_j ai bi ci ei)), .val (.int (v_k ai bi ci di ei)), .val (.int (v_km ei)), .val (.int (v_lo ai bi ci ei)), .val (.int (v_hi ai bi ci ei)), .val (.ref b16), .val (.int (b2i (v_r1 ai ci))), .val (.int (b2i (v_r2 ai bi ci ei))), .val (.int (b2i (v_r3 ai bi ci ei))), .val (.int (v_sz ai bi ci ei)), .val (.int (v_n0 ai bi ci ei)), .val (.int (v_n1 ai bi ci ei)), .val (.int (b2i (v_ck ai bi ci di ei))), .unset, .unset, .unset] [])) _
    refine XS.iload X28.here hx rfl (hb hby at_208) rfl ?_
    show Steps p.tables e below (T28.setTop (mkF m 210 #[.val (.int ai), .val (.int bi), .val (.int ci), .val (.int di), .val (.int ei), .val (.int (v_cap ci)), .val (.int (v_i ai ci)), .val (.int (v_mode ei)), .val (.int (v_j ai bi ci ei)), .val (.int (v_k ai bi ci di ei)), .val (.int (v_km ei)), .val (.int (v_lo ai bi ci ei)), .val (.int (v_hi ai bi ci ei)), .val (.ref b16), .val (.int (b2i (v_r1 ai ci))), .val (.int (b2i (v_r2 ai bi ci ei))), .val (.int (b2i (v_r3 ai bi ci ei))), .val (.int (v_sz ai bi ci ei)), .val (.int (v_n0 ai bi ci ei)), .val (.int (v_n1 ai bi ci ei)), .val (.int (b2i (v_ck ai bi ci di ei))), .unset, .unset, .unset] [(.int (v_i ai ci))])) _
    refine XS.iload X28.here hx rfl (hb hby at_210) rfl ?_
    exact k
  have pre30 : ∀ t, Steps p.tables e below (T28.setTop (mkF m 220 #[.val (.int ai), .val (.int bi), .val (.int ci), .val (.int di), .val (.int ei), .val (.int (v_cap ci)), .val (.int (v_i ai ci)), .val (.int (v_mode ei)), .val (.int (v_j ai bi ci ei)), .val (.int (v_k ai bi ci di ei)), .val (.int (v_km ei)), .val (.int (v_lo ai bi ci ei)), .val (.int (v_hi ai bi ci ei)), .val (.ref b16), .val (.int (b2i (v_r1 ai ci))), .val (.int (b2i (v_r2 ai bi ci ei))), .val (.int (b2i (v_r3 ai bi ci ei))), .val (.int (v_sz ai bi ci ei)), .val (.int (v_n0 ai bi ci ei)), .val (.int (v_n1 ai bi ci ei)), .val (.int (b2i (v_ck ai bi ci di ei))), .unset, .unset, .unset] [(.int (if (v_i ai ci) = (v_j ai bi ci ei) then (1 : Int32) else (2 : Int32)))])) t → Steps p.tables e below (s₁.setTop (entryFrame m #[(.int ai), (.int bi), (.int ci), (.int di), (.int ei)] maxLocals)) t := by
    intro t k
    refine pre29 t ?_
    have k : ∀ (v1 : Int32), v1 = (if (v_i ai ci) = (v_j ai bi ci ei) then (1 : Int32) else (2 : Int32)) → Steps p.tables e below (T28.setTop (mkF m 220 #[.val (.int ai), .val (.int bi), .val (.int ci), .val (.int di), .val (.int ei), .val (.int (v_cap ci)), .val (.int (v_i ai ci)), .val (.int (v_mode ei)), .val (.int (v_j ai bi ci ei)), .val (.int (v_k ai bi ci di ei)), .val (.int (v_km ei)), .val (.int (v_lo ai bi ci ei)), .val (.int (v_hi ai bi ci ei)), .val (.ref b16), .val (.int (b2i (v_r1 ai ci))), .val (.int (b2i (v_r2 ai bi ci ei))), .val (.int (b2i (v_r3 ai bi ci ei))), .val (.int (v_sz ai bi ci ei)), .val (.int (v_n0 ai bi ci ei)), .val (.int (v_n1 ai bi ci ei)), .val (.int (b2i (v_ck ai bi ci di ei))), .unset, .unset, .unset] [(.int v1)])) t := fun v1 hv1 => by subst hv1; exact k
    show Steps p.tables e below (T28.setTop (mkF m 212 #[.val (.int ai), .val (.int bi), .val (.int ci), .val (.int di), .val (.int ei), .val (.int (v_cap ci)), .val (.int (v_i ai ci)), .val (.int (v_mode ei)), .val (.int (v_j ai bi ci ei)), .val (.int (v_k ai bi ci di ei)), .val (.int (v_km ei)), .val (.int (v_lo ai bi ci ei)), .val (.int (v_hi ai bi ci ei)), .val (.ref b16), .val (.int (b2i (v_r1 ai ci))), .val (.int (b2i (v_r2 ai bi ci ei))), .val (.int (b2i (v_r3 ai bi ci ei))), .val (.int (v_sz ai bi ci ei)), .val (.int (v_n0 ai bi ci ei)), .val (.int (v_n1 ai bi ci ei)), .val (.int (b2i (v_ck ai bi ci di ei))), .unset, .unset, .unset] [(.int (v_j ai bi ci ei)), (.int (v_i ai ci))])) _
    by_cases hc31 : (v_i ai ci) = (v_j ai bi ci ei)
    · refine XS.icmpNo X28.here hx rfl (hb hby at_212) rfl (teq hc31).2 ?_
      have k : ∀ (v1 : Int32), v1 = (1 : Int32) → Steps p.tables e below (T28.setTop (mkF m 220 #[.val (.int ai), .val (.int bi), .val (.int ci), .val (.int di), .val (.int ei), .val (.int (v_cap ci)), .val (.int (v_i ai ci)), .val (.int (v_mode ei)), .val (.int (v_j ai bi ci ei)), .val (.int (v_k ai bi ci di ei)), .val (.int (v_km ei)), .val (.int (v_lo ai bi ci ei)), .val (.int (v_hi ai bi ci ei)), .val (.ref b16), .val (.int (b2i (v_r1 ai ci))), .val (.int (b2i (v_r2 ai bi ci ei))), .val (.int (b2i (v_r3 ai bi ci ei))), .val (.int (v_sz ai bi ci ei)), .val (.int (v_n0 ai bi ci ei)), .val (.int (v_n1 ai bi ci ei)), .val (.int (b2i (v_ck ai bi ci di ei))), .unset, .unset, .unset] [(.int v1)])) t := fun v1 hv1 => k v1 (hv1.trans (if_pos hc31).symm)
      show Steps p.tables e below (T28.setTop (mkF m 215 #[.val (.int ai), .val (.int bi), .val (.int ci), .val (.int di), .val (.int ei), .val (.int (v_cap ci)), .val (.int (v_i ai ci)), .val (.int (v_mode ei)), .val (.int (v_j ai bi ci ei)), .val (.int (v_k ai bi ci di ei)), .val (.int (v_km ei)), .val (.int (v_lo ai bi ci ei)), .val (.int (v_hi ai bi ci ei)), .val (.ref b16), .val (.int (b2i (v_r1 ai ci))), .val (.int (b2i (v_r2 ai bi ci ei))), .val (.int (b2i (v_r3 ai bi ci ei))), .val (.int (v_sz ai bi ci ei)), .val (.int (v_n0 ai bi ci ei)), .val (.int (v_n1 ai bi ci ei)), .val (.int (b2i (v_ck ai bi ci di ei))), .unset, .unset, .unset] [])) _
      refine XS.iconst X28.here hx rfl (hb hby at_215) ?_
      show Steps p.tables e below (T28.setTop (mkF m 216 #[.val (.int ai), .val (.int bi), .val (.int ci), .val (.int di), .val (.int ei), .val (.int (v_cap ci)), .val (.int (v_i ai ci)), .val (.int (v_mode ei)), .val (.int (v_j ai bi ci ei)), .val (.int (v_k ai bi ci di ei)), .val (.int (v_km ei)), .val (.int (v_lo ai bi ci ei)), .val (.int (v_hi ai bi ci ei)), .val (.ref b16), .val (.int (b2i (v_r1 ai ci))), .val (.int (b2i (v_r2 ai bi ci ei))), .val (.int (b2i (v_r3 ai bi ci ei))), .val (.int (v_sz ai bi ci ei)), .val (.int (v_n0 ai bi ci ei)), .val (.int (v_n1 ai bi ci ei)), .val (.int (b2i (v_ck ai bi ci di ei))), .unset, .unset, .unset] [(.int (1 : Int32))])) _
      refine XS.goto X28.here hx rfl (pc0 := 216) (pc' := 220) rfl (hb hby at_216) (by decide) (by decide) ?_
      exact k _ rfl
    · refine XS.icmpYes X28.here hx rfl (pc0 := 212) (pc' := 219) rfl (hb hby at_212) rfl (feq hc31).2 (by decide) (by decide) ?_
      have k : ∀ (v1 : Int32), v1 = (2 : Int32) → Steps p.tables e below (T28.setTop (mkF m 220 #[.val (.int ai), .val (.int bi), .val (.int ci), .val (.int di), .val (.int ei), .val (.int (v_cap ci)), .val (.int (v_i ai ci)), .val (.int (v_mode ei)), .val (.int (v_j ai bi ci ei)), .val (.int (v_k ai bi ci di ei)), .val (.int (v_km ei)), .val (.int (v_lo ai bi ci ei)), .val (.int (v_hi ai bi ci ei)), .val (.ref b16), .val (.int (b2i (v_r1 ai ci))), .val (.int (b2i (v_r2 ai bi ci ei))), .val (.int (b2i (v_r3 ai bi ci ei))), .val (.int (v_sz ai bi ci ei)), .val (.int (v_n0 ai bi ci ei)), .val (.int (v_n1 ai bi ci ei)), .val (.int (b2i (v_ck ai bi ci di ei))), .unset, .unset, .unset] [(.int v1)])) t := fun v1 hv1 => k v1 (hv1.trans (if_neg hc31).symm)
      show Steps p.tables e below (T28.setTop (mkF m 219 #[.val (.int ai), .val (.int bi), .val (.int ci), .val (.int di), .val (.int ei), .val (.int (v_cap ci)), .val (.int (v_i ai ci)), .val (.int (v_mode ei)), .val (.int (v_j ai bi ci ei)), .val (.int (v_k ai bi ci di ei)), .val (.int (v_km ei)), .val (.int (v_lo ai bi ci ei)), .val (.int (v_hi ai bi ci ei)), .val (.ref b16), .val (.int (b2i (v_r1 ai ci))), .val (.int (b2i (v_r2 ai bi ci ei))), .val (.int (b2i (v_r3 ai bi ci ei))), .val (.int (v_sz ai bi ci ei)), .val (.int (v_n0 ai bi ci ei)), .val (.int (v_n1 ai bi ci ei)), .val (.int (b2i (v_ck ai bi ci di ei))), .unset, .unset, .unset] [])) _
      refine XS.iconst X28.here hx rfl (hb hby at_219) ?_
      exact k _ rfl
  have pre32 : ∀ t, Steps p.tables e below (T28.setTop (mkF m 226 #[.val (.int ai), .val (.int bi), .val (.int ci), .val (.int di), .val (.int ei), .val (.int (v_cap ci)), .val (.int (v_i ai ci)), .val (.int (v_mode ei)), .val (.int (v_j ai bi ci ei)), .val (.int (v_k ai bi ci di ei)), .val (.int (v_km ei)), .val (.int (v_lo ai bi ci ei)), .val (.int (v_hi ai bi ci ei)), .val (.ref b16), .val (.int (b2i (v_r1 ai ci))), .val (.int (b2i (v_r2 ai bi ci ei))), .val (.int (b2i (v_r3 ai bi ci ei))), .val (.int (v_sz ai bi ci ei)), .val (.int (v_n0 ai bi ci ei)), .val (.int (v_n1 ai bi ci ei)), .val (.int (b2i (v_ck ai bi ci di ei))), .val (.int (v_es ai bi ci ei)), .unset, .unset] [(.int (v_j ai bi ci ei)), (.int (v_i ai ci))])) t → Steps p.tables e below (s₁.setTop (entryFrame m #[(.int ai), (.int bi), (.int ci), (.int di), (.int ei)] maxLocals)) t := by
    intro t k
    refine pre30 t ?_
    show Steps p.tables e below (T28.setTop (mkF m 220 #[.val (.int ai), .val (.int bi), .val (.int ci), .val (.int di), .val (.int ei), .val (.int (v_cap ci)), .val (.int (v_i ai ci)), .val (.int (v_mode ei)), .val (.int (v_j ai bi ci ei)), .val (.int (v_k ai bi ci di ei)), .val (.int (v_km ei)), .val (.int (v_lo ai bi ci ei)), .val (.int (v_hi ai bi ci ei)), .val (.ref b16), .val (.int (b2i (v_r1 ai ci))), .val (.int (b2i (v_r2 ai bi ci ei))), .val (.int (b2i (v_r3 ai bi ci ei))), .val (.int (v_sz ai bi ci ei)), .val (.int (v_n0 ai bi ci ei)), .val (.int (v_n1 ai bi ci ei)), .val (.int (b2i (v_ck ai bi ci di ei))), .unset, .unset, .unset] [(.int (if (v_i ai ci) = (v_j ai bi ci ei) then (1 : Int32) else (2 : Int32)))])) _
    refine XS.istore X28.here hx rfl (hb hby at_220) rfl (l' := #[.val (.int ai), .val (.int bi), .val (.int ci), .val (.int di), .val (.int ei), .val (.int (v_cap ci)), .val (.int (v_i ai ci)), .val (.int (v_mode ei)), .val (.int (v_j ai bi ci ei)), .val (.int (v_k ai bi ci di ei)), .val (.int (v_km ei)), .val (.int (v_lo ai bi ci ei)), .val (.int (v_hi ai bi ci ei)), .val (.ref b16), .val (.int (b2i (v_r1 ai ci))), .val (.int (b2i (v_r2 ai bi ci ei))), .val (.int (b2i (v_r3 ai bi ci ei))), .val (.int (v_sz ai bi ci ei)), .val (.int (v_n0 ai bi ci ei)), .val (.int (v_n1 ai bi ci ei)), .val (.int (b2i (v_ck ai bi ci di ei))), .val (.int (v_es ai bi ci ei)), .unset, .unset]) rfl ?_
    show Steps p.tables e below (T28.setTop (mkF m 222 #[.val (.int ai), .val (.int bi), .val (.int ci), .val (.int di), .val (.int ei), .val (.int (v_cap ci)), .val (.int (v_i ai ci)), .val (.int (v_mode ei)), .val (.int (v_j ai bi ci ei)), .val (.int (v_k ai bi ci di ei)), .val (.int (v_km ei)), .val (.int (v_lo ai bi ci ei)), .val (.int (v_hi ai bi ci ei)), .val (.ref b16), .val (.int (b2i (v_r1 ai ci))), .val (.int (b2i (v_r2 ai bi ci ei))), .val (.int (b2i (v_r3 ai bi ci ei))), .val (.int (v_sz ai bi ci ei)), .val (.int (v_n0 ai bi ci ei)), .val (.int (v_n1 ai bi ci ei)), .val (.int (b2i (v_ck ai bi ci di ei))), .val (.int (v_es ai bi ci ei)), .unset, .unset] [])) _
    refine XS.iload X28.here hx rfl (hb hby at_222) rfl ?_
    show Steps p.tables e below (T28.setTop (mkF m 224 #[.val (.int ai), .val (.int bi), .val (.int ci), .val (.int di), .val (.int ei), .val (.int (v_cap ci)), .val (.int (v_i ai ci)), .val (.int (v_mode ei)), .val (.int (v_j ai bi ci ei)), .val (.int (v_k ai bi ci di ei)), .val (.int (v_km ei)), .val (.int (v_lo ai bi ci ei)), .val (.int (v_hi ai bi ci ei)), .val (.ref b16), .val (.int (b2i (v_r1 ai ci))), .val (.int (b2i (v_r2 ai bi ci ei))), .val (.int (b2i (v_r3 ai bi ci ei))), .val (.int (v_sz ai bi ci ei)), .val (.int (v_n0 ai bi ci ei)), .val (.int (v_n1 ai bi ci ei)), .val (.int (b2i (v_ck ai bi ci di ei))), .val (.int (v_es ai bi ci ei)), .unset, .unset] [(.int (v_i ai ci))])) _
    refine XS.iload X28.here hx rfl (hb hby at_224) rfl ?_
    exact k
  have pre33 : ∀ t, Steps p.tables e below (T28.setTop (mkF m 235 #[.val (.int ai), .val (.int bi), .val (.int ci), .val (.int di), .val (.int ei), .val (.int (v_cap ci)), .val (.int (v_i ai ci)), .val (.int (v_mode ei)), .val (.int (v_j ai bi ci ei)), .val (.int (v_k ai bi ci di ei)), .val (.int (v_km ei)), .val (.int (v_lo ai bi ci ei)), .val (.int (v_hi ai bi ci ei)), .val (.ref b16), .val (.int (b2i (v_r1 ai ci))), .val (.int (b2i (v_r2 ai bi ci ei))), .val (.int (b2i (v_r3 ai bi ci ei))), .val (.int (v_sz ai bi ci ei)), .val (.int (v_n0 ai bi ci ei)), .val (.int (v_n1 ai bi ci ei)), .val (.int (b2i (v_ck ai bi ci di ei))), .val (.int (v_es ai bi ci ei)), .unset, .unset] [(.int (if (v_i ai ci) = (v_j ai bi ci ei) then (-1 : Int32) else (v_hi ai bi ci ei)))])) t → Steps p.tables e below (s₁.setTop (entryFrame m #[(.int ai), (.int bi), (.int ci), (.int di), (.int ei)] maxLocals)) t := by
    intro t k
    refine pre32 t ?_
    have k : ∀ (v1 : Int32), v1 = (if (v_i ai ci) = (v_j ai bi ci ei) then (-1 : Int32) else (v_hi ai bi ci ei)) → Steps p.tables e below (T28.setTop (mkF m 235 #[.val (.int ai), .val (.int bi), .val (.int ci), .val (.int di), .val (.int ei), .val (.int (v_cap ci)), .val (.int (v_i ai ci)), .val (.int (v_mode ei)), .val (.int (v_j ai bi ci ei)), .val (.int (v_k ai bi ci di ei)), .val (.int (v_km ei)), .val (.int (v_lo ai bi ci ei)), .val (.int (v_hi ai bi ci ei)), .val (.ref b16), .val (.int (b2i (v_r1 ai ci))), .val (.int (b2i (v_r2 ai bi ci ei))), .val (.int (b2i (v_r3 ai bi ci ei))), .val (.int (v_sz ai bi ci ei)), .val (.int (v_n0 ai bi ci ei)), .val (.int (v_n1 ai bi ci ei)), .val (.int (b2i (v_ck ai bi ci di ei))), .val (.int (v_es ai bi ci ei)), .unset, .unset] [(.int v1)])) t := fun v1 hv1 => by subst hv1; exact k
    show Steps p.tables e below (T28.setTop (mkF m 226 #[.val (.int ai), .val (.int bi), .val (.int ci), .val (.int di), .val (.int ei), .val (.int (v_cap ci)), .val (.int (v_i ai ci)), .val (.int (v_mode ei)), .val (.int (v_j ai bi ci ei)), .val (.int (v_k ai bi ci di ei)), .val (.int (v_km ei)), .val (.int (v_lo ai bi ci ei)), .val (.int (v_hi ai bi ci ei)), .val (.ref b16), .val (.int (b2i (v_r1 ai ci))), .val (.int (b2i (v_r2 ai bi ci ei))), .val (.int (b2i (v_r3 ai bi ci ei))), .val (.int (v_sz ai bi ci ei)), .val (.int (v_n0 ai bi ci ei)), .val (.int (v_n1 ai bi ci ei)), .val (.int (b2i (v_ck ai bi ci di ei))), .val (.int (v_es ai bi ci ei)), .unset, .unset] [(.int (v_j ai bi ci ei)), (.int (v_i ai ci))])) _
    by_cases hc34 : (v_i ai ci) = (v_j ai bi ci ei)
    · refine XS.icmpNo X28.here hx rfl (hb hby at_226) rfl (teq hc34).2 ?_
      have k : ∀ (v1 : Int32), v1 = (-1 : Int32) → Steps p.tables e below (T28.setTop (mkF m 235 #[.val (.int ai), .val (.int bi), .val (.int ci), .val (.int di), .val (.int ei), .val (.int (v_cap ci)), .val (.int (v_i ai ci)), .val (.int (v_mode ei)), .val (.int (v_j ai bi ci ei)), .val (.int (v_k ai bi ci di ei)), .val (.int (v_km ei)), .val (.int (v_lo ai bi ci ei)), .val (.int (v_hi ai bi ci ei)), .val (.ref b16), .val (.int (b2i (v_r1 ai ci))), .val (.int (b2i (v_r2 ai bi ci ei))), .val (.int (b2i (v_r3 ai bi ci ei))), .val (.int (v_sz ai bi ci ei)), .val (.int (v_n0 ai bi ci ei)), .val (.int (v_n1 ai bi ci ei)), .val (.int (b2i (v_ck ai bi ci di ei))), .val (.int (v_es ai bi ci ei)), .unset, .unset] [(.int v1)])) t := fun v1 hv1 => k v1 (hv1.trans (if_pos hc34).symm)
      show Steps p.tables e below (T28.setTop (mkF m 229 #[.val (.int ai), .val (.int bi), .val (.int ci), .val (.int di), .val (.int ei), .val (.int (v_cap ci)), .val (.int (v_i ai ci)), .val (.int (v_mode ei)), .val (.int (v_j ai bi ci ei)), .val (.int (v_k ai bi ci di ei)), .val (.int (v_km ei)), .val (.int (v_lo ai bi ci ei)), .val (.int (v_hi ai bi ci ei)), .val (.ref b16), .val (.int (b2i (v_r1 ai ci))), .val (.int (b2i (v_r2 ai bi ci ei))), .val (.int (b2i (v_r3 ai bi ci ei))), .val (.int (v_sz ai bi ci ei)), .val (.int (v_n0 ai bi ci ei)), .val (.int (v_n1 ai bi ci ei)), .val (.int (b2i (v_ck ai bi ci di ei))), .val (.int (v_es ai bi ci ei)), .unset, .unset] [])) _
      refine XS.iconst X28.here hx rfl (hb hby at_229) ?_
      show Steps p.tables e below (T28.setTop (mkF m 230 #[.val (.int ai), .val (.int bi), .val (.int ci), .val (.int di), .val (.int ei), .val (.int (v_cap ci)), .val (.int (v_i ai ci)), .val (.int (v_mode ei)), .val (.int (v_j ai bi ci ei)), .val (.int (v_k ai bi ci di ei)), .val (.int (v_km ei)), .val (.int (v_lo ai bi ci ei)), .val (.int (v_hi ai bi ci ei)), .val (.ref b16), .val (.int (b2i (v_r1 ai ci))), .val (.int (b2i (v_r2 ai bi ci ei))), .val (.int (b2i (v_r3 ai bi ci ei))), .val (.int (v_sz ai bi ci ei)), .val (.int (v_n0 ai bi ci ei)), .val (.int (v_n1 ai bi ci ei)), .val (.int (b2i (v_ck ai bi ci di ei))), .val (.int (v_es ai bi ci ei)), .unset, .unset] [(.int (-1 : Int32))])) _
      refine XS.goto X28.here hx rfl (pc0 := 230) (pc' := 235) rfl (hb hby at_230) (by decide) (by decide) ?_
      exact k _ rfl
    · refine XS.icmpYes X28.here hx rfl (pc0 := 226) (pc' := 233) rfl (hb hby at_226) rfl (feq hc34).2 (by decide) (by decide) ?_
      have k : ∀ (v1 : Int32), v1 = (v_hi ai bi ci ei) → Steps p.tables e below (T28.setTop (mkF m 235 #[.val (.int ai), .val (.int bi), .val (.int ci), .val (.int di), .val (.int ei), .val (.int (v_cap ci)), .val (.int (v_i ai ci)), .val (.int (v_mode ei)), .val (.int (v_j ai bi ci ei)), .val (.int (v_k ai bi ci di ei)), .val (.int (v_km ei)), .val (.int (v_lo ai bi ci ei)), .val (.int (v_hi ai bi ci ei)), .val (.ref b16), .val (.int (b2i (v_r1 ai ci))), .val (.int (b2i (v_r2 ai bi ci ei))), .val (.int (b2i (v_r3 ai bi ci ei))), .val (.int (v_sz ai bi ci ei)), .val (.int (v_n0 ai bi ci ei)), .val (.int (v_n1 ai bi ci ei)), .val (.int (b2i (v_ck ai bi ci di ei))), .val (.int (v_es ai bi ci ei)), .unset, .unset] [(.int v1)])) t := fun v1 hv1 => k v1 (hv1.trans (if_neg hc34).symm)
      show Steps p.tables e below (T28.setTop (mkF m 233 #[.val (.int ai), .val (.int bi), .val (.int ci), .val (.int di), .val (.int ei), .val (.int (v_cap ci)), .val (.int (v_i ai ci)), .val (.int (v_mode ei)), .val (.int (v_j ai bi ci ei)), .val (.int (v_k ai bi ci di ei)), .val (.int (v_km ei)), .val (.int (v_lo ai bi ci ei)), .val (.int (v_hi ai bi ci ei)), .val (.ref b16), .val (.int (b2i (v_r1 ai ci))), .val (.int (b2i (v_r2 ai bi ci ei))), .val (.int (b2i (v_r3 ai bi ci ei))), .val (.int (v_sz ai bi ci ei)), .val (.int (v_n0 ai bi ci ei)), .val (.int (v_n1 ai bi ci ei)), .val (.int (b2i (v_ck ai bi ci di ei))), .val (.int (v_es ai bi ci ei)), .unset, .unset] [])) _
      refine XS.iload X28.here hx rfl (hb hby at_233) rfl ?_
      exact k _ rfl
  have pre35 : ∀ t, Steps p.tables e below (T28.setTop (mkF m 241 #[.val (.int ai), .val (.int bi), .val (.int ci), .val (.int di), .val (.int ei), .val (.int (v_cap ci)), .val (.int (v_i ai ci)), .val (.int (v_mode ei)), .val (.int (v_j ai bi ci ei)), .val (.int (v_k ai bi ci di ei)), .val (.int (v_km ei)), .val (.int (v_lo ai bi ci ei)), .val (.int (v_hi ai bi ci ei)), .val (.ref b16), .val (.int (b2i (v_r1 ai ci))), .val (.int (b2i (v_r2 ai bi ci ei))), .val (.int (b2i (v_r3 ai bi ci ei))), .val (.int (v_sz ai bi ci ei)), .val (.int (v_n0 ai bi ci ei)), .val (.int (v_n1 ai bi ci ei)), .val (.int (b2i (v_ck ai bi ci di ei))), .val (.int (v_es ai bi ci ei)), .val (.int (v_en ai bi ci ei)), .unset] [(.int (v_i ai ci)), (.int (v_k ai bi ci di ei))])) t → Steps p.tables e below (s₁.setTop (entryFrame m #[(.int ai), (.int bi), (.int ci), (.int di), (.int ei)] maxLocals)) t := by
    intro t k
    refine pre33 t ?_
    show Steps p.tables e below (T28.setTop (mkF m 235 #[.val (.int ai), .val (.int bi), .val (.int ci), .val (.int di), .val (.int ei), .val (.int (v_cap ci)), .val (.int (v_i ai ci)), .val (.int (v_mode ei)), .val (.int (v_j ai bi ci ei)), .val (.int (v_k ai bi ci di ei)), .val (.int (v_km ei)), .val (.int (v_lo ai bi ci ei)), .val (.int (v_hi ai bi ci ei)), .val (.ref b16), .val (.int (b2i (v_r1 ai ci))), .val (.int (b2i (v_r2 ai bi ci ei))), .val (.int (b2i (v_r3 ai bi ci ei))), .val (.int (v_sz ai bi ci ei)), .val (.int (v_n0 ai bi ci ei)), .val (.int (v_n1 ai bi ci ei)), .val (.int (b2i (v_ck ai bi ci di ei))), .val (.int (v_es ai bi ci ei)), .unset, .unset] [(.int (if (v_i ai ci) = (v_j ai bi ci ei) then (-1 : Int32) else (v_hi ai bi ci ei)))])) _
    refine XS.istore X28.here hx rfl (hb hby at_235) rfl (l' := #[.val (.int ai), .val (.int bi), .val (.int ci), .val (.int di), .val (.int ei), .val (.int (v_cap ci)), .val (.int (v_i ai ci)), .val (.int (v_mode ei)), .val (.int (v_j ai bi ci ei)), .val (.int (v_k ai bi ci di ei)), .val (.int (v_km ei)), .val (.int (v_lo ai bi ci ei)), .val (.int (v_hi ai bi ci ei)), .val (.ref b16), .val (.int (b2i (v_r1 ai ci))), .val (.int (b2i (v_r2 ai bi ci ei))), .val (.int (b2i (v_r3 ai bi ci ei))), .val (.int (v_sz ai bi ci ei)), .val (.int (v_n0 ai bi ci ei)), .val (.int (v_n1 ai bi ci ei)), .val (.int (b2i (v_ck ai bi ci di ei))), .val (.int (v_es ai bi ci ei)), .val (.int (v_en ai bi ci ei)), .unset]) rfl ?_
    show Steps p.tables e below (T28.setTop (mkF m 237 #[.val (.int ai), .val (.int bi), .val (.int ci), .val (.int di), .val (.int ei), .val (.int (v_cap ci)), .val (.int (v_i ai ci)), .val (.int (v_mode ei)), .val (.int (v_j ai bi ci ei)), .val (.int (v_k ai bi ci di ei)), .val (.int (v_km ei)), .val (.int (v_lo ai bi ci ei)), .val (.int (v_hi ai bi ci ei)), .val (.ref b16), .val (.int (b2i (v_r1 ai ci))), .val (.int (b2i (v_r2 ai bi ci ei))), .val (.int (b2i (v_r3 ai bi ci ei))), .val (.int (v_sz ai bi ci ei)), .val (.int (v_n0 ai bi ci ei)), .val (.int (v_n1 ai bi ci ei)), .val (.int (b2i (v_ck ai bi ci di ei))), .val (.int (v_es ai bi ci ei)), .val (.int (v_en ai bi ci ei)), .unset] [])) _
    refine XS.iload X28.here hx rfl (hb hby at_237) rfl ?_
    show Steps p.tables e below (T28.setTop (mkF m 239 #[.val (.int ai), .val (.int bi), .val (.int ci), .val (.int di), .val (.int ei), .val (.int (v_cap ci)), .val (.int (v_i ai ci)), .val (.int (v_mode ei)), .val (.int (v_j ai bi ci ei)), .val (.int (v_k ai bi ci di ei)), .val (.int (v_km ei)), .val (.int (v_lo ai bi ci ei)), .val (.int (v_hi ai bi ci ei)), .val (.ref b16), .val (.int (b2i (v_r1 ai ci))), .val (.int (b2i (v_r2 ai bi ci ei))), .val (.int (b2i (v_r3 ai bi ci ei))), .val (.int (v_sz ai bi ci ei)), .val (.int (v_n0 ai bi ci ei)), .val (.int (v_n1 ai bi ci ei)), .val (.int (b2i (v_ck ai bi ci di ei))), .val (.int (v_es ai bi ci ei)), .val (.int (v_en ai bi ci ei)), .unset] [(.int (v_k ai bi ci di ei))])) _
    refine XS.iload X28.here hx rfl (hb hby at_239) rfl ?_
    exact k
  have pre36 : ∀ t, Steps p.tables e below (T28.setTop (mkF m 256 #[.val (.int ai), .val (.int bi), .val (.int ci), .val (.int di), .val (.int ei), .val (.int (v_cap ci)), .val (.int (v_i ai ci)), .val (.int (v_mode ei)), .val (.int (v_j ai bi ci ei)), .val (.int (v_k ai bi ci di ei)), .val (.int (v_km ei)), .val (.int (v_lo ai bi ci ei)), .val (.int (v_hi ai bi ci ei)), .val (.ref b16), .val (.int (b2i (v_r1 ai ci))), .val (.int (b2i (v_r2 ai bi ci ei))), .val (.int (b2i (v_r3 ai bi ci ei))), .val (.int (v_sz ai bi ci ei)), .val (.int (v_n0 ai bi ci ei)), .val (.int (v_n1 ai bi ci ei)), .val (.int (b2i (v_ck ai bi ci di ei))), .val (.int (v_es ai bi ci ei)), .val (.int (v_en ai bi ci ei)), .unset] [(.int (b2i (if (v_k ai bi ci di ei) = (v_i ai ci) then true else (if (v_k ai bi ci di ei) = (v_j ai bi ci ei) then true else false))))])) t → Steps p.tables e below (s₁.setTop (entryFrame m #[(.int ai), (.int bi), (.int ci), (.int di), (.int ei)] maxLocals)) t := by
    intro t k
    refine pre35 t ?_
    have k : ∀ (v1 : Bool), v1 = (if (v_k ai bi ci di ei) = (v_i ai ci) then true else (if (v_k ai bi ci di ei) = (v_j ai bi ci ei) then true else false)) → Steps p.tables e below (T28.setTop (mkF m 256 #[.val (.int ai), .val (.int bi), .val (.int ci), .val (.int di), .val (.int ei), .val (.int (v_cap ci)), .val (.int (v_i ai ci)), .val (.int (v_mode ei)), .val (.int (v_j ai bi ci ei)), .val (.int (v_k ai bi ci di ei)), .val (.int (v_km ei)), .val (.int (v_lo ai bi ci ei)), .val (.int (v_hi ai bi ci ei)), .val (.ref b16), .val (.int (b2i (v_r1 ai ci))), .val (.int (b2i (v_r2 ai bi ci ei))), .val (.int (b2i (v_r3 ai bi ci ei))), .val (.int (v_sz ai bi ci ei)), .val (.int (v_n0 ai bi ci ei)), .val (.int (v_n1 ai bi ci ei)), .val (.int (b2i (v_ck ai bi ci di ei))), .val (.int (v_es ai bi ci ei)), .val (.int (v_en ai bi ci ei)), .unset] [(.int (b2i v1))])) t := fun v1 hv1 => by subst hv1; exact k
    have nd37 : (∀ (v1 : Bool), v1 = true → Steps p.tables e below (T28.setTop (mkF m 256 #[.val (.int ai), .val (.int bi), .val (.int ci), .val (.int di), .val (.int ei), .val (.int (v_cap ci)), .val (.int (v_i ai ci)), .val (.int (v_mode ei)), .val (.int (v_j ai bi ci ei)), .val (.int (v_k ai bi ci di ei)), .val (.int (v_km ei)), .val (.int (v_lo ai bi ci ei)), .val (.int (v_hi ai bi ci ei)), .val (.ref b16), .val (.int (b2i (v_r1 ai ci))), .val (.int (b2i (v_r2 ai bi ci ei))), .val (.int (b2i (v_r3 ai bi ci ei))), .val (.int (v_sz ai bi ci ei)), .val (.int (v_n0 ai bi ci ei)), .val (.int (v_n1 ai bi ci ei)), .val (.int (b2i (v_ck ai bi ci di ei))), .val (.int (v_es ai bi ci ei)), .val (.int (v_en ai bi ci ei)), .unset] [(.int (b2i v1))])) t) → Steps p.tables e below (T28.setTop (mkF m 251 #[.val (.int ai), .val (.int bi), .val (.int ci), .val (.int di), .val (.int ei), .val (.int (v_cap ci)), .val (.int (v_i ai ci)), .val (.int (v_mode ei)), .val (.int (v_j ai bi ci ei)), .val (.int (v_k ai bi ci di ei)), .val (.int (v_km ei)), .val (.int (v_lo ai bi ci ei)), .val (.int (v_hi ai bi ci ei)), .val (.ref b16), .val (.int (b2i (v_r1 ai ci))), .val (.int (b2i (v_r2 ai bi ci ei))), .val (.int (b2i (v_r3 ai bi ci ei))), .val (.int (v_sz ai bi ci ei)), .val (.int (v_n0 ai bi ci ei)), .val (.int (v_n1 ai bi ci ei)), .val (.int (b2i (v_ck ai bi ci di ei))), .val (.int (v_es ai bi ci ei)), .val (.int (v_en ai bi ci ei)), .unset] [])) t := by
      intro k
      show Steps p.tables e below (T28.setTop (mkF m 251 #[.val (.int ai), .val (.int bi), .val (.int ci), .val (.int di), .val (.int ei), .val (.int (v_cap ci)), .val (.int (v_i ai ci)), .val (.int (v_mode ei)), .val (.int (v_j ai bi ci ei)), .val (.int (v_k ai bi ci di ei)), .val (.int (v_km ei)), .val (.int (v_lo ai bi ci ei)), .val (.int (v_hi ai bi ci ei)), .val (.ref b16), .val (.int (b2i (v_r1 ai ci))), .val (.int (b2i (v_r2 ai bi ci ei))), .val (.int (b2i (v_r3 ai bi ci ei))), .val (.int (v_sz ai bi ci ei)), .val (.int (v_n0 ai bi ci ei)), .val (.int (v_n1 ai bi ci ei)), .val (.int (b2i (v_ck ai bi ci di ei))), .val (.int (v_es ai bi ci ei)), .val (.int (v_en ai bi ci ei)), .unset] [])) _
      refine XS.iconst X28.here hx rfl (hb hby at_251) ?_
      show Steps p.tables e below (T28.setTop (mkF m 252 #[.val (.int ai), .val (.int bi), .val (.int ci), .val (.int di), .val (.int ei), .val (.int (v_cap ci)), .val (.int (v_i ai ci)), .val (.int (v_mode ei)), .val (.int (v_j ai bi ci ei)), .val (.int (v_k ai bi ci di ei)), .val (.int (v_km ei)), .val (.int (v_lo ai bi ci ei)), .val (.int (v_hi ai bi ci ei)), .val (.ref b16), .val (.int (b2i (v_r1 ai ci))), .val (.int (b2i (v_r2 ai bi ci ei))), .val (.int (b2i (v_r3 ai bi ci ei))), .val (.int (v_sz ai bi ci ei)), .val (.int (v_n0 ai bi ci ei)), .val (.int (v_n1 ai bi ci ei)), .val (.int (b2i (v_ck ai bi ci di ei))), .val (.int (v_es ai bi ci ei)), .val (.int (v_en ai bi ci ei)), .unset] [(.int (1 : Int32))])) _
      refine XS.goto X28.here hx rfl (pc0 := 252) (pc' := 256) rfl (hb hby at_252) (by decide) (by decide) ?_
      exact k true rfl
    show Steps p.tables e below (T28.setTop (mkF m 241 #[.val (.int ai), .val (.int bi), .val (.int ci), .val (.int di), .val (.int ei), .val (.int (v_cap ci)), .val (.int (v_i ai ci)), .val (.int (v_mode ei)), .val (.int (v_j ai bi ci ei)), .val (.int (v_k ai bi ci di ei)), .val (.int (v_km ei)), .val (.int (v_lo ai bi ci ei)), .val (.int (v_hi ai bi ci ei)), .val (.ref b16), .val (.int (b2i (v_r1 ai ci))), .val (.int (b2i (v_r2 ai bi ci ei))), .val (.int (b2i (v_r3 ai bi ci ei))), .val (.int (v_sz ai bi ci ei)), .val (.int (v_n0 ai bi ci ei)), .val (.int (v_n1 ai bi ci ei)), .val (.int (b2i (v_ck ai bi ci di ei))), .val (.int (v_es ai bi ci ei)), .val (.int (v_en ai bi ci ei)), .unset] [(.int (v_i ai ci)), (.int (v_k ai bi ci di ei))])) _
    by_cases hc38 : (v_k ai bi ci di ei) = (v_i ai ci)
    · refine XS.icmpYes X28.here hx rfl (pc0 := 241) (pc' := 251) rfl (hb hby at_241) rfl (teq hc38).1 (by decide) (by decide) ?_
      have k : ∀ (v1 : Bool), v1 = true → Steps p.tables e below (T28.setTop (mkF m 256 #[.val (.int ai), .val (.int bi), .val (.int ci), .val (.int di), .val (.int ei), .val (.int (v_cap ci)), .val (.int (v_i ai ci)), .val (.int (v_mode ei)), .val (.int (v_j ai bi ci ei)), .val (.int (v_k ai bi ci di ei)), .val (.int (v_km ei)), .val (.int (v_lo ai bi ci ei)), .val (.int (v_hi ai bi ci ei)), .val (.ref b16), .val (.int (b2i (v_r1 ai ci))), .val (.int (b2i (v_r2 ai bi ci ei))), .val (.int (b2i (v_r3 ai bi ci ei))), .val (.int (v_sz ai bi ci ei)), .val (.int (v_n0 ai bi ci ei)), .val (.int (v_n1 ai bi ci ei)), .val (.int (b2i (v_ck ai bi ci di ei))), .val (.int (v_es ai bi ci ei)), .val (.int (v_en ai bi ci ei)), .unset] [(.int (b2i v1))])) t := fun v1 hv1 => k v1 (hv1.trans (if_pos hc38).symm)
      exact nd37 k
    · refine XS.icmpNo X28.here hx rfl (hb hby at_241) rfl (feq hc38).1 ?_
      have k : ∀ (v1 : Bool), v1 = (if (v_k ai bi ci di ei) = (v_j ai bi ci ei) then true else false) → Steps p.tables e below (T28.setTop (mkF m 256 #[.val (.int ai), .val (.int bi), .val (.int ci), .val (.int di), .val (.int ei), .val (.int (v_cap ci)), .val (.int (v_i ai ci)), .val (.int (v_mode ei)), .val (.int (v_j ai bi ci ei)), .val (.int (v_k ai bi ci di ei)), .val (.int (v_km ei)), .val (.int (v_lo ai bi ci ei)), .val (.int (v_hi ai bi ci ei)), .val (.ref b16), .val (.int (b2i (v_r1 ai ci))), .val (.int (b2i (v_r2 ai bi ci ei))), .val (.int (b2i (v_r3 ai bi ci ei))), .val (.int (v_sz ai bi ci ei)), .val (.int (v_n0 ai bi ci ei)), .val (.int (v_n1 ai bi ci ei)), .val (.int (b2i (v_ck ai bi ci di ei))), .val (.int (v_es ai bi ci ei)), .val (.int (v_en ai bi ci ei)), .unset] [(.int (b2i v1))])) t := fun v1 hv1 => k v1 (hv1.trans (if_neg hc38).symm)
      show Steps p.tables e below (T28.setTop (mkF m 244 #[.val (.int ai), .val (.int bi), .val (.int ci), .val (.int di), .val (.int ei), .val (.int (v_cap ci)), .val (.int (v_i ai ci)), .val (.int (v_mode ei)), .val (.int (v_j ai bi ci ei)), .val (.int (v_k ai bi ci di ei)), .val (.int (v_km ei)), .val (.int (v_lo ai bi ci ei)), .val (.int (v_hi ai bi ci ei)), .val (.ref b16), .val (.int (b2i (v_r1 ai ci))), .val (.int (b2i (v_r2 ai bi ci ei))), .val (.int (b2i (v_r3 ai bi ci ei))), .val (.int (v_sz ai bi ci ei)), .val (.int (v_n0 ai bi ci ei)), .val (.int (v_n1 ai bi ci ei)), .val (.int (b2i (v_ck ai bi ci di ei))), .val (.int (v_es ai bi ci ei)), .val (.int (v_en ai bi ci ei)), .unset] [])) _
      refine XS.iload X28.here hx rfl (hb hby at_244) rfl ?_
      show Steps p.tables e below (T28.setTop (mkF m 246 #[.val (.int ai), .val (.int bi), .val (.int ci), .val (.int di), .val (.int ei), .val (.int (v_cap ci)), .val (.int (v_i ai ci)), .val (.int (v_mode ei)), .val (.int (v_j ai bi ci ei)), .val (.int (v_k ai bi ci di ei)), .val (.int (v_km ei)), .val (.int (v_lo ai bi ci ei)), .val (.int (v_hi ai bi ci ei)), .val (.ref b16), .val (.int (b2i (v_r1 ai ci))), .val (.int (b2i (v_r2 ai bi ci ei))), .val (.int (b2i (v_r3 ai bi ci ei))), .val (.int (v_sz ai bi ci ei)), .val (.int (v_n0 ai bi ci ei)), .val (.int (v_n1 ai bi ci ei)), .val (.int (b2i (v_ck ai bi ci di ei))), .val (.int (v_es ai bi ci ei)), .val (.int (v_en ai bi ci ei)), .unset] [(.int (v_k ai bi ci di ei))])) _
      refine XS.iload X28.here hx rfl (hb hby at_246) rfl ?_
      show Steps p.tables e below (T28.setTop (mkF m 248 #[.val (.int ai), .val (.int bi), .val (.int ci), .val (.int di), .val (.int ei), .val (.int (v_cap ci)), .val (.int (v_i ai ci)), .val (.int (v_mode ei)), .val (.int (v_j ai bi ci ei)), .val (.int (v_k ai bi ci di ei)), .val (.int (v_km ei)), .val (.int (v_lo ai bi ci ei)), .val (.int (v_hi ai bi ci ei)), .val (.ref b16), .val (.int (b2i (v_r1 ai ci))), .val (.int (b2i (v_r2 ai bi ci ei))), .val (.int (b2i (v_r3 ai bi ci ei))), .val (.int (v_sz ai bi ci ei)), .val (.int (v_n0 ai bi ci ei)), .val (.int (v_n1 ai bi ci ei)), .val (.int (b2i (v_ck ai bi ci di ei))), .val (.int (v_es ai bi ci ei)), .val (.int (v_en ai bi ci ei)), .unset] [(.int (v_j ai bi ci ei)), (.int (v_k ai bi ci di ei))])) _
      by_cases hc39 : (v_k ai bi ci di ei) = (v_j ai bi ci ei)
      · refine XS.icmpNo X28.here hx rfl (hb hby at_248) rfl (teq hc39).2 ?_
        have k : ∀ (v1 : Bool), v1 = true → Steps p.tables e below (T28.setTop (mkF m 256 #[.val (.int ai), .val (.int bi), .val (.int ci), .val (.int di), .val (.int ei), .val (.int (v_cap ci)), .val (.int (v_i ai ci)), .val (.int (v_mode ei)), .val (.int (v_j ai bi ci ei)), .val (.int (v_k ai bi ci di ei)), .val (.int (v_km ei)), .val (.int (v_lo ai bi ci ei)), .val (.int (v_hi ai bi ci ei)), .val (.ref b16), .val (.int (b2i (v_r1 ai ci))), .val (.int (b2i (v_r2 ai bi ci ei))), .val (.int (b2i (v_r3 ai bi ci ei))), .val (.int (v_sz ai bi ci ei)), .val (.int (v_n0 ai bi ci ei)), .val (.int (v_n1 ai bi ci ei)), .val (.int (b2i (v_ck ai bi ci di ei))), .val (.int (v_es ai bi ci ei)), .val (.int (v_en ai bi ci ei)), .unset] [(.int (b2i v1))])) t := fun v1 hv1 => k v1 (hv1.trans (if_pos hc39).symm)
        exact nd37 k
      · refine XS.icmpYes X28.here hx rfl (pc0 := 248) (pc' := 255) rfl (hb hby at_248) rfl (feq hc39).2 (by decide) (by decide) ?_
        have k : ∀ (v1 : Bool), v1 = false → Steps p.tables e below (T28.setTop (mkF m 256 #[.val (.int ai), .val (.int bi), .val (.int ci), .val (.int di), .val (.int ei), .val (.int (v_cap ci)), .val (.int (v_i ai ci)), .val (.int (v_mode ei)), .val (.int (v_j ai bi ci ei)), .val (.int (v_k ai bi ci di ei)), .val (.int (v_km ei)), .val (.int (v_lo ai bi ci ei)), .val (.int (v_hi ai bi ci ei)), .val (.ref b16), .val (.int (b2i (v_r1 ai ci))), .val (.int (b2i (v_r2 ai bi ci ei))), .val (.int (b2i (v_r3 ai bi ci ei))), .val (.int (v_sz ai bi ci ei)), .val (.int (v_n0 ai bi ci ei)), .val (.int (v_n1 ai bi ci ei)), .val (.int (b2i (v_ck ai bi ci di ei))), .val (.int (v_es ai bi ci ei)), .val (.int (v_en ai bi ci ei)), .unset] [(.int (b2i v1))])) t := fun v1 hv1 => k v1 (hv1.trans (if_neg hc39).symm)
        show Steps p.tables e below (T28.setTop (mkF m 255 #[.val (.int ai), .val (.int bi), .val (.int ci), .val (.int di), .val (.int ei), .val (.int (v_cap ci)), .val (.int (v_i ai ci)), .val (.int (v_mode ei)), .val (.int (v_j ai bi ci ei)), .val (.int (v_k ai bi ci di ei)), .val (.int (v_km ei)), .val (.int (v_lo ai bi ci ei)), .val (.int (v_hi ai bi ci ei)), .val (.ref b16), .val (.int (b2i (v_r1 ai ci))), .val (.int (b2i (v_r2 ai bi ci ei))), .val (.int (b2i (v_r3 ai bi ci ei))), .val (.int (v_sz ai bi ci ei)), .val (.int (v_n0 ai bi ci ei)), .val (.int (v_n1 ai bi ci ei)), .val (.int (b2i (v_ck ai bi ci di ei))), .val (.int (v_es ai bi ci ei)), .val (.int (v_en ai bi ci ei)), .unset] [])) _
        refine XS.iconst X28.here hx rfl (hb hby at_255) ?_
        exact k false rfl
  have pre40 : ∀ t, Steps p.tables e below (T28.setTop (mkF m 260 #[.val (.int ai), .val (.int bi), .val (.int ci), .val (.int di), .val (.int ei), .val (.int (v_cap ci)), .val (.int (v_i ai ci)), .val (.int (v_mode ei)), .val (.int (v_j ai bi ci ei)), .val (.int (v_k ai bi ci di ei)), .val (.int (v_km ei)), .val (.int (v_lo ai bi ci ei)), .val (.int (v_hi ai bi ci ei)), .val (.ref b16), .val (.int (b2i (v_r1 ai ci))), .val (.int (b2i (v_r2 ai bi ci ei))), .val (.int (b2i (v_r3 ai bi ci ei))), .val (.int (v_sz ai bi ci ei)), .val (.int (v_n0 ai bi ci ei)), .val (.int (v_n1 ai bi ci ei)), .val (.int (b2i (v_ck ai bi ci di ei))), .val (.int (v_es ai bi ci ei)), .val (.int (v_en ai bi ci ei)), .val (.int (b2i (v_ec ai bi ci di ei)))] [(.int (b2i (v_r1 ai ci)))])) t → Steps p.tables e below (s₁.setTop (entryFrame m #[(.int ai), (.int bi), (.int ci), (.int di), (.int ei)] maxLocals)) t := by
    intro t k
    refine pre36 t ?_
    show Steps p.tables e below (T28.setTop (mkF m 256 #[.val (.int ai), .val (.int bi), .val (.int ci), .val (.int di), .val (.int ei), .val (.int (v_cap ci)), .val (.int (v_i ai ci)), .val (.int (v_mode ei)), .val (.int (v_j ai bi ci ei)), .val (.int (v_k ai bi ci di ei)), .val (.int (v_km ei)), .val (.int (v_lo ai bi ci ei)), .val (.int (v_hi ai bi ci ei)), .val (.ref b16), .val (.int (b2i (v_r1 ai ci))), .val (.int (b2i (v_r2 ai bi ci ei))), .val (.int (b2i (v_r3 ai bi ci ei))), .val (.int (v_sz ai bi ci ei)), .val (.int (v_n0 ai bi ci ei)), .val (.int (v_n1 ai bi ci ei)), .val (.int (b2i (v_ck ai bi ci di ei))), .val (.int (v_es ai bi ci ei)), .val (.int (v_en ai bi ci ei)), .unset] [(.int (b2i (if (v_k ai bi ci di ei) = (v_i ai ci) then true else (if (v_k ai bi ci di ei) = (v_j ai bi ci ei) then true else false))))])) _
    refine XS.istore X28.here hx rfl (hb hby at_256) rfl (l' := #[.val (.int ai), .val (.int bi), .val (.int ci), .val (.int di), .val (.int ei), .val (.int (v_cap ci)), .val (.int (v_i ai ci)), .val (.int (v_mode ei)), .val (.int (v_j ai bi ci ei)), .val (.int (v_k ai bi ci di ei)), .val (.int (v_km ei)), .val (.int (v_lo ai bi ci ei)), .val (.int (v_hi ai bi ci ei)), .val (.ref b16), .val (.int (b2i (v_r1 ai ci))), .val (.int (b2i (v_r2 ai bi ci ei))), .val (.int (b2i (v_r3 ai bi ci ei))), .val (.int (v_sz ai bi ci ei)), .val (.int (v_n0 ai bi ci ei)), .val (.int (v_n1 ai bi ci ei)), .val (.int (b2i (v_ck ai bi ci di ei))), .val (.int (v_es ai bi ci ei)), .val (.int (v_en ai bi ci ei)), .val (.int (b2i (v_ec ai bi ci di ei)))]) rfl ?_
    show Steps p.tables e below (T28.setTop (mkF m 258 #[.val (.int ai), .val (.int bi), .val (.int ci), .val (.int di), .val (.int ei), .val (.int (v_cap ci)), .val (.int (v_i ai ci)), .val (.int (v_mode ei)), .val (.int (v_j ai bi ci ei)), .val (.int (v_k ai bi ci di ei)), .val (.int (v_km ei)), .val (.int (v_lo ai bi ci ei)), .val (.int (v_hi ai bi ci ei)), .val (.ref b16), .val (.int (b2i (v_r1 ai ci))), .val (.int (b2i (v_r2 ai bi ci ei))), .val (.int (b2i (v_r3 ai bi ci ei))), .val (.int (v_sz ai bi ci ei)), .val (.int (v_n0 ai bi ci ei)), .val (.int (v_n1 ai bi ci ei)), .val (.int (b2i (v_ck ai bi ci di ei))), .val (.int (v_es ai bi ci ei)), .val (.int (v_en ai bi ci ei)), .val (.int (b2i (v_ec ai bi ci di ei)))] [])) _
    refine XS.iload X28.here hx rfl (hb hby at_258) rfl ?_
    exact k
  have pre42 : ∀ t, Steps p.tables e below (T28.setTop (mkF m 318 #[.val (.int ai), .val (.int bi), .val (.int ci), .val (.int di), .val (.int ei), .val (.int (v_cap ci)), .val (.int (v_i ai ci)), .val (.int (v_mode ei)), .val (.int (v_j ai bi ci ei)), .val (.int (v_k ai bi ci di ei)), .val (.int (v_km ei)), .val (.int (v_lo ai bi ci ei)), .val (.int (v_hi ai bi ci ei)), .val (.ref b16), .val (.int (b2i (v_r1 ai ci))), .val (.int (b2i (v_r2 ai bi ci ei))), .val (.int (b2i (v_r3 ai bi ci ei))), .val (.int (v_sz ai bi ci ei)), .val (.int (v_n0 ai bi ci ei)), .val (.int (v_n1 ai bi ci ei)), .val (.int (b2i (v_ck ai bi ci di ei))), .val (.int (v_es ai bi ci ei)), .val (.int (v_en ai bi ci ei)), .val (.int (b2i (v_ec ai bi ci di ei)))] [(.int (b2i (if (v_r1 ai ci) = true then (if (v_i ai ci) = (v_j ai bi ci ei) then (if (v_r2 ai bi ci ei) = true then false else (nd0_280_41 ai bi ci di ei)) else (if (b2i (v_r2 ai bi ci ei)) = (1 : Int32) then (nd0_280_41 ai bi ci di ei) else false)) else false)))])) t → Steps p.tables e below (s₁.setTop (entryFrame m #[(.int ai), (.int bi), (.int ci), (.int di), (.int ei)] maxLocals)) t := by
    intro t k
    refine pre40 t ?_
    have k : ∀ (v1 : Bool), v1 = (if (v_r1 ai ci) = true then (if (v_i ai ci) = (v_j ai bi ci ei) then (if (v_r2 ai bi ci ei) = true then false else (nd0_280_41 ai bi ci di ei)) else (if (b2i (v_r2 ai bi ci ei)) = (1 : Int32) then (nd0_280_41 ai bi ci di ei) else false)) else false) → Steps p.tables e below (T28.setTop (mkF m 318 #[.val (.int ai), .val (.int bi), .val (.int ci), .val (.int di), .val (.int ei), .val (.int (v_cap ci)), .val (.int (v_i ai ci)), .val (.int (v_mode ei)), .val (.int (v_j ai bi ci ei)), .val (.int (v_k ai bi ci di ei)), .val (.int (v_km ei)), .val (.int (v_lo ai bi ci ei)), .val (.int (v_hi ai bi ci ei)), .val (.ref b16), .val (.int (b2i (v_r1 ai ci))), .val (.int (b2i (v_r2 ai bi ci ei))), .val (.int (b2i (v_r3 ai bi ci ei))), .val (.int (v_sz ai bi ci ei)), .val (.int (v_n0 ai bi ci ei)), .val (.int (v_n1 ai bi ci ei)), .val (.int (b2i (v_ck ai bi ci di ei))), .val (.int (v_es ai bi ci ei)), .val (.int (v_en ai bi ci ei)), .val (.int (b2i (v_ec ai bi ci di ei)))] [(.int (b2i v1))])) t := fun v1 hv1 => by subst hv1; exact k
    have nd43 : (∀ (v1 : Bool), v1 = false → Steps p.tables e below (T28.setTop (mkF m 318 #[.val (.int ai), .val (.int bi), .val (.int ci), .val (.int di), .val (.int ei), .val (.int (v_cap ci)), .val (.int (v_i ai ci)), .val (.int (v_mode ei)), .val (.int (v_j ai bi ci ei)), .val (.int (v_k ai bi ci di ei)), .val (.int (v_km ei)), .val (.int (v_lo ai bi ci ei)), .val (.int (v_hi ai bi ci ei)), .val (.ref b16), .val (.int (b2i (v_r1 ai ci))), .val (.int (b2i (v_r2 ai bi ci ei))), .val (.int (b2i (v_r3 ai bi ci ei))), .val (.int (v_sz ai bi ci ei)), .val (.int (v_n0 ai bi ci ei)), .val (.int (v_n1 ai bi ci ei)), .val (.int (b2i (v_ck ai bi ci di ei))), .val (.int (v_es ai bi ci ei)), .val (.int (v_en ai bi ci ei)), .val (.int (b2i (v_ec ai bi ci di ei)))] [(.int (b2i v1))])) t) → Steps p.tables e below (T28.setTop (mkF m 317 #[.val (.int ai), .val (.int bi), .val (.int ci), .val (.int di), .val (.int ei), .val (.int (v_cap ci)), .val (.int (v_i ai ci)), .val (.int (v_mode ei)), .val (.int (v_j ai bi ci ei)), .val (.int (v_k ai bi ci di ei)), .val (.int (v_km ei)), .val (.int (v_lo ai bi ci ei)), .val (.int (v_hi ai bi ci ei)), .val (.ref b16), .val (.int (b2i (v_r1 ai ci))), .val (.int (b2i (v_r2 ai bi ci ei))), .val (.int (b2i (v_r3 ai bi ci ei))), .val (.int (v_sz ai bi ci ei)), .val (.int (v_n0 ai bi ci ei)), .val (.int (v_n1 ai bi ci ei)), .val (.int (b2i (v_ck ai bi ci di ei))), .val (.int (v_es ai bi ci ei)), .val (.int (v_en ai bi ci ei)), .val (.int (b2i (v_ec ai bi ci di ei)))] [])) t := by
      intro k
      show Steps p.tables e below (T28.setTop (mkF m 317 #[.val (.int ai), .val (.int bi), .val (.int ci), .val (.int di), .val (.int ei), .val (.int (v_cap ci)), .val (.int (v_i ai ci)), .val (.int (v_mode ei)), .val (.int (v_j ai bi ci ei)), .val (.int (v_k ai bi ci di ei)), .val (.int (v_km ei)), .val (.int (v_lo ai bi ci ei)), .val (.int (v_hi ai bi ci ei)), .val (.ref b16), .val (.int (b2i (v_r1 ai ci))), .val (.int (b2i (v_r2 ai bi ci ei))), .val (.int (b2i (v_r3 ai bi ci ei))), .val (.int (v_sz ai bi ci ei)), .val (.int (v_n0 ai bi ci ei)), .val (.int (v_n1 ai bi ci ei)), .val (.int (b2i (v_ck ai bi ci di ei))), .val (.int (v_es ai bi ci ei)), .val (.int (v_en ai bi ci ei)), .val (.int (b2i (v_ec ai bi ci di ei)))] [])) _
      refine XS.iconst X28.here hx rfl (hb hby at_317) ?_
      exact k false rfl
    have nd44 : (∀ (v1 : Bool), v1 = (nd0_280_41 ai bi ci di ei) → Steps p.tables e below (T28.setTop (mkF m 318 #[.val (.int ai), .val (.int bi), .val (.int ci), .val (.int di), .val (.int ei), .val (.int (v_cap ci)), .val (.int (v_i ai ci)), .val (.int (v_mode ei)), .val (.int (v_j ai bi ci ei)), .val (.int (v_k ai bi ci di ei)), .val (.int (v_km ei)), .val (.int (v_lo ai bi ci ei)), .val (.int (v_hi ai bi ci ei)), .val (.ref b16), .val (.int (b2i (v_r1 ai ci))), .val (.int (b2i (v_r2 ai bi ci ei))), .val (.int (b2i (v_r3 ai bi ci ei))), .val (.int (v_sz ai bi ci ei)), .val (.int (v_n0 ai bi ci ei)), .val (.int (v_n1 ai bi ci ei)), .val (.int (b2i (v_ck ai bi ci di ei))), .val (.int (v_es ai bi ci ei)), .val (.int (v_en ai bi ci ei)), .val (.int (b2i (v_ec ai bi ci di ei)))] [(.int (b2i v1))])) t) → Steps p.tables e below (T28.setTop (mkF m 280 #[.val (.int ai), .val (.int bi), .val (.int ci), .val (.int di), .val (.int ei), .val (.int (v_cap ci)), .val (.int (v_i ai ci)), .val (.int (v_mode ei)), .val (.int (v_j ai bi ci ei)), .val (.int (v_k ai bi ci di ei)), .val (.int (v_km ei)), .val (.int (v_lo ai bi ci ei)), .val (.int (v_hi ai bi ci ei)), .val (.ref b16), .val (.int (b2i (v_r1 ai ci))), .val (.int (b2i (v_r2 ai bi ci ei))), .val (.int (b2i (v_r3 ai bi ci ei))), .val (.int (v_sz ai bi ci ei)), .val (.int (v_n0 ai bi ci ei)), .val (.int (v_n1 ai bi ci ei)), .val (.int (b2i (v_ck ai bi ci di ei))), .val (.int (v_es ai bi ci ei)), .val (.int (v_en ai bi ci ei)), .val (.int (b2i (v_ec ai bi ci di ei)))] [])) t := by
      intro k
      have k : ∀ (v1 : Bool), v1 = (if (v_r3 ai bi ci ei) = true then false else (if (v_sz ai bi ci ei) = (v_es ai bi ci ei) then (if (v_n0 ai bi ci ei) = (v_lo ai bi ci ei) then (if (v_n1 ai bi ci ei) = (v_en ai bi ci ei) then (if (b2i (v_ck ai bi ci di ei)) = (b2i (v_ec ai bi ci di ei)) then true else false) else false) else false) else false)) → Steps p.tables e below (T28.setTop (mkF m 318 #[.val (.int ai), .val (.int bi), .val (.int ci), .val (.int di), .val (.int ei), .val (.int (v_cap ci)), .val (.int (v_i ai ci)), .val (.int (v_mode ei)), .val (.int (v_j ai bi ci ei)), .val (.int (v_k ai bi ci di ei)), .val (.int (v_km ei)), .val (.int (v_lo ai bi ci ei)), .val (.int (v_hi ai bi ci ei)), .val (.ref b16), .val (.int (b2i (v_r1 ai ci))), .val (.int (b2i (v_r2 ai bi ci ei))), .val (.int (b2i (v_r3 ai bi ci ei))), .val (.int (v_sz ai bi ci ei)), .val (.int (v_n0 ai bi ci ei)), .val (.int (v_n1 ai bi ci ei)), .val (.int (b2i (v_ck ai bi ci di ei))), .val (.int (v_es ai bi ci ei)), .val (.int (v_en ai bi ci ei)), .val (.int (b2i (v_ec ai bi ci di ei)))] [(.int (b2i v1))])) t := k
      show Steps p.tables e below (T28.setTop (mkF m 280 #[.val (.int ai), .val (.int bi), .val (.int ci), .val (.int di), .val (.int ei), .val (.int (v_cap ci)), .val (.int (v_i ai ci)), .val (.int (v_mode ei)), .val (.int (v_j ai bi ci ei)), .val (.int (v_k ai bi ci di ei)), .val (.int (v_km ei)), .val (.int (v_lo ai bi ci ei)), .val (.int (v_hi ai bi ci ei)), .val (.ref b16), .val (.int (b2i (v_r1 ai ci))), .val (.int (b2i (v_r2 ai bi ci ei))), .val (.int (b2i (v_r3 ai bi ci ei))), .val (.int (v_sz ai bi ci ei)), .val (.int (v_n0 ai bi ci ei)), .val (.int (v_n1 ai bi ci ei)), .val (.int (b2i (v_ck ai bi ci di ei))), .val (.int (v_es ai bi ci ei)), .val (.int (v_en ai bi ci ei)), .val (.int (b2i (v_ec ai bi ci di ei)))] [])) _
      refine XS.iload X28.here hx rfl (hb hby at_280) rfl ?_
      show Steps p.tables e below (T28.setTop (mkF m 282 #[.val (.int ai), .val (.int bi), .val (.int ci), .val (.int di), .val (.int ei), .val (.int (v_cap ci)), .val (.int (v_i ai ci)), .val (.int (v_mode ei)), .val (.int (v_j ai bi ci ei)), .val (.int (v_k ai bi ci di ei)), .val (.int (v_km ei)), .val (.int (v_lo ai bi ci ei)), .val (.int (v_hi ai bi ci ei)), .val (.ref b16), .val (.int (b2i (v_r1 ai ci))), .val (.int (b2i (v_r2 ai bi ci ei))), .val (.int (b2i (v_r3 ai bi ci ei))), .val (.int (v_sz ai bi ci ei)), .val (.int (v_n0 ai bi ci ei)), .val (.int (v_n1 ai bi ci ei)), .val (.int (b2i (v_ck ai bi ci di ei))), .val (.int (v_es ai bi ci ei)), .val (.int (v_en ai bi ci ei)), .val (.int (b2i (v_ec ai bi ci di ei)))] [(.int (b2i (v_r3 ai bi ci ei)))])) _
      by_cases hc45 : (v_r3 ai bi ci ei) = true
      · refine XS.ifYes X28.here hx rfl (pc0 := 282) (pc' := 317) rfl (hb hby at_282) rfl ((if0 _ _).trans (feq (b2i_ne hc45)).2) (by decide) (by decide) ?_
        have k : ∀ (v1 : Bool), v1 = false → Steps p.tables e below (T28.setTop (mkF m 318 #[.val (.int ai), .val (.int bi), .val (.int ci), .val (.int di), .val (.int ei), .val (.int (v_cap ci)), .val (.int (v_i ai ci)), .val (.int (v_mode ei)), .val (.int (v_j ai bi ci ei)), .val (.int (v_k ai bi ci di ei)), .val (.int (v_km ei)), .val (.int (v_lo ai bi ci ei)), .val (.int (v_hi ai bi ci ei)), .val (.ref b16), .val (.int (b2i (v_r1 ai ci))), .val (.int (b2i (v_r2 ai bi ci ei))), .val (.int (b2i (v_r3 ai bi ci ei))), .val (.int (v_sz ai bi ci ei)), .val (.int (v_n0 ai bi ci ei)), .val (.int (v_n1 ai bi ci ei)), .val (.int (b2i (v_ck ai bi ci di ei))), .val (.int (v_es ai bi ci ei)), .val (.int (v_en ai bi ci ei)), .val (.int (b2i (v_ec ai bi ci di ei)))] [(.int (b2i v1))])) t := fun v1 hv1 => k v1 (hv1.trans (if_pos hc45).symm)
        exact nd43 k
      · refine XS.ifNo X28.here hx rfl (hb hby at_282) rfl ((if0 _ _).trans (teq (b2i_eq hc45)).2) ?_
        have k : ∀ (v1 : Bool), v1 = (if (v_sz ai bi ci ei) = (v_es ai bi ci ei) then (if (v_n0 ai bi ci ei) = (v_lo ai bi ci ei) then (if (v_n1 ai bi ci ei) = (v_en ai bi ci ei) then (if (b2i (v_ck ai bi ci di ei)) = (b2i (v_ec ai bi ci di ei)) then true else false) else false) else false) else false) → Steps p.tables e below (T28.setTop (mkF m 318 #[.val (.int ai), .val (.int bi), .val (.int ci), .val (.int di), .val (.int ei), .val (.int (v_cap ci)), .val (.int (v_i ai ci)), .val (.int (v_mode ei)), .val (.int (v_j ai bi ci ei)), .val (.int (v_k ai bi ci di ei)), .val (.int (v_km ei)), .val (.int (v_lo ai bi ci ei)), .val (.int (v_hi ai bi ci ei)), .val (.ref b16), .val (.int (b2i (v_r1 ai ci))), .val (.int (b2i (v_r2 ai bi ci ei))), .val (.int (b2i (v_r3 ai bi ci ei))), .val (.int (v_sz ai bi ci ei)), .val (.int (v_n0 ai bi ci ei)), .val (.int (v_n1 ai bi ci ei)), .val (.int (b2i (v_ck ai bi ci di ei))), .val (.int (v_es ai bi ci ei)), .val (.int (v_en ai bi ci ei)), .val (.int (b2i (v_ec ai bi ci di ei)))] [(.int (b2i v1))])) t := fun v1 hv1 => k v1 (hv1.trans (if_neg hc45).symm)
        show Steps p.tables e below (T28.setTop (mkF m 285 #[.val (.int ai), .val (.int bi), .val (.int ci), .val (.int di), .val (.int ei), .val (.int (v_cap ci)), .val (.int (v_i ai ci)), .val (.int (v_mode ei)), .val (.int (v_j ai bi ci ei)), .val (.int (v_k ai bi ci di ei)), .val (.int (v_km ei)), .val (.int (v_lo ai bi ci ei)), .val (.int (v_hi ai bi ci ei)), .val (.ref b16), .val (.int (b2i (v_r1 ai ci))), .val (.int (b2i (v_r2 ai bi ci ei))), .val (.int (b2i (v_r3 ai bi ci ei))), .val (.int (v_sz ai bi ci ei)), .val (.int (v_n0 ai bi ci ei)), .val (.int (v_n1 ai bi ci ei)), .val (.int (b2i (v_ck ai bi ci di ei))), .val (.int (v_es ai bi ci ei)), .val (.int (v_en ai bi ci ei)), .val (.int (b2i (v_ec ai bi ci di ei)))] [])) _
        refine XS.iload X28.here hx rfl (hb hby at_285) rfl ?_
        show Steps p.tables e below (T28.setTop (mkF m 287 #[.val (.int ai), .val (.int bi), .val (.int ci), .val (.int di), .val (.int ei), .val (.int (v_cap ci)), .val (.int (v_i ai ci)), .val (.int (v_mode ei)), .val (.int (v_j ai bi ci ei)), .val (.int (v_k ai bi ci di ei)), .val (.int (v_km ei)), .val (.int (v_lo ai bi ci ei)), .val (.int (v_hi ai bi ci ei)), .val (.ref b16), .val (.int (b2i (v_r1 ai ci))), .val (.int (b2i (v_r2 ai bi ci ei))), .val (.int (b2i (v_r3 ai bi ci ei))), .val (.int (v_sz ai bi ci ei)), .val (.int (v_n0 ai bi ci ei)), .val (.int (v_n1 ai bi ci ei)), .val (.int (b2i (v_ck ai bi ci di ei))), .val (.int (v_es ai bi ci ei)), .val (.int (v_en ai bi ci ei)), .val (.int (b2i (v_ec ai bi ci di ei)))] [(.int (v_sz ai bi ci ei))])) _
        refine XS.iload X28.here hx rfl (hb hby at_287) rfl ?_
        show Steps p.tables e below (T28.setTop (mkF m 289 #[.val (.int ai), .val (.int bi), .val (.int ci), .val (.int di), .val (.int ei), .val (.int (v_cap ci)), .val (.int (v_i ai ci)), .val (.int (v_mode ei)), .val (.int (v_j ai bi ci ei)), .val (.int (v_k ai bi ci di ei)), .val (.int (v_km ei)), .val (.int (v_lo ai bi ci ei)), .val (.int (v_hi ai bi ci ei)), .val (.ref b16), .val (.int (b2i (v_r1 ai ci))), .val (.int (b2i (v_r2 ai bi ci ei))), .val (.int (b2i (v_r3 ai bi ci ei))), .val (.int (v_sz ai bi ci ei)), .val (.int (v_n0 ai bi ci ei)), .val (.int (v_n1 ai bi ci ei)), .val (.int (b2i (v_ck ai bi ci di ei))), .val (.int (v_es ai bi ci ei)), .val (.int (v_en ai bi ci ei)), .val (.int (b2i (v_ec ai bi ci di ei)))] [(.int (v_es ai bi ci ei)), (.int (v_sz ai bi ci ei))])) _
        by_cases hc46 : (v_sz ai bi ci ei) = (v_es ai bi ci ei)
        · refine XS.icmpNo X28.here hx rfl (hb hby at_289) rfl (teq hc46).2 ?_
          have k : ∀ (v1 : Bool), v1 = (if (v_n0 ai bi ci ei) = (v_lo ai bi ci ei) then (if (v_n1 ai bi ci ei) = (v_en ai bi ci ei) then (if (b2i (v_ck ai bi ci di ei)) = (b2i (v_ec ai bi ci di ei)) then true else false) else false) else false) → Steps p.tables e below (T28.setTop (mkF m 318 #[.val (.int ai), .val (.int bi), .val (.int ci), .val (.int di), .val (.int ei), .val (.int (v_cap ci)), .val (.int (v_i ai ci)), .val (.int (v_mode ei)), .val (.int (v_j ai bi ci ei)), .val (.int (v_k ai bi ci di ei)), .val (.int (v_km ei)), .val (.int (v_lo ai bi ci ei)), .val (.int (v_hi ai bi ci ei)), .val (.ref b16), .val (.int (b2i (v_r1 ai ci))), .val (.int (b2i (v_r2 ai bi ci ei))), .val (.int (b2i (v_r3 ai bi ci ei))), .val (.int (v_sz ai bi ci ei)), .val (.int (v_n0 ai bi ci ei)), .val (.int (v_n1 ai bi ci ei)), .val (.int (b2i (v_ck ai bi ci di ei))), .val (.int (v_es ai bi ci ei)), .val (.int (v_en ai bi ci ei)), .val (.int (b2i (v_ec ai bi ci di ei)))] [(.int (b2i v1))])) t := fun v1 hv1 => k v1 (hv1.trans (if_pos hc46).symm)
          show Steps p.tables e below (T28.setTop (mkF m 292 #[.val (.int ai), .val (.int bi), .val (.int ci), .val (.int di), .val (.int ei), .val (.int (v_cap ci)), .val (.int (v_i ai ci)), .val (.int (v_mode ei)), .val (.int (v_j ai bi ci ei)), .val (.int (v_k ai bi ci di ei)), .val (.int (v_km ei)), .val (.int (v_lo ai bi ci ei)), .val (.int (v_hi ai bi ci ei)), .val (.ref b16), .val (.int (b2i (v_r1 ai ci))), .val (.int (b2i (v_r2 ai bi ci ei))), .val (.int (b2i (v_r3 ai bi ci ei))), .val (.int (v_sz ai bi ci ei)), .val (.int (v_n0 ai bi ci ei)), .val (.int (v_n1 ai bi ci ei)), .val (.int (b2i (v_ck ai bi ci di ei))), .val (.int (v_es ai bi ci ei)), .val (.int (v_en ai bi ci ei)), .val (.int (b2i (v_ec ai bi ci di ei)))] [])) _
          refine XS.iload X28.here hx rfl (hb hby at_292) rfl ?_
          show Steps p.tables e below (T28.setTop (mkF m 294 #[.val (.int ai), .val (.int bi), .val (.int ci), .val (.int di), .val (.int ei), .val (.int (v_cap ci)), .val (.int (v_i ai ci)), .val (.int (v_mode ei)), .val (.int (v_j ai bi ci ei)), .val (.int (v_k ai bi ci di ei)), .val (.int (v_km ei)), .val (.int (v_lo ai bi ci ei)), .val (.int (v_hi ai bi ci ei)), .val (.ref b16), .val (.int (b2i (v_r1 ai ci))), .val (.int (b2i (v_r2 ai bi ci ei))), .val (.int (b2i (v_r3 ai bi ci ei))), .val (.int (v_sz ai bi ci ei)), .val (.int (v_n0 ai bi ci ei)), .val (.int (v_n1 ai bi ci ei)), .val (.int (b2i (v_ck ai bi ci di ei))), .val (.int (v_es ai bi ci ei)), .val (.int (v_en ai bi ci ei)), .val (.int (b2i (v_ec ai bi ci di ei)))] [(.int (v_n0 ai bi ci ei))])) _
          refine XS.iload X28.here hx rfl (hb hby at_294) rfl ?_
          show Steps p.tables e below (T28.setTop (mkF m 296 #[.val (.int ai), .val (.int bi), .val (.int ci), .val (.int di), .val (.int ei), .val (.int (v_cap ci)), .val (.int (v_i ai ci)), .val (.int (v_mode ei)), .val (.int (v_j ai bi ci ei)), .val (.int (v_k ai bi ci di ei)), .val (.int (v_km ei)), .val (.int (v_lo ai bi ci ei)), .val (.int (v_hi ai bi ci ei)), .val (.ref b16), .val (.int (b2i (v_r1 ai ci))), .val (.int (b2i (v_r2 ai bi ci ei))), .val (.int (b2i (v_r3 ai bi ci ei))), .val (.int (v_sz ai bi ci ei)), .val (.int (v_n0 ai bi ci ei)), .val (.int (v_n1 ai bi ci ei)), .val (.int (b2i (v_ck ai bi ci di ei))), .val (.int (v_es ai bi ci ei)), .val (.int (v_en ai bi ci ei)), .val (.int (b2i (v_ec ai bi ci di ei)))] [(.int (v_lo ai bi ci ei)), (.int (v_n0 ai bi ci ei))])) _
          by_cases hc47 : (v_n0 ai bi ci ei) = (v_lo ai bi ci ei)
          · refine XS.icmpNo X28.here hx rfl (hb hby at_296) rfl (teq hc47).2 ?_
            have k : ∀ (v1 : Bool), v1 = (if (v_n1 ai bi ci ei) = (v_en ai bi ci ei) then (if (b2i (v_ck ai bi ci di ei)) = (b2i (v_ec ai bi ci di ei)) then true else false) else false) → Steps p.tables e below (T28.setTop (mkF m 318 #[.val (.int ai), .val (.int bi), .val (.int ci), .val (.int di), .val (.int ei), .val (.int (v_cap ci)), .val (.int (v_i ai ci)), .val (.int (v_mode ei)), .val (.int (v_j ai bi ci ei)), .val (.int (v_k ai bi ci di ei)), .val (.int (v_km ei)), .val (.int (v_lo ai bi ci ei)), .val (.int (v_hi ai bi ci ei)), .val (.ref b16), .val (.int (b2i (v_r1 ai ci))), .val (.int (b2i (v_r2 ai bi ci ei))), .val (.int (b2i (v_r3 ai bi ci ei))), .val (.int (v_sz ai bi ci ei)), .val (.int (v_n0 ai bi ci ei)), .val (.int (v_n1 ai bi ci ei)), .val (.int (b2i (v_ck ai bi ci di ei))), .val (.int (v_es ai bi ci ei)), .val (.int (v_en ai bi ci ei)), .val (.int (b2i (v_ec ai bi ci di ei)))] [(.int (b2i v1))])) t := fun v1 hv1 => k v1 (hv1.trans (if_pos hc47).symm)
            show Steps p.tables e below (T28.setTop (mkF m 299 #[.val (.int ai), .val (.int bi), .val (.int ci), .val (.int di), .val (.int ei), .val (.int (v_cap ci)), .val (.int (v_i ai ci)), .val (.int (v_mode ei)), .val (.int (v_j ai bi ci ei)), .val (.int (v_k ai bi ci di ei)), .val (.int (v_km ei)), .val (.int (v_lo ai bi ci ei)), .val (.int (v_hi ai bi ci ei)), .val (.ref b16), .val (.int (b2i (v_r1 ai ci))), .val (.int (b2i (v_r2 ai bi ci ei))), .val (.int (b2i (v_r3 ai bi ci ei))), .val (.int (v_sz ai bi ci ei)), .val (.int (v_n0 ai bi ci ei)), .val (.int (v_n1 ai bi ci ei)), .val (.int (b2i (v_ck ai bi ci di ei))), .val (.int (v_es ai bi ci ei)), .val (.int (v_en ai bi ci ei)), .val (.int (b2i (v_ec ai bi ci di ei)))] [])) _
            refine XS.iload X28.here hx rfl (hb hby at_299) rfl ?_
            show Steps p.tables e below (T28.setTop (mkF m 301 #[.val (.int ai), .val (.int bi), .val (.int ci), .val (.int di), .val (.int ei), .val (.int (v_cap ci)), .val (.int (v_i ai ci)), .val (.int (v_mode ei)), .val (.int (v_j ai bi ci ei)), .val (.int (v_k ai bi ci di ei)), .val (.int (v_km ei)), .val (.int (v_lo ai bi ci ei)), .val (.int (v_hi ai bi ci ei)), .val (.ref b16), .val (.int (b2i (v_r1 ai ci))), .val (.int (b2i (v_r2 ai bi ci ei))), .val (.int (b2i (v_r3 ai bi ci ei))), .val (.int (v_sz ai bi ci ei)), .val (.int (v_n0 ai bi ci ei)), .val (.int (v_n1 ai bi ci ei)), .val (.int (b2i (v_ck ai bi ci di ei))), .val (.int (v_es ai bi ci ei)), .val (.int (v_en ai bi ci ei)), .val (.int (b2i (v_ec ai bi ci di ei)))] [(.int (v_n1 ai bi ci ei))])) _
            refine XS.iload X28.here hx rfl (hb hby at_301) rfl ?_
            show Steps p.tables e below (T28.setTop (mkF m 303 #[.val (.int ai), .val (.int bi), .val (.int ci), .val (.int di), .val (.int ei), .val (.int (v_cap ci)), .val (.int (v_i ai ci)), .val (.int (v_mode ei)), .val (.int (v_j ai bi ci ei)), .val (.int (v_k ai bi ci di ei)), .val (.int (v_km ei)), .val (.int (v_lo ai bi ci ei)), .val (.int (v_hi ai bi ci ei)), .val (.ref b16), .val (.int (b2i (v_r1 ai ci))), .val (.int (b2i (v_r2 ai bi ci ei))), .val (.int (b2i (v_r3 ai bi ci ei))), .val (.int (v_sz ai bi ci ei)), .val (.int (v_n0 ai bi ci ei)), .val (.int (v_n1 ai bi ci ei)), .val (.int (b2i (v_ck ai bi ci di ei))), .val (.int (v_es ai bi ci ei)), .val (.int (v_en ai bi ci ei)), .val (.int (b2i (v_ec ai bi ci di ei)))] [(.int (v_en ai bi ci ei)), (.int (v_n1 ai bi ci ei))])) _
            by_cases hc48 : (v_n1 ai bi ci ei) = (v_en ai bi ci ei)
            · refine XS.icmpNo X28.here hx rfl (hb hby at_303) rfl (teq hc48).2 ?_
              have k : ∀ (v1 : Bool), v1 = (if (b2i (v_ck ai bi ci di ei)) = (b2i (v_ec ai bi ci di ei)) then true else false) → Steps p.tables e below (T28.setTop (mkF m 318 #[.val (.int ai), .val (.int bi), .val (.int ci), .val (.int di), .val (.int ei), .val (.int (v_cap ci)), .val (.int (v_i ai ci)), .val (.int (v_mode ei)), .val (.int (v_j ai bi ci ei)), .val (.int (v_k ai bi ci di ei)), .val (.int (v_km ei)), .val (.int (v_lo ai bi ci ei)), .val (.int (v_hi ai bi ci ei)), .val (.ref b16), .val (.int (b2i (v_r1 ai ci))), .val (.int (b2i (v_r2 ai bi ci ei))), .val (.int (b2i (v_r3 ai bi ci ei))), .val (.int (v_sz ai bi ci ei)), .val (.int (v_n0 ai bi ci ei)), .val (.int (v_n1 ai bi ci ei)), .val (.int (b2i (v_ck ai bi ci di ei))), .val (.int (v_es ai bi ci ei)), .val (.int (v_en ai bi ci ei)), .val (.int (b2i (v_ec ai bi ci di ei)))] [(.int (b2i v1))])) t := fun v1 hv1 => k v1 (hv1.trans (if_pos hc48).symm)
              show Steps p.tables e below (T28.setTop (mkF m 306 #[.val (.int ai), .val (.int bi), .val (.int ci), .val (.int di), .val (.int ei), .val (.int (v_cap ci)), .val (.int (v_i ai ci)), .val (.int (v_mode ei)), .val (.int (v_j ai bi ci ei)), .val (.int (v_k ai bi ci di ei)), .val (.int (v_km ei)), .val (.int (v_lo ai bi ci ei)), .val (.int (v_hi ai bi ci ei)), .val (.ref b16), .val (.int (b2i (v_r1 ai ci))), .val (.int (b2i (v_r2 ai bi ci ei))), .val (.int (b2i (v_r3 ai bi ci ei))), .val (.int (v_sz ai bi ci ei)), .val (.int (v_n0 ai bi ci ei)), .val (.int (v_n1 ai bi ci ei)), .val (.int (b2i (v_ck ai bi ci di ei))), .val (.int (v_es ai bi ci ei)), .val (.int (v_en ai bi ci ei)), .val (.int (b2i (v_ec ai bi ci di ei)))] [])) _
              refine XS.iload X28.here hx rfl (hb hby at_306) rfl ?_
              show Steps p.tables e below (T28.setTop (mkF m 308 #[.val (.int ai), .val (.int bi), .val (.int ci), .val (.int di), .val (.int ei), .val (.int (v_cap ci)), .val (.int (v_i ai ci)), .val (.int (v_mode ei)), .val (.int (v_j ai bi ci ei)), .val (.int (v_k ai bi ci di ei)), .val (.int (v_km ei)), .val (.int (v_lo ai bi ci ei)), .val (.int (v_hi ai bi ci ei)), .val (.ref b16), .val (.int (b2i (v_r1 ai ci))), .val (.int (b2i (v_r2 ai bi ci ei))), .val (.int (b2i (v_r3 ai bi ci ei))), .val (.int (v_sz ai bi ci ei)), .val (.int (v_n0 ai bi ci ei)), .val (.int (v_n1 ai bi ci ei)), .val (.int (b2i (v_ck ai bi ci di ei))), .val (.int (v_es ai bi ci ei)), .val (.int (v_en ai bi ci ei)), .val (.int (b2i (v_ec ai bi ci di ei)))] [(.int (b2i (v_ck ai bi ci di ei)))])) _
              refine XS.iload X28.here hx rfl (hb hby at_308) rfl ?_
              show Steps p.tables e below (T28.setTop (mkF m 310 #[.val (.int ai), .val (.int bi), .val (.int ci), .val (.int di), .val (.int ei), .val (.int (v_cap ci)), .val (.int (v_i ai ci)), .val (.int (v_mode ei)), .val (.int (v_j ai bi ci ei)), .val (.int (v_k ai bi ci di ei)), .val (.int (v_km ei)), .val (.int (v_lo ai bi ci ei)), .val (.int (v_hi ai bi ci ei)), .val (.ref b16), .val (.int (b2i (v_r1 ai ci))), .val (.int (b2i (v_r2 ai bi ci ei))), .val (.int (b2i (v_r3 ai bi ci ei))), .val (.int (v_sz ai bi ci ei)), .val (.int (v_n0 ai bi ci ei)), .val (.int (v_n1 ai bi ci ei)), .val (.int (b2i (v_ck ai bi ci di ei))), .val (.int (v_es ai bi ci ei)), .val (.int (v_en ai bi ci ei)), .val (.int (b2i (v_ec ai bi ci di ei)))] [(.int (b2i (v_ec ai bi ci di ei))), (.int (b2i (v_ck ai bi ci di ei)))])) _
              by_cases hc49 : (b2i (v_ck ai bi ci di ei)) = (b2i (v_ec ai bi ci di ei))
              · refine XS.icmpNo X28.here hx rfl (hb hby at_310) rfl (teq hc49).2 ?_
                have k : ∀ (v1 : Bool), v1 = true → Steps p.tables e below (T28.setTop (mkF m 318 #[.val (.int ai), .val (.int bi), .val (.int ci), .val (.int di), .val (.int ei), .val (.int (v_cap ci)), .val (.int (v_i ai ci)), .val (.int (v_mode ei)), .val (.int (v_j ai bi ci ei)), .val (.int (v_k ai bi ci di ei)), .val (.int (v_km ei)), .val (.int (v_lo ai bi ci ei)), .val (.int (v_hi ai bi ci ei)), .val (.ref b16), .val (.int (b2i (v_r1 ai ci))), .val (.int (b2i (v_r2 ai bi ci ei))), .val (.int (b2i (v_r3 ai bi ci ei))), .val (.int (v_sz ai bi ci ei)), .val (.int (v_n0 ai bi ci ei)), .val (.int (v_n1 ai bi ci ei)), .val (.int (b2i (v_ck ai bi ci di ei))), .val (.int (v_es ai bi ci ei)), .val (.int (v_en ai bi ci ei)), .val (.int (b2i (v_ec ai bi ci di ei)))] [(.int (b2i v1))])) t := fun v1 hv1 => k v1 (hv1.trans (if_pos hc49).symm)
                show Steps p.tables e below (T28.setTop (mkF m 313 #[.val (.int ai), .val (.int bi), .val (.int ci), .val (.int di), .val (.int ei), .val (.int (v_cap ci)), .val (.int (v_i ai ci)), .val (.int (v_mode ei)), .val (.int (v_j ai bi ci ei)), .val (.int (v_k ai bi ci di ei)), .val (.int (v_km ei)), .val (.int (v_lo ai bi ci ei)), .val (.int (v_hi ai bi ci ei)), .val (.ref b16), .val (.int (b2i (v_r1 ai ci))), .val (.int (b2i (v_r2 ai bi ci ei))), .val (.int (b2i (v_r3 ai bi ci ei))), .val (.int (v_sz ai bi ci ei)), .val (.int (v_n0 ai bi ci ei)), .val (.int (v_n1 ai bi ci ei)), .val (.int (b2i (v_ck ai bi ci di ei))), .val (.int (v_es ai bi ci ei)), .val (.int (v_en ai bi ci ei)), .val (.int (b2i (v_ec ai bi ci di ei)))] [])) _
                refine XS.iconst X28.here hx rfl (hb hby at_313) ?_
                show Steps p.tables e below (T28.setTop (mkF m 314 #[.val (.int ai), .val (.int bi), .val (.int ci), .val (.int di), .val (.int ei), .val (.int (v_cap ci)), .val (.int (v_i ai ci)), .val (.int (v_mode ei)), .val (.int (v_j ai bi ci ei)), .val (.int (v_k ai bi ci di ei)), .val (.int (v_km ei)), .val (.int (v_lo ai bi ci ei)), .val (.int (v_hi ai bi ci ei)), .val (.ref b16), .val (.int (b2i (v_r1 ai ci))), .val (.int (b2i (v_r2 ai bi ci ei))), .val (.int (b2i (v_r3 ai bi ci ei))), .val (.int (v_sz ai bi ci ei)), .val (.int (v_n0 ai bi ci ei)), .val (.int (v_n1 ai bi ci ei)), .val (.int (b2i (v_ck ai bi ci di ei))), .val (.int (v_es ai bi ci ei)), .val (.int (v_en ai bi ci ei)), .val (.int (b2i (v_ec ai bi ci di ei)))] [(.int (1 : Int32))])) _
                refine XS.goto X28.here hx rfl (pc0 := 314) (pc' := 318) rfl (hb hby at_314) (by decide) (by decide) ?_
                exact k true rfl
              · refine XS.icmpYes X28.here hx rfl (pc0 := 310) (pc' := 317) rfl (hb hby at_310) rfl (feq hc49).2 (by decide) (by decide) ?_
                have k : ∀ (v1 : Bool), v1 = false → Steps p.tables e below (T28.setTop (mkF m 318 #[.val (.int ai), .val (.int bi), .val (.int ci), .val (.int di), .val (.int ei), .val (.int (v_cap ci)), .val (.int (v_i ai ci)), .val (.int (v_mode ei)), .val (.int (v_j ai bi ci ei)), .val (.int (v_k ai bi ci di ei)), .val (.int (v_km ei)), .val (.int (v_lo ai bi ci ei)), .val (.int (v_hi ai bi ci ei)), .val (.ref b16), .val (.int (b2i (v_r1 ai ci))), .val (.int (b2i (v_r2 ai bi ci ei))), .val (.int (b2i (v_r3 ai bi ci ei))), .val (.int (v_sz ai bi ci ei)), .val (.int (v_n0 ai bi ci ei)), .val (.int (v_n1 ai bi ci ei)), .val (.int (b2i (v_ck ai bi ci di ei))), .val (.int (v_es ai bi ci ei)), .val (.int (v_en ai bi ci ei)), .val (.int (b2i (v_ec ai bi ci di ei)))] [(.int (b2i v1))])) t := fun v1 hv1 => k v1 (hv1.trans (if_neg hc49).symm)
                exact nd43 k
            · refine XS.icmpYes X28.here hx rfl (pc0 := 303) (pc' := 317) rfl (hb hby at_303) rfl (feq hc48).2 (by decide) (by decide) ?_
              have k : ∀ (v1 : Bool), v1 = false → Steps p.tables e below (T28.setTop (mkF m 318 #[.val (.int ai), .val (.int bi), .val (.int ci), .val (.int di), .val (.int ei), .val (.int (v_cap ci)), .val (.int (v_i ai ci)), .val (.int (v_mode ei)), .val (.int (v_j ai bi ci ei)), .val (.int (v_k ai bi ci di ei)), .val (.int (v_km ei)), .val (.int (v_lo ai bi ci ei)), .val (.int (v_hi ai bi ci ei)), .val (.ref b16), .val (.int (b2i (v_r1 ai ci))), .val (.int (b2i (v_r2 ai bi ci ei))), .val (.int (b2i (v_r3 ai bi ci ei))), .val (.int (v_sz ai bi ci ei)), .val (.int (v_n0 ai bi ci ei)), .val (.int (v_n1 ai bi ci ei)), .val (.int (b2i (v_ck ai bi ci di ei))), .val (.int (v_es ai bi ci ei)), .val (.int (v_en ai bi ci ei)), .val (.int (b2i (v_ec ai bi ci di ei)))] [(.int (b2i v1))])) t := fun v1 hv1 => k v1 (hv1.trans (if_neg hc48).symm)
              exact nd43 k
          · refine XS.icmpYes X28.here hx rfl (pc0 := 296) (pc' := 317) rfl (hb hby at_296) rfl (feq hc47).2 (by decide) (by decide) ?_
            have k : ∀ (v1 : Bool), v1 = false → Steps p.tables e below (T28.setTop (mkF m 318 #[.val (.int ai), .val (.int bi), .val (.int ci), .val (.int di), .val (.int ei), .val (.int (v_cap ci)), .val (.int (v_i ai ci)), .val (.int (v_mode ei)), .val (.int (v_j ai bi ci ei)), .val (.int (v_k ai bi ci di ei)), .val (.int (v_km ei)), .val (.int (v_lo ai bi ci ei)), .val (.int (v_hi ai bi ci ei)), .val (.ref b16), .val (.int (b2i (v_r1 ai ci))), .val (.int (b2i (v_r2 ai bi ci ei))), .val (.int (b2i (v_r3 ai bi ci ei))), .val (.int (v_sz ai bi ci ei)), .val (.int (v_n0 ai bi ci ei)), .val (.int (v_n1 ai bi ci ei)), .val (.int (b2i (v_ck ai bi ci di ei))), .val (.int (v_es ai bi ci ei)), .val (.int (v_en ai bi ci ei)), .val (.int (b2i (v_ec ai bi ci di ei)))] [(.int (b2i v1))])) t := fun v1 hv1 => k v1 (hv1.trans (if_neg hc47).symm)
            exact nd43 k
        · refine XS.icmpYes X28.here hx rfl (pc0 := 289) (pc' := 317) rfl (hb hby at_289) rfl (feq hc46).2 (by decide) (by decide) ?_
          have k : ∀ (v1 : Bool), v1 = false → Steps p.tables e below (T28.setTop (mkF m 318 #[.val (.int ai), .val (.int bi), .val (.int ci), .val (.int di), .val (.int ei), .val (.int (v_cap ci)), .val (.int (v_i ai ci)), .val (.int (v_mode ei)), .val (.int (v_j ai bi ci ei)), .val (.int (v_k ai bi ci di ei)), .val (.int (v_km ei)), .val (.int (v_lo ai bi ci ei)), .val (.int (v_hi ai bi ci ei)), .val (.ref b16), .val (.int (b2i (v_r1 ai ci))), .val (.int (b2i (v_r2 ai bi ci ei))), .val (.int (b2i (v_r3 ai bi ci ei))), .val (.int (v_sz ai bi ci ei)), .val (.int (v_n0 ai bi ci ei)), .val (.int (v_n1 ai bi ci ei)), .val (.int (b2i (v_ck ai bi ci di ei))), .val (.int (v_es ai bi ci ei)), .val (.int (v_en ai bi ci ei)), .val (.int (b2i (v_ec ai bi ci di ei)))] [(.int (b2i v1))])) t := fun v1 hv1 => k v1 (hv1.trans (if_neg hc46).symm)
          exact nd43 k
    show Steps p.tables e below (T28.setTop (mkF m 260 #[.val (.int ai), .val (.int bi), .val (.int ci), .val (.int di), .val (.int ei), .val (.int (v_cap ci)), .val (.int (v_i ai ci)), .val (.int (v_mode ei)), .val (.int (v_j ai bi ci ei)), .val (.int (v_k ai bi ci di ei)), .val (.int (v_km ei)), .val (.int (v_lo ai bi ci ei)), .val (.int (v_hi ai bi ci ei)), .val (.ref b16), .val (.int (b2i (v_r1 ai ci))), .val (.int (b2i (v_r2 ai bi ci ei))), .val (.int (b2i (v_r3 ai bi ci ei))), .val (.int (v_sz ai bi ci ei)), .val (.int (v_n0 ai bi ci ei)), .val (.int (v_n1 ai bi ci ei)), .val (.int (b2i (v_ck ai bi ci di ei))), .val (.int (v_es ai bi ci ei)), .val (.int (v_en ai bi ci ei)), .val (.int (b2i (v_ec ai bi ci di ei)))] [(.int (b2i (v_r1 ai ci)))])) _
    by_cases hc50 : (v_r1 ai ci) = true
    · refine XS.ifNo X28.here hx rfl (hb hby at_260) rfl ((if0 _ _).trans (feq (b2i_ne hc50)).1) ?_
      have k : ∀ (v1 : Bool), v1 = (if (v_i ai ci) = (v_j ai bi ci ei) then (if (v_r2 ai bi ci ei) = true then false else (nd0_280_41 ai bi ci di ei)) else (if (b2i (v_r2 ai bi ci ei)) = (1 : Int32) then (nd0_280_41 ai bi ci di ei) else false)) → Steps p.tables e below (T28.setTop (mkF m 318 #[.val (.int ai), .val (.int bi), .val (.int ci), .val (.int di), .val (.int ei), .val (.int (v_cap ci)), .val (.int (v_i ai ci)), .val (.int (v_mode ei)), .val (.int (v_j ai bi ci ei)), .val (.int (v_k ai bi ci di ei)), .val (.int (v_km ei)), .val (.int (v_lo ai bi ci ei)), .val (.int (v_hi ai bi ci ei)), .val (.ref b16), .val (.int (b2i (v_r1 ai ci))), .val (.int (b2i (v_r2 ai bi ci ei))), .val (.int (b2i (v_r3 ai bi ci ei))), .val (.int (v_sz ai bi ci ei)), .val (.int (v_n0 ai bi ci ei)), .val (.int (v_n1 ai bi ci ei)), .val (.int (b2i (v_ck ai bi ci di ei))), .val (.int (v_es ai bi ci ei)), .val (.int (v_en ai bi ci ei)), .val (.int (b2i (v_ec ai bi ci di ei)))] [(.int (b2i v1))])) t := fun v1 hv1 => k v1 (hv1.trans (if_pos hc50).symm)
      show Steps p.tables e below (T28.setTop (mkF m 263 #[.val (.int ai), .val (.int bi), .val (.int ci), .val (.int di), .val (.int ei), .val (.int (v_cap ci)), .val (.int (v_i ai ci)), .val (.int (v_mode ei)), .val (.int (v_j ai bi ci ei)), .val (.int (v_k ai bi ci di ei)), .val (.int (v_km ei)), .val (.int (v_lo ai bi ci ei)), .val (.int (v_hi ai bi ci ei)), .val (.ref b16), .val (.int (b2i (v_r1 ai ci))), .val (.int (b2i (v_r2 ai bi ci ei))), .val (.int (b2i (v_r3 ai bi ci ei))), .val (.int (v_sz ai bi ci ei)), .val (.int (v_n0 ai bi ci ei)), .val (.int (v_n1 ai bi ci ei)), .val (.int (b2i (v_ck ai bi ci di ei))), .val (.int (v_es ai bi ci ei)), .val (.int (v_en ai bi ci ei)), .val (.int (b2i (v_ec ai bi ci di ei)))] [])) _
      refine XS.iload X28.here hx rfl (hb hby at_263) rfl ?_
      show Steps p.tables e below (T28.setTop (mkF m 265 #[.val (.int ai), .val (.int bi), .val (.int ci), .val (.int di), .val (.int ei), .val (.int (v_cap ci)), .val (.int (v_i ai ci)), .val (.int (v_mode ei)), .val (.int (v_j ai bi ci ei)), .val (.int (v_k ai bi ci di ei)), .val (.int (v_km ei)), .val (.int (v_lo ai bi ci ei)), .val (.int (v_hi ai bi ci ei)), .val (.ref b16), .val (.int (b2i (v_r1 ai ci))), .val (.int (b2i (v_r2 ai bi ci ei))), .val (.int (b2i (v_r3 ai bi ci ei))), .val (.int (v_sz ai bi ci ei)), .val (.int (v_n0 ai bi ci ei)), .val (.int (v_n1 ai bi ci ei)), .val (.int (b2i (v_ck ai bi ci di ei))), .val (.int (v_es ai bi ci ei)), .val (.int (v_en ai bi ci ei)), .val (.int (b2i (v_ec ai bi ci di ei)))] [(.int (b2i (v_r2 ai bi ci ei)))])) _
      refine XS.iload X28.here hx rfl (hb hby at_265) rfl ?_
      show Steps p.tables e below (T28.setTop (mkF m 267 #[.val (.int ai), .val (.int bi), .val (.int ci), .val (.int di), .val (.int ei), .val (.int (v_cap ci)), .val (.int (v_i ai ci)), .val (.int (v_mode ei)), .val (.int (v_j ai bi ci ei)), .val (.int (v_k ai bi ci di ei)), .val (.int (v_km ei)), .val (.int (v_lo ai bi ci ei)), .val (.int (v_hi ai bi ci ei)), .val (.ref b16), .val (.int (b2i (v_r1 ai ci))), .val (.int (b2i (v_r2 ai bi ci ei))), .val (.int (b2i (v_r3 ai bi ci ei))), .val (.int (v_sz ai bi ci ei)), .val (.int (v_n0 ai bi ci ei)), .val (.int (v_n1 ai bi ci ei)), .val (.int (b2i (v_ck ai bi ci di ei))), .val (.int (v_es ai bi ci ei)), .val (.int (v_en ai bi ci ei)), .val (.int (b2i (v_ec ai bi ci di ei)))] [(.int (v_i ai ci)), (.int (b2i (v_r2 ai bi ci ei)))])) _
      refine XS.iload X28.here hx rfl (hb hby at_267) rfl ?_
      show Steps p.tables e below (T28.setTop (mkF m 269 #[.val (.int ai), .val (.int bi), .val (.int ci), .val (.int di), .val (.int ei), .val (.int (v_cap ci)), .val (.int (v_i ai ci)), .val (.int (v_mode ei)), .val (.int (v_j ai bi ci ei)), .val (.int (v_k ai bi ci di ei)), .val (.int (v_km ei)), .val (.int (v_lo ai bi ci ei)), .val (.int (v_hi ai bi ci ei)), .val (.ref b16), .val (.int (b2i (v_r1 ai ci))), .val (.int (b2i (v_r2 ai bi ci ei))), .val (.int (b2i (v_r3 ai bi ci ei))), .val (.int (v_sz ai bi ci ei)), .val (.int (v_n0 ai bi ci ei)), .val (.int (v_n1 ai bi ci ei)), .val (.int (b2i (v_ck ai bi ci di ei))), .val (.int (v_es ai bi ci ei)), .val (.int (v_en ai bi ci ei)), .val (.int (b2i (v_ec ai bi ci di ei)))] [(.int (v_j ai bi ci ei)), (.int (v_i ai ci)), (.int (b2i (v_r2 ai bi ci ei)))])) _
      by_cases hc51 : (v_i ai ci) = (v_j ai bi ci ei)
      · refine XS.icmpYes X28.here hx rfl (pc0 := 269) (pc' := 276) rfl (hb hby at_269) rfl (teq hc51).1 (by decide) (by decide) ?_
        have k : ∀ (v1 : Bool), v1 = (if (v_r2 ai bi ci ei) = true then false else (nd0_280_41 ai bi ci di ei)) → Steps p.tables e below (T28.setTop (mkF m 318 #[.val (.int ai), .val (.int bi), .val (.int ci), .val (.int di), .val (.int ei), .val (.int (v_cap ci)), .val (.int (v_i ai ci)), .val (.int (v_mode ei)), .val (.int (v_j ai bi ci ei)), .val (.int (v_k ai bi ci di ei)), .val (.int (v_km ei)), .val (.int (v_lo ai bi ci ei)), .val (.int (v_hi ai bi ci ei)), .val (.ref b16), .val (.int (b2i (v_r1 ai ci))), .val (.int (b2i (v_r2 ai bi ci ei))), .val (.int (b2i (v_r3 ai bi ci ei))), .val (.int (v_sz ai bi ci ei)), .val (.int (v_n0 ai bi ci ei)), .val (.int (v_n1 ai bi ci ei)), .val (.int (b2i (v_ck ai bi ci di ei))), .val (.int (v_es ai bi ci ei)), .val (.int (v_en ai bi ci ei)), .val (.int (b2i (v_ec ai bi ci di ei)))] [(.int (b2i v1))])) t := fun v1 hv1 => k v1 (hv1.trans (if_pos hc51).symm)
        show Steps p.tables e below (T28.setTop (mkF m 276 #[.val (.int ai), .val (.int bi), .val (.int ci), .val (.int di), .val (.int ei), .val (.int (v_cap ci)), .val (.int (v_i ai ci)), .val (.int (v_mode ei)), .val (.int (v_j ai bi ci ei)), .val (.int (v_k ai bi ci di ei)), .val (.int (v_km ei)), .val (.int (v_lo ai bi ci ei)), .val (.int (v_hi ai bi ci ei)), .val (.ref b16), .val (.int (b2i (v_r1 ai ci))), .val (.int (b2i (v_r2 ai bi ci ei))), .val (.int (b2i (v_r3 ai bi ci ei))), .val (.int (v_sz ai bi ci ei)), .val (.int (v_n0 ai bi ci ei)), .val (.int (v_n1 ai bi ci ei)), .val (.int (b2i (v_ck ai bi ci di ei))), .val (.int (v_es ai bi ci ei)), .val (.int (v_en ai bi ci ei)), .val (.int (b2i (v_ec ai bi ci di ei)))] [(.int (b2i (v_r2 ai bi ci ei)))])) _
        refine XS.iconst X28.here hx rfl (hb hby at_276) ?_
        show Steps p.tables e below (T28.setTop (mkF m 277 #[.val (.int ai), .val (.int bi), .val (.int ci), .val (.int di), .val (.int ei), .val (.int (v_cap ci)), .val (.int (v_i ai ci)), .val (.int (v_mode ei)), .val (.int (v_j ai bi ci ei)), .val (.int (v_k ai bi ci di ei)), .val (.int (v_km ei)), .val (.int (v_lo ai bi ci ei)), .val (.int (v_hi ai bi ci ei)), .val (.ref b16), .val (.int (b2i (v_r1 ai ci))), .val (.int (b2i (v_r2 ai bi ci ei))), .val (.int (b2i (v_r3 ai bi ci ei))), .val (.int (v_sz ai bi ci ei)), .val (.int (v_n0 ai bi ci ei)), .val (.int (v_n1 ai bi ci ei)), .val (.int (b2i (v_ck ai bi ci di ei))), .val (.int (v_es ai bi ci ei)), .val (.int (v_en ai bi ci ei)), .val (.int (b2i (v_ec ai bi ci di ei)))] [(.int (0 : Int32)), (.int (b2i (v_r2 ai bi ci ei)))])) _
        by_cases hc52 : (v_r2 ai bi ci ei) = true
        · refine XS.icmpYes X28.here hx rfl (pc0 := 277) (pc' := 317) rfl (hb hby at_277) rfl (feq (b2i_ne hc52)).2 (by decide) (by decide) ?_
          have k : ∀ (v1 : Bool), v1 = false → Steps p.tables e below (T28.setTop (mkF m 318 #[.val (.int ai), .val (.int bi), .val (.int ci), .val (.int di), .val (.int ei), .val (.int (v_cap ci)), .val (.int (v_i ai ci)), .val (.int (v_mode ei)), .val (.int (v_j ai bi ci ei)), .val (.int (v_k ai bi ci di ei)), .val (.int (v_km ei)), .val (.int (v_lo ai bi ci ei)), .val (.int (v_hi ai bi ci ei)), .val (.ref b16), .val (.int (b2i (v_r1 ai ci))), .val (.int (b2i (v_r2 ai bi ci ei))), .val (.int (b2i (v_r3 ai bi ci ei))), .val (.int (v_sz ai bi ci ei)), .val (.int (v_n0 ai bi ci ei)), .val (.int (v_n1 ai bi ci ei)), .val (.int (b2i (v_ck ai bi ci di ei))), .val (.int (v_es ai bi ci ei)), .val (.int (v_en ai bi ci ei)), .val (.int (b2i (v_ec ai bi ci di ei)))] [(.int (b2i v1))])) t := fun v1 hv1 => k v1 (hv1.trans (if_pos hc52).symm)
          exact nd43 k
        · refine XS.icmpNo X28.here hx rfl (hb hby at_277) rfl (teq (b2i_eq hc52)).2 ?_
          have k : ∀ (v1 : Bool), v1 = (nd0_280_41 ai bi ci di ei) → Steps p.tables e below (T28.setTop (mkF m 318 #[.val (.int ai), .val (.int bi), .val (.int ci), .val (.int di), .val (.int ei), .val (.int (v_cap ci)), .val (.int (v_i ai ci)), .val (.int (v_mode ei)), .val (.int (v_j ai bi ci ei)), .val (.int (v_k ai bi ci di ei)), .val (.int (v_km ei)), .val (.int (v_lo ai bi ci ei)), .val (.int (v_hi ai bi ci ei)), .val (.ref b16), .val (.int (b2i (v_r1 ai ci))), .val (.int (b2i (v_r2 ai bi ci ei))), .val (.int (b2i (v_r3 ai bi ci ei))), .val (.int (v_sz ai bi ci ei)), .val (.int (v_n0 ai bi ci ei)), .val (.int (v_n1 ai bi ci ei)), .val (.int (b2i (v_ck ai bi ci di ei))), .val (.int (v_es ai bi ci ei)), .val (.int (v_en ai bi ci ei)), .val (.int (b2i (v_ec ai bi ci di ei)))] [(.int (b2i v1))])) t := fun v1 hv1 => k v1 (hv1.trans (if_neg hc52).symm)
          exact nd44 k
      · refine XS.icmpNo X28.here hx rfl (hb hby at_269) rfl (feq hc51).1 ?_
        have k : ∀ (v1 : Bool), v1 = (if (b2i (v_r2 ai bi ci ei)) = (1 : Int32) then (nd0_280_41 ai bi ci di ei) else false) → Steps p.tables e below (T28.setTop (mkF m 318 #[.val (.int ai), .val (.int bi), .val (.int ci), .val (.int di), .val (.int ei), .val (.int (v_cap ci)), .val (.int (v_i ai ci)), .val (.int (v_mode ei)), .val (.int (v_j ai bi ci ei)), .val (.int (v_k ai bi ci di ei)), .val (.int (v_km ei)), .val (.int (v_lo ai bi ci ei)), .val (.int (v_hi ai bi ci ei)), .val (.ref b16), .val (.int (b2i (v_r1 ai ci))), .val (.int (b2i (v_r2 ai bi ci ei))), .val (.int (b2i (v_r3 ai bi ci ei))), .val (.int (v_sz ai bi ci ei)), .val (.int (v_n0 ai bi ci ei)), .val (.int (v_n1 ai bi ci ei)), .val (.int (b2i (v_ck ai bi ci di ei))), .val (.int (v_es ai bi ci ei)), .val (.int (v_en ai bi ci ei)), .val (.int (b2i (v_ec ai bi ci di ei)))] [(.int (b2i v1))])) t := fun v1 hv1 => k v1 (hv1.trans (if_neg hc51).symm)
        show Steps p.tables e below (T28.setTop (mkF m 272 #[.val (.int ai), .val (.int bi), .val (.int ci), .val (.int di), .val (.int ei), .val (.int (v_cap ci)), .val (.int (v_i ai ci)), .val (.int (v_mode ei)), .val (.int (v_j ai bi ci ei)), .val (.int (v_k ai bi ci di ei)), .val (.int (v_km ei)), .val (.int (v_lo ai bi ci ei)), .val (.int (v_hi ai bi ci ei)), .val (.ref b16), .val (.int (b2i (v_r1 ai ci))), .val (.int (b2i (v_r2 ai bi ci ei))), .val (.int (b2i (v_r3 ai bi ci ei))), .val (.int (v_sz ai bi ci ei)), .val (.int (v_n0 ai bi ci ei)), .val (.int (v_n1 ai bi ci ei)), .val (.int (b2i (v_ck ai bi ci di ei))), .val (.int (v_es ai bi ci ei)), .val (.int (v_en ai bi ci ei)), .val (.int (b2i (v_ec ai bi ci di ei)))] [(.int (b2i (v_r2 ai bi ci ei)))])) _
        refine XS.iconst X28.here hx rfl (hb hby at_272) ?_
        show Steps p.tables e below (T28.setTop (mkF m 273 #[.val (.int ai), .val (.int bi), .val (.int ci), .val (.int di), .val (.int ei), .val (.int (v_cap ci)), .val (.int (v_i ai ci)), .val (.int (v_mode ei)), .val (.int (v_j ai bi ci ei)), .val (.int (v_k ai bi ci di ei)), .val (.int (v_km ei)), .val (.int (v_lo ai bi ci ei)), .val (.int (v_hi ai bi ci ei)), .val (.ref b16), .val (.int (b2i (v_r1 ai ci))), .val (.int (b2i (v_r2 ai bi ci ei))), .val (.int (b2i (v_r3 ai bi ci ei))), .val (.int (v_sz ai bi ci ei)), .val (.int (v_n0 ai bi ci ei)), .val (.int (v_n1 ai bi ci ei)), .val (.int (b2i (v_ck ai bi ci di ei))), .val (.int (v_es ai bi ci ei)), .val (.int (v_en ai bi ci ei)), .val (.int (b2i (v_ec ai bi ci di ei)))] [(.int (1 : Int32)), (.int (b2i (v_r2 ai bi ci ei)))])) _
        refine XS.goto X28.here hx rfl (pc0 := 273) (pc' := 277) rfl (hb hby at_273) (by decide) (by decide) ?_
        show Steps p.tables e below (T28.setTop (mkF m 277 #[.val (.int ai), .val (.int bi), .val (.int ci), .val (.int di), .val (.int ei), .val (.int (v_cap ci)), .val (.int (v_i ai ci)), .val (.int (v_mode ei)), .val (.int (v_j ai bi ci ei)), .val (.int (v_k ai bi ci di ei)), .val (.int (v_km ei)), .val (.int (v_lo ai bi ci ei)), .val (.int (v_hi ai bi ci ei)), .val (.ref b16), .val (.int (b2i (v_r1 ai ci))), .val (.int (b2i (v_r2 ai bi ci ei))), .val (.int (b2i (v_r3 ai bi ci ei))), .val (.int (v_sz ai bi ci ei)), .val (.int (v_n0 ai bi ci ei)), .val (.int (v_n1 ai bi ci ei)), .val (.int (b2i (v_ck ai bi ci di ei))), .val (.int (v_es ai bi ci ei)), .val (.int (v_en ai bi ci ei)), .val (.int (b2i (v_ec ai bi ci di ei)))] [(.int (1 : Int32)), (.int (b2i (v_r2 ai bi ci ei)))])) _
        by_cases hc53 : (b2i (v_r2 ai bi ci ei)) = (1 : Int32)
        · refine XS.icmpNo X28.here hx rfl (hb hby at_277) rfl (teq hc53).2 ?_
          have k : ∀ (v1 : Bool), v1 = (nd0_280_41 ai bi ci di ei) → Steps p.tables e below (T28.setTop (mkF m 318 #[.val (.int ai), .val (.int bi), .val (.int ci), .val (.int di), .val (.int ei), .val (.int (v_cap ci)), .val (.int (v_i ai ci)), .val (.int (v_mode ei)), .val (.int (v_j ai bi ci ei)), .val (.int (v_k ai bi ci di ei)), .val (.int (v_km ei)), .val (.int (v_lo ai bi ci ei)), .val (.int (v_hi ai bi ci ei)), .val (.ref b16), .val (.int (b2i (v_r1 ai ci))), .val (.int (b2i (v_r2 ai bi ci ei))), .val (.int (b2i (v_r3 ai bi ci ei))), .val (.int (v_sz ai bi ci ei)), .val (.int (v_n0 ai bi ci ei)), .val (.int (v_n1 ai bi ci ei)), .val (.int (b2i (v_ck ai bi ci di ei))), .val (.int (v_es ai bi ci ei)), .val (.int (v_en ai bi ci ei)), .val (.int (b2i (v_ec ai bi ci di ei)))] [(.int (b2i v1))])) t := fun v1 hv1 => k v1 (hv1.trans (if_pos hc53).symm)
          exact nd44 k
        · refine XS.icmpYes X28.here hx rfl (pc0 := 277) (pc' := 317) rfl (hb hby at_277) rfl (feq hc53).2 (by decide) (by decide) ?_
          have k : ∀ (v1 : Bool), v1 = false → Steps p.tables e below (T28.setTop (mkF m 318 #[.val (.int ai), .val (.int bi), .val (.int ci), .val (.int di), .val (.int ei), .val (.int (v_cap ci)), .val (.int (v_i ai ci)), .val (.int (v_mode ei)), .val (.int (v_j ai bi ci ei)), .val (.int (v_k ai bi ci di ei)), .val (.int (v_km ei)), .val (.int (v_lo ai bi ci ei)), .val (.int (v_hi ai bi ci ei)), .val (.ref b16), .val (.int (b2i (v_r1 ai ci))), .val (.int (b2i (v_r2 ai bi ci ei))), .val (.int (b2i (v_r3 ai bi ci ei))), .val (.int (v_sz ai bi ci ei)), .val (.int (v_n0 ai bi ci ei)), .val (.int (v_n1 ai bi ci ei)), .val (.int (b2i (v_ck ai bi ci di ei))), .val (.int (v_es ai bi ci ei)), .val (.int (v_en ai bi ci ei)), .val (.int (b2i (v_ec ai bi ci di ei)))] [(.int (b2i v1))])) t := fun v1 hv1 => k v1 (hv1.trans (if_neg hc53).symm)
          exact nd43 k
    · refine XS.ifYes X28.here hx rfl (pc0 := 260) (pc' := 317) rfl (hb hby at_260) rfl ((if0 _ _).trans (teq (b2i_eq hc50)).1) (by decide) (by decide) ?_
      have k : ∀ (v1 : Bool), v1 = false → Steps p.tables e below (T28.setTop (mkF m 318 #[.val (.int ai), .val (.int bi), .val (.int ci), .val (.int di), .val (.int ei), .val (.int (v_cap ci)), .val (.int (v_i ai ci)), .val (.int (v_mode ei)), .val (.int (v_j ai bi ci ei)), .val (.int (v_k ai bi ci di ei)), .val (.int (v_km ei)), .val (.int (v_lo ai bi ci ei)), .val (.int (v_hi ai bi ci ei)), .val (.ref b16), .val (.int (b2i (v_r1 ai ci))), .val (.int (b2i (v_r2 ai bi ci ei))), .val (.int (b2i (v_r3 ai bi ci ei))), .val (.int (v_sz ai bi ci ei)), .val (.int (v_n0 ai bi ci ei)), .val (.int (v_n1 ai bi ci ei)), .val (.int (b2i (v_ck ai bi ci di ei))), .val (.int (v_es ai bi ci ei)), .val (.int (v_en ai bi ci ei)), .val (.int (b2i (v_ec ai bi ci di ei)))] [(.int (b2i v1))])) t := fun v1 hv1 => k v1 (hv1.trans (if_neg hc50).symm)
      exact nd43 k
  have hlaw : (if (v_r1 ai ci) = true then (if (v_i ai ci) = (v_j ai bi ci ei) then (if (v_r2 ai bi ci ei) = true then false else (nd0_280_41 ai bi ci di ei)) else (if (b2i (v_r2 ai bi ci ei)) = (1 : Int32) then (nd0_280_41 ai bi ci di ei) else false)) else false) = true := own_law1 ai bi ci di ei
  obtain ⟨fs, hr, hrun, hended, hW, hsame⟩ := X28.leave (v := some (.int (1 : Int32))) (fun h => by rw [Bd.returns] at h; cases h) (BodyLoose.notSynchronized Bd)
  refine ⟨_, _, pre42 _ ?_, hrun, hended, _, _, rfl, ?_, ⟨_, rfl⟩, hW, hsame.mono (by decide) (by decide)⟩
  · show Steps p.tables e below (T28.setTop (mkF m 318 #[.val (.int ai), .val (.int bi), .val (.int ci), .val (.int di), .val (.int ei), .val (.int (v_cap ci)), .val (.int (v_i ai ci)), .val (.int (v_mode ei)), .val (.int (v_j ai bi ci ei)), .val (.int (v_k ai bi ci di ei)), .val (.int (v_km ei)), .val (.int (v_lo ai bi ci ei)), .val (.int (v_hi ai bi ci ei)), .val (.ref b16), .val (.int (b2i (v_r1 ai ci))), .val (.int (b2i (v_r2 ai bi ci ei))), .val (.int (b2i (v_r3 ai bi ci ei))), .val (.int (v_sz ai bi ci ei)), .val (.int (v_n0 ai bi ci ei)), .val (.int (v_n1 ai bi ci ei)), .val (.int (b2i (v_ck ai bi ci di ei))), .val (.int (v_es ai bi ci ei)), .val (.int (v_en ai bi ci ei)), .val (.int (b2i (v_ec ai bi ci di ei)))] [(.int (b2i (if (v_r1 ai ci) = true then (if (v_i ai ci) = (v_j ai bi ci ei) then (if (v_r2 ai bi ci ei) = true then false else (nd0_280_41 ai bi ci di ei)) else (if (b2i (v_r2 ai bi ci ei)) = (1 : Int32) then (nd0_280_41 ai bi ci di ei) else false)) else false)))])) _
    exact retN X28 hx (t := .boolean) Bd.returns (by simp) (hb hby at_318) (by rw [b2i_one hlaw]; exact hr)
  · show Q0 Z ai bi ci di ei h0 n0 _ T28.heap _
    rw [e28]
    exact ⟨rfl, N28⟩
set_option maxRecDepth 65536 in
set_option maxHeartbeats 40000000 in
theorem comes_1 {Post : Tables → Env → Array Value → State → Outcome → State → Prop} (hpost : ∀ tb e args s v u, (limb_1_1.after args s (.returned v) u = true ∧ limb_1_2.after args s (.returned v) u = true ∧ True) → FrameEnd s (.returned v) u (Jvm.fieldLocs frame_1_writes args s ++ Jvm.arrayLocs frame_1_arrays args s ++ Jvm.staticLocs frame_1_statics s) 16 640 → Post tb e args s (.returned v) u) :
    ArmFor flags0 classFile x code maxLocals ret World_1 tables_1 room_1 Calls_1 rest_1 Pre_1 Post := by
  intro l hfl _ _ p e ha hc hk s m args below hf hA hF happ hP
  obtain ⟨hcalls, hrest, hpre⟩ := hP
  obtain ⟨-, -, -, hnamed, -, -, -, hat⟩ := (Spec.applies_iff hf).mp happ
  obtain ⟨hg, hn⟩ := and_e (Cond.before_iff.mp (show (Jvm.Cond.and given_1 narrow_1).before args s = true from hpre))
  obtain ⟨g1, g2⟩ := and_e hg
  obtain ⟨g3, g4⟩ := and_e g2
  obtain ⟨g5, g6⟩ := and_e g4
  obtain ⟨g7, g8⟩ := and_e g6
  obtain ⟨g9, g10⟩ := and_e g8
  obtain ⟨w0, w1, w2, w3, w4, rfl⟩ : ∃ w0 w1 w2 w3 w4 : Value, args = #[w0, w1, w2, w3, w4] := by
    have hs : args.size = 5 := by simpa [Cond.value, given_1] using g1
    obtain ⟨L⟩ := args
    match L, hs with
    | [w0, w1, w2, w3, w4], _ => exact ⟨w0, w1, w2, w3, w4, rfl⟩
  have hw := fun d (hd : d ∈ tables_1) => atoms_spec (ws := Jvm.Cond.code x code maxLocals ret :: tables_1) hat d (List.mem_cons_of_mem _ hd)
  obtain ⟨i0, ei0⟩ := is_v g3
  obtain rfl : w0 = (.int i0) := Option.some.inj ei0
  obtain ⟨i1, ei1⟩ := is_v g5
  obtain rfl : w1 = (.int i1) := Option.some.inj ei1
  obtain ⟨i2, ei2⟩ := is_v g7
  obtain rfl : w2 = (.int i2) := Option.some.inj ei2
  obtain ⟨i3, ei3⟩ := is_v g9
  obtain rfl : w3 = (.int i3) := Option.some.inj ei3
  obtain ⟨i4, ei4⟩ := is_v g10
  obtain rfl : w4 = (.int i4) := Option.some.inj ei4
  obtain ⟨n, o, h1, h2, h3, _, L, rfl, ⟨rfl, N⟩, hq⟩ := rm0 l s _ hw tables_1 i0 i1 i2 i3 i4 s.heap s.heap.size (Nat.le_refl _) p e ha hc hk s m _ below hf ((Spec.applies_iff_loose hf).mp happ).1 ⟨rfl, State.Warmed39.refl s, rfl⟩ trivial
  refine ⟨n, _, h1, h2, h3, hpost _ _ _ _ _ _ ⟨Cond.after_iff.mpr rfl, Cond.after_iff.mpr (eq_i res_at (Term.int_eval (1)) rfl), trivial⟩ ⟨hq.1, hq.2.1, (hq.2.2.sift fun y hy => Or.inr (N y hy)).mono (by decide) (by decide)⟩⟩
theorem main_1_1 : Claimed_1_1 := comes_1 fun _ _ _ _ _ _ h hF => ⟨h.1, hF⟩
theorem main_1_2 : Claimed_1_2 := comes_1 fun _ _ _ _ _ _ h hF => ⟨h.2.1, hF⟩
end Jvm.Pilot.@@N@@
namespace Jvm.Pilot.@@N@@
open Jvm Jvm.ClassFile Sem Op Lib Jvm.Free Jvm.Stand Jvm.Pilot.@@N@@.Jvm.D
/-! MADE BY PROGRAM (witnessworld.py) out of the Statement's table words and the real class files: 18 classes; the members and pool entries that the words name. The judged class is class 1, her method 1. -/
namespace start1
open Jvm.ClassFile
def u (s : String) : CpInfo := .utf8 (stringToUtf16 s)
/-- a pool by its gaps: so many unusable entries, then the entry; so many at the end -/
def gap : Nat → List CpInfo → List CpInfo
  | 0, r => r
  | n + 1, r => .unusable :: gap n r
def poolList (es : List (Nat × CpInfo)) (last : Nat) : List CpInfo := es.foldr (fun e r => gap e.1 (e.2 :: r)) (gap last [])
def pool (es : List (Nat × CpInfo)) (last : Nat) : Array CpInfo := ⟨poolList es last⟩
def fileOf (pool : Array CpInfo) (this : Nat) (attrs : Array Attribute := #[]) (ms : Array MethodInfo := #[]) (fl : Nat := 33) (sup : Nat := 0) (ifs : Array Nat := #[]) (fds : Array FieldInfo := #[]) : ClassFile where
  minorVersion := 0
  majorVersion := 65
  constantPool := pool
  accessFlags := fl
  thisClass := this
  superClass := sup
  interfaces := ifs
  fields := fds
  methods := ms
  attributes := attrs
def plain (name : String) (sup : Option ClassId) : Class where
  name := name
  kind := .ordinary
  loader := none
  accessFlags := 33
  super := sup
  interfaces := #[]
  cf := none
  fields := #[]
  methods := #[]
  instanceTypes := #[]
  staticTypes := #[]
  resolved := #[]
  callSites := []
  init := .initialized
  statics := none
  mirror := none

def pool0 : Array CpInfo := pool [(5, u "<init>"), (0, u "()V"), (1, .class_ 10), (1, u "java/lang/Object")] 113

def k0c0 : Code := { maxStack := 0, maxLocals := 1, code := object_method_1_code, exceptionTable := #[], attributes := #[] }
def k0m0 : Method := { name := "<init>", desc := "()V", sig := { parameters := [], returnType := none }, accessFlags := 1, code := some k0c0 }
/-- java/lang/Object -/
def k0 : Class := { plain "java/lang/Object" none with
  accessFlags := 33
  interfaces := #[]
  cf := some (fileOf pool0 8 #[] #[{ accessFlags := 1, nameIndex := 5, descriptorIndex := 6, attributes := #[] }] 33 0 #[] #[])
  fields := #[]
  methods := #[k0m0]
  instanceTypes := #[]
  staticTypes := #[]
  resolved := Array.replicate 124 none
  statics := none }

def pool1 : Array CpInfo := pool [(2, .class_ 4), (1, u "java/lang/Object"), (0, u "<init>"), (0, u "()V"), (0, .integer 2147483647), (0, .methodref 9 10), (0, .class_ 11), (0, .nameAndType 12 13), (0, u "java/lang/Math"), (0, u "min"), (0, u "(II)I"), (0, .methodref 9 15), (0, .nameAndType 16 13), (0, u "max"), (0, .class_ 18), (0, u "com/example/cutline/cutline/IndexSet"), (0, .methodref 17 20), (0, .nameAndType 5 21), (0, u "(I)V"), (0, .methodref 17 23), (0, .nameAndType 24 25), (0, u "add"), (0, u "(I)Z"), (0, .methodref 17 27), (0, .nameAndType 28 29), (0, u "size"), (0, u "()I"), (0, .methodref 17 31), (0, .nameAndType 32 33), (0, u "next"), (0, u "(I)I"), (0, .methodref 17 35), (0, .nameAndType 36 25), (0, u "contains"), (0, .class_ 38), (0, u "com/example/cutline/cutline/IndexSetAddPinLaw"), (2, u "law"), (0, u "(IIIII)Z")] 3

def k1m0 : Method := { name := "<init>", desc := "()V", sig := { parameters := [], returnType := none }, accessFlags := 1, code := none }
def k1c1 : Code := { maxStack := 4, maxLocals := 24, code := code, exceptionTable := #[], attributes := #[] }
def k1m1 : Method := { name := "law", desc := "(IIIII)Z", sig := { parameters := [.int, .int, .int, .int, .int], returnType := some .boolean }, accessFlags := 9, code := some k1c1 }
/-- com/example/cutline/cutline/IndexSetAddPinLaw -/
def k1 : Class := { plain "com/example/cutline/cutline/IndexSetAddPinLaw" (some 0) with
  accessFlags := 49
  interfaces := #[]
  cf := some (fileOf pool1 37 #[] #[{ accessFlags := 1, nameIndex := 5, descriptorIndex := 6, attributes := #[] }, { accessFlags := 9, nameIndex := 41, descriptorIndex := 42, attributes := #[] }] 49 2 #[] #[])
  fields := #[]
  methods := #[k1m0, k1m1]
  instanceTypes := #[]
  staticTypes := #[]
  resolved := Array.replicate 46 none
  statics := none }

def pool2 : Array CpInfo := pool [(1, .class_ 2), (0, u "java/lang/Math"), (1, .class_ 6), (1, u "java/lang/Object"), (0, u "<init>"), (0, u "()V"), (89, .class_ 100), (1, u "java/lang/Math$RandomNumberGeneratorHolder"), (71, u "negativeZeroFloatBits"), (0, u "J"), (2, u "negativeZeroDoubleBits"), (21, u "max"), (2, u "min"), (43, u "$assertionsDisabled"), (0, u "Z"), (88, u "(II)I"), (2, u "twoToTheDoubleScaleDown"), (0, u "D"), (4, u "twoToTheDoubleScaleUp"), (9, u "E"), (3, u "PI"), (2, u "TAU"), (2, u "DEGREES_TO_RADIANS"), (0, u "RADIANS_TO_DEGREES")] 94

def k2m0 : Method := { name := "<init>", desc := "()V", sig := { parameters := [], returnType := none }, accessFlags := 2, code := none }
def k2c1 : Code := { maxStack := 2, maxLocals := 2, code := jdk_29_method_65_code, exceptionTable := #[], attributes := #[] }
def k2m1 : Method := { name := "max", desc := "(II)I", sig := { parameters := [.int, .int], returnType := some .int }, accessFlags := 9, code := some k2c1 }
def k2c2 : Code := { maxStack := 2, maxLocals := 2, code := jdk_29_method_69_code, exceptionTable := #[], attributes := #[] }
def k2m2 : Method := { name := "min", desc := "(II)I", sig := { parameters := [.int, .int], returnType := some .int }, accessFlags := 9, code := some k2c2 }
/-- java/lang/Math -/
def k2 : Class := { plain "java/lang/Math" (some 0) with
  accessFlags := 49
  interfaces := #[]
  cf := some (fileOf pool2 1 #[.nestMembers #[98]] #[{ accessFlags := 2, nameIndex := 7, descriptorIndex := 8, attributes := #[] }, { accessFlags := 9, nameIndex := 198, descriptorIndex := 335, attributes := #[] }, { accessFlags := 9, nameIndex := 201, descriptorIndex := 335, attributes := #[] }] 49 4 #[] #[{ accessFlags := 25, nameIndex := 354, descriptorIndex := 339, attributes := #[] }, { accessFlags := 25, nameIndex := 358, descriptorIndex := 339, attributes := #[] }, { accessFlags := 25, nameIndex := 361, descriptorIndex := 339, attributes := #[] }, { accessFlags := 26, nameIndex := 364, descriptorIndex := 339, attributes := #[] }, { accessFlags := 26, nameIndex := 365, descriptorIndex := 339, attributes := #[] }, { accessFlags := 26, nameIndex := 172, descriptorIndex := 173, attributes := #[] }, { accessFlags := 26, nameIndex := 176, descriptorIndex := 173, attributes := #[] }, { accessFlags := 8, nameIndex := 344, descriptorIndex := 339, attributes := #[] }, { accessFlags := 8, nameIndex := 338, descriptorIndex := 339, attributes := #[] }, { accessFlags := 4120, nameIndex := 245, descriptorIndex := 246, attributes := #[] }])
  fields := #[{ name := "E", type := .double, accessFlags := 25, slot := 0, constantValue := 0 }, { name := "PI", type := .double, accessFlags := 25, slot := 1, constantValue := 0 }, { name := "TAU", type := .double, accessFlags := 25, slot := 2, constantValue := 0 }, { name := "DEGREES_TO_RADIANS", type := .double, accessFlags := 26, slot := 3, constantValue := 0 }, { name := "RADIANS_TO_DEGREES", type := .double, accessFlags := 26, slot := 4, constantValue := 0 }, { name := "negativeZeroFloatBits", type := .long, accessFlags := 26, slot := 5, constantValue := 0 }, { name := "negativeZeroDoubleBits", type := .long, accessFlags := 26, slot := 6, constantValue := 0 }, { name := "twoToTheDoubleScaleUp", type := .double, accessFlags := 8, slot := 7, constantValue := 0 }, { name := "twoToTheDoubleScaleDown", type := .double, accessFlags := 8, slot := 8, constantValue := 0 }, { name := "$assertionsDisabled", type := .boolean, accessFlags := 4120, slot := 9, constantValue := 0 }]
  methods := #[k2m0, k2m1, k2m2]
  instanceTypes := #[]
  staticTypes := #[.double, .double, .double, .double, .double, .long, .long, .double, .double, .boolean]
  resolved := Array.replicate 460 none
  statics := none }

def pool3 : Array CpInfo := pool [(1, .methodref 2 3), (0, .class_ 4), (0, .nameAndType 5 6), (0, u "java/lang/Object"), (0, u "<init>"), (0, u "()V"), (0, .fieldref 8 9), (0, .class_ 10), (0, .nameAndType 11 12), (0, u "com/example/cutline/cutline/IndexSet"), (0, u "capacity"), (0, u "I"), (0, .fieldref 8 14), (0, .nameAndType 15 16), (0, u "words"), (0, u "[J"), (0, .fieldref 8 18), (0, .nameAndType 19 16), (0, u "summary"), (0, .fieldref 8 21), (0, .nameAndType 22 12), (0, u "size"), (0, .long 18446744073709551615), (1, .methodref 26 27), (0, .class_ 28), (0, .nameAndType 29 30), (0, u "java/lang/Long"), (0, u "numberOfTrailingZeros"), (0, u "(J)I"), (3, u "(I)V"), (2, u "()I"), (0, u "contains"), (0, u "(I)Z"), (1, u "add"), (3, u "next"), (0, u "(I)I")] 2

def k3c0 : Code := { maxStack := 3, maxLocals := 2, code := prog_16_method_1_code, exceptionTable := #[], attributes := #[] }
def k3m0 : Method := { name := "<init>", desc := "(I)V", sig := { parameters := [.int], returnType := none }, accessFlags := 0, code := some k3c0 }
def k3c1 : Code := { maxStack := 1, maxLocals := 1, code := prog_16_method_2_code, exceptionTable := #[], attributes := #[] }
def k3m1 : Method := { name := "size", desc := "()I", sig := { parameters := [], returnType := some .int }, accessFlags := 0, code := some k3c1 }
def k3c2 : Code := { maxStack := 5, maxLocals := 2, code := prog_16_method_3_code, exceptionTable := #[], attributes := #[] }
def k3m2 : Method := { name := "contains", desc := "(I)Z", sig := { parameters := [.int], returnType := some .boolean }, accessFlags := 0, code := some k3c2 }
def k3c3 : Code := { maxStack := 7, maxLocals := 5, code := prog_16_method_4_code, exceptionTable := #[], attributes := #[] }
def k3m3 : Method := { name := "add", desc := "(I)Z", sig := { parameters := [.int], returnType := some .boolean }, accessFlags := 0, code := some k3c3 }
def k3c4 : Code := { maxStack := 5, maxLocals := 8, code := prog_16_method_8_code, exceptionTable := #[], attributes := #[] }
def k3m4 : Method := { name := "next", desc := "(I)I", sig := { parameters := [.int], returnType := some .int }, accessFlags := 0, code := some k3c4 }
/-- com/example/cutline/cutline/IndexSet -/
def k3 : Class := { plain "com/example/cutline/cutline/IndexSet" (some 0) with
  accessFlags := 48
  interfaces := #[]
  cf := some (fileOf pool3 8 #[] #[{ accessFlags := 0, nameIndex := 5, descriptorIndex := 34, attributes := #[] }, { accessFlags := 0, nameIndex := 22, descriptorIndex := 37, attributes := #[] }, { accessFlags := 0, nameIndex := 38, descriptorIndex := 39, attributes := #[] }, { accessFlags := 0, nameIndex := 41, descriptorIndex := 39, attributes := #[] }, { accessFlags := 0, nameIndex := 45, descriptorIndex := 46, attributes := #[] }] 48 2 #[] #[{ accessFlags := 18, nameIndex := 11, descriptorIndex := 12, attributes := #[] }, { accessFlags := 18, nameIndex := 15, descriptorIndex := 16, attributes := #[] }, { accessFlags := 18, nameIndex := 19, descriptorIndex := 16, attributes := #[] }, { accessFlags := 2, nameIndex := 22, descriptorIndex := 12, attributes := #[] }])
  fields := #[{ name := "capacity", type := .int, accessFlags := 18, slot := 0, constantValue := 0 }, { name := "words", type := (.array .long), accessFlags := 18, slot := 1, constantValue := 0 }, { name := "summary", type := (.array .long), accessFlags := 18, slot := 2, constantValue := 0 }, { name := "size", type := .int, accessFlags := 2, slot := 3, constantValue := 0 }]
  methods := #[k3m0, k3m1, k3m2, k3m3, k3m4]
  instanceTypes := #[.int, (.array .long), (.array .long), .int]
  staticTypes := #[]
  resolved := Array.replicate 49 none
  statics := none }

def pool4 : Array CpInfo := pool [(1, .class_ 2), (0, u "java/io/Serializable"), (0, .class_ 4), (0, u "java/lang/Object")] 2

/-- java/io/Serializable -/
def k4 : Class := { plain "java/io/Serializable" (some 0) with
  accessFlags := 1537
  interfaces := #[]
  cf := some (fileOf pool4 1 #[] #[] 1537 3 #[] #[])
  fields := #[]
  methods := #[]
  instanceTypes := #[]
  staticTypes := #[]
  resolved := Array.replicate 7 none
  statics := none }

def pool5 : Array CpInfo := pool [(2, .class_ 4), (1, u "java/lang/Object"), (0, u "<init>"), (0, u "()V"), (1, .class_ 10), (1, u "java/lang/Number"), (2, .class_ 14), (0, u "java/io/Serializable"), (0, u "serialVersionUID"), (0, u "J")] 20

def k5m0 : Method := { name := "<init>", desc := "()V", sig := { parameters := [], returnType := none }, accessFlags := 1, code := none }
/-- java/lang/Number -/
def k5 : Class := { plain "java/lang/Number" (some 0) with
  accessFlags := 1057
  interfaces := #[4]
  cf := some (fileOf pool5 8 #[] #[{ accessFlags := 1, nameIndex := 5, descriptorIndex := 6, attributes := #[] }] 1057 2 #[13] #[{ accessFlags := 26, nameIndex := 15, descriptorIndex := 16, attributes := #[] }])
  fields := #[{ name := "serialVersionUID", type := .long, accessFlags := 26, slot := 0, constantValue := 0 }]
  methods := #[k5m0]
  instanceTypes := #[]
  staticTypes := #[.long]
  resolved := Array.replicate 37 none
  statics := none }

def pool6 : Array CpInfo := pool [(1, .class_ 2), (0, u "java/lang/Comparable"), (0, .class_ 4), (0, u "java/lang/Object")] 7

/-- java/lang/Comparable -/
def k6 : Class := { plain "java/lang/Comparable" (some 0) with
  accessFlags := 1537
  interfaces := #[]
  cf := some (fileOf pool6 1 #[] #[] 1537 3 #[] #[])
  fields := #[]
  methods := #[]
  instanceTypes := #[]
  staticTypes := #[]
  resolved := Array.replicate 12 none
  statics := none }

def pool7 : Array CpInfo := pool [(1, .class_ 2), (0, u "java/lang/constant/Constable"), (0, .class_ 4), (0, u "java/lang/Object")] 6

/-- java/lang/constant/Constable -/
def k7 : Class := { plain "java/lang/constant/Constable" (some 0) with
  accessFlags := 1537
  interfaces := #[]
  cf := some (fileOf pool7 1 #[] #[] 1537 3 #[] #[])
  fields := #[]
  methods := #[]
  instanceTypes := #[]
  staticTypes := #[]
  resolved := Array.replicate 11 none
  statics := none }

def pool8 : Array CpInfo := pool [(1, .class_ 2), (0, u "java/lang/constant/ConstantDesc"), (0, .class_ 4), (0, u "java/lang/Object")] 32

/-- java/lang/constant/ConstantDesc -/
def k8 : Class := { plain "java/lang/constant/ConstantDesc" (some 0) with
  accessFlags := 1537
  interfaces := #[]
  cf := some (fileOf pool8 1 #[] #[] 1537 3 #[] #[])
  fields := #[]
  methods := #[]
  instanceTypes := #[]
  staticTypes := #[]
  resolved := Array.replicate 37 none
  statics := none }

def pool9 : Array CpInfo := pool [(1, .class_ 2), (0, u "java/lang/Long"), (15, .class_ 20), (1, u "java/lang/Integer"), (80, u "(J)I"), (133, .class_ 237), (1, u "java/lang/Long$LongCache"), (33, .class_ 272), (0, u "java/lang/Number"), (2, u "value"), (0, u "J"), (33, u "(I)I"), (0, .methodref 18 312), (0, .nameAndType 313 310), (0, u "numberOfTrailingZeros"), (47, u "TYPE"), (0, u "Ljava/lang/Class;"), (0, .class_ 364), (0, u "java/lang/Comparable"), (0, .class_ 366), (0, u "java/lang/constant/Constable"), (0, .class_ 368), (0, u "java/lang/constant/ConstantDesc"), (0, u "MIN_VALUE"), (1, u "MAX_VALUE"), (4, u "SIZE"), (0, u "I"), (1, u "BYTES"), (1, u "serialVersionUID")] 142

def k9c0 : Code := { maxStack := 4, maxLocals := 3, code := jdk_35_method_49_code, exceptionTable := #[], attributes := #[] }
def k9m0 : Method := { name := "numberOfTrailingZeros", desc := "(J)I", sig := { parameters := [.long], returnType := some .int }, accessFlags := 9, code := some k9c0 }
/-- java/lang/Long -/
def k9 : Class := { plain "java/lang/Long" (some 5) with
  accessFlags := 49
  interfaces := #[6, 7, 8]
  cf := some (fileOf pool9 1 #[.nestMembers #[235]] #[{ accessFlags := 9, nameIndex := 313, descriptorIndex := 101, attributes := #[] }] 49 271 #[363, 365, 367] #[{ accessFlags := 25, nameIndex := 369, descriptorIndex := 276, attributes := #[] }, { accessFlags := 25, nameIndex := 371, descriptorIndex := 276, attributes := #[] }, { accessFlags := 25, nameIndex := 361, descriptorIndex := 362, attributes := #[] }, { accessFlags := 18, nameIndex := 275, descriptorIndex := 276, attributes := #[] }, { accessFlags := 25, nameIndex := 376, descriptorIndex := 377, attributes := #[] }, { accessFlags := 25, nameIndex := 379, descriptorIndex := 377, attributes := #[] }, { accessFlags := 26, nameIndex := 381, descriptorIndex := 276, attributes := #[] }])
  fields := #[{ name := "MIN_VALUE", type := .long, accessFlags := 25, slot := 0, constantValue := 0 }, { name := "MAX_VALUE", type := .long, accessFlags := 25, slot := 1, constantValue := 0 }, { name := "TYPE", type := (.object "java/lang/Class"), accessFlags := 25, slot := 2, constantValue := 0 }, { name := "value", type := .long, accessFlags := 18, slot := 0, constantValue := 0 }, { name := "SIZE", type := .int, accessFlags := 25, slot := 3, constantValue := 0 }, { name := "BYTES", type := .int, accessFlags := 25, slot := 4, constantValue := 0 }, { name := "serialVersionUID", type := .long, accessFlags := 26, slot := 5, constantValue := 0 }]
  methods := #[k9m0]
  instanceTypes := #[.long]
  staticTypes := #[.long, .long, (.object "java/lang/Class"), .int, .int, .long]
  resolved := Array.replicate 524 none
  statics := none }

def pool10 : Array CpInfo := pool [(1, .class_ 2), (0, u "java/lang/Integer"), (16, u "digits"), (0, u "[C"), (33, u "(I)I"), (30, u "DigitOnes"), (0, u "[B"), (2, u "DigitTens"), (99, .class_ 190), (0, u "java/lang/Integer$IntegerCache"), (3, u "I"), (8, .class_ 204), (0, u "java/lang/Number"), (2, u "value"), (56, .integer 65536), (37, u "TYPE"), (0, u "Ljava/lang/Class;"), (0, .class_ 305), (0, u "java/lang/Comparable"), (0, .class_ 307), (0, u "java/lang/constant/Constable"), (0, .class_ 309), (0, u "java/lang/constant/ConstantDesc"), (0, u "MIN_VALUE"), (1, u "MAX_VALUE"), (3, u "SIZE"), (1, u "BYTES"), (1, u "serialVersionUID"), (0, u "J"), (84, u "numberOfTrailingZeros")] 46

def k10c0 : Code := { maxStack := 3, maxLocals := 2, code := jdk_33_method_48_code, exceptionTable := #[], attributes := #[] }
def k10m0 : Method := { name := "numberOfTrailingZeros", desc := "(I)I", sig := { parameters := [.int], returnType := some .int }, accessFlags := 9, code := some k10c0 }
/-- java/lang/Integer -/
def k10 : Class := { plain "java/lang/Integer" (some 5) with
  accessFlags := 49
  interfaces := #[6, 7, 8]
  cf := some (fileOf pool10 1 #[.nestMembers #[189]] #[{ accessFlags := 9, nameIndex := 406, descriptorIndex := 54, attributes := #[] }] 49 203 #[304, 306, 308] #[{ accessFlags := 25, nameIndex := 310, descriptorIndex := 194, attributes := #[] }, { accessFlags := 25, nameIndex := 312, descriptorIndex := 194, attributes := #[] }, { accessFlags := 25, nameIndex := 302, descriptorIndex := 303, attributes := #[] }, { accessFlags := 24, nameIndex := 19, descriptorIndex := 20, attributes := #[] }, { accessFlags := 24, nameIndex := 89, descriptorIndex := 86, attributes := #[] }, { accessFlags := 24, nameIndex := 85, descriptorIndex := 86, attributes := #[] }, { accessFlags := 18, nameIndex := 207, descriptorIndex := 194, attributes := #[] }, { accessFlags := 25, nameIndex := 316, descriptorIndex := 194, attributes := #[] }, { accessFlags := 25, nameIndex := 318, descriptorIndex := 194, attributes := #[] }, { accessFlags := 26, nameIndex := 320, descriptorIndex := 321, attributes := #[] }])
  fields := #[{ name := "MIN_VALUE", type := .int, accessFlags := 25, slot := 0, constantValue := 0 }, { name := "MAX_VALUE", type := .int, accessFlags := 25, slot := 1, constantValue := 0 }, { name := "TYPE", type := (.object "java/lang/Class"), accessFlags := 25, slot := 2, constantValue := 0 }, { name := "digits", type := (.array .char), accessFlags := 24, slot := 3, constantValue := 0 }, { name := "DigitTens", type := (.array .byte), accessFlags := 24, slot := 4, constantValue := 0 }, { name := "DigitOnes", type := (.array .byte), accessFlags := 24, slot := 5, constantValue := 0 }, { name := "value", type := .int, accessFlags := 18, slot := 0, constantValue := 0 }, { name := "SIZE", type := .int, accessFlags := 25, slot := 6, constantValue := 0 }, { name := "BYTES", type := .int, accessFlags := 25, slot := 7, constantValue := 0 }, { name := "serialVersionUID", type := .long, accessFlags := 26, slot := 8, constantValue := 0 }]
  methods := #[k10m0]
  instanceTypes := #[.int]
  staticTypes := #[.int, .int, (.object "java/lang/Class"), (.array .char), (.array .byte), (.array .byte), .int, .int, .long]
  resolved := Array.replicate 453 none
  statics := none }

def pool11 : Array CpInfo := pool [(1, u "java/lang/Cloneable"), (0, .class_ 1), (0, u "java/lang/Object"), (0, .class_ 3)] 3

/-- java/lang/Cloneable -/
def k11 : Class := { plain "java/lang/Cloneable" (some 0) with
  accessFlags := 1537
  interfaces := #[]
  cf := some (fileOf pool11 2 #[] #[] 1537 4 #[] #[])
  fields := #[]
  methods := #[]
  instanceTypes := #[]
  staticTypes := #[]
  resolved := Array.replicate 8 none
  statics := none }

/-- the primitive byte -/
def k12 : Class := { plain "byte" none with kind := .primitive 'B', accessFlags := 0x411 }
/-- [B -/
def k13 : Class := { plain "[B" (some 0) with kind := .array 12 .byte, interfaces := #[11, 4], accessFlags := 1041 }

/-- the primitive int -/
def k14 : Class := { plain "int" none with kind := .primitive 'I', accessFlags := 0x411 }
/-- [I -/
def k15 : Class := { plain "[I" (some 0) with kind := .array 14 .int, interfaces := #[11, 4], accessFlags := 1041 }

/-- the primitive long -/
def k16 : Class := { plain "long" none with kind := .primitive 'J', accessFlags := 0x411 }
/-- [J -/
def k17 : Class := { plain "[J" (some 0) with kind := .array 16 .long, interfaces := #[11, 4], accessFlags := 1041 }

def heap : Heap := #[]
def classes : Array Class := #[k0, k1, k2, k3, k4, k5, k6, k7, k8, k9, k10, k11, k12, k13, k14, k15, k16, k17]
def interned : List (Array UInt16 × Addr) := []
def slotsUsed : Nat := 0
def theMethod : MethodId := ⟨1, 1⟩
def args0 : Array Value := #[.int 5, .int 3, .int 7, .int 4, .int 9]
def aboutOver (below : List Frame) : State where
  vm := { classes := classes, interned := interned.toArray }
  heap := heap
  slotsUsed := slotsUsed
  threads := #[{ frames := .invoking theMethod args0 :: below }]
def below0 : List Frame := [.native { method := ⟨0, 0⟩, args := #[] }]
def about1 : State := aboutOver below0
def p0 : Program := .bare "" "" ""
def e0 : Env := launch0.env 0 0 0
theorem w_frames : about1.frames = Frame.invoking theMethod args0 :: below0 := rfl
set_option maxRecDepth 65536 in
theorem w_args : argsFit about1.vm theMethod args0 = true := by decide +kernel
set_option maxRecDepth 65536 in
theorem w_heap : heapFits about1 = true := by decide +kernel
set_option maxRecDepth 65536 in
theorem w_runnable : about1.curStatus? = some .runnable := by decide +kernel
set_option maxRecDepth 65536 in
theorem w_alone : about1.alone = true := by decide +kernel
set_option maxRecDepth 65536 in
theorem w_named : about1.methodNamed? x = some theMethod := by decide +kernel
set_option maxRecDepth 65536 in
theorem w_hears : about1.hears theMethod below0 = true := by decide +kernel
set_option maxRecDepth 65536 in
theorem w_ripe : about1.ripe theMethod args0 below0 = true := by decide +kernel
theorem w_running : about1.status = .running := rfl
set_option maxRecDepth 65536 in
theorem w_room : about1.hasRoom e0.platform room_1 = true :=
  launch0.hasRoom_least _ room_1 (by decide +kernel) (by decide +kernel) (by decide +kernel) (by decide +kernel) (by decide +kernel) (by decide +kernel)
theorem allAtoms_all (ts : List Jvm.Cond) (a : Array Jvm.Value) (st : Jvm.State) : (allAtoms ts).before a st = ts.all (fun c => c.before a st) := by
  induction ts with
  | nil => rfl
  | cons c t ih =>
    show (Jvm.Cond.and c (allAtoms t)).before a st = _
    rw [Jvm.Cond.before_and, ih, List.all_cons]
def words1 : List Jvm.Cond := Jvm.Cond.code x code maxLocals ret :: tables_1
/-- a 'code' word, met by the world's own term for the bytes: nothing is compared byte by byte -/
theorem code_word {y : MethodName} {bytes : ByteArray} {mx : Nat} {rt : Option FieldType} {a : Array Value} {s : State} {m : MethodId} {meth : Method} {c : Code} (h1 : s.methodNamed? y = some m) (h2 : s.vm.method? m = some meth) (h3 : meth.code = some c) (h4 : c.code = bytes)
    (h5 : (c.maxLocals == mx && c.exceptionTable.isEmpty && decide (c.maxStack ≤ mostOperands) && decide (meth.sig.returnType = rt) && !meth.locks && decide (parseMethodDescriptor y.desc = some meth.sig)) = true) : (Jvm.Cond.code y bytes mx rt).before a s = true := by
  simp only [Bool.and_eq_true, beq_iff_eq, Bool.not_eq_true', decide_eq_true_eq] at h5
  obtain ⟨⟨⟨⟨⟨g1, g2⟩, g3⟩, g4⟩, g5⟩, g6⟩ := h5
  simp [Cond.before, Cond.holds, Cond.value, h1, h2, h3, h4, g1, g2, g3, g4, g5, g6]
def isCode : Jvm.Cond → Bool
  | .code _ _ _ _ => true
  | _ => false
theorem all_split {L : List Jvm.Cond} {P : Jvm.Cond → Bool} (h1 : L.all (fun c => isCode c || P c) = true) (h2 : ∀ c ∈ L.filter isCode, P c = true) : L.all P = true := by
  refine List.all_eq_true.mpr fun c hc => ?_
  have h := List.all_eq_true.mp h1 c hc
  rcases Bool.eq_false_or_eq_true (isCode c) with hi | hi
  · exact h2 c (List.mem_filter.mpr ⟨hc, hi⟩)
  · simpa [hi] using h
set_option maxRecDepth 65536 in
theorem w_c0 : (Jvm.Cond.code x code maxLocals ret).before args0 about1 = true := code_word (m := ⟨1, 1⟩) (meth := k1m1) (c := k1c1) (by decide +kernel) rfl rfl rfl (by decide +kernel)
set_option maxRecDepth 65536 in
theorem w_c1 : (Jvm.Cond.code ({ cls := "java/lang/Math", name := "min", desc := "(II)I" } : Jvm.MethodName) jdk_29_method_69_code (2 : Nat) (Option.some Jvm.ClassFile.FieldType.int)).before args0 about1 = true := code_word (m := ⟨2, 2⟩) (meth := k2m2) (c := k2c2) (by decide +kernel) rfl rfl rfl (by decide +kernel)
set_option maxRecDepth 65536 in
theorem w_c2 : (Jvm.Cond.code ({ cls := "java/lang/Math", name := "max", desc := "(II)I" } : Jvm.MethodName) jdk_29_method_65_code (2 : Nat) (Option.some Jvm.ClassFile.FieldType.int)).before args0 about1 = true := code_word (m := ⟨2, 1⟩) (meth := k2m1) (c := k2c1) (by decide +kernel) rfl rfl rfl (by decide +kernel)
set_option maxRecDepth 65536 in
theorem w_c3 : (Jvm.Cond.code ({ cls := "com/example/cutline/cutline/IndexSet", name := "<init>", desc := "(I)V" } : Jvm.MethodName) prog_16_method_1_code (2 : Nat) (Option.none : Option Jvm.ClassFile.FieldType)).before args0 about1 = true := code_word (m := ⟨3, 0⟩) (meth := k3m0) (c := k3c0) (by decide +kernel) rfl rfl rfl (by decide +kernel)
set_option maxRecDepth 65536 in
theorem w_c4 : (Jvm.Cond.code ({ cls := "java/lang/Object", name := "<init>", desc := "()V" } : Jvm.MethodName) object_method_1_code (1 : Nat) (Option.none : Option Jvm.ClassFile.FieldType)).before args0 about1 = true := code_word (m := ⟨0, 0⟩) (meth := k0m0) (c := k0c0) (by decide +kernel) rfl rfl rfl (by decide +kernel)
set_option maxRecDepth 65536 in
theorem w_c5 : (Jvm.Cond.code ({ cls := "com/example/cutline/cutline/IndexSet", name := "add", desc := "(I)Z" } : Jvm.MethodName) prog_16_method_4_code (5 : Nat) (Option.some Jvm.ClassFile.FieldType.boolean)).before args0 about1 = true := code_word (m := ⟨3, 3⟩) (meth := k3m3) (c := k3c3) (by decide +kernel) rfl rfl rfl (by decide +kernel)
set_option maxRecDepth 65536 in
theorem w_c6 : (Jvm.Cond.code ({ cls := "com/example/cutline/cutline/IndexSet", name := "size", desc := "()I" } : Jvm.MethodName) prog_16_method_2_code (1 : Nat) (Option.some Jvm.ClassFile.FieldType.int)).before args0 about1 = true := code_word (m := ⟨3, 1⟩) (meth := k3m1) (c := k3c1) (by decide +kernel) rfl rfl rfl (by decide +kernel)
set_option maxRecDepth 65536 in
theorem w_c7 : (Jvm.Cond.code ({ cls := "com/example/cutline/cutline/IndexSet", name := "next", desc := "(I)I" } : Jvm.MethodName) prog_16_method_8_code (8 : Nat) (Option.some Jvm.ClassFile.FieldType.int)).before args0 about1 = true := code_word (m := ⟨3, 4⟩) (meth := k3m4) (c := k3c4) (by decide +kernel) rfl rfl rfl (by decide +kernel)
set_option maxRecDepth 65536 in
theorem w_c8 : (Jvm.Cond.code ({ cls := "java/lang/Long", name := "numberOfTrailingZeros", desc := "(J)I" } : Jvm.MethodName) jdk_35_method_49_code (3 : Nat) (Option.some Jvm.ClassFile.FieldType.int)).before args0 about1 = true := code_word (m := ⟨9, 0⟩) (meth := k9m0) (c := k9c0) (by decide +kernel) rfl rfl rfl (by decide +kernel)
set_option maxRecDepth 65536 in
theorem w_c9 : (Jvm.Cond.code ({ cls := "java/lang/Integer", name := "numberOfTrailingZeros", desc := "(I)I" } : Jvm.MethodName) jdk_33_method_48_code (2 : Nat) (Option.some Jvm.ClassFile.FieldType.int)).before args0 about1 = true := code_word (m := ⟨10, 0⟩) (meth := k10m0) (c := k10c0) (by decide +kernel) rfl rfl rfl (by decide +kernel)
set_option maxRecDepth 65536 in
theorem w_c10 : (Jvm.Cond.code ({ cls := "com/example/cutline/cutline/IndexSet", name := "contains", desc := "(I)Z" } : Jvm.MethodName) prog_16_method_3_code (2 : Nat) (Option.some Jvm.ClassFile.FieldType.boolean)).before args0 about1 = true := code_word (m := ⟨3, 2⟩) (meth := k3m2) (c := k3c2) (by decide +kernel) rfl rfl rfl (by decide +kernel)
def codes1 : List Jvm.Cond := [Jvm.Cond.code x code maxLocals ret, Jvm.Cond.code ({ cls := "java/lang/Math", name := "min", desc := "(II)I" } : Jvm.MethodName) jdk_29_method_69_code (2 : Nat) (Option.some Jvm.ClassFile.FieldType.int), Jvm.Cond.code ({ cls := "java/lang/Math", name := "max", desc := "(II)I" } : Jvm.MethodName) jdk_29_method_65_code (2 : Nat) (Option.some Jvm.ClassFile.FieldType.int), Jvm.Cond.code ({ cls := "com/example/cutline/cutline/IndexSet", name := "<init>", desc := "(I)V" } : Jvm.MethodName) prog_16_method_1_code (2 : Nat) (Option.none : Option Jvm.ClassFile.FieldType), Jvm.Cond.code ({ cls := "java/lang/Object", name := "<init>", desc := "()V" } : Jvm.MethodName) object_method_1_code (1 : Nat) (Option.none : Option Jvm.ClassFile.FieldType), Jvm.Cond.code ({ cls := "com/example/cutline/cutline/IndexSet", name := "add", desc := "(I)Z" } : Jvm.MethodName) prog_16_method_4_code (5 : Nat) (Option.some Jvm.ClassFile.FieldType.boolean), Jvm.Cond.code ({ cls := "com/example/cutline/cutline/IndexSet", name := "size", desc := "()I" } : Jvm.MethodName) prog_16_method_2_code (1 : Nat) (Option.some Jvm.ClassFile.FieldType.int), Jvm.Cond.code ({ cls := "com/example/cutline/cutline/IndexSet", name := "next", desc := "(I)I" } : Jvm.MethodName) prog_16_method_8_code (8 : Nat) (Option.some Jvm.ClassFile.FieldType.int), Jvm.Cond.code ({ cls := "java/lang/Long", name := "numberOfTrailingZeros", desc := "(J)I" } : Jvm.MethodName) jdk_35_method_49_code (3 : Nat) (Option.some Jvm.ClassFile.FieldType.int), Jvm.Cond.code ({ cls := "java/lang/Integer", name := "numberOfTrailingZeros", desc := "(I)I" } : Jvm.MethodName) jdk_33_method_48_code (2 : Nat) (Option.some Jvm.ClassFile.FieldType.int), Jvm.Cond.code ({ cls := "com/example/cutline/cutline/IndexSet", name := "contains", desc := "(I)Z" } : Jvm.MethodName) prog_16_method_3_code (2 : Nat) (Option.some Jvm.ClassFile.FieldType.boolean)]
set_option maxRecDepth 65536 in
theorem codes_eq : words1.filter isCode = codes1 := rfl
theorem w_codes : ∀ c ∈ words1.filter isCode, c.before args0 about1 = true := by
  rw [codes_eq]
  intro c hc
  simp only [codes1, List.mem_cons, List.not_mem_nil, or_false] at hc
  rcases hc with rfl | rfl | rfl | rfl | rfl | rfl | rfl | rfl | rfl | rfl | rfl
  · exact w_c0
  · exact w_c1
  · exact w_c2
  · exact w_c3
  · exact w_c4
  · exact w_c5
  · exact w_c6
  · exact w_c7
  · exact w_c8
  · exact w_c9
  · exact w_c10
set_option maxRecDepth 65536 in
theorem w_t1 : (words1.take 24).all (fun c => isCode c || c.before args0 about1) = true := by decide +kernel
set_option maxRecDepth 65536 in
theorem w_t2 : ((words1.drop 24).take 24).all (fun c => isCode c || c.before args0 about1) = true := by decide +kernel
set_option maxRecDepth 65536 in
theorem w_t3 : ((words1.drop 24).drop 24).all (fun c => isCode c || c.before args0 about1) = true := by decide +kernel
theorem w_tables : (allAtoms (Jvm.Cond.code x code maxLocals ret :: tables_1)).before args0 about1 = true := by
  rw [allAtoms_all]
  show words1.all (fun c => c.before args0 about1) = true
  refine all_split ?_ w_codes
  rw [← List.take_append_drop 24 words1, List.all_append, w_t1, ← List.take_append_drop 24 (words1.drop 24), List.all_append, w_t2, w_t3]
  rfl
set_option maxRecDepth 65536 in
theorem w_case : (Jvm.Cond.and given_1 narrow_1).before args0 about1 = true := by decide +kernel
theorem w_applies : (headSpec (Jvm.Cond.code x code maxLocals ret :: tables_1) room_1).applies x e0.platform about1 = true :=
  (Spec.applies_iff w_frames).mpr ⟨w_running, w_runnable, w_alone, w_named, w_hears, w_ripe, w_room, w_tables⟩
theorem atStart : AtStart classFile x code maxLocals ret World_1 tables_1 room_1 Calls_1 rest_1 Pre_1 launch0 p0 e0 about1 theMethod args0 below0 :=
  ⟨lists_1, trivial, launch0.admits_env _ _ _, launch0.least_env, fairChoices_fair.cas, fairChoices_fair.clock, w_frames, w_args, w_heap, w_applies, trivial, trivial, w_case⟩
end start1
theorem witness_1 : WitnessClaimed_1 := ⟨start1.p0, start1.e0, start1.about1, start1.theMethod, start1.args0, start1.below0, start1.atStart⟩
end Jvm.Pilot.@@N@@
