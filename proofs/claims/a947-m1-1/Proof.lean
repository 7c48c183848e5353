import JvmDerived
import JvmDerived.Pilot.@@N@@Statement
import JvmDerived.Pilot.@@N@@Code
set_option linter.unusedVariables false
set_option linter.unusedSimpArgs false
namespace Jvm.RoadKit
open Sem ClassFile Op Lib Jvm.Stand Jvm.Free Jvm.LawKit
section New
variable {p : Program} {l : Launch} {e : Env} {R : Room} {s : State} {m : MethodId} {args : Array Value} {below : List Frame} {meth : Method} {c : Code} {T : State} {locs : List Loc} {cells slots : Nat}
theorem retI (X : Stand p l e R s m args below meth c T locs cells slots) (hx : p.tables.exec = Jvm.exec) {pc : Nat} {Ls : Array Slot} {z : Int32} {rest : List Value} (hret : meth.sig.returnType = some .int) (hd : decode c.code pc = .ok (.ireturn, 1)) {fs : List Frame}
    (hl : ∀ (f : JFrame) (acts : List Action), f.method = m → f.locked = none → f.entered = [] → (doReturn e (T.setTop f) acts (some (.int z))).1 = T.setFrames fs) : Steps p.tables e below (T.setTop (mkF m pc Ls (.int z :: rest))) (T.setFrames fs) := by
  have hm' : T.vm.method? m = some meth := X.method'
  have hn : narrow .int (.int z) = .int z := rfl
  show Steps p.tables e below (T.setTop { method := m, pc := pc, locals := Ls, stack := _ :: rest, locked := none }) _
  jvm_step X.here [X.here.top, hx, hd, hm', hret, hn]
  first | (intro acts; rw [hl _ acts rfl rfl rfl]) | rw [hl _ _ rfl rfl rfl]
  exact Steps.refl _
end New
end Jvm.RoadKit
namespace Jvm.OwnKit
open Sem ClassFile Op Lib Jvm.Stand Jvm.Free Jvm.LawKit Jvm.RoadKit
def b2i (b : Bool) : Int32 := if b = true then 1 else 0
theorem b2i_eq {b : Bool} (h : ¬ b = true) : b2i b = 0 := if_neg h
theorem b2i_ne {b : Bool} (h : b = true) : ¬ b2i b = 0 := by rw [b2i, if_pos h]; decide
theorem nar_b2i (b : Bool) : nar .boolean (b2i b) = b2i b := by cases b <;> decide
theorem b2i_one {b : Bool} (h : b = true) : nar .boolean (b2i b) = 1 := by rw [h]; decide
end Jvm.OwnKit
namespace Jvm.OwnKit
open Sem ClassFile Op Lib Jvm.Stand Jvm.Free Jvm.LawKit Jvm.RoadKit
section Arrays
variable {Z : State} {h h' : Heap} {a b : Addr} {ty : FieldType} {z : Int32} {G : Int32 → Value}
def AG (Z : State) (h : Heap) (a : Addr) (ty : FieldType) (z : Int32) (G : Int32 → Value) : Prop := ∃ c : Cell, Arr Z h a c ty ∧ c.slots.size = z.toNatClampNeg ∧ ¬ z < 0 ∧ ∀ j : Int32, ¬ j < 0 → j < z → c.slots[j.toNatClampNeg]? = some (G j)
def AJ (Z : State) (h : Heap) (a : Addr) (z : Int32) (f : Int32 → Int64) : Prop := AG Z h a .long z (fun i => .long (f i))
def AI (Z : State) (h : Heap) (a : Addr) (ty : FieldType) (z : Int32) (f : Int32 → Int32) : Prop := AG Z h a ty z (fun i => .int (f i))
def upA {α : Type} (f : Int32 → α) (j : Int32) (v : α) : Int32 → α := fun i => if i = j then v else f i
theorem upA_hit {α : Type} {f : Int32 → α} {j : Int32} {v : α} : upA f j v j = v := if_pos rfl
theorem upA_miss {α : Type} {f : Int32 → α} {i j : Int32} {v : α} (q : ¬ i = j) : upA f j v i = f i := if_neg q
theorem AG.lt (F : AG Z h a ty z G) : a < h.size := by obtain ⟨c, A, -⟩ := F; exact A.lt
theorem AG.ext (F : AG Z h a ty z G) (E : Ext h h') : AG Z h' a ty z G := by obtain ⟨c, A, r⟩ := F; exact ⟨c, A.ext E, r⟩
theorem AG.other (F : AG Z h b ty z G) {sl : Nat} {v : Value} (W : Wr h h' a sl v) (q : b ≠ a) : AG Z h' b ty z G := by obtain ⟨c, A, r⟩ := F; exact ⟨c, A.other W q, r⟩
theorem AG.new {k : ClassId} (A : Arr Z h a (newA k ty z) ty) (q : ¬ z < 0) : AG Z h a ty z (fun _ => defaultValue ty) :=
  ⟨_, A, sz_new _ _ _, q, fun j h1 h2 => get_new (by have w := inb_of (sz_new k ty z) ⟨h1, h2⟩; rwa [sz_new] at w)⟩
theorem AG.set (F : AG Z h a ty z G) {j : Int32} {v : Value} (W : Wr h h' a j.toNatClampNeg v) (q : ¬ j < 0 ∧ j < z) : AG Z h' a ty z (upA G j v) := by
  obtain ⟨c, A, S, M, H⟩ := F
  refine ⟨_, A.same W, by rw [sz_set]; exact S, M, fun i h1 h2 => ?_⟩
  by_cases e : i = j
  · rw [upA, if_pos e]; exact get_hit (inb_of S q) e
  · rw [upA, if_neg e, get_miss q.1 h1 e]; exact H i h1 h2
theorem AG.keep (F : AG Z h a ty z G) {ws : List Addr} (K : Keep h h' ws) (q : a ∉ ws) : AG Z h' a ty z G := by obtain ⟨c, A, r⟩ := F; exact ⟨c, ⟨K.2.1 a c A.1 q, A.2⟩, r⟩
theorem AJ.keep {f : Int32 → Int64} (F : AJ Z h a z f) {ws : List Addr} (K : Keep h h' ws) (q : a ∉ ws) : AJ Z h' a z f := AG.keep F K q
theorem AI.keep {f : Int32 → Int32} (F : AI Z h a ty z f) {ws : List Addr} (K : Keep h h' ws) (q : a ∉ ws) : AI Z h' a ty z f := AG.keep F K q
theorem AJ.lt {f : Int32 → Int64} (F : AJ Z h a z f) : a < h.size := AG.lt F
theorem AI.lt {f : Int32 → Int32} (F : AI Z h a ty z f) : a < h.size := AG.lt F
theorem AJ.ext {f : Int32 → Int64} (F : AJ Z h a z f) (E : Ext h h') : AJ Z h' a z f := AG.ext F E
theorem AI.ext {f : Int32 → Int32} (F : AI Z h a ty z f) (E : Ext h h') : AI Z h' a ty z f := AG.ext F E
theorem AJ.other {f : Int32 → Int64} (F : AJ Z h b z f) {sl : Nat} {v : Value} (W : Wr h h' a sl v) (q : b ≠ a) : AJ Z h' b z f := AG.other F W q
theorem AI.other {f : Int32 → Int32} (F : AI Z h b ty z f) {sl : Nat} {v : Value} (W : Wr h h' a sl v) (q : b ≠ a) : AI Z h' b ty z f := AG.other F W q
theorem AJ.set {f : Int32 → Int64} (F : AJ Z h a z f) {j : Int32} {v : Int64} (W : Wr h h' a j.toNatClampNeg (.long v)) (q : ¬ j < 0 ∧ j < z) : AJ Z h' a z (upA f j v) := by
  have e : (fun i => Value.long (upA f j v i)) = upA (fun i => Value.long (f i)) j (.long v) := funext fun i => by unfold upA; split <;> rfl
  unfold AJ; rw [e]; exact AG.set F W q
theorem AI.set {f : Int32 → Int32} (F : AI Z h a ty z f) {j v : Int32} (W : Wr h h' a j.toNatClampNeg (.int v)) (q : ¬ j < 0 ∧ j < z) : AI Z h' a ty z (upA f j v) := by
  have e : (fun i => Value.int (upA f j v i)) = upA (fun i => Value.int (f i)) j (.int v) := funext fun i => by unfold upA; split <;> rfl
  unfold AI; rw [e]; exact AG.set F W q
theorem AJ.congr {f g : Int32 → Int64} (F : AJ Z h a z f) (q : ∀ j : Int32, ¬ j < 0 → j < z → f j = g j) : AJ Z h a z g := by
  obtain ⟨c, A, S, M, H⟩ := F; exact ⟨c, A, S, M, fun j h1 h2 => (H j h1 h2).trans (congrArg (fun v => some (Value.long v)) (q j h1 h2))⟩
theorem AI.congr {f g : Int32 → Int32} (F : AI Z h a ty z f) (q : ∀ j : Int32, ¬ j < 0 → j < z → f j = g j) : AI Z h a ty z g := by
  obtain ⟨c, A, S, M, H⟩ := F; exact ⟨c, A, S, M, fun j h1 h2 => (H j h1 h2).trans (congrArg (fun v => some (Value.int v)) (q j h1 h2))⟩
theorem AJ.new {k : ClassId} (A : Arr Z h a (newA k .long z) .long) (q : ¬ z < 0) : AJ Z h a z (fun _ => 0) := AG.new A q
theorem AI.new {k : ClassId} (A : Arr Z h a (newA k .int z) .int) (q : ¬ z < 0) : AI Z h a .int z (fun _ => 0) := AG.new A q
theorem AI.newB {k : ClassId} (A : Arr Z h a (newA k .byte z) .byte) (q : ¬ z < 0) : AI Z h a .byte z (fun _ => 0) := AG.new A q
theorem AI.newZ {k : ClassId} (A : Arr Z h a (newA k .boolean z) .boolean) (q : ¬ z < 0) : AI Z h a .boolean z (fun _ => 0) := AG.new A q
variable {p : Program} {l : Launch} {e : Env} {R : Room} {s : State} {m : MethodId} {args : Array Value} {below : List Frame} {meth : Method} {c : Code} {T : State} {locs : List Loc} {cells slots : Nat} {g : JFrame} {rest : List Value} {j : Int32}
theorem rdJ {f : Int32 → Int64} {y : Int64} (X : Stand p l e R s m args below meth c T locs cells slots) (hx : p.tables.exec = Jvm.exec) (hZ : Z.Warmed39 s.vm) (eT : T.heap = h) (F : AJ Z h a z f) (q : ¬ j < 0 ∧ j < z) (hv : f j = y) (hg : g.method = m) (hs : g.stack = .int j :: .ref a :: rest) (hd : decode c.code g.pc = .ok (.laload, 1)) (target : State)
    (hr : Steps p.tables e below (T.setTop { g with pc := g.pc + 1, stack := .long y :: rest }) target) : Steps p.tables e below (T.setTop g) target := by
  subst hv
  obtain ⟨cl, A, S, M, H⟩ := F
  exact X.laload hx (by rw [eT]; exact A.1) (State.isArrayOf_alike hZ.alike A.2.1) A.2.2 (inb_of S q) (H j q.1 q.2) hg hs hd target hr
theorem rdI {f : Int32 → Int32} {y : Int32} (X : Stand p l e R s m args below meth c T locs cells slots) (hx : p.tables.exec = Jvm.exec) (hZ : Z.Warmed39 s.vm) (eT : T.heap = h) (F : AI Z h a .int z f) (q : ¬ j < 0 ∧ j < z) (hv : f j = y) (hg : g.method = m) (hs : g.stack = .int j :: .ref a :: rest) (hd : decode c.code g.pc = .ok (.iaload, 1)) (target : State)
    (hr : Steps p.tables e below (T.setTop { g with pc := g.pc + 1, stack := .int y :: rest }) target) : Steps p.tables e below (T.setTop g) target := by
  subst hv
  obtain ⟨cl, A, S, M, H⟩ := F
  exact X.iaload hx (by rw [eT]; exact A.1) (State.isArrayOf_alike hZ.alike A.2.1) A.2.2 (inb_of S q) (H j q.1 q.2) hg hs hd target hr
theorem rdB {f : Int32 → Int32} {y : Int32} (X : Stand p l e R s m args below meth c T locs cells slots) (hx : p.tables.exec = Jvm.exec) (hZ : Z.Warmed39 s.vm) (eT : T.heap = h) (F : AI Z h a .byte z f) (q : ¬ j < 0 ∧ j < z) (hv : f j = y) (hg : g.method = m) (hs : g.stack = .int j :: .ref a :: rest) (hd : decode c.code g.pc = .ok (.baload, 1)) (target : State)
    (hr : Steps p.tables e below (T.setTop { g with pc := g.pc + 1, stack := .int y :: rest }) target) : Steps p.tables e below (T.setTop g) target := by
  subst hv
  obtain ⟨cl, A, S, M, H⟩ := F
  exact X.baloadBytes hx (by rw [eT]; exact A.1) (State.isArrayOf_alike hZ.alike A.2.1) A.2.2 (inb_of S q) (H j q.1 q.2) hg hs hd target hr
theorem rdZ {f : Int32 → Int32} {y : Int32} (X : Stand p l e R s m args below meth c T locs cells slots) (hx : p.tables.exec = Jvm.exec) (hZ : Z.Warmed39 s.vm) (eT : T.heap = h) (F : AI Z h a .boolean z f) (q : ¬ j < 0 ∧ j < z) (hv : f j = y) (hg : g.method = m) (hs : g.stack = .int j :: .ref a :: rest) (hd : decode c.code g.pc = .ok (.baload, 1)) (target : State)
    (hr : Steps p.tables e below (T.setTop { g with pc := g.pc + 1, stack := .int y :: rest }) target) : Steps p.tables e below (T.setTop g) target := by
  subst hv
  obtain ⟨cl, A, S, M, H⟩ := F
  exact X.baloadBooleans hx (by rw [eT]; exact A.1) (State.isArrayOf_alike hZ.alike A.2.1) A.2.2 (inb_of S q) (H j q.1 q.2) hg hs hd target hr
theorem lnG (X : Stand p l e R s m args below meth c T locs cells slots) (hx : p.tables.exec = Jvm.exec) (hZ : Z.Warmed39 s.vm) (eT : T.heap = h) (F : AG Z h a ty z G) (hg : g.method = m) (hs : g.stack = .ref a :: rest) (hd : decode c.code g.pc = .ok (.arraylength, 1)) (target : State)
    (hr : Steps p.tables e below (T.setTop { g with pc := g.pc + 1, stack := .int z :: rest }) target) : Steps p.tables e below (T.setTop g) target := by
  obtain ⟨cl, A, S, M, H⟩ := F
  refine X.arraylength hx (by rw [eT]; exact A.1) (State.isArrayOf_alike hZ.alike A.2.1) hg hs hd target ?_
  rw [len_of S M]; exact hr
theorem wrJ {f : Int32 → Int64} {x : Int64} (X : Stand p l e R s m args below meth c T locs cells slots) (hx : p.tables.exec = Jvm.exec) (hZ : Z.Warmed39 s.vm) (eT : T.heap = h) (F : AJ Z h a z f) (q : ¬ j < 0 ∧ j < z) (hg : g.method = m) (hs : g.stack = .long x :: .int j :: .ref a :: rest) (hd : decode c.code g.pc = .ok (.lastore, 1)) :
    ∃ T' h', Stand p l e R s m args below meth c T' (locs ++ [⟨a, j.toNatClampNeg⟩]) cells slots ∧ T'.heap = h' ∧ Wr h h' a j.toNatClampNeg (.long x) ∧ AJ Z h' a z (upA f j x) ∧ ∀ target, Steps p.tables e below (T'.setTop { g with pc := g.pc + 1, stack := rest }) target → Steps p.tables e below (T.setTop g) target := by
  have F' := F
  obtain ⟨cl, A, S, M, H⟩ := F
  obtain ⟨T', h', X', e', W, st⟩ := stJ X hx hZ eT A (inb_of S q) hg hs hd
  exact ⟨T', h', X', e', W, AJ.set F' W q, st⟩
theorem wrI {f : Int32 → Int32} {x : Int32} (X : Stand p l e R s m args below meth c T locs cells slots) (hx : p.tables.exec = Jvm.exec) (hZ : Z.Warmed39 s.vm) (eT : T.heap = h) (F : AI Z h a .int z f) (q : ¬ j < 0 ∧ j < z) (hg : g.method = m) (hs : g.stack = .int x :: .int j :: .ref a :: rest) (hd : decode c.code g.pc = .ok (.iastore, 1)) :
    ∃ T' h', Stand p l e R s m args below meth c T' (locs ++ [⟨a, j.toNatClampNeg⟩]) cells slots ∧ T'.heap = h' ∧ Wr h h' a j.toNatClampNeg (.int x) ∧ AI Z h' a .int z (upA f j x) ∧ ∀ target, Steps p.tables e below (T'.setTop { g with pc := g.pc + 1, stack := rest }) target → Steps p.tables e below (T.setTop g) target := by
  have F' := F
  obtain ⟨cl, A, S, M, H⟩ := F
  obtain ⟨T', h', X', e', W, st⟩ := stI X hx hZ eT A (inb_of S q) hg hs hd
  exact ⟨T', h', X', e', W, AI.set F' W q, st⟩
theorem wrB {f : Int32 → Int32} {x y : Int32} (X : Stand p l e R s m args below meth c T locs cells slots) (hx : p.tables.exec = Jvm.exec) (hZ : Z.Warmed39 s.vm) (eT : T.heap = h) (F : AI Z h a .byte z f) (q : ¬ j < 0 ∧ j < z) (hn : nar .byte x = y) (hg : g.method = m) (hs : g.stack = .int x :: .int j :: .ref a :: rest) (hd : decode c.code g.pc = .ok (.bastore, 1)) :
    ∃ T' h', Stand p l e R s m args below meth c T' (locs ++ [⟨a, j.toNatClampNeg⟩]) cells slots ∧ T'.heap = h' ∧ Wr h h' a j.toNatClampNeg (.int y) ∧ AI Z h' a .byte z (upA f j y) ∧ ∀ target, Steps p.tables e below (T'.setTop { g with pc := g.pc + 1, stack := rest }) target → Steps p.tables e below (T.setTop g) target := by
  have F' := F
  obtain ⟨cl, A, S, M, H⟩ := F
  obtain ⟨T', h', X', e', W, st⟩ := stB X hx hZ eT A (inb_of S q) hg hs hd
  rw [hn] at W
  exact ⟨T', h', X', e', W, AI.set F' W q, st⟩
theorem wrZ {f : Int32 → Int32} {x y : Int32} (X : Stand p l e R s m args below meth c T locs cells slots) (hx : p.tables.exec = Jvm.exec) (hZ : Z.Warmed39 s.vm) (eT : T.heap = h) (F : AI Z h a .boolean z f) (q : ¬ j < 0 ∧ j < z) (hn : nar .boolean x = y) (hg : g.method = m) (hs : g.stack = .int x :: .int j :: .ref a :: rest) (hd : decode c.code g.pc = .ok (.bastore, 1)) :
    ∃ T' h', Stand p l e R s m args below meth c T' (locs ++ [⟨a, j.toNatClampNeg⟩]) cells slots ∧ T'.heap = h' ∧ Wr h h' a j.toNatClampNeg (.int y) ∧ AI Z h' a .boolean z (upA f j y) ∧ ∀ target, Steps p.tables e below (T'.setTop { g with pc := g.pc + 1, stack := rest }) target → Steps p.tables e below (T.setTop g) target := by
  have F' := F
  obtain ⟨cl, A, S, M, H⟩ := F
  obtain ⟨T', h', X', e', W, st⟩ := stZ X hx hZ eT A (inb_of S q) hg hs hd
  rw [hn] at W
  exact ⟨T', h', X', e', W, AI.set F' W q, st⟩
theorem nar_byte (x : Int32) : nar .byte x.toInt8.toInt32 = x.toInt8.toInt32 := by
  show x.toInt8.toInt32.toInt8.toInt32 = x.toInt8.toInt32
  rw [Int8.toInt8_toInt32]
end Arrays
end Jvm.OwnKit
namespace Jvm.Pilot.@@N@@
open Jvm Jvm.ClassFile Sem Op Lib Jvm.Free Jvm.Stand Jvm.LawKit Jvm.RoadKit Jvm.OwnKit Bundle Jvm.Pilot.@@N@@.Jvm.D
def own_ix (i : Int32) : Int32 := ((i.toUInt32 >>> ((6 : Int32) &&& 31).toUInt32).toInt32)
def own_bit (i : Int32) : Int64 := ((1 : Int64) <<< (i &&& 0x3f).toInt64)
def own_nw (i : Int32) : Int32 := (((i + (63 : Int32)).toUInt32 >>> ((6 : Int32) &&& 31).toUInt32).toInt32)
theorem own_shr6 (x : Int32) : (own_ix x).toInt = (x.toInt % 4294967296) / 64 := c_iushr x 6 6 (by decide) (by decide)
theorem own_nwv (p : Int32) (h0 : 0 ≤ p.toInt) (h1 : p.toInt ≤ 16384) : (own_nw p).toInt = (p.toInt + 63) / 64 := by
  have a := c_iadd p 63
  have b := rng32 (p + 63)
  have l : (63 : Int32).toInt = 63 := by decide
  have c : (own_nw p).toInt = ((p + 63).toInt % 4294967296) / 64 := own_shr6 (p + 63)
  omega
theorem own_capn (z : Int32) (h0 : 0 ≤ z.toInt) : ¬ z < 0 := by
  rw [Int32.lt_iff_toInt_lt]
  have l : (0 : Int32).toInt = 0 := by decide
  omega
theorem own_capc (z : Int32) (n : Nat) (h0 : 0 ≤ z.toInt) (h1 : z.toInt ≤ n) : z.toNatClampNeg ≤ n := by
  have := nat_of (own_capn z h0)
  omega
def IS0 (Z : State) (h : Heap) (n0 : Nat) (ob : Addr) (c0 : Int32) : Prop := Exa Z h ob "com/example/cutline/cutline/IndexSet" ∧ Fld Z h ob "com/example/cutline/cutline/IndexSet" "capacity" "I" (.int c0) ∧ Fld Z h ob "com/example/cutline/cutline/IndexSet" "words" "[J" .null ∧ Fld Z h ob "com/example/cutline/cutline/IndexSet" "summary" "[J" .null ∧ Fld Z h ob "com/example/cutline/cutline/IndexSet" "size" "I" (.int (0 : Int32)) ∧ n0 ≤ ob ∧ n0 ≤ h.size
def IS (Z : State) (h : Heap) (n0 : Nat) (ob : Addr) (aw : Addr) (au : Addr) (cap : Int32) (sz : Int32) (nw : Int32) (w : Int32 → Int64) (nu : Int32) (u : Int32 → Int64) : Prop := Exa Z h ob "com/example/cutline/cutline/IndexSet" ∧ Fld Z h ob "com/example/cutline/cutline/IndexSet" "capacity" "I" (.int cap) ∧ Fld Z h ob "com/example/cutline/cutline/IndexSet" "words" "[J" (.ref aw) ∧ Fld Z h ob "com/example/cutline/cutline/IndexSet" "summary" "[J" (.ref au) ∧ Fld Z h ob "com/example/cutline/cutline/IndexSet" "size" "I" (.int sz) ∧ AJ Z h aw nw w ∧ AJ Z h au nu u ∧ n0 ≤ ob ∧ n0 ≤ aw ∧ n0 ≤ au ∧ ob ≠ aw ∧ ob ≠ au ∧ aw ≠ au ∧ n0 ≤ h.size
theorem d1_0 : decode prog_16_method_1_code 0 = .ok (.aload_n 0, 1) := by decide +kernel
theorem d1_1 : decode prog_16_method_1_code 1 = .ok (.invokespecial 1, 3) := by decide +kernel
theorem d1_4 : decode prog_16_method_1_code 4 = .ok (.aload_n 0, 1) := by decide +kernel
theorem d1_5 : decode prog_16_method_1_code 5 = .ok (.iload_n 1, 1) := by decide +kernel
theorem d1_6 : decode prog_16_method_1_code 6 = .ok (.putfield 7, 3) := by decide +kernel
theorem d1_9 : decode prog_16_method_1_code 9 = .ok (.aload_n 0, 1) := by decide +kernel
theorem d1_10 : decode prog_16_method_1_code 10 = .ok (.iload_n 1, 1) := by decide +kernel
theorem d1_11 : decode prog_16_method_1_code 11 = .ok (.bipush 63, 2) := by decide +kernel
theorem d1_13 : decode prog_16_method_1_code 13 = .ok (.iadd, 1) := by decide +kernel
theorem d1_14 : decode prog_16_method_1_code 14 = .ok (.bipush 6, 2) := by decide +kernel
theorem d1_16 : decode prog_16_method_1_code 16 = .ok (.iushr, 1) := by decide +kernel
theorem d1_17 : decode prog_16_method_1_code 17 = .ok (.newarray .long, 2) := by decide +kernel
theorem d1_19 : decode prog_16_method_1_code 19 = .ok (.putfield 13, 3) := by decide +kernel
theorem d1_22 : decode prog_16_method_1_code 22 = .ok (.aload_n 0, 1) := by decide +kernel
theorem d1_23 : decode prog_16_method_1_code 23 = .ok (.aload_n 0, 1) := by decide +kernel
theorem d1_24 : decode prog_16_method_1_code 24 = .ok (.getfield 13, 3) := by decide +kernel
theorem d1_27 : decode prog_16_method_1_code 27 = .ok (.arraylength, 1) := by decide +kernel
theorem d1_28 : decode prog_16_method_1_code 28 = .ok (.bipush 63, 2) := by decide +kernel
theorem d1_30 : decode prog_16_method_1_code 30 = .ok (.iadd, 1) := by decide +kernel
theorem d1_31 : decode prog_16_method_1_code 31 = .ok (.bipush 6, 2) := by decide +kernel
theorem d1_33 : decode prog_16_method_1_code 33 = .ok (.iushr, 1) := by decide +kernel
theorem d1_34 : decode prog_16_method_1_code 34 = .ok (.newarray .long, 2) := by decide +kernel
theorem d1_36 : decode prog_16_method_1_code 36 = .ok (.putfield 17, 3) := by decide +kernel
theorem d1_39 : decode prog_16_method_1_code 39 = .ok (.return_, 1) := by decide +kernel
theorem pn_1 : plainName "com/example/cutline/cutline/IndexSet" = true := by first | (simp [plainName, overriddenIn]; done) | decide +kernel
theorem ef_1 (m : MethodId) (x0 : Addr) (x1 : Int32) : entryFrame m #[(.ref x0), (.int x1)] 2 = mkF m 0 #[.val (.ref x0), .val (.int x1)] [] := by first | (simp [entryFrame, mkF, argsToLocals, Value.category]; done) | rfl
def Q1 (Z : State) (ob : Addr) (p0 : Int32) (c0 : Int32) (h0 : Heap) (n0 : Nat) (v : Option Value) (h : Heap) (L : List Loc) : Prop := v = none ∧ Fr n0 L ∧ ∃ aw au : Addr, IS Z h n0 ob aw au p0 0 (own_nw p0) (fun _ => 0) (own_nw (own_nw p0)) (fun _ => 0)
set_option maxRecDepth 65536 in
set_option maxHeartbeats 40000000 in
theorem rm1 (l : Launch) (Z : State) (a0 : Array Value) (hw : ∀ d ∈ tables_1, d.before a0 Z = true) (ws : List Jvm.Cond) (ob : Addr) (p0 : Int32) (c0 : Int32) (h0 : Heap) (n0 : Nat) (Z0 : n0 ≤ h0.size) (I0 : IS0 Z h0 n0 ob c0) (hp0 : 0 ≤ p0.toInt) (hp1 : p0.toInt ≤ 16384) :
    MetFree l (⟨"com/example/cutline/cutline/IndexSet", "<init>", "(I)V"⟩ : MethodName) (head1 (Jvm.Cond.code (⟨"com/example/cutline/cutline/IndexSet", "<init>", "(I)V"⟩ : MethodName) prog_16_method_1_code 2 none :: ws) ({ frames := 1, cells := 2, slots := 260, locals := 12 } : Room)) (fun a U => a = #[(.ref ob), (.int p0)] ∧ Z.Warmed39 U.vm ∧ U.heap = h0) (fun _ _ _ _ _ => True) (fun _ U o U' => ∃ v L, o = .returned v ∧ Q1 Z ob p0 c0 h0 n0 v U'.heap L ∧ FrameEnd U o U' L ({ frames := 1, cells := 2, slots := 260, locals := 12 } : Room).cells ({ frames := 1, cells := 2, slots := 260, locals := 12 } : Room).slots) := by
  refine MetFree.of_bodySF (plainFor_of_name pn_1) hisR ?_
  intro p e s m args below meth c s₁ Bd hml0 hP hK
  obtain ⟨rfl, hZ, hh⟩ := hP
  have hx := Bd.exec
  have hby := Bd.bytes
  have hml : c.maxLocals = 2 := hml0
  have hown : s.vm.findClass "com/example/cutline/cutline/IndexSet" = some m.cls := findClass_of_methodNamed Bd.named
  have hnm := (name_of_methodNamed Bd.named Bd.method).1
  have X0 : Stand p l e ({ frames := 1, cells := 2, slots := 260, locals := 12 } : Room) s m #[(.ref ob), (.int p0)] below meth c s₁ [] 0 0 := Stand.of_body Bd
  have e0 : s₁.heap = h0 := by rw [← hh, Bd.state]; rfl
  have N0 := Fr.nil n0
  have pre0 : ∀ t, Steps p.tables e below (s₁.setTop (mkF m 0 #[.val (.ref ob), .val (.int p0)] [])) t → Steps p.tables e below (s₁.setTop (entryFrame m #[(.ref ob), (.int p0)] 2)) t := fun t k => castTop (ef_1 m ob p0) k
  obtain ⟨k1_0, k1_1, k1_2, k1_3, k1_4, k1_g_ob, k1_sz⟩ := I0
  obtain ⟨T2, X2, e2, st2⟩ := initO X0 hx hZ hown (hw _ (List.mem_of_getElem? (i := 7) rfl)) (hw _ (List.mem_of_getElem? (i := 8) rfl)) (hw _ (List.mem_of_getElem? (i := 9) rfl)) e0 (g := (mkF m 1 #[.val (.ref ob), .val (.int p0)] [(.ref ob)])) rfl (by rw [hml]; rfl) rfl (hb hby d1_1) (by decide) (W := 0) (by show 2 * 0 + _ ≤ _; exact Nat.le_of_eq rfl) (by decide)
  obtain ⟨T3, h3, X3, e3, W3, st3⟩ := putF X2 hx hZ hown (host := "") (Or.inl (hw _ (List.mem_of_getElem? (i := 10) rfl))) Via.refl e2 k1_1 k1_0 (Or.inr ⟨(hw _ (List.mem_of_getElem? (i := 11) rfl)), rfl, hnm⟩) (hw _ (List.mem_of_getElem? (i := 2) rfl)) (ty := .int) (by decide) rfl rfl (g := (mkF m 6 #[.val (.ref ob), .val (.int p0)] [(.int p0), (.ref ob)])) rfl rfl (hb hby d1_6)
  have f4 := (k1_2.other W3 (Or.inr (slot_ne (Or.inr (hw _ (List.mem_of_getElem? (i := 14) rfl))) (Or.inr (hw _ (List.mem_of_getElem? (i := 11) rfl))) (by decide) (t := (.array .long)) (t' := .int) (by decide) (by decide))))
  have f5 := (k1_3.other W3 (Or.inr (slot_ne (Or.inr (hw _ (List.mem_of_getElem? (i := 16) rfl))) (Or.inr (hw _ (List.mem_of_getElem? (i := 11) rfl))) (by decide) (t := (.array .long)) (t' := .int) (by decide) (by decide))))
  have f6 := (k1_4.other W3 (Or.inr (slot_ne (Or.inl (hw _ (List.mem_of_getElem? (i := 28) rfl))) (Or.inr (hw _ (List.mem_of_getElem? (i := 11) rfl))) (by decide) (t := .int) (t' := .int) (by decide) (by decide))))
  have Z3 : n0 ≤ h3.size := Nat.le_trans Z0 (Keep.of_wr W3).1
  have N3 := Fr.snoc X3 N0 k1_g_ob
  obtain ⟨T7, h7, k7, X7, e7, E7, A7, st7⟩ := newP X3 hx hZ (hw _ (List.mem_of_getElem? (i := 12) rfl)) e3 (g := (mkF m 17 #[.val (.ref ob), .val (.int p0)] [(.int (own_nw p0)), (.ref ob)])) rfl (hb hby d1_17) rfl (own_capn _ (by have := own_nwv p0 hp0 hp1; omega)) (cap := 256) (own_capc _ 256 (by have := own_nwv p0 hp0 hp1; omega) (by have := own_nwv p0 hp0 hp1; omega)) (by decide) (by decide) (by decide)
  obtain ⟨b7, g7⟩ : ∃ z, z = h3.size := ⟨_, rfl⟩
  rw [← g7] at A7 st7
  have ne_ob_b7 : ob ≠ b7 := Nat.ne_of_lt (Nat.lt_of_lt_of_le (k1_0.wr W3).lt (Nat.le_of_eq g7.symm))
  have ge_b7 : n0 ≤ b7 := Nat.le_trans Z3 (Nat.le_of_eq g7.symm)
  have Z7 : n0 ≤ h7.size := Nat.le_trans Z3 E7.1
  have V7 := AJ.new A7 (own_capn _ (by have := own_nwv p0 hp0 hp1; omega))
  obtain ⟨T8, h8, X8, e8, W8, st8⟩ := putF X7 hx hZ hown (host := "") (Or.inl (hw _ (List.mem_of_getElem? (i := 13) rfl))) Via.refl e7 (f4.ext E7) ((k1_0.wr W3).ext E7) (Or.inr ⟨(hw _ (List.mem_of_getElem? (i := 14) rfl)), rfl, hnm⟩) (hw _ (List.mem_of_getElem? (i := 2) rfl)) (ty := (.array .long)) (by decide) rfl rfl (g := (mkF m 19 #[.val (.ref ob), .val (.int p0)] [(.ref b7), (.ref ob)])) rfl rfl (hb hby d1_19)
  have f9 := (((k1_1.same W3).ext E7).other W8 (Or.inr (slot_ne (Or.inr (hw _ (List.mem_of_getElem? (i := 11) rfl))) (Or.inr (hw _ (List.mem_of_getElem? (i := 14) rfl))) (by decide) (t := .int) (t' := (.array .long)) (by decide) (by decide))))
  have f10 := ((f5.ext E7).other W8 (Or.inr (slot_ne (Or.inr (hw _ (List.mem_of_getElem? (i := 16) rfl))) (Or.inr (hw _ (List.mem_of_getElem? (i := 14) rfl))) (by decide) (t := (.array .long)) (t' := (.array .long)) (by decide) (by decide))))
  have f11 := ((f6.ext E7).other W8 (Or.inr (slot_ne (Or.inl (hw _ (List.mem_of_getElem? (i := 28) rfl))) (Or.inr (hw _ (List.mem_of_getElem? (i := 14) rfl))) (by decide) (t := .int) (t' := (.array .long)) (by decide) (by decide))))
  have Z8 : n0 ≤ h8.size := Nat.le_trans Z7 (Keep.of_wr W8).1
  have N8 := Fr.snoc X8 N3 k1_g_ob
  obtain ⟨T12, X12, e12, st12⟩ := getF X8 hx hZ hown (host := "") (Or.inl (hw _ (List.mem_of_getElem? (i := 13) rfl))) Via.refl e8 ((f4.ext E7).same W8) (g := (mkF m 24 #[.val (.ref ob), .val (.int p0)] [(.ref ob), (.ref ob)])) rfl rfl (hb hby d1_24)
  obtain ⟨T13, h13, k13, X13, e13, E13, A13, st13⟩ := newP X12 hx hZ (hw _ (List.mem_of_getElem? (i := 12) rfl)) e12 (g := (mkF m 34 #[.val (.ref ob), .val (.int p0)] [(.int (own_nw (own_nw p0))), (.ref ob)])) rfl (hb hby d1_34) rfl (own_capn _ (by have a := own_nwv p0 hp0 hp1; have b := own_nwv (own_nw p0) (by omega) (by omega); omega)) (cap := 4) (own_capc _ 4 (by have a := own_nwv p0 hp0 hp1; have b := own_nwv (own_nw p0) (by omega) (by omega); omega) (by have a := own_nwv p0 hp0 hp1; have b := own_nwv (own_nw p0) (by omega) (by omega); omega)) (by decide) (by decide) (by decide)
  obtain ⟨b13, g13⟩ : ∃ z, z = h8.size := ⟨_, rfl⟩
  rw [← g13] at A13 st13
  have ne_ob_b13 : ob ≠ b13 := Nat.ne_of_lt (Nat.lt_of_lt_of_le (((k1_0.wr W3).ext E7).wr W8).lt (Nat.le_of_eq g13.symm))
  have ne_b7_b13 : b7 ≠ b13 := Nat.ne_of_lt (Nat.lt_of_lt_of_le (V7.other W8 (Ne.symm ne_ob_b7)).lt (Nat.le_of_eq g13.symm))
  have ge_b13 : n0 ≤ b13 := Nat.le_trans Z8 (Nat.le_of_eq g13.symm)
  have Z13 : n0 ≤ h13.size := Nat.le_trans Z8 E13.1
  have V13 := AJ.new A13 (own_capn _ (by have a := own_nwv p0 hp0 hp1; have b := own_nwv (own_nw p0) (by omega) (by omega); omega))
  obtain ⟨T14, h14, X14, e14, W14, st14⟩ := putF X13 hx hZ hown (host := "") (Or.inl (hw _ (List.mem_of_getElem? (i := 15) rfl))) Via.refl e13 (f10.ext E13) ((((k1_0.wr W3).ext E7).wr W8).ext E13) (Or.inr ⟨(hw _ (List.mem_of_getElem? (i := 16) rfl)), rfl, hnm⟩) (hw _ (List.mem_of_getElem? (i := 2) rfl)) (ty := (.array .long)) (by decide) rfl rfl (g := (mkF m 36 #[.val (.ref ob), .val (.int p0)] [(.ref b13), (.ref ob)])) rfl rfl (hb hby d1_36)
  have f15 := ((f9.ext E13).other W14 (Or.inr (slot_ne (Or.inr (hw _ (List.mem_of_getElem? (i := 11) rfl))) (Or.inr (hw _ (List.mem_of_getElem? (i := 16) rfl))) (by decide) (t := .int) (t' := (.array .long)) (by decide) (by decide))))
  have f16 := ((((f4.ext E7).same W8).ext E13).other W14 (Or.inr (slot_ne (Or.inr (hw _ (List.mem_of_getElem? (i := 14) rfl))) (Or.inr (hw _ (List.mem_of_getElem? (i := 16) rfl))) (by decide) (t := (.array .long)) (t' := (.array .long)) (by decide) (by decide))))
  have f17 := ((f11.ext E13).other W14 (Or.inr (slot_ne (Or.inl (hw _ (List.mem_of_getElem? (i := 28) rfl))) (Or.inr (hw _ (List.mem_of_getElem? (i := 16) rfl))) (by decide) (t := .int) (t' := (.array .long)) (by decide) (by decide))))
  have Z14 : n0 ≤ h14.size := Nat.le_trans Z13 (Keep.of_wr W14).1
  have N14 := Fr.snoc X14 N8 k1_g_ob
  have pre18 : ∀ t, Steps p.tables e below (T14.setTop (mkF m 39 #[.val (.ref ob), .val (.int p0)] [])) t → Steps p.tables e below (s₁.setTop (entryFrame m #[(.ref ob), (.int p0)] 2)) t := by
    intro t k
    refine pre0 t ?_
    show Steps p.tables e below (s₁.setTop (mkF m 0 #[.val (.ref ob), .val (.int p0)] [])) _
    refine XS.aloadN X0.here hx rfl (hb hby d1_0) rfl rfl ?_
    show Steps p.tables e below (s₁.setTop (mkF m 1 #[.val (.ref ob), .val (.int p0)] [(.ref ob)])) _
    refine st2 _ ?_
    show Steps p.tables e below (T2.setTop (mkF m 4 #[.val (.ref ob), .val (.int p0)] [])) _
    refine XS.aloadN X2.here hx rfl (hb hby d1_4) rfl rfl ?_
    show Steps p.tables e below (T2.setTop (mkF m 5 #[.val (.ref ob), .val (.int p0)] [(.ref ob)])) _
    refine XS.iloadN X2.here hx rfl (hb hby d1_5) rfl ?_
    show Steps p.tables e below (T2.setTop (mkF m 6 #[.val (.ref ob), .val (.int p0)] [(.int p0), (.ref ob)])) _
    refine st3 _ ?_
    show Steps p.tables e below (T3.setTop (mkF m 9 #[.val (.ref ob), .val (.int p0)] [])) _
    refine XS.aloadN X3.here hx rfl (hb hby d1_9) rfl rfl ?_
    show Steps p.tables e below (T3.setTop (mkF m 10 #[.val (.ref ob), .val (.int p0)] [(.ref ob)])) _
    refine XS.iloadN X3.here hx rfl (hb hby d1_10) rfl ?_
    show Steps p.tables e below (T3.setTop (mkF m 11 #[.val (.ref ob), .val (.int p0)] [(.int p0), (.ref ob)])) _
    refine XS.bipush X3.here hx rfl (hb hby d1_11) ?_
    show Steps p.tables e below (T3.setTop (mkF m 13 #[.val (.ref ob), .val (.int p0)] [(.int (63 : Int32)), (.int p0), (.ref ob)])) _
    refine XS.iadd X3.here hx rfl (hb hby d1_13) rfl ?_
    show Steps p.tables e below (T3.setTop (mkF m 14 #[.val (.ref ob), .val (.int p0)] [(.int (p0 + (63 : Int32))), (.ref ob)])) _
    refine XS.bipush X3.here hx rfl (hb hby d1_14) ?_
    show Steps p.tables e below (T3.setTop (mkF m 16 #[.val (.ref ob), .val (.int p0)] [(.int (6 : Int32)), (.int (p0 + (63 : Int32))), (.ref ob)])) _
    refine XS.iushr X3.here hx rfl (hb hby d1_16) rfl ?_
    show Steps p.tables e below (T3.setTop (mkF m 17 #[.val (.ref ob), .val (.int p0)] [(.int (own_nw p0)), (.ref ob)])) _
    refine st7 _ ?_
    show Steps p.tables e below (T7.setTop (mkF m 19 #[.val (.ref ob), .val (.int p0)] [(.ref b7), (.ref ob)])) _
    refine st8 _ ?_
    show Steps p.tables e below (T8.setTop (mkF m 22 #[.val (.ref ob), .val (.int p0)] [])) _
    refine XS.aloadN X8.here hx rfl (hb hby d1_22) rfl rfl ?_
    show Steps p.tables e below (T8.setTop (mkF m 23 #[.val (.ref ob), .val (.int p0)] [(.ref ob)])) _
    refine XS.aloadN X8.here hx rfl (hb hby d1_23) rfl rfl ?_
    show Steps p.tables e below (T8.setTop (mkF m 24 #[.val (.ref ob), .val (.int p0)] [(.ref ob), (.ref ob)])) _
    refine st12 _ ?_
    show Steps p.tables e below (T12.setTop (mkF m 27 #[.val (.ref ob), .val (.int p0)] [(.ref b7), (.ref ob)])) _
    refine lnG X12 hx hZ e12 (V7.other W8 (Ne.symm ne_ob_b7)) (g := (mkF m 27 #[.val (.ref ob), .val (.int p0)] [(.ref b7), (.ref ob)])) rfl rfl (hb hby d1_27) _ ?_
    show Steps p.tables e below (T12.setTop (mkF m 28 #[.val (.ref ob), .val (.int p0)] [(.int (own_nw p0)), (.ref ob)])) _
    refine XS.bipush X12.here hx rfl (hb hby d1_28) ?_
    show Steps p.tables e below (T12.setTop (mkF m 30 #[.val (.ref ob), .val (.int p0)] [(.int (63 : Int32)), (.int (own_nw p0)), (.ref ob)])) _
    refine XS.iadd X12.here hx rfl (hb hby d1_30) rfl ?_
    show Steps p.tables e below (T12.setTop (mkF m 31 #[.val (.ref ob), .val (.int p0)] [(.int ((own_nw p0) + (63 : Int32))), (.ref ob)])) _
    refine XS.bipush X12.here hx rfl (hb hby d1_31) ?_
    show Steps p.tables e below (T12.setTop (mkF m 33 #[.val (.ref ob), .val (.int p0)] [(.int (6 : Int32)), (.int ((own_nw p0) + (63 : Int32))), (.ref ob)])) _
    refine XS.iushr X12.here hx rfl (hb hby d1_33) rfl ?_
    show Steps p.tables e below (T12.setTop (mkF m 34 #[.val (.ref ob), .val (.int p0)] [(.int (own_nw (own_nw p0))), (.ref ob)])) _
    refine st13 _ ?_
    show Steps p.tables e below (T13.setTop (mkF m 36 #[.val (.ref ob), .val (.int p0)] [(.ref b13), (.ref ob)])) _
    refine st14 _ ?_
    exact k
  obtain ⟨fs, hr, hrun, hended, hW, hsame⟩ := X14.leave (v := none) (fun _ => rfl) (BodyLoose.notSynchronized Bd)
  refine ⟨_, _, pre18 _ ?_, hrun, hended, _, _, rfl, ?_, ⟨_, rfl⟩, hW, hsame.mono (by decide) (by decide)⟩
  · show Steps p.tables e below (T14.setTop (mkF m 39 #[.val (.ref ob), .val (.int p0)] [])) _
    exact X14.returnOut hx Bd.returns (hb hby d1_39) hr
  · show Q1 Z ob p0 c0 h0 n0 _ T14.heap _
    rw [e14]
    exact ⟨rfl, N14, ⟨b7, b13, ⟨(((((k1_0.wr W3).ext E7).wr W8).ext E13).wr W14), f15, f16, ((f10.ext E13).same W14), f17, (((V7.other W8 (Ne.symm ne_ob_b7)).ext E13).other W14 (Ne.symm ne_ob_b7)), (V13.other W14 (Ne.symm ne_ob_b13)), k1_g_ob, ge_b7, ge_b13, ne_ob_b7, ne_ob_b13, ne_b7_b13, Z14⟩⟩⟩
theorem d7_0 : decode prog_16_method_4_code 0 = .ok (.iload_n 1, 1) := by decide +kernel
theorem d7_1 : decode prog_16_method_4_code 1 = .ok (.bipush 6, 2) := by decide +kernel
theorem d7_3 : decode prog_16_method_4_code 3 = .ok (.iushr, 1) := by decide +kernel
theorem d7_4 : decode prog_16_method_4_code 4 = .ok (.istore_n 2, 1) := by decide +kernel
theorem d7_5 : decode prog_16_method_4_code 5 = .ok (.lconst 1, 1) := by decide +kernel
theorem d7_6 : decode prog_16_method_4_code 6 = .ok (.iload_n 1, 1) := by decide +kernel
theorem d7_7 : decode prog_16_method_4_code 7 = .ok (.lshl, 1) := by decide +kernel
theorem d7_8 : decode prog_16_method_4_code 8 = .ok (.lstore_n 3, 1) := by decide +kernel
theorem d7_9 : decode prog_16_method_4_code 9 = .ok (.aload_n 0, 1) := by decide +kernel
theorem d7_10 : decode prog_16_method_4_code 10 = .ok (.getfield 13, 3) := by decide +kernel
theorem d7_13 : decode prog_16_method_4_code 13 = .ok (.iload_n 2, 1) := by decide +kernel
theorem d7_14 : decode prog_16_method_4_code 14 = .ok (.laload, 1) := by decide +kernel
theorem d7_15 : decode prog_16_method_4_code 15 = .ok (.lload_n 3, 1) := by decide +kernel
theorem d7_16 : decode prog_16_method_4_code 16 = .ok (.land, 1) := by decide +kernel
theorem d7_17 : decode prog_16_method_4_code 17 = .ok (.lconst 0, 1) := by decide +kernel
theorem d7_18 : decode prog_16_method_4_code 18 = .ok (.lcmp, 1) := by decide +kernel
theorem d7_19 : decode prog_16_method_4_code 19 = .ok (.ifCond .eq 5, 3) := by decide +kernel
theorem d7_22 : decode prog_16_method_4_code 22 = .ok (.iconst 0, 1) := by decide +kernel
theorem d7_23 : decode prog_16_method_4_code 23 = .ok (.ireturn, 1) := by decide +kernel
theorem d7_24 : decode prog_16_method_4_code 24 = .ok (.aload_n 0, 1) := by decide +kernel
theorem d7_25 : decode prog_16_method_4_code 25 = .ok (.getfield 13, 3) := by decide +kernel
theorem d7_28 : decode prog_16_method_4_code 28 = .ok (.iload_n 2, 1) := by decide +kernel
theorem d7_29 : decode prog_16_method_4_code 29 = .ok (.dup2, 1) := by decide +kernel
theorem d7_30 : decode prog_16_method_4_code 30 = .ok (.laload, 1) := by decide +kernel
theorem d7_31 : decode prog_16_method_4_code 31 = .ok (.lload_n 3, 1) := by decide +kernel
theorem d7_32 : decode prog_16_method_4_code 32 = .ok (.lor, 1) := by decide +kernel
theorem d7_33 : decode prog_16_method_4_code 33 = .ok (.lastore, 1) := by decide +kernel
theorem d7_34 : decode prog_16_method_4_code 34 = .ok (.aload_n 0, 1) := by decide +kernel
theorem d7_35 : decode prog_16_method_4_code 35 = .ok (.getfield 17, 3) := by decide +kernel
theorem d7_38 : decode prog_16_method_4_code 38 = .ok (.iload_n 2, 1) := by decide +kernel
theorem d7_39 : decode prog_16_method_4_code 39 = .ok (.bipush 6, 2) := by decide +kernel
theorem d7_41 : decode prog_16_method_4_code 41 = .ok (.iushr, 1) := by decide +kernel
theorem d7_42 : decode prog_16_method_4_code 42 = .ok (.dup2, 1) := by decide +kernel
theorem d7_43 : decode prog_16_method_4_code 43 = .ok (.laload, 1) := by decide +kernel
theorem d7_44 : decode prog_16_method_4_code 44 = .ok (.lconst 1, 1) := by decide +kernel
theorem d7_45 : decode prog_16_method_4_code 45 = .ok (.iload_n 2, 1) := by decide +kernel
theorem d7_46 : decode prog_16_method_4_code 46 = .ok (.lshl, 1) := by decide +kernel
theorem d7_47 : decode prog_16_method_4_code 47 = .ok (.lor, 1) := by decide +kernel
theorem d7_48 : decode prog_16_method_4_code 48 = .ok (.lastore, 1) := by decide +kernel
theorem d7_49 : decode prog_16_method_4_code 49 = .ok (.aload_n 0, 1) := by decide +kernel
theorem d7_50 : decode prog_16_method_4_code 50 = .ok (.dup, 1) := by decide +kernel
theorem d7_51 : decode prog_16_method_4_code 51 = .ok (.getfield 20, 3) := by decide +kernel
theorem d7_54 : decode prog_16_method_4_code 54 = .ok (.iconst 1, 1) := by decide +kernel
theorem d7_55 : decode prog_16_method_4_code 55 = .ok (.iadd, 1) := by decide +kernel
theorem d7_56 : decode prog_16_method_4_code 56 = .ok (.putfield 20, 3) := by decide +kernel
theorem d7_59 : decode prog_16_method_4_code 59 = .ok (.iconst 1, 1) := by decide +kernel
theorem d7_60 : decode prog_16_method_4_code 60 = .ok (.ireturn, 1) := by decide +kernel
theorem ef_7 (m : MethodId) (x0 : Addr) (x1 : Int32) : entryFrame m #[(.ref x0), (.int x1)] 5 = mkF m 0 #[.val (.ref x0), .val (.int x1), .unset, .unset, .unset] [] := by first | (simp [entryFrame, mkF, argsToLocals, Value.category]; done) | rfl
def Fadd (i : Int32) (w : Int32 → Int64) : Bool := (if ((w (own_ix i)) &&& (own_bit i)) = (0 : Int64) then true else false)
def Fadd_sz (i : Int32) (sz : Int32) (w : Int32 → Int64) : Int32 := (if ((w (own_ix i)) &&& (own_bit i)) = (0 : Int64) then (sz + (1 : Int32)) else sz)
def Fadd_w (i : Int32) (w : Int32 → Int64) : Int32 → Int64 := (if ((w (own_ix i)) &&& (own_bit i)) = (0 : Int64) then (@upA Int64 w (own_ix i) ((w (own_ix i)) ||| (own_bit i))) else w)
def Fadd_u (i : Int32) (w : Int32 → Int64) (u : Int32 → Int64) : Int32 → Int64 := (if ((w (own_ix i)) &&& (own_bit i)) = (0 : Int64) then (@upA Int64 u (own_ix (own_ix i)) ((u (own_ix (own_ix i))) ||| (own_bit (own_ix i)))) else u)
def Q7 (Z : State) (ob : Addr) (i : Int32) (aw : Addr) (au : Addr) (cap : Int32) (sz : Int32) (nw : Int32) (w : Int32 → Int64) (nu : Int32) (u : Int32 → Int64) (h0 : Heap) (n0 : Nat) (v : Option Value) (h : Heap) (L : List Loc) : Prop := v = some (.int (b2i (Fadd i w))) ∧ Fr n0 L ∧ IS Z h n0 ob aw au cap (Fadd_sz i sz w) nw (Fadd_w i w) nu (Fadd_u i w u)
set_option maxRecDepth 65536 in
set_option maxHeartbeats 40000000 in
theorem rm7 (l : Launch) (Z : State) (a0 : Array Value) (hw : ∀ d ∈ tables_1, d.before a0 Z = true) (ws : List Jvm.Cond) (ob : Addr) (i : Int32) (aw : Addr) (au : Addr) (cap : Int32) (sz : Int32) (nw : Int32) (w : Int32 → Int64) (nu : Int32) (u : Int32 → Int64) (h0 : Heap) (n0 : Nat) (Z0 : n0 ≤ h0.size) (I0 : IS Z h0 n0 ob aw au cap sz nw w nu u) (hi : ¬ (own_ix i) < 0 ∧ (own_ix i) < nw) (hj : ¬ (own_ix (own_ix i)) < 0 ∧ (own_ix (own_ix i)) < nu) :
    MetFree l (⟨"com/example/cutline/cutline/IndexSet", "add", "(I)Z"⟩ : MethodName) (head1 (Jvm.Cond.code (⟨"com/example/cutline/cutline/IndexSet", "add", "(I)Z"⟩ : MethodName) prog_16_method_4_code 5 (some .boolean) :: ws) ({ frames := 0, cells := 0, slots := 0, locals := 0 } : Room)) (fun a U => a = #[(.ref ob), (.int i)] ∧ Z.Warmed39 U.vm ∧ U.heap = h0) (fun _ _ _ _ _ => True) (fun _ U o U' => ∃ v L, o = .returned v ∧ Q7 Z ob i aw au cap sz nw w nu u h0 n0 v U'.heap L ∧ FrameEnd U o U' L ({ frames := 0, cells := 0, slots := 0, locals := 0 } : Room).cells ({ frames := 0, cells := 0, slots := 0, locals := 0 } : Room).slots) := by
  refine MetFree.of_bodySF (plainFor_of_name pn_1) hisR ?_
  intro p e s m args below meth c s₁ Bd hml0 hP hK
  obtain ⟨rfl, hZ, hh⟩ := hP
  have hx := Bd.exec
  have hby := Bd.bytes
  have hml : c.maxLocals = 5 := hml0
  have hown : s.vm.findClass "com/example/cutline/cutline/IndexSet" = some m.cls := findClass_of_methodNamed Bd.named
  have hnm := (name_of_methodNamed Bd.named Bd.method).1
  have X0 : Stand p l e ({ frames := 0, cells := 0, slots := 0, locals := 0 } : Room) s m #[(.ref ob), (.int i)] below meth c s₁ [] 0 0 := Stand.of_body Bd
  have e0 : s₁.heap = h0 := by rw [← hh, Bd.state]; rfl
  have N0 := Fr.nil n0
  have pre0 : ∀ t, Steps p.tables e below (s₁.setTop (mkF m 0 #[.val (.ref ob), .val (.int i), .unset, .unset, .unset] [])) t → Steps p.tables e below (s₁.setTop (entryFrame m #[(.ref ob), (.int i)] 5)) t := fun t k => castTop (ef_7 m ob i) k
  obtain ⟨k1_0, k1_1, k1_2, k1_3, k1_4, k1_5, k1_6, k1_g_ob, k1_g_aw, k1_g_au, k1_n_ob_aw, k1_n_ob_au, k1_n_aw_au, k1_sz⟩ := I0
  obtain ⟨T2, X2, e2, st2⟩ := getF X0 hx hZ hown (host := "") (Or.inl (hw _ (List.mem_of_getElem? (i := 13) rfl))) Via.refl e0 k1_2 (g := (mkF m 10 #[.val (.ref ob), .val (.int i), .val (.int (own_ix i)), .val (.long (own_bit i)), .second] [(.ref ob)])) rfl rfl (hb hby d7_10)
  have pre3 : ∀ t, Steps p.tables e below (T2.setTop (mkF m 19 #[.val (.ref ob), .val (.int i), .val (.int (own_ix i)), .val (.long (own_bit i)), .second] [(.int (lcmpW ((w (own_ix i)) &&& (own_bit i)) (0 : Int64)))])) t → Steps p.tables e below (s₁.setTop (entryFrame m #[(.ref ob), (.int i)] 5)) t := by
    intro t k
    refine pre0 t ?_
    show Steps p.tables e below (s₁.setTop (mkF m 0 #[.val (.ref ob), .val (.int i), .unset, .unset, .unset] [])) _
    refine XS.iloadN X0.here hx rfl (hb hby d7_0) rfl ?_
    show Steps p.tables e below (s₁.setTop (mkF m 1 #[.val (.ref ob), .val (.int i), .unset, .unset, .unset] [(.int i)])) _
    refine XS.bipush X0.here hx rfl (hb hby d7_1) ?_
    show Steps p.tables e below (s₁.setTop (mkF m 3 #[.val (.ref ob), .val (.int i), .unset, .unset, .unset] [(.int (6 : Int32)), (.int i)])) _
    refine XS.iushr X0.here hx rfl (hb hby d7_3) rfl ?_
    show Steps p.tables e below (s₁.setTop (mkF m 4 #[.val (.ref ob), .val (.int i), .unset, .unset, .unset] [(.int ((i.toUInt32 >>> ((6 : Int32) &&& 31).toUInt32).toInt32))])) _
    refine XS.istoreN X0.here hx rfl (hb hby d7_4) rfl (l' := #[.val (.ref ob), .val (.int i), .val (.int (own_ix i)), .unset, .unset]) rfl ?_
    show Steps p.tables e below (s₁.setTop (mkF m 5 #[.val (.ref ob), .val (.int i), .val (.int (own_ix i)), .unset, .unset] [])) _
    refine XS.lconst X0.here hx rfl (hb hby d7_5) ?_
    show Steps p.tables e below (s₁.setTop (mkF m 6 #[.val (.ref ob), .val (.int i), .val (.int (own_ix i)), .unset, .unset] [(.long (1 : Int64))])) _
    refine XS.iloadN X0.here hx rfl (hb hby d7_6) rfl ?_
    show Steps p.tables e below (s₁.setTop (mkF m 7 #[.val (.ref ob), .val (.int i), .val (.int (own_ix i)), .unset, .unset] [(.int i), (.long (1 : Int64))])) _
    refine XS.lshl X0.here hx rfl (hb hby d7_7) rfl ?_
    show Steps p.tables e below (s₁.setTop (mkF m 8 #[.val (.ref ob), .val (.int i), .val (.int (own_ix i)), .unset, .unset] [(.long ((1 : Int64) <<< (i &&& 0x3f).toInt64))])) _
    refine XS.lstoreN X0.here hx rfl (hb hby d7_8) rfl (l' := #[.val (.ref ob), .val (.int i), .val (.int (own_ix i)), .val (.long (own_bit i)), .second]) rfl ?_
    show Steps p.tables e below (s₁.setTop (mkF m 9 #[.val (.ref ob), .val (.int i), .val (.int (own_ix i)), .val (.long (own_bit i)), .second] [])) _
    refine XS.aloadN X0.here hx rfl (hb hby d7_9) rfl rfl ?_
    show Steps p.tables e below (s₁.setTop (mkF m 10 #[.val (.ref ob), .val (.int i), .val (.int (own_ix i)), .val (.long (own_bit i)), .second] [(.ref ob)])) _
    refine st2 _ ?_
    show Steps p.tables e below (T2.setTop (mkF m 13 #[.val (.ref ob), .val (.int i), .val (.int (own_ix i)), .val (.long (own_bit i)), .second] [(.ref aw)])) _
    refine XS.iloadN X2.here hx rfl (hb hby d7_13) rfl ?_
    show Steps p.tables e below (T2.setTop (mkF m 14 #[.val (.ref ob), .val (.int i), .val (.int (own_ix i)), .val (.long (own_bit i)), .second] [(.int (own_ix i)), (.ref aw)])) _
    refine rdJ X2 hx hZ e2 k1_5 (j := (own_ix i)) hi rfl (g := (mkF m 14 #[.val (.ref ob), .val (.int i), .val (.int (own_ix i)), .val (.long (own_bit i)), .second] [(.int (own_ix i)), (.ref aw)])) rfl rfl (hb hby d7_14) _ ?_
    show Steps p.tables e below (T2.setTop (mkF m 15 #[.val (.ref ob), .val (.int i), .val (.int (own_ix i)), .val (.long (own_bit i)), .second] [(.long (w (own_ix i)))])) _
    refine XS.lloadN X2.here hx rfl (hb hby d7_15) rfl ?_
    show Steps p.tables e below (T2.setTop (mkF m 16 #[.val (.ref ob), .val (.int i), .val (.int (own_ix i)), .val (.long (own_bit i)), .second] [(.long (own_bit i)), (.long (w (own_ix i)))])) _
    refine XS.land X2.here hx rfl (hb hby d7_16) rfl ?_
    show Steps p.tables e below (T2.setTop (mkF m 17 #[.val (.ref ob), .val (.int i), .val (.int (own_ix i)), .val (.long (own_bit i)), .second] [(.long ((w (own_ix i)) &&& (own_bit i)))])) _
    refine XS.lconst X2.here hx rfl (hb hby d7_17) ?_
    show Steps p.tables e below (T2.setTop (mkF m 18 #[.val (.ref ob), .val (.int i), .val (.int (own_ix i)), .val (.long (own_bit i)), .second] [(.long (0 : Int64)), (.long ((w (own_ix i)) &&& (own_bit i)))])) _
    refine XS.lcmp X2.here hx rfl (hb hby d7_18) rfl ?_
    exact k
  by_cases hc4 : ((w (own_ix i)) &&& (own_bit i)) = (0 : Int64)
  ·
    obtain ⟨T5, X5, e5, st5⟩ := getF X2 hx hZ hown (host := "") (Or.inl (hw _ (List.mem_of_getElem? (i := 13) rfl))) Via.refl e2 k1_2 (g := (mkF m 25 #[.val (.ref ob), .val (.int i), .val (.int (own_ix i)), .val (.long (own_bit i)), .second] [(.ref ob)])) rfl rfl (hb hby d7_25)
    obtain ⟨T6, h6, X6, e6, W6, V6, st6⟩ := wrJ X5 hx hZ e5 k1_5 (j := (own_ix i)) hi  (g := (mkF m 33 #[.val (.ref ob), .val (.int i), .val (.int (own_ix i)), .val (.long (own_bit i)), .second] [(.long ((w (own_ix i)) ||| (own_bit i))), (.int (own_ix i)), (.ref aw)])) rfl rfl (hb hby d7_33)
    have Z6 : n0 ≤ h6.size := Nat.le_trans Z0 (Keep.of_wr W6).1
    have N6 := Fr.snoc X6 N0 k1_g_aw
    obtain ⟨T7, X7, e7, st7⟩ := getF X6 hx hZ hown (host := "") (Or.inl (hw _ (List.mem_of_getElem? (i := 15) rfl))) Via.refl e6 (k1_3.other W6 (Or.inl k1_n_ob_aw)) (g := (mkF m 35 #[.val (.ref ob), .val (.int i), .val (.int (own_ix i)), .val (.long (own_bit i)), .second] [(.ref ob)])) rfl rfl (hb hby d7_35)
    obtain ⟨T8, h8, X8, e8, W8, V8, st8⟩ := wrJ X7 hx hZ e7 (k1_6.other W6 (Ne.symm k1_n_aw_au)) (j := (own_ix (own_ix i))) hj  (g := (mkF m 48 #[.val (.ref ob), .val (.int i), .val (.int (own_ix i)), .val (.long (own_bit i)), .second] [(.long ((u (own_ix (own_ix i))) ||| (own_bit (own_ix i)))), (.int (own_ix (own_ix i))), (.ref au)])) rfl rfl (hb hby d7_48)
    have Z8 : n0 ≤ h8.size := Nat.le_trans Z6 (Keep.of_wr W8).1
    have N8 := Fr.snoc X8 N6 k1_g_au
    obtain ⟨T9, X9, e9, st9⟩ := getF X8 hx hZ hown (host := "") (Or.inl (hw _ (List.mem_of_getElem? (i := 27) rfl))) Via.refl e8 ((k1_4.other W6 (Or.inl k1_n_ob_aw)).other W8 (Or.inl k1_n_ob_au)) (g := (mkF m 51 #[.val (.ref ob), .val (.int i), .val (.int (own_ix i)), .val (.long (own_bit i)), .second] [(.ref ob), (.ref ob)])) rfl rfl (hb hby d7_51)
    obtain ⟨T10, h10, X10, e10, W10, st10⟩ := putF X9 hx hZ hown (host := "") (Or.inl (hw _ (List.mem_of_getElem? (i := 27) rfl))) Via.refl e9 ((k1_4.other W6 (Or.inl k1_n_ob_aw)).other W8 (Or.inl k1_n_ob_au)) ((k1_0.wr W6).wr W8) (Or.inl (hw _ (List.mem_of_getElem? (i := 28) rfl))) (hw _ (List.mem_of_getElem? (i := 2) rfl)) (ty := .int) (by decide) rfl rfl (g := (mkF m 56 #[.val (.ref ob), .val (.int i), .val (.int (own_ix i)), .val (.long (own_bit i)), .second] [(.int (sz + (1 : Int32))), (.ref ob)])) rfl rfl (hb hby d7_56)
    have f11 := (((k1_1.other W6 (Or.inl k1_n_ob_aw)).other W8 (Or.inl k1_n_ob_au)).other W10 (Or.inr (slot_ne (Or.inr (hw _ (List.mem_of_getElem? (i := 11) rfl))) (Or.inl (hw _ (List.mem_of_getElem? (i := 28) rfl))) (by decide) (t := .int) (t' := .int) (by decide) (by decide))))
    have f12 := (((k1_2.other W6 (Or.inl k1_n_ob_aw)).other W8 (Or.inl k1_n_ob_au)).other W10 (Or.inr (slot_ne (Or.inr (hw _ (List.mem_of_getElem? (i := 14) rfl))) (Or.inl (hw _ (List.mem_of_getElem? (i := 28) rfl))) (by decide) (t := (.array .long)) (t' := .int) (by decide) (by decide))))
    have f13 := (((k1_3.other W6 (Or.inl k1_n_ob_aw)).other W8 (Or.inl k1_n_ob_au)).other W10 (Or.inr (slot_ne (Or.inr (hw _ (List.mem_of_getElem? (i := 16) rfl))) (Or.inl (hw _ (List.mem_of_getElem? (i := 28) rfl))) (by decide) (t := (.array .long)) (t' := .int) (by decide) (by decide))))
    have Z10 : n0 ≤ h10.size := Nat.le_trans Z8 (Keep.of_wr W10).1
    have N10 := Fr.snoc X10 N8 k1_g_ob
    have pre14 : ∀ t, Steps p.tables e below (T10.setTop (mkF m 60 #[.val (.ref ob), .val (.int i), .val (.int (own_ix i)), .val (.long (own_bit i)), .second] [(.int (1 : Int32))])) t → Steps p.tables e below (s₁.setTop (entryFrame m #[(.ref ob), (.int i)] 5)) t := by
      intro t k
      refine pre3 t ?_
      show Steps p.tables e below (T2.setTop (mkF m 19 #[.val (.ref ob), .val (.int i), .val (.int (own_ix i)), .val (.long (own_bit i)), .second] [(.int (lcmpW ((w (own_ix i)) &&& (own_bit i)) (0 : Int64)))])) _
      refine XS.ifYes X2.here hx rfl (pc0 := 19) (pc' := 24) rfl (hb hby d7_19) rfl ((if0 _ _).trans (teq ((lw_eq _ _).mpr hc4)).1) (by decide) (by decide) ?_
      show Steps p.tables e below (T2.setTop (mkF m 24 #[.val (.ref ob), .val (.int i), .val (.int (own_ix i)), .val (.long (own_bit i)), .second] [])) _
      refine XS.aloadN X2.here hx rfl (hb hby d7_24) rfl rfl ?_
      show Steps p.tables e below (T2.setTop (mkF m 25 #[.val (.ref ob), .val (.int i), .val (.int (own_ix i)), .val (.long (own_bit i)), .second] [(.ref ob)])) _
      refine st5 _ ?_
      show Steps p.tables e below (T5.setTop (mkF m 28 #[.val (.ref ob), .val (.int i), .val (.int (own_ix i)), .val (.long (own_bit i)), .second] [(.ref aw)])) _
      refine XS.iloadN X5.here hx rfl (hb hby d7_28) rfl ?_
      show Steps p.tables e below (T5.setTop (mkF m 29 #[.val (.ref ob), .val (.int i), .val (.int (own_ix i)), .val (.long (own_bit i)), .second] [(.int (own_ix i)), (.ref aw)])) _
      refine Jvm.Free.XT.dup2 X5.here hx rfl (hb hby d7_29) rfl rfl rfl ?_
      show Steps p.tables e below (T5.setTop (mkF m 30 #[.val (.ref ob), .val (.int i), .val (.int (own_ix i)), .val (.long (own_bit i)), .second] [(.int (own_ix i)), (.ref aw), (.int (own_ix i)), (.ref aw)])) _
      refine rdJ X5 hx hZ e5 k1_5 (j := (own_ix i)) hi rfl (g := (mkF m 30 #[.val (.ref ob), .val (.int i), .val (.int (own_ix i)), .val (.long (own_bit i)), .second] [(.int (own_ix i)), (.ref aw), (.int (own_ix i)), (.ref aw)])) rfl rfl (hb hby d7_30) _ ?_
      show Steps p.tables e below (T5.setTop (mkF m 31 #[.val (.ref ob), .val (.int i), .val (.int (own_ix i)), .val (.long (own_bit i)), .second] [(.long (w (own_ix i))), (.int (own_ix i)), (.ref aw)])) _
      refine XS.lloadN X5.here hx rfl (hb hby d7_31) rfl ?_
      show Steps p.tables e below (T5.setTop (mkF m 32 #[.val (.ref ob), .val (.int i), .val (.int (own_ix i)), .val (.long (own_bit i)), .second] [(.long (own_bit i)), (.long (w (own_ix i))), (.int (own_ix i)), (.ref aw)])) _
      refine XS.lor X5.here hx rfl (hb hby d7_32) rfl ?_
      show Steps p.tables e below (T5.setTop (mkF m 33 #[.val (.ref ob), .val (.int i), .val (.int (own_ix i)), .val (.long (own_bit i)), .second] [(.long ((w (own_ix i)) ||| (own_bit i))), (.int (own_ix i)), (.ref aw)])) _
      refine st6 _ ?_
      show Steps p.tables e below (T6.setTop (mkF m 34 #[.val (.ref ob), .val (.int i), .val (.int (own_ix i)), .val (.long (own_bit i)), .second] [])) _
      refine XS.aloadN X6.here hx rfl (hb hby d7_34) rfl rfl ?_
      show Steps p.tables e below (T6.setTop (mkF m 35 #[.val (.ref ob), .val (.int i), .val (.int (own_ix i)), .val (.long (own_bit i)), .second] [(.ref ob)])) _
      refine st7 _ ?_
      show Steps p.tables e below (T7.setTop (mkF m 38 #[.val (.ref ob), .val (.int i), .val (.int (own_ix i)), .val (.long (own_bit i)), .second] [(.ref au)])) _
      refine XS.iloadN X7.here hx rfl (hb hby d7_38) rfl ?_
      show Steps p.tables e below (T7.setTop (mkF m 39 #[.val (.ref ob), .val (.int i), .val (.int (own_ix i)), .val (.long (own_bit i)), .second] [(.int (own_ix i)), (.ref au)])) _
      refine XS.bipush X7.here hx rfl (hb hby d7_39) ?_
      show Steps p.tables e below (T7.setTop (mkF m 41 #[.val (.ref ob), .val (.int i), .val (.int (own_ix i)), .val (.long (own_bit i)), .second] [(.int (6 : Int32)), (.int (own_ix i)), (.ref au)])) _
      refine XS.iushr X7.here hx rfl (hb hby d7_41) rfl ?_
      show Steps p.tables e below (T7.setTop (mkF m 42 #[.val (.ref ob), .val (.int i), .val (.int (own_ix i)), .val (.long (own_bit i)), .second] [(.int (own_ix (own_ix i))), (.ref au)])) _
      refine Jvm.Free.XT.dup2 X7.here hx rfl (hb hby d7_42) rfl rfl rfl ?_
      show Steps p.tables e below (T7.setTop (mkF m 43 #[.val (.ref ob), .val (.int i), .val (.int (own_ix i)), .val (.long (own_bit i)), .second] [(.int (own_ix (own_ix i))), (.ref au), (.int (own_ix (own_ix i))), (.ref au)])) _
      refine rdJ X7 hx hZ e7 (k1_6.other W6 (Ne.symm k1_n_aw_au)) (j := (own_ix (own_ix i))) hj rfl (g := (mkF m 43 #[.val (.ref ob), .val (.int i), .val (.int (own_ix i)), .val (.long (own_bit i)), .second] [(.int (own_ix (own_ix i))), (.ref au), (.int (own_ix (own_ix i))), (.ref au)])) rfl rfl (hb hby d7_43) _ ?_
      show Steps p.tables e below (T7.setTop (mkF m 44 #[.val (.ref ob), .val (.int i), .val (.int (own_ix i)), .val (.long (own_bit i)), .second] [(.long (u (own_ix (own_ix i)))), (.int (own_ix (own_ix i))), (.ref au)])) _
      refine XS.lconst X7.here hx rfl (hb hby d7_44) ?_
      show Steps p.tables e below (T7.setTop (mkF m 45 #[.val (.ref ob), .val (.int i), .val (.int (own_ix i)), .val (.long (own_bit i)), .second] [(.long (1 : Int64)), (.long (u (own_ix (own_ix i)))), (.int (own_ix (own_ix i))), (.ref au)])) _
      refine XS.iloadN X7.here hx rfl (hb hby d7_45) rfl ?_
      show Steps p.tables e below (T7.setTop (mkF m 46 #[.val (.ref ob), .val (.int i), .val (.int (own_ix i)), .val (.long (own_bit i)), .second] [(.int (own_ix i)), (.long (1 : Int64)), (.long (u (own_ix (own_ix i)))), (.int (own_ix (own_ix i))), (.ref au)])) _
      refine XS.lshl X7.here hx rfl (hb hby d7_46) rfl ?_
      show Steps p.tables e below (T7.setTop (mkF m 47 #[.val (.ref ob), .val (.int i), .val (.int (own_ix i)), .val (.long (own_bit i)), .second] [(.long (own_bit (own_ix i))), (.long (u (own_ix (own_ix i)))), (.int (own_ix (own_ix i))), (.ref au)])) _
      refine XS.lor X7.here hx rfl (hb hby d7_47) rfl ?_
      show Steps p.tables e below (T7.setTop (mkF m 48 #[.val (.ref ob), .val (.int i), .val (.int (own_ix i)), .val (.long (own_bit i)), .second] [(.long ((u (own_ix (own_ix i))) ||| (own_bit (own_ix i)))), (.int (own_ix (own_ix i))), (.ref au)])) _
      refine st8 _ ?_
      show Steps p.tables e below (T8.setTop (mkF m 49 #[.val (.ref ob), .val (.int i), .val (.int (own_ix i)), .val (.long (own_bit i)), .second] [])) _
      refine XS.aloadN X8.here hx rfl (hb hby d7_49) rfl rfl ?_
      show Steps p.tables e below (T8.setTop (mkF m 50 #[.val (.ref ob), .val (.int i), .val (.int (own_ix i)), .val (.long (own_bit i)), .second] [(.ref ob)])) _
      refine XS.dup X8.here hx rfl (hb hby d7_50) rfl rfl ?_
      show Steps p.tables e below (T8.setTop (mkF m 51 #[.val (.ref ob), .val (.int i), .val (.int (own_ix i)), .val (.long (own_bit i)), .second] [(.ref ob), (.ref ob)])) _
      refine st9 _ ?_
      show Steps p.tables e below (T9.setTop (mkF m 54 #[.val (.ref ob), .val (.int i), .val (.int (own_ix i)), .val (.long (own_bit i)), .second] [(.int sz), (.ref ob)])) _
      refine XS.iconst X9.here hx rfl (hb hby d7_54) ?_
      show Steps p.tables e below (T9.setTop (mkF m 55 #[.val (.ref ob), .val (.int i), .val (.int (own_ix i)), .val (.long (own_bit i)), .second] [(.int (1 : Int32)), (.int sz), (.ref ob)])) _
      refine XS.iadd X9.here hx rfl (hb hby d7_55) rfl ?_
      show Steps p.tables e below (T9.setTop (mkF m 56 #[.val (.ref ob), .val (.int i), .val (.int (own_ix i)), .val (.long (own_bit i)), .second] [(.int (sz + (1 : Int32))), (.ref ob)])) _
      refine st10 _ ?_
      show Steps p.tables e below (T10.setTop (mkF m 59 #[.val (.ref ob), .val (.int i), .val (.int (own_ix i)), .val (.long (own_bit i)), .second] [])) _
      refine XS.iconst X10.here hx rfl (hb hby d7_59) ?_
      exact k
    obtain ⟨fs, hr, hrun, hended, hW, hsame⟩ := X10.leave (v := some (.int (b2i (Fadd i w)))) (fun h => by rw [Bd.returns] at h; cases h) (BodyLoose.notSynchronized Bd)
    refine ⟨_, _, pre14 _ ?_, hrun, hended, _, _, rfl, ?_, ⟨_, rfl⟩, hW, hsame.mono (by decide) (by decide)⟩
    · show Steps p.tables e below (T10.setTop (mkF m 60 #[.val (.ref ob), .val (.int i), .val (.int (own_ix i)), .val (.long (own_bit i)), .second] [(.int (1 : Int32))])) _
      have hr2 := hr
      rw [(show (Fadd i w) = true from ((if_pos hc4).trans rfl))] at hr2
      exact retN X10 hx (t := .boolean) Bd.returns (by simp) (hb hby d7_60) hr2
    · show Q7 Z ob i aw au cap sz nw w nu u h0 n0 _ T10.heap _
      rw [e10]
      exact ⟨rfl, N10, ⟨(((k1_0.wr W6).wr W8).wr W10), f11, f12, f13, (by rw [(show (Fadd_sz i sz w) = (sz + (1 : Int32)) from ((if_pos hc4).trans rfl))]; exact (((k1_4.other W6 (Or.inl k1_n_ob_aw)).other W8 (Or.inl k1_n_ob_au)).same W10)), (by rw [(show (Fadd_w i w) = (@upA Int64 w (own_ix i) ((w (own_ix i)) ||| (own_bit i))) from ((if_pos hc4).trans rfl))]; exact ((V6.other W8 k1_n_aw_au).other W10 (Ne.symm k1_n_ob_aw))), (by rw [(show (Fadd_u i w u) = (@upA Int64 u (own_ix (own_ix i)) ((u (own_ix (own_ix i))) ||| (own_bit (own_ix i)))) from ((if_pos hc4).trans rfl))]; exact (V8.other W10 (Ne.symm k1_n_ob_au))), k1_g_ob, k1_g_aw, k1_g_au, k1_n_ob_aw, k1_n_ob_au, k1_n_aw_au, Z10⟩⟩
  ·
    have pre15 : ∀ t, Steps p.tables e below (T2.setTop (mkF m 23 #[.val (.ref ob), .val (.int i), .val (.int (own_ix i)), .val (.long (own_bit i)), .second] [(.int (0 : Int32))])) t → Steps p.tables e below (s₁.setTop (entryFrame m #[(.ref ob), (.int i)] 5)) t := by
      intro t k
      refine pre3 t ?_
      show Steps p.tables e below (T2.setTop (mkF m 19 #[.val (.ref ob), .val (.int i), .val (.int (own_ix i)), .val (.long (own_bit i)), .second] [(.int (lcmpW ((w (own_ix i)) &&& (own_bit i)) (0 : Int64)))])) _
      refine XS.ifNo X2.here hx rfl (hb hby d7_19) rfl ((if0 _ _).trans (feq (fun q => hc4 ((lw_eq _ _).mp q))).1) ?_
      show Steps p.tables e below (T2.setTop (mkF m 22 #[.val (.ref ob), .val (.int i), .val (.int (own_ix i)), .val (.long (own_bit i)), .second] [])) _
      refine XS.iconst X2.here hx rfl (hb hby d7_22) ?_
      exact k
    obtain ⟨fs, hr, hrun, hended, hW, hsame⟩ := X2.leave (v := some (.int (b2i (Fadd i w)))) (fun h => by rw [Bd.returns] at h; cases h) (BodyLoose.notSynchronized Bd)
    refine ⟨_, _, pre15 _ ?_, hrun, hended, _, _, rfl, ?_, ⟨_, rfl⟩, hW, hsame.mono (by decide) (by decide)⟩
    · show Steps p.tables e below (T2.setTop (mkF m 23 #[.val (.ref ob), .val (.int i), .val (.int (own_ix i)), .val (.long (own_bit i)), .second] [(.int (0 : Int32))])) _
      have hr2 := hr
      rw [(show (Fadd i w) = false from ((if_neg hc4).trans rfl))] at hr2
      exact retN X2 hx (t := .boolean) Bd.returns (by simp) (hb hby d7_23) hr2
    · show Q7 Z ob i aw au cap sz nw w nu u h0 n0 _ T2.heap _
      rw [e2]
      exact ⟨rfl, N0, ⟨k1_0, k1_1, k1_2, k1_3, (by rw [(show (Fadd_sz i sz w) = sz from ((if_neg hc4).trans rfl))]; exact k1_4), (by rw [(show (Fadd_w i w) = w from ((if_neg hc4).trans rfl))]; exact k1_5), (by rw [(show (Fadd_u i w u) = u from ((if_neg hc4).trans rfl))]; exact k1_6), k1_g_ob, k1_g_aw, k1_g_au, k1_n_ob_aw, k1_n_ob_au, k1_n_aw_au, Z0⟩⟩
theorem d3_0 : decode prog_16_method_5_code 0 = .ok (.iload_n 1, 1) := by decide +kernel
theorem d3_1 : decode prog_16_method_5_code 1 = .ok (.bipush 6, 2) := by decide +kernel
theorem d3_3 : decode prog_16_method_5_code 3 = .ok (.iushr, 1) := by decide +kernel
theorem d3_4 : decode prog_16_method_5_code 4 = .ok (.istore_n 2, 1) := by decide +kernel
theorem d3_5 : decode prog_16_method_5_code 5 = .ok (.lconst 1, 1) := by decide +kernel
theorem d3_6 : decode prog_16_method_5_code 6 = .ok (.iload_n 1, 1) := by decide +kernel
theorem d3_7 : decode prog_16_method_5_code 7 = .ok (.lshl, 1) := by decide +kernel
theorem d3_8 : decode prog_16_method_5_code 8 = .ok (.lstore_n 3, 1) := by decide +kernel
theorem d3_9 : decode prog_16_method_5_code 9 = .ok (.aload_n 0, 1) := by decide +kernel
theorem d3_10 : decode prog_16_method_5_code 10 = .ok (.getfield 13, 3) := by decide +kernel
theorem d3_13 : decode prog_16_method_5_code 13 = .ok (.iload_n 2, 1) := by decide +kernel
theorem d3_14 : decode prog_16_method_5_code 14 = .ok (.laload, 1) := by decide +kernel
theorem d3_15 : decode prog_16_method_5_code 15 = .ok (.lload_n 3, 1) := by decide +kernel
theorem d3_16 : decode prog_16_method_5_code 16 = .ok (.land, 1) := by decide +kernel
theorem d3_17 : decode prog_16_method_5_code 17 = .ok (.lconst 0, 1) := by decide +kernel
theorem d3_18 : decode prog_16_method_5_code 18 = .ok (.lcmp, 1) := by decide +kernel
theorem d3_19 : decode prog_16_method_5_code 19 = .ok (.ifCond .ne 5, 3) := by decide +kernel
theorem d3_22 : decode prog_16_method_5_code 22 = .ok (.iconst 0, 1) := by decide +kernel
theorem d3_23 : decode prog_16_method_5_code 23 = .ok (.ireturn, 1) := by decide +kernel
theorem d3_24 : decode prog_16_method_5_code 24 = .ok (.aload_n 0, 1) := by decide +kernel
theorem d3_25 : decode prog_16_method_5_code 25 = .ok (.getfield 13, 3) := by decide +kernel
theorem d3_28 : decode prog_16_method_5_code 28 = .ok (.iload_n 2, 1) := by decide +kernel
theorem d3_29 : decode prog_16_method_5_code 29 = .ok (.dup2, 1) := by decide +kernel
theorem d3_30 : decode prog_16_method_5_code 30 = .ok (.laload, 1) := by decide +kernel
theorem d3_31 : decode prog_16_method_5_code 31 = .ok (.lload_n 3, 1) := by decide +kernel
theorem d3_32 : decode prog_16_method_5_code 32 = .ok (.ldc2_w 23, 3) := by decide +kernel
theorem d3_35 : decode prog_16_method_5_code 35 = .ok (.lxor, 1) := by decide +kernel
theorem d3_36 : decode prog_16_method_5_code 36 = .ok (.land, 1) := by decide +kernel
theorem d3_37 : decode prog_16_method_5_code 37 = .ok (.lastore, 1) := by decide +kernel
theorem d3_38 : decode prog_16_method_5_code 38 = .ok (.aload_n 0, 1) := by decide +kernel
theorem d3_39 : decode prog_16_method_5_code 39 = .ok (.getfield 13, 3) := by decide +kernel
theorem d3_42 : decode prog_16_method_5_code 42 = .ok (.iload_n 2, 1) := by decide +kernel
theorem d3_43 : decode prog_16_method_5_code 43 = .ok (.laload, 1) := by decide +kernel
theorem d3_44 : decode prog_16_method_5_code 44 = .ok (.lconst 0, 1) := by decide +kernel
theorem d3_45 : decode prog_16_method_5_code 45 = .ok (.lcmp, 1) := by decide +kernel
theorem d3_46 : decode prog_16_method_5_code 46 = .ok (.ifCond .ne 22, 3) := by decide +kernel
theorem d3_49 : decode prog_16_method_5_code 49 = .ok (.aload_n 0, 1) := by decide +kernel
theorem d3_50 : decode prog_16_method_5_code 50 = .ok (.getfield 17, 3) := by decide +kernel
theorem d3_53 : decode prog_16_method_5_code 53 = .ok (.iload_n 2, 1) := by decide +kernel
theorem d3_54 : decode prog_16_method_5_code 54 = .ok (.bipush 6, 2) := by decide +kernel
theorem d3_56 : decode prog_16_method_5_code 56 = .ok (.iushr, 1) := by decide +kernel
theorem d3_57 : decode prog_16_method_5_code 57 = .ok (.dup2, 1) := by decide +kernel
theorem d3_58 : decode prog_16_method_5_code 58 = .ok (.laload, 1) := by decide +kernel
theorem d3_59 : decode prog_16_method_5_code 59 = .ok (.lconst 1, 1) := by decide +kernel
theorem d3_60 : decode prog_16_method_5_code 60 = .ok (.iload_n 2, 1) := by decide +kernel
theorem d3_61 : decode prog_16_method_5_code 61 = .ok (.lshl, 1) := by decide +kernel
theorem d3_62 : decode prog_16_method_5_code 62 = .ok (.ldc2_w 23, 3) := by decide +kernel
theorem d3_65 : decode prog_16_method_5_code 65 = .ok (.lxor, 1) := by decide +kernel
theorem d3_66 : decode prog_16_method_5_code 66 = .ok (.land, 1) := by decide +kernel
theorem d3_67 : decode prog_16_method_5_code 67 = .ok (.lastore, 1) := by decide +kernel
theorem d3_68 : decode prog_16_method_5_code 68 = .ok (.aload_n 0, 1) := by decide +kernel
theorem d3_69 : decode prog_16_method_5_code 69 = .ok (.dup, 1) := by decide +kernel
theorem d3_70 : decode prog_16_method_5_code 70 = .ok (.getfield 20, 3) := by decide +kernel
theorem d3_73 : decode prog_16_method_5_code 73 = .ok (.iconst 1, 1) := by decide +kernel
theorem d3_74 : decode prog_16_method_5_code 74 = .ok (.isub, 1) := by decide +kernel
theorem d3_75 : decode prog_16_method_5_code 75 = .ok (.putfield 20, 3) := by decide +kernel
theorem d3_78 : decode prog_16_method_5_code 78 = .ok (.iconst 1, 1) := by decide +kernel
theorem d3_79 : decode prog_16_method_5_code 79 = .ok (.ireturn, 1) := by decide +kernel
theorem ef_3 (m : MethodId) (x0 : Addr) (x1 : Int32) : entryFrame m #[(.ref x0), (.int x1)] 5 = mkF m 0 #[.val (.ref x0), .val (.int x1), .unset, .unset, .unset] [] := by first | (simp [entryFrame, mkF, argsToLocals, Value.category]; done) | rfl
def Frem (i : Int32) (w : Int32 → Int64) : Bool := (if ((w (own_ix i)) &&& (own_bit i)) = (0 : Int64) then false else true)
def Frem_sz (i : Int32) (sz : Int32) (w : Int32 → Int64) : Int32 := (if ((w (own_ix i)) &&& (own_bit i)) = (0 : Int64) then sz else (sz - (1 : Int32)))
def Frem_w (i : Int32) (w : Int32 → Int64) : Int32 → Int64 := (if ((w (own_ix i)) &&& (own_bit i)) = (0 : Int64) then w else (@upA Int64 w (own_ix i) ((w (own_ix i)) &&& ((own_bit i) ^^^ (-1 : Int64)))))
def Frem_u (i : Int32) (w : Int32 → Int64) (u : Int32 → Int64) : Int32 → Int64 := (if ((w (own_ix i)) &&& (own_bit i)) = (0 : Int64) then u else (if ((w (own_ix i)) &&& ((own_bit i) ^^^ (-1 : Int64))) = (0 : Int64) then (@upA Int64 u (own_ix (own_ix i)) ((u (own_ix (own_ix i))) &&& ((own_bit (own_ix i)) ^^^ (-1 : Int64)))) else u))
def Q3 (Z : State) (ob : Addr) (i : Int32) (aw : Addr) (au : Addr) (cap : Int32) (sz : Int32) (nw : Int32) (w : Int32 → Int64) (nu : Int32) (u : Int32 → Int64) (h0 : Heap) (n0 : Nat) (v : Option Value) (h : Heap) (L : List Loc) : Prop := v = some (.int (b2i (Frem i w))) ∧ Fr n0 L ∧ IS Z h n0 ob aw au cap (Frem_sz i sz w) nw (Frem_w i w) nu (Frem_u i w u)
set_option maxRecDepth 65536 in
set_option maxHeartbeats 40000000 in
theorem rm3 (l : Launch) (Z : State) (a0 : Array Value) (hw : ∀ d ∈ tables_1, d.before a0 Z = true) (ws : List Jvm.Cond) (ob : Addr) (i : Int32) (aw : Addr) (au : Addr) (cap : Int32) (sz : Int32) (nw : Int32) (w : Int32 → Int64) (nu : Int32) (u : Int32 → Int64) (h0 : Heap) (n0 : Nat) (Z0 : n0 ≤ h0.size) (I0 : IS Z h0 n0 ob aw au cap sz nw w nu u) (hi : ¬ (own_ix i) < 0 ∧ (own_ix i) < nw) (hj : ¬ (own_ix (own_ix i)) < 0 ∧ (own_ix (own_ix i)) < nu) :
    MetFree l (⟨"com/example/cutline/cutline/IndexSet", "remove", "(I)Z"⟩ : MethodName) (head1 (Jvm.Cond.code (⟨"com/example/cutline/cutline/IndexSet", "remove", "(I)Z"⟩ : MethodName) prog_16_method_5_code 5 (some .boolean) :: ws) ({ frames := 0, cells := 0, slots := 0, locals := 0 } : Room)) (fun a U => a = #[(.ref ob), (.int i)] ∧ Z.Warmed39 U.vm ∧ U.heap = h0) (fun _ _ _ _ _ => True) (fun _ U o U' => ∃ v L, o = .returned v ∧ Q3 Z ob i aw au cap sz nw w nu u h0 n0 v U'.heap L ∧ FrameEnd U o U' L ({ frames := 0, cells := 0, slots := 0, locals := 0 } : Room).cells ({ frames := 0, cells := 0, slots := 0, locals := 0 } : Room).slots) := by
  refine MetFree.of_bodySF (plainFor_of_name pn_1) hisR ?_
  intro p e s m args below meth c s₁ Bd hml0 hP hK
  obtain ⟨rfl, hZ, hh⟩ := hP
  have hx := Bd.exec
  have hby := Bd.bytes
  have hml : c.maxLocals = 5 := hml0
  have hown : s.vm.findClass "com/example/cutline/cutline/IndexSet" = some m.cls := findClass_of_methodNamed Bd.named
  have hnm := (name_of_methodNamed Bd.named Bd.method).1
  have X0 : Stand p l e ({ frames := 0, cells := 0, slots := 0, locals := 0 } : Room) s m #[(.ref ob), (.int i)] below meth c s₁ [] 0 0 := Stand.of_body Bd
  have e0 : s₁.heap = h0 := by rw [← hh, Bd.state]; rfl
  have N0 := Fr.nil n0
  have pre0 : ∀ t, Steps p.tables e below (s₁.setTop (mkF m 0 #[.val (.ref ob), .val (.int i), .unset, .unset, .unset] [])) t → Steps p.tables e below (s₁.setTop (entryFrame m #[(.ref ob), (.int i)] 5)) t := fun t k => castTop (ef_3 m ob i) k
  obtain ⟨k1_0, k1_1, k1_2, k1_3, k1_4, k1_5, k1_6, k1_g_ob, k1_g_aw, k1_g_au, k1_n_ob_aw, k1_n_ob_au, k1_n_aw_au, k1_sz⟩ := I0
  obtain ⟨T2, X2, e2, st2⟩ := getF X0 hx hZ hown (host := "") (Or.inl (hw _ (List.mem_of_getElem? (i := 13) rfl))) Via.refl e0 k1_2 (g := (mkF m 10 #[.val (.ref ob), .val (.int i), .val (.int (own_ix i)), .val (.long (own_bit i)), .second] [(.ref ob)])) rfl rfl (hb hby d3_10)
  have pre3 : ∀ t, Steps p.tables e below (T2.setTop (mkF m 19 #[.val (.ref ob), .val (.int i), .val (.int (own_ix i)), .val (.long (own_bit i)), .second] [(.int (lcmpW ((w (own_ix i)) &&& (own_bit i)) (0 : Int64)))])) t → Steps p.tables e below (s₁.setTop (entryFrame m #[(.ref ob), (.int i)] 5)) t := by
    intro t k
    refine pre0 t ?_
    show Steps p.tables e below (s₁.setTop (mkF m 0 #[.val (.ref ob), .val (.int i), .unset, .unset, .unset] [])) _
    refine XS.iloadN X0.here hx rfl (hb hby d3_0) rfl ?_
    show Steps p.tables e below (s₁.setTop (mkF m 1 #[.val (.ref ob), .val (.int i), .unset, .unset, .unset] [(.int i)])) _
    refine XS.bipush X0.here hx rfl (hb hby d3_1) ?_
    show Steps p.tables e below (s₁.setTop (mkF m 3 #[.val (.ref ob), .val (.int i), .unset, .unset, .unset] [(.int (6 : Int32)), (.int i)])) _
    refine XS.iushr X0.here hx rfl (hb hby d3_3) rfl ?_
    show Steps p.tables e below (s₁.setTop (mkF m 4 #[.val (.ref ob), .val (.int i), .unset, .unset, .unset] [(.int ((i.toUInt32 >>> ((6 : Int32) &&& 31).toUInt32).toInt32))])) _
    refine XS.istoreN X0.here hx rfl (hb hby d3_4) rfl (l' := #[.val (.ref ob), .val (.int i), .val (.int (own_ix i)), .unset, .unset]) rfl ?_
    show Steps p.tables e below (s₁.setTop (mkF m 5 #[.val (.ref ob), .val (.int i), .val (.int (own_ix i)), .unset, .unset] [])) _
    refine XS.lconst X0.here hx rfl (hb hby d3_5) ?_
    show Steps p.tables e below (s₁.setTop (mkF m 6 #[.val (.ref ob), .val (.int i), .val (.int (own_ix i)), .unset, .unset] [(.long (1 : Int64))])) _
    refine XS.iloadN X0.here hx rfl (hb hby d3_6) rfl ?_
    show Steps p.tables e below (s₁.setTop (mkF m 7 #[.val (.ref ob), .val (.int i), .val (.int (own_ix i)), .unset, .unset] [(.int i), (.long (1 : Int64))])) _
    refine XS.lshl X0.here hx rfl (hb hby d3_7) rfl ?_
    show Steps p.tables e below (s₁.setTop (mkF m 8 #[.val (.ref ob), .val (.int i), .val (.int (own_ix i)), .unset, .unset] [(.long ((1 : Int64) <<< (i &&& 0x3f).toInt64))])) _
    refine XS.lstoreN X0.here hx rfl (hb hby d3_8) rfl (l' := #[.val (.ref ob), .val (.int i), .val (.int (own_ix i)), .val (.long (own_bit i)), .second]) rfl ?_
    show Steps p.tables e below (s₁.setTop (mkF m 9 #[.val (.ref ob), .val (.int i), .val (.int (own_ix i)), .val (.long (own_bit i)), .second] [])) _
    refine XS.aloadN X0.here hx rfl (hb hby d3_9) rfl rfl ?_
    show Steps p.tables e below (s₁.setTop (mkF m 10 #[.val (.ref ob), .val (.int i), .val (.int (own_ix i)), .val (.long (own_bit i)), .second] [(.ref ob)])) _
    refine st2 _ ?_
    show Steps p.tables e below (T2.setTop (mkF m 13 #[.val (.ref ob), .val (.int i), .val (.int (own_ix i)), .val (.long (own_bit i)), .second] [(.ref aw)])) _
    refine XS.iloadN X2.here hx rfl (hb hby d3_13) rfl ?_
    show Steps p.tables e below (T2.setTop (mkF m 14 #[.val (.ref ob), .val (.int i), .val (.int (own_ix i)), .val (.long (own_bit i)), .second] [(.int (own_ix i)), (.ref aw)])) _
    refine rdJ X2 hx hZ e2 k1_5 (j := (own_ix i)) hi rfl (g := (mkF m 14 #[.val (.ref ob), .val (.int i), .val (.int (own_ix i)), .val (.long (own_bit i)), .second] [(.int (own_ix i)), (.ref aw)])) rfl rfl (hb hby d3_14) _ ?_
    show Steps p.tables e below (T2.setTop (mkF m 15 #[.val (.ref ob), .val (.int i), .val (.int (own_ix i)), .val (.long (own_bit i)), .second] [(.long (w (own_ix i)))])) _
    refine XS.lloadN X2.here hx rfl (hb hby d3_15) rfl ?_
    show Steps p.tables e below (T2.setTop (mkF m 16 #[.val (.ref ob), .val (.int i), .val (.int (own_ix i)), .val (.long (own_bit i)), .second] [(.long (own_bit i)), (.long (w (own_ix i)))])) _
    refine XS.land X2.here hx rfl (hb hby d3_16) rfl ?_
    show Steps p.tables e below (T2.setTop (mkF m 17 #[.val (.ref ob), .val (.int i), .val (.int (own_ix i)), .val (.long (own_bit i)), .second] [(.long ((w (own_ix i)) &&& (own_bit i)))])) _
    refine XS.lconst X2.here hx rfl (hb hby d3_17) ?_
    show Steps p.tables e below (T2.setTop (mkF m 18 #[.val (.ref ob), .val (.int i), .val (.int (own_ix i)), .val (.long (own_bit i)), .second] [(.long (0 : Int64)), (.long ((w (own_ix i)) &&& (own_bit i)))])) _
    refine XS.lcmp X2.here hx rfl (hb hby d3_18) rfl ?_
    exact k
  by_cases hc4 : ((w (own_ix i)) &&& (own_bit i)) = (0 : Int64)
  ·
    have pre5 : ∀ t, Steps p.tables e below (T2.setTop (mkF m 23 #[.val (.ref ob), .val (.int i), .val (.int (own_ix i)), .val (.long (own_bit i)), .second] [(.int (0 : Int32))])) t → Steps p.tables e below (s₁.setTop (entryFrame m #[(.ref ob), (.int i)] 5)) t := by
      intro t k
      refine pre3 t ?_
      show Steps p.tables e below (T2.setTop (mkF m 19 #[.val (.ref ob), .val (.int i), .val (.int (own_ix i)), .val (.long (own_bit i)), .second] [(.int (lcmpW ((w (own_ix i)) &&& (own_bit i)) (0 : Int64)))])) _
      refine XS.ifNo X2.here hx rfl (hb hby d3_19) rfl ((if0 _ _).trans (teq ((lw_eq _ _).mpr hc4)).2) ?_
      show Steps p.tables e below (T2.setTop (mkF m 22 #[.val (.ref ob), .val (.int i), .val (.int (own_ix i)), .val (.long (own_bit i)), .second] [])) _
      refine XS.iconst X2.here hx rfl (hb hby d3_22) ?_
      exact k
    obtain ⟨fs, hr, hrun, hended, hW, hsame⟩ := X2.leave (v := some (.int (b2i (Frem i w)))) (fun h => by rw [Bd.returns] at h; cases h) (BodyLoose.notSynchronized Bd)
    refine ⟨_, _, pre5 _ ?_, hrun, hended, _, _, rfl, ?_, ⟨_, rfl⟩, hW, hsame.mono (by decide) (by decide)⟩
    · show Steps p.tables e below (T2.setTop (mkF m 23 #[.val (.ref ob), .val (.int i), .val (.int (own_ix i)), .val (.long (own_bit i)), .second] [(.int (0 : Int32))])) _
      have hr2 := hr
      rw [(show (Frem i w) = false from ((if_pos hc4).trans rfl))] at hr2
      exact retN X2 hx (t := .boolean) Bd.returns (by simp) (hb hby d3_23) hr2
    · show Q3 Z ob i aw au cap sz nw w nu u h0 n0 _ T2.heap _
      rw [e2]
      exact ⟨rfl, N0, ⟨k1_0, k1_1, k1_2, k1_3, (by rw [(show (Frem_sz i sz w) = sz from ((if_pos hc4).trans rfl))]; exact k1_4), (by rw [(show (Frem_w i w) = w from ((if_pos hc4).trans rfl))]; exact k1_5), (by rw [(show (Frem_u i w u) = u from ((if_pos hc4).trans rfl))]; exact k1_6), k1_g_ob, k1_g_aw, k1_g_au, k1_n_ob_aw, k1_n_ob_au, k1_n_aw_au, Z0⟩⟩
  ·
    obtain ⟨T6, X6, e6, st6⟩ := getF X2 hx hZ hown (host := "") (Or.inl (hw _ (List.mem_of_getElem? (i := 13) rfl))) Via.refl e2 k1_2 (g := (mkF m 25 #[.val (.ref ob), .val (.int i), .val (.int (own_ix i)), .val (.long (own_bit i)), .second] [(.ref ob)])) rfl rfl (hb hby d3_25)
    obtain ⟨T7, h7, X7, e7, W7, V7, st7⟩ := wrJ X6 hx hZ e6 k1_5 (j := (own_ix i)) hi  (g := (mkF m 37 #[.val (.ref ob), .val (.int i), .val (.int (own_ix i)), .val (.long (own_bit i)), .second] [(.long ((w (own_ix i)) &&& ((own_bit i) ^^^ (-1 : Int64)))), (.int (own_ix i)), (.ref aw)])) rfl rfl (hb hby d3_37)
    have Z7 : n0 ≤ h7.size := Nat.le_trans Z0 (Keep.of_wr W7).1
    have N7 := Fr.snoc X7 N0 k1_g_aw
    obtain ⟨T8, X8, e8, st8⟩ := getF X7 hx hZ hown (host := "") (Or.inl (hw _ (List.mem_of_getElem? (i := 13) rfl))) Via.refl e7 (k1_2.other W7 (Or.inl k1_n_ob_aw)) (g := (mkF m 39 #[.val (.ref ob), .val (.int i), .val (.int (own_ix i)), .val (.long (own_bit i)), .second] [(.ref ob)])) rfl rfl (hb hby d3_39)
    have pre9 : ∀ t, Steps p.tables e below (T8.setTop (mkF m 46 #[.val (.ref ob), .val (.int i), .val (.int (own_ix i)), .val (.long (own_bit i)), .second] [(.int (lcmpW ((w (own_ix i)) &&& ((own_bit i) ^^^ (-1 : Int64))) (0 : Int64)))])) t → Steps p.tables e below (s₁.setTop (entryFrame m #[(.ref ob), (.int i)] 5)) t := by
      intro t k
      refine pre3 t ?_
      show Steps p.tables e below (T2.setTop (mkF m 19 #[.val (.ref ob), .val (.int i), .val (.int (own_ix i)), .val (.long (own_bit i)), .second] [(.int (lcmpW ((w (own_ix i)) &&& (own_bit i)) (0 : Int64)))])) _
      refine XS.ifYes X2.here hx rfl (pc0 := 19) (pc' := 24) rfl (hb hby d3_19) rfl ((if0 _ _).trans (feq (fun q => hc4 ((lw_eq _ _).mp q))).2) (by decide) (by decide) ?_
      show Steps p.tables e below (T2.setTop (mkF m 24 #[.val (.ref ob), .val (.int i), .val (.int (own_ix i)), .val (.long (own_bit i)), .second] [])) _
      refine XS.aloadN X2.here hx rfl (hb hby d3_24) rfl rfl ?_
      show Steps p.tables e below (T2.setTop (mkF m 25 #[.val (.ref ob), .val (.int i), .val (.int (own_ix i)), .val (.long (own_bit i)), .second] [(.ref ob)])) _
      refine st6 _ ?_
      show Steps p.tables e below (T6.setTop (mkF m 28 #[.val (.ref ob), .val (.int i), .val (.int (own_ix i)), .val (.long (own_bit i)), .second] [(.ref aw)])) _
      refine XS.iloadN X6.here hx rfl (hb hby d3_28) rfl ?_
      show Steps p.tables e below (T6.setTop (mkF m 29 #[.val (.ref ob), .val (.int i), .val (.int (own_ix i)), .val (.long (own_bit i)), .second] [(.int (own_ix i)), (.ref aw)])) _
      refine Jvm.Free.XT.dup2 X6.here hx rfl (hb hby d3_29) rfl rfl rfl ?_
      show Steps p.tables e below (T6.setTop (mkF m 30 #[.val (.ref ob), .val (.int i), .val (.int (own_ix i)), .val (.long (own_bit i)), .second] [(.int (own_ix i)), (.ref aw), (.int (own_ix i)), (.ref aw)])) _
      refine rdJ X6 hx hZ e6 k1_5 (j := (own_ix i)) hi rfl (g := (mkF m 30 #[.val (.ref ob), .val (.int i), .val (.int (own_ix i)), .val (.long (own_bit i)), .second] [(.int (own_ix i)), (.ref aw), (.int (own_ix i)), (.ref aw)])) rfl rfl (hb hby d3_30) _ ?_
      show Steps p.tables e below (T6.setTop (mkF m 31 #[.val (.ref ob), .val (.int i), .val (.int (own_ix i)), .val (.long (own_bit i)), .second] [(.long (w (own_ix i))), (.int (own_ix i)), (.ref aw)])) _
      refine XS.lloadN X6.here hx rfl (hb hby d3_31) rfl ?_
      show Steps p.tables e below (T6.setTop (mkF m 32 #[.val (.ref ob), .val (.int i), .val (.int (own_ix i)), .val (.long (own_bit i)), .second] [(.long (own_bit i)), (.long (w (own_ix i))), (.int (own_ix i)), (.ref aw)])) _
      refine X6.ldc2Long hx hown (mvT hZ (hw _ (List.mem_of_getElem? (i := 44) rfl))) (g := (mkF m 32 #[.val (.ref ob), .val (.int i), .val (.int (own_ix i)), .val (.long (own_bit i)), .second] [(.long (own_bit i)), (.long (w (own_ix i))), (.int (own_ix i)), (.ref aw)])) rfl (hb hby d3_32) _ ?_
      show Steps p.tables e below (T6.setTop (mkF m 35 #[.val (.ref ob), .val (.int i), .val (.int (own_ix i)), .val (.long (own_bit i)), .second] [(.long (-1 : Int64)), (.long (own_bit i)), (.long (w (own_ix i))), (.int (own_ix i)), (.ref aw)])) _
      refine XS.lxor X6.here hx rfl (hb hby d3_35) rfl ?_
      show Steps p.tables e below (T6.setTop (mkF m 36 #[.val (.ref ob), .val (.int i), .val (.int (own_ix i)), .val (.long (own_bit i)), .second] [(.long ((own_bit i) ^^^ (-1 : Int64))), (.long (w (own_ix i))), (.int (own_ix i)), (.ref aw)])) _
      refine XS.land X6.here hx rfl (hb hby d3_36) rfl ?_
      show Steps p.tables e below (T6.setTop (mkF m 37 #[.val (.ref ob), .val (.int i), .val (.int (own_ix i)), .val (.long (own_bit i)), .second] [(.long ((w (own_ix i)) &&& ((own_bit i) ^^^ (-1 : Int64)))), (.int (own_ix i)), (.ref aw)])) _
      refine st7 _ ?_
      show Steps p.tables e below (T7.setTop (mkF m 38 #[.val (.ref ob), .val (.int i), .val (.int (own_ix i)), .val (.long (own_bit i)), .second] [])) _
      refine XS.aloadN X7.here hx rfl (hb hby d3_38) rfl rfl ?_
      show Steps p.tables e below (T7.setTop (mkF m 39 #[.val (.ref ob), .val (.int i), .val (.int (own_ix i)), .val (.long (own_bit i)), .second] [(.ref ob)])) _
      refine st8 _ ?_
      show Steps p.tables e below (T8.setTop (mkF m 42 #[.val (.ref ob), .val (.int i), .val (.int (own_ix i)), .val (.long (own_bit i)), .second] [(.ref aw)])) _
      refine XS.iloadN X8.here hx rfl (hb hby d3_42) rfl ?_
      show Steps p.tables e below (T8.setTop (mkF m 43 #[.val (.ref ob), .val (.int i), .val (.int (own_ix i)), .val (.long (own_bit i)), .second] [(.int (own_ix i)), (.ref aw)])) _
      refine rdJ X8 hx hZ e8 V7 (j := (own_ix i)) hi upA_hit (g := (mkF m 43 #[.val (.ref ob), .val (.int i), .val (.int (own_ix i)), .val (.long (own_bit i)), .second] [(.int (own_ix i)), (.ref aw)])) rfl rfl (hb hby d3_43) _ ?_
      show Steps p.tables e below (T8.setTop (mkF m 44 #[.val (.ref ob), .val (.int i), .val (.int (own_ix i)), .val (.long (own_bit i)), .second] [(.long ((w (own_ix i)) &&& ((own_bit i) ^^^ (-1 : Int64))))])) _
      refine XS.lconst X8.here hx rfl (hb hby d3_44) ?_
      show Steps p.tables e below (T8.setTop (mkF m 45 #[.val (.ref ob), .val (.int i), .val (.int (own_ix i)), .val (.long (own_bit i)), .second] [(.long (0 : Int64)), (.long ((w (own_ix i)) &&& ((own_bit i) ^^^ (-1 : Int64))))])) _
      refine XS.lcmp X8.here hx rfl (hb hby d3_45) rfl ?_
      exact k
    by_cases hc10 : ((w (own_ix i)) &&& ((own_bit i) ^^^ (-1 : Int64))) = (0 : Int64)
    ·
      obtain ⟨T11, X11, e11, st11⟩ := getF X8 hx hZ hown (host := "") (Or.inl (hw _ (List.mem_of_getElem? (i := 15) rfl))) Via.refl e8 (k1_3.other W7 (Or.inl k1_n_ob_aw)) (g := (mkF m 50 #[.val (.ref ob), .val (.int i), .val (.int (own_ix i)), .val (.long (own_bit i)), .second] [(.ref ob)])) rfl rfl (hb hby d3_50)
      obtain ⟨T12, h12, X12, e12, W12, V12, st12⟩ := wrJ X11 hx hZ e11 (k1_6.other W7 (Ne.symm k1_n_aw_au)) (j := (own_ix (own_ix i))) hj  (g := (mkF m 67 #[.val (.ref ob), .val (.int i), .val (.int (own_ix i)), .val (.long (own_bit i)), .second] [(.long ((u (own_ix (own_ix i))) &&& ((own_bit (own_ix i)) ^^^ (-1 : Int64)))), (.int (own_ix (own_ix i))), (.ref au)])) rfl rfl (hb hby d3_67)
      have Z12 : n0 ≤ h12.size := Nat.le_trans Z7 (Keep.of_wr W12).1
      have N12 := Fr.snoc X12 N7 k1_g_au
      obtain ⟨T13, X13, e13, st13⟩ := getF X12 hx hZ hown (host := "") (Or.inl (hw _ (List.mem_of_getElem? (i := 27) rfl))) Via.refl e12 ((k1_4.other W7 (Or.inl k1_n_ob_aw)).other W12 (Or.inl k1_n_ob_au)) (g := (mkF m 70 #[.val (.ref ob), .val (.int i), .val (.int (own_ix i)), .val (.long (own_bit i)), .second] [(.ref ob), (.ref ob)])) rfl rfl (hb hby d3_70)
      obtain ⟨T14, h14, X14, e14, W14, st14⟩ := putF X13 hx hZ hown (host := "") (Or.inl (hw _ (List.mem_of_getElem? (i := 27) rfl))) Via.refl e13 ((k1_4.other W7 (Or.inl k1_n_ob_aw)).other W12 (Or.inl k1_n_ob_au)) ((k1_0.wr W7).wr W12) (Or.inl (hw _ (List.mem_of_getElem? (i := 28) rfl))) (hw _ (List.mem_of_getElem? (i := 2) rfl)) (ty := .int) (by decide) rfl rfl (g := (mkF m 75 #[.val (.ref ob), .val (.int i), .val (.int (own_ix i)), .val (.long (own_bit i)), .second] [(.int (sz - (1 : Int32))), (.ref ob)])) rfl rfl (hb hby d3_75)
      have f15 := (((k1_1.other W7 (Or.inl k1_n_ob_aw)).other W12 (Or.inl k1_n_ob_au)).other W14 (Or.inr (slot_ne (Or.inr (hw _ (List.mem_of_getElem? (i := 11) rfl))) (Or.inl (hw _ (List.mem_of_getElem? (i := 28) rfl))) (by decide) (t := .int) (t' := .int) (by decide) (by decide))))
      have f16 := (((k1_2.other W7 (Or.inl k1_n_ob_aw)).other W12 (Or.inl k1_n_ob_au)).other W14 (Or.inr (slot_ne (Or.inr (hw _ (List.mem_of_getElem? (i := 14) rfl))) (Or.inl (hw _ (List.mem_of_getElem? (i := 28) rfl))) (by decide) (t := (.array .long)) (t' := .int) (by decide) (by decide))))
      have f17 := (((k1_3.other W7 (Or.inl k1_n_ob_aw)).other W12 (Or.inl k1_n_ob_au)).other W14 (Or.inr (slot_ne (Or.inr (hw _ (List.mem_of_getElem? (i := 16) rfl))) (Or.inl (hw _ (List.mem_of_getElem? (i := 28) rfl))) (by decide) (t := (.array .long)) (t' := .int) (by decide) (by decide))))
      have Z14 : n0 ≤ h14.size := Nat.le_trans Z12 (Keep.of_wr W14).1
      have N14 := Fr.snoc X14 N12 k1_g_ob
      have pre18 : ∀ t, Steps p.tables e below (T14.setTop (mkF m 79 #[.val (.ref ob), .val (.int i), .val (.int (own_ix i)), .val (.long (own_bit i)), .second] [(.int (1 : Int32))])) t → Steps p.tables e below (s₁.setTop (entryFrame m #[(.ref ob), (.int i)] 5)) t := by
        intro t k
        refine pre9 t ?_
        show Steps p.tables e below (T8.setTop (mkF m 46 #[.val (.ref ob), .val (.int i), .val (.int (own_ix i)), .val (.long (own_bit i)), .second] [(.int (lcmpW ((w (own_ix i)) &&& ((own_bit i) ^^^ (-1 : Int64))) (0 : Int64)))])) _
        refine XS.ifNo X8.here hx rfl (hb hby d3_46) rfl ((if0 _ _).trans (teq ((lw_eq _ _).mpr hc10)).2) ?_
        show Steps p.tables e below (T8.setTop (mkF m 49 #[.val (.ref ob), .val (.int i), .val (.int (own_ix i)), .val (.long (own_bit i)), .second] [])) _
        refine XS.aloadN X8.here hx rfl (hb hby d3_49) rfl rfl ?_
        show Steps p.tables e below (T8.setTop (mkF m 50 #[.val (.ref ob), .val (.int i), .val (.int (own_ix i)), .val (.long (own_bit i)), .second] [(.ref ob)])) _
        refine st11 _ ?_
        show Steps p.tables e below (T11.setTop (mkF m 53 #[.val (.ref ob), .val (.int i), .val (.int (own_ix i)), .val (.long (own_bit i)), .second] [(.ref au)])) _
        refine XS.iloadN X11.here hx rfl (hb hby d3_53) rfl ?_
        show Steps p.tables e below (T11.setTop (mkF m 54 #[.val (.ref ob), .val (.int i), .val (.int (own_ix i)), .val (.long (own_bit i)), .second] [(.int (own_ix i)), (.ref au)])) _
        refine XS.bipush X11.here hx rfl (hb hby d3_54) ?_
        show Steps p.tables e below (T11.setTop (mkF m 56 #[.val (.ref ob), .val (.int i), .val (.int (own_ix i)), .val (.long (own_bit i)), .second] [(.int (6 : Int32)), (.int (own_ix i)), (.ref au)])) _
        refine XS.iushr X11.here hx rfl (hb hby d3_56) rfl ?_
        show Steps p.tables e below (T11.setTop (mkF m 57 #[.val (.ref ob), .val (.int i), .val (.int (own_ix i)), .val (.long (own_bit i)), .second] [(.int (own_ix (own_ix i))), (.ref au)])) _
        refine Jvm.Free.XT.dup2 X11.here hx rfl (hb hby d3_57) rfl rfl rfl ?_
        show Steps p.tables e below (T11.setTop (mkF m 58 #[.val (.ref ob), .val (.int i), .val (.int (own_ix i)), .val (.long (own_bit i)), .second] [(.int (own_ix (own_ix i))), (.ref au), (.int (own_ix (own_ix i))), (.ref au)])) _
        refine rdJ X11 hx hZ e11 (k1_6.other W7 (Ne.symm k1_n_aw_au)) (j := (own_ix (own_ix i))) hj rfl (g := (mkF m 58 #[.val (.ref ob), .val (.int i), .val (.int (own_ix i)), .val (.long (own_bit i)), .second] [(.int (own_ix (own_ix i))), (.ref au), (.int (own_ix (own_ix i))), (.ref au)])) rfl rfl (hb hby d3_58) _ ?_
        show Steps p.tables e below (T11.setTop (mkF m 59 #[.val (.ref ob), .val (.int i), .val (.int (own_ix i)), .val (.long (own_bit i)), .second] [(.long (u (own_ix (own_ix i)))), (.int (own_ix (own_ix i))), (.ref au)])) _
        refine XS.lconst X11.here hx rfl (hb hby d3_59) ?_
        show Steps p.tables e below (T11.setTop (mkF m 60 #[.val (.ref ob), .val (.int i), .val (.int (own_ix i)), .val (.long (own_bit i)), .second] [(.long (1 : Int64)), (.long (u (own_ix (own_ix i)))), (.int (own_ix (own_ix i))), (.ref au)])) _
        refine XS.iloadN X11.here hx rfl (hb hby d3_60) rfl ?_
        show Steps p.tables e below (T11.setTop (mkF m 61 #[.val (.ref ob), .val (.int i), .val (.int (own_ix i)), .val (.long (own_bit i)), .second] [(.int (own_ix i)), (.long (1 : Int64)), (.long (u (own_ix (own_ix i)))), (.int (own_ix (own_ix i))), (.ref au)])) _
        refine XS.lshl X11.here hx rfl (hb hby d3_61) rfl ?_
        show Steps p.tables e below (T11.setTop (mkF m 62 #[.val (.ref ob), .val (.int i), .val (.int (own_ix i)), .val (.long (own_bit i)), .second] [(.long (own_bit (own_ix i))), (.long (u (own_ix (own_ix i)))), (.int (own_ix (own_ix i))), (.ref au)])) _
        refine X11.ldc2Long hx hown (mvT hZ (hw _ (List.mem_of_getElem? (i := 44) rfl))) (g := (mkF m 62 #[.val (.ref ob), .val (.int i), .val (.int (own_ix i)), .val (.long (own_bit i)), .second] [(.long (own_bit (own_ix i))), (.long (u (own_ix (own_ix i)))), (.int (own_ix (own_ix i))), (.ref au)])) rfl (hb hby d3_62) _ ?_
        show Steps p.tables e below (T11.setTop (mkF m 65 #[.val (.ref ob), .val (.int i), .val (.int (own_ix i)), .val (.long (own_bit i)), .second] [(.long (-1 : Int64)), (.long (own_bit (own_ix i))), (.long (u (own_ix (own_ix i)))), (.int (own_ix (own_ix i))), (.ref au)])) _
        refine XS.lxor X11.here hx rfl (hb hby d3_65) rfl ?_
        show Steps p.tables e below (T11.setTop (mkF m 66 #[.val (.ref ob), .val (.int i), .val (.int (own_ix i)), .val (.long (own_bit i)), .second] [(.long ((own_bit (own_ix i)) ^^^ (-1 : Int64))), (.long (u (own_ix (own_ix i)))), (.int (own_ix (own_ix i))), (.ref au)])) _
        refine XS.land X11.here hx rfl (hb hby d3_66) rfl ?_
        show Steps p.tables e below (T11.setTop (mkF m 67 #[.val (.ref ob), .val (.int i), .val (.int (own_ix i)), .val (.long (own_bit i)), .second] [(.long ((u (own_ix (own_ix i))) &&& ((own_bit (own_ix i)) ^^^ (-1 : Int64)))), (.int (own_ix (own_ix i))), (.ref au)])) _
        refine st12 _ ?_
        show Steps p.tables e below (T12.setTop (mkF m 68 #[.val (.ref ob), .val (.int i), .val (.int (own_ix i)), .val (.long (own_bit i)), .second] [])) _
        refine XS.aloadN X12.here hx rfl (hb hby d3_68) rfl rfl ?_
        show Steps p.tables e below (T12.setTop (mkF m 69 #[.val (.ref ob), .val (.int i), .val (.int (own_ix i)), .val (.long (own_bit i)), .second] [(.ref ob)])) _
        refine XS.dup X12.here hx rfl (hb hby d3_69) rfl rfl ?_
        show Steps p.tables e below (T12.setTop (mkF m 70 #[.val (.ref ob), .val (.int i), .val (.int (own_ix i)), .val (.long (own_bit i)), .second] [(.ref ob), (.ref ob)])) _
        refine st13 _ ?_
        show Steps p.tables e below (T13.setTop (mkF m 73 #[.val (.ref ob), .val (.int i), .val (.int (own_ix i)), .val (.long (own_bit i)), .second] [(.int sz), (.ref ob)])) _
        refine XS.iconst X13.here hx rfl (hb hby d3_73) ?_
        show Steps p.tables e below (T13.setTop (mkF m 74 #[.val (.ref ob), .val (.int i), .val (.int (own_ix i)), .val (.long (own_bit i)), .second] [(.int (1 : Int32)), (.int sz), (.ref ob)])) _
        refine XS.isub X13.here hx rfl (hb hby d3_74) rfl ?_
        show Steps p.tables e below (T13.setTop (mkF m 75 #[.val (.ref ob), .val (.int i), .val (.int (own_ix i)), .val (.long (own_bit i)), .second] [(.int (sz - (1 : Int32))), (.ref ob)])) _
        refine st14 _ ?_
        show Steps p.tables e below (T14.setTop (mkF m 78 #[.val (.ref ob), .val (.int i), .val (.int (own_ix i)), .val (.long (own_bit i)), .second] [])) _
        refine XS.iconst X14.here hx rfl (hb hby d3_78) ?_
        exact k
      obtain ⟨fs, hr, hrun, hended, hW, hsame⟩ := X14.leave (v := some (.int (b2i (Frem i w)))) (fun h => by rw [Bd.returns] at h; cases h) (BodyLoose.notSynchronized Bd)
      refine ⟨_, _, pre18 _ ?_, hrun, hended, _, _, rfl, ?_, ⟨_, rfl⟩, hW, hsame.mono (by decide) (by decide)⟩
      · show Steps p.tables e below (T14.setTop (mkF m 79 #[.val (.ref ob), .val (.int i), .val (.int (own_ix i)), .val (.long (own_bit i)), .second] [(.int (1 : Int32))])) _
        have hr2 := hr
        rw [(show (Frem i w) = true from ((if_neg hc4).trans rfl))] at hr2
        exact retN X14 hx (t := .boolean) Bd.returns (by simp) (hb hby d3_79) hr2
      · show Q3 Z ob i aw au cap sz nw w nu u h0 n0 _ T14.heap _
        rw [e14]
        exact ⟨rfl, N14, ⟨(((k1_0.wr W7).wr W12).wr W14), f15, f16, f17, (by rw [(show (Frem_sz i sz w) = (sz - (1 : Int32)) from ((if_neg hc4).trans rfl))]; exact (((k1_4.other W7 (Or.inl k1_n_ob_aw)).other W12 (Or.inl k1_n_ob_au)).same W14)), (by rw [(show (Frem_w i w) = (@upA Int64 w (own_ix i) ((w (own_ix i)) &&& ((own_bit i) ^^^ (-1 : Int64)))) from ((if_neg hc4).trans rfl))]; exact ((V7.other W12 k1_n_aw_au).other W14 (Ne.symm k1_n_ob_aw))), (by rw [(show (Frem_u i w u) = (@upA Int64 u (own_ix (own_ix i)) ((u (own_ix (own_ix i))) &&& ((own_bit (own_ix i)) ^^^ (-1 : Int64)))) from ((if_neg hc4).trans ((if_pos hc10).trans rfl)))]; exact (V12.other W14 (Ne.symm k1_n_ob_au))), k1_g_ob, k1_g_aw, k1_g_au, k1_n_ob_aw, k1_n_ob_au, k1_n_aw_au, Z14⟩⟩
    ·
      obtain ⟨T19, X19, e19, st19⟩ := getF X8 hx hZ hown (host := "") (Or.inl (hw _ (List.mem_of_getElem? (i := 27) rfl))) Via.refl e8 (k1_4.other W7 (Or.inl k1_n_ob_aw)) (g := (mkF m 70 #[.val (.ref ob), .val (.int i), .val (.int (own_ix i)), .val (.long (own_bit i)), .second] [(.ref ob), (.ref ob)])) rfl rfl (hb hby d3_70)
      obtain ⟨T20, h20, X20, e20, W20, st20⟩ := putF X19 hx hZ hown (host := "") (Or.inl (hw _ (List.mem_of_getElem? (i := 27) rfl))) Via.refl e19 (k1_4.other W7 (Or.inl k1_n_ob_aw)) (k1_0.wr W7) (Or.inl (hw _ (List.mem_of_getElem? (i := 28) rfl))) (hw _ (List.mem_of_getElem? (i := 2) rfl)) (ty := .int) (by decide) rfl rfl (g := (mkF m 75 #[.val (.ref ob), .val (.int i), .val (.int (own_ix i)), .val (.long (own_bit i)), .second] [(.int (sz - (1 : Int32))), (.ref ob)])) rfl rfl (hb hby d3_75)
      have f21 := ((k1_1.other W7 (Or.inl k1_n_ob_aw)).other W20 (Or.inr (slot_ne (Or.inr (hw _ (List.mem_of_getElem? (i := 11) rfl))) (Or.inl (hw _ (List.mem_of_getElem? (i := 28) rfl))) (by decide) (t := .int) (t' := .int) (by decide) (by decide))))
      have f22 := ((k1_2.other W7 (Or.inl k1_n_ob_aw)).other W20 (Or.inr (slot_ne (Or.inr (hw _ (List.mem_of_getElem? (i := 14) rfl))) (Or.inl (hw _ (List.mem_of_getElem? (i := 28) rfl))) (by decide) (t := (.array .long)) (t' := .int) (by decide) (by decide))))
      have f23 := ((k1_3.other W7 (Or.inl k1_n_ob_aw)).other W20 (Or.inr (slot_ne (Or.inr (hw _ (List.mem_of_getElem? (i := 16) rfl))) (Or.inl (hw _ (List.mem_of_getElem? (i := 28) rfl))) (by decide) (t := (.array .long)) (t' := .int) (by decide) (by decide))))
      have Z20 : n0 ≤ h20.size := Nat.le_trans Z7 (Keep.of_wr W20).1
      have N20 := Fr.snoc X20 N7 k1_g_ob
      have pre24 : ∀ t, Steps p.tables e below (T20.setTop (mkF m 79 #[.val (.ref ob), .val (.int i), .val (.int (own_ix i)), .val (.long (own_bit i)), .second] [(.int (1 : Int32))])) t → Steps p.tables e below (s₁.setTop (entryFrame m #[(.ref ob), (.int i)] 5)) t := by
        intro t k
        refine pre9 t ?_
        show Steps p.tables e below (T8.setTop (mkF m 46 #[.val (.ref ob), .val (.int i), .val (.int (own_ix i)), .val (.long (own_bit i)), .second] [(.int (lcmpW ((w (own_ix i)) &&& ((own_bit i) ^^^ (-1 : Int64))) (0 : Int64)))])) _
        refine XS.ifYes X8.here hx rfl (pc0 := 46) (pc' := 68) rfl (hb hby d3_46) rfl ((if0 _ _).trans (feq (fun q => hc10 ((lw_eq _ _).mp q))).2) (by decide) (by decide) ?_
        show Steps p.tables e below (T8.setTop (mkF m 68 #[.val (.ref ob), .val (.int i), .val (.int (own_ix i)), .val (.long (own_bit i)), .second] [])) _
        refine XS.aloadN X8.here hx rfl (hb hby d3_68) rfl rfl ?_
        show Steps p.tables e below (T8.setTop (mkF m 69 #[.val (.ref ob), .val (.int i), .val (.int (own_ix i)), .val (.long (own_bit i)), .second] [(.ref ob)])) _
        refine XS.dup X8.here hx rfl (hb hby d3_69) rfl rfl ?_
        show Steps p.tables e below (T8.setTop (mkF m 70 #[.val (.ref ob), .val (.int i), .val (.int (own_ix i)), .val (.long (own_bit i)), .second] [(.ref ob), (.ref ob)])) _
        refine st19 _ ?_
        show Steps p.tables e below (T19.setTop (mkF m 73 #[.val (.ref ob), .val (.int i), .val (.int (own_ix i)), .val (.long (own_bit i)), .second] [(.int sz), (.ref ob)])) _
        refine XS.iconst X19.here hx rfl (hb hby d3_73) ?_
        show Steps p.tables e below (T19.setTop (mkF m 74 #[.val (.ref ob), .val (.int i), .val (.int (own_ix i)), .val (.long (own_bit i)), .second] [(.int (1 : Int32)), (.int sz), (.ref ob)])) _
        refine XS.isub X19.here hx rfl (hb hby d3_74) rfl ?_
        show Steps p.tables e below (T19.setTop (mkF m 75 #[.val (.ref ob), .val (.int i), .val (.int (own_ix i)), .val (.long (own_bit i)), .second] [(.int (sz - (1 : Int32))), (.ref ob)])) _
        refine st20 _ ?_
        show Steps p.tables e below (T20.setTop (mkF m 78 #[.val (.ref ob), .val (.int i), .val (.int (own_ix i)), .val (.long (own_bit i)), .second] [])) _
        refine XS.iconst X20.here hx rfl (hb hby d3_78) ?_
        exact k
      obtain ⟨fs, hr, hrun, hended, hW, hsame⟩ := X20.leave (v := some (.int (b2i (Frem i w)))) (fun h => by rw [Bd.returns] at h; cases h) (BodyLoose.notSynchronized Bd)
      refine ⟨_, _, pre24 _ ?_, hrun, hended, _, _, rfl, ?_, ⟨_, rfl⟩, hW, hsame.mono (by decide) (by decide)⟩
      · show Steps p.tables e below (T20.setTop (mkF m 79 #[.val (.ref ob), .val (.int i), .val (.int (own_ix i)), .val (.long (own_bit i)), .second] [(.int (1 : Int32))])) _
        have hr2 := hr
        rw [(show (Frem i w) = true from ((if_neg hc4).trans rfl))] at hr2
        exact retN X20 hx (t := .boolean) Bd.returns (by simp) (hb hby d3_79) hr2
      · show Q3 Z ob i aw au cap sz nw w nu u h0 n0 _ T20.heap _
        rw [e20]
        exact ⟨rfl, N20, ⟨((k1_0.wr W7).wr W20), f21, f22, f23, (by rw [(show (Frem_sz i sz w) = (sz - (1 : Int32)) from ((if_neg hc4).trans rfl))]; exact ((k1_4.other W7 (Or.inl k1_n_ob_aw)).same W20)), (by rw [(show (Frem_w i w) = (@upA Int64 w (own_ix i) ((w (own_ix i)) &&& ((own_bit i) ^^^ (-1 : Int64)))) from ((if_neg hc4).trans rfl))]; exact (V7.other W20 (Ne.symm k1_n_ob_aw))), (by rw [(show (Frem_u i w u) = u from ((if_neg hc4).trans ((if_neg hc10).trans rfl)))]; exact ((k1_6.other W7 (Ne.symm k1_n_aw_au)).other W20 (Ne.symm k1_n_ob_au))), k1_g_ob, k1_g_aw, k1_g_au, k1_n_ob_aw, k1_n_ob_au, k1_n_aw_au, Z20⟩⟩
theorem d4_0 : decode prog_16_method_2_code 0 = .ok (.aload_n 0, 1) := by decide +kernel
theorem d4_1 : decode prog_16_method_2_code 1 = .ok (.getfield 20, 3) := by decide +kernel
theorem d4_4 : decode prog_16_method_2_code 4 = .ok (.ireturn, 1) := by decide +kernel
theorem ef_4 (m : MethodId) (x0 : Addr) : entryFrame m #[(.ref x0)] 1 = mkF m 0 #[.val (.ref x0)] [] := by first | (simp [entryFrame, mkF, argsToLocals, Value.category]; done) | rfl
def Fsize (sz : Int32) : Int32 := sz
def Q4 (Z : State) (ob : Addr) (aw : Addr) (au : Addr) (cap : Int32) (sz : Int32) (nw : Int32) (w : Int32 → Int64) (nu : Int32) (u : Int32 → Int64) (h0 : Heap) (n0 : Nat) (v : Option Value) (h : Heap) (L : List Loc) : Prop := v = some (.int (Fsize sz)) ∧ Fr n0 L ∧ h = h0
set_option maxRecDepth 65536 in
set_option maxHeartbeats 40000000 in
theorem rm4 (l : Launch) (Z : State) (a0 : Array Value) (hw : ∀ d ∈ tables_1, d.before a0 Z = true) (ws : List Jvm.Cond) (ob : Addr) (aw : Addr) (au : Addr) (cap : Int32) (sz : Int32) (nw : Int32) (w : Int32 → Int64) (nu : Int32) (u : Int32 → Int64) (h0 : Heap) (n0 : Nat) (Z0 : n0 ≤ h0.size) (I0 : IS Z h0 n0 ob aw au cap sz nw w nu u) :
    MetFree l (⟨"com/example/cutline/cutline/IndexSet", "size", "()I"⟩ : MethodName) (head1 (Jvm.Cond.code (⟨"com/example/cutline/cutline/IndexSet", "size", "()I"⟩ : MethodName) prog_16_method_2_code 1 (some .int) :: ws) ({ frames := 0, cells := 0, slots := 0, locals := 0 } : Room)) (fun a U => a = #[(.ref ob)] ∧ Z.Warmed39 U.vm ∧ U.heap = h0) (fun _ _ _ _ _ => True) (fun _ U o U' => ∃ v L, o = .returned v ∧ Q4 Z ob aw au cap sz nw w nu u h0 n0 v U'.heap L ∧ FrameEnd U o U' L ({ frames := 0, cells := 0, slots := 0, locals := 0 } : Room).cells ({ frames := 0, cells := 0, slots := 0, locals := 0 } : Room).slots) := by
  refine MetFree.of_bodySF (plainFor_of_name pn_1) hisR ?_
  intro p e s m args below meth c s₁ Bd hml0 hP hK
  obtain ⟨rfl, hZ, hh⟩ := hP
  have hx := Bd.exec
  have hby := Bd.bytes
  have hml : c.maxLocals = 1 := hml0
  have hown : s.vm.findClass "com/example/cutline/cutline/IndexSet" = some m.cls := findClass_of_methodNamed Bd.named
  have hnm := (name_of_methodNamed Bd.named Bd.method).1
  have X0 : Stand p l e ({ frames := 0, cells := 0, slots := 0, locals := 0 } : Room) s m #[(.ref ob)] below meth c s₁ [] 0 0 := Stand.of_body Bd
  have e0 : s₁.heap = h0 := by rw [← hh, Bd.state]; rfl
  have N0 := Fr.nil n0
  have pre0 : ∀ t, Steps p.tables e below (s₁.setTop (mkF m 0 #[.val (.ref ob)] [])) t → Steps p.tables e below (s₁.setTop (entryFrame m #[(.ref ob)] 1)) t := fun t k => castTop (ef_4 m ob) k
  obtain ⟨k1_0, k1_1, k1_2, k1_3, k1_4, k1_5, k1_6, k1_g_ob, k1_g_aw, k1_g_au, k1_n_ob_aw, k1_n_ob_au, k1_n_aw_au, k1_sz⟩ := I0
  obtain ⟨T2, X2, e2, st2⟩ := getF X0 hx hZ hown (host := "") (Or.inl (hw _ (List.mem_of_getElem? (i := 27) rfl))) Via.refl e0 k1_4 (g := (mkF m 1 #[.val (.ref ob)] [(.ref ob)])) rfl rfl (hb hby d4_1)
  have pre3 : ∀ t, Steps p.tables e below (T2.setTop (mkF m 4 #[.val (.ref ob)] [(.int sz)])) t → Steps p.tables e below (s₁.setTop (entryFrame m #[(.ref ob)] 1)) t := by
    intro t k
    refine pre0 t ?_
    show Steps p.tables e below (s₁.setTop (mkF m 0 #[.val (.ref ob)] [])) _
    refine XS.aloadN X0.here hx rfl (hb hby d4_0) rfl rfl ?_
    show Steps p.tables e below (s₁.setTop (mkF m 1 #[.val (.ref ob)] [(.ref ob)])) _
    refine st2 _ ?_
    exact k
  obtain ⟨fs, hr, hrun, hended, hW, hsame⟩ := X2.leave (v := some (.int (Fsize sz))) (fun h => by rw [Bd.returns] at h; cases h) (BodyLoose.notSynchronized Bd)
  refine ⟨_, _, pre3 _ ?_, hrun, hended, _, _, rfl, ?_, ⟨_, rfl⟩, hW, hsame.mono (by decide) (by decide)⟩
  · show Steps p.tables e below (T2.setTop (mkF m 4 #[.val (.ref ob)] [(.int sz)])) _
    have hr2 := hr
    rw [(show (Fsize sz) = sz from rfl)] at hr2
    exact retI X2 hx Bd.returns (hb hby d4_4) hr2
  · show Q4 Z ob aw au cap sz nw w nu u h0 n0 _ T2.heap _
    rw [e2]
    exact ⟨rfl, N0, rfl⟩
theorem d5_0 : decode prog_16_method_3_code 0 = .ok (.aload_n 0, 1) := by decide +kernel
theorem d5_1 : decode prog_16_method_3_code 1 = .ok (.getfield 13, 3) := by decide +kernel
theorem d5_4 : decode prog_16_method_3_code 4 = .ok (.iload_n 1, 1) := by decide +kernel
theorem d5_5 : decode prog_16_method_3_code 5 = .ok (.bipush 6, 2) := by decide +kernel
theorem d5_7 : decode prog_16_method_3_code 7 = .ok (.iushr, 1) := by decide +kernel
theorem d5_8 : decode prog_16_method_3_code 8 = .ok (.laload, 1) := by decide +kernel
theorem d5_9 : decode prog_16_method_3_code 9 = .ok (.lconst 1, 1) := by decide +kernel
theorem d5_10 : decode prog_16_method_3_code 10 = .ok (.iload_n 1, 1) := by decide +kernel
theorem d5_11 : decode prog_16_method_3_code 11 = .ok (.lshl, 1) := by decide +kernel
theorem d5_12 : decode prog_16_method_3_code 12 = .ok (.land, 1) := by decide +kernel
theorem d5_13 : decode prog_16_method_3_code 13 = .ok (.lconst 0, 1) := by decide +kernel
theorem d5_14 : decode prog_16_method_3_code 14 = .ok (.lcmp, 1) := by decide +kernel
theorem d5_15 : decode prog_16_method_3_code 15 = .ok (.ifCond .eq 7, 3) := by decide +kernel
theorem d5_18 : decode prog_16_method_3_code 18 = .ok (.iconst 1, 1) := by decide +kernel
theorem d5_19 : decode prog_16_method_3_code 19 = .ok (.goto 4, 3) := by decide +kernel
theorem d5_22 : decode prog_16_method_3_code 22 = .ok (.iconst 0, 1) := by decide +kernel
theorem d5_23 : decode prog_16_method_3_code 23 = .ok (.ireturn, 1) := by decide +kernel
theorem ef_5 (m : MethodId) (x0 : Addr) (x1 : Int32) : entryFrame m #[(.ref x0), (.int x1)] 2 = mkF m 0 #[.val (.ref x0), .val (.int x1)] [] := by first | (simp [entryFrame, mkF, argsToLocals, Value.category]; done) | rfl
def Fcon (i : Int32) (w : Int32 → Int64) : Bool := (if ((w (own_ix i)) &&& (own_bit i)) = (0 : Int64) then false else true)
def Q5 (Z : State) (ob : Addr) (i : Int32) (aw : Addr) (au : Addr) (cap : Int32) (sz : Int32) (nw : Int32) (w : Int32 → Int64) (nu : Int32) (u : Int32 → Int64) (h0 : Heap) (n0 : Nat) (v : Option Value) (h : Heap) (L : List Loc) : Prop := v = some (.int (b2i (Fcon i w))) ∧ Fr n0 L ∧ h = h0
set_option maxRecDepth 65536 in
set_option maxHeartbeats 40000000 in
theorem rm5 (l : Launch) (Z : State) (a0 : Array Value) (hw : ∀ d ∈ tables_1, d.before a0 Z = true) (ws : List Jvm.Cond) (ob : Addr) (i : Int32) (aw : Addr) (au : Addr) (cap : Int32) (sz : Int32) (nw : Int32) (w : Int32 → Int64) (nu : Int32) (u : Int32 → Int64) (h0 : Heap) (n0 : Nat) (Z0 : n0 ≤ h0.size) (I0 : IS Z h0 n0 ob aw au cap sz nw w nu u) (hi : ¬ (own_ix i) < 0 ∧ (own_ix i) < nw) :
    MetFree l (⟨"com/example/cutline/cutline/IndexSet", "contains", "(I)Z"⟩ : MethodName) (head1 (Jvm.Cond.code (⟨"com/example/cutline/cutline/IndexSet", "contains", "(I)Z"⟩ : MethodName) prog_16_method_3_code 2 (some .boolean) :: ws) ({ frames := 0, cells := 0, slots := 0, locals := 0 } : Room)) (fun a U => a = #[(.ref ob), (.int i)] ∧ Z.Warmed39 U.vm ∧ U.heap = h0) (fun _ _ _ _ _ => True) (fun _ U o U' => ∃ v L, o = .returned v ∧ Q5 Z ob i aw au cap sz nw w nu u h0 n0 v U'.heap L ∧ FrameEnd U o U' L ({ frames := 0, cells := 0, slots := 0, locals := 0 } : Room).cells ({ frames := 0, cells := 0, slots := 0, locals := 0 } : Room).slots) := by
  refine MetFree.of_bodySF (plainFor_of_name pn_1) hisR ?_
  intro p e s m args below meth c s₁ Bd hml0 hP hK
  obtain ⟨rfl, hZ, hh⟩ := hP
  have hx := Bd.exec
  have hby := Bd.bytes
  have hml : c.maxLocals = 2 := hml0
  have hown : s.vm.findClass "com/example/cutline/cutline/IndexSet" = some m.cls := findClass_of_methodNamed Bd.named
  have hnm := (name_of_methodNamed Bd.named Bd.method).1
  have X0 : Stand p l e ({ frames := 0, cells := 0, slots := 0, locals := 0 } : Room) s m #[(.ref ob), (.int i)] below meth c s₁ [] 0 0 := Stand.of_body Bd
  have e0 : s₁.heap = h0 := by rw [← hh, Bd.state]; rfl
  have N0 := Fr.nil n0
  have pre0 : ∀ t, Steps p.tables e below (s₁.setTop (mkF m 0 #[.val (.ref ob), .val (.int i)] [])) t → Steps p.tables e below (s₁.setTop (entryFrame m #[(.ref ob), (.int i)] 2)) t := fun t k => castTop (ef_5 m ob i) k
  obtain ⟨k1_0, k1_1, k1_2, k1_3, k1_4, k1_5, k1_6, k1_g_ob, k1_g_aw, k1_g_au, k1_n_ob_aw, k1_n_ob_au, k1_n_aw_au, k1_sz⟩ := I0
  obtain ⟨T2, X2, e2, st2⟩ := getF X0 hx hZ hown (host := "") (Or.inl (hw _ (List.mem_of_getElem? (i := 13) rfl))) Via.refl e0 k1_2 (g := (mkF m 1 #[.val (.ref ob), .val (.int i)] [(.ref ob)])) rfl rfl (hb hby d5_1)
  have pre3 : ∀ t, Steps p.tables e below (T2.setTop (mkF m 15 #[.val (.ref ob), .val (.int i)] [(.int (lcmpW ((w (own_ix i)) &&& (own_bit i)) (0 : Int64)))])) t → Steps p.tables e below (s₁.setTop (entryFrame m #[(.ref ob), (.int i)] 2)) t := by
    intro t k
    refine pre0 t ?_
    show Steps p.tables e below (s₁.setTop (mkF m 0 #[.val (.ref ob), .val (.int i)] [])) _
    refine XS.aloadN X0.here hx rfl (hb hby d5_0) rfl rfl ?_
    show Steps p.tables e below (s₁.setTop (mkF m 1 #[.val (.ref ob), .val (.int i)] [(.ref ob)])) _
    refine st2 _ ?_
    show Steps p.tables e below (T2.setTop (mkF m 4 #[.val (.ref ob), .val (.int i)] [(.ref aw)])) _
    refine XS.iloadN X2.here hx rfl (hb hby d5_4) rfl ?_
    show Steps p.tables e below (T2.setTop (mkF m 5 #[.val (.ref ob), .val (.int i)] [(.int i), (.ref aw)])) _
    refine XS.bipush X2.here hx rfl (hb hby d5_5) ?_
    show Steps p.tables e below (T2.setTop (mkF m 7 #[.val (.ref ob), .val (.int i)] [(.int (6 : Int32)), (.int i), (.ref aw)])) _
    refine XS.iushr X2.here hx rfl (hb hby d5_7) rfl ?_
    show Steps p.tables e below (T2.setTop (mkF m 8 #[.val (.ref ob), .val (.int i)] [(.int (own_ix i)), (.ref aw)])) _
    refine rdJ X2 hx hZ e2 k1_5 (j := (own_ix i)) hi rfl (g := (mkF m 8 #[.val (.ref ob), .val (.int i)] [(.int (own_ix i)), (.ref aw)])) rfl rfl (hb hby d5_8) _ ?_
    show Steps p.tables e below (T2.setTop (mkF m 9 #[.val (.ref ob), .val (.int i)] [(.long (w (own_ix i)))])) _
    refine XS.lconst X2.here hx rfl (hb hby d5_9) ?_
    show Steps p.tables e below (T2.setTop (mkF m 10 #[.val (.ref ob), .val (.int i)] [(.long (1 : Int64)), (.long (w (own_ix i)))])) _
    refine XS.iloadN X2.here hx rfl (hb hby d5_10) rfl ?_
    show Steps p.tables e below (T2.setTop (mkF m 11 #[.val (.ref ob), .val (.int i)] [(.int i), (.long (1 : Int64)), (.long (w (own_ix i)))])) _
    refine XS.lshl X2.here hx rfl (hb hby d5_11) rfl ?_
    show Steps p.tables e below (T2.setTop (mkF m 12 #[.val (.ref ob), .val (.int i)] [(.long (own_bit i)), (.long (w (own_ix i)))])) _
    refine XS.land X2.here hx rfl (hb hby d5_12) rfl ?_
    show Steps p.tables e below (T2.setTop (mkF m 13 #[.val (.ref ob), .val (.int i)] [(.long ((w (own_ix i)) &&& (own_bit i)))])) _
    refine XS.lconst X2.here hx rfl (hb hby d5_13) ?_
    show Steps p.tables e below (T2.setTop (mkF m 14 #[.val (.ref ob), .val (.int i)] [(.long (0 : Int64)), (.long ((w (own_ix i)) &&& (own_bit i)))])) _
    refine XS.lcmp X2.here hx rfl (hb hby d5_14) rfl ?_
    exact k
  have pre4 : ∀ t, Steps p.tables e below (T2.setTop (mkF m 23 #[.val (.ref ob), .val (.int i)] [(.int (b2i (if ((w (own_ix i)) &&& (own_bit i)) = (0 : Int64) then false else true)))])) t → Steps p.tables e below (s₁.setTop (entryFrame m #[(.ref ob), (.int i)] 2)) t := by
    intro t k
    refine pre3 t ?_
    have k : ∀ (v1 : Bool), v1 = (if ((w (own_ix i)) &&& (own_bit i)) = (0 : Int64) then false else true) → Steps p.tables e below (T2.setTop (mkF m 23 #[.val (.ref ob), .val (.int i)] [(.int (b2i v1))])) t := fun v1 hv1 => by subst hv1; exact k
    show Steps p.tables e below (T2.setTop (mkF m 15 #[.val (.ref ob), .val (.int i)] [(.int (lcmpW ((w (own_ix i)) &&& (own_bit i)) (0 : Int64)))])) _
    by_cases hc5 : ((w (own_ix i)) &&& (own_bit i)) = (0 : Int64)
    · refine XS.ifYes X2.here hx rfl (pc0 := 15) (pc' := 22) rfl (hb hby d5_15) rfl ((if0 _ _).trans (teq ((lw_eq _ _).mpr hc5)).1) (by decide) (by decide) ?_
      have k : ∀ (v1 : Bool), v1 = false → Steps p.tables e below (T2.setTop (mkF m 23 #[.val (.ref ob), .val (.int i)] [(.int (b2i v1))])) t := fun v1 hv1 => k v1 (hv1.trans (if_pos hc5).symm)
      show Steps p.tables e below (T2.setTop (mkF m 22 #[.val (.ref ob), .val (.int i)] [])) _
      refine XS.iconst X2.here hx rfl (hb hby d5_22) ?_
      exact k false rfl
    · refine XS.ifNo X2.here hx rfl (hb hby d5_15) rfl ((if0 _ _).trans (feq (fun q => hc5 ((lw_eq _ _).mp q))).1) ?_
      have k : ∀ (v1 : Bool), v1 = true → Steps p.tables e below (T2.setTop (mkF m 23 #[.val (.ref ob), .val (.int i)] [(.int (b2i v1))])) t := fun v1 hv1 => k v1 (hv1.trans (if_neg hc5).symm)
      show Steps p.tables e below (T2.setTop (mkF m 18 #[.val (.ref ob), .val (.int i)] [])) _
      refine XS.iconst X2.here hx rfl (hb hby d5_18) ?_
      show Steps p.tables e below (T2.setTop (mkF m 19 #[.val (.ref ob), .val (.int i)] [(.int (1 : Int32))])) _
      refine XS.goto X2.here hx rfl (pc0 := 19) (pc' := 23) rfl (hb hby d5_19) (by decide) (by decide) ?_
      exact k true rfl
  obtain ⟨fs, hr, hrun, hended, hW, hsame⟩ := X2.leave (v := some (.int (b2i (Fcon i w)))) (fun h => by rw [Bd.returns] at h; cases h) (BodyLoose.notSynchronized Bd)
  refine ⟨_, _, pre4 _ ?_, hrun, hended, _, _, rfl, ?_, ⟨_, rfl⟩, hW, hsame.mono (by decide) (by decide)⟩
  · show Steps p.tables e below (T2.setTop (mkF m 23 #[.val (.ref ob), .val (.int i)] [(.int (b2i (if ((w (own_ix i)) &&& (own_bit i)) = (0 : Int64) then false else true)))])) _
    have hr2 := hr
    rw [(show (Fcon i w) = (if ((w (own_ix i)) &&& (own_bit i)) = (0 : Int64) then false else true) from rfl)] at hr2
    exact retN X2 hx (t := .boolean) Bd.returns (by simp) (hb hby d5_23) (by rw [nar_b2i]; exact hr2)
  · show Q5 Z ob i aw au cap sz nw w nu u h0 n0 _ T2.heap _
    rw [e2]
    exact ⟨rfl, N0, rfl⟩
theorem d9_0 : decode jdk_33_method_48_code 0 = .ok (.iload_n 0, 1) := by decide +kernel
theorem d9_1 : decode jdk_33_method_48_code 1 = .ok (.iconst (-1), 1) := by decide +kernel
theorem d9_2 : decode jdk_33_method_48_code 2 = .ok (.ixor, 1) := by decide +kernel
theorem d9_3 : decode jdk_33_method_48_code 3 = .ok (.iload_n 0, 1) := by decide +kernel
theorem d9_4 : decode jdk_33_method_48_code 4 = .ok (.iconst 1, 1) := by decide +kernel
theorem d9_5 : decode jdk_33_method_48_code 5 = .ok (.isub, 1) := by decide +kernel
theorem d9_6 : decode jdk_33_method_48_code 6 = .ok (.iand, 1) := by decide +kernel
theorem d9_7 : decode jdk_33_method_48_code 7 = .ok (.istore_n 0, 1) := by decide +kernel
theorem d9_8 : decode jdk_33_method_48_code 8 = .ok (.iload_n 0, 1) := by decide +kernel
theorem d9_9 : decode jdk_33_method_48_code 9 = .ok (.ifCond .gt 8, 3) := by decide +kernel
theorem d9_12 : decode jdk_33_method_48_code 12 = .ok (.iload_n 0, 1) := by decide +kernel
theorem d9_13 : decode jdk_33_method_48_code 13 = .ok (.bipush 32, 2) := by decide +kernel
theorem d9_15 : decode jdk_33_method_48_code 15 = .ok (.iand, 1) := by decide +kernel
theorem d9_16 : decode jdk_33_method_48_code 16 = .ok (.ireturn, 1) := by decide +kernel
theorem d9_17 : decode jdk_33_method_48_code 17 = .ok (.iconst 1, 1) := by decide +kernel
theorem d9_18 : decode jdk_33_method_48_code 18 = .ok (.istore_n 1, 1) := by decide +kernel
theorem d9_19 : decode jdk_33_method_48_code 19 = .ok (.iload_n 0, 1) := by decide +kernel
theorem d9_20 : decode jdk_33_method_48_code 20 = .ok (.ldc_w 264, 3) := by decide +kernel
theorem d9_23 : decode jdk_33_method_48_code 23 = .ok (.if_icmp .le 11, 3) := by decide +kernel
theorem d9_26 : decode jdk_33_method_48_code 26 = .ok (.iinc 1 16, 3) := by decide +kernel
theorem d9_29 : decode jdk_33_method_48_code 29 = .ok (.iload_n 0, 1) := by decide +kernel
theorem d9_30 : decode jdk_33_method_48_code 30 = .ok (.bipush 16, 2) := by decide +kernel
theorem d9_32 : decode jdk_33_method_48_code 32 = .ok (.iushr, 1) := by decide +kernel
theorem d9_33 : decode jdk_33_method_48_code 33 = .ok (.istore_n 0, 1) := by decide +kernel
theorem d9_34 : decode jdk_33_method_48_code 34 = .ok (.iload_n 0, 1) := by decide +kernel
theorem d9_35 : decode jdk_33_method_48_code 35 = .ok (.sipush 256, 3) := by decide +kernel
theorem d9_38 : decode jdk_33_method_48_code 38 = .ok (.if_icmp .le 11, 3) := by decide +kernel
theorem d9_41 : decode jdk_33_method_48_code 41 = .ok (.iinc 1 8, 3) := by decide +kernel
theorem d9_44 : decode jdk_33_method_48_code 44 = .ok (.iload_n 0, 1) := by decide +kernel
theorem d9_45 : decode jdk_33_method_48_code 45 = .ok (.bipush 8, 2) := by decide +kernel
theorem d9_47 : decode jdk_33_method_48_code 47 = .ok (.iushr, 1) := by decide +kernel
theorem d9_48 : decode jdk_33_method_48_code 48 = .ok (.istore_n 0, 1) := by decide +kernel
theorem d9_49 : decode jdk_33_method_48_code 49 = .ok (.iload_n 0, 1) := by decide +kernel
theorem d9_50 : decode jdk_33_method_48_code 50 = .ok (.bipush 16, 2) := by decide +kernel
theorem d9_52 : decode jdk_33_method_48_code 52 = .ok (.if_icmp .le 10, 3) := by decide +kernel
theorem d9_55 : decode jdk_33_method_48_code 55 = .ok (.iinc 1 4, 3) := by decide +kernel
theorem d9_58 : decode jdk_33_method_48_code 58 = .ok (.iload_n 0, 1) := by decide +kernel
theorem d9_59 : decode jdk_33_method_48_code 59 = .ok (.iconst 4, 1) := by decide +kernel
theorem d9_60 : decode jdk_33_method_48_code 60 = .ok (.iushr, 1) := by decide +kernel
theorem d9_61 : decode jdk_33_method_48_code 61 = .ok (.istore_n 0, 1) := by decide +kernel
theorem d9_62 : decode jdk_33_method_48_code 62 = .ok (.iload_n 0, 1) := by decide +kernel
theorem d9_63 : decode jdk_33_method_48_code 63 = .ok (.iconst 4, 1) := by decide +kernel
theorem d9_64 : decode jdk_33_method_48_code 64 = .ok (.if_icmp .le 10, 3) := by decide +kernel
theorem d9_67 : decode jdk_33_method_48_code 67 = .ok (.iinc 1 2, 3) := by decide +kernel
theorem d9_70 : decode jdk_33_method_48_code 70 = .ok (.iload_n 0, 1) := by decide +kernel
theorem d9_71 : decode jdk_33_method_48_code 71 = .ok (.iconst 2, 1) := by decide +kernel
theorem d9_72 : decode jdk_33_method_48_code 72 = .ok (.iushr, 1) := by decide +kernel
theorem d9_73 : decode jdk_33_method_48_code 73 = .ok (.istore_n 0, 1) := by decide +kernel
theorem d9_74 : decode jdk_33_method_48_code 74 = .ok (.iload_n 1, 1) := by decide +kernel
theorem d9_75 : decode jdk_33_method_48_code 75 = .ok (.iload_n 0, 1) := by decide +kernel
theorem d9_76 : decode jdk_33_method_48_code 76 = .ok (.iconst 1, 1) := by decide +kernel
theorem d9_77 : decode jdk_33_method_48_code 77 = .ok (.iushr, 1) := by decide +kernel
theorem d9_78 : decode jdk_33_method_48_code 78 = .ok (.iadd, 1) := by decide +kernel
theorem d9_79 : decode jdk_33_method_48_code 79 = .ok (.ireturn, 1) := by decide +kernel
theorem pn_9 : plainName "java/lang/Integer" = true := by first | (simp [plainName, overriddenIn]; done) | decide +kernel
theorem ef_9 (m : MethodId) (x0 : Int32) : entryFrame m #[(.int x0)] 2 = mkF m 0 #[.val (.int x0), .unset] [] := by first | (simp [entryFrame, mkF, argsToLocals, Value.category]; done) | rfl
def Fmask (xi : Int32) : Int32 := ((xi ^^^ (-1 : Int32)) &&& (xi - (1 : Int32)))
def Fntz (xi : Int32) : Int32 := (if (0 : Int32) < (Fmask xi) then (if (65536 : Int32) < (Fmask xi) then (if (256 : Int32) < (((Fmask xi).toUInt32 >>> ((16 : Int32) &&& 31).toUInt32).toInt32) then (if (16 : Int32) < (((((Fmask xi).toUInt32 >>> ((16 : Int32) &&& 31).toUInt32).toInt32).toUInt32 >>> ((8 : Int32) &&& 31).toUInt32).toInt32) then (if (4 : Int32) < (((((((Fmask xi).toUInt32 >>> ((16 : Int32) &&& 31).toUInt32).toInt32).toUInt32 >>> ((8 : Int32) &&& 31).toUInt32).toInt32).toUInt32 >>> ((4 : Int32) &&& 31).toUInt32).toInt32) then ((31 : Int32) + (((((((((((Fmask xi).toUInt32 >>> ((16 : Int32) &&& 31).toUInt32).toInt32).toUInt32 >>> ((8 : Int32) &&& 31).toUInt32).toInt32).toUInt32 >>> ((4 : Int32) &&& 31).toUInt32).toInt32).toUInt32 >>> ((2 : Int32) &&& 31).toUInt32).toInt32).toUInt32 >>> ((1 : Int32) &&& 31).toUInt32).toInt32)) else ((29 : Int32) + (((((((((Fmask xi).toUInt32 >>> ((16 : Int32) &&& 31).toUInt32).toInt32).toUInt32 >>> ((8 : Int32) &&& 31).toUInt32).toInt32).toUInt32 >>> ((4 : Int32) &&& 31).toUInt32).toInt32).toUInt32 >>> ((1 : Int32) &&& 31).toUInt32).toInt32))) else (if (4 : Int32) < (((((Fmask xi).toUInt32 >>> ((16 : Int32) &&& 31).toUInt32).toInt32).toUInt32 >>> ((8 : Int32) &&& 31).toUInt32).toInt32) then ((27 : Int32) + (((((((((Fmask xi).toUInt32 >>> ((16 : Int32) &&& 31).toUInt32).toInt32).toUInt32 >>> ((8 : Int32) &&& 31).toUInt32).toInt32).toUInt32 >>> ((2 : Int32) &&& 31).toUInt32).toInt32).toUInt32 >>> ((1 : Int32) &&& 31).toUInt32).toInt32)) else ((25 : Int32) + (((((((Fmask xi).toUInt32 >>> ((16 : Int32) &&& 31).toUInt32).toInt32).toUInt32 >>> ((8 : Int32) &&& 31).toUInt32).toInt32).toUInt32 >>> ((1 : Int32) &&& 31).toUInt32).toInt32)))) else (if (16 : Int32) < (((Fmask xi).toUInt32 >>> ((16 : Int32) &&& 31).toUInt32).toInt32) then (if (4 : Int32) < (((((Fmask xi).toUInt32 >>> ((16 : Int32) &&& 31).toUInt32).toInt32).toUInt32 >>> ((4 : Int32) &&& 31).toUInt32).toInt32) then ((23 : Int32) + (((((((((Fmask xi).toUInt32 >>> ((16 : Int32) &&& 31).toUInt32).toInt32).toUInt32 >>> ((4 : Int32) &&& 31).toUInt32).toInt32).toUInt32 >>> ((2 : Int32) &&& 31).toUInt32).toInt32).toUInt32 >>> ((1 : Int32) &&& 31).toUInt32).toInt32)) else ((21 : Int32) + (((((((Fmask xi).toUInt32 >>> ((16 : Int32) &&& 31).toUInt32).toInt32).toUInt32 >>> ((4 : Int32) &&& 31).toUInt32).toInt32).toUInt32 >>> ((1 : Int32) &&& 31).toUInt32).toInt32))) else (if (4 : Int32) < (((Fmask xi).toUInt32 >>> ((16 : Int32) &&& 31).toUInt32).toInt32) then ((19 : Int32) + (((((((Fmask xi).toUInt32 >>> ((16 : Int32) &&& 31).toUInt32).toInt32).toUInt32 >>> ((2 : Int32) &&& 31).toUInt32).toInt32).toUInt32 >>> ((1 : Int32) &&& 31).toUInt32).toInt32)) else ((17 : Int32) + (((((Fmask xi).toUInt32 >>> ((16 : Int32) &&& 31).toUInt32).toInt32).toUInt32 >>> ((1 : Int32) &&& 31).toUInt32).toInt32))))) else (if (256 : Int32) < (Fmask xi) then (if (16 : Int32) < (((Fmask xi).toUInt32 >>> ((8 : Int32) &&& 31).toUInt32).toInt32) then (if (4 : Int32) < (((((Fmask xi).toUInt32 >>> ((8 : Int32) &&& 31).toUInt32).toInt32).toUInt32 >>> ((4 : Int32) &&& 31).toUInt32).toInt32) then ((15 : Int32) + (((((((((Fmask xi).toUInt32 >>> ((8 : Int32) &&& 31).toUInt32).toInt32).toUInt32 >>> ((4 : Int32) &&& 31).toUInt32).toInt32).toUInt32 >>> ((2 : Int32) &&& 31).toUInt32).toInt32).toUInt32 >>> ((1 : Int32) &&& 31).toUInt32).toInt32)) else ((13 : Int32) + (((((((Fmask xi).toUInt32 >>> ((8 : Int32) &&& 31).toUInt32).toInt32).toUInt32 >>> ((4 : Int32) &&& 31).toUInt32).toInt32).toUInt32 >>> ((1 : Int32) &&& 31).toUInt32).toInt32))) else (if (4 : Int32) < (((Fmask xi).toUInt32 >>> ((8 : Int32) &&& 31).toUInt32).toInt32) then ((11 : Int32) + (((((((Fmask xi).toUInt32 >>> ((8 : Int32) &&& 31).toUInt32).toInt32).toUInt32 >>> ((2 : Int32) &&& 31).toUInt32).toInt32).toUInt32 >>> ((1 : Int32) &&& 31).toUInt32).toInt32)) else ((9 : Int32) + (((((Fmask xi).toUInt32 >>> ((8 : Int32) &&& 31).toUInt32).toInt32).toUInt32 >>> ((1 : Int32) &&& 31).toUInt32).toInt32)))) else (if (16 : Int32) < (Fmask xi) then (if (4 : Int32) < (((Fmask xi).toUInt32 >>> ((4 : Int32) &&& 31).toUInt32).toInt32) then ((7 : Int32) + (((((((Fmask xi).toUInt32 >>> ((4 : Int32) &&& 31).toUInt32).toInt32).toUInt32 >>> ((2 : Int32) &&& 31).toUInt32).toInt32).toUInt32 >>> ((1 : Int32) &&& 31).toUInt32).toInt32)) else ((5 : Int32) + (((((Fmask xi).toUInt32 >>> ((4 : Int32) &&& 31).toUInt32).toInt32).toUInt32 >>> ((1 : Int32) &&& 31).toUInt32).toInt32))) else (if (4 : Int32) < (Fmask xi) then ((3 : Int32) + (((((Fmask xi).toUInt32 >>> ((2 : Int32) &&& 31).toUInt32).toInt32).toUInt32 >>> ((1 : Int32) &&& 31).toUInt32).toInt32)) else ((1 : Int32) + (((Fmask xi).toUInt32 >>> ((1 : Int32) &&& 31).toUInt32).toInt32)))))) else ((Fmask xi) &&& (32 : Int32)))
def Q9 (Z : State) (xi : Int32) (h0 : Heap) (n0 : Nat) (v : Option Value) (h : Heap) (L : List Loc) : Prop := v = some (.int (Fntz xi)) ∧ Fr n0 L ∧ h = h0
set_option maxRecDepth 65536 in
set_option maxHeartbeats 40000000 in
theorem rm9 (l : Launch) (Z : State) (a0 : Array Value) (hw : ∀ d ∈ tables_1, d.before a0 Z = true) (ws : List Jvm.Cond) (xi : Int32) (h0 : Heap) (n0 : Nat) (Z0 : n0 ≤ h0.size) :
    MetFree l (⟨"java/lang/Integer", "numberOfTrailingZeros", "(I)I"⟩ : MethodName) (head1 (Jvm.Cond.code (⟨"java/lang/Integer", "numberOfTrailingZeros", "(I)I"⟩ : MethodName) jdk_33_method_48_code 2 (some .int) :: ws) ({ frames := 0, cells := 0, slots := 0, locals := 0 } : Room)) (fun a U => a = #[(.int xi)] ∧ Z.Warmed39 U.vm ∧ U.heap = h0) (fun _ _ _ _ _ => True) (fun _ U o U' => ∃ v L, o = .returned v ∧ Q9 Z xi h0 n0 v U'.heap L ∧ FrameEnd U o U' L ({ frames := 0, cells := 0, slots := 0, locals := 0 } : Room).cells ({ frames := 0, cells := 0, slots := 0, locals := 0 } : Room).slots) := by
  refine MetFree.of_bodySF (plainFor_of_name pn_9) hisR ?_
  intro p e s m args below meth c s₁ Bd hml0 hP hK
  obtain ⟨rfl, hZ, hh⟩ := hP
  have hx := Bd.exec
  have hby := Bd.bytes
  have hml : c.maxLocals = 2 := hml0
  have hown : s.vm.findClass "java/lang/Integer" = some m.cls := findClass_of_methodNamed Bd.named
  have hnm := (name_of_methodNamed Bd.named Bd.method).1
  have X0 : Stand p l e ({ frames := 0, cells := 0, slots := 0, locals := 0 } : Room) s m #[(.int xi)] below meth c s₁ [] 0 0 := Stand.of_body Bd
  have e0 : s₁.heap = h0 := by rw [← hh, Bd.state]; rfl
  have N0 := Fr.nil n0
  have pre0 : ∀ t, Steps p.tables e below (s₁.setTop (mkF m 0 #[.val (.int xi), .unset] [])) t → Steps p.tables e below (s₁.setTop (entryFrame m #[(.int xi)] 2)) t := fun t k => castTop (ef_9 m xi) k
  have pre1 : ∀ t, Steps p.tables e below (s₁.setTop (mkF m 9 #[.val (.int (Fmask xi)), .unset] [(.int (Fmask xi))])) t → Steps p.tables e below (s₁.setTop (entryFrame m #[(.int xi)] 2)) t := by
    intro t k
    refine pre0 t ?_
    show Steps p.tables e below (s₁.setTop (mkF m 0 #[.val (.int xi), .unset] [])) _
    refine XS.iloadN X0.here hx rfl (hb hby d9_0) rfl ?_
    show Steps p.tables e below (s₁.setTop (mkF m 1 #[.val (.int xi), .unset] [(.int xi)])) _
    refine XS.iconst X0.here hx rfl (hb hby d9_1) ?_
    show Steps p.tables e below (s₁.setTop (mkF m 2 #[.val (.int xi), .unset] [(.int (-1 : Int32)), (.int xi)])) _
    refine XS.ixor X0.here hx rfl (hb hby d9_2) rfl ?_
    show Steps p.tables e below (s₁.setTop (mkF m 3 #[.val (.int xi), .unset] [(.int (xi ^^^ (-1 : Int32)))])) _
    refine XS.iloadN X0.here hx rfl (hb hby d9_3) rfl ?_
    show Steps p.tables e below (s₁.setTop (mkF m 4 #[.val (.int xi), .unset] [(.int xi), (.int (xi ^^^ (-1 : Int32)))])) _
    refine XS.iconst X0.here hx rfl (hb hby d9_4) ?_
    show Steps p.tables e below (s₁.setTop (mkF m 5 #[.val (.int xi), .unset] [(.int (1 : Int32)), (.int xi), (.int (xi ^^^ (-1 : Int32)))])) _
    refine XS.isub X0.here hx rfl (hb hby d9_5) rfl ?_
    show Steps p.tables e below (s₁.setTop (mkF m 6 #[.val (.int xi), .unset] [(.int (xi - (1 : Int32))), (.int (xi ^^^ (-1 : Int32)))])) _
    refine XS.iand X0.here hx rfl (hb hby d9_6) rfl ?_
    show Steps p.tables e below (s₁.setTop (mkF m 7 #[.val (.int xi), .unset] [(.int ((xi ^^^ (-1 : Int32)) &&& (xi - (1 : Int32))))])) _
    refine XS.istoreN X0.here hx rfl (hb hby d9_7) rfl (l' := #[.val (.int (Fmask xi)), .unset]) rfl ?_
    show Steps p.tables e below (s₁.setTop (mkF m 8 #[.val (.int (Fmask xi)), .unset] [])) _
    refine XS.iloadN X0.here hx rfl (hb hby d9_8) rfl ?_
    exact k
  obtain ⟨fs, hr, hrun, hended, hW, hsame⟩ := X0.leave (v := some (.int (Fntz xi))) (fun h => by rw [Bd.returns] at h; cases h) (BodyLoose.notSynchronized Bd)
  refine ⟨_, _, pre1 _ ?_, hrun, hended, _, _, rfl, ?_, ⟨_, rfl⟩, hW, hsame.mono (by decide) (by decide)⟩
  · have k : ∀ (v1 : Int32), v1 = (if (0 : Int32) < (Fmask xi) then (if (65536 : Int32) < (Fmask xi) then (if (256 : Int32) < (((Fmask xi).toUInt32 >>> ((16 : Int32) &&& 31).toUInt32).toInt32) then (if (16 : Int32) < (((((Fmask xi).toUInt32 >>> ((16 : Int32) &&& 31).toUInt32).toInt32).toUInt32 >>> ((8 : Int32) &&& 31).toUInt32).toInt32) then (if (4 : Int32) < (((((((Fmask xi).toUInt32 >>> ((16 : Int32) &&& 31).toUInt32).toInt32).toUInt32 >>> ((8 : Int32) &&& 31).toUInt32).toInt32).toUInt32 >>> ((4 : Int32) &&& 31).toUInt32).toInt32) then ((31 : Int32) + (((((((((((Fmask xi).toUInt32 >>> ((16 : Int32) &&& 31).toUInt32).toInt32).toUInt32 >>> ((8 : Int32) &&& 31).toUInt32).toInt32).toUInt32 >>> ((4 : Int32) &&& 31).toUInt32).toInt32).toUInt32 >>> ((2 : Int32) &&& 31).toUInt32).toInt32).toUInt32 >>> ((1 : Int32) &&& 31).toUInt32).toInt32)) else ((29 : Int32) + (((((((((Fmask xi).toUInt32 >>> ((16 : Int32) &&& 31).toUInt32).toInt32).toUInt32 >>> ((8 : Int32) &&& 31).toUInt32).toInt32).toUInt32 >>> ((4 : Int32) &&& 31).toUInt32).toInt32).toUInt32 >>> ((1 : Int32) &&& 31).toUInt32).toInt32))) else (if (4 : Int32) < (((((Fmask xi).toUInt32 >>> ((16 : Int32) &&& 31).toUInt32).toInt32).toUInt32 >>> ((8 : Int32) &&& 31).toUInt32).toInt32) then ((27 : Int32) + (((((((((Fmask xi).toUInt32 >>> ((16 : Int32) &&& 31).toUInt32).toInt32).toUInt32 >>> ((8 : Int32) &&& 31).toUInt32).toInt32).toUInt32 >>> ((2 : Int32) &&& 31).toUInt32).toInt32).toUInt32 >>> ((1 : Int32) &&& 31).toUInt32).toInt32)) else ((25 : Int32) + (((((((Fmask xi).toUInt32 >>> ((16 : Int32) &&& 31).toUInt32).toInt32).toUInt32 >>> ((8 : Int32) &&& 31).toUInt32).toInt32).toUInt32 >>> ((1 : Int32) &&& 31).toUInt32).toInt32)))) else (if (16 : Int32) < (((Fmask xi).toUInt32 >>> ((16 : Int32) &&& 31).toUInt32).toInt32) then (if (4 : Int32) < (((((Fmask xi).toUInt32 >>> ((16 : Int32) &&& 31).toUInt32).toInt32).toUInt32 >>> ((4 : Int32) &&& 31).toUInt32).toInt32) then ((23 : Int32) + (((((((((Fmask xi).toUInt32 >>> ((16 : Int32) &&& 31).toUInt32).toInt32).toUInt32 >>> ((4 : Int32) &&& 31).toUInt32).toInt32).toUInt32 >>> ((2 : Int32) &&& 31).toUInt32).toInt32).toUInt32 >>> ((1 : Int32) &&& 31).toUInt32).toInt32)) else ((21 : Int32) + (((((((Fmask xi).toUInt32 >>> ((16 : Int32) &&& 31).toUInt32).toInt32).toUInt32 >>> ((4 : Int32) &&& 31).toUInt32).toInt32).toUInt32 >>> ((1 : Int32) &&& 31).toUInt32).toInt32))) else (if (4 : Int32) < (((Fmask xi).toUInt32 >>> ((16 : Int32) &&& 31).toUInt32).toInt32) then ((19 : Int32) + (((((((Fmask xi).toUInt32 >>> ((16 : Int32) &&& 31).toUInt32).toInt32).toUInt32 >>> ((2 : Int32) &&& 31).toUInt32).toInt32).toUInt32 >>> ((1 : Int32) &&& 31).toUInt32).toInt32)) else ((17 : Int32) + (((((Fmask xi).toUInt32 >>> ((16 : Int32) &&& 31).toUInt32).toInt32).toUInt32 >>> ((1 : Int32) &&& 31).toUInt32).toInt32))))) else (if (256 : Int32) < (Fmask xi) then (if (16 : Int32) < (((Fmask xi).toUInt32 >>> ((8 : Int32) &&& 31).toUInt32).toInt32) then (if (4 : Int32) < (((((Fmask xi).toUInt32 >>> ((8 : Int32) &&& 31).toUInt32).toInt32).toUInt32 >>> ((4 : Int32) &&& 31).toUInt32).toInt32) then ((15 : Int32) + (((((((((Fmask xi).toUInt32 >>> ((8 : Int32) &&& 31).toUInt32).toInt32).toUInt32 >>> ((4 : Int32) &&& 31).toUInt32).toInt32).toUInt32 >>> ((2 : Int32) &&& 31).toUInt32).toInt32).toUInt32 >>> ((1 : Int32) &&& 31).toUInt32).toInt32)) else ((13 : Int32) + (((((((Fmask xi).toUInt32 >>> ((8 : Int32) &&& 31).toUInt32).toInt32).toUInt32 >>> ((4 : Int32) &&& 31).toUInt32).toInt32).toUInt32 >>> ((1 : Int32) &&& 31).toUInt32).toInt32))) else (if (4 : Int32) < (((Fmask xi).toUInt32 >>> ((8 : Int32) &&& 31).toUInt32).toInt32) then ((11 : Int32) + (((((((Fmask xi).toUInt32 >>> ((8 : Int32) &&& 31).toUInt32).toInt32).toUInt32 >>> ((2 : Int32) &&& 31).toUInt32).toInt32).toUInt32 >>> ((1 : Int32) &&& 31).toUInt32).toInt32)) else ((9 : Int32) + (((((Fmask xi).toUInt32 >>> ((8 : Int32) &&& 31).toUInt32).toInt32).toUInt32 >>> ((1 : Int32) &&& 31).toUInt32).toInt32)))) else (if (16 : Int32) < (Fmask xi) then (if (4 : Int32) < (((Fmask xi).toUInt32 >>> ((4 : Int32) &&& 31).toUInt32).toInt32) then ((7 : Int32) + (((((((Fmask xi).toUInt32 >>> ((4 : Int32) &&& 31).toUInt32).toInt32).toUInt32 >>> ((2 : Int32) &&& 31).toUInt32).toInt32).toUInt32 >>> ((1 : Int32) &&& 31).toUInt32).toInt32)) else ((5 : Int32) + (((((Fmask xi).toUInt32 >>> ((4 : Int32) &&& 31).toUInt32).toInt32).toUInt32 >>> ((1 : Int32) &&& 31).toUInt32).toInt32))) else (if (4 : Int32) < (Fmask xi) then ((3 : Int32) + (((((Fmask xi).toUInt32 >>> ((2 : Int32) &&& 31).toUInt32).toInt32).toUInt32 >>> ((1 : Int32) &&& 31).toUInt32).toInt32)) else ((1 : Int32) + (((Fmask xi).toUInt32 >>> ((1 : Int32) &&& 31).toUInt32).toInt32)))))) else ((Fmask xi) &&& (32 : Int32))) → ∀ (f : JFrame) (acts : List Action), f.method = m → f.locked = none → f.entered = [] → (doReturn e (s₁.setTop f) acts (some (.int v1))).1 = s₁.setFrames fs := fun v1 hv1 => by subst hv1; exact hr
    show Steps p.tables e below (s₁.setTop (mkF m 9 #[.val (.int (Fmask xi)), .unset] [(.int (Fmask xi))])) _
    by_cases hc2 : (0 : Int32) < (Fmask xi)
    · refine XS.ifYes X0.here hx rfl (pc0 := 9) (pc' := 17) rfl (hb hby d9_9) rfl ((if0 _ _).trans (tlt hc2).2.2.1) (by decide) (by decide) ?_
      have k : ∀ (v1 : Int32), v1 = (if (65536 : Int32) < (Fmask xi) then (if (256 : Int32) < (((Fmask xi).toUInt32 >>> ((16 : Int32) &&& 31).toUInt32).toInt32) then (if (16 : Int32) < (((((Fmask xi).toUInt32 >>> ((16 : Int32) &&& 31).toUInt32).toInt32).toUInt32 >>> ((8 : Int32) &&& 31).toUInt32).toInt32) then (if (4 : Int32) < (((((((Fmask xi).toUInt32 >>> ((16 : Int32) &&& 31).toUInt32).toInt32).toUInt32 >>> ((8 : Int32) &&& 31).toUInt32).toInt32).toUInt32 >>> ((4 : Int32) &&& 31).toUInt32).toInt32) then ((31 : Int32) + (((((((((((Fmask xi).toUInt32 >>> ((16 : Int32) &&& 31).toUInt32).toInt32).toUInt32 >>> ((8 : Int32) &&& 31).toUInt32).toInt32).toUInt32 >>> ((4 : Int32) &&& 31).toUInt32).toInt32).toUInt32 >>> ((2 : Int32) &&& 31).toUInt32).toInt32).toUInt32 >>> ((1 : Int32) &&& 31).toUInt32).toInt32)) else ((29 : Int32) + (((((((((Fmask xi).toUInt32 >>> ((16 : Int32) &&& 31).toUInt32).toInt32).toUInt32 >>> ((8 : Int32) &&& 31).toUInt32).toInt32).toUInt32 >>> ((4 : Int32) &&& 31).toUInt32).toInt32).toUInt32 >>> ((1 : Int32) &&& 31).toUInt32).toInt32))) else (if (4 : Int32) < (((((Fmask xi).toUInt32 >>> ((16 : Int32) &&& 31).toUInt32).toInt32).toUInt32 >>> ((8 : Int32) &&& 31).toUInt32).toInt32) then ((27 : Int32) + (((((((((Fmask xi).toUInt32 >>> ((16 : Int32) &&& 31).toUInt32).toInt32).toUInt32 >>> ((8 : Int32) &&& 31).toUInt32).toInt32).toUInt32 >>> ((2 : Int32) &&& 31).toUInt32).toInt32).toUInt32 >>> ((1 : Int32) &&& 31).toUInt32).toInt32)) else ((25 : Int32) + (((((((Fmask xi).toUInt32 >>> ((16 : Int32) &&& 31).toUInt32).toInt32).toUInt32 >>> ((8 : Int32) &&& 31).toUInt32).toInt32).toUInt32 >>> ((1 : Int32) &&& 31).toUInt32).toInt32)))) else (if (16 : Int32) < (((Fmask xi).toUInt32 >>> ((16 : Int32) &&& 31).toUInt32).toInt32) then (if (4 : Int32) < (((((Fmask xi).toUInt32 >>> ((16 : Int32) &&& 31).toUInt32).toInt32).toUInt32 >>> ((4 : Int32) &&& 31).toUInt32).toInt32) then ((23 : Int32) + (((((((((Fmask xi).toUInt32 >>> ((16 : Int32) &&& 31).toUInt32).toInt32).toUInt32 >>> ((4 : Int32) &&& 31).toUInt32).toInt32).toUInt32 >>> ((2 : Int32) &&& 31).toUInt32).toInt32).toUInt32 >>> ((1 : Int32) &&& 31).toUInt32).toInt32)) else ((21 : Int32) + (((((((Fmask xi).toUInt32 >>> ((16 : Int32) &&& 31).toUInt32).toInt32).toUInt32 >>> ((4 : Int32) &&& 31).toUInt32).toInt32).toUInt32 >>> ((1 : Int32) &&& 31).toUInt32).toInt32))) else (if (4 : Int32) < (((Fmask xi).toUInt32 >>> ((16 : Int32) &&& 31).toUInt32).toInt32) then ((19 : Int32) + (((((((Fmask xi).toUInt32 >>> ((16 : Int32) &&& 31).toUInt32).toInt32).toUInt32 >>> ((2 : Int32) &&& 31).toUInt32).toInt32).toUInt32 >>> ((1 : Int32) &&& 31).toUInt32).toInt32)) else ((17 : Int32) + (((((Fmask xi).toUInt32 >>> ((16 : Int32) &&& 31).toUInt32).toInt32).toUInt32 >>> ((1 : Int32) &&& 31).toUInt32).toInt32))))) else (if (256 : Int32) < (Fmask xi) then (if (16 : Int32) < (((Fmask xi).toUInt32 >>> ((8 : Int32) &&& 31).toUInt32).toInt32) then (if (4 : Int32) < (((((Fmask xi).toUInt32 >>> ((8 : Int32) &&& 31).toUInt32).toInt32).toUInt32 >>> ((4 : Int32) &&& 31).toUInt32).toInt32) then ((15 : Int32) + (((((((((Fmask xi).toUInt32 >>> ((8 : Int32) &&& 31).toUInt32).toInt32).toUInt32 >>> ((4 : Int32) &&& 31).toUInt32).toInt32).toUInt32 >>> ((2 : Int32) &&& 31).toUInt32).toInt32).toUInt32 >>> ((1 : Int32) &&& 31).toUInt32).toInt32)) else ((13 : Int32) + (((((((Fmask xi).toUInt32 >>> ((8 : Int32) &&& 31).toUInt32).toInt32).toUInt32 >>> ((4 : Int32) &&& 31).toUInt32).toInt32).toUInt32 >>> ((1 : Int32) &&& 31).toUInt32).toInt32))) else (if (4 : Int32) < (((Fmask xi).toUInt32 >>> ((8 : Int32) &&& 31).toUInt32).toInt32) then ((11 : Int32) + (((((((Fmask xi).toUInt32 >>> ((8 : Int32) &&& 31).toUInt32).toInt32).toUInt32 >>> ((2 : Int32) &&& 31).toUInt32).toInt32).toUInt32 >>> ((1 : Int32) &&& 31).toUInt32).toInt32)) else ((9 : Int32) + (((((Fmask xi).toUInt32 >>> ((8 : Int32) &&& 31).toUInt32).toInt32).toUInt32 >>> ((1 : Int32) &&& 31).toUInt32).toInt32)))) else (if (16 : Int32) < (Fmask xi) then (if (4 : Int32) < (((Fmask xi).toUInt32 >>> ((4 : Int32) &&& 31).toUInt32).toInt32) then ((7 : Int32) + (((((((Fmask xi).toUInt32 >>> ((4 : Int32) &&& 31).toUInt32).toInt32).toUInt32 >>> ((2 : Int32) &&& 31).toUInt32).toInt32).toUInt32 >>> ((1 : Int32) &&& 31).toUInt32).toInt32)) else ((5 : Int32) + (((((Fmask xi).toUInt32 >>> ((4 : Int32) &&& 31).toUInt32).toInt32).toUInt32 >>> ((1 : Int32) &&& 31).toUInt32).toInt32))) else (if (4 : Int32) < (Fmask xi) then ((3 : Int32) + (((((Fmask xi).toUInt32 >>> ((2 : Int32) &&& 31).toUInt32).toInt32).toUInt32 >>> ((1 : Int32) &&& 31).toUInt32).toInt32)) else ((1 : Int32) + (((Fmask xi).toUInt32 >>> ((1 : Int32) &&& 31).toUInt32).toInt32)))))) → ∀ (f : JFrame) (acts : List Action), f.method = m → f.locked = none → f.entered = [] → (doReturn e (s₁.setTop f) acts (some (.int v1))).1 = s₁.setFrames fs := fun v1 hv1 => k v1 (hv1.trans (if_pos hc2).symm)
      show Steps p.tables e below (s₁.setTop (mkF m 17 #[.val (.int (Fmask xi)), .unset] [])) _
      refine XS.iconst X0.here hx rfl (hb hby d9_17) ?_
      show Steps p.tables e below (s₁.setTop (mkF m 18 #[.val (.int (Fmask xi)), .unset] [(.int (1 : Int32))])) _
      refine XS.istoreN X0.here hx rfl (hb hby d9_18) rfl (l' := #[.val (.int (Fmask xi)), .val (.int (1 : Int32))]) rfl ?_
      show Steps p.tables e below (s₁.setTop (mkF m 19 #[.val (.int (Fmask xi)), .val (.int (1 : Int32))] [])) _
      refine XS.iloadN X0.here hx rfl (hb hby d9_19) rfl ?_
      show Steps p.tables e below (s₁.setTop (mkF m 20 #[.val (.int (Fmask xi)), .val (.int (1 : Int32))] [(.int (Fmask xi))])) _
      refine X0.ldcwInt hx hown (mvT hZ (hw _ (List.mem_of_getElem? (i := 53) rfl))) (g := (mkF m 20 #[.val (.int (Fmask xi)), .val (.int (1 : Int32))] [(.int (Fmask xi))])) rfl (hb hby d9_20) _ ?_
      show Steps p.tables e below (s₁.setTop (mkF m 23 #[.val (.int (Fmask xi)), .val (.int (1 : Int32))] [(.int (65536 : Int32)), (.int (Fmask xi))])) _
      by_cases hc3 : (65536 : Int32) < (Fmask xi)
      · refine XS.icmpNo X0.here hx rfl (hb hby d9_23) rfl (tlt hc3).2.2.2 ?_
        have k : ∀ (v1 : Int32), v1 = (if (256 : Int32) < (((Fmask xi).toUInt32 >>> ((16 : Int32) &&& 31).toUInt32).toInt32) then (if (16 : Int32) < (((((Fmask xi).toUInt32 >>> ((16 : Int32) &&& 31).toUInt32).toInt32).toUInt32 >>> ((8 : Int32) &&& 31).toUInt32).toInt32) then (if (4 : Int32) < (((((((Fmask xi).toUInt32 >>> ((16 : Int32) &&& 31).toUInt32).toInt32).toUInt32 >>> ((8 : Int32) &&& 31).toUInt32).toInt32).toUInt32 >>> ((4 : Int32) &&& 31).toUInt32).toInt32) then ((31 : Int32) + (((((((((((Fmask xi).toUInt32 >>> ((16 : Int32) &&& 31).toUInt32).toInt32).toUInt32 >>> ((8 : Int32) &&& 31).toUInt32).toInt32).toUInt32 >>> ((4 : Int32) &&& 31).toUInt32).toInt32).toUInt32 >>> ((2 : Int32) &&& 31).toUInt32).toInt32).toUInt32 >>> ((1 : Int32) &&& 31).toUInt32).toInt32)) else ((29 : Int32) + (((((((((Fmask xi).toUInt32 >>> ((16 : Int32) &&& 31).toUInt32).toInt32).toUInt32 >>> ((8 : Int32) &&& 31).toUInt32).toInt32).toUInt32 >>> ((4 : Int32) &&& 31).toUInt32).toInt32).toUInt32 >>> ((1 : Int32) &&& 31).toUInt32).toInt32))) else (if (4 : Int32) < (((((Fmask xi).toUInt32 >>> ((16 : Int32) &&& 31).toUInt32).toInt32).toUInt32 >>> ((8 : Int32) &&& 31).toUInt32).toInt32) then ((27 : Int32) + (((((((((Fmask xi).toUInt32 >>> ((16 : Int32) &&& 31).toUInt32).toInt32).toUInt32 >>> ((8 : Int32) &&& 31).toUInt32).toInt32).toUInt32 >>> ((2 : Int32) &&& 31).toUInt32).toInt32).toUInt32 >>> ((1 : Int32) &&& 31).toUInt32).toInt32)) else ((25 : Int32) + (((((((Fmask xi).toUInt32 >>> ((16 : Int32) &&& 31).toUInt32).toInt32).toUInt32 >>> ((8 : Int32) &&& 31).toUInt32).toInt32).toUInt32 >>> ((1 : Int32) &&& 31).toUInt32).toInt32)))) else (if (16 : Int32) < (((Fmask xi).toUInt32 >>> ((16 : Int32) &&& 31).toUInt32).toInt32) then (if (4 : Int32) < (((((Fmask xi).toUInt32 >>> ((16 : Int32) &&& 31).toUInt32).toInt32).toUInt32 >>> ((4 : Int32) &&& 31).toUInt32).toInt32) then ((23 : Int32) + (((((((((Fmask xi).toUInt32 >>> ((16 : Int32) &&& 31).toUInt32).toInt32).toUInt32 >>> ((4 : Int32) &&& 31).toUInt32).toInt32).toUInt32 >>> ((2 : Int32) &&& 31).toUInt32).toInt32).toUInt32 >>> ((1 : Int32) &&& 31).toUInt32).toInt32)) else ((21 : Int32) + (((((((Fmask xi).toUInt32 >>> ((16 : Int32) &&& 31).toUInt32).toInt32).toUInt32 >>> ((4 : Int32) &&& 31).toUInt32).toInt32).toUInt32 >>> ((1 : Int32) &&& 31).toUInt32).toInt32))) else (if (4 : Int32) < (((Fmask xi).toUInt32 >>> ((16 : Int32) &&& 31).toUInt32).toInt32) then ((19 : Int32) + (((((((Fmask xi).toUInt32 >>> ((16 : Int32) &&& 31).toUInt32).toInt32).toUInt32 >>> ((2 : Int32) &&& 31).toUInt32).toInt32).toUInt32 >>> ((1 : Int32) &&& 31).toUInt32).toInt32)) else ((17 : Int32) + (((((Fmask xi).toUInt32 >>> ((16 : Int32) &&& 31).toUInt32).toInt32).toUInt32 >>> ((1 : Int32) &&& 31).toUInt32).toInt32))))) → ∀ (f : JFrame) (acts : List Action), f.method = m → f.locked = none → f.entered = [] → (doReturn e (s₁.setTop f) acts (some (.int v1))).1 = s₁.setFrames fs := fun v1 hv1 => k v1 (hv1.trans (if_pos hc3).symm)
        show Steps p.tables e below (s₁.setTop (mkF m 26 #[.val (.int (Fmask xi)), .val (.int (1 : Int32))] [])) _
        refine XS.iinc X0.here hx rfl (hb hby d9_26) rfl (l' := #[.val (.int (Fmask xi)), .val (.int (17 : Int32))]) rfl ?_
        show Steps p.tables e below (s₁.setTop (mkF m 29 #[.val (.int (Fmask xi)), .val (.int (17 : Int32))] [])) _
        refine XS.iloadN X0.here hx rfl (hb hby d9_29) rfl ?_
        show Steps p.tables e below (s₁.setTop (mkF m 30 #[.val (.int (Fmask xi)), .val (.int (17 : Int32))] [(.int (Fmask xi))])) _
        refine XS.bipush X0.here hx rfl (hb hby d9_30) ?_
        show Steps p.tables e below (s₁.setTop (mkF m 32 #[.val (.int (Fmask xi)), .val (.int (17 : Int32))] [(.int (16 : Int32)), (.int (Fmask xi))])) _
        refine XS.iushr X0.here hx rfl (hb hby d9_32) rfl ?_
        show Steps p.tables e below (s₁.setTop (mkF m 33 #[.val (.int (Fmask xi)), .val (.int (17 : Int32))] [(.int (((Fmask xi).toUInt32 >>> ((16 : Int32) &&& 31).toUInt32).toInt32))])) _
        refine XS.istoreN X0.here hx rfl (hb hby d9_33) rfl (l' := #[.val (.int (((Fmask xi).toUInt32 >>> ((16 : Int32) &&& 31).toUInt32).toInt32)), .val (.int (17 : Int32))]) rfl ?_
        show Steps p.tables e below (s₁.setTop (mkF m 34 #[.val (.int (((Fmask xi).toUInt32 >>> ((16 : Int32) &&& 31).toUInt32).toInt32)), .val (.int (17 : Int32))] [])) _
        refine XS.iloadN X0.here hx rfl (hb hby d9_34) rfl ?_
        show Steps p.tables e below (s₁.setTop (mkF m 35 #[.val (.int (((Fmask xi).toUInt32 >>> ((16 : Int32) &&& 31).toUInt32).toInt32)), .val (.int (17 : Int32))] [(.int (((Fmask xi).toUInt32 >>> ((16 : Int32) &&& 31).toUInt32).toInt32))])) _
        refine XS.sipush X0.here hx rfl (hb hby d9_35) ?_
        show Steps p.tables e below (s₁.setTop (mkF m 38 #[.val (.int (((Fmask xi).toUInt32 >>> ((16 : Int32) &&& 31).toUInt32).toInt32)), .val (.int (17 : Int32))] [(.int (256 : Int32)), (.int (((Fmask xi).toUInt32 >>> ((16 : Int32) &&& 31).toUInt32).toInt32))])) _
        by_cases hc4 : (256 : Int32) < (((Fmask xi).toUInt32 >>> ((16 : Int32) &&& 31).toUInt32).toInt32)
        · refine XS.icmpNo X0.here hx rfl (hb hby d9_38) rfl (tlt hc4).2.2.2 ?_
          have k : ∀ (v1 : Int32), v1 = (if (16 : Int32) < (((((Fmask xi).toUInt32 >>> ((16 : Int32) &&& 31).toUInt32).toInt32).toUInt32 >>> ((8 : Int32) &&& 31).toUInt32).toInt32) then (if (4 : Int32) < (((((((Fmask xi).toUInt32 >>> ((16 : Int32) &&& 31).toUInt32).toInt32).toUInt32 >>> ((8 : Int32) &&& 31).toUInt32).toInt32).toUInt32 >>> ((4 : Int32) &&& 31).toUInt32).toInt32) then ((31 : Int32) + (((((((((((Fmask xi).toUInt32 >>> ((16 : Int32) &&& 31).toUInt32).toInt32).toUInt32 >>> ((8 : Int32) &&& 31).toUInt32).toInt32).toUInt32 >>> ((4 : Int32) &&& 31).toUInt32).toInt32).toUInt32 >>> ((2 : Int32) &&& 31).toUInt32).toInt32).toUInt32 >>> ((1 : Int32) &&& 31).toUInt32).toInt32)) else ((29 : Int32) + (((((((((Fmask xi).toUInt32 >>> ((16 : Int32) &&& 31).toUInt32).toInt32).toUInt32 >>> ((8 : Int32) &&& 31).toUInt32).toInt32).toUInt32 >>> ((4 : Int32) &&& 31).toUInt32).toInt32).toUInt32 >>> ((1 : Int32) &&& 31).toUInt32).toInt32))) else (if (4 : Int32) < (((((Fmask xi).toUInt32 >>> ((16 : Int32) &&& 31).toUInt32).toInt32).toUInt32 >>> ((8 : Int32) &&& 31).toUInt32).toInt32) then ((27 : Int32) + (((((((((Fmask xi).toUInt32 >>> ((16 : Int32) &&& 31).toUInt32).toInt32).toUInt32 >>> ((8 : Int32) &&& 31).toUInt32).toInt32).toUInt32 >>> ((2 : Int32) &&& 31).toUInt32).toInt32).toUInt32 >>> ((1 : Int32) &&& 31).toUInt32).toInt32)) else ((25 : Int32) + (((((((Fmask xi).toUInt32 >>> ((16 : Int32) &&& 31).toUInt32).toInt32).toUInt32 >>> ((8 : Int32) &&& 31).toUInt32).toInt32).toUInt32 >>> ((1 : Int32) &&& 31).toUInt32).toInt32)))) → ∀ (f : JFrame) (acts : List Action), f.method = m → f.locked = none → f.entered = [] → (doReturn e (s₁.setTop f) acts (some (.int v1))).1 = s₁.setFrames fs := fun v1 hv1 => k v1 (hv1.trans (if_pos hc4).symm)
          show Steps p.tables e below (s₁.setTop (mkF m 41 #[.val (.int (((Fmask xi).toUInt32 >>> ((16 : Int32) &&& 31).toUInt32).toInt32)), .val (.int (17 : Int32))] [])) _
          refine XS.iinc X0.here hx rfl (hb hby d9_41) rfl (l' := #[.val (.int (((Fmask xi).toUInt32 >>> ((16 : Int32) &&& 31).toUInt32).toInt32)), .val (.int (25 : Int32))]) rfl ?_
          show Steps p.tables e below (s₁.setTop (mkF m 44 #[.val (.int (((Fmask xi).toUInt32 >>> ((16 : Int32) &&& 31).toUInt32).toInt32)), .val (.int (25 : Int32))] [])) _
          refine XS.iloadN X0.here hx rfl (hb hby d9_44) rfl ?_
          show Steps p.tables e below (s₁.setTop (mkF m 45 #[.val (.int (((Fmask xi).toUInt32 >>> ((16 : Int32) &&& 31).toUInt32).toInt32)), .val (.int (25 : Int32))] [(.int (((Fmask xi).toUInt32 >>> ((16 : Int32) &&& 31).toUInt32).toInt32))])) _
          refine XS.bipush X0.here hx rfl (hb hby d9_45) ?_
          show Steps p.tables e below (s₁.setTop (mkF m 47 #[.val (.int (((Fmask xi).toUInt32 >>> ((16 : Int32) &&& 31).toUInt32).toInt32)), .val (.int (25 : Int32))] [(.int (8 : Int32)), (.int (((Fmask xi).toUInt32 >>> ((16 : Int32) &&& 31).toUInt32).toInt32))])) _
          refine XS.iushr X0.here hx rfl (hb hby d9_47) rfl ?_
          show Steps p.tables e below (s₁.setTop (mkF m 48 #[.val (.int (((Fmask xi).toUInt32 >>> ((16 : Int32) &&& 31).toUInt32).toInt32)), .val (.int (25 : Int32))] [(.int (((((Fmask xi).toUInt32 >>> ((16 : Int32) &&& 31).toUInt32).toInt32).toUInt32 >>> ((8 : Int32) &&& 31).toUInt32).toInt32))])) _
          refine XS.istoreN X0.here hx rfl (hb hby d9_48) rfl (l' := #[.val (.int (((((Fmask xi).toUInt32 >>> ((16 : Int32) &&& 31).toUInt32).toInt32).toUInt32 >>> ((8 : Int32) &&& 31).toUInt32).toInt32)), .val (.int (25 : Int32))]) rfl ?_
          show Steps p.tables e below (s₁.setTop (mkF m 49 #[.val (.int (((((Fmask xi).toUInt32 >>> ((16 : Int32) &&& 31).toUInt32).toInt32).toUInt32 >>> ((8 : Int32) &&& 31).toUInt32).toInt32)), .val (.int (25 : Int32))] [])) _
          refine XS.iloadN X0.here hx rfl (hb hby d9_49) rfl ?_
          show Steps p.tables e below (s₁.setTop (mkF m 50 #[.val (.int (((((Fmask xi).toUInt32 >>> ((16 : Int32) &&& 31).toUInt32).toInt32).toUInt32 >>> ((8 : Int32) &&& 31).toUInt32).toInt32)), .val (.int (25 : Int32))] [(.int (((((Fmask xi).toUInt32 >>> ((16 : Int32) &&& 31).toUInt32).toInt32).toUInt32 >>> ((8 : Int32) &&& 31).toUInt32).toInt32))])) _
          refine XS.bipush X0.here hx rfl (hb hby d9_50) ?_
          show Steps p.tables e below (s₁.setTop (mkF m 52 #[.val (.int (((((Fmask xi).toUInt32 >>> ((16 : Int32) &&& 31).toUInt32).toInt32).toUInt32 >>> ((8 : Int32) &&& 31).toUInt32).toInt32)), .val (.int (25 : Int32))] [(.int (16 : Int32)), (.int (((((Fmask xi).toUInt32 >>> ((16 : Int32) &&& 31).toUInt32).toInt32).toUInt32 >>> ((8 : Int32) &&& 31).toUInt32).toInt32))])) _
          by_cases hc5 : (16 : Int32) < (((((Fmask xi).toUInt32 >>> ((16 : Int32) &&& 31).toUInt32).toInt32).toUInt32 >>> ((8 : Int32) &&& 31).toUInt32).toInt32)
          · refine XS.icmpNo X0.here hx rfl (hb hby d9_52) rfl (tlt hc5).2.2.2 ?_
            have k : ∀ (v1 : Int32), v1 = (if (4 : Int32) < (((((((Fmask xi).toUInt32 >>> ((16 : Int32) &&& 31).toUInt32).toInt32).toUInt32 >>> ((8 : Int32) &&& 31).toUInt32).toInt32).toUInt32 >>> ((4 : Int32) &&& 31).toUInt32).toInt32) then ((31 : Int32) + (((((((((((Fmask xi).toUInt32 >>> ((16 : Int32) &&& 31).toUInt32).toInt32).toUInt32 >>> ((8 : Int32) &&& 31).toUInt32).toInt32).toUInt32 >>> ((4 : Int32) &&& 31).toUInt32).toInt32).toUInt32 >>> ((2 : Int32) &&& 31).toUInt32).toInt32).toUInt32 >>> ((1 : Int32) &&& 31).toUInt32).toInt32)) else ((29 : Int32) + (((((((((Fmask xi).toUInt32 >>> ((16 : Int32) &&& 31).toUInt32).toInt32).toUInt32 >>> ((8 : Int32) &&& 31).toUInt32).toInt32).toUInt32 >>> ((4 : Int32) &&& 31).toUInt32).toInt32).toUInt32 >>> ((1 : Int32) &&& 31).toUInt32).toInt32))) → ∀ (f : JFrame) (acts : List Action), f.method = m → f.locked = none → f.entered = [] → (doReturn e (s₁.setTop f) acts (some (.int v1))).1 = s₁.setFrames fs := fun v1 hv1 => k v1 (hv1.trans (if_pos hc5).symm)
            show Steps p.tables e below (s₁.setTop (mkF m 55 #[.val (.int (((((Fmask xi).toUInt32 >>> ((16 : Int32) &&& 31).toUInt32).toInt32).toUInt32 >>> ((8 : Int32) &&& 31).toUInt32).toInt32)), .val (.int (25 : Int32))] [])) _
            refine XS.iinc X0.here hx rfl (hb hby d9_55) rfl (l' := #[.val (.int (((((Fmask xi).toUInt32 >>> ((16 : Int32) &&& 31).toUInt32).toInt32).toUInt32 >>> ((8 : Int32) &&& 31).toUInt32).toInt32)), .val (.int (29 : Int32))]) rfl ?_
            show Steps p.tables e below (s₁.setTop (mkF m 58 #[.val (.int (((((Fmask xi).toUInt32 >>> ((16 : Int32) &&& 31).toUInt32).toInt32).toUInt32 >>> ((8 : Int32) &&& 31).toUInt32).toInt32)), .val (.int (29 : Int32))] [])) _
            refine XS.iloadN X0.here hx rfl (hb hby d9_58) rfl ?_
            show Steps p.tables e below (s₁.setTop (mkF m 59 #[.val (.int (((((Fmask xi).toUInt32 >>> ((16 : Int32) &&& 31).toUInt32).toInt32).toUInt32 >>> ((8 : Int32) &&& 31).toUInt32).toInt32)), .val (.int (29 : Int32))] [(.int (((((Fmask xi).toUInt32 >>> ((16 : Int32) &&& 31).toUInt32).toInt32).toUInt32 >>> ((8 : Int32) &&& 31).toUInt32).toInt32))])) _
            refine XS.iconst X0.here hx rfl (hb hby d9_59) ?_
            show Steps p.tables e below (s₁.setTop (mkF m 60 #[.val (.int (((((Fmask xi).toUInt32 >>> ((16 : Int32) &&& 31).toUInt32).toInt32).toUInt32 >>> ((8 : Int32) &&& 31).toUInt32).toInt32)), .val (.int (29 : Int32))] [(.int (4 : Int32)), (.int (((((Fmask xi).toUInt32 >>> ((16 : Int32) &&& 31).toUInt32).toInt32).toUInt32 >>> ((8 : Int32) &&& 31).toUInt32).toInt32))])) _
            refine XS.iushr X0.here hx rfl (hb hby d9_60) rfl ?_
            show Steps p.tables e below (s₁.setTop (mkF m 61 #[.val (.int (((((Fmask xi).toUInt32 >>> ((16 : Int32) &&& 31).toUInt32).toInt32).toUInt32 >>> ((8 : Int32) &&& 31).toUInt32).toInt32)), .val (.int (29 : Int32))] [(.int (((((((Fmask xi).toUInt32 >>> ((16 : Int32) &&& 31).toUInt32).toInt32).toUInt32 >>> ((8 : Int32) &&& 31).toUInt32).toInt32).toUInt32 >>> ((4 : Int32) &&& 31).toUInt32).toInt32))])) _
            refine XS.istoreN X0.here hx rfl (hb hby d9_61) rfl (l' := #[.val (.int (((((((Fmask xi).toUInt32 >>> ((16 : Int32) &&& 31).toUInt32).toInt32).toUInt32 >>> ((8 : Int32) &&& 31).toUInt32).toInt32).toUInt32 >>> ((4 : Int32) &&& 31).toUInt32).toInt32)), .val (.int (29 : Int32))]) rfl ?_
            show Steps p.tables e below (s₁.setTop (mkF m 62 #[.val (.int (((((((Fmask xi).toUInt32 >>> ((16 : Int32) &&& 31).toUInt32).toInt32).toUInt32 >>> ((8 : Int32) &&& 31).toUInt32).toInt32).toUInt32 >>> ((4 : Int32) &&& 31).toUInt32).toInt32)), .val (.int (29 : Int32))] [])) _
            refine XS.iloadN X0.here hx rfl (hb hby d9_62) rfl ?_
            show Steps p.tables e below (s₁.setTop (mkF m 63 #[.val (.int (((((((Fmask xi).toUInt32 >>> ((16 : Int32) &&& 31).toUInt32).toInt32).toUInt32 >>> ((8 : Int32) &&& 31).toUInt32).toInt32).toUInt32 >>> ((4 : Int32) &&& 31).toUInt32).toInt32)), .val (.int (29 : Int32))] [(.int (((((((Fmask xi).toUInt32 >>> ((16 : Int32) &&& 31).toUInt32).toInt32).toUInt32 >>> ((8 : Int32) &&& 31).toUInt32).toInt32).toUInt32 >>> ((4 : Int32) &&& 31).toUInt32).toInt32))])) _
            refine XS.iconst X0.here hx rfl (hb hby d9_63) ?_
            show Steps p.tables e below (s₁.setTop (mkF m 64 #[.val (.int (((((((Fmask xi).toUInt32 >>> ((16 : Int32) &&& 31).toUInt32).toInt32).toUInt32 >>> ((8 : Int32) &&& 31).toUInt32).toInt32).toUInt32 >>> ((4 : Int32) &&& 31).toUInt32).toInt32)), .val (.int (29 : Int32))] [(.int (4 : Int32)), (.int (((((((Fmask xi).toUInt32 >>> ((16 : Int32) &&& 31).toUInt32).toInt32).toUInt32 >>> ((8 : Int32) &&& 31).toUInt32).toInt32).toUInt32 >>> ((4 : Int32) &&& 31).toUInt32).toInt32))])) _
            by_cases hc6 : (4 : Int32) < (((((((Fmask xi).toUInt32 >>> ((16 : Int32) &&& 31).toUInt32).toInt32).toUInt32 >>> ((8 : Int32) &&& 31).toUInt32).toInt32).toUInt32 >>> ((4 : Int32) &&& 31).toUInt32).toInt32)
            · refine XS.icmpNo X0.here hx rfl (hb hby d9_64) rfl (tlt hc6).2.2.2 ?_
              have k : ∀ (v1 : Int32), v1 = ((31 : Int32) + (((((((((((Fmask xi).toUInt32 >>> ((16 : Int32) &&& 31).toUInt32).toInt32).toUInt32 >>> ((8 : Int32) &&& 31).toUInt32).toInt32).toUInt32 >>> ((4 : Int32) &&& 31).toUInt32).toInt32).toUInt32 >>> ((2 : Int32) &&& 31).toUInt32).toInt32).toUInt32 >>> ((1 : Int32) &&& 31).toUInt32).toInt32)) → ∀ (f : JFrame) (acts : List Action), f.method = m → f.locked = none → f.entered = [] → (doReturn e (s₁.setTop f) acts (some (.int v1))).1 = s₁.setFrames fs := fun v1 hv1 => k v1 (hv1.trans (if_pos hc6).symm)
              show Steps p.tables e below (s₁.setTop (mkF m 67 #[.val (.int (((((((Fmask xi).toUInt32 >>> ((16 : Int32) &&& 31).toUInt32).toInt32).toUInt32 >>> ((8 : Int32) &&& 31).toUInt32).toInt32).toUInt32 >>> ((4 : Int32) &&& 31).toUInt32).toInt32)), .val (.int (29 : Int32))] [])) _
              refine XS.iinc X0.here hx rfl (hb hby d9_67) rfl (l' := #[.val (.int (((((((Fmask xi).toUInt32 >>> ((16 : Int32) &&& 31).toUInt32).toInt32).toUInt32 >>> ((8 : Int32) &&& 31).toUInt32).toInt32).toUInt32 >>> ((4 : Int32) &&& 31).toUInt32).toInt32)), .val (.int (31 : Int32))]) rfl ?_
              show Steps p.tables e below (s₁.setTop (mkF m 70 #[.val (.int (((((((Fmask xi).toUInt32 >>> ((16 : Int32) &&& 31).toUInt32).toInt32).toUInt32 >>> ((8 : Int32) &&& 31).toUInt32).toInt32).toUInt32 >>> ((4 : Int32) &&& 31).toUInt32).toInt32)), .val (.int (31 : Int32))] [])) _
              refine XS.iloadN X0.here hx rfl (hb hby d9_70) rfl ?_
              show Steps p.tables e below (s₁.setTop (mkF m 71 #[.val (.int (((((((Fmask xi).toUInt32 >>> ((16 : Int32) &&& 31).toUInt32).toInt32).toUInt32 >>> ((8 : Int32) &&& 31).toUInt32).toInt32).toUInt32 >>> ((4 : Int32) &&& 31).toUInt32).toInt32)), .val (.int (31 : Int32))] [(.int (((((((Fmask xi).toUInt32 >>> ((16 : Int32) &&& 31).toUInt32).toInt32).toUInt32 >>> ((8 : Int32) &&& 31).toUInt32).toInt32).toUInt32 >>> ((4 : Int32) &&& 31).toUInt32).toInt32))])) _
              refine XS.iconst X0.here hx rfl (hb hby d9_71) ?_
              show Steps p.tables e below (s₁.setTop (mkF m 72 #[.val (.int (((((((Fmask xi).toUInt32 >>> ((16 : Int32) &&& 31).toUInt32).toInt32).toUInt32 >>> ((8 : Int32) &&& 31).toUInt32).toInt32).toUInt32 >>> ((4 : Int32) &&& 31).toUInt32).toInt32)), .val (.int (31 : Int32))] [(.int (2 : Int32)), (.int (((((((Fmask xi).toUInt32 >>> ((16 : Int32) &&& 31).toUInt32).toInt32).toUInt32 >>> ((8 : Int32) &&& 31).toUInt32).toInt32).toUInt32 >>> ((4 : Int32) &&& 31).toUInt32).toInt32))])) _
              refine XS.iushr X0.here hx rfl (hb hby d9_72) rfl ?_
              show Steps p.tables e below (s₁.setTop (mkF m 73 #[.val (.int (((((((Fmask xi).toUInt32 >>> ((16 : Int32) &&& 31).toUInt32).toInt32).toUInt32 >>> ((8 : Int32) &&& 31).toUInt32).toInt32).toUInt32 >>> ((4 : Int32) &&& 31).toUInt32).toInt32)), .val (.int (31 : Int32))] [(.int (((((((((Fmask xi).toUInt32 >>> ((16 : Int32) &&& 31).toUInt32).toInt32).toUInt32 >>> ((8 : Int32) &&& 31).toUInt32).toInt32).toUInt32 >>> ((4 : Int32) &&& 31).toUInt32).toInt32).toUInt32 >>> ((2 : Int32) &&& 31).toUInt32).toInt32))])) _
              refine XS.istoreN X0.here hx rfl (hb hby d9_73) rfl (l' := #[.val (.int (((((((((Fmask xi).toUInt32 >>> ((16 : Int32) &&& 31).toUInt32).toInt32).toUInt32 >>> ((8 : Int32) &&& 31).toUInt32).toInt32).toUInt32 >>> ((4 : Int32) &&& 31).toUInt32).toInt32).toUInt32 >>> ((2 : Int32) &&& 31).toUInt32).toInt32)), .val (.int (31 : Int32))]) rfl ?_
              show Steps p.tables e below (s₁.setTop (mkF m 74 #[.val (.int (((((((((Fmask xi).toUInt32 >>> ((16 : Int32) &&& 31).toUInt32).toInt32).toUInt32 >>> ((8 : Int32) &&& 31).toUInt32).toInt32).toUInt32 >>> ((4 : Int32) &&& 31).toUInt32).toInt32).toUInt32 >>> ((2 : Int32) &&& 31).toUInt32).toInt32)), .val (.int (31 : Int32))] [])) _
              refine XS.iloadN X0.here hx rfl (hb hby d9_74) rfl ?_
              show Steps p.tables e below (s₁.setTop (mkF m 75 #[.val (.int (((((((((Fmask xi).toUInt32 >>> ((16 : Int32) &&& 31).toUInt32).toInt32).toUInt32 >>> ((8 : Int32) &&& 31).toUInt32).toInt32).toUInt32 >>> ((4 : Int32) &&& 31).toUInt32).toInt32).toUInt32 >>> ((2 : Int32) &&& 31).toUInt32).toInt32)), .val (.int (31 : Int32))] [(.int (31 : Int32))])) _
              refine XS.iloadN X0.here hx rfl (hb hby d9_75) rfl ?_
              show Steps p.tables e below (s₁.setTop (mkF m 76 #[.val (.int (((((((((Fmask xi).toUInt32 >>> ((16 : Int32) &&& 31).toUInt32).toInt32).toUInt32 >>> ((8 : Int32) &&& 31).toUInt32).toInt32).toUInt32 >>> ((4 : Int32) &&& 31).toUInt32).toInt32).toUInt32 >>> ((2 : Int32) &&& 31).toUInt32).toInt32)), .val (.int (31 : Int32))] [(.int (((((((((Fmask xi).toUInt32 >>> ((16 : Int32) &&& 31).toUInt32).toInt32).toUInt32 >>> ((8 : Int32) &&& 31).toUInt32).toInt32).toUInt32 >>> ((4 : Int32) &&& 31).toUInt32).toInt32).toUInt32 >>> ((2 : Int32) &&& 31).toUInt32).toInt32)), (.int (31 : Int32))])) _
              refine XS.iconst X0.here hx rfl (hb hby d9_76) ?_
              show Steps p.tables e below (s₁.setTop (mkF m 77 #[.val (.int (((((((((Fmask xi).toUInt32 >>> ((16 : Int32) &&& 31).toUInt32).toInt32).toUInt32 >>> ((8 : Int32) &&& 31).toUInt32).toInt32).toUInt32 >>> ((4 : Int32) &&& 31).toUInt32).toInt32).toUInt32 >>> ((2 : Int32) &&& 31).toUInt32).toInt32)), .val (.int (31 : Int32))] [(.int (1 : Int32)), (.int (((((((((Fmask xi).toUInt32 >>> ((16 : Int32) &&& 31).toUInt32).toInt32).toUInt32 >>> ((8 : Int32) &&& 31).toUInt32).toInt32).toUInt32 >>> ((4 : Int32) &&& 31).toUInt32).toInt32).toUInt32 >>> ((2 : Int32) &&& 31).toUInt32).toInt32)), (.int (31 : Int32))])) _
              refine XS.iushr X0.here hx rfl (hb hby d9_77) rfl ?_
              show Steps p.tables e below (s₁.setTop (mkF m 78 #[.val (.int (((((((((Fmask xi).toUInt32 >>> ((16 : Int32) &&& 31).toUInt32).toInt32).toUInt32 >>> ((8 : Int32) &&& 31).toUInt32).toInt32).toUInt32 >>> ((4 : Int32) &&& 31).toUInt32).toInt32).toUInt32 >>> ((2 : Int32) &&& 31).toUInt32).toInt32)), .val (.int (31 : Int32))] [(.int (((((((((((Fmask xi).toUInt32 >>> ((16 : Int32) &&& 31).toUInt32).toInt32).toUInt32 >>> ((8 : Int32) &&& 31).toUInt32).toInt32).toUInt32 >>> ((4 : Int32) &&& 31).toUInt32).toInt32).toUInt32 >>> ((2 : Int32) &&& 31).toUInt32).toInt32).toUInt32 >>> ((1 : Int32) &&& 31).toUInt32).toInt32)), (.int (31 : Int32))])) _
              refine XS.iadd X0.here hx rfl (hb hby d9_78) rfl ?_
              show Steps p.tables e below (s₁.setTop (mkF m 79 #[.val (.int (((((((((Fmask xi).toUInt32 >>> ((16 : Int32) &&& 31).toUInt32).toInt32).toUInt32 >>> ((8 : Int32) &&& 31).toUInt32).toInt32).toUInt32 >>> ((4 : Int32) &&& 31).toUInt32).toInt32).toUInt32 >>> ((2 : Int32) &&& 31).toUInt32).toInt32)), .val (.int (31 : Int32))] [(.int ((31 : Int32) + (((((((((((Fmask xi).toUInt32 >>> ((16 : Int32) &&& 31).toUInt32).toInt32).toUInt32 >>> ((8 : Int32) &&& 31).toUInt32).toInt32).toUInt32 >>> ((4 : Int32) &&& 31).toUInt32).toInt32).toUInt32 >>> ((2 : Int32) &&& 31).toUInt32).toInt32).toUInt32 >>> ((1 : Int32) &&& 31).toUInt32).toInt32)))])) _
              exact retI X0 hx Bd.returns (hb hby d9_79) (k _ rfl)
            · refine XS.icmpYes X0.here hx rfl (pc0 := 64) (pc' := 74) rfl (hb hby d9_64) rfl (flt hc6).2.2.2 (by decide) (by decide) ?_
              have k : ∀ (v1 : Int32), v1 = ((29 : Int32) + (((((((((Fmask xi).toUInt32 >>> ((16 : Int32) &&& 31).toUInt32).toInt32).toUInt32 >>> ((8 : Int32) &&& 31).toUInt32).toInt32).toUInt32 >>> ((4 : Int32) &&& 31).toUInt32).toInt32).toUInt32 >>> ((1 : Int32) &&& 31).toUInt32).toInt32)) → ∀ (f : JFrame) (acts : List Action), f.method = m → f.locked = none → f.entered = [] → (doReturn e (s₁.setTop f) acts (some (.int v1))).1 = s₁.setFrames fs := fun v1 hv1 => k v1 (hv1.trans (if_neg hc6).symm)
              show Steps p.tables e below (s₁.setTop (mkF m 74 #[.val (.int (((((((Fmask xi).toUInt32 >>> ((16 : Int32) &&& 31).toUInt32).toInt32).toUInt32 >>> ((8 : Int32) &&& 31).toUInt32).toInt32).toUInt32 >>> ((4 : Int32) &&& 31).toUInt32).toInt32)), .val (.int (29 : Int32))] [])) _
              refine XS.iloadN X0.here hx rfl (hb hby d9_74) rfl ?_
              show Steps p.tables e below (s₁.setTop (mkF m 75 #[.val (.int (((((((Fmask xi).toUInt32 >>> ((16 : Int32) &&& 31).toUInt32).toInt32).toUInt32 >>> ((8 : Int32) &&& 31).toUInt32).toInt32).toUInt32 >>> ((4 : Int32) &&& 31).toUInt32).toInt32)), .val (.int (29 : Int32))] [(.int (29 : Int32))])) _
              refine XS.iloadN X0.here hx rfl (hb hby d9_75) rfl ?_
              show Steps p.tables e below (s₁.setTop (mkF m 76 #[.val (.int (((((((Fmask xi).toUInt32 >>> ((16 : Int32) &&& 31).toUInt32).toInt32).toUInt32 >>> ((8 : Int32) &&& 31).toUInt32).toInt32).toUInt32 >>> ((4 : Int32) &&& 31).toUInt32).toInt32)), .val (.int (29 : Int32))] [(.int (((((((Fmask xi).toUInt32 >>> ((16 : Int32) &&& 31).toUInt32).toInt32).toUInt32 >>> ((8 : Int32) &&& 31).toUInt32).toInt32).toUInt32 >>> ((4 : Int32) &&& 31).toUInt32).toInt32)), (.int (29 : Int32))])) _
              refine XS.iconst X0.here hx rfl (hb hby d9_76) ?_
              show Steps p.tables e below (s₁.setTop (mkF m 77 #[.val (.int (((((((Fmask xi).toUInt32 >>> ((16 : Int32) &&& 31).toUInt32).toInt32).toUInt32 >>> ((8 : Int32) &&& 31).toUInt32).toInt32).toUInt32 >>> ((4 : Int32) &&& 31).toUInt32).toInt32)), .val (.int (29 : Int32))] [(.int (1 : Int32)), (.int (((((((Fmask xi).toUInt32 >>> ((16 : Int32) &&& 31).toUInt32).toInt32).toUInt32 >>> ((8 : Int32) &&& 31).toUInt32).toInt32).toUInt32 >>> ((4 : Int32) &&& 31).toUInt32).toInt32)), (.int (29 : Int32))])) _
              refine XS.iushr X0.here hx rfl (hb hby d9_77) rfl ?_
              show Steps p.tables e below (s₁.setTop (mkF m 78 #[.val (.int (((((((Fmask xi).toUInt32 >>> ((16 : Int32) &&& 31).toUInt32).toInt32).toUInt32 >>> ((8 : Int32) &&& 31).toUInt32).toInt32).toUInt32 >>> ((4 : Int32) &&& 31).toUInt32).toInt32)), .val (.int (29 : Int32))] [(.int (((((((((Fmask xi).toUInt32 >>> ((16 : Int32) &&& 31).toUInt32).toInt32).toUInt32 >>> ((8 : Int32) &&& 31).toUInt32).toInt32).toUInt32 >>> ((4 : Int32) &&& 31).toUInt32).toInt32).toUInt32 >>> ((1 : Int32) &&& 31).toUInt32).toInt32)), (.int (29 : Int32))])) _
              refine XS.iadd X0.here hx rfl (hb hby d9_78) rfl ?_
              show Steps p.tables e below (s₁.setTop (mkF m 79 #[.val (.int (((((((Fmask xi).toUInt32 >>> ((16 : Int32) &&& 31).toUInt32).toInt32).toUInt32 >>> ((8 : Int32) &&& 31).toUInt32).toInt32).toUInt32 >>> ((4 : Int32) &&& 31).toUInt32).toInt32)), .val (.int (29 : Int32))] [(.int ((29 : Int32) + (((((((((Fmask xi).toUInt32 >>> ((16 : Int32) &&& 31).toUInt32).toInt32).toUInt32 >>> ((8 : Int32) &&& 31).toUInt32).toInt32).toUInt32 >>> ((4 : Int32) &&& 31).toUInt32).toInt32).toUInt32 >>> ((1 : Int32) &&& 31).toUInt32).toInt32)))])) _
              exact retI X0 hx Bd.returns (hb hby d9_79) (k _ rfl)
          · refine XS.icmpYes X0.here hx rfl (pc0 := 52) (pc' := 62) rfl (hb hby d9_52) rfl (flt hc5).2.2.2 (by decide) (by decide) ?_
            have k : ∀ (v1 : Int32), v1 = (if (4 : Int32) < (((((Fmask xi).toUInt32 >>> ((16 : Int32) &&& 31).toUInt32).toInt32).toUInt32 >>> ((8 : Int32) &&& 31).toUInt32).toInt32) then ((27 : Int32) + (((((((((Fmask xi).toUInt32 >>> ((16 : Int32) &&& 31).toUInt32).toInt32).toUInt32 >>> ((8 : Int32) &&& 31).toUInt32).toInt32).toUInt32 >>> ((2 : Int32) &&& 31).toUInt32).toInt32).toUInt32 >>> ((1 : Int32) &&& 31).toUInt32).toInt32)) else ((25 : Int32) + (((((((Fmask xi).toUInt32 >>> ((16 : Int32) &&& 31).toUInt32).toInt32).toUInt32 >>> ((8 : Int32) &&& 31).toUInt32).toInt32).toUInt32 >>> ((1 : Int32) &&& 31).toUInt32).toInt32))) → ∀ (f : JFrame) (acts : List Action), f.method = m → f.locked = none → f.entered = [] → (doReturn e (s₁.setTop f) acts (some (.int v1))).1 = s₁.setFrames fs := fun v1 hv1 => k v1 (hv1.trans (if_neg hc5).symm)
            show Steps p.tables e below (s₁.setTop (mkF m 62 #[.val (.int (((((Fmask xi).toUInt32 >>> ((16 : Int32) &&& 31).toUInt32).toInt32).toUInt32 >>> ((8 : Int32) &&& 31).toUInt32).toInt32)), .val (.int (25 : Int32))] [])) _
            refine XS.iloadN X0.here hx rfl (hb hby d9_62) rfl ?_
            show Steps p.tables e below (s₁.setTop (mkF m 63 #[.val (.int (((((Fmask xi).toUInt32 >>> ((16 : Int32) &&& 31).toUInt32).toInt32).toUInt32 >>> ((8 : Int32) &&& 31).toUInt32).toInt32)), .val (.int (25 : Int32))] [(.int (((((Fmask xi).toUInt32 >>> ((16 : Int32) &&& 31).toUInt32).toInt32).toUInt32 >>> ((8 : Int32) &&& 31).toUInt32).toInt32))])) _
            refine XS.iconst X0.here hx rfl (hb hby d9_63) ?_
            show Steps p.tables e below (s₁.setTop (mkF m 64 #[.val (.int (((((Fmask xi).toUInt32 >>> ((16 : Int32) &&& 31).toUInt32).toInt32).toUInt32 >>> ((8 : Int32) &&& 31).toUInt32).toInt32)), .val (.int (25 : Int32))] [(.int (4 : Int32)), (.int (((((Fmask xi).toUInt32 >>> ((16 : Int32) &&& 31).toUInt32).toInt32).toUInt32 >>> ((8 : Int32) &&& 31).toUInt32).toInt32))])) _
            by_cases hc7 : (4 : Int32) < (((((Fmask xi).toUInt32 >>> ((16 : Int32) &&& 31).toUInt32).toInt32).toUInt32 >>> ((8 : Int32) &&& 31).toUInt32).toInt32)
            · refine XS.icmpNo X0.here hx rfl (hb hby d9_64) rfl (tlt hc7).2.2.2 ?_
              have k : ∀ (v1 : Int32), v1 = ((27 : Int32) + (((((((((Fmask xi).toUInt32 >>> ((16 : Int32) &&& 31).toUInt32).toInt32).toUInt32 >>> ((8 : Int32) &&& 31).toUInt32).toInt32).toUInt32 >>> ((2 : Int32) &&& 31).toUInt32).toInt32).toUInt32 >>> ((1 : Int32) &&& 31).toUInt32).toInt32)) → ∀ (f : JFrame) (acts : List Action), f.method = m → f.locked = none → f.entered = [] → (doReturn e (s₁.setTop f) acts (some (.int v1))).1 = s₁.setFrames fs := fun v1 hv1 => k v1 (hv1.trans (if_pos hc7).symm)
              show Steps p.tables e below (s₁.setTop (mkF m 67 #[.val (.int (((((Fmask xi).toUInt32 >>> ((16 : Int32) &&& 31).toUInt32).toInt32).toUInt32 >>> ((8 : Int32) &&& 31).toUInt32).toInt32)), .val (.int (25 : Int32))] [])) _
              refine XS.iinc X0.here hx rfl (hb hby d9_67) rfl (l' := #[.val (.int (((((Fmask xi).toUInt32 >>> ((16 : Int32) &&& 31).toUInt32).toInt32).toUInt32 >>> ((8 : Int32) &&& 31).toUInt32).toInt32)), .val (.int (27 : Int32))]) rfl ?_
              show Steps p.tables e below (s₁.setTop (mkF m 70 #[.val (.int (((((Fmask xi).toUInt32 >>> ((16 : Int32) &&& 31).toUInt32).toInt32).toUInt32 >>> ((8 : Int32) &&& 31).toUInt32).toInt32)), .val (.int (27 : Int32))] [])) _
              refine XS.iloadN X0.here hx rfl (hb hby d9_70) rfl ?_
              show Steps p.tables e below (s₁.setTop (mkF m 71 #[.val (.int (((((Fmask xi).toUInt32 >>> ((16 : Int32) &&& 31).toUInt32).toInt32).toUInt32 >>> ((8 : Int32) &&& 31).toUInt32).toInt32)), .val (.int (27 : Int32))] [(.int (((((Fmask xi).toUInt32 >>> ((16 : Int32) &&& 31).toUInt32).toInt32).toUInt32 >>> ((8 : Int32) &&& 31).toUInt32).toInt32))])) _
              refine XS.iconst X0.here hx rfl (hb hby d9_71) ?_
              show Steps p.tables e below (s₁.setTop (mkF m 72 #[.val (.int (((((Fmask xi).toUInt32 >>> ((16 : Int32) &&& 31).toUInt32).toInt32).toUInt32 >>> ((8 : Int32) &&& 31).toUInt32).toInt32)), .val (.int (27 : Int32))] [(.int (2 : Int32)), (.int (((((Fmask xi).toUInt32 >>> ((16 : Int32) &&& 31).toUInt32).toInt32).toUInt32 >>> ((8 : Int32) &&& 31).toUInt32).toInt32))])) _
              refine XS.iushr X0.here hx rfl (hb hby d9_72) rfl ?_
              show Steps p.tables e below (s₁.setTop (mkF m 73 #[.val (.int (((((Fmask xi).toUInt32 >>> ((16 : Int32) &&& 31).toUInt32).toInt32).toUInt32 >>> ((8 : Int32) &&& 31).toUInt32).toInt32)), .val (.int (27 : Int32))] [(.int (((((((Fmask xi).toUInt32 >>> ((16 : Int32) &&& 31).toUInt32).toInt32).toUInt32 >>> ((8 : Int32) &&& 31).toUInt32).toInt32).toUInt32 >>> ((2 : Int32) &&& 31).toUInt32).toInt32))])) _
              refine XS.istoreN X0.here hx rfl (hb hby d9_73) rfl (l' := #[.val (.int (((((((Fmask xi).toUInt32 >>> ((16 : Int32) &&& 31).toUInt32).toInt32).toUInt32 >>> ((8 : Int32) &&& 31).toUInt32).toInt32).toUInt32 >>> ((2 : Int32) &&& 31).toUInt32).toInt32)), .val (.int (27 : Int32))]) rfl ?_
              show Steps p.tables e below (s₁.setTop (mkF m 74 #[.val (.int (((((((Fmask xi).toUInt32 >>> ((16 : Int32) &&& 31).toUInt32).toInt32).toUInt32 >>> ((8 : Int32) &&& 31).toUInt32).toInt32).toUInt32 >>> ((2 : Int32) &&& 31).toUInt32).toInt32)), .val (.int (27 : Int32))] [])) _
              refine XS.iloadN X0.here hx rfl (hb hby d9_74) rfl ?_
              show Steps p.tables e below (s₁.setTop (mkF m 75 #[.val (.int (((((((Fmask xi).toUInt32 >>> ((16 : Int32) &&& 31).toUInt32).toInt32).toUInt32 >>> ((8 : Int32) &&& 31).toUInt32).toInt32).toUInt32 >>> ((2 : Int32) &&& 31).toUInt32).toInt32)), .val (.int (27 : Int32))] [(.int (27 : Int32))])) _
              refine XS.iloadN X0.here hx rfl (hb hby d9_75) rfl ?_
              show Steps p.tables e below (s₁.setTop (mkF m 76 #[.val (.int (((((((Fmask xi).toUInt32 >>> ((16 : Int32) &&& 31).toUInt32).toInt32).toUInt32 >>> ((8 : Int32) &&& 31).toUInt32).toInt32).toUInt32 >>> ((2 : Int32) &&& 31).toUInt32).toInt32)), .val (.int (27 : Int32))] [(.int (((((((Fmask xi).toUInt32 >>> ((16 : Int32) &&& 31).toUInt32).toInt32).toUInt32 >>> ((8 : Int32) &&& 31).toUInt32).toInt32).toUInt32 >>> ((2 : Int32) &&& 31).toUInt32).toInt32)), (.int (27 : Int32))])) _
              refine XS.iconst X0.here hx rfl (hb hby d9_76) ?_
              show Steps p.tables e below (s₁.setTop (mkF m 77 #[.val (.int (((((((Fmask xi).toUInt32 >>> ((16 : Int32) &&& 31).toUInt32).toInt32).toUInt32 >>> ((8 : Int32) &&& 31).toUInt32).toInt32).toUInt32 >>> ((2 : Int32) &&& 31).toUInt32).toInt32)), .val (.int (27 : Int32))] [(.int (1 : Int32)), (.int (((((((Fmask xi).toUInt32 >>> ((16 : Int32) &&& 31).toUInt32).toInt32).toUInt32 >>> ((8 : Int32) &&& 31).toUInt32).toInt32).toUInt32 >>> ((2 : Int32) &&& 31).toUInt32).toInt32)), (.int (27 : Int32))])) _
              refine XS.iushr X0.here hx rfl (hb hby d9_77) rfl ?_
              show Steps p.tables e below (s₁.setTop (mkF m 78 #[.val (.int (((((((Fmask xi).toUInt32 >>> ((16 : Int32) &&& 31).toUInt32).toInt32).toUInt32 >>> ((8 : Int32) &&& 31).toUInt32).toInt32).toUInt32 >>> ((2 : Int32) &&& 31).toUInt32).toInt32)), .val (.int (27 : Int32))] [(.int (((((((((Fmask xi).toUInt32 >>> ((16 : Int32) &&& 31).toUInt32).toInt32).toUInt32 >>> ((8 : Int32) &&& 31).toUInt32).toInt32).toUInt32 >>> ((2 : Int32) &&& 31).toUInt32).toInt32).toUInt32 >>> ((1 : Int32) &&& 31).toUInt32).toInt32)), (.int (27 : Int32))])) _
              refine XS.iadd X0.here hx rfl (hb hby d9_78) rfl ?_
              show Steps p.tables e below (s₁.setTop (mkF m 79 #[.val (.int (((((((Fmask xi).toUInt32 >>> ((16 : Int32) &&& 31).toUInt32).toInt32).toUInt32 >>> ((8 : Int32) &&& 31).toUInt32).toInt32).toUInt32 >>> ((2 : Int32) &&& 31).toUInt32).toInt32)), .val (.int (27 : Int32))] [(.int ((27 : Int32) + (((((((((Fmask xi).toUInt32 >>> ((16 : Int32) &&& 31).toUInt32).toInt32).toUInt32 >>> ((8 : Int32) &&& 31).toUInt32).toInt32).toUInt32 >>> ((2 : Int32) &&& 31).toUInt32).toInt32).toUInt32 >>> ((1 : Int32) &&& 31).toUInt32).toInt32)))])) _
              exact retI X0 hx Bd.returns (hb hby d9_79) (k _ rfl)
            · refine XS.icmpYes X0.here hx rfl (pc0 := 64) (pc' := 74) rfl (hb hby d9_64) rfl (flt hc7).2.2.2 (by decide) (by decide) ?_
              have k : ∀ (v1 : Int32), v1 = ((25 : Int32) + (((((((Fmask xi).toUInt32 >>> ((16 : Int32) &&& 31).toUInt32).toInt32).toUInt32 >>> ((8 : Int32) &&& 31).toUInt32).toInt32).toUInt32 >>> ((1 : Int32) &&& 31).toUInt32).toInt32)) → ∀ (f : JFrame) (acts : List Action), f.method = m → f.locked = none → f.entered = [] → (doReturn e (s₁.setTop f) acts (some (.int v1))).1 = s₁.setFrames fs := fun v1 hv1 => k v1 (hv1.trans (if_neg hc7).symm)
              show Steps p.tables e below (s₁.setTop (mkF m 74 #[.val (.int (((((Fmask xi).toUInt32 >>> ((16 : Int32) &&& 31).toUInt32).toInt32).toUInt32 >>> ((8 : Int32) &&& 31).toUInt32).toInt32)), .val (.int (25 : Int32))] [])) _
              refine XS.iloadN X0.here hx rfl (hb hby d9_74) rfl ?_
              show Steps p.tables e below (s₁.setTop (mkF m 75 #[.val (.int (((((Fmask xi).toUInt32 >>> ((16 : Int32) &&& 31).toUInt32).toInt32).toUInt32 >>> ((8 : Int32) &&& 31).toUInt32).toInt32)), .val (.int (25 : Int32))] [(.int (25 : Int32))])) _
              refine XS.iloadN X0.here hx rfl (hb hby d9_75) rfl ?_
              show Steps p.tables e below (s₁.setTop (mkF m 76 #[.val (.int (((((Fmask xi).toUInt32 >>> ((16 : Int32) &&& 31).toUInt32).toInt32).toUInt32 >>> ((8 : Int32) &&& 31).toUInt32).toInt32)), .val (.int (25 : Int32))] [(.int (((((Fmask xi).toUInt32 >>> ((16 : Int32) &&& 31).toUInt32).toInt32).toUInt32 >>> ((8 : Int32) &&& 31).toUInt32).toInt32)), (.int (25 : Int32))])) _
              refine XS.iconst X0.here hx rfl (hb hby d9_76) ?_
              show Steps p.tables e below (s₁.setTop (mkF m 77 #[.val (.int (((((Fmask xi).toUInt32 >>> ((16 : Int32) &&& 31).toUInt32).toInt32).toUInt32 >>> ((8 : Int32) &&& 31).toUInt32).toInt32)), .val (.int (25 : Int32))] [(.int (1 : Int32)), (.int (((((Fmask xi).toUInt32 >>> ((16 : Int32) &&& 31).toUInt32).toInt32).toUInt32 >>> ((8 : Int32) &&& 31).toUInt32).toInt32)), (.int (25 : Int32))])) _
              refine XS.iushr X0.here hx rfl (hb hby d9_77) rfl ?_
              show Steps p.tables e below (s₁.setTop (mkF m 78 #[.val (.int (((((Fmask xi).toUInt32 >>> ((16 : Int32) &&& 31).toUInt32).toInt32).toUInt32 >>> ((8 : Int32) &&& 31).toUInt32).toInt32)), .val (.int (25 : Int32))] [(.int (((((((Fmask xi).toUInt32 >>> ((16 : Int32) &&& 31).toUInt32).toInt32).toUInt32 >>> ((8 : Int32) &&& 31).toUInt32).toInt32).toUInt32 >>> ((1 : Int32) &&& 31).toUInt32).toInt32)), (.int (25 : Int32))])) _
              refine XS.iadd X0.here hx rfl (hb hby d9_78) rfl ?_
              show Steps p.tables e below (s₁.setTop (mkF m 79 #[.val (.int (((((Fmask xi).toUInt32 >>> ((16 : Int32) &&& 31).toUInt32).toInt32).toUInt32 >>> ((8 : Int32) &&& 31).toUInt32).toInt32)), .val (.int (25 : Int32))] [(.int ((25 : Int32) + (((((((Fmask xi).toUInt32 >>> ((16 : Int32) &&& 31).toUInt32).toInt32).toUInt32 >>> ((8 : Int32) &&& 31).toUInt32).toInt32).toUInt32 >>> ((1 : Int32) &&& 31).toUInt32).toInt32)))])) _
              exact retI X0 hx Bd.returns (hb hby d9_79) (k _ rfl)
        · refine XS.icmpYes X0.here hx rfl (pc0 := 38) (pc' := 49) rfl (hb hby d9_38) rfl (flt hc4).2.2.2 (by decide) (by decide) ?_
          have k : ∀ (v1 : Int32), v1 = (if (16 : Int32) < (((Fmask xi).toUInt32 >>> ((16 : Int32) &&& 31).toUInt32).toInt32) then (if (4 : Int32) < (((((Fmask xi).toUInt32 >>> ((16 : Int32) &&& 31).toUInt32).toInt32).toUInt32 >>> ((4 : Int32) &&& 31).toUInt32).toInt32) then ((23 : Int32) + (((((((((Fmask xi).toUInt32 >>> ((16 : Int32) &&& 31).toUInt32).toInt32).toUInt32 >>> ((4 : Int32) &&& 31).toUInt32).toInt32).toUInt32 >>> ((2 : Int32) &&& 31).toUInt32).toInt32).toUInt32 >>> ((1 : Int32) &&& 31).toUInt32).toInt32)) else ((21 : Int32) + (((((((Fmask xi).toUInt32 >>> ((16 : Int32) &&& 31).toUInt32).toInt32).toUInt32 >>> ((4 : Int32) &&& 31).toUInt32).toInt32).toUInt32 >>> ((1 : Int32) &&& 31).toUInt32).toInt32))) else (if (4 : Int32) < (((Fmask xi).toUInt32 >>> ((16 : Int32) &&& 31).toUInt32).toInt32) then ((19 : Int32) + (((((((Fmask xi).toUInt32 >>> ((16 : Int32) &&& 31).toUInt32).toInt32).toUInt32 >>> ((2 : Int32) &&& 31).toUInt32).toInt32).toUInt32 >>> ((1 : Int32) &&& 31).toUInt32).toInt32)) else ((17 : Int32) + (((((Fmask xi).toUInt32 >>> ((16 : Int32) &&& 31).toUInt32).toInt32).toUInt32 >>> ((1 : Int32) &&& 31).toUInt32).toInt32)))) → ∀ (f : JFrame) (acts : List Action), f.method = m → f.locked = none → f.entered = [] → (doReturn e (s₁.setTop f) acts (some (.int v1))).1 = s₁.setFrames fs := fun v1 hv1 => k v1 (hv1.trans (if_neg hc4).symm)
          show Steps p.tables e below (s₁.setTop (mkF m 49 #[.val (.int (((Fmask xi).toUInt32 >>> ((16 : Int32) &&& 31).toUInt32).toInt32)), .val (.int (17 : Int32))] [])) _
          refine XS.iloadN X0.here hx rfl (hb hby d9_49) rfl ?_
          show Steps p.tables e below (s₁.setTop (mkF m 50 #[.val (.int (((Fmask xi).toUInt32 >>> ((16 : Int32) &&& 31).toUInt32).toInt32)), .val (.int (17 : Int32))] [(.int (((Fmask xi).toUInt32 >>> ((16 : Int32) &&& 31).toUInt32).toInt32))])) _
          refine XS.bipush X0.here hx rfl (hb hby d9_50) ?_
          show Steps p.tables e below (s₁.setTop (mkF m 52 #[.val (.int (((Fmask xi).toUInt32 >>> ((16 : Int32) &&& 31).toUInt32).toInt32)), .val (.int (17 : Int32))] [(.int (16 : Int32)), (.int (((Fmask xi).toUInt32 >>> ((16 : Int32) &&& 31).toUInt32).toInt32))])) _
          by_cases hc8 : (16 : Int32) < (((Fmask xi).toUInt32 >>> ((16 : Int32) &&& 31).toUInt32).toInt32)
          · refine XS.icmpNo X0.here hx rfl (hb hby d9_52) rfl (tlt hc8).2.2.2 ?_
            have k : ∀ (v1 : Int32), v1 = (if (4 : Int32) < (((((Fmask xi).toUInt32 >>> ((16 : Int32) &&& 31).toUInt32).toInt32).toUInt32 >>> ((4 : Int32) &&& 31).toUInt32).toInt32) then ((23 : Int32) + (((((((((Fmask xi).toUInt32 >>> ((16 : Int32) &&& 31).toUInt32).toInt32).toUInt32 >>> ((4 : Int32) &&& 31).toUInt32).toInt32).toUInt32 >>> ((2 : Int32) &&& 31).toUInt32).toInt32).toUInt32 >>> ((1 : Int32) &&& 31).toUInt32).toInt32)) else ((21 : Int32) + (((((((Fmask xi).toUInt32 >>> ((16 : Int32) &&& 31).toUInt32).toInt32).toUInt32 >>> ((4 : Int32) &&& 31).toUInt32).toInt32).toUInt32 >>> ((1 : Int32) &&& 31).toUInt32).toInt32))) → ∀ (f : JFrame) (acts : List Action), f.method = m → f.locked = none → f.entered = [] → (doReturn e (s₁.setTop f) acts (some (.int v1))).1 = s₁.setFrames fs := fun v1 hv1 => k v1 (hv1.trans (if_pos hc8).symm)
            show Steps p.tables e below (s₁.setTop (mkF m 55 #[.val (.int (((Fmask xi).toUInt32 >>> ((16 : Int32) &&& 31).toUInt32).toInt32)), .val (.int (17 : Int32))] [])) _
            refine XS.iinc X0.here hx rfl (hb hby d9_55) rfl (l' := #[.val (.int (((Fmask xi).toUInt32 >>> ((16 : Int32) &&& 31).toUInt32).toInt32)), .val (.int (21 : Int32))]) rfl ?_
            show Steps p.tables e below (s₁.setTop (mkF m 58 #[.val (.int (((Fmask xi).toUInt32 >>> ((16 : Int32) &&& 31).toUInt32).toInt32)), .val (.int (21 : Int32))] [])) _
            refine XS.iloadN X0.here hx rfl (hb hby d9_58) rfl ?_
            show Steps p.tables e below (s₁.setTop (mkF m 59 #[.val (.int (((Fmask xi).toUInt32 >>> ((16 : Int32) &&& 31).toUInt32).toInt32)), .val (.int (21 : Int32))] [(.int (((Fmask xi).toUInt32 >>> ((16 : Int32) &&& 31).toUInt32).toInt32))])) _
            refine XS.iconst X0.here hx rfl (hb hby d9_59) ?_
            show Steps p.tables e below (s₁.setTop (mkF m 60 #[.val (.int (((Fmask xi).toUInt32 >>> ((16 : Int32) &&& 31).toUInt32).toInt32)), .val (.int (21 : Int32))] [(.int (4 : Int32)), (.int (((Fmask xi).toUInt32 >>> ((16 : Int32) &&& 31).toUInt32).toInt32))])) _
            refine XS.iushr X0.here hx rfl (hb hby d9_60) rfl ?_
            show Steps p.tables e below (s₁.setTop (mkF m 61 #[.val (.int (((Fmask xi).toUInt32 >>> ((16 : Int32) &&& 31).toUInt32).toInt32)), .val (.int (21 : Int32))] [(.int (((((Fmask xi).toUInt32 >>> ((16 : Int32) &&& 31).toUInt32).toInt32).toUInt32 >>> ((4 : Int32) &&& 31).toUInt32).toInt32))])) _
            refine XS.istoreN X0.here hx rfl (hb hby d9_61) rfl (l' := #[.val (.int (((((Fmask xi).toUInt32 >>> ((16 : Int32) &&& 31).toUInt32).toInt32).toUInt32 >>> ((4 : Int32) &&& 31).toUInt32).toInt32)), .val (.int (21 : Int32))]) rfl ?_
            show Steps p.tables e below (s₁.setTop (mkF m 62 #[.val (.int (((((Fmask xi).toUInt32 >>> ((16 : Int32) &&& 31).toUInt32).toInt32).toUInt32 >>> ((4 : Int32) &&& 31).toUInt32).toInt32)), .val (.int (21 : Int32))] [])) _
            refine XS.iloadN X0.here hx rfl (hb hby d9_62) rfl ?_
            show Steps p.tables e below (s₁.setTop (mkF m 63 #[.val (.int (((((Fmask xi).toUInt32 >>> ((16 : Int32) &&& 31).toUInt32).toInt32).toUInt32 >>> ((4 : Int32) &&& 31).toUInt32).toInt32)), .val (.int (21 : Int32))] [(.int (((((Fmask xi).toUInt32 >>> ((16 : Int32) &&& 31).toUInt32).toInt32).toUInt32 >>> ((4 : Int32) &&& 31).toUInt32).toInt32))])) _
            refine XS.iconst X0.here hx rfl (hb hby d9_63) ?_
            show Steps p.tables e below (s₁.setTop (mkF m 64 #[.val (.int (((((Fmask xi).toUInt32 >>> ((16 : Int32) &&& 31).toUInt32).toInt32).toUInt32 >>> ((4 : Int32) &&& 31).toUInt32).toInt32)), .val (.int (21 : Int32))] [(.int (4 : Int32)), (.int (((((Fmask xi).toUInt32 >>> ((16 : Int32) &&& 31).toUInt32).toInt32).toUInt32 >>> ((4 : Int32) &&& 31).toUInt32).toInt32))])) _
            by_cases hc9 : (4 : Int32) < (((((Fmask xi).toUInt32 >>> ((16 : Int32) &&& 31).toUInt32).toInt32).toUInt32 >>> ((4 : Int32) &&& 31).toUInt32).toInt32)
            · refine XS.icmpNo X0.here hx rfl (hb hby d9_64) rfl (tlt hc9).2.2.2 ?_
              have k : ∀ (v1 : Int32), v1 = ((23 : Int32) + (((((((((Fmask xi).toUInt32 >>> ((16 : Int32) &&& 31).toUInt32).toInt32).toUInt32 >>> ((4 : Int32) &&& 31).toUInt32).toInt32).toUInt32 >>> ((2 : Int32) &&& 31).toUInt32).toInt32).toUInt32 >>> ((1 : Int32) &&& 31).toUInt32).toInt32)) → ∀ (f : JFrame) (acts : List Action), f.method = m → f.locked = none → f.entered = [] → (doReturn e (s₁.setTop f) acts (some (.int v1))).1 = s₁.setFrames fs := fun v1 hv1 => k v1 (hv1.trans (if_pos hc9).symm)
              show Steps p.tables e below (s₁.setTop (mkF m 67 #[.val (.int (((((Fmask xi).toUInt32 >>> ((16 : Int32) &&& 31).toUInt32).toInt32).toUInt32 >>> ((4 : Int32) &&& 31).toUInt32).toInt32)), .val (.int (21 : Int32))] [])) _
              refine XS.iinc X0.here hx rfl (hb hby d9_67) rfl (l' := #[.val (.int (((((Fmask xi).toUInt32 >>> ((16 : Int32) &&& 31).toUInt32).toInt32).toUInt32 >>> ((4 : Int32) &&& 31).toUInt32).toInt32)), .val (.int (23 : Int32))]) rfl ?_
              show Steps p.tables e below (s₁.setTop (mkF m 70 #[.val (.int (((((Fmask xi).toUInt32 >>> ((16 : Int32) &&& 31).toUInt32).toInt32).toUInt32 >>> ((4 : Int32) &&& 31).toUInt32).toInt32)), .val (.int (23 : Int32))] [])) _
              refine XS.iloadN X0.here hx rfl (hb hby d9_70) rfl ?_
              show Steps p.tables e below (s₁.setTop (mkF m 71 #[.val (.int (((((Fmask xi).toUInt32 >>> ((16 : Int32) &&& 31).toUInt32).toInt32).toUInt32 >>> ((4 : Int32) &&& 31).toUInt32).toInt32)), .val (.int (23 : Int32))] [(.int (((((Fmask xi).toUInt32 >>> ((16 : Int32) &&& 31).toUInt32).toInt32).toUInt32 >>> ((4 : Int32) &&& 31).toUInt32).toInt32))])) _
              refine XS.iconst X0.here hx rfl (hb hby d9_71) ?_
              show Steps p.tables e below (s₁.setTop (mkF m 72 #[.val (.int (((((Fmask xi).toUInt32 >>> ((16 : Int32) &&& 31).toUInt32).toInt32).toUInt32 >>> ((4 : Int32) &&& 31).toUInt32).toInt32)), .val (.int (23 : Int32))] [(.int (2 : Int32)), (.int (((((Fmask xi).toUInt32 >>> ((16 : Int32) &&& 31).toUInt32).toInt32).toUInt32 >>> ((4 : Int32) &&& 31).toUInt32).toInt32))])) _
              refine XS.iushr X0.here hx rfl (hb hby d9_72) rfl ?_
              show Steps p.tables e below (s₁.setTop (mkF m 73 #[.val (.int (((((Fmask xi).toUInt32 >>> ((16 : Int32) &&& 31).toUInt32).toInt32).toUInt32 >>> ((4 : Int32) &&& 31).toUInt32).toInt32)), .val (.int (23 : Int32))] [(.int (((((((Fmask xi).toUInt32 >>> ((16 : Int32) &&& 31).toUInt32).toInt32).toUInt32 >>> ((4 : Int32) &&& 31).toUInt32).toInt32).toUInt32 >>> ((2 : Int32) &&& 31).toUInt32).toInt32))])) _
              refine XS.istoreN X0.here hx rfl (hb hby d9_73) rfl (l' := #[.val (.int (((((((Fmask xi).toUInt32 >>> ((16 : Int32) &&& 31).toUInt32).toInt32).toUInt32 >>> ((4 : Int32) &&& 31).toUInt32).toInt32).toUInt32 >>> ((2 : Int32) &&& 31).toUInt32).toInt32)), .val (.int (23 : Int32))]) rfl ?_
              show Steps p.tables e below (s₁.setTop (mkF m 74 #[.val (.int (((((((Fmask xi).toUInt32 >>> ((16 : Int32) &&& 31).toUInt32).toInt32).toUInt32 >>> ((4 : Int32) &&& 31).toUInt32).toInt32).toUInt32 >>> ((2 : Int32) &&& 31).toUInt32).toInt32)), .val (.int (23 : Int32))] [])) _
              refine XS.iloadN X0.here hx rfl (hb hby d9_74) rfl ?_
              show Steps p.tables e below (s₁.setTop (mkF m 75 #[.val (.int (((((((Fmask xi).toUInt32 >>> ((16 : Int32) &&& 31).toUInt32).toInt32).toUInt32 >>> ((4 : Int32) &&& 31).toUInt32).toInt32).toUInt32 >>> ((2 : Int32) &&& 31).toUInt32).toInt32)), .val (.int (23 : Int32))] [(.int (23 : Int32))])) _
              refine XS.iloadN X0.here hx rfl (hb hby d9_75) rfl ?_
              show Steps p.tables e below (s₁.setTop (mkF m 76 #[.val (.int (((((((Fmask xi).toUInt32 >>> ((16 : Int32) &&& 31).toUInt32).toInt32).toUInt32 >>> ((4 : Int32) &&& 31).toUInt32).toInt32).toUInt32 >>> ((2 : Int32) &&& 31).toUInt32).toInt32)), .val (.int (23 : Int32))] [(.int (((((((Fmask xi).toUInt32 >>> ((16 : Int32) &&& 31).toUInt32).toInt32).toUInt32 >>> ((4 : Int32) &&& 31).toUInt32).toInt32).toUInt32 >>> ((2 : Int32) &&& 31).toUInt32).toInt32)), (.int (23 : Int32))])) _
              refine XS.iconst X0.here hx rfl (hb hby d9_76) ?_
              show Steps p.tables e below (s₁.setTop (mkF m 77 #[.val (.int (((((((Fmask xi).toUInt32 >>> ((16 : Int32) &&& 31).toUInt32).toInt32).toUInt32 >>> ((4 : Int32) &&& 31).toUInt32).toInt32).toUInt32 >>> ((2 : Int32) &&& 31).toUInt32).toInt32)), .val (.int (23 : Int32))] [(.int (1 : Int32)), (.int (((((((Fmask xi).toUInt32 >>> ((16 : Int32) &&& 31).toUInt32).toInt32).toUInt32 >>> ((4 : Int32) &&& 31).toUInt32).toInt32).toUInt32 >>> ((2 : Int32) &&& 31).toUInt32).toInt32)), (.int (23 : Int32))])) _
              refine XS.iushr X0.here hx rfl (hb hby d9_77) rfl ?_
              show Steps p.tables e below (s₁.setTop (mkF m 78 #[.val (.int (((((((Fmask xi).toUInt32 >>> ((16 : Int32) &&& 31).toUInt32).toInt32).toUInt32 >>> ((4 : Int32) &&& 31).toUInt32).toInt32).toUInt32 >>> ((2 : Int32) &&& 31).toUInt32).toInt32)), .val (.int (23 : Int32))] [(.int (((((((((Fmask xi).toUInt32 >>> ((16 : Int32) &&& 31).toUInt32).toInt32).toUInt32 >>> ((4 : Int32) &&& 31).toUInt32).toInt32).toUInt32 >>> ((2 : Int32) &&& 31).toUInt32).toInt32).toUInt32 >>> ((1 : Int32) &&& 31).toUInt32).toInt32)), (.int (23 : Int32))])) _
              refine XS.iadd X0.here hx rfl (hb hby d9_78) rfl ?_
              show Steps p.tables e below (s₁.setTop (mkF m 79 #[.val (.int (((((((Fmask xi).toUInt32 >>> ((16 : Int32) &&& 31).toUInt32).toInt32).toUInt32 >>> ((4 : Int32) &&& 31).toUInt32).toInt32).toUInt32 >>> ((2 : Int32) &&& 31).toUInt32).toInt32)), .val (.int (23 : Int32))] [(.int ((23 : Int32) + (((((((((Fmask xi).toUInt32 >>> ((16 : Int32) &&& 31).toUInt32).toInt32).toUInt32 >>> ((4 : Int32) &&& 31).toUInt32).toInt32).toUInt32 >>> ((2 : Int32) &&& 31).toUInt32).toInt32).toUInt32 >>> ((1 : Int32) &&& 31).toUInt32).toInt32)))])) _
              exact retI X0 hx Bd.returns (hb hby d9_79) (k _ rfl)
            · refine XS.icmpYes X0.here hx rfl (pc0 := 64) (pc' := 74) rfl (hb hby d9_64) rfl (flt hc9).2.2.2 (by decide) (by decide) ?_
              have k : ∀ (v1 : Int32), v1 = ((21 : Int32) + (((((((Fmask xi).toUInt32 >>> ((16 : Int32) &&& 31).toUInt32).toInt32).toUInt32 >>> ((4 : Int32) &&& 31).toUInt32).toInt32).toUInt32 >>> ((1 : Int32) &&& 31).toUInt32).toInt32)) → ∀ (f : JFrame) (acts : List Action), f.method = m → f.locked = none → f.entered = [] → (doReturn e (s₁.setTop f) acts (some (.int v1))).1 = s₁.setFrames fs := fun v1 hv1 => k v1 (hv1.trans (if_neg hc9).symm)
              show Steps p.tables e below (s₁.setTop (mkF m 74 #[.val (.int (((((Fmask xi).toUInt32 >>> ((16 : Int32) &&& 31).toUInt32).toInt32).toUInt32 >>> ((4 : Int32) &&& 31).toUInt32).toInt32)), .val (.int (21 : Int32))] [])) _
              refine XS.iloadN X0.here hx rfl (hb hby d9_74) rfl ?_
              show Steps p.tables e below (s₁.setTop (mkF m 75 #[.val (.int (((((Fmask xi).toUInt32 >>> ((16 : Int32) &&& 31).toUInt32).toInt32).toUInt32 >>> ((4 : Int32) &&& 31).toUInt32).toInt32)), .val (.int (21 : Int32))] [(.int (21 : Int32))])) _
              refine XS.iloadN X0.here hx rfl (hb hby d9_75) rfl ?_
              show Steps p.tables e below (s₁.setTop (mkF m 76 #[.val (.int (((((Fmask xi).toUInt32 >>> ((16 : Int32) &&& 31).toUInt32).toInt32).toUInt32 >>> ((4 : Int32) &&& 31).toUInt32).toInt32)), .val (.int (21 : Int32))] [(.int (((((Fmask xi).toUInt32 >>> ((16 : Int32) &&& 31).toUInt32).toInt32).toUInt32 >>> ((4 : Int32) &&& 31).toUInt32).toInt32)), (.int (21 : Int32))])) _
              refine XS.iconst X0.here hx rfl (hb hby d9_76) ?_
              show Steps p.tables e below (s₁.setTop (mkF m 77 #[.val (.int (((((Fmask xi).toUInt32 >>> ((16 : Int32) &&& 31).toUInt32).toInt32).toUInt32 >>> ((4 : Int32) &&& 31).toUInt32).toInt32)), .val (.int (21 : Int32))] [(.int (1 : Int32)), (.int (((((Fmask xi).toUInt32 >>> ((16 : Int32) &&& 31).toUInt32).toInt32).toUInt32 >>> ((4 : Int32) &&& 31).toUInt32).toInt32)), (.int (21 : Int32))])) _
              refine XS.iushr X0.here hx rfl (hb hby d9_77) rfl ?_
              show Steps p.tables e below (s₁.setTop (mkF m 78 #[.val (.int (((((Fmask xi).toUInt32 >>> ((16 : Int32) &&& 31).toUInt32).toInt32).toUInt32 >>> ((4 : Int32) &&& 31).toUInt32).toInt32)), .val (.int (21 : Int32))] [(.int (((((((Fmask xi).toUInt32 >>> ((16 : Int32) &&& 31).toUInt32).toInt32).toUInt32 >>> ((4 : Int32) &&& 31).toUInt32).toInt32).toUInt32 >>> ((1 : Int32) &&& 31).toUInt32).toInt32)), (.int (21 : Int32))])) _
              refine XS.iadd X0.here hx rfl (hb hby d9_78) rfl ?_
              show Steps p.tables e below (s₁.setTop (mkF m 79 #[.val (.int (((((Fmask xi).toUInt32 >>> ((16 : Int32) &&& 31).toUInt32).toInt32).toUInt32 >>> ((4 : Int32) &&& 31).toUInt32).toInt32)), .val (.int (21 : Int32))] [(.int ((21 : Int32) + (((((((Fmask xi).toUInt32 >>> ((16 : Int32) &&& 31).toUInt32).toInt32).toUInt32 >>> ((4 : Int32) &&& 31).toUInt32).toInt32).toUInt32 >>> ((1 : Int32) &&& 31).toUInt32).toInt32)))])) _
              exact retI X0 hx Bd.returns (hb hby d9_79) (k _ rfl)
          · refine XS.icmpYes X0.here hx rfl (pc0 := 52) (pc' := 62) rfl (hb hby d9_52) rfl (flt hc8).2.2.2 (by decide) (by decide) ?_
            have k : ∀ (v1 : Int32), v1 = (if (4 : Int32) < (((Fmask xi).toUInt32 >>> ((16 : Int32) &&& 31).toUInt32).toInt32) then ((19 : Int32) + (((((((Fmask xi).toUInt32 >>> ((16 : Int32) &&& 31).toUInt32).toInt32).toUInt32 >>> ((2 : Int32) &&& 31).toUInt32).toInt32).toUInt32 >>> ((1 : Int32) &&& 31).toUInt32).toInt32)) else ((17 : Int32) + (((((Fmask xi).toUInt32 >>> ((16 : Int32) &&& 31).toUInt32).toInt32).toUInt32 >>> ((1 : Int32) &&& 31).toUInt32).toInt32))) → ∀ (f : JFrame) (acts : List Action), f.method = m → f.locked = none → f.entered = [] → (doReturn e (s₁.setTop f) acts (some (.int v1))).1 = s₁.setFrames fs := fun v1 hv1 => k v1 (hv1.trans (if_neg hc8).symm)
            show Steps p.tables e below (s₁.setTop (mkF m 62 #[.val (.int (((Fmask xi).toUInt32 >>> ((16 : Int32) &&& 31).toUInt32).toInt32)), .val (.int (17 : Int32))] [])) _
            refine XS.iloadN X0.here hx rfl (hb hby d9_62) rfl ?_
            show Steps p.tables e below (s₁.setTop (mkF m 63 #[.val (.int (((Fmask xi).toUInt32 >>> ((16 : Int32) &&& 31).toUInt32).toInt32)), .val (.int (17 : Int32))] [(.int (((Fmask xi).toUInt32 >>> ((16 : Int32) &&& 31).toUInt32).toInt32))])) _
            refine XS.iconst X0.here hx rfl (hb hby d9_63) ?_
            show Steps p.tables e below (s₁.setTop (mkF m 64 #[.val (.int (((Fmask xi).toUInt32 >>> ((16 : Int32) &&& 31).toUInt32).toInt32)), .val (.int (17 : Int32))] [(.int (4 : Int32)), (.int (((Fmask xi).toUInt32 >>> ((16 : Int32) &&& 31).toUInt32).toInt32))])) _
            by_cases hc10 : (4 : Int32) < (((Fmask xi).toUInt32 >>> ((16 : Int32) &&& 31).toUInt32).toInt32)
            · refine XS.icmpNo X0.here hx rfl (hb hby d9_64) rfl (tlt hc10).2.2.2 ?_
              have k : ∀ (v1 : Int32), v1 = ((19 : Int32) + (((((((Fmask xi).toUInt32 >>> ((16 : Int32) &&& 31).toUInt32).toInt32).toUInt32 >>> ((2 : Int32) &&& 31).toUInt32).toInt32).toUInt32 >>> ((1 : Int32) &&& 31).toUInt32).toInt32)) → ∀ (f : JFrame) (acts : List Action), f.method = m → f.locked = none → f.entered = [] → (doReturn e (s₁.setTop f) acts (some (.int v1))).1 = s₁.setFrames fs := fun v1 hv1 => k v1 (hv1.trans (if_pos hc10).symm)
              show Steps p.tables e below (s₁.setTop (mkF m 67 #[.val (.int (((Fmask xi).toUInt32 >>> ((16 : Int32) &&& 31).toUInt32).toInt32)), .val (.int (17 : Int32))] [])) _
              refine XS.iinc X0.here hx rfl (hb hby d9_67) rfl (l' := #[.val (.int (((Fmask xi).toUInt32 >>> ((16 : Int32) &&& 31).toUInt32).toInt32)), .val (.int (19 : Int32))]) rfl ?_
              show Steps p.tables e below (s₁.setTop (mkF m 70 #[.val (.int (((Fmask xi).toUInt32 >>> ((16 : Int32) &&& 31).toUInt32).toInt32)), .val (.int (19 : Int32))] [])) _
              refine XS.iloadN X0.here hx rfl (hb hby d9_70) rfl ?_
              show Steps p.tables e below (s₁.setTop (mkF m 71 #[.val (.int (((Fmask xi).toUInt32 >>> ((16 : Int32) &&& 31).toUInt32).toInt32)), .val (.int (19 : Int32))] [(.int (((Fmask xi).toUInt32 >>> ((16 : Int32) &&& 31).toUInt32).toInt32))])) _
              refine XS.iconst X0.here hx rfl (hb hby d9_71) ?_
              show Steps p.tables e below (s₁.setTop (mkF m 72 #[.val (.int (((Fmask xi).toUInt32 >>> ((16 : Int32) &&& 31).toUInt32).toInt32)), .val (.int (19 : Int32))] [(.int (2 : Int32)), (.int (((Fmask xi).toUInt32 >>> ((16 : Int32) &&& 31).toUInt32).toInt32))])) _
              refine XS.iushr X0.here hx rfl (hb hby d9_72) rfl ?_
              show Steps p.tables e below (s₁.setTop (mkF m 73 #[.val (.int (((Fmask xi).toUInt32 >>> ((16 : Int32) &&& 31).toUInt32).toInt32)), .val (.int (19 : Int32))] [(.int (((((Fmask xi).toUInt32 >>> ((16 : Int32) &&& 31).toUInt32).toInt32).toUInt32 >>> ((2 : Int32) &&& 31).toUInt32).toInt32))])) _
              refine XS.istoreN X0.here hx rfl (hb hby d9_73) rfl (l' := #[.val (.int (((((Fmask xi).toUInt32 >>> ((16 : Int32) &&& 31).toUInt32).toInt32).toUInt32 >>> ((2 : Int32) &&& 31).toUInt32).toInt32)), .val (.int (19 : Int32))]) rfl ?_
              show Steps p.tables e below (s₁.setTop (mkF m 74 #[.val (.int (((((Fmask xi).toUInt32 >>> ((16 : Int32) &&& 31).toUInt32).toInt32).toUInt32 >>> ((2 : Int32) &&& 31).toUInt32).toInt32)), .val (.int (19 : Int32))] [])) _
              refine XS.iloadN X0.here hx rfl (hb hby d9_74) rfl ?_
              show Steps p.tables e below (s₁.setTop (mkF m 75 #[.val (.int (((((Fmask xi).toUInt32 >>> ((16 : Int32) &&& 31).toUInt32).toInt32).toUInt32 >>> ((2 : Int32) &&& 31).toUInt32).toInt32)), .val (.int (19 : Int32))] [(.int (19 : Int32))])) _
              refine XS.iloadN X0.here hx rfl (hb hby d9_75) rfl ?_
              show Steps p.tables e below (s₁.setTop (mkF m 76 #[.val (.int (((((Fmask xi).toUInt32 >>> ((16 : Int32) &&& 31).toUInt32).toInt32).toUInt32 >>> ((2 : Int32) &&& 31).toUInt32).toInt32)), .val (.int (19 : Int32))] [(.int (((((Fmask xi).toUInt32 >>> ((16 : Int32) &&& 31).toUInt32).toInt32).toUInt32 >>> ((2 : Int32) &&& 31).toUInt32).toInt32)), (.int (19 : Int32))])) _
              refine XS.iconst X0.here hx rfl (hb hby d9_76) ?_
              show Steps p.tables e below (s₁.setTop (mkF m 77 #[.val (.int (((((Fmask xi).toUInt32 >>> ((16 : Int32) &&& 31).toUInt32).toInt32).toUInt32 >>> ((2 : Int32) &&& 31).toUInt32).toInt32)), .val (.int (19 : Int32))] [(.int (1 : Int32)), (.int (((((Fmask xi).toUInt32 >>> ((16 : Int32) &&& 31).toUInt32).toInt32).toUInt32 >>> ((2 : Int32) &&& 31).toUInt32).toInt32)), (.int (19 : Int32))])) _
              refine XS.iushr X0.here hx rfl (hb hby d9_77) rfl ?_
              show Steps p.tables e below (s₁.setTop (mkF m 78 #[.val (.int (((((Fmask xi).toUInt32 >>> ((16 : Int32) &&& 31).toUInt32).toInt32).toUInt32 >>> ((2 : Int32) &&& 31).toUInt32).toInt32)), .val (.int (19 : Int32))] [(.int (((((((Fmask xi).toUInt32 >>> ((16 : Int32) &&& 31).toUInt32).toInt32).toUInt32 >>> ((2 : Int32) &&& 31).toUInt32).toInt32).toUInt32 >>> ((1 : Int32) &&& 31).toUInt32).toInt32)), (.int (19 : Int32))])) _
              refine XS.iadd X0.here hx rfl (hb hby d9_78) rfl ?_
              show Steps p.tables e below (s₁.setTop (mkF m 79 #[.val (.int (((((Fmask xi).toUInt32 >>> ((16 : Int32) &&& 31).toUInt32).toInt32).toUInt32 >>> ((2 : Int32) &&& 31).toUInt32).toInt32)), .val (.int (19 : Int32))] [(.int ((19 : Int32) + (((((((Fmask xi).toUInt32 >>> ((16 : Int32) &&& 31).toUInt32).toInt32).toUInt32 >>> ((2 : Int32) &&& 31).toUInt32).toInt32).toUInt32 >>> ((1 : Int32) &&& 31).toUInt32).toInt32)))])) _
              exact retI X0 hx Bd.returns (hb hby d9_79) (k _ rfl)
            · refine XS.icmpYes X0.here hx rfl (pc0 := 64) (pc' := 74) rfl (hb hby d9_64) rfl (flt hc10).2.2.2 (by decide) (by decide) ?_
              have k : ∀ (v1 : Int32), v1 = ((17 : Int32) + (((((Fmask xi).toUInt32 >>> ((16 : Int32) &&& 31).toUInt32).toInt32).toUInt32 >>> ((1 : Int32) &&& 31).toUInt32).toInt32)) → ∀ (f : JFrame) (acts : List Action), f.method = m → f.locked = none → f.entered = [] → (doReturn e (s₁.setTop f) acts (some (.int v1))).1 = s₁.setFrames fs := fun v1 hv1 => k v1 (hv1.trans (if_neg hc10).symm)
              show Steps p.tables e below (s₁.setTop (mkF m 74 #[.val (.int (((Fmask xi).toUInt32 >>> ((16 : Int32) &&& 31).toUInt32).toInt32)), .val (.int (17 : Int32))] [])) _
              refine XS.iloadN X0.here hx rfl (hb hby d9_74) rfl ?_
              show Steps p.tables e below (s₁.setTop (mkF m 75 #[.val (.int (((Fmask xi).toUInt32 >>> ((16 : Int32) &&& 31).toUInt32).toInt32)), .val (.int (17 : Int32))] [(.int (17 : Int32))])) _
              refine XS.iloadN X0.here hx rfl (hb hby d9_75) rfl ?_
              show Steps p.tables e below (s₁.setTop (mkF m 76 #[.val (.int (((Fmask xi).toUInt32 >>> ((16 : Int32) &&& 31).toUInt32).toInt32)), .val (.int (17 : Int32))] [(.int (((Fmask xi).toUInt32 >>> ((16 : Int32) &&& 31).toUInt32).toInt32)), (.int (17 : Int32))])) _
              refine XS.iconst X0.here hx rfl (hb hby d9_76) ?_
              show Steps p.tables e below (s₁.setTop (mkF m 77 #[.val (.int (((Fmask xi).toUInt32 >>> ((16 : Int32) &&& 31).toUInt32).toInt32)), .val (.int (17 : Int32))] [(.int (1 : Int32)), (.int (((Fmask xi).toUInt32 >>> ((16 : Int32) &&& 31).toUInt32).toInt32)), (.int (17 : Int32))])) _
              refine XS.iushr X0.here hx rfl (hb hby d9_77) rfl ?_
              show Steps p.tables e below (s₁.setTop (mkF m 78 #[.val (.int (((Fmask xi).toUInt32 >>> ((16 : Int32) &&& 31).toUInt32).toInt32)), .val (.int (17 : Int32))] [(.int (((((Fmask xi).toUInt32 >>> ((16 : Int32) &&& 31).toUInt32).toInt32).toUInt32 >>> ((1 : Int32) &&& 31).toUInt32).toInt32)), (.int (17 : Int32))])) _
              refine XS.iadd X0.here hx rfl (hb hby d9_78) rfl ?_
              show Steps p.tables e below (s₁.setTop (mkF m 79 #[.val (.int (((Fmask xi).toUInt32 >>> ((16 : Int32) &&& 31).toUInt32).toInt32)), .val (.int (17 : Int32))] [(.int ((17 : Int32) + (((((Fmask xi).toUInt32 >>> ((16 : Int32) &&& 31).toUInt32).toInt32).toUInt32 >>> ((1 : Int32) &&& 31).toUInt32).toInt32)))])) _
              exact retI X0 hx Bd.returns (hb hby d9_79) (k _ rfl)
      · refine XS.icmpYes X0.here hx rfl (pc0 := 23) (pc' := 34) rfl (hb hby d9_23) rfl (flt hc3).2.2.2 (by decide) (by decide) ?_
        have k : ∀ (v1 : Int32), v1 = (if (256 : Int32) < (Fmask xi) then (if (16 : Int32) < (((Fmask xi).toUInt32 >>> ((8 : Int32) &&& 31).toUInt32).toInt32) then (if (4 : Int32) < (((((Fmask xi).toUInt32 >>> ((8 : Int32) &&& 31).toUInt32).toInt32).toUInt32 >>> ((4 : Int32) &&& 31).toUInt32).toInt32) then ((15 : Int32) + (((((((((Fmask xi).toUInt32 >>> ((8 : Int32) &&& 31).toUInt32).toInt32).toUInt32 >>> ((4 : Int32) &&& 31).toUInt32).toInt32).toUInt32 >>> ((2 : Int32) &&& 31).toUInt32).toInt32).toUInt32 >>> ((1 : Int32) &&& 31).toUInt32).toInt32)) else ((13 : Int32) + (((((((Fmask xi).toUInt32 >>> ((8 : Int32) &&& 31).toUInt32).toInt32).toUInt32 >>> ((4 : Int32) &&& 31).toUInt32).toInt32).toUInt32 >>> ((1 : Int32) &&& 31).toUInt32).toInt32))) else (if (4 : Int32) < (((Fmask xi).toUInt32 >>> ((8 : Int32) &&& 31).toUInt32).toInt32) then ((11 : Int32) + (((((((Fmask xi).toUInt32 >>> ((8 : Int32) &&& 31).toUInt32).toInt32).toUInt32 >>> ((2 : Int32) &&& 31).toUInt32).toInt32).toUInt32 >>> ((1 : Int32) &&& 31).toUInt32).toInt32)) else ((9 : Int32) + (((((Fmask xi).toUInt32 >>> ((8 : Int32) &&& 31).toUInt32).toInt32).toUInt32 >>> ((1 : Int32) &&& 31).toUInt32).toInt32)))) else (if (16 : Int32) < (Fmask xi) then (if (4 : Int32) < (((Fmask xi).toUInt32 >>> ((4 : Int32) &&& 31).toUInt32).toInt32) then ((7 : Int32) + (((((((Fmask xi).toUInt32 >>> ((4 : Int32) &&& 31).toUInt32).toInt32).toUInt32 >>> ((2 : Int32) &&& 31).toUInt32).toInt32).toUInt32 >>> ((1 : Int32) &&& 31).toUInt32).toInt32)) else ((5 : Int32) + (((((Fmask xi).toUInt32 >>> ((4 : Int32) &&& 31).toUInt32).toInt32).toUInt32 >>> ((1 : Int32) &&& 31).toUInt32).toInt32))) else (if (4 : Int32) < (Fmask xi) then ((3 : Int32) + (((((Fmask xi).toUInt32 >>> ((2 : Int32) &&& 31).toUInt32).toInt32).toUInt32 >>> ((1 : Int32) &&& 31).toUInt32).toInt32)) else ((1 : Int32) + (((Fmask xi).toUInt32 >>> ((1 : Int32) &&& 31).toUInt32).toInt32))))) → ∀ (f : JFrame) (acts : List Action), f.method = m → f.locked = none → f.entered = [] → (doReturn e (s₁.setTop f) acts (some (.int v1))).1 = s₁.setFrames fs := fun v1 hv1 => k v1 (hv1.trans (if_neg hc3).symm)
        show Steps p.tables e below (s₁.setTop (mkF m 34 #[.val (.int (Fmask xi)), .val (.int (1 : Int32))] [])) _
        refine XS.iloadN X0.here hx rfl (hb hby d9_34) rfl ?_
        show Steps p.tables e below (s₁.setTop (mkF m 35 #[.val (.int (Fmask xi)), .val (.int (1 : Int32))] [(.int (Fmask xi))])) _
        refine XS.sipush X0.here hx rfl (hb hby d9_35) ?_
        show Steps p.tables e below (s₁.setTop (mkF m 38 #[.val (.int (Fmask xi)), .val (.int (1 : Int32))] [(.int (256 : Int32)), (.int (Fmask xi))])) _
        by_cases hc11 : (256 : Int32) < (Fmask xi)
        · refine XS.icmpNo X0.here hx rfl (hb hby d9_38) rfl (tlt hc11).2.2.2 ?_
          have k : ∀ (v1 : Int32), v1 = (if (16 : Int32) < (((Fmask xi).toUInt32 >>> ((8 : Int32) &&& 31).toUInt32).toInt32) then (if (4 : Int32) < (((((Fmask xi).toUInt32 >>> ((8 : Int32) &&& 31).toUInt32).toInt32).toUInt32 >>> ((4 : Int32) &&& 31).toUInt32).toInt32) then ((15 : Int32) + (((((((((Fmask xi).toUInt32 >>> ((8 : Int32) &&& 31).toUInt32).toInt32).toUInt32 >>> ((4 : Int32) &&& 31).toUInt32).toInt32).toUInt32 >>> ((2 : Int32) &&& 31).toUInt32).toInt32).toUInt32 >>> ((1 : Int32) &&& 31).toUInt32).toInt32)) else ((13 : Int32) + (((((((Fmask xi).toUInt32 >>> ((8 : Int32) &&& 31).toUInt32).toInt32).toUInt32 >>> ((4 : Int32) &&& 31).toUInt32).toInt32).toUInt32 >>> ((1 : Int32) &&& 31).toUInt32).toInt32))) else (if (4 : Int32) < (((Fmask xi).toUInt32 >>> ((8 : Int32) &&& 31).toUInt32).toInt32) then ((11 : Int32) + (((((((Fmask xi).toUInt32 >>> ((8 : Int32) &&& 31).toUInt32).toInt32).toUInt32 >>> ((2 : Int32) &&& 31).toUInt32).toInt32).toUInt32 >>> ((1 : Int32) &&& 31).toUInt32).toInt32)) else ((9 : Int32) + (((((Fmask xi).toUInt32 >>> ((8 : Int32) &&& 31).toUInt32).toInt32).toUInt32 >>> ((1 : Int32) &&& 31).toUInt32).toInt32)))) → ∀ (f : JFrame) (acts : List Action), f.method = m → f.locked = none → f.entered = [] → (doReturn e (s₁.setTop f) acts (some (.int v1))).1 = s₁.setFrames fs := fun v1 hv1 => k v1 (hv1.trans (if_pos hc11).symm)
          show Steps p.tables e below (s₁.setTop (mkF m 41 #[.val (.int (Fmask xi)), .val (.int (1 : Int32))] [])) _
          refine XS.iinc X0.here hx rfl (hb hby d9_41) rfl (l' := #[.val (.int (Fmask xi)), .val (.int (9 : Int32))]) rfl ?_
          show Steps p.tables e below (s₁.setTop (mkF m 44 #[.val (.int (Fmask xi)), .val (.int (9 : Int32))] [])) _
          refine XS.iloadN X0.here hx rfl (hb hby d9_44) rfl ?_
          show Steps p.tables e below (s₁.setTop (mkF m 45 #[.val (.int (Fmask xi)), .val (.int (9 : Int32))] [(.int (Fmask xi))])) _
          refine XS.bipush X0.here hx rfl (hb hby d9_45) ?_
          show Steps p.tables e below (s₁.setTop (mkF m 47 #[.val (.int (Fmask xi)), .val (.int (9 : Int32))] [(.int (8 : Int32)), (.int (Fmask xi))])) _
          refine XS.iushr X0.here hx rfl (hb hby d9_47) rfl ?_
          show Steps p.tables e below (s₁.setTop (mkF m 48 #[.val (.int (Fmask xi)), .val (.int (9 : Int32))] [(.int (((Fmask xi).toUInt32 >>> ((8 : Int32) &&& 31).toUInt32).toInt32))])) _
          refine XS.istoreN X0.here hx rfl (hb hby d9_48) rfl (l' := #[.val (.int (((Fmask xi).toUInt32 >>> ((8 : Int32) &&& 31).toUInt32).toInt32)), .val (.int (9 : Int32))]) rfl ?_
          show Steps p.tables e below (s₁.setTop (mkF m 49 #[.val (.int (((Fmask xi).toUInt32 >>> ((8 : Int32) &&& 31).toUInt32).toInt32)), .val (.int (9 : Int32))] [])) _
          refine XS.iloadN X0.here hx rfl (hb hby d9_49) rfl ?_
          show Steps p.tables e below (s₁.setTop (mkF m 50 #[.val (.int (((Fmask xi).toUInt32 >>> ((8 : Int32) &&& 31).toUInt32).toInt32)), .val (.int (9 : Int32))] [(.int (((Fmask xi).toUInt32 >>> ((8 : Int32) &&& 31).toUInt32).toInt32))])) _
          refine XS.bipush X0.here hx rfl (hb hby d9_50) ?_
          show Steps p.tables e below (s₁.setTop (mkF m 52 #[.val (.int (((Fmask xi).toUInt32 >>> ((8 : Int32) &&& 31).toUInt32).toInt32)), .val (.int (9 : Int32))] [(.int (16 : Int32)), (.int (((Fmask xi).toUInt32 >>> ((8 : Int32) &&& 31).toUInt32).toInt32))])) _
          by_cases hc12 : (16 : Int32) < (((Fmask xi).toUInt32 >>> ((8 : Int32) &&& 31).toUInt32).toInt32)
          · refine XS.icmpNo X0.here hx rfl (hb hby d9_52) rfl (tlt hc12).2.2.2 ?_
            have k : ∀ (v1 : Int32), v1 = (if (4 : Int32) < (((((Fmask xi).toUInt32 >>> ((8 : Int32) &&& 31).toUInt32).toInt32).toUInt32 >>> ((4 : Int32) &&& 31).toUInt32).toInt32) then ((15 : Int32) + (((((((((Fmask xi).toUInt32 >>> ((8 : Int32) &&& 31).toUInt32).toInt32).toUInt32 >>> ((4 : Int32) &&& 31).toUInt32).toInt32).toUInt32 >>> ((2 : Int32) &&& 31).toUInt32).toInt32).toUInt32 >>> ((1 : Int32) &&& 31).toUInt32).toInt32)) else ((13 : Int32) + (((((((Fmask xi).toUInt32 >>> ((8 : Int32) &&& 31).toUInt32).toInt32).toUInt32 >>> ((4 : Int32) &&& 31).toUInt32).toInt32).toUInt32 >>> ((1 : Int32) &&& 31).toUInt32).toInt32))) → ∀ (f : JFrame) (acts : List Action), f.method = m → f.locked = none → f.entered = [] → (doReturn e (s₁.setTop f) acts (some (.int v1))).1 = s₁.setFrames fs := fun v1 hv1 => k v1 (hv1.trans (if_pos hc12).symm)
            show Steps p.tables e below (s₁.setTop (mkF m 55 #[.val (.int (((Fmask xi).toUInt32 >>> ((8 : Int32) &&& 31).toUInt32).toInt32)), .val (.int (9 : Int32))] [])) _
            refine XS.iinc X0.here hx rfl (hb hby d9_55) rfl (l' := #[.val (.int (((Fmask xi).toUInt32 >>> ((8 : Int32) &&& 31).toUInt32).toInt32)), .val (.int (13 : Int32))]) rfl ?_
            show Steps p.tables e below (s₁.setTop (mkF m 58 #[.val (.int (((Fmask xi).toUInt32 >>> ((8 : Int32) &&& 31).toUInt32).toInt32)), .val (.int (13 : Int32))] [])) _
            refine XS.iloadN X0.here hx rfl (hb hby d9_58) rfl ?_
            show Steps p.tables e below (s₁.setTop (mkF m 59 #[.val (.int (((Fmask xi).toUInt32 >>> ((8 : Int32) &&& 31).toUInt32).toInt32)), .val (.int (13 : Int32))] [(.int (((Fmask xi).toUInt32 >>> ((8 : Int32) &&& 31).toUInt32).toInt32))])) _
            refine XS.iconst X0.here hx rfl (hb hby d9_59) ?_
            show Steps p.tables e below (s₁.setTop (mkF m 60 #[.val (.int (((Fmask xi).toUInt32 >>> ((8 : Int32) &&& 31).toUInt32).toInt32)), .val (.int (13 : Int32))] [(.int (4 : Int32)), (.int (((Fmask xi).toUInt32 >>> ((8 : Int32) &&& 31).toUInt32).toInt32))])) _
            refine XS.iushr X0.here hx rfl (hb hby d9_60) rfl ?_
            show Steps p.tables e below (s₁.setTop (mkF m 61 #[.val (.int (((Fmask xi).toUInt32 >>> ((8 : Int32) &&& 31).toUInt32).toInt32)), .val (.int (13 : Int32))] [(.int (((((Fmask xi).toUInt32 >>> ((8 : Int32) &&& 31).toUInt32).toInt32).toUInt32 >>> ((4 : Int32) &&& 31).toUInt32).toInt32))])) _
            refine XS.istoreN X0.here hx rfl (hb hby d9_61) rfl (l' := #[.val (.int (((((Fmask xi).toUInt32 >>> ((8 : Int32) &&& 31).toUInt32).toInt32).toUInt32 >>> ((4 : Int32) &&& 31).toUInt32).toInt32)), .val (.int (13 : Int32))]) rfl ?_
            show Steps p.tables e below (s₁.setTop (mkF m 62 #[.val (.int (((((Fmask xi).toUInt32 >>> ((8 : Int32) &&& 31).toUInt32).toInt32).toUInt32 >>> ((4 : Int32) &&& 31).toUInt32).toInt32)), .val (.int (13 : Int32))] [])) _
            refine XS.iloadN X0.here hx rfl (hb hby d9_62) rfl ?_
            show Steps p.tables e below (s₁.setTop (mkF m 63 #[.val (.int (((((Fmask xi).toUInt32 >>> ((8 : Int32) &&& 31).toUInt32).toInt32).toUInt32 >>> ((4 : Int32) &&& 31).toUInt32).toInt32)), .val (.int (13 : Int32))] [(.int (((((Fmask xi).toUInt32 >>> ((8 : Int32) &&& 31).toUInt32).toInt32).toUInt32 >>> ((4 : Int32) &&& 31).toUInt32).toInt32))])) _
            refine XS.iconst X0.here hx rfl (hb hby d9_63) ?_
            show Steps p.tables e below (s₁.setTop (mkF m 64 #[.val (.int (((((Fmask xi).toUInt32 >>> ((8 : Int32) &&& 31).toUInt32).toInt32).toUInt32 >>> ((4 : Int32) &&& 31).toUInt32).toInt32)), .val (.int (13 : Int32))] [(.int (4 : Int32)), (.int (((((Fmask xi).toUInt32 >>> ((8 : Int32) &&& 31).toUInt32).toInt32).toUInt32 >>> ((4 : Int32) &&& 31).toUInt32).toInt32))])) _
            by_cases hc13 : (4 : Int32) < (((((Fmask xi).toUInt32 >>> ((8 : Int32) &&& 31).toUInt32).toInt32).toUInt32 >>> ((4 : Int32) &&& 31).toUInt32).toInt32)
            · refine XS.icmpNo X0.here hx rfl (hb hby d9_64) rfl (tlt hc13).2.2.2 ?_
              have k : ∀ (v1 : Int32), v1 = ((15 : Int32) + (((((((((Fmask xi).toUInt32 >>> ((8 : Int32) &&& 31).toUInt32).toInt32).toUInt32 >>> ((4 : Int32) &&& 31).toUInt32).toInt32).toUInt32 >>> ((2 : Int32) &&& 31).toUInt32).toInt32).toUInt32 >>> ((1 : Int32) &&& 31).toUInt32).toInt32)) → ∀ (f : JFrame) (acts : List Action), f.method = m → f.locked = none → f.entered = [] → (doReturn e (s₁.setTop f) acts (some (.int v1))).1 = s₁.setFrames fs := fun v1 hv1 => k v1 (hv1.trans (if_pos hc13).symm)
              show Steps p.tables e below (s₁.setTop (mkF m 67 #[.val (.int (((((Fmask xi).toUInt32 >>> ((8 : Int32) &&& 31).toUInt32).toInt32).toUInt32 >>> ((4 : Int32) &&& 31).toUInt32).toInt32)), .val (.int (13 : Int32))] [])) _
              refine XS.iinc X0.here hx rfl (hb hby d9_67) rfl (l' := #[.val (.int (((((Fmask xi).toUInt32 >>> ((8 : Int32) &&& 31).toUInt32).toInt32).toUInt32 >>> ((4 : Int32) &&& 31).toUInt32).toInt32)), .val (.int (15 : Int32))]) rfl ?_
              show Steps p.tables e below (s₁.setTop (mkF m 70 #[.val (.int (((((Fmask xi).toUInt32 >>> ((8 : Int32) &&& 31).toUInt32).toInt32).toUInt32 >>> ((4 : Int32) &&& 31).toUInt32).toInt32)), .val (.int (15 : Int32))] [])) _
              refine XS.iloadN X0.here hx rfl (hb hby d9_70) rfl ?_
              show Steps p.tables e below (s₁.setTop (mkF m 71 #[.val (.int (((((Fmask xi).toUInt32 >>> ((8 : Int32) &&& 31).toUInt32).toInt32).toUInt32 >>> ((4 : Int32) &&& 31).toUInt32).toInt32)), .val (.int (15 : Int32))] [(.int (((((Fmask xi).toUInt32 >>> ((8 : Int32) &&& 31).toUInt32).toInt32).toUInt32 >>> ((4 : Int32) &&& 31).toUInt32).toInt32))])) _
              refine XS.iconst X0.here hx rfl (hb hby d9_71) ?_
              show Steps p.tables e below (s₁.setTop (mkF m 72 #[.val (.int (((((Fmask xi).toUInt32 >>> ((8 : Int32) &&& 31).toUInt32).toInt32).toUInt32 >>> ((4 : Int32) &&& 31).toUInt32).toInt32)), .val (.int (15 : Int32))] [(.int (2 : Int32)), (.int (((((Fmask xi).toUInt32 >>> ((8 : Int32) &&& 31).toUInt32).toInt32).toUInt32 >>> ((4 : Int32) &&& 31).toUInt32).toInt32))])) _
              refine XS.iushr X0.here hx rfl (hb hby d9_72) rfl ?_
              show Steps p.tables e below (s₁.setTop (mkF m 73 #[.val (.int (((((Fmask xi).toUInt32 >>> ((8 : Int32) &&& 31).toUInt32).toInt32).toUInt32 >>> ((4 : Int32) &&& 31).toUInt32).toInt32)), .val (.int (15 : Int32))] [(.int (((((((Fmask xi).toUInt32 >>> ((8 : Int32) &&& 31).toUInt32).toInt32).toUInt32 >>> ((4 : Int32) &&& 31).toUInt32).toInt32).toUInt32 >>> ((2 : Int32) &&& 31).toUInt32).toInt32))])) _
              refine XS.istoreN X0.here hx rfl (hb hby d9_73) rfl (l' := #[.val (.int (((((((Fmask xi).toUInt32 >>> ((8 : Int32) &&& 31).toUInt32).toInt32).toUInt32 >>> ((4 : Int32) &&& 31).toUInt32).toInt32).toUInt32 >>> ((2 : Int32) &&& 31).toUInt32).toInt32)), .val (.int (15 : Int32))]) rfl ?_
              show Steps p.tables e below (s₁.setTop (mkF m 74 #[.val (.int (((((((Fmask xi).toUInt32 >>> ((8 : Int32) &&& 31).toUInt32).toInt32).toUInt32 >>> ((4 : Int32) &&& 31).toUInt32).toInt32).toUInt32 >>> ((2 : Int32) &&& 31).toUInt32).toInt32)), .val (.int (15 : Int32))] [])) _
              refine XS.iloadN X0.here hx rfl (hb hby d9_74) rfl ?_
              show Steps p.tables e below (s₁.setTop (mkF m 75 #[.val (.int (((((((Fmask xi).toUInt32 >>> ((8 : Int32) &&& 31).toUInt32).toInt32).toUInt32 >>> ((4 : Int32) &&& 31).toUInt32).toInt32).toUInt32 >>> ((2 : Int32) &&& 31).toUInt32).toInt32)), .val (.int (15 : Int32))] [(.int (15 : Int32))])) _
              refine XS.iloadN X0.here hx rfl (hb hby d9_75) rfl ?_
              show Steps p.tables e below (s₁.setTop (mkF m 76 #[.val (.int (((((((Fmask xi).toUInt32 >>> ((8 : Int32) &&& 31).toUInt32).toInt32).toUInt32 >>> ((4 : Int32) &&& 31).toUInt32).toInt32).toUInt32 >>> ((2 : Int32) &&& 31).toUInt32).toInt32)), .val (.int (15 : Int32))] [(.int (((((((Fmask xi).toUInt32 >>> ((8 : Int32) &&& 31).toUInt32).toInt32).toUInt32 >>> ((4 : Int32) &&& 31).toUInt32).toInt32).toUInt32 >>> ((2 : Int32) &&& 31).toUInt32).toInt32)), (.int (15 : Int32))])) _
              refine XS.iconst X0.here hx rfl (hb hby d9_76) ?_
              show Steps p.tables e below (s₁.setTop (mkF m 77 #[.val (.int (((((((Fmask xi).toUInt32 >>> ((8 : Int32) &&& 31).toUInt32).toInt32).toUInt32 >>> ((4 : Int32) &&& 31).toUInt32).toInt32).toUInt32 >>> ((2 : Int32) &&& 31).toUInt32).toInt32)), .val (.int (15 : Int32))] [(.int (1 : Int32)), (.int (((((((Fmask xi).toUInt32 >>> ((8 : Int32) &&& 31).toUInt32).toInt32).toUInt32 >>> ((4 : Int32) &&& 31).toUInt32).toInt32).toUInt32 >>> ((2 : Int32) &&& 31).toUInt32).toInt32)), (.int (15 : Int32))])) _
              refine XS.iushr X0.here hx rfl (hb hby d9_77) rfl ?_
              show Steps p.tables e below (s₁.setTop (mkF m 78 #[.val (.int (((((((Fmask xi).toUInt32 >>> ((8 : Int32) &&& 31).toUInt32).toInt32).toUInt32 >>> ((4 : Int32) &&& 31).toUInt32).toInt32).toUInt32 >>> ((2 : Int32) &&& 31).toUInt32).toInt32)), .val (.int (15 : Int32))] [(.int (((((((((Fmask xi).toUInt32 >>> ((8 : Int32) &&& 31).toUInt32).toInt32).toUInt32 >>> ((4 : Int32) &&& 31).toUInt32).toInt32).toUInt32 >>> ((2 : Int32) &&& 31).toUInt32).toInt32).toUInt32 >>> ((1 : Int32) &&& 31).toUInt32).toInt32)), (.int (15 : Int32))])) _
              refine XS.iadd X0.here hx rfl (hb hby d9_78) rfl ?_
              show Steps p.tables e below (s₁.setTop (mkF m 79 #[.val (.int (((((((Fmask xi).toUInt32 >>> ((8 : Int32) &&& 31).toUInt32).toInt32).toUInt32 >>> ((4 : Int32) &&& 31).toUInt32).toInt32).toUInt32 >>> ((2 : Int32) &&& 31).toUInt32).toInt32)), .val (.int (15 : Int32))] [(.int ((15 : Int32) + (((((((((Fmask xi).toUInt32 >>> ((8 : Int32) &&& 31).toUInt32).toInt32).toUInt32 >>> ((4 : Int32) &&& 31).toUInt32).toInt32).toUInt32 >>> ((2 : Int32) &&& 31).toUInt32).toInt32).toUInt32 >>> ((1 : Int32) &&& 31).toUInt32).toInt32)))])) _
              exact retI X0 hx Bd.returns (hb hby d9_79) (k _ rfl)
            · refine XS.icmpYes X0.here hx rfl (pc0 := 64) (pc' := 74) rfl (hb hby d9_64) rfl (flt hc13).2.2.2 (by decide) (by decide) ?_
              have k : ∀ (v1 : Int32), v1 = ((13 : Int32) + (((((((Fmask xi).toUInt32 >>> ((8 : Int32) &&& 31).toUInt32).toInt32).toUInt32 >>> ((4 : Int32) &&& 31).toUInt32).toInt32).toUInt32 >>> ((1 : Int32) &&& 31).toUInt32).toInt32)) → ∀ (f : JFrame) (acts : List Action), f.method = m → f.locked = none → f.entered = [] → (doReturn e (s₁.setTop f) acts (some (.int v1))).1 = s₁.setFrames fs := fun v1 hv1 => k v1 (hv1.trans (if_neg hc13).symm)
              show Steps p.tables e below (s₁.setTop (mkF m 74 #[.val (.int (((((Fmask xi).toUInt32 >>> ((8 : Int32) &&& 31).toUInt32).toInt32).toUInt32 >>> ((4 : Int32) &&& 31).toUInt32).toInt32)), .val (.int (13 : Int32))] [])) _
              refine XS.iloadN X0.here hx rfl (hb hby d9_74) rfl ?_
              show Steps p.tables e below (s₁.setTop (mkF m 75 #[.val (.int (((((Fmask xi).toUInt32 >>> ((8 : Int32) &&& 31).toUInt32).toInt32).toUInt32 >>> ((4 : Int32) &&& 31).toUInt32).toInt32)), .val (.int (13 : Int32))] [(.int (13 : Int32))])) _
              refine XS.iloadN X0.here hx rfl (hb hby d9_75) rfl ?_
              show Steps p.tables e below (s₁.setTop (mkF m 76 #[.val (.int (((((Fmask xi).toUInt32 >>> ((8 : Int32) &&& 31).toUInt32).toInt32).toUInt32 >>> ((4 : Int32) &&& 31).toUInt32).toInt32)), .val (.int (13 : Int32))] [(.int (((((Fmask xi).toUInt32 >>> ((8 : Int32) &&& 31).toUInt32).toInt32).toUInt32 >>> ((4 : Int32) &&& 31).toUInt32).toInt32)), (.int (13 : Int32))])) _
              refine XS.iconst X0.here hx rfl (hb hby d9_76) ?_
              show Steps p.tables e below (s₁.setTop (mkF m 77 #[.val (.int (((((Fmask xi).toUInt32 >>> ((8 : Int32) &&& 31).toUInt32).toInt32).toUInt32 >>> ((4 : Int32) &&& 31).toUInt32).toInt32)), .val (.int (13 : Int32))] [(.int (1 : Int32)), (.int (((((Fmask xi).toUInt32 >>> ((8 : Int32) &&& 31).toUInt32).toInt32).toUInt32 >>> ((4 : Int32) &&& 31).toUInt32).toInt32)), (.int (13 : Int32))])) _
              refine XS.iushr X0.here hx rfl (hb hby d9_77) rfl ?_
              show Steps p.tables e below (s₁.setTop (mkF m 78 #[.val (.int (((((Fmask xi).toUInt32 >>> ((8 : Int32) &&& 31).toUInt32).toInt32).toUInt32 >>> ((4 : Int32) &&& 31).toUInt32).toInt32)), .val (.int (13 : Int32))] [(.int (((((((Fmask xi).toUInt32 >>> ((8 : Int32) &&& 31).toUInt32).toInt32).toUInt32 >>> ((4 : Int32) &&& 31).toUInt32).toInt32).toUInt32 >>> ((1 : Int32) &&& 31).toUInt32).toInt32)), (.int (13 : Int32))])) _
              refine XS.iadd X0.here hx rfl (hb hby d9_78) rfl ?_
              show Steps p.tables e below (s₁.setTop (mkF m 79 #[.val (.int (((((Fmask xi).toUInt32 >>> ((8 : Int32) &&& 31).toUInt32).toInt32).toUInt32 >>> ((4 : Int32) &&& 31).toUInt32).toInt32)), .val (.int (13 : Int32))] [(.int ((13 : Int32) + (((((((Fmask xi).toUInt32 >>> ((8 : Int32) &&& 31).toUInt32).toInt32).toUInt32 >>> ((4 : Int32) &&& 31).toUInt32).toInt32).toUInt32 >>> ((1 : Int32) &&& 31).toUInt32).toInt32)))])) _
              exact retI X0 hx Bd.returns (hb hby d9_79) (k _ rfl)
          · refine XS.icmpYes X0.here hx rfl (pc0 := 52) (pc' := 62) rfl (hb hby d9_52) rfl (flt hc12).2.2.2 (by decide) (by decide) ?_
            have k : ∀ (v1 : Int32), v1 = (if (4 : Int32) < (((Fmask xi).toUInt32 >>> ((8 : Int32) &&& 31).toUInt32).toInt32) then ((11 : Int32) + (((((((Fmask xi).toUInt32 >>> ((8 : Int32) &&& 31).toUInt32).toInt32).toUInt32 >>> ((2 : Int32) &&& 31).toUInt32).toInt32).toUInt32 >>> ((1 : Int32) &&& 31).toUInt32).toInt32)) else ((9 : Int32) + (((((Fmask xi).toUInt32 >>> ((8 : Int32) &&& 31).toUInt32).toInt32).toUInt32 >>> ((1 : Int32) &&& 31).toUInt32).toInt32))) → ∀ (f : JFrame) (acts : List Action), f.method = m → f.locked = none → f.entered = [] → (doReturn e (s₁.setTop f) acts (some (.int v1))).1 = s₁.setFrames fs := fun v1 hv1 => k v1 (hv1.trans (if_neg hc12).symm)
            show Steps p.tables e below (s₁.setTop (mkF m 62 #[.val (.int (((Fmask xi).toUInt32 >>> ((8 : Int32) &&& 31).toUInt32).toInt32)), .val (.int (9 : Int32))] [])) _
            refine XS.iloadN X0.here hx rfl (hb hby d9_62) rfl ?_
            show Steps p.tables e below (s₁.setTop (mkF m 63 #[.val (.int (((Fmask xi).toUInt32 >>> ((8 : Int32) &&& 31).toUInt32).toInt32)), .val (.int (9 : Int32))] [(.int (((Fmask xi).toUInt32 >>> ((8 : Int32) &&& 31).toUInt32).toInt32))])) _
            refine XS.iconst X0.here hx rfl (hb hby d9_63) ?_
            show Steps p.tables e below (s₁.setTop (mkF m 64 #[.val (.int (((Fmask xi).toUInt32 >>> ((8 : Int32) &&& 31).toUInt32).toInt32)), .val (.int (9 : Int32))] [(.int (4 : Int32)), (.int (((Fmask xi).toUInt32 >>> ((8 : Int32) &&& 31).toUInt32).toInt32))])) _
            by_cases hc14 : (4 : Int32) < (((Fmask xi).toUInt32 >>> ((8 : Int32) &&& 31).toUInt32).toInt32)
            · refine XS.icmpNo X0.here hx rfl (hb hby d9_64) rfl (tlt hc14).2.2.2 ?_
              have k : ∀ (v1 : Int32), v1 = ((11 : Int32) + (((((((Fmask xi).toUInt32 >>> ((8 : Int32) &&& 31).toUInt32).toInt32).toUInt32 >>> ((2 : Int32) &&& 31).toUInt32).toInt32).toUInt32 >>> ((1 : Int32) &&& 31).toUInt32).toInt32)) → ∀ (f : JFrame) (acts : List Action), f.method = m → f.locked = none → f.entered = [] → (doReturn e (s₁.setTop f) acts (some (.int v1))).1 = s₁.setFrames fs := fun v1 hv1 => k v1 (hv1.trans (if_pos hc14).symm)
              show Steps p.tables e below (s₁.setTop (mkF m 67 #[.val (.int (((Fmask xi).toUInt32 >>> ((8 : Int32) &&& 31).toUInt32).toInt32)), .val (.int (9 : Int32))] [])) _
              refine XS.iinc X0.here hx rfl (hb hby d9_67) rfl (l' := #[.val (.int (((Fmask xi).toUInt32 >>> ((8 : Int32) &&& 31).toUInt32).toInt32)), .val (.int (11 : Int32))]) rfl ?_
              show Steps p.tables e below (s₁.setTop (mkF m 70 #[.val (.int (((Fmask xi).toUInt32 >>> ((8 : Int32) &&& 31).toUInt32).toInt32)), .val (.int (11 : Int32))] [])) _
              refine XS.iloadN X0.here hx rfl (hb hby d9_70) rfl ?_
              show Steps p.tables e below (s₁.setTop (mkF m 71 #[.val (.int (((Fmask xi).toUInt32 >>> ((8 : Int32) &&& 31).toUInt32).toInt32)), .val (.int (11 : Int32))] [(.int (((Fmask xi).toUInt32 >>> ((8 : Int32) &&& 31).toUInt32).toInt32))])) _
              refine XS.iconst X0.here hx rfl (hb hby d9_71) ?_
              show Steps p.tables e below (s₁.setTop (mkF m 72 #[.val (.int (((Fmask xi).toUInt32 >>> ((8 : Int32) &&& 31).toUInt32).toInt32)), .val (.int (11 : Int32))] [(.int (2 : Int32)), (.int (((Fmask xi).toUInt32 >>> ((8 : Int32) &&& 31).toUInt32).toInt32))])) _
              refine XS.iushr X0.here hx rfl (hb hby d9_72) rfl ?_
              show Steps p.tables e below (s₁.setTop (mkF m 73 #[.val (.int (((Fmask xi).toUInt32 >>> ((8 : Int32) &&& 31).toUInt32).toInt32)), .val (.int (11 : Int32))] [(.int (((((Fmask xi).toUInt32 >>> ((8 : Int32) &&& 31).toUInt32).toInt32).toUInt32 >>> ((2 : Int32) &&& 31).toUInt32).toInt32))])) _
              refine XS.istoreN X0.here hx rfl (hb hby d9_73) rfl (l' := #[.val (.int (((((Fmask xi).toUInt32 >>> ((8 : Int32) &&& 31).toUInt32).toInt32).toUInt32 >>> ((2 : Int32) &&& 31).toUInt32).toInt32)), .val (.int (11 : Int32))]) rfl ?_
              show Steps p.tables e below (s₁.setTop (mkF m 74 #[.val (.int (((((Fmask xi).toUInt32 >>> ((8 : Int32) &&& 31).toUInt32).toInt32).toUInt32 >>> ((2 : Int32) &&& 31).toUInt32).toInt32)), .val (.int (11 : Int32))] [])) _
              refine XS.iloadN X0.here hx rfl (hb hby d9_74) rfl ?_
              show Steps p.tables e below (s₁.setTop (mkF m 75 #[.val (.int (((((Fmask xi).toUInt32 >>> ((8 : Int32) &&& 31).toUInt32).toInt32).toUInt32 >>> ((2 : Int32) &&& 31).toUInt32).toInt32)), .val (.int (11 : Int32))] [(.int (11 : Int32))])) _
              refine XS.iloadN X0.here hx rfl (hb hby d9_75) rfl ?_
              show Steps p.tables e below (s₁.setTop (mkF m 76 #[.val (.int (((((Fmask xi).toUInt32 >>> ((8 : Int32) &&& 31).toUInt32).toInt32).toUInt32 >>> ((2 : Int32) &&& 31).toUInt32).toInt32)), .val (.int (11 : Int32))] [(.int (((((Fmask xi).toUInt32 >>> ((8 : Int32) &&& 31).toUInt32).toInt32).toUInt32 >>> ((2 : Int32) &&& 31).toUInt32).toInt32)), (.int (11 : Int32))])) _
              refine XS.iconst X0.here hx rfl (hb hby d9_76) ?_
              show Steps p.tables e below (s₁.setTop (mkF m 77 #[.val (.int (((((Fmask xi).toUInt32 >>> ((8 : Int32) &&& 31).toUInt32).toInt32).toUInt32 >>> ((2 : Int32) &&& 31).toUInt32).toInt32)), .val (.int (11 : Int32))] [(.int (1 : Int32)), (.int (((((Fmask xi).toUInt32 >>> ((8 : Int32) &&& 31).toUInt32).toInt32).toUInt32 >>> ((2 : Int32) &&& 31).toUInt32).toInt32)), (.int (11 : Int32))])) _
              refine XS.iushr X0.here hx rfl (hb hby d9_77) rfl ?_
              show Steps p.tables e below (s₁.setTop (mkF m 78 #[.val (.int (((((Fmask xi).toUInt32 >>> ((8 : Int32) &&& 31).toUInt32).toInt32).toUInt32 >>> ((2 : Int32) &&& 31).toUInt32).toInt32)), .val (.int (11 : Int32))] [(.int (((((((Fmask xi).toUInt32 >>> ((8 : Int32) &&& 31).toUInt32).toInt32).toUInt32 >>> ((2 : Int32) &&& 31).toUInt32).toInt32).toUInt32 >>> ((1 : Int32) &&& 31).toUInt32).toInt32)), (.int (11 : Int32))])) _
              refine XS.iadd X0.here hx rfl (hb hby d9_78) rfl ?_
              show Steps p.tables e below (s₁.setTop (mkF m 79 #[.val (.int (((((Fmask xi).toUInt32 >>> ((8 : Int32) &&& 31).toUInt32).toInt32).toUInt32 >>> ((2 : Int32) &&& 31).toUInt32).toInt32)), .val (.int (11 : Int32))] [(.int ((11 : Int32) + (((((((Fmask xi).toUInt32 >>> ((8 : Int32) &&& 31).toUInt32).toInt32).toUInt32 >>> ((2 : Int32) &&& 31).toUInt32).toInt32).toUInt32 >>> ((1 : Int32) &&& 31).toUInt32).toInt32)))])) _
              exact retI X0 hx Bd.returns (hb hby d9_79) (k _ rfl)
            · refine XS.icmpYes X0.here hx rfl (pc0 := 64) (pc' := 74) rfl (hb hby d9_64) rfl (flt hc14).2.2.2 (by decide) (by decide) ?_
              have k : ∀ (v1 : Int32), v1 = ((9 : Int32) + (((((Fmask xi).toUInt32 >>> ((8 : Int32) &&& 31).toUInt32).toInt32).toUInt32 >>> ((1 : Int32) &&& 31).toUInt32).toInt32)) → ∀ (f : JFrame) (acts : List Action), f.method = m → f.locked = none → f.entered = [] → (doReturn e (s₁.setTop f) acts (some (.int v1))).1 = s₁.setFrames fs := fun v1 hv1 => k v1 (hv1.trans (if_neg hc14).symm)
              show Steps p.tables e below (s₁.setTop (mkF m 74 #[.val (.int (((Fmask xi).toUInt32 >>> ((8 : Int32) &&& 31).toUInt32).toInt32)), .val (.int (9 : Int32))] [])) _
              refine XS.iloadN X0.here hx rfl (hb hby d9_74) rfl ?_
              show Steps p.tables e below (s₁.setTop (mkF m 75 #[.val (.int (((Fmask xi).toUInt32 >>> ((8 : Int32) &&& 31).toUInt32).toInt32)), .val (.int (9 : Int32))] [(.int (9 : Int32))])) _
              refine XS.iloadN X0.here hx rfl (hb hby d9_75) rfl ?_
              show Steps p.tables e below (s₁.setTop (mkF m 76 #[.val (.int (((Fmask xi).toUInt32 >>> ((8 : Int32) &&& 31).toUInt32).toInt32)), .val (.int (9 : Int32))] [(.int (((Fmask xi).toUInt32 >>> ((8 : Int32) &&& 31).toUInt32).toInt32)), (.int (9 : Int32))])) _
              refine XS.iconst X0.here hx rfl (hb hby d9_76) ?_
              show Steps p.tables e below (s₁.setTop (mkF m 77 #[.val (.int (((Fmask xi).toUInt32 >>> ((8 : Int32) &&& 31).toUInt32).toInt32)), .val (.int (9 : Int32))] [(.int (1 : Int32)), (.int (((Fmask xi).toUInt32 >>> ((8 : Int32) &&& 31).toUInt32).toInt32)), (.int (9 : Int32))])) _
              refine XS.iushr X0.here hx rfl (hb hby d9_77) rfl ?_
              show Steps p.tables e below (s₁.setTop (mkF m 78 #[.val (.int (((Fmask xi).toUInt32 >>> ((8 : Int32) &&& 31).toUInt32).toInt32)), .val (.int (9 : Int32))] [(.int (((((Fmask xi).toUInt32 >>> ((8 : Int32) &&& 31).toUInt32).toInt32).toUInt32 >>> ((1 : Int32) &&& 31).toUInt32).toInt32)), (.int (9 : Int32))])) _
              refine XS.iadd X0.here hx rfl (hb hby d9_78) rfl ?_
              show Steps p.tables e below (s₁.setTop (mkF m 79 #[.val (.int (((Fmask xi).toUInt32 >>> ((8 : Int32) &&& 31).toUInt32).toInt32)), .val (.int (9 : Int32))] [(.int ((9 : Int32) + (((((Fmask xi).toUInt32 >>> ((8 : Int32) &&& 31).toUInt32).toInt32).toUInt32 >>> ((1 : Int32) &&& 31).toUInt32).toInt32)))])) _
              exact retI X0 hx Bd.returns (hb hby d9_79) (k _ rfl)
        · refine XS.icmpYes X0.here hx rfl (pc0 := 38) (pc' := 49) rfl (hb hby d9_38) rfl (flt hc11).2.2.2 (by decide) (by decide) ?_
          have k : ∀ (v1 : Int32), v1 = (if (16 : Int32) < (Fmask xi) then (if (4 : Int32) < (((Fmask xi).toUInt32 >>> ((4 : Int32) &&& 31).toUInt32).toInt32) then ((7 : Int32) + (((((((Fmask xi).toUInt32 >>> ((4 : Int32) &&& 31).toUInt32).toInt32).toUInt32 >>> ((2 : Int32) &&& 31).toUInt32).toInt32).toUInt32 >>> ((1 : Int32) &&& 31).toUInt32).toInt32)) else ((5 : Int32) + (((((Fmask xi).toUInt32 >>> ((4 : Int32) &&& 31).toUInt32).toInt32).toUInt32 >>> ((1 : Int32) &&& 31).toUInt32).toInt32))) else (if (4 : Int32) < (Fmask xi) then ((3 : Int32) + (((((Fmask xi).toUInt32 >>> ((2 : Int32) &&& 31).toUInt32).toInt32).toUInt32 >>> ((1 : Int32) &&& 31).toUInt32).toInt32)) else ((1 : Int32) + (((Fmask xi).toUInt32 >>> ((1 : Int32) &&& 31).toUInt32).toInt32)))) → ∀ (f : JFrame) (acts : List Action), f.method = m → f.locked = none → f.entered = [] → (doReturn e (s₁.setTop f) acts (some (.int v1))).1 = s₁.setFrames fs := fun v1 hv1 => k v1 (hv1.trans (if_neg hc11).symm)
          show Steps p.tables e below (s₁.setTop (mkF m 49 #[.val (.int (Fmask xi)), .val (.int (1 : Int32))] [])) _
          refine XS.iloadN X0.here hx rfl (hb hby d9_49) rfl ?_
          show Steps p.tables e below (s₁.setTop (mkF m 50 #[.val (.int (Fmask xi)), .val (.int (1 : Int32))] [(.int (Fmask xi))])) _
          refine XS.bipush X0.here hx rfl (hb hby d9_50) ?_
          show Steps p.tables e below (s₁.setTop (mkF m 52 #[.val (.int (Fmask xi)), .val (.int (1 : Int32))] [(.int (16 : Int32)), (.int (Fmask xi))])) _
          by_cases hc15 : (16 : Int32) < (Fmask xi)
          · refine XS.icmpNo X0.here hx rfl (hb hby d9_52) rfl (tlt hc15).2.2.2 ?_
            have k : ∀ (v1 : Int32), v1 = (if (4 : Int32) < (((Fmask xi).toUInt32 >>> ((4 : Int32) &&& 31).toUInt32).toInt32) then ((7 : Int32) + (((((((Fmask xi).toUInt32 >>> ((4 : Int32) &&& 31).toUInt32).toInt32).toUInt32 >>> ((2 : Int32) &&& 31).toUInt32).toInt32).toUInt32 >>> ((1 : Int32) &&& 31).toUInt32).toInt32)) else ((5 : Int32) + (((((Fmask xi).toUInt32 >>> ((4 : Int32) &&& 31).toUInt32).toInt32).toUInt32 >>> ((1 : Int32) &&& 31).toUInt32).toInt32))) → ∀ (f : JFrame) (acts : List Action), f.method = m → f.locked = none → f.entered = [] → (doReturn e (s₁.setTop f) acts (some (.int v1))).1 = s₁.setFrames fs := fun v1 hv1 => k v1 (hv1.trans (if_pos hc15).symm)
            show Steps p.tables e below (s₁.setTop (mkF m 55 #[.val (.int (Fmask xi)), .val (.int (1 : Int32))] [])) _
            refine XS.iinc X0.here hx rfl (hb hby d9_55) rfl (l' := #[.val (.int (Fmask xi)), .val (.int (5 : Int32))]) rfl ?_
            show Steps p.tables e below (s₁.setTop (mkF m 58 #[.val (.int (Fmask xi)), .val (.int (5 : Int32))] [])) _
            refine XS.iloadN X0.here hx rfl (hb hby d9_58) rfl ?_
            show Steps p.tables e below (s₁.setTop (mkF m 59 #[.val (.int (Fmask xi)), .val (.int (5 : Int32))] [(.int (Fmask xi))])) _
            refine XS.iconst X0.here hx rfl (hb hby d9_59) ?_
            show Steps p.tables e below (s₁.setTop (mkF m 60 #[.val (.int (Fmask xi)), .val (.int (5 : Int32))] [(.int (4 : Int32)), (.int (Fmask xi))])) _
            refine XS.iushr X0.here hx rfl (hb hby d9_60) rfl ?_
            show Steps p.tables e below (s₁.setTop (mkF m 61 #[.val (.int (Fmask xi)), .val (.int (5 : Int32))] [(.int (((Fmask xi).toUInt32 >>> ((4 : Int32) &&& 31).toUInt32).toInt32))])) _
            refine XS.istoreN X0.here hx rfl (hb hby d9_61) rfl (l' := #[.val (.int (((Fmask xi).toUInt32 >>> ((4 : Int32) &&& 31).toUInt32).toInt32)), .val (.int (5 : Int32))]) rfl ?_
            show Steps p.tables e below (s₁.setTop (mkF m 62 #[.val (.int (((Fmask xi).toUInt32 >>> ((4 : Int32) &&& 31).toUInt32).toInt32)), .val (.int (5 : Int32))] [])) _
            refine XS.iloadN X0.here hx rfl (hb hby d9_62) rfl ?_
            show Steps p.tables e below (s₁.setTop (mkF m 63 #[.val (.int (((Fmask xi).toUInt32 >>> ((4 : Int32) &&& 31).toUInt32).toInt32)), .val (.int (5 : Int32))] [(.int (((Fmask xi).toUInt32 >>> ((4 : Int32) &&& 31).toUInt32).toInt32))])) _
            refine XS.iconst X0.here hx rfl (hb hby d9_63) ?_
            show Steps p.tables e below (s₁.setTop (mkF m 64 #[.val (.int (((Fmask xi).toUInt32 >>> ((4 : Int32) &&& 31).toUInt32).toInt32)), .val (.int (5 : Int32))] [(.int (4 : Int32)), (.int (((Fmask xi).toUInt32 >>> ((4 : Int32) &&& 31).toUInt32).toInt32))])) _
            by_cases hc16 : (4 : Int32) < (((Fmask xi).toUInt32 >>> ((4 : Int32) &&& 31).toUInt32).toInt32)
            · refine XS.icmpNo X0.here hx rfl (hb hby d9_64) rfl (tlt hc16).2.2.2 ?_
              have k : ∀ (v1 : Int32), v1 = ((7 : Int32) + (((((((Fmask xi).toUInt32 >>> ((4 : Int32) &&& 31).toUInt32).toInt32).toUInt32 >>> ((2 : Int32) &&& 31).toUInt32).toInt32).toUInt32 >>> ((1 : Int32) &&& 31).toUInt32).toInt32)) → ∀ (f : JFrame) (acts : List Action), f.method = m → f.locked = none → f.entered = [] → (doReturn e (s₁.setTop f) acts (some (.int v1))).1 = s₁.setFrames fs := fun v1 hv1 => k v1 (hv1.trans (if_pos hc16).symm)
              show Steps p.tables e below (s₁.setTop (mkF m 67 #[.val (.int (((Fmask xi).toUInt32 >>> ((4 : Int32) &&& 31).toUInt32).toInt32)), .val (.int (5 : Int32))] [])) _
              refine XS.iinc X0.here hx rfl (hb hby d9_67) rfl (l' := #[.val (.int (((Fmask xi).toUInt32 >>> ((4 : Int32) &&& 31).toUInt32).toInt32)), .val (.int (7 : Int32))]) rfl ?_
              show Steps p.tables e below (s₁.setTop (mkF m 70 #[.val (.int (((Fmask xi).toUInt32 >>> ((4 : Int32) &&& 31).toUInt32).toInt32)), .val (.int (7 : Int32))] [])) _
              refine XS.iloadN X0.here hx rfl (hb hby d9_70) rfl ?_
              show Steps p.tables e below (s₁.setTop (mkF m 71 #[.val (.int (((Fmask xi).toUInt32 >>> ((4 : Int32) &&& 31).toUInt32).toInt32)), .val (.int (7 : Int32))] [(.int (((Fmask xi).toUInt32 >>> ((4 : Int32) &&& 31).toUInt32).toInt32))])) _
              refine XS.iconst X0.here hx rfl (hb hby d9_71) ?_
              show Steps p.tables e below (s₁.setTop (mkF m 72 #[.val (.int (((Fmask xi).toUInt32 >>> ((4 : Int32) &&& 31).toUInt32).toInt32)), .val (.int (7 : Int32))] [(.int (2 : Int32)), (.int (((Fmask xi).toUInt32 >>> ((4 : Int32) &&& 31).toUInt32).toInt32))])) _
              refine XS.iushr X0.here hx rfl (hb hby d9_72) rfl ?_
              show Steps p.tables e below (s₁.setTop (mkF m 73 #[.val (.int (((Fmask xi).toUInt32 >>> ((4 : Int32) &&& 31).toUInt32).toInt32)), .val (.int (7 : Int32))] [(.int (((((Fmask xi).toUInt32 >>> ((4 : Int32) &&& 31).toUInt32).toInt32).toUInt32 >>> ((2 : Int32) &&& 31).toUInt32).toInt32))])) _
              refine XS.istoreN X0.here hx rfl (hb hby d9_73) rfl (l' := #[.val (.int (((((Fmask xi).toUInt32 >>> ((4 : Int32) &&& 31).toUInt32).toInt32).toUInt32 >>> ((2 : Int32) &&& 31).toUInt32).toInt32)), .val (.int (7 : Int32))]) rfl ?_
              show Steps p.tables e below (s₁.setTop (mkF m 74 #[.val (.int (((((Fmask xi).toUInt32 >>> ((4 : Int32) &&& 31).toUInt32).toInt32).toUInt32 >>> ((2 : Int32) &&& 31).toUInt32).toInt32)), .val (.int (7 : Int32))] [])) _
              refine XS.iloadN X0.here hx rfl (hb hby d9_74) rfl ?_
              show Steps p.tables e below (s₁.setTop (mkF m 75 #[.val (.int (((((Fmask xi).toUInt32 >>> ((4 : Int32) &&& 31).toUInt32).toInt32).toUInt32 >>> ((2 : Int32) &&& 31).toUInt32).toInt32)), .val (.int (7 : Int32))] [(.int (7 : Int32))])) _
              refine XS.iloadN X0.here hx rfl (hb hby d9_75) rfl ?_
              show Steps p.tables e below (s₁.setTop (mkF m 76 #[.val (.int (((((Fmask xi).toUInt32 >>> ((4 : Int32) &&& 31).toUInt32).toInt32).toUInt32 >>> ((2 : Int32) &&& 31).toUInt32).toInt32)), .val (.int (7 : Int32))] [(.int (((((Fmask xi).toUInt32 >>> ((4 : Int32) &&& 31).toUInt32).toInt32).toUInt32 >>> ((2 : Int32) &&& 31).toUInt32).toInt32)), (.int (7 : Int32))])) _
              refine XS.iconst X0.here hx rfl (hb hby d9_76) ?_
              show Steps p.tables e below (s₁.setTop (mkF m 77 #[.val (.int (((((Fmask xi).toUInt32 >>> ((4 : Int32) &&& 31).toUInt32).toInt32).toUInt32 >>> ((2 : Int32) &&& 31).toUInt32).toInt32)), .val (.int (7 : Int32))] [(.int (1 : Int32)), (.int (((((Fmask xi).toUInt32 >>> ((4 : Int32) &&& 31).toUInt32).toInt32).toUInt32 >>> ((2 : Int32) &&& 31).toUInt32).toInt32)), (.int (7 : Int32))])) _
              refine XS.iushr X0.here hx rfl (hb hby d9_77) rfl ?_
              show Steps p.tables e below (s₁.setTop (mkF m 78 #[.val (.int (((((Fmask xi).toUInt32 >>> ((4 : Int32) &&& 31).toUInt32).toInt32).toUInt32 >>> ((2 : Int32) &&& 31).toUInt32).toInt32)), .val (.int (7 : Int32))] [(.int (((((((Fmask xi).toUInt32 >>> ((4 : Int32) &&& 31).toUInt32).toInt32).toUInt32 >>> ((2 : Int32) &&& 31).toUInt32).toInt32).toUInt32 >>> ((1 : Int32) &&& 31).toUInt32).toInt32)), (.int (7 : Int32))])) _
              refine XS.iadd X0.here hx rfl (hb hby d9_78) rfl ?_
              show Steps p.tables e below (s₁.setTop (mkF m 79 #[.val (.int (((((Fmask xi).toUInt32 >>> ((4 : Int32) &&& 31).toUInt32).toInt32).toUInt32 >>> ((2 : Int32) &&& 31).toUInt32).toInt32)), .val (.int (7 : Int32))] [(.int ((7 : Int32) + (((((((Fmask xi).toUInt32 >>> ((4 : Int32) &&& 31).toUInt32).toInt32).toUInt32 >>> ((2 : Int32) &&& 31).toUInt32).toInt32).toUInt32 >>> ((1 : Int32) &&& 31).toUInt32).toInt32)))])) _
              exact retI X0 hx Bd.returns (hb hby d9_79) (k _ rfl)
            · refine XS.icmpYes X0.here hx rfl (pc0 := 64) (pc' := 74) rfl (hb hby d9_64) rfl (flt hc16).2.2.2 (by decide) (by decide) ?_
              have k : ∀ (v1 : Int32), v1 = ((5 : Int32) + (((((Fmask xi).toUInt32 >>> ((4 : Int32) &&& 31).toUInt32).toInt32).toUInt32 >>> ((1 : Int32) &&& 31).toUInt32).toInt32)) → ∀ (f : JFrame) (acts : List Action), f.method = m → f.locked = none → f.entered = [] → (doReturn e (s₁.setTop f) acts (some (.int v1))).1 = s₁.setFrames fs := fun v1 hv1 => k v1 (hv1.trans (if_neg hc16).symm)
              show Steps p.tables e below (s₁.setTop (mkF m 74 #[.val (.int (((Fmask xi).toUInt32 >>> ((4 : Int32) &&& 31).toUInt32).toInt32)), .val (.int (5 : Int32))] [])) _
              refine XS.iloadN X0.here hx rfl (hb hby d9_74) rfl ?_
              show Steps p.tables e below (s₁.setTop (mkF m 75 #[.val (.int (((Fmask xi).toUInt32 >>> ((4 : Int32) &&& 31).toUInt32).toInt32)), .val (.int (5 : Int32))] [(.int (5 : Int32))])) _
              refine XS.iloadN X0.here hx rfl (hb hby d9_75) rfl ?_
              show Steps p.tables e below (s₁.setTop (mkF m 76 #[.val (.int (((Fmask xi).toUInt32 >>> ((4 : Int32) &&& 31).toUInt32).toInt32)), .val (.int (5 : Int32))] [(.int (((Fmask xi).toUInt32 >>> ((4 : Int32) &&& 31).toUInt32).toInt32)), (.int (5 : Int32))])) _
              refine XS.iconst X0.here hx rfl (hb hby d9_76) ?_
              show Steps p.tables e below (s₁.setTop (mkF m 77 #[.val (.int (((Fmask xi).toUInt32 >>> ((4 : Int32) &&& 31).toUInt32).toInt32)), .val (.int (5 : Int32))] [(.int (1 : Int32)), (.int (((Fmask xi).toUInt32 >>> ((4 : Int32) &&& 31).toUInt32).toInt32)), (.int (5 : Int32))])) _
              refine XS.iushr X0.here hx rfl (hb hby d9_77) rfl ?_
              show Steps p.tables e below (s₁.setTop (mkF m 78 #[.val (.int (((Fmask xi).toUInt32 >>> ((4 : Int32) &&& 31).toUInt32).toInt32)), .val (.int (5 : Int32))] [(.int (((((Fmask xi).toUInt32 >>> ((4 : Int32) &&& 31).toUInt32).toInt32).toUInt32 >>> ((1 : Int32) &&& 31).toUInt32).toInt32)), (.int (5 : Int32))])) _
              refine XS.iadd X0.here hx rfl (hb hby d9_78) rfl ?_
              show Steps p.tables e below (s₁.setTop (mkF m 79 #[.val (.int (((Fmask xi).toUInt32 >>> ((4 : Int32) &&& 31).toUInt32).toInt32)), .val (.int (5 : Int32))] [(.int ((5 : Int32) + (((((Fmask xi).toUInt32 >>> ((4 : Int32) &&& 31).toUInt32).toInt32).toUInt32 >>> ((1 : Int32) &&& 31).toUInt32).toInt32)))])) _
              exact retI X0 hx Bd.returns (hb hby d9_79) (k _ rfl)
          · refine XS.icmpYes X0.here hx rfl (pc0 := 52) (pc' := 62) rfl (hb hby d9_52) rfl (flt hc15).2.2.2 (by decide) (by decide) ?_
            have k : ∀ (v1 : Int32), v1 = (if (4 : Int32) < (Fmask xi) then ((3 : Int32) + (((((Fmask xi).toUInt32 >>> ((2 : Int32) &&& 31).toUInt32).toInt32).toUInt32 >>> ((1 : Int32) &&& 31).toUInt32).toInt32)) else ((1 : Int32) + (((Fmask xi).toUInt32 >>> ((1 : Int32) &&& 31).toUInt32).toInt32))) → ∀ (f : JFrame) (acts : List Action), f.method = m → f.locked = none → f.entered = [] → (doReturn e (s₁.setTop f) acts (some (.int v1))).1 = s₁.setFrames fs := fun v1 hv1 => k v1 (hv1.trans (if_neg hc15).symm)
            show Steps p.tables e below (s₁.setTop (mkF m 62 #[.val (.int (Fmask xi)), .val (.int (1 : Int32))] [])) _
            refine XS.iloadN X0.here hx rfl (hb hby d9_62) rfl ?_
            show Steps p.tables e below (s₁.setTop (mkF m 63 #[.val (.int (Fmask xi)), .val (.int (1 : Int32))] [(.int (Fmask xi))])) _
            refine XS.iconst X0.here hx rfl (hb hby d9_63) ?_
            show Steps p.tables e below (s₁.setTop (mkF m 64 #[.val (.int (Fmask xi)), .val (.int (1 : Int32))] [(.int (4 : Int32)), (.int (Fmask xi))])) _
            by_cases hc17 : (4 : Int32) < (Fmask xi)
            · refine XS.icmpNo X0.here hx rfl (hb hby d9_64) rfl (tlt hc17).2.2.2 ?_
              have k : ∀ (v1 : Int32), v1 = ((3 : Int32) + (((((Fmask xi).toUInt32 >>> ((2 : Int32) &&& 31).toUInt32).toInt32).toUInt32 >>> ((1 : Int32) &&& 31).toUInt32).toInt32)) → ∀ (f : JFrame) (acts : List Action), f.method = m → f.locked = none → f.entered = [] → (doReturn e (s₁.setTop f) acts (some (.int v1))).1 = s₁.setFrames fs := fun v1 hv1 => k v1 (hv1.trans (if_pos hc17).symm)
              show Steps p.tables e below (s₁.setTop (mkF m 67 #[.val (.int (Fmask xi)), .val (.int (1 : Int32))] [])) _
              refine XS.iinc X0.here hx rfl (hb hby d9_67) rfl (l' := #[.val (.int (Fmask xi)), .val (.int (3 : Int32))]) rfl ?_
              show Steps p.tables e below (s₁.setTop (mkF m 70 #[.val (.int (Fmask xi)), .val (.int (3 : Int32))] [])) _
              refine XS.iloadN X0.here hx rfl (hb hby d9_70) rfl ?_
              show Steps p.tables e below (s₁.setTop (mkF m 71 #[.val (.int (Fmask xi)), .val (.int (3 : Int32))] [(.int (Fmask xi))])) _
              refine XS.iconst X0.here hx rfl (hb hby d9_71) ?_
              show Steps p.tables e below (s₁.setTop (mkF m 72 #[.val (.int (Fmask xi)), .val (.int (3 : Int32))] [(.int (2 : Int32)), (.int (Fmask xi))])) _
              refine XS.iushr X0.here hx rfl (hb hby d9_72) rfl ?_
              show Steps p.tables e below (s₁.setTop (mkF m 73 #[.val (.int (Fmask xi)), .val (.int (3 : Int32))] [(.int (((Fmask xi).toUInt32 >>> ((2 : Int32) &&& 31).toUInt32).toInt32))])) _
              refine XS.istoreN X0.here hx rfl (hb hby d9_73) rfl (l' := #[.val (.int (((Fmask xi).toUInt32 >>> ((2 : Int32) &&& 31).toUInt32).toInt32)), .val (.int (3 : Int32))]) rfl ?_
              show Steps p.tables e below (s₁.setTop (mkF m 74 #[.val (.int (((Fmask xi).toUInt32 >>> ((2 : Int32) &&& 31).toUInt32).toInt32)), .val (.int (3 : Int32))] [])) _
              refine XS.iloadN X0.here hx rfl (hb hby d9_74) rfl ?_
              show Steps p.tables e below (s₁.setTop (mkF m 75 #[.val (.int (((Fmask xi).toUInt32 >>> ((2 : Int32) &&& 31).toUInt32).toInt32)), .val (.int (3 : Int32))] [(.int (3 : Int32))])) _
              refine XS.iloadN X0.here hx rfl (hb hby d9_75) rfl ?_
              show Steps p.tables e below (s₁.setTop (mkF m 76 #[.val (.int (((Fmask xi).toUInt32 >>> ((2 : Int32) &&& 31).toUInt32).toInt32)), .val (.int (3 : Int32))] [(.int (((Fmask xi).toUInt32 >>> ((2 : Int32) &&& 31).toUInt32).toInt32)), (.int (3 : Int32))])) _
              refine XS.iconst X0.here hx rfl (hb hby d9_76) ?_
              show Steps p.tables e below (s₁.setTop (mkF m 77 #[.val (.int (((Fmask xi).toUInt32 >>> ((2 : Int32) &&& 31).toUInt32).toInt32)), .val (.int (3 : Int32))] [(.int (1 : Int32)), (.int (((Fmask xi).toUInt32 >>> ((2 : Int32) &&& 31).toUInt32).toInt32)), (.int (3 : Int32))])) _
              refine XS.iushr X0.here hx rfl (hb hby d9_77) rfl ?_
              show Steps p.tables e below (s₁.setTop (mkF m 78 #[.val (.int (((Fmask xi).toUInt32 >>> ((2 : Int32) &&& 31).toUInt32).toInt32)), .val (.int (3 : Int32))] [(.int (((((Fmask xi).toUInt32 >>> ((2 : Int32) &&& 31).toUInt32).toInt32).toUInt32 >>> ((1 : Int32) &&& 31).toUInt32).toInt32)), (.int (3 : Int32))])) _
              refine XS.iadd X0.here hx rfl (hb hby d9_78) rfl ?_
              show Steps p.tables e below (s₁.setTop (mkF m 79 #[.val (.int (((Fmask xi).toUInt32 >>> ((2 : Int32) &&& 31).toUInt32).toInt32)), .val (.int (3 : Int32))] [(.int ((3 : Int32) + (((((Fmask xi).toUInt32 >>> ((2 : Int32) &&& 31).toUInt32).toInt32).toUInt32 >>> ((1 : Int32) &&& 31).toUInt32).toInt32)))])) _
              exact retI X0 hx Bd.returns (hb hby d9_79) (k _ rfl)
            · refine XS.icmpYes X0.here hx rfl (pc0 := 64) (pc' := 74) rfl (hb hby d9_64) rfl (flt hc17).2.2.2 (by decide) (by decide) ?_
              have k : ∀ (v1 : Int32), v1 = ((1 : Int32) + (((Fmask xi).toUInt32 >>> ((1 : Int32) &&& 31).toUInt32).toInt32)) → ∀ (f : JFrame) (acts : List Action), f.method = m → f.locked = none → f.entered = [] → (doReturn e (s₁.setTop f) acts (some (.int v1))).1 = s₁.setFrames fs := fun v1 hv1 => k v1 (hv1.trans (if_neg hc17).symm)
              show Steps p.tables e below (s₁.setTop (mkF m 74 #[.val (.int (Fmask xi)), .val (.int (1 : Int32))] [])) _
              refine XS.iloadN X0.here hx rfl (hb hby d9_74) rfl ?_
              show Steps p.tables e below (s₁.setTop (mkF m 75 #[.val (.int (Fmask xi)), .val (.int (1 : Int32))] [(.int (1 : Int32))])) _
              refine XS.iloadN X0.here hx rfl (hb hby d9_75) rfl ?_
              show Steps p.tables e below (s₁.setTop (mkF m 76 #[.val (.int (Fmask xi)), .val (.int (1 : Int32))] [(.int (Fmask xi)), (.int (1 : Int32))])) _
              refine XS.iconst X0.here hx rfl (hb hby d9_76) ?_
              show Steps p.tables e below (s₁.setTop (mkF m 77 #[.val (.int (Fmask xi)), .val (.int (1 : Int32))] [(.int (1 : Int32)), (.int (Fmask xi)), (.int (1 : Int32))])) _
              refine XS.iushr X0.here hx rfl (hb hby d9_77) rfl ?_
              show Steps p.tables e below (s₁.setTop (mkF m 78 #[.val (.int (Fmask xi)), .val (.int (1 : Int32))] [(.int (((Fmask xi).toUInt32 >>> ((1 : Int32) &&& 31).toUInt32).toInt32)), (.int (1 : Int32))])) _
              refine XS.iadd X0.here hx rfl (hb hby d9_78) rfl ?_
              show Steps p.tables e below (s₁.setTop (mkF m 79 #[.val (.int (Fmask xi)), .val (.int (1 : Int32))] [(.int ((1 : Int32) + (((Fmask xi).toUInt32 >>> ((1 : Int32) &&& 31).toUInt32).toInt32)))])) _
              exact retI X0 hx Bd.returns (hb hby d9_79) (k _ rfl)
    · refine XS.ifNo X0.here hx rfl (hb hby d9_9) rfl ((if0 _ _).trans (flt hc2).2.2.1) ?_
      have k : ∀ (v1 : Int32), v1 = ((Fmask xi) &&& (32 : Int32)) → ∀ (f : JFrame) (acts : List Action), f.method = m → f.locked = none → f.entered = [] → (doReturn e (s₁.setTop f) acts (some (.int v1))).1 = s₁.setFrames fs := fun v1 hv1 => k v1 (hv1.trans (if_neg hc2).symm)
      show Steps p.tables e below (s₁.setTop (mkF m 12 #[.val (.int (Fmask xi)), .unset] [])) _
      refine XS.iloadN X0.here hx rfl (hb hby d9_12) rfl ?_
      show Steps p.tables e below (s₁.setTop (mkF m 13 #[.val (.int (Fmask xi)), .unset] [(.int (Fmask xi))])) _
      refine XS.bipush X0.here hx rfl (hb hby d9_13) ?_
      show Steps p.tables e below (s₁.setTop (mkF m 15 #[.val (.int (Fmask xi)), .unset] [(.int (32 : Int32)), (.int (Fmask xi))])) _
      refine XS.iand X0.here hx rfl (hb hby d9_15) rfl ?_
      show Steps p.tables e below (s₁.setTop (mkF m 16 #[.val (.int (Fmask xi)), .unset] [(.int ((Fmask xi) &&& (32 : Int32)))])) _
      exact retI X0 hx Bd.returns (hb hby d9_16) (k _ rfl)
  · show Q9 Z xi h0 n0 _ s₁.heap _
    rw [e0]
    exact ⟨rfl, N0, rfl⟩
theorem d8_0 : decode jdk_35_method_49_code 0 = .ok (.lload_n 0, 1) := by decide +kernel
theorem d8_1 : decode jdk_35_method_49_code 1 = .ok (.l2i, 1) := by decide +kernel
theorem d8_2 : decode jdk_35_method_49_code 2 = .ok (.istore_n 2, 1) := by decide +kernel
theorem d8_3 : decode jdk_35_method_49_code 3 = .ok (.iload_n 2, 1) := by decide +kernel
theorem d8_4 : decode jdk_35_method_49_code 4 = .ok (.ifCond .ne 17, 3) := by decide +kernel
theorem d8_7 : decode jdk_35_method_49_code 7 = .ok (.bipush 32, 2) := by decide +kernel
theorem d8_9 : decode jdk_35_method_49_code 9 = .ok (.lload_n 0, 1) := by decide +kernel
theorem d8_10 : decode jdk_35_method_49_code 10 = .ok (.bipush 32, 2) := by decide +kernel
theorem d8_12 : decode jdk_35_method_49_code 12 = .ok (.lushr, 1) := by decide +kernel
theorem d8_13 : decode jdk_35_method_49_code 13 = .ok (.l2i, 1) := by decide +kernel
theorem d8_14 : decode jdk_35_method_49_code 14 = .ok (.invokestatic 311, 3) := by decide +kernel
theorem d8_17 : decode jdk_35_method_49_code 17 = .ok (.iadd, 1) := by decide +kernel
theorem d8_18 : decode jdk_35_method_49_code 18 = .ok (.goto 7, 3) := by decide +kernel
theorem d8_21 : decode jdk_35_method_49_code 21 = .ok (.iload_n 2, 1) := by decide +kernel
theorem d8_22 : decode jdk_35_method_49_code 22 = .ok (.invokestatic 311, 3) := by decide +kernel
theorem d8_25 : decode jdk_35_method_49_code 25 = .ok (.ireturn, 1) := by decide +kernel
theorem pn_8 : plainName "java/lang/Long" = true := by first | (simp [plainName, overriddenIn]; done) | decide +kernel
theorem pd_4 : parseMethodDescriptor "(I)I" = some ⟨[.int], some .int⟩ := by decide +kernel
theorem ef_8 (m : MethodId) (x0 : Int64) : entryFrame m #[(.long x0)] 3 = mkF m 0 #[.val (.long x0), .second, .unset] [] := by first | (simp [entryFrame, mkF, argsToLocals, Value.category]; done) | rfl
def Fntzl (xl : Int64) : Int32 := (if (xl.toInt32) = (0 : Int32) then ((32 : Int32) + (Fntz (((xl.toUInt64 >>> ((32 : Int32) &&& 0x3f).toInt64.toUInt64).toInt64).toInt32))) else (Fntz (xl.toInt32)))
def Q8 (Z : State) (xl : Int64) (h0 : Heap) (n0 : Nat) (v : Option Value) (h : Heap) (L : List Loc) : Prop := v = some (.int (Fntzl xl)) ∧ Fr n0 L ∧ h = h0
set_option maxRecDepth 65536 in
set_option maxHeartbeats 40000000 in
theorem rm8 (l : Launch) (Z : State) (a0 : Array Value) (hw : ∀ d ∈ tables_1, d.before a0 Z = true) (ws : List Jvm.Cond) (xl : Int64) (h0 : Heap) (n0 : Nat) (Z0 : n0 ≤ h0.size) :
    MetFree l (⟨"java/lang/Long", "numberOfTrailingZeros", "(J)I"⟩ : MethodName) (head1 (Jvm.Cond.code (⟨"java/lang/Long", "numberOfTrailingZeros", "(J)I"⟩ : MethodName) jdk_35_method_49_code 3 (some .int) :: ws) ({ frames := 1, cells := 0, slots := 0, locals := 14 } : Room)) (fun a U => a = #[(.long xl)] ∧ Z.Warmed39 U.vm ∧ U.heap = h0) (fun _ _ _ _ _ => True) (fun _ U o U' => ∃ v L, o = .returned v ∧ Q8 Z xl h0 n0 v U'.heap L ∧ FrameEnd U o U' L ({ frames := 1, cells := 0, slots := 0, locals := 14 } : Room).cells ({ frames := 1, cells := 0, slots := 0, locals := 14 } : Room).slots) := by
  refine MetFree.of_bodySF (plainFor_of_name pn_8) hisR ?_
  intro p e s m args below meth c s₁ Bd hml0 hP hK
  obtain ⟨rfl, hZ, hh⟩ := hP
  have hx := Bd.exec
  have hby := Bd.bytes
  have hml : c.maxLocals = 3 := hml0
  have hown : s.vm.findClass "java/lang/Long" = some m.cls := findClass_of_methodNamed Bd.named
  have hnm := (name_of_methodNamed Bd.named Bd.method).1
  have X0 : Stand p l e ({ frames := 1, cells := 0, slots := 0, locals := 14 } : Room) s m #[(.long xl)] below meth c s₁ [] 0 0 := Stand.of_body Bd
  have e0 : s₁.heap = h0 := by rw [← hh, Bd.state]; rfl
  have N0 := Fr.nil n0
  have pre0 : ∀ t, Steps p.tables e below (s₁.setTop (mkF m 0 #[.val (.long xl), .second, .unset] [])) t → Steps p.tables e below (s₁.setTop (entryFrame m #[(.long xl)] 3)) t := fun t k => castTop (ef_8 m xl) k
  have pre1 : ∀ t, Steps p.tables e below (s₁.setTop (mkF m 4 #[.val (.long xl), .second, .val (.int (xl.toInt32))] [(.int (xl.toInt32))])) t → Steps p.tables e below (s₁.setTop (entryFrame m #[(.long xl)] 3)) t := by
    intro t k
    refine pre0 t ?_
    show Steps p.tables e below (s₁.setTop (mkF m 0 #[.val (.long xl), .second, .unset] [])) _
    refine XS.lloadN X0.here hx rfl (hb hby d8_0) rfl ?_
    show Steps p.tables e below (s₁.setTop (mkF m 1 #[.val (.long xl), .second, .unset] [(.long xl)])) _
    refine XS.l2i X0.here hx rfl (hb hby d8_1) rfl ?_
    show Steps p.tables e below (s₁.setTop (mkF m 2 #[.val (.long xl), .second, .unset] [(.int (xl.toInt32))])) _
    refine XS.istoreN X0.here hx rfl (hb hby d8_2) rfl (l' := #[.val (.long xl), .second, .val (.int (xl.toInt32))]) rfl ?_
    show Steps p.tables e below (s₁.setTop (mkF m 3 #[.val (.long xl), .second, .val (.int (xl.toInt32))] [])) _
    refine XS.iloadN X0.here hx rfl (hb hby d8_3) rfl ?_
    exact k
  by_cases hc2 : (xl.toInt32) = (0 : Int32)
  ·
    obtain ⟨_, _, ⟨T3, L3, k3, n3⟩, -, X3, ⟨Lc3, hQ3, l3, y3, z3⟩, st3⟩ := Jvm.LawKit.callS X0 hx (y := (⟨"java/lang/Integer", "numberOfTrailingZeros", "(I)I"⟩ : MethodName)) hown (mvT hZ (hw _ (List.mem_of_getElem? (i := 49) rfl))) (mvT hZ (hw _ (List.mem_of_getElem? (i := 50) rfl))) (mvT hZ (hw _ (List.mem_of_getElem? (i := 51) rfl))) (mvT hZ (hw _ (List.mem_of_getElem? (i := 52) rfl))) (by decide) (backOf (W := 1) (rm9 l Z a0 hw [] (((xl.toUInt64 >>> ((32 : Int32) &&& 0x3f).toInt64.toUInt64).toInt64).toInt32) h0 n0 Z0) hZ (hw _ (List.mem_of_getElem? (i := 52) rfl)) (hw _ (List.mem_of_getElem? (i := 51) rfl)) (by decide) (by decide)) (g := (mkF m 14 #[.val (.long xl), .second, .val (.int (xl.toInt32))] [(.int (((xl.toUInt64 >>> ((32 : Int32) &&& 0x3f).toInt64.toUInt64).toInt64).toInt32)), (.int (32 : Int32))])) rfl (by rw [hml]; rfl) (argsL := [(.int (((xl.toUInt64 >>> ((32 : Int32) &&& 0x3f).toInt64.toUInt64).toInt64).toInt32))]) (rest := [(.int (32 : Int32))]) (lenOf pd_4 rfl) rfl (by show 2 * 0 + _ ≤ _; exact Nat.le_of_eq rfl) (hb hby d8_14) (fun _ _ => ⟨rfl, e0, (by decide : 0 + 0 ≤ _), (by decide : 0 + 0 ≤ _)⟩)
    dsimp only [Pt.U, Pt.locs, Pt.cells, Pt.slots] at X3 l3 y3 z3 st3 hQ3
    subst y3 z3
    obtain ⟨rfl, N3q, e3⟩ := hQ3
    have N3 : Fr n0 L3 := by rw [l3]; exact Fr.app N0 N3q
    have pre4 : ∀ t, Steps p.tables e below (T3.setTop (mkF m 25 #[.val (.long xl), .second, .val (.int (xl.toInt32))] [(.int ((32 : Int32) + (Fntz (((xl.toUInt64 >>> ((32 : Int32) &&& 0x3f).toInt64.toUInt64).toInt64).toInt32))))])) t → Steps p.tables e below (s₁.setTop (entryFrame m #[(.long xl)] 3)) t := by
      intro t k
      refine pre1 t ?_
      show Steps p.tables e below (s₁.setTop (mkF m 4 #[.val (.long xl), .second, .val (.int (xl.toInt32))] [(.int (xl.toInt32))])) _
      refine XS.ifNo X0.here hx rfl (hb hby d8_4) rfl ((if0 _ _).trans (teq hc2).2) ?_
      show Steps p.tables e below (s₁.setTop (mkF m 7 #[.val (.long xl), .second, .val (.int (xl.toInt32))] [])) _
      refine XS.bipush X0.here hx rfl (hb hby d8_7) ?_
      show Steps p.tables e below (s₁.setTop (mkF m 9 #[.val (.long xl), .second, .val (.int (xl.toInt32))] [(.int (32 : Int32))])) _
      refine XS.lloadN X0.here hx rfl (hb hby d8_9) rfl ?_
      show Steps p.tables e below (s₁.setTop (mkF m 10 #[.val (.long xl), .second, .val (.int (xl.toInt32))] [(.long xl), (.int (32 : Int32))])) _
      refine XS.bipush X0.here hx rfl (hb hby d8_10) ?_
      show Steps p.tables e below (s₁.setTop (mkF m 12 #[.val (.long xl), .second, .val (.int (xl.toInt32))] [(.int (32 : Int32)), (.long xl), (.int (32 : Int32))])) _
      refine XS.lushr X0.here hx rfl (hb hby d8_12) rfl ?_
      show Steps p.tables e below (s₁.setTop (mkF m 13 #[.val (.long xl), .second, .val (.int (xl.toInt32))] [(.long ((xl.toUInt64 >>> ((32 : Int32) &&& 0x3f).toInt64.toUInt64).toInt64)), (.int (32 : Int32))])) _
      refine XS.l2i X0.here hx rfl (hb hby d8_13) rfl ?_
      show Steps p.tables e below (s₁.setTop (mkF m 14 #[.val (.long xl), .second, .val (.int (xl.toInt32))] [(.int (((xl.toUInt64 >>> ((32 : Int32) &&& 0x3f).toInt64.toUInt64).toInt64).toInt32)), (.int (32 : Int32))])) _
      refine st3 _ ?_
      show Steps p.tables e below (T3.setTop (mkF m 17 #[.val (.long xl), .second, .val (.int (xl.toInt32))] [(.int (Fntz (((xl.toUInt64 >>> ((32 : Int32) &&& 0x3f).toInt64.toUInt64).toInt64).toInt32))), (.int (32 : Int32))])) _
      refine XS.iadd X3.here hx rfl (hb hby d8_17) rfl ?_
      show Steps p.tables e below (T3.setTop (mkF m 18 #[.val (.long xl), .second, .val (.int (xl.toInt32))] [(.int ((32 : Int32) + (Fntz (((xl.toUInt64 >>> ((32 : Int32) &&& 0x3f).toInt64.toUInt64).toInt64).toInt32))))])) _
      refine XS.goto X3.here hx rfl (pc0 := 18) (pc' := 25) rfl (hb hby d8_18) (by decide) (by decide) ?_
      exact k
    obtain ⟨fs, hr, hrun, hended, hW, hsame⟩ := X3.leave (v := some (.int (Fntzl xl))) (fun h => by rw [Bd.returns] at h; cases h) (BodyLoose.notSynchronized Bd)
    refine ⟨_, _, pre4 _ ?_, hrun, hended, _, _, rfl, ?_, ⟨_, rfl⟩, hW, hsame.mono (by decide) (by decide)⟩
    · show Steps p.tables e below (T3.setTop (mkF m 25 #[.val (.long xl), .second, .val (.int (xl.toInt32))] [(.int ((32 : Int32) + (Fntz (((xl.toUInt64 >>> ((32 : Int32) &&& 0x3f).toInt64.toUInt64).toInt64).toInt32))))])) _
      have hr2 := hr
      rw [(show (Fntzl xl) = ((32 : Int32) + (Fntz (((xl.toUInt64 >>> ((32 : Int32) &&& 0x3f).toInt64.toUInt64).toInt64).toInt32))) from ((if_pos hc2).trans rfl))] at hr2
      exact retI X3 hx Bd.returns (hb hby d8_25) hr2
    · show Q8 Z xl h0 n0 _ T3.heap _
      rw [e3]
      exact ⟨rfl, N3, rfl⟩
  ·
    obtain ⟨_, _, ⟨T5, L5, k5, n5⟩, -, X5, ⟨Lc5, hQ5, l5, y5, z5⟩, st5⟩ := Jvm.LawKit.callS X0 hx (y := (⟨"java/lang/Integer", "numberOfTrailingZeros", "(I)I"⟩ : MethodName)) hown (mvT hZ (hw _ (List.mem_of_getElem? (i := 49) rfl))) (mvT hZ (hw _ (List.mem_of_getElem? (i := 50) rfl))) (mvT hZ (hw _ (List.mem_of_getElem? (i := 51) rfl))) (mvT hZ (hw _ (List.mem_of_getElem? (i := 52) rfl))) (by decide) (backOf (W := 0) (rm9 l Z a0 hw [] (xl.toInt32) h0 n0 Z0) hZ (hw _ (List.mem_of_getElem? (i := 52) rfl)) (hw _ (List.mem_of_getElem? (i := 51) rfl)) (by decide) (by decide)) (g := (mkF m 22 #[.val (.long xl), .second, .val (.int (xl.toInt32))] [(.int (xl.toInt32))])) rfl (by rw [hml]; rfl) (argsL := [(.int (xl.toInt32))]) (rest := []) (lenOf pd_4 rfl) rfl (by show 2 * 0 + _ ≤ _; exact Nat.le_of_eq rfl) (hb hby d8_22) (fun _ _ => ⟨rfl, e0, (by decide : 0 + 0 ≤ _), (by decide : 0 + 0 ≤ _)⟩)
    dsimp only [Pt.U, Pt.locs, Pt.cells, Pt.slots] at X5 l5 y5 z5 st5 hQ5
    subst y5 z5
    obtain ⟨rfl, N5q, e5⟩ := hQ5
    have N5 : Fr n0 L5 := by rw [l5]; exact Fr.app N0 N5q
    have pre6 : ∀ t, Steps p.tables e below (T5.setTop (mkF m 25 #[.val (.long xl), .second, .val (.int (xl.toInt32))] [(.int (Fntz (xl.toInt32)))])) t → Steps p.tables e below (s₁.setTop (entryFrame m #[(.long xl)] 3)) t := by
      intro t k
      refine pre1 t ?_
      show Steps p.tables e below (s₁.setTop (mkF m 4 #[.val (.long xl), .second, .val (.int (xl.toInt32))] [(.int (xl.toInt32))])) _
      refine XS.ifYes X0.here hx rfl (pc0 := 4) (pc' := 21) rfl (hb hby d8_4) rfl ((if0 _ _).trans (feq hc2).2) (by decide) (by decide) ?_
      show Steps p.tables e below (s₁.setTop (mkF m 21 #[.val (.long xl), .second, .val (.int (xl.toInt32))] [])) _
      refine XS.iloadN X0.here hx rfl (hb hby d8_21) rfl ?_
      show Steps p.tables e below (s₁.setTop (mkF m 22 #[.val (.long xl), .second, .val (.int (xl.toInt32))] [(.int (xl.toInt32))])) _
      refine st5 _ ?_
      exact k
    obtain ⟨fs, hr, hrun, hended, hW, hsame⟩ := X5.leave (v := some (.int (Fntzl xl))) (fun h => by rw [Bd.returns] at h; cases h) (BodyLoose.notSynchronized Bd)
    refine ⟨_, _, pre6 _ ?_, hrun, hended, _, _, rfl, ?_, ⟨_, rfl⟩, hW, hsame.mono (by decide) (by decide)⟩
    · show Steps p.tables e below (T5.setTop (mkF m 25 #[.val (.long xl), .second, .val (.int (xl.toInt32))] [(.int (Fntz (xl.toInt32)))])) _
      have hr2 := hr
      rw [(show (Fntzl xl) = (Fntz (xl.toInt32)) from ((if_neg hc2).trans rfl))] at hr2
      exact retI X5 hx Bd.returns (hb hby d8_25) hr2
    · show Q8 Z xl h0 n0 _ T5.heap _
      rw [e5]
      exact ⟨rfl, N5, rfl⟩
def own_wd (fr : Int32) (w : Int32 → Int64) : Int64 := ((w (own_ix fr)) &&& ((-1 : Int64) <<< (fr &&& 0x3f).toInt64))
def own_wi (fr : Int32) : Int32 := ((own_ix fr) + (1 : Int32))
def own_sw (fr : Int32) (u : Int32 → Int64) : Int64 := ((u (own_ix (own_wi fr))) &&& ((-1 : Int64) <<< ((own_wi fr) &&& 0x3f).toInt64))
theorem d6_87 : decode prog_16_method_8_code 87 = .ok (.lload 6, 2) := by decide +kernel
theorem d6_89 : decode prog_16_method_8_code 89 = .ok (.lconst 0, 1) := by decide +kernel
theorem d6_90 : decode prog_16_method_8_code 90 = .ok (.lcmp, 1) := by decide +kernel
theorem d6_91 : decode prog_16_method_8_code 91 = .ok (.ifCond .ne 30, 3) := by decide +kernel
theorem d6_94 : decode prog_16_method_8_code 94 = .ok (.iinc 5 1, 3) := by decide +kernel
theorem d6_97 : decode prog_16_method_8_code 97 = .ok (.iload 5, 2) := by decide +kernel
theorem d6_99 : decode prog_16_method_8_code 99 = .ok (.aload_n 0, 1) := by decide +kernel
theorem d6_100 : decode prog_16_method_8_code 100 = .ok (.getfield 17, 3) := by decide +kernel
theorem d6_103 : decode prog_16_method_8_code 103 = .ok (.arraylength, 1) := by decide +kernel
theorem d6_104 : decode prog_16_method_8_code 104 = .ok (.if_icmp .ne 5, 3) := by decide +kernel
theorem d6_109 : decode prog_16_method_8_code 109 = .ok (.aload_n 0, 1) := by decide +kernel
theorem d6_110 : decode prog_16_method_8_code 110 = .ok (.getfield 17, 3) := by decide +kernel
theorem d6_113 : decode prog_16_method_8_code 113 = .ok (.iload 5, 2) := by decide +kernel
theorem d6_115 : decode prog_16_method_8_code 115 = .ok (.laload, 1) := by decide +kernel
theorem d6_116 : decode prog_16_method_8_code 116 = .ok (.lstore 6, 2) := by decide +kernel
theorem d6_118 : decode prog_16_method_8_code 118 = .ok (.goto (-31), 3) := by decide +kernel
def nx_i (si : Int32) : Int32 := (si + (1 : Int32))
def nx_w (si : Int32) (u : Int32 → Int64) : Int64 := (u (si + (1 : Int32)))
set_option maxRecDepth 65536 in
set_option maxHeartbeats 40000000 in
theorem nxTurn {p : Program} {l : Launch} {e : Env} {R : Room} {s : State} {m : MethodId} {args : Array Value} {below : List Frame} {meth : Method} {c : Code} {T0 : State} {locs : List Loc} {cells slots : Nat} {Z : State} {a0 : Array Value} {h0 : Heap} {n0 : Nat} (fr : Int32) (si : Int32) (sw : Int64) (ob : Addr) (aw : Addr) (au : Addr) (cap : Int32) (sz : Int32) (nw : Int32) (w : Int32 → Int64) (nu : Int32) (u : Int32 → Int64)
    (X0 : Stand p l e R s m args below meth c T0 locs cells slots) (hx : p.tables.exec = Jvm.exec) (hZ : Z.Warmed39 s.vm) (hw : ∀ d ∈ tables_1, d.before a0 Z = true) (hby : c.code = prog_16_method_8_code) (hml : c.maxLocals = 8) (hown : s.vm.findClass "com/example/cutline/cutline/IndexSet" = some m.cls) (e0 : T0.heap = h0) (N0 : Fr n0 locs) (Z0 : n0 ≤ h0.size) (I0 : IS Z h0 n0 ob aw au cap sz nw w nu u) (hz : sw = 0) (hn : ¬ ((si + (1 : Int32)) = nu)) (hin : ¬ (si + (1 : Int32)) < 0 ∧ (si + (1 : Int32)) < nu) :
    ∃ (T' : State) (h' : Heap) (locs' : List Loc), Stand p l e R s m args below meth c T' locs' cells slots ∧ T'.heap = h' ∧ Fr n0 locs' ∧ (h' = h0) ∧ ∀ t, Steps p.tables e below (T'.setTop (mkF m 87 #[.val (.ref ob), .val (.int fr), .val (.int (own_wi fr)), .val (.long (own_wd fr w)), .second, .val (.int (nx_i si)), .val (.long (nx_w si u)), .second] [])) t → Steps p.tables e below (T0.setTop (mkF m 87 #[.val (.ref ob), .val (.int fr), .val (.int (own_wi fr)), .val (.long (own_wd fr w)), .second, .val (.int si), .val (.long sw), .second] [])) t := by
  have pre0 : ∀ t, Steps p.tables e below (T0.setTop (mkF m 87 #[.val (.ref ob), .val (.int fr), .val (.int (own_wi fr)), .val (.long (own_wd fr w)), .second, .val (.int si), .val (.long sw), .second] [])) t → Steps p.tables e below (T0.setTop (mkF m 87 #[.val (.ref ob), .val (.int fr), .val (.int (own_wi fr)), .val (.long (own_wd fr w)), .second, .val (.int si), .val (.long sw), .second] [])) t := fun t k => k
  obtain ⟨k1_0, k1_1, k1_2, k1_3, k1_4, k1_5, k1_6, k1_g_ob, k1_g_aw, k1_g_au, k1_n_ob_aw, k1_n_ob_au, k1_n_aw_au, k1_sz⟩ := I0
  obtain ⟨T2, X2, e2, st2⟩ := getF X0 hx hZ hown (host := "") (Or.inl (hw _ (List.mem_of_getElem? (i := 15) rfl))) Via.refl e0 k1_3 (g := (mkF m 100 #[.val (.ref ob), .val (.int fr), .val (.int (own_wi fr)), .val (.long (own_wd fr w)), .second, .val (.int (si + (1 : Int32))), .val (.long sw), .second] [(.ref ob), (.int (si + (1 : Int32)))])) rfl rfl (hb hby d6_100)
  obtain ⟨T3, X3, e3, st3⟩ := getF X2 hx hZ hown (host := "") (Or.inl (hw _ (List.mem_of_getElem? (i := 15) rfl))) Via.refl e2 k1_3 (g := (mkF m 110 #[.val (.ref ob), .val (.int fr), .val (.int (own_wi fr)), .val (.long (own_wd fr w)), .second, .val (.int (si + (1 : Int32))), .val (.long sw), .second] [(.ref ob)])) rfl rfl (hb hby d6_110)
  have pre4 : ∀ t, Steps p.tables e below (T3.setTop (mkF m 87 #[.val (.ref ob), .val (.int fr), .val (.int (own_wi fr)), .val (.long (own_wd fr w)), .second, .val (.int (si + (1 : Int32))), .val (.long (u (si + (1 : Int32)))), .second] [])) t → Steps p.tables e below (T0.setTop (mkF m 87 #[.val (.ref ob), .val (.int fr), .val (.int (own_wi fr)), .val (.long (own_wd fr w)), .second, .val (.int si), .val (.long sw), .second] [])) t := by
    intro t k
    refine pre0 t ?_
    show Steps p.tables e below (T0.setTop (mkF m 87 #[.val (.ref ob), .val (.int fr), .val (.int (own_wi fr)), .val (.long (own_wd fr w)), .second, .val (.int si), .val (.long sw), .second] [])) _
    refine XS.lload X0.here hx rfl (hb hby d6_87) rfl ?_
    show Steps p.tables e below (T0.setTop (mkF m 89 #[.val (.ref ob), .val (.int fr), .val (.int (own_wi fr)), .val (.long (own_wd fr w)), .second, .val (.int si), .val (.long sw), .second] [(.long sw)])) _
    refine XS.lconst X0.here hx rfl (hb hby d6_89) ?_
    show Steps p.tables e below (T0.setTop (mkF m 90 #[.val (.ref ob), .val (.int fr), .val (.int (own_wi fr)), .val (.long (own_wd fr w)), .second, .val (.int si), .val (.long sw), .second] [(.long (0 : Int64)), (.long sw)])) _
    refine XS.lcmp X0.here hx rfl (hb hby d6_90) rfl ?_
    show Steps p.tables e below (T0.setTop (mkF m 91 #[.val (.ref ob), .val (.int fr), .val (.int (own_wi fr)), .val (.long (own_wd fr w)), .second, .val (.int si), .val (.long sw), .second] [(.int (lcmpW sw (0 : Int64)))])) _
    refine XS.ifNo X0.here hx rfl (hb hby d6_91) rfl ((if0 _ _).trans (teq ((lw_eq _ _).mpr hz)).2) ?_
    show Steps p.tables e below (T0.setTop (mkF m 94 #[.val (.ref ob), .val (.int fr), .val (.int (own_wi fr)), .val (.long (own_wd fr w)), .second, .val (.int si), .val (.long sw), .second] [])) _
    refine XS.iinc X0.here hx rfl (hb hby d6_94) rfl (l' := #[.val (.ref ob), .val (.int fr), .val (.int (own_wi fr)), .val (.long (own_wd fr w)), .second, .val (.int (si + (1 : Int32))), .val (.long sw), .second]) rfl ?_
    show Steps p.tables e below (T0.setTop (mkF m 97 #[.val (.ref ob), .val (.int fr), .val (.int (own_wi fr)), .val (.long (own_wd fr w)), .second, .val (.int (si + (1 : Int32))), .val (.long sw), .second] [])) _
    refine XS.iload X0.here hx rfl (hb hby d6_97) rfl ?_
    show Steps p.tables e below (T0.setTop (mkF m 99 #[.val (.ref ob), .val (.int fr), .val (.int (own_wi fr)), .val (.long (own_wd fr w)), .second, .val (.int (si + (1 : Int32))), .val (.long sw), .second] [(.int (si + (1 : Int32)))])) _
    refine XS.aloadN X0.here hx rfl (hb hby d6_99) rfl rfl ?_
    show Steps p.tables e below (T0.setTop (mkF m 100 #[.val (.ref ob), .val (.int fr), .val (.int (own_wi fr)), .val (.long (own_wd fr w)), .second, .val (.int (si + (1 : Int32))), .val (.long sw), .second] [(.ref ob), (.int (si + (1 : Int32)))])) _
    refine st2 _ ?_
    show Steps p.tables e below (T2.setTop (mkF m 103 #[.val (.ref ob), .val (.int fr), .val (.int (own_wi fr)), .val (.long (own_wd fr w)), .second, .val (.int (si + (1 : Int32))), .val (.long sw), .second] [(.ref au), (.int (si + (1 : Int32)))])) _
    refine lnG X2 hx hZ e2 k1_6 (g := (mkF m 103 #[.val (.ref ob), .val (.int fr), .val (.int (own_wi fr)), .val (.long (own_wd fr w)), .second, .val (.int (si + (1 : Int32))), .val (.long sw), .second] [(.ref au), (.int (si + (1 : Int32)))])) rfl rfl (hb hby d6_103) _ ?_
    show Steps p.tables e below (T2.setTop (mkF m 104 #[.val (.ref ob), .val (.int fr), .val (.int (own_wi fr)), .val (.long (own_wd fr w)), .second, .val (.int (si + (1 : Int32))), .val (.long sw), .second] [(.int nu), (.int (si + (1 : Int32)))])) _
    refine XS.icmpYes X2.here hx rfl (pc0 := 104) (pc' := 109) rfl (hb hby d6_104) rfl (feq hn).2 (by decide) (by decide) ?_
    show Steps p.tables e below (T2.setTop (mkF m 109 #[.val (.ref ob), .val (.int fr), .val (.int (own_wi fr)), .val (.long (own_wd fr w)), .second, .val (.int (si + (1 : Int32))), .val (.long sw), .second] [])) _
    refine XS.aloadN X2.here hx rfl (hb hby d6_109) rfl rfl ?_
    show Steps p.tables e below (T2.setTop (mkF m 110 #[.val (.ref ob), .val (.int fr), .val (.int (own_wi fr)), .val (.long (own_wd fr w)), .second, .val (.int (si + (1 : Int32))), .val (.long sw), .second] [(.ref ob)])) _
    refine st3 _ ?_
    show Steps p.tables e below (T3.setTop (mkF m 113 #[.val (.ref ob), .val (.int fr), .val (.int (own_wi fr)), .val (.long (own_wd fr w)), .second, .val (.int (si + (1 : Int32))), .val (.long sw), .second] [(.ref au)])) _
    refine XS.iload X3.here hx rfl (hb hby d6_113) rfl ?_
    show Steps p.tables e below (T3.setTop (mkF m 115 #[.val (.ref ob), .val (.int fr), .val (.int (own_wi fr)), .val (.long (own_wd fr w)), .second, .val (.int (si + (1 : Int32))), .val (.long sw), .second] [(.int (si + (1 : Int32))), (.ref au)])) _
    refine rdJ X3 hx hZ e3 k1_6 (j := (si + (1 : Int32))) hin rfl (g := (mkF m 115 #[.val (.ref ob), .val (.int fr), .val (.int (own_wi fr)), .val (.long (own_wd fr w)), .second, .val (.int (si + (1 : Int32))), .val (.long sw), .second] [(.int (si + (1 : Int32))), (.ref au)])) rfl rfl (hb hby d6_115) _ ?_
    show Steps p.tables e below (T3.setTop (mkF m 116 #[.val (.ref ob), .val (.int fr), .val (.int (own_wi fr)), .val (.long (own_wd fr w)), .second, .val (.int (si + (1 : Int32))), .val (.long sw), .second] [(.long (u (si + (1 : Int32))))])) _
    refine XS.lstore X3.here hx rfl (hb hby d6_116) rfl (l' := #[.val (.ref ob), .val (.int fr), .val (.int (own_wi fr)), .val (.long (own_wd fr w)), .second, .val (.int (si + (1 : Int32))), .val (.long (u (si + (1 : Int32)))), .second]) rfl ?_
    show Steps p.tables e below (T3.setTop (mkF m 118 #[.val (.ref ob), .val (.int fr), .val (.int (own_wi fr)), .val (.long (own_wd fr w)), .second, .val (.int (si + (1 : Int32))), .val (.long (u (si + (1 : Int32)))), .second] [])) _
    refine XS.goto X3.here hx rfl (pc0 := 118) (pc' := 87) rfl (hb hby d6_118) (by decide) (by decide) ?_
    exact k
  refine ⟨T3, _, _, X3, e3, N0, rfl, fun t k => ?_⟩
  rw [(show (nx_i si) = (si + (1 : Int32)) from rfl), (show (nx_w si u) = (u (si + (1 : Int32))) from rfl)] at k
  exact pre4 t k
def scan (u : Int32 → Int64) : Nat → Int32 → Int64 → Int32 × Int64
  | 0, si, sw => (si, sw)
  | k + 1, si, sw => if sw = 0 then scan u k (nx_i si) (nx_w si u) else (si, sw)
set_option maxHeartbeats 4000000 in
theorem nxLoop {p : Program} {l : Launch} {e : Env} {R : Room} {s : State} {m : MethodId} {args : Array Value} {below : List Frame} {meth : Method} {c : Code} {cells slots : Nat} {Z : State} {a0 : Array Value} {h0 : Heap} {n0 : Nat} (fr : Int32) (ob aw au : Addr) (cap sz nw : Int32) (w : Int32 → Int64) (nu : Int32) (u : Int32 → Int64)
    (hx : p.tables.exec = Jvm.exec) (hZ : Z.Warmed39 s.vm) (hw : ∀ d ∈ tables_1, d.before a0 Z = true) (hby : c.code = prog_16_method_8_code) (hml : c.maxLocals = 8) (hown : s.vm.findClass "com/example/cutline/cutline/IndexSet" = some m.cls) (hnu : nu.toInt ≤ 16384) (I0 : IS Z h0 n0 ob aw au cap sz nw w nu u) (k : Nat) : ∀ {T0 : State} {locs : List Loc} (si : Int32) (sw : Int64) (X0 : Stand p l e R s m args below meth c T0 locs cells slots) (e0 : T0.heap = h0) (N0 : Fr n0 locs) (hk : si.toInt + k = nu.toInt - 1) (hi0 : 0 ≤ si.toInt),
    ∃ (T' : State) (locs' : List Loc), Stand p l e R s m args below meth c T' locs' cells slots ∧ T'.heap = h0 ∧ Fr n0 locs' ∧ ∀ t, Steps p.tables e below (T'.setTop (mkF m 87 #[.val (.ref ob), .val (.int fr), .val (.int (own_wi fr)), .val (.long (own_wd fr w)), .second, .val (.int (scan u k si sw).1), .val (.long (scan u k si sw).2), .second] [])) t → Steps p.tables e below (T0.setTop (mkF m 87 #[.val (.ref ob), .val (.int fr), .val (.int (own_wi fr)), .val (.long (own_wd fr w)), .second, .val (.int si), .val (.long sw), .second] [])) t := by
  induction k with
  | zero =>
    intro T0 locs si sw X0 e0 N0 hk hi0
    exact ⟨T0, locs, X0, e0, N0, fun t k => k⟩
  | succ k ih =>
    intro T0 locs si sw X0 e0 N0 hk hi0
    by_cases hz : sw = 0
    · have l1 : (1 : Int32).toInt = 1 := by decide
      have l0 : (0 : Int32).toInt = 0 := by decide
      have a := c_iadd si 1
      have b := rng32 (si + 1)
      have e1 : (si + 1).toInt = si.toInt + 1 := by omega
      obtain ⟨T1, h1, locs1, X1, q1, N1, rfl, st1⟩ := nxTurn fr si sw ob aw au cap sz nw w nu u X0 hx hZ hw hby hml hown e0 N0 I0.2.2.2.2.2.2.2.2.2.2.2.2.2 I0 hz (fun q => by rw [← Int32.toInt_inj, e1] at q; omega) ⟨by rw [Int32.lt_iff_toInt_lt, e1, l0]; omega, by rw [Int32.lt_iff_toInt_lt, e1]; omega⟩
      have hs : scan u (k + 1) si sw = scan u k (nx_i si) (nx_w si u) := if_pos hz
      rw [hs]
      obtain ⟨T2, locs2, X2, q2, N2, st2⟩ := ih (nx_i si) (nx_w si u) X1 q1 N1 (by show (si + 1).toInt + _ = _; omega) (by show 0 ≤ (si + 1).toInt; omega)
      exact ⟨T2, locs2, X2, q2, N2, fun t k => st1 t (st2 t k)⟩
    · have hs : scan u (k + 1) si sw = (si, sw) := if_neg hz
      rw [hs]
      exact ⟨T0, locs, X0, e0, N0, fun t k => k⟩
def own_fi (fr nu : Int32) (u : Int32 → Int64) : Int32 := ((((scan u (nu.toInt - 1 - (own_ix (own_wi fr)).toInt).toNat (own_ix (own_wi fr)) (own_sw fr u)).1) <<< ((6 : Int32) &&& 31)) + (Fntzl (scan u (nu.toInt - 1 - (own_ix (own_wi fr)).toInt).toNat (own_ix (own_wi fr)) (own_sw fr u)).2))
theorem own_ix0 (fr : Int32) (h0 : 0 ≤ fr.toInt) (h1 : fr.toInt ≤ 16384) : 0 ≤ (own_ix (own_wi fr)).toInt := by
  have a := own_shr6 (own_wi fr)
  omega
theorem own_kk (fr nu : Int32) (h0 : 0 ≤ fr.toInt) (h1 : fr.toInt ≤ 16384) (h : (own_ix (own_wi fr)) < nu) : (own_ix (own_wi fr)).toInt + ((nu.toInt - 1 - (own_ix (own_wi fr)).toInt).toNat : Nat) = nu.toInt - 1 := by
  rw [Int32.lt_iff_toInt_lt] at h
  omega
theorem d6_0 : decode prog_16_method_8_code 0 = .ok (.iload_n 1, 1) := by decide +kernel
theorem d6_1 : decode prog_16_method_8_code 1 = .ok (.aload_n 0, 1) := by decide +kernel
theorem d6_2 : decode prog_16_method_8_code 2 = .ok (.getfield 7, 3) := by decide +kernel
theorem d6_5 : decode prog_16_method_8_code 5 = .ok (.if_icmp .ge 10, 3) := by decide +kernel
theorem d6_8 : decode prog_16_method_8_code 8 = .ok (.aload_n 0, 1) := by decide +kernel
theorem d6_9 : decode prog_16_method_8_code 9 = .ok (.getfield 20, 3) := by decide +kernel
theorem d6_12 : decode prog_16_method_8_code 12 = .ok (.ifCond .ne 5, 3) := by decide +kernel
theorem d6_15 : decode prog_16_method_8_code 15 = .ok (.iconst (-1), 1) := by decide +kernel
theorem d6_16 : decode prog_16_method_8_code 16 = .ok (.ireturn, 1) := by decide +kernel
theorem d6_17 : decode prog_16_method_8_code 17 = .ok (.iload_n 1, 1) := by decide +kernel
theorem d6_18 : decode prog_16_method_8_code 18 = .ok (.bipush 6, 2) := by decide +kernel
theorem d6_20 : decode prog_16_method_8_code 20 = .ok (.iushr, 1) := by decide +kernel
theorem d6_21 : decode prog_16_method_8_code 21 = .ok (.istore_n 2, 1) := by decide +kernel
theorem d6_22 : decode prog_16_method_8_code 22 = .ok (.aload_n 0, 1) := by decide +kernel
theorem d6_23 : decode prog_16_method_8_code 23 = .ok (.getfield 13, 3) := by decide +kernel
theorem d6_26 : decode prog_16_method_8_code 26 = .ok (.iload_n 2, 1) := by decide +kernel
theorem d6_27 : decode prog_16_method_8_code 27 = .ok (.laload, 1) := by decide +kernel
theorem d6_28 : decode prog_16_method_8_code 28 = .ok (.ldc2_w 23, 3) := by decide +kernel
theorem d6_31 : decode prog_16_method_8_code 31 = .ok (.iload_n 1, 1) := by decide +kernel
theorem d6_32 : decode prog_16_method_8_code 32 = .ok (.lshl, 1) := by decide +kernel
theorem d6_33 : decode prog_16_method_8_code 33 = .ok (.land, 1) := by decide +kernel
theorem d6_34 : decode prog_16_method_8_code 34 = .ok (.lstore_n 3, 1) := by decide +kernel
theorem d6_35 : decode prog_16_method_8_code 35 = .ok (.lload_n 3, 1) := by decide +kernel
theorem d6_36 : decode prog_16_method_8_code 36 = .ok (.lconst 0, 1) := by decide +kernel
theorem d6_37 : decode prog_16_method_8_code 37 = .ok (.lcmp, 1) := by decide +kernel
theorem d6_38 : decode prog_16_method_8_code 38 = .ok (.ifCond .eq 13, 3) := by decide +kernel
theorem d6_41 : decode prog_16_method_8_code 41 = .ok (.iload_n 2, 1) := by decide +kernel
theorem d6_42 : decode prog_16_method_8_code 42 = .ok (.bipush 6, 2) := by decide +kernel
theorem d6_44 : decode prog_16_method_8_code 44 = .ok (.ishl, 1) := by decide +kernel
theorem d6_45 : decode prog_16_method_8_code 45 = .ok (.lload_n 3, 1) := by decide +kernel
theorem d6_46 : decode prog_16_method_8_code 46 = .ok (.invokestatic 25, 3) := by decide +kernel
theorem d6_49 : decode prog_16_method_8_code 49 = .ok (.iadd, 1) := by decide +kernel
theorem d6_50 : decode prog_16_method_8_code 50 = .ok (.ireturn, 1) := by decide +kernel
theorem d6_51 : decode prog_16_method_8_code 51 = .ok (.iinc 2 1, 3) := by decide +kernel
theorem d6_54 : decode prog_16_method_8_code 54 = .ok (.iload_n 2, 1) := by decide +kernel
theorem d6_55 : decode prog_16_method_8_code 55 = .ok (.bipush 6, 2) := by decide +kernel
theorem d6_57 : decode prog_16_method_8_code 57 = .ok (.iushr, 1) := by decide +kernel
theorem d6_58 : decode prog_16_method_8_code 58 = .ok (.istore 5, 2) := by decide +kernel
theorem d6_60 : decode prog_16_method_8_code 60 = .ok (.iload 5, 2) := by decide +kernel
theorem d6_62 : decode prog_16_method_8_code 62 = .ok (.aload_n 0, 1) := by decide +kernel
theorem d6_63 : decode prog_16_method_8_code 63 = .ok (.getfield 17, 3) := by decide +kernel
theorem d6_66 : decode prog_16_method_8_code 66 = .ok (.arraylength, 1) := by decide +kernel
theorem d6_67 : decode prog_16_method_8_code 67 = .ok (.if_icmp .lt 5, 3) := by decide +kernel
theorem d6_70 : decode prog_16_method_8_code 70 = .ok (.iconst (-1), 1) := by decide +kernel
theorem d6_71 : decode prog_16_method_8_code 71 = .ok (.ireturn, 1) := by decide +kernel
theorem d6_72 : decode prog_16_method_8_code 72 = .ok (.aload_n 0, 1) := by decide +kernel
theorem d6_73 : decode prog_16_method_8_code 73 = .ok (.getfield 17, 3) := by decide +kernel
theorem d6_76 : decode prog_16_method_8_code 76 = .ok (.iload 5, 2) := by decide +kernel
theorem d6_78 : decode prog_16_method_8_code 78 = .ok (.laload, 1) := by decide +kernel
theorem d6_79 : decode prog_16_method_8_code 79 = .ok (.ldc2_w 23, 3) := by decide +kernel
theorem d6_82 : decode prog_16_method_8_code 82 = .ok (.iload_n 2, 1) := by decide +kernel
theorem d6_83 : decode prog_16_method_8_code 83 = .ok (.lshl, 1) := by decide +kernel
theorem d6_84 : decode prog_16_method_8_code 84 = .ok (.land, 1) := by decide +kernel
theorem d6_85 : decode prog_16_method_8_code 85 = .ok (.lstore 6, 2) := by decide +kernel
theorem d6_107 : decode prog_16_method_8_code 107 = .ok (.iconst (-1), 1) := by decide +kernel
theorem d6_108 : decode prog_16_method_8_code 108 = .ok (.ireturn, 1) := by decide +kernel
theorem d6_121 : decode prog_16_method_8_code 121 = .ok (.iload 5, 2) := by decide +kernel
theorem d6_123 : decode prog_16_method_8_code 123 = .ok (.bipush 6, 2) := by decide +kernel
theorem d6_125 : decode prog_16_method_8_code 125 = .ok (.ishl, 1) := by decide +kernel
theorem d6_126 : decode prog_16_method_8_code 126 = .ok (.lload 6, 2) := by decide +kernel
theorem d6_128 : decode prog_16_method_8_code 128 = .ok (.invokestatic 25, 3) := by decide +kernel
theorem d6_131 : decode prog_16_method_8_code 131 = .ok (.iadd, 1) := by decide +kernel
theorem d6_132 : decode prog_16_method_8_code 132 = .ok (.istore_n 2, 1) := by decide +kernel
theorem d6_133 : decode prog_16_method_8_code 133 = .ok (.iload_n 2, 1) := by decide +kernel
theorem d6_134 : decode prog_16_method_8_code 134 = .ok (.bipush 6, 2) := by decide +kernel
theorem d6_136 : decode prog_16_method_8_code 136 = .ok (.ishl, 1) := by decide +kernel
theorem d6_137 : decode prog_16_method_8_code 137 = .ok (.aload_n 0, 1) := by decide +kernel
theorem d6_138 : decode prog_16_method_8_code 138 = .ok (.getfield 13, 3) := by decide +kernel
theorem d6_141 : decode prog_16_method_8_code 141 = .ok (.iload_n 2, 1) := by decide +kernel
theorem d6_142 : decode prog_16_method_8_code 142 = .ok (.laload, 1) := by decide +kernel
theorem d6_143 : decode prog_16_method_8_code 143 = .ok (.invokestatic 25, 3) := by decide +kernel
theorem d6_146 : decode prog_16_method_8_code 146 = .ok (.iadd, 1) := by decide +kernel
theorem d6_147 : decode prog_16_method_8_code 147 = .ok (.ireturn, 1) := by decide +kernel
theorem pd_5 : parseMethodDescriptor "(J)I" = some ⟨[.long], some .int⟩ := by decide +kernel
theorem ef_6 (m : MethodId) (x0 : Addr) (x1 : Int32) : entryFrame m #[(.ref x0), (.int x1)] 8 = mkF m 0 #[.val (.ref x0), .val (.int x1), .unset, .unset, .unset, .unset, .unset, .unset] [] := by first | (simp [entryFrame, mkF, argsToLocals, Value.category]; done) | rfl
def Fnext (fr : Int32) (cap : Int32) (sz : Int32) (w : Int32 → Int64) (nu : Int32) (u : Int32 → Int64) : Int32 := (if fr < cap then (if sz = (0 : Int32) then (-1 : Int32) else (if (own_wd fr w) = (0 : Int64) then (if (own_ix (own_wi fr)) < nu then (if (scan u (nu.toInt - 1 - (own_ix (own_wi fr)).toInt).toNat (own_ix (own_wi fr)) (own_sw fr u)).2 = (0 : Int64) then (-1 : Int32) else (((own_fi fr nu u) <<< ((6 : Int32) &&& 31)) + (Fntzl (w (own_fi fr nu u))))) else (-1 : Int32)) else (((own_ix fr) <<< ((6 : Int32) &&& 31)) + (Fntzl (own_wd fr w))))) else (-1 : Int32))
def Q6 (Z : State) (ob : Addr) (fr : Int32) (aw : Addr) (au : Addr) (cap : Int32) (sz : Int32) (nw : Int32) (w : Int32 → Int64) (nu : Int32) (u : Int32 → Int64) (h0 : Heap) (n0 : Nat) (v : Option Value) (h : Heap) (L : List Loc) : Prop := v = some (.int (Fnext fr cap sz w nu u)) ∧ Fr n0 L ∧ h = h0
set_option maxRecDepth 65536 in
set_option maxHeartbeats 40000000 in
theorem rm6 (l : Launch) (Z : State) (a0 : Array Value) (hw : ∀ d ∈ tables_1, d.before a0 Z = true) (ws : List Jvm.Cond) (ob : Addr) (fr : Int32) (aw : Addr) (au : Addr) (cap : Int32) (sz : Int32) (nw : Int32) (w : Int32 → Int64) (nu : Int32) (u : Int32 → Int64) (h0 : Heap) (n0 : Nat) (Z0 : n0 ≤ h0.size) (I0 : IS Z h0 n0 ob aw au cap sz nw w nu u) (hfr0 : 0 ≤ fr.toInt) (hfrc : fr.toInt ≤ 16384) (hnu : nu.toInt ≤ 16384) (hi : fr < cap → ¬ (own_ix fr) < 0 ∧ (own_ix fr) < nw) (hj : ¬ (own_ix (own_wi fr)) < 0) (hend : (scan u (nu.toInt - 1 - (own_ix (own_wi fr)).toInt).toNat (own_ix (own_wi fr)) (own_sw fr u)).2 = 0 → (own_ix (own_wi fr)) < nu → ((scan u (nu.toInt - 1 - (own_ix (own_wi fr)).toInt).toNat (own_ix (own_wi fr)) (own_sw fr u)).1 + (1 : Int32)) = nu) (hfin : ¬ ((scan u (nu.toInt - 1 - (own_ix (own_wi fr)).toInt).toNat (own_ix (own_wi fr)) (own_sw fr u)).2 = 0) → (own_ix (own_wi fr)) < nu → ¬ (own_fi fr nu u) < 0 ∧ (own_fi fr nu u) < nw) :
    MetFree l (⟨"com/example/cutline/cutline/IndexSet", "next", "(I)I"⟩ : MethodName) (head1 (Jvm.Cond.code (⟨"com/example/cutline/cutline/IndexSet", "next", "(I)I"⟩ : MethodName) prog_16_method_8_code 8 (some .int) :: ws) ({ frames := 2, cells := 0, slots := 0, locals := 29 } : Room)) (fun a U => a = #[(.ref ob), (.int fr)] ∧ Z.Warmed39 U.vm ∧ U.heap = h0) (fun _ _ _ _ _ => True) (fun _ U o U' => ∃ v L, o = .returned v ∧ Q6 Z ob fr aw au cap sz nw w nu u h0 n0 v U'.heap L ∧ FrameEnd U o U' L ({ frames := 2, cells := 0, slots := 0, locals := 29 } : Room).cells ({ frames := 2, cells := 0, slots := 0, locals := 29 } : Room).slots) := by
  refine MetFree.of_bodySF (plainFor_of_name pn_1) hisR ?_
  intro p e s m args below meth c s₁ Bd hml0 hP hK
  obtain ⟨rfl, hZ, hh⟩ := hP
  have hx := Bd.exec
  have hby := Bd.bytes
  have hml : c.maxLocals = 8 := hml0
  have hown : s.vm.findClass "com/example/cutline/cutline/IndexSet" = some m.cls := findClass_of_methodNamed Bd.named
  have hnm := (name_of_methodNamed Bd.named Bd.method).1
  have X0 : Stand p l e ({ frames := 2, cells := 0, slots := 0, locals := 29 } : Room) s m #[(.ref ob), (.int fr)] below meth c s₁ [] 0 0 := Stand.of_body Bd
  have e0 : s₁.heap = h0 := by rw [← hh, Bd.state]; rfl
  have N0 := Fr.nil n0
  have pre0 : ∀ t, Steps p.tables e below (s₁.setTop (mkF m 0 #[.val (.ref ob), .val (.int fr), .unset, .unset, .unset, .unset, .unset, .unset] [])) t → Steps p.tables e below (s₁.setTop (entryFrame m #[(.ref ob), (.int fr)] 8)) t := fun t k => castTop (ef_6 m ob fr) k
  obtain ⟨k1_0, k1_1, k1_2, k1_3, k1_4, k1_5, k1_6, k1_g_ob, k1_g_aw, k1_g_au, k1_n_ob_aw, k1_n_ob_au, k1_n_aw_au, k1_sz⟩ := I0
  obtain ⟨T2, X2, e2, st2⟩ := getF X0 hx hZ hown (host := "") (Or.inl (hw _ (List.mem_of_getElem? (i := 10) rfl))) Via.refl e0 k1_1 (g := (mkF m 2 #[.val (.ref ob), .val (.int fr), .unset, .unset, .unset, .unset, .unset, .unset] [(.ref ob), (.int fr)])) rfl rfl (hb hby d6_2)
  have pre3 : ∀ t, Steps p.tables e below (T2.setTop (mkF m 5 #[.val (.ref ob), .val (.int fr), .unset, .unset, .unset, .unset, .unset, .unset] [(.int cap), (.int fr)])) t → Steps p.tables e below (s₁.setTop (entryFrame m #[(.ref ob), (.int fr)] 8)) t := by
    intro t k
    refine pre0 t ?_
    show Steps p.tables e below (s₁.setTop (mkF m 0 #[.val (.ref ob), .val (.int fr), .unset, .unset, .unset, .unset, .unset, .unset] [])) _
    refine XS.iloadN X0.here hx rfl (hb hby d6_0) rfl ?_
    show Steps p.tables e below (s₁.setTop (mkF m 1 #[.val (.ref ob), .val (.int fr), .unset, .unset, .unset, .unset, .unset, .unset] [(.int fr)])) _
    refine XS.aloadN X0.here hx rfl (hb hby d6_1) rfl rfl ?_
    show Steps p.tables e below (s₁.setTop (mkF m 2 #[.val (.ref ob), .val (.int fr), .unset, .unset, .unset, .unset, .unset, .unset] [(.ref ob), (.int fr)])) _
    refine st2 _ ?_
    exact k
  by_cases hc4 : fr < cap
  ·
    obtain ⟨T5, X5, e5, st5⟩ := getF X2 hx hZ hown (host := "") (Or.inl (hw _ (List.mem_of_getElem? (i := 27) rfl))) Via.refl e2 k1_4 (g := (mkF m 9 #[.val (.ref ob), .val (.int fr), .unset, .unset, .unset, .unset, .unset, .unset] [(.ref ob)])) rfl rfl (hb hby d6_9)
    have pre6 : ∀ t, Steps p.tables e below (T5.setTop (mkF m 12 #[.val (.ref ob), .val (.int fr), .unset, .unset, .unset, .unset, .unset, .unset] [(.int sz)])) t → Steps p.tables e below (s₁.setTop (entryFrame m #[(.ref ob), (.int fr)] 8)) t := by
      intro t k
      refine pre3 t ?_
      show Steps p.tables e below (T2.setTop (mkF m 5 #[.val (.ref ob), .val (.int fr), .unset, .unset, .unset, .unset, .unset, .unset] [(.int cap), (.int fr)])) _
      refine XS.icmpNo X2.here hx rfl (hb hby d6_5) rfl (tlt hc4).2.1 ?_
      show Steps p.tables e below (T2.setTop (mkF m 8 #[.val (.ref ob), .val (.int fr), .unset, .unset, .unset, .unset, .unset, .unset] [])) _
      refine XS.aloadN X2.here hx rfl (hb hby d6_8) rfl rfl ?_
      show Steps p.tables e below (T2.setTop (mkF m 9 #[.val (.ref ob), .val (.int fr), .unset, .unset, .unset, .unset, .unset, .unset] [(.ref ob)])) _
      refine st5 _ ?_
      exact k
    by_cases hc7 : sz = (0 : Int32)
    ·
      have pre8 : ∀ t, Steps p.tables e below (T5.setTop (mkF m 16 #[.val (.ref ob), .val (.int fr), .unset, .unset, .unset, .unset, .unset, .unset] [(.int (-1 : Int32))])) t → Steps p.tables e below (s₁.setTop (entryFrame m #[(.ref ob), (.int fr)] 8)) t := by
        intro t k
        refine pre6 t ?_
        show Steps p.tables e below (T5.setTop (mkF m 12 #[.val (.ref ob), .val (.int fr), .unset, .unset, .unset, .unset, .unset, .unset] [(.int sz)])) _
        refine XS.ifNo X5.here hx rfl (hb hby d6_12) rfl ((if0 _ _).trans (teq hc7).2) ?_
        show Steps p.tables e below (T5.setTop (mkF m 15 #[.val (.ref ob), .val (.int fr), .unset, .unset, .unset, .unset, .unset, .unset] [])) _
        refine XS.iconst X5.here hx rfl (hb hby d6_15) ?_
        exact k
      obtain ⟨fs, hr, hrun, hended, hW, hsame⟩ := X5.leave (v := some (.int (Fnext fr cap sz w nu u))) (fun h => by rw [Bd.returns] at h; cases h) (BodyLoose.notSynchronized Bd)
      refine ⟨_, _, pre8 _ ?_, hrun, hended, _, _, rfl, ?_, ⟨_, rfl⟩, hW, hsame.mono (by decide) (by decide)⟩
      · show Steps p.tables e below (T5.setTop (mkF m 16 #[.val (.ref ob), .val (.int fr), .unset, .unset, .unset, .unset, .unset, .unset] [(.int (-1 : Int32))])) _
        have hr2 := hr
        rw [(show (Fnext fr cap sz w nu u) = (-1 : Int32) from ((if_pos hc4).trans ((if_pos hc7).trans rfl)))] at hr2
        exact retI X5 hx Bd.returns (hb hby d6_16) hr2
      · show Q6 Z ob fr aw au cap sz nw w nu u h0 n0 _ T5.heap _
        rw [e5]
        exact ⟨rfl, N0, rfl⟩
    ·
      obtain ⟨T9, X9, e9, st9⟩ := getF X5 hx hZ hown (host := "") (Or.inl (hw _ (List.mem_of_getElem? (i := 13) rfl))) Via.refl e5 k1_2 (g := (mkF m 23 #[.val (.ref ob), .val (.int fr), .val (.int (own_ix fr)), .unset, .unset, .unset, .unset, .unset] [(.ref ob)])) rfl rfl (hb hby d6_23)
      have pre10 : ∀ t, Steps p.tables e below (T9.setTop (mkF m 38 #[.val (.ref ob), .val (.int fr), .val (.int (own_ix fr)), .val (.long (own_wd fr w)), .second, .unset, .unset, .unset] [(.int (lcmpW (own_wd fr w) (0 : Int64)))])) t → Steps p.tables e below (s₁.setTop (entryFrame m #[(.ref ob), (.int fr)] 8)) t := by
        intro t k
        refine pre6 t ?_
        show Steps p.tables e below (T5.setTop (mkF m 12 #[.val (.ref ob), .val (.int fr), .unset, .unset, .unset, .unset, .unset, .unset] [(.int sz)])) _
        refine XS.ifYes X5.here hx rfl (pc0 := 12) (pc' := 17) rfl (hb hby d6_12) rfl ((if0 _ _).trans (feq hc7).2) (by decide) (by decide) ?_
        show Steps p.tables e below (T5.setTop (mkF m 17 #[.val (.ref ob), .val (.int fr), .unset, .unset, .unset, .unset, .unset, .unset] [])) _
        refine XS.iloadN X5.here hx rfl (hb hby d6_17) rfl ?_
        show Steps p.tables e below (T5.setTop (mkF m 18 #[.val (.ref ob), .val (.int fr), .unset, .unset, .unset, .unset, .unset, .unset] [(.int fr)])) _
        refine XS.bipush X5.here hx rfl (hb hby d6_18) ?_
        show Steps p.tables e below (T5.setTop (mkF m 20 #[.val (.ref ob), .val (.int fr), .unset, .unset, .unset, .unset, .unset, .unset] [(.int (6 : Int32)), (.int fr)])) _
        refine XS.iushr X5.here hx rfl (hb hby d6_20) rfl ?_
        show Steps p.tables e below (T5.setTop (mkF m 21 #[.val (.ref ob), .val (.int fr), .unset, .unset, .unset, .unset, .unset, .unset] [(.int ((fr.toUInt32 >>> ((6 : Int32) &&& 31).toUInt32).toInt32))])) _
        refine XS.istoreN X5.here hx rfl (hb hby d6_21) rfl (l' := #[.val (.ref ob), .val (.int fr), .val (.int (own_ix fr)), .unset, .unset, .unset, .unset, .unset]) rfl ?_
        show Steps p.tables e below (T5.setTop (mkF m 22 #[.val (.ref ob), .val (.int fr), .val (.int (own_ix fr)), .unset, .unset, .unset, .unset, .unset] [])) _
        refine XS.aloadN X5.here hx rfl (hb hby d6_22) rfl rfl ?_
        show Steps p.tables e below (T5.setTop (mkF m 23 #[.val (.ref ob), .val (.int fr), .val (.int (own_ix fr)), .unset, .unset, .unset, .unset, .unset] [(.ref ob)])) _
        refine st9 _ ?_
        show Steps p.tables e below (T9.setTop (mkF m 26 #[.val (.ref ob), .val (.int fr), .val (.int (own_ix fr)), .unset, .unset, .unset, .unset, .unset] [(.ref aw)])) _
        refine XS.iloadN X9.here hx rfl (hb hby d6_26) rfl ?_
        show Steps p.tables e below (T9.setTop (mkF m 27 #[.val (.ref ob), .val (.int fr), .val (.int (own_ix fr)), .unset, .unset, .unset, .unset, .unset] [(.int (own_ix fr)), (.ref aw)])) _
        refine rdJ X9 hx hZ e9 k1_5 (j := (own_ix fr)) (hi hc4) rfl (g := (mkF m 27 #[.val (.ref ob), .val (.int fr), .val (.int (own_ix fr)), .unset, .unset, .unset, .unset, .unset] [(.int (own_ix fr)), (.ref aw)])) rfl rfl (hb hby d6_27) _ ?_
        show Steps p.tables e below (T9.setTop (mkF m 28 #[.val (.ref ob), .val (.int fr), .val (.int (own_ix fr)), .unset, .unset, .unset, .unset, .unset] [(.long (w (own_ix fr)))])) _
        refine X9.ldc2Long hx hown (mvT hZ (hw _ (List.mem_of_getElem? (i := 44) rfl))) (g := (mkF m 28 #[.val (.ref ob), .val (.int fr), .val (.int (own_ix fr)), .unset, .unset, .unset, .unset, .unset] [(.long (w (own_ix fr)))])) rfl (hb hby d6_28) _ ?_
        show Steps p.tables e below (T9.setTop (mkF m 31 #[.val (.ref ob), .val (.int fr), .val (.int (own_ix fr)), .unset, .unset, .unset, .unset, .unset] [(.long (-1 : Int64)), (.long (w (own_ix fr)))])) _
        refine XS.iloadN X9.here hx rfl (hb hby d6_31) rfl ?_
        show Steps p.tables e below (T9.setTop (mkF m 32 #[.val (.ref ob), .val (.int fr), .val (.int (own_ix fr)), .unset, .unset, .unset, .unset, .unset] [(.int fr), (.long (-1 : Int64)), (.long (w (own_ix fr)))])) _
        refine XS.lshl X9.here hx rfl (hb hby d6_32) rfl ?_
        show Steps p.tables e below (T9.setTop (mkF m 33 #[.val (.ref ob), .val (.int fr), .val (.int (own_ix fr)), .unset, .unset, .unset, .unset, .unset] [(.long ((-1 : Int64) <<< (fr &&& 0x3f).toInt64)), (.long (w (own_ix fr)))])) _
        refine XS.land X9.here hx rfl (hb hby d6_33) rfl ?_
        show Steps p.tables e below (T9.setTop (mkF m 34 #[.val (.ref ob), .val (.int fr), .val (.int (own_ix fr)), .unset, .unset, .unset, .unset, .unset] [(.long ((w (own_ix fr)) &&& ((-1 : Int64) <<< (fr &&& 0x3f).toInt64)))])) _
        refine XS.lstoreN X9.here hx rfl (hb hby d6_34) rfl (l' := #[.val (.ref ob), .val (.int fr), .val (.int (own_ix fr)), .val (.long (own_wd fr w)), .second, .unset, .unset, .unset]) rfl ?_
        show Steps p.tables e below (T9.setTop (mkF m 35 #[.val (.ref ob), .val (.int fr), .val (.int (own_ix fr)), .val (.long (own_wd fr w)), .second, .unset, .unset, .unset] [])) _
        refine XS.lloadN X9.here hx rfl (hb hby d6_35) rfl ?_
        show Steps p.tables e below (T9.setTop (mkF m 36 #[.val (.ref ob), .val (.int fr), .val (.int (own_ix fr)), .val (.long (own_wd fr w)), .second, .unset, .unset, .unset] [(.long (own_wd fr w))])) _
        refine XS.lconst X9.here hx rfl (hb hby d6_36) ?_
        show Steps p.tables e below (T9.setTop (mkF m 37 #[.val (.ref ob), .val (.int fr), .val (.int (own_ix fr)), .val (.long (own_wd fr w)), .second, .unset, .unset, .unset] [(.long (0 : Int64)), (.long (own_wd fr w))])) _
        refine XS.lcmp X9.here hx rfl (hb hby d6_37) rfl ?_
        exact k
      by_cases hc11 : (own_wd fr w) = (0 : Int64)
      ·
        obtain ⟨T12, X12, e12, st12⟩ := getF X9 hx hZ hown (host := "") (Or.inl (hw _ (List.mem_of_getElem? (i := 15) rfl))) Via.refl e9 k1_3 (g := (mkF m 63 #[.val (.ref ob), .val (.int fr), .val (.int (own_wi fr)), .val (.long (own_wd fr w)), .second, .val (.int (own_ix (own_wi fr))), .unset, .unset] [(.ref ob), (.int (own_ix (own_wi fr)))])) rfl rfl (hb hby d6_63)
        have pre13 : ∀ t, Steps p.tables e below (T12.setTop (mkF m 67 #[.val (.ref ob), .val (.int fr), .val (.int (own_wi fr)), .val (.long (own_wd fr w)), .second, .val (.int (own_ix (own_wi fr))), .unset, .unset] [(.int nu), (.int (own_ix (own_wi fr)))])) t → Steps p.tables e below (s₁.setTop (entryFrame m #[(.ref ob), (.int fr)] 8)) t := by
          intro t k
          refine pre10 t ?_
          show Steps p.tables e below (T9.setTop (mkF m 38 #[.val (.ref ob), .val (.int fr), .val (.int (own_ix fr)), .val (.long (own_wd fr w)), .second, .unset, .unset, .unset] [(.int (lcmpW (own_wd fr w) (0 : Int64)))])) _
          refine XS.ifYes X9.here hx rfl (pc0 := 38) (pc' := 51) rfl (hb hby d6_38) rfl ((if0 _ _).trans (teq ((lw_eq _ _).mpr hc11)).1) (by decide) (by decide) ?_
          show Steps p.tables e below (T9.setTop (mkF m 51 #[.val (.ref ob), .val (.int fr), .val (.int (own_ix fr)), .val (.long (own_wd fr w)), .second, .unset, .unset, .unset] [])) _
          refine XS.iinc X9.here hx rfl (hb hby d6_51) rfl (l' := #[.val (.ref ob), .val (.int fr), .val (.int (own_wi fr)), .val (.long (own_wd fr w)), .second, .unset, .unset, .unset]) rfl ?_
          show Steps p.tables e below (T9.setTop (mkF m 54 #[.val (.ref ob), .val (.int fr), .val (.int (own_wi fr)), .val (.long (own_wd fr w)), .second, .unset, .unset, .unset] [])) _
          refine XS.iloadN X9.here hx rfl (hb hby d6_54) rfl ?_
          show Steps p.tables e below (T9.setTop (mkF m 55 #[.val (.ref ob), .val (.int fr), .val (.int (own_wi fr)), .val (.long (own_wd fr w)), .second, .unset, .unset, .unset] [(.int (own_wi fr))])) _
          refine XS.bipush X9.here hx rfl (hb hby d6_55) ?_
          show Steps p.tables e below (T9.setTop (mkF m 57 #[.val (.ref ob), .val (.int fr), .val (.int (own_wi fr)), .val (.long (own_wd fr w)), .second, .unset, .unset, .unset] [(.int (6 : Int32)), (.int (own_wi fr))])) _
          refine XS.iushr X9.here hx rfl (hb hby d6_57) rfl ?_
          show Steps p.tables e below (T9.setTop (mkF m 58 #[.val (.ref ob), .val (.int fr), .val (.int (own_wi fr)), .val (.long (own_wd fr w)), .second, .unset, .unset, .unset] [(.int (((own_wi fr).toUInt32 >>> ((6 : Int32) &&& 31).toUInt32).toInt32))])) _
          refine XS.istore X9.here hx rfl (hb hby d6_58) rfl (l' := #[.val (.ref ob), .val (.int fr), .val (.int (own_wi fr)), .val (.long (own_wd fr w)), .second, .val (.int (own_ix (own_wi fr))), .unset, .unset]) rfl ?_
          show Steps p.tables e below (T9.setTop (mkF m 60 #[.val (.ref ob), .val (.int fr), .val (.int (own_wi fr)), .val (.long (own_wd fr w)), .second, .val (.int (own_ix (own_wi fr))), .unset, .unset] [])) _
          refine XS.iload X9.here hx rfl (hb hby d6_60) rfl ?_
          show Steps p.tables e below (T9.setTop (mkF m 62 #[.val (.ref ob), .val (.int fr), .val (.int (own_wi fr)), .val (.long (own_wd fr w)), .second, .val (.int (own_ix (own_wi fr))), .unset, .unset] [(.int (own_ix (own_wi fr)))])) _
          refine XS.aloadN X9.here hx rfl (hb hby d6_62) rfl rfl ?_
          show Steps p.tables e below (T9.setTop (mkF m 63 #[.val (.ref ob), .val (.int fr), .val (.int (own_wi fr)), .val (.long (own_wd fr w)), .second, .val (.int (own_ix (own_wi fr))), .unset, .unset] [(.ref ob), (.int (own_ix (own_wi fr)))])) _
          refine st12 _ ?_
          show Steps p.tables e below (T12.setTop (mkF m 66 #[.val (.ref ob), .val (.int fr), .val (.int (own_wi fr)), .val (.long (own_wd fr w)), .second, .val (.int (own_ix (own_wi fr))), .unset, .unset] [(.ref au), (.int (own_ix (own_wi fr)))])) _
          refine lnG X12 hx hZ e12 k1_6 (g := (mkF m 66 #[.val (.ref ob), .val (.int fr), .val (.int (own_wi fr)), .val (.long (own_wd fr w)), .second, .val (.int (own_ix (own_wi fr))), .unset, .unset] [(.ref au), (.int (own_ix (own_wi fr)))])) rfl rfl (hb hby d6_66) _ ?_
          exact k
        by_cases hc14 : (own_ix (own_wi fr)) < nu
        ·
          obtain ⟨T15, X15, e15, st15⟩ := getF X12 hx hZ hown (host := "") (Or.inl (hw _ (List.mem_of_getElem? (i := 15) rfl))) Via.refl e12 k1_3 (g := (mkF m 73 #[.val (.ref ob), .val (.int fr), .val (.int (own_wi fr)), .val (.long (own_wd fr w)), .second, .val (.int (own_ix (own_wi fr))), .unset, .unset] [(.ref ob)])) rfl rfl (hb hby d6_73)
          have pre16 : ∀ t, Steps p.tables e below (T15.setTop (mkF m 87 #[.val (.ref ob), .val (.int fr), .val (.int (own_wi fr)), .val (.long (own_wd fr w)), .second, .val (.int (own_ix (own_wi fr))), .val (.long (own_sw fr u)), .second] [])) t → Steps p.tables e below (s₁.setTop (entryFrame m #[(.ref ob), (.int fr)] 8)) t := by
            intro t k
            refine pre13 t ?_
            show Steps p.tables e below (T12.setTop (mkF m 67 #[.val (.ref ob), .val (.int fr), .val (.int (own_wi fr)), .val (.long (own_wd fr w)), .second, .val (.int (own_ix (own_wi fr))), .unset, .unset] [(.int nu), (.int (own_ix (own_wi fr)))])) _
            refine XS.icmpYes X12.here hx rfl (pc0 := 67) (pc' := 72) rfl (hb hby d6_67) rfl (tlt hc14).1 (by decide) (by decide) ?_
            show Steps p.tables e below (T12.setTop (mkF m 72 #[.val (.ref ob), .val (.int fr), .val (.int (own_wi fr)), .val (.long (own_wd fr w)), .second, .val (.int (own_ix (own_wi fr))), .unset, .unset] [])) _
            refine XS.aloadN X12.here hx rfl (hb hby d6_72) rfl rfl ?_
            show Steps p.tables e below (T12.setTop (mkF m 73 #[.val (.ref ob), .val (.int fr), .val (.int (own_wi fr)), .val (.long (own_wd fr w)), .second, .val (.int (own_ix (own_wi fr))), .unset, .unset] [(.ref ob)])) _
            refine st15 _ ?_
            show Steps p.tables e below (T15.setTop (mkF m 76 #[.val (.ref ob), .val (.int fr), .val (.int (own_wi fr)), .val (.long (own_wd fr w)), .second, .val (.int (own_ix (own_wi fr))), .unset, .unset] [(.ref au)])) _
            refine XS.iload X15.here hx rfl (hb hby d6_76) rfl ?_
            show Steps p.tables e below (T15.setTop (mkF m 78 #[.val (.ref ob), .val (.int fr), .val (.int (own_wi fr)), .val (.long (own_wd fr w)), .second, .val (.int (own_ix (own_wi fr))), .unset, .unset] [(.int (own_ix (own_wi fr))), (.ref au)])) _
            refine rdJ X15 hx hZ e15 k1_6 (j := (own_ix (own_wi fr))) ⟨hj, hc14⟩ rfl (g := (mkF m 78 #[.val (.ref ob), .val (.int fr), .val (.int (own_wi fr)), .val (.long (own_wd fr w)), .second, .val (.int (own_ix (own_wi fr))), .unset, .unset] [(.int (own_ix (own_wi fr))), (.ref au)])) rfl rfl (hb hby d6_78) _ ?_
            show Steps p.tables e below (T15.setTop (mkF m 79 #[.val (.ref ob), .val (.int fr), .val (.int (own_wi fr)), .val (.long (own_wd fr w)), .second, .val (.int (own_ix (own_wi fr))), .unset, .unset] [(.long (u (own_ix (own_wi fr))))])) _
            refine X15.ldc2Long hx hown (mvT hZ (hw _ (List.mem_of_getElem? (i := 44) rfl))) (g := (mkF m 79 #[.val (.ref ob), .val (.int fr), .val (.int (own_wi fr)), .val (.long (own_wd fr w)), .second, .val (.int (own_ix (own_wi fr))), .unset, .unset] [(.long (u (own_ix (own_wi fr))))])) rfl (hb hby d6_79) _ ?_
            show Steps p.tables e below (T15.setTop (mkF m 82 #[.val (.ref ob), .val (.int fr), .val (.int (own_wi fr)), .val (.long (own_wd fr w)), .second, .val (.int (own_ix (own_wi fr))), .unset, .unset] [(.long (-1 : Int64)), (.long (u (own_ix (own_wi fr))))])) _
            refine XS.iloadN X15.here hx rfl (hb hby d6_82) rfl ?_
            show Steps p.tables e below (T15.setTop (mkF m 83 #[.val (.ref ob), .val (.int fr), .val (.int (own_wi fr)), .val (.long (own_wd fr w)), .second, .val (.int (own_ix (own_wi fr))), .unset, .unset] [(.int (own_wi fr)), (.long (-1 : Int64)), (.long (u (own_ix (own_wi fr))))])) _
            refine XS.lshl X15.here hx rfl (hb hby d6_83) rfl ?_
            show Steps p.tables e below (T15.setTop (mkF m 84 #[.val (.ref ob), .val (.int fr), .val (.int (own_wi fr)), .val (.long (own_wd fr w)), .second, .val (.int (own_ix (own_wi fr))), .unset, .unset] [(.long ((-1 : Int64) <<< ((own_wi fr) &&& 0x3f).toInt64)), (.long (u (own_ix (own_wi fr))))])) _
            refine XS.land X15.here hx rfl (hb hby d6_84) rfl ?_
            show Steps p.tables e below (T15.setTop (mkF m 85 #[.val (.ref ob), .val (.int fr), .val (.int (own_wi fr)), .val (.long (own_wd fr w)), .second, .val (.int (own_ix (own_wi fr))), .unset, .unset] [(.long ((u (own_ix (own_wi fr))) &&& ((-1 : Int64) <<< ((own_wi fr) &&& 0x3f).toInt64)))])) _
            refine XS.lstore X15.here hx rfl (hb hby d6_85) rfl (l' := #[.val (.ref ob), .val (.int fr), .val (.int (own_wi fr)), .val (.long (own_wd fr w)), .second, .val (.int (own_ix (own_wi fr))), .val (.long (own_sw fr u)), .second]) rfl ?_
            exact k
          obtain ⟨T17, L17, X17, e17, N17, st17⟩ := nxLoop fr ob aw au cap sz nw w nu u hx hZ hw hby hml hown hnu ⟨k1_0, k1_1, k1_2, k1_3, k1_4, k1_5, k1_6, k1_g_ob, k1_g_aw, k1_g_au, k1_n_ob_aw, k1_n_ob_au, k1_n_aw_au, Z0⟩ (nu.toInt - 1 - (own_ix (own_wi fr)).toInt).toNat (own_ix (own_wi fr)) (own_sw fr u) X15 e15 N0 (own_kk fr nu hfr0 hfrc hc14) (own_ix0 _ hfr0 hfrc)
          have pre17 : ∀ t, Steps p.tables e below (T17.setTop (mkF m 87 #[.val (.ref ob), .val (.int fr), .val (.int (own_wi fr)), .val (.long (own_wd fr w)), .second, .val (.int (scan u (nu.toInt - 1 - (own_ix (own_wi fr)).toInt).toNat (own_ix (own_wi fr)) (own_sw fr u)).1), .val (.long (scan u (nu.toInt - 1 - (own_ix (own_wi fr)).toInt).toNat (own_ix (own_wi fr)) (own_sw fr u)).2), .second] [])) t → Steps p.tables e below (s₁.setTop (entryFrame m #[(.ref ob), (.int fr)] 8)) t := fun t k => pre16 t (st17 t k)
          have pre18 : ∀ t, Steps p.tables e below (T17.setTop (mkF m 91 #[.val (.ref ob), .val (.int fr), .val (.int (own_wi fr)), .val (.long (own_wd fr w)), .second, .val (.int (scan u (nu.toInt - 1 - (own_ix (own_wi fr)).toInt).toNat (own_ix (own_wi fr)) (own_sw fr u)).1), .val (.long (scan u (nu.toInt - 1 - (own_ix (own_wi fr)).toInt).toNat (own_ix (own_wi fr)) (own_sw fr u)).2), .second] [(.int (lcmpW (scan u (nu.toInt - 1 - (own_ix (own_wi fr)).toInt).toNat (own_ix (own_wi fr)) (own_sw fr u)).2 (0 : Int64)))])) t → Steps p.tables e below (s₁.setTop (entryFrame m #[(.ref ob), (.int fr)] 8)) t := by
            intro t k
            refine pre17 t ?_
            show Steps p.tables e below (T17.setTop (mkF m 87 #[.val (.ref ob), .val (.int fr), .val (.int (own_wi fr)), .val (.long (own_wd fr w)), .second, .val (.int (scan u (nu.toInt - 1 - (own_ix (own_wi fr)).toInt).toNat (own_ix (own_wi fr)) (own_sw fr u)).1), .val (.long (scan u (nu.toInt - 1 - (own_ix (own_wi fr)).toInt).toNat (own_ix (own_wi fr)) (own_sw fr u)).2), .second] [])) _
            refine XS.lload X17.here hx rfl (hb hby d6_87) rfl ?_
            show Steps p.tables e below (T17.setTop (mkF m 89 #[.val (.ref ob), .val (.int fr), .val (.int (own_wi fr)), .val (.long (own_wd fr w)), .second, .val (.int (scan u (nu.toInt - 1 - (own_ix (own_wi fr)).toInt).toNat (own_ix (own_wi fr)) (own_sw fr u)).1), .val (.long (scan u (nu.toInt - 1 - (own_ix (own_wi fr)).toInt).toNat (own_ix (own_wi fr)) (own_sw fr u)).2), .second] [(.long (scan u (nu.toInt - 1 - (own_ix (own_wi fr)).toInt).toNat (own_ix (own_wi fr)) (own_sw fr u)).2)])) _
            refine XS.lconst X17.here hx rfl (hb hby d6_89) ?_
            show Steps p.tables e below (T17.setTop (mkF m 90 #[.val (.ref ob), .val (.int fr), .val (.int (own_wi fr)), .val (.long (own_wd fr w)), .second, .val (.int (scan u (nu.toInt - 1 - (own_ix (own_wi fr)).toInt).toNat (own_ix (own_wi fr)) (own_sw fr u)).1), .val (.long (scan u (nu.toInt - 1 - (own_ix (own_wi fr)).toInt).toNat (own_ix (own_wi fr)) (own_sw fr u)).2), .second] [(.long (0 : Int64)), (.long (scan u (nu.toInt - 1 - (own_ix (own_wi fr)).toInt).toNat (own_ix (own_wi fr)) (own_sw fr u)).2)])) _
            refine XS.lcmp X17.here hx rfl (hb hby d6_90) rfl ?_
            exact k
          by_cases hc19 : (scan u (nu.toInt - 1 - (own_ix (own_wi fr)).toInt).toNat (own_ix (own_wi fr)) (own_sw fr u)).2 = (0 : Int64)
          ·
            obtain ⟨T20, X20, e20, st20⟩ := getF X17 hx hZ hown (host := "") (Or.inl (hw _ (List.mem_of_getElem? (i := 15) rfl))) Via.refl e17 k1_3 (g := (mkF m 100 #[.val (.ref ob), .val (.int fr), .val (.int (own_wi fr)), .val (.long (own_wd fr w)), .second, .val (.int ((scan u (nu.toInt - 1 - (own_ix (own_wi fr)).toInt).toNat (own_ix (own_wi fr)) (own_sw fr u)).1 + (1 : Int32))), .val (.long (scan u (nu.toInt - 1 - (own_ix (own_wi fr)).toInt).toNat (own_ix (own_wi fr)) (own_sw fr u)).2), .second] [(.ref ob), (.int ((scan u (nu.toInt - 1 - (own_ix (own_wi fr)).toInt).toNat (own_ix (own_wi fr)) (own_sw fr u)).1 + (1 : Int32)))])) rfl rfl (hb hby d6_100)
            have pre21 : ∀ t, Steps p.tables e below (T20.setTop (mkF m 108 #[.val (.ref ob), .val (.int fr), .val (.int (own_wi fr)), .val (.long (own_wd fr w)), .second, .val (.int ((scan u (nu.toInt - 1 - (own_ix (own_wi fr)).toInt).toNat (own_ix (own_wi fr)) (own_sw fr u)).1 + (1 : Int32))), .val (.long (scan u (nu.toInt - 1 - (own_ix (own_wi fr)).toInt).toNat (own_ix (own_wi fr)) (own_sw fr u)).2), .second] [(.int (-1 : Int32))])) t → Steps p.tables e below (s₁.setTop (entryFrame m #[(.ref ob), (.int fr)] 8)) t := by
              intro t k
              refine pre18 t ?_
              show Steps p.tables e below (T17.setTop (mkF m 91 #[.val (.ref ob), .val (.int fr), .val (.int (own_wi fr)), .val (.long (own_wd fr w)), .second, .val (.int (scan u (nu.toInt - 1 - (own_ix (own_wi fr)).toInt).toNat (own_ix (own_wi fr)) (own_sw fr u)).1), .val (.long (scan u (nu.toInt - 1 - (own_ix (own_wi fr)).toInt).toNat (own_ix (own_wi fr)) (own_sw fr u)).2), .second] [(.int (lcmpW (scan u (nu.toInt - 1 - (own_ix (own_wi fr)).toInt).toNat (own_ix (own_wi fr)) (own_sw fr u)).2 (0 : Int64)))])) _
              refine XS.ifNo X17.here hx rfl (hb hby d6_91) rfl ((if0 _ _).trans (teq ((lw_eq _ _).mpr hc19)).2) ?_
              show Steps p.tables e below (T17.setTop (mkF m 94 #[.val (.ref ob), .val (.int fr), .val (.int (own_wi fr)), .val (.long (own_wd fr w)), .second, .val (.int (scan u (nu.toInt - 1 - (own_ix (own_wi fr)).toInt).toNat (own_ix (own_wi fr)) (own_sw fr u)).1), .val (.long (scan u (nu.toInt - 1 - (own_ix (own_wi fr)).toInt).toNat (own_ix (own_wi fr)) (own_sw fr u)).2), .second] [])) _
              refine XS.iinc X17.here hx rfl (hb hby d6_94) rfl (l' := #[.val (.ref ob), .val (.int fr), .val (.int (own_wi fr)), .val (.long (own_wd fr w)), .second, .val (.int ((scan u (nu.toInt - 1 - (own_ix (own_wi fr)).toInt).toNat (own_ix (own_wi fr)) (own_sw fr u)).1 + (1 : Int32))), .val (.long (scan u (nu.toInt - 1 - (own_ix (own_wi fr)).toInt).toNat (own_ix (own_wi fr)) (own_sw fr u)).2), .second]) rfl ?_
              show Steps p.tables e below (T17.setTop (mkF m 97 #[.val (.ref ob), .val (.int fr), .val (.int (own_wi fr)), .val (.long (own_wd fr w)), .second, .val (.int ((scan u (nu.toInt - 1 - (own_ix (own_wi fr)).toInt).toNat (own_ix (own_wi fr)) (own_sw fr u)).1 + (1 : Int32))), .val (.long (scan u (nu.toInt - 1 - (own_ix (own_wi fr)).toInt).toNat (own_ix (own_wi fr)) (own_sw fr u)).2), .second] [])) _
              refine XS.iload X17.here hx rfl (hb hby d6_97) rfl ?_
              show Steps p.tables e below (T17.setTop (mkF m 99 #[.val (.ref ob), .val (.int fr), .val (.int (own_wi fr)), .val (.long (own_wd fr w)), .second, .val (.int ((scan u (nu.toInt - 1 - (own_ix (own_wi fr)).toInt).toNat (own_ix (own_wi fr)) (own_sw fr u)).1 + (1 : Int32))), .val (.long (scan u (nu.toInt - 1 - (own_ix (own_wi fr)).toInt).toNat (own_ix (own_wi fr)) (own_sw fr u)).2), .second] [(.int ((scan u (nu.toInt - 1 - (own_ix (own_wi fr)).toInt).toNat (own_ix (own_wi fr)) (own_sw fr u)).1 + (1 : Int32)))])) _
              refine XS.aloadN X17.here hx rfl (hb hby d6_99) rfl rfl ?_
              show Steps p.tables e below (T17.setTop (mkF m 100 #[.val (.ref ob), .val (.int fr), .val (.int (own_wi fr)), .val (.long (own_wd fr w)), .second, .val (.int ((scan u (nu.toInt - 1 - (own_ix (own_wi fr)).toInt).toNat (own_ix (own_wi fr)) (own_sw fr u)).1 + (1 : Int32))), .val (.long (scan u (nu.toInt - 1 - (own_ix (own_wi fr)).toInt).toNat (own_ix (own_wi fr)) (own_sw fr u)).2), .second] [(.ref ob), (.int ((scan u (nu.toInt - 1 - (own_ix (own_wi fr)).toInt).toNat (own_ix (own_wi fr)) (own_sw fr u)).1 + (1 : Int32)))])) _
              refine st20 _ ?_
              show Steps p.tables e below (T20.setTop (mkF m 103 #[.val (.ref ob), .val (.int fr), .val (.int (own_wi fr)), .val (.long (own_wd fr w)), .second, .val (.int ((scan u (nu.toInt - 1 - (own_ix (own_wi fr)).toInt).toNat (own_ix (own_wi fr)) (own_sw fr u)).1 + (1 : Int32))), .val (.long (scan u (nu.toInt - 1 - (own_ix (own_wi fr)).toInt).toNat (own_ix (own_wi fr)) (own_sw fr u)).2), .second] [(.ref au), (.int ((scan u (nu.toInt - 1 - (own_ix (own_wi fr)).toInt).toNat (own_ix (own_wi fr)) (own_sw fr u)).1 + (1 : Int32)))])) _
              refine lnG X20 hx hZ e20 k1_6 (g := (mkF m 103 #[.val (.ref ob), .val (.int fr), .val (.int (own_wi fr)), .val (.long (own_wd fr w)), .second, .val (.int ((scan u (nu.toInt - 1 - (own_ix (own_wi fr)).toInt).toNat (own_ix (own_wi fr)) (own_sw fr u)).1 + (1 : Int32))), .val (.long (scan u (nu.toInt - 1 - (own_ix (own_wi fr)).toInt).toNat (own_ix (own_wi fr)) (own_sw fr u)).2), .second] [(.ref au), (.int ((scan u (nu.toInt - 1 - (own_ix (own_wi fr)).toInt).toNat (own_ix (own_wi fr)) (own_sw fr u)).1 + (1 : Int32)))])) rfl rfl (hb hby d6_103) _ ?_
              show Steps p.tables e below (T20.setTop (mkF m 104 #[.val (.ref ob), .val (.int fr), .val (.int (own_wi fr)), .val (.long (own_wd fr w)), .second, .val (.int ((scan u (nu.toInt - 1 - (own_ix (own_wi fr)).toInt).toNat (own_ix (own_wi fr)) (own_sw fr u)).1 + (1 : Int32))), .val (.long (scan u (nu.toInt - 1 - (own_ix (own_wi fr)).toInt).toNat (own_ix (own_wi fr)) (own_sw fr u)).2), .second] [(.int nu), (.int ((scan u (nu.toInt - 1 - (own_ix (own_wi fr)).toInt).toNat (own_ix (own_wi fr)) (own_sw fr u)).1 + (1 : Int32)))])) _
              refine XS.icmpNo X20.here hx rfl (hb hby d6_104) rfl (teq (hend hc19 hc14 : ((scan u (nu.toInt - 1 - (own_ix (own_wi fr)).toInt).toNat (own_ix (own_wi fr)) (own_sw fr u)).1 + (1 : Int32)) = nu)).2 ?_
              show Steps p.tables e below (T20.setTop (mkF m 107 #[.val (.ref ob), .val (.int fr), .val (.int (own_wi fr)), .val (.long (own_wd fr w)), .second, .val (.int ((scan u (nu.toInt - 1 - (own_ix (own_wi fr)).toInt).toNat (own_ix (own_wi fr)) (own_sw fr u)).1 + (1 : Int32))), .val (.long (scan u (nu.toInt - 1 - (own_ix (own_wi fr)).toInt).toNat (own_ix (own_wi fr)) (own_sw fr u)).2), .second] [])) _
              refine XS.iconst X20.here hx rfl (hb hby d6_107) ?_
              exact k
            obtain ⟨fs, hr, hrun, hended, hW, hsame⟩ := X20.leave (v := some (.int (Fnext fr cap sz w nu u))) (fun h => by rw [Bd.returns] at h; cases h) (BodyLoose.notSynchronized Bd)
            refine ⟨_, _, pre21 _ ?_, hrun, hended, _, _, rfl, ?_, ⟨_, rfl⟩, hW, hsame.mono (by decide) (by decide)⟩
            · show Steps p.tables e below (T20.setTop (mkF m 108 #[.val (.ref ob), .val (.int fr), .val (.int (own_wi fr)), .val (.long (own_wd fr w)), .second, .val (.int ((scan u (nu.toInt - 1 - (own_ix (own_wi fr)).toInt).toNat (own_ix (own_wi fr)) (own_sw fr u)).1 + (1 : Int32))), .val (.long (scan u (nu.toInt - 1 - (own_ix (own_wi fr)).toInt).toNat (own_ix (own_wi fr)) (own_sw fr u)).2), .second] [(.int (-1 : Int32))])) _
              have hr2 := hr
              rw [(show (Fnext fr cap sz w nu u) = (-1 : Int32) from ((if_pos hc4).trans ((if_neg hc7).trans ((if_pos hc11).trans ((if_pos hc14).trans ((if_pos hc19).trans rfl))))))] at hr2
              exact retI X20 hx Bd.returns (hb hby d6_108) hr2
            · show Q6 Z ob fr aw au cap sz nw w nu u h0 n0 _ T20.heap _
              rw [e20]
              exact ⟨rfl, N17, rfl⟩
          ·
            obtain ⟨_, _, ⟨T22, L22, k22, n22⟩, -, X22, ⟨Lc22, hQ22, l22, y22, z22⟩, st22⟩ := Jvm.LawKit.callS X17 hx (y := (⟨"java/lang/Long", "numberOfTrailingZeros", "(J)I"⟩ : MethodName)) hown (mvT hZ (hw _ (List.mem_of_getElem? (i := 45) rfl))) (mvT hZ (hw _ (List.mem_of_getElem? (i := 46) rfl))) (mvT hZ (hw _ (List.mem_of_getElem? (i := 47) rfl))) (mvT hZ (hw _ (List.mem_of_getElem? (i := 48) rfl))) (by decide) (backOf (W := 1) (rm8 l Z a0 hw [] (scan u (nu.toInt - 1 - (own_ix (own_wi fr)).toInt).toNat (own_ix (own_wi fr)) (own_sw fr u)).2 h0 n0 Z0) hZ (hw _ (List.mem_of_getElem? (i := 48) rfl)) (hw _ (List.mem_of_getElem? (i := 47) rfl)) (by decide) (by decide)) (g := (mkF m 128 #[.val (.ref ob), .val (.int fr), .val (.int (own_wi fr)), .val (.long (own_wd fr w)), .second, .val (.int (scan u (nu.toInt - 1 - (own_ix (own_wi fr)).toInt).toNat (own_ix (own_wi fr)) (own_sw fr u)).1), .val (.long (scan u (nu.toInt - 1 - (own_ix (own_wi fr)).toInt).toNat (own_ix (own_wi fr)) (own_sw fr u)).2), .second] [(.long (scan u (nu.toInt - 1 - (own_ix (own_wi fr)).toInt).toNat (own_ix (own_wi fr)) (own_sw fr u)).2), (.int ((scan u (nu.toInt - 1 - (own_ix (own_wi fr)).toInt).toNat (own_ix (own_wi fr)) (own_sw fr u)).1 <<< ((6 : Int32) &&& 31)))])) rfl (by rw [hml]; rfl) (argsL := [(.long (scan u (nu.toInt - 1 - (own_ix (own_wi fr)).toInt).toNat (own_ix (own_wi fr)) (own_sw fr u)).2)]) (rest := [(.int ((scan u (nu.toInt - 1 - (own_ix (own_wi fr)).toInt).toNat (own_ix (own_wi fr)) (own_sw fr u)).1 <<< ((6 : Int32) &&& 31)))]) (lenOf pd_5 rfl) rfl (by show 2 * 0 + _ ≤ _; exact Nat.le_of_eq rfl) (hb hby d6_128) (fun _ _ => ⟨rfl, e17, (by decide : 0 + 0 ≤ _), (by decide : 0 + 0 ≤ _)⟩)
            dsimp only [Pt.U, Pt.locs, Pt.cells, Pt.slots] at X22 l22 y22 z22 st22 hQ22
            subst y22 z22
            obtain ⟨rfl, N22q, e22⟩ := hQ22
            have N22 : Fr n0 L22 := by rw [l22]; exact Fr.app N17 N22q
            obtain ⟨T23, X23, e23, st23⟩ := getF X22 hx hZ hown (host := "") (Or.inl (hw _ (List.mem_of_getElem? (i := 13) rfl))) Via.refl e22 k1_2 (g := (mkF m 138 #[.val (.ref ob), .val (.int fr), .val (.int (own_fi fr nu u)), .val (.long (own_wd fr w)), .second, .val (.int (scan u (nu.toInt - 1 - (own_ix (own_wi fr)).toInt).toNat (own_ix (own_wi fr)) (own_sw fr u)).1), .val (.long (scan u (nu.toInt - 1 - (own_ix (own_wi fr)).toInt).toNat (own_ix (own_wi fr)) (own_sw fr u)).2), .second] [(.ref ob), (.int ((own_fi fr nu u) <<< ((6 : Int32) &&& 31)))])) rfl rfl (hb hby d6_138)
            obtain ⟨_, _, ⟨T24, L24, k24, n24⟩, -, X24, ⟨Lc24, hQ24, l24, y24, z24⟩, st24⟩ := Jvm.LawKit.callS X23 hx (y := (⟨"java/lang/Long", "numberOfTrailingZeros", "(J)I"⟩ : MethodName)) hown (mvT hZ (hw _ (List.mem_of_getElem? (i := 45) rfl))) (mvT hZ (hw _ (List.mem_of_getElem? (i := 46) rfl))) (mvT hZ (hw _ (List.mem_of_getElem? (i := 47) rfl))) (mvT hZ (hw _ (List.mem_of_getElem? (i := 48) rfl))) (by decide) (backOf (W := 1) (rm8 l Z a0 hw [] (w (own_fi fr nu u)) h0 n0 Z0) hZ (hw _ (List.mem_of_getElem? (i := 48) rfl)) (hw _ (List.mem_of_getElem? (i := 47) rfl)) (by decide) (by decide)) (g := (mkF m 143 #[.val (.ref ob), .val (.int fr), .val (.int (own_fi fr nu u)), .val (.long (own_wd fr w)), .second, .val (.int (scan u (nu.toInt - 1 - (own_ix (own_wi fr)).toInt).toNat (own_ix (own_wi fr)) (own_sw fr u)).1), .val (.long (scan u (nu.toInt - 1 - (own_ix (own_wi fr)).toInt).toNat (own_ix (own_wi fr)) (own_sw fr u)).2), .second] [(.long (w (own_fi fr nu u))), (.int ((own_fi fr nu u) <<< ((6 : Int32) &&& 31)))])) rfl (by rw [hml]; rfl) (argsL := [(.long (w (own_fi fr nu u)))]) (rest := [(.int ((own_fi fr nu u) <<< ((6 : Int32) &&& 31)))]) (lenOf pd_5 rfl) rfl (by show 2 * 0 + _ ≤ _; exact Nat.le_of_eq rfl) (hb hby d6_143) (fun _ _ => ⟨rfl, e23, (by decide : 0 + 0 ≤ _), (by decide : 0 + 0 ≤ _)⟩)
            dsimp only [Pt.U, Pt.locs, Pt.cells, Pt.slots] at X24 l24 y24 z24 st24 hQ24
            subst y24 z24
            obtain ⟨rfl, N24q, e24⟩ := hQ24
            have N24 : Fr n0 L24 := by rw [l24]; exact Fr.app N22 N24q
            have pre25 : ∀ t, Steps p.tables e below (T24.setTop (mkF m 147 #[.val (.ref ob), .val (.int fr), .val (.int (own_fi fr nu u)), .val (.long (own_wd fr w)), .second, .val (.int (scan u (nu.toInt - 1 - (own_ix (own_wi fr)).toInt).toNat (own_ix (own_wi fr)) (own_sw fr u)).1), .val (.long (scan u (nu.toInt - 1 - (own_ix (own_wi fr)).toInt).toNat (own_ix (own_wi fr)) (own_sw fr u)).2), .second] [(.int (((own_fi fr nu u) <<< ((6 : Int32) &&& 31)) + (Fntzl (w (own_fi fr nu u)))))])) t → Steps p.tables e below (s₁.setTop (entryFrame m #[(.ref ob), (.int fr)] 8)) t := by
              intro t k
              refine pre18 t ?_
              show Steps p.tables e below (T17.setTop (mkF m 91 #[.val (.ref ob), .val (.int fr), .val (.int (own_wi fr)), .val (.long (own_wd fr w)), .second, .val (.int (scan u (nu.toInt - 1 - (own_ix (own_wi fr)).toInt).toNat (own_ix (own_wi fr)) (own_sw fr u)).1), .val (.long (scan u (nu.toInt - 1 - (own_ix (own_wi fr)).toInt).toNat (own_ix (own_wi fr)) (own_sw fr u)).2), .second] [(.int (lcmpW (scan u (nu.toInt - 1 - (own_ix (own_wi fr)).toInt).toNat (own_ix (own_wi fr)) (own_sw fr u)).2 (0 : Int64)))])) _
              refine XS.ifYes X17.here hx rfl (pc0 := 91) (pc' := 121) rfl (hb hby d6_91) rfl ((if0 _ _).trans (feq (fun q => hc19 ((lw_eq _ _).mp q))).2) (by decide) (by decide) ?_
              show Steps p.tables e below (T17.setTop (mkF m 121 #[.val (.ref ob), .val (.int fr), .val (.int (own_wi fr)), .val (.long (own_wd fr w)), .second, .val (.int (scan u (nu.toInt - 1 - (own_ix (own_wi fr)).toInt).toNat (own_ix (own_wi fr)) (own_sw fr u)).1), .val (.long (scan u (nu.toInt - 1 - (own_ix (own_wi fr)).toInt).toNat (own_ix (own_wi fr)) (own_sw fr u)).2), .second] [])) _
              refine XS.iload X17.here hx rfl (hb hby d6_121) rfl ?_
              show Steps p.tables e below (T17.setTop (mkF m 123 #[.val (.ref ob), .val (.int fr), .val (.int (own_wi fr)), .val (.long (own_wd fr w)), .second, .val (.int (scan u (nu.toInt - 1 - (own_ix (own_wi fr)).toInt).toNat (own_ix (own_wi fr)) (own_sw fr u)).1), .val (.long (scan u (nu.toInt - 1 - (own_ix (own_wi fr)).toInt).toNat (own_ix (own_wi fr)) (own_sw fr u)).2), .second] [(.int (scan u (nu.toInt - 1 - (own_ix (own_wi fr)).toInt).toNat (own_ix (own_wi fr)) (own_sw fr u)).1)])) _
              refine XS.bipush X17.here hx rfl (hb hby d6_123) ?_
              show Steps p.tables e below (T17.setTop (mkF m 125 #[.val (.ref ob), .val (.int fr), .val (.int (own_wi fr)), .val (.long (own_wd fr w)), .second, .val (.int (scan u (nu.toInt - 1 - (own_ix (own_wi fr)).toInt).toNat (own_ix (own_wi fr)) (own_sw fr u)).1), .val (.long (scan u (nu.toInt - 1 - (own_ix (own_wi fr)).toInt).toNat (own_ix (own_wi fr)) (own_sw fr u)).2), .second] [(.int (6 : Int32)), (.int (scan u (nu.toInt - 1 - (own_ix (own_wi fr)).toInt).toNat (own_ix (own_wi fr)) (own_sw fr u)).1)])) _
              refine XS.ishl X17.here hx rfl (hb hby d6_125) rfl ?_
              show Steps p.tables e below (T17.setTop (mkF m 126 #[.val (.ref ob), .val (.int fr), .val (.int (own_wi fr)), .val (.long (own_wd fr w)), .second, .val (.int (scan u (nu.toInt - 1 - (own_ix (own_wi fr)).toInt).toNat (own_ix (own_wi fr)) (own_sw fr u)).1), .val (.long (scan u (nu.toInt - 1 - (own_ix (own_wi fr)).toInt).toNat (own_ix (own_wi fr)) (own_sw fr u)).2), .second] [(.int ((scan u (nu.toInt - 1 - (own_ix (own_wi fr)).toInt).toNat (own_ix (own_wi fr)) (own_sw fr u)).1 <<< ((6 : Int32) &&& 31)))])) _
              refine XS.lload X17.here hx rfl (hb hby d6_126) rfl ?_
              show Steps p.tables e below (T17.setTop (mkF m 128 #[.val (.ref ob), .val (.int fr), .val (.int (own_wi fr)), .val (.long (own_wd fr w)), .second, .val (.int (scan u (nu.toInt - 1 - (own_ix (own_wi fr)).toInt).toNat (own_ix (own_wi fr)) (own_sw fr u)).1), .val (.long (scan u (nu.toInt - 1 - (own_ix (own_wi fr)).toInt).toNat (own_ix (own_wi fr)) (own_sw fr u)).2), .second] [(.long (scan u (nu.toInt - 1 - (own_ix (own_wi fr)).toInt).toNat (own_ix (own_wi fr)) (own_sw fr u)).2), (.int ((scan u (nu.toInt - 1 - (own_ix (own_wi fr)).toInt).toNat (own_ix (own_wi fr)) (own_sw fr u)).1 <<< ((6 : Int32) &&& 31)))])) _
              refine st22 _ ?_
              show Steps p.tables e below (T22.setTop (mkF m 131 #[.val (.ref ob), .val (.int fr), .val (.int (own_wi fr)), .val (.long (own_wd fr w)), .second, .val (.int (scan u (nu.toInt - 1 - (own_ix (own_wi fr)).toInt).toNat (own_ix (own_wi fr)) (own_sw fr u)).1), .val (.long (scan u (nu.toInt - 1 - (own_ix (own_wi fr)).toInt).toNat (own_ix (own_wi fr)) (own_sw fr u)).2), .second] [(.int (Fntzl (scan u (nu.toInt - 1 - (own_ix (own_wi fr)).toInt).toNat (own_ix (own_wi fr)) (own_sw fr u)).2)), (.int ((scan u (nu.toInt - 1 - (own_ix (own_wi fr)).toInt).toNat (own_ix (own_wi fr)) (own_sw fr u)).1 <<< ((6 : Int32) &&& 31)))])) _
              refine XS.iadd X22.here hx rfl (hb hby d6_131) rfl ?_
              show Steps p.tables e below (T22.setTop (mkF m 132 #[.val (.ref ob), .val (.int fr), .val (.int (own_wi fr)), .val (.long (own_wd fr w)), .second, .val (.int (scan u (nu.toInt - 1 - (own_ix (own_wi fr)).toInt).toNat (own_ix (own_wi fr)) (own_sw fr u)).1), .val (.long (scan u (nu.toInt - 1 - (own_ix (own_wi fr)).toInt).toNat (own_ix (own_wi fr)) (own_sw fr u)).2), .second] [(.int (((scan u (nu.toInt - 1 - (own_ix (own_wi fr)).toInt).toNat (own_ix (own_wi fr)) (own_sw fr u)).1 <<< ((6 : Int32) &&& 31)) + (Fntzl (scan u (nu.toInt - 1 - (own_ix (own_wi fr)).toInt).toNat (own_ix (own_wi fr)) (own_sw fr u)).2)))])) _
              refine XS.istoreN X22.here hx rfl (hb hby d6_132) rfl (l' := #[.val (.ref ob), .val (.int fr), .val (.int (own_fi fr nu u)), .val (.long (own_wd fr w)), .second, .val (.int (scan u (nu.toInt - 1 - (own_ix (own_wi fr)).toInt).toNat (own_ix (own_wi fr)) (own_sw fr u)).1), .val (.long (scan u (nu.toInt - 1 - (own_ix (own_wi fr)).toInt).toNat (own_ix (own_wi fr)) (own_sw fr u)).2), .second]) rfl ?_
              show Steps p.tables e below (T22.setTop (mkF m 133 #[.val (.ref ob), .val (.int fr), .val (.int (own_fi fr nu u)), .val (.long (own_wd fr w)), .second, .val (.int (scan u (nu.toInt - 1 - (own_ix (own_wi fr)).toInt).toNat (own_ix (own_wi fr)) (own_sw fr u)).1), .val (.long (scan u (nu.toInt - 1 - (own_ix (own_wi fr)).toInt).toNat (own_ix (own_wi fr)) (own_sw fr u)).2), .second] [])) _
              refine XS.iloadN X22.here hx rfl (hb hby d6_133) rfl ?_
              show Steps p.tables e below (T22.setTop (mkF m 134 #[.val (.ref ob), .val (.int fr), .val (.int (own_fi fr nu u)), .val (.long (own_wd fr w)), .second, .val (.int (scan u (nu.toInt - 1 - (own_ix (own_wi fr)).toInt).toNat (own_ix (own_wi fr)) (own_sw fr u)).1), .val (.long (scan u (nu.toInt - 1 - (own_ix (own_wi fr)).toInt).toNat (own_ix (own_wi fr)) (own_sw fr u)).2), .second] [(.int (own_fi fr nu u))])) _
              refine XS.bipush X22.here hx rfl (hb hby d6_134) ?_
              show Steps p.tables e below (T22.setTop (mkF m 136 #[.val (.ref ob), .val (.int fr), .val (.int (own_fi fr nu u)), .val (.long (own_wd fr w)), .second, .val (.int (scan u (nu.toInt - 1 - (own_ix (own_wi fr)).toInt).toNat (own_ix (own_wi fr)) (own_sw fr u)).1), .val (.long (scan u (nu.toInt - 1 - (own_ix (own_wi fr)).toInt).toNat (own_ix (own_wi fr)) (own_sw fr u)).2), .second] [(.int (6 : Int32)), (.int (own_fi fr nu u))])) _
              refine XS.ishl X22.here hx rfl (hb hby d6_136) rfl ?_
              show Steps p.tables e below (T22.setTop (mkF m 137 #[.val (.ref ob), .val (.int fr), .val (.int (own_fi fr nu u)), .val (.long (own_wd fr w)), .second, .val (.int (scan u (nu.toInt - 1 - (own_ix (own_wi fr)).toInt).toNat (own_ix (own_wi fr)) (own_sw fr u)).1), .val (.long (scan u (nu.toInt - 1 - (own_ix (own_wi fr)).toInt).toNat (own_ix (own_wi fr)) (own_sw fr u)).2), .second] [(.int ((own_fi fr nu u) <<< ((6 : Int32) &&& 31)))])) _
              refine XS.aloadN X22.here hx rfl (hb hby d6_137) rfl rfl ?_
              show Steps p.tables e below (T22.setTop (mkF m 138 #[.val (.ref ob), .val (.int fr), .val (.int (own_fi fr nu u)), .val (.long (own_wd fr w)), .second, .val (.int (scan u (nu.toInt - 1 - (own_ix (own_wi fr)).toInt).toNat (own_ix (own_wi fr)) (own_sw fr u)).1), .val (.long (scan u (nu.toInt - 1 - (own_ix (own_wi fr)).toInt).toNat (own_ix (own_wi fr)) (own_sw fr u)).2), .second] [(.ref ob), (.int ((own_fi fr nu u) <<< ((6 : Int32) &&& 31)))])) _
              refine st23 _ ?_
              show Steps p.tables e below (T23.setTop (mkF m 141 #[.val (.ref ob), .val (.int fr), .val (.int (own_fi fr nu u)), .val (.long (own_wd fr w)), .second, .val (.int (scan u (nu.toInt - 1 - (own_ix (own_wi fr)).toInt).toNat (own_ix (own_wi fr)) (own_sw fr u)).1), .val (.long (scan u (nu.toInt - 1 - (own_ix (own_wi fr)).toInt).toNat (own_ix (own_wi fr)) (own_sw fr u)).2), .second] [(.ref aw), (.int ((own_fi fr nu u) <<< ((6 : Int32) &&& 31)))])) _
              refine XS.iloadN X23.here hx rfl (hb hby d6_141) rfl ?_
              show Steps p.tables e below (T23.setTop (mkF m 142 #[.val (.ref ob), .val (.int fr), .val (.int (own_fi fr nu u)), .val (.long (own_wd fr w)), .second, .val (.int (scan u (nu.toInt - 1 - (own_ix (own_wi fr)).toInt).toNat (own_ix (own_wi fr)) (own_sw fr u)).1), .val (.long (scan u (nu.toInt - 1 - (own_ix (own_wi fr)).toInt).toNat (own_ix (own_wi fr)) (own_sw fr u)).2), .second] [(.int (own_fi fr nu u)), (.ref aw), (.int ((own_fi fr nu u) <<< ((6 : Int32) &&& 31)))])) _
              refine rdJ X23 hx hZ e23 k1_5 (j := (own_fi fr nu u)) (hfin hc19 hc14) rfl (g := (mkF m 142 #[.val (.ref ob), .val (.int fr), .val (.int (own_fi fr nu u)), .val (.long (own_wd fr w)), .second, .val (.int (scan u (nu.toInt - 1 - (own_ix (own_wi fr)).toInt).toNat (own_ix (own_wi fr)) (own_sw fr u)).1), .val (.long (scan u (nu.toInt - 1 - (own_ix (own_wi fr)).toInt).toNat (own_ix (own_wi fr)) (own_sw fr u)).2), .second] [(.int (own_fi fr nu u)), (.ref aw), (.int ((own_fi fr nu u) <<< ((6 : Int32) &&& 31)))])) rfl rfl (hb hby d6_142) _ ?_
              show Steps p.tables e below (T23.setTop (mkF m 143 #[.val (.ref ob), .val (.int fr), .val (.int (own_fi fr nu u)), .val (.long (own_wd fr w)), .second, .val (.int (scan u (nu.toInt - 1 - (own_ix (own_wi fr)).toInt).toNat (own_ix (own_wi fr)) (own_sw fr u)).1), .val (.long (scan u (nu.toInt - 1 - (own_ix (own_wi fr)).toInt).toNat (own_ix (own_wi fr)) (own_sw fr u)).2), .second] [(.long (w (own_fi fr nu u))), (.int ((own_fi fr nu u) <<< ((6 : Int32) &&& 31)))])) _
              refine st24 _ ?_
              show Steps p.tables e below (T24.setTop (mkF m 146 #[.val (.ref ob), .val (.int fr), .val (.int (own_fi fr nu u)), .val (.long (own_wd fr w)), .second, .val (.int (scan u (nu.toInt - 1 - (own_ix (own_wi fr)).toInt).toNat (own_ix (own_wi fr)) (own_sw fr u)).1), .val (.long (scan u (nu.toInt - 1 - (own_ix (own_wi fr)).toInt).toNat (own_ix (own_wi fr)) (own_sw fr u)).2), .second] [(.int (Fntzl (w (own_fi fr nu u)))), (.int ((own_fi fr nu u) <<< ((6 : Int32) &&& 31)))])) _
              refine XS.iadd X24.here hx rfl (hb hby d6_146) rfl ?_
              exact k
            obtain ⟨fs, hr, hrun, hended, hW, hsame⟩ := X24.leave (v := some (.int (Fnext fr cap sz w nu u))) (fun h => by rw [Bd.returns] at h; cases h) (BodyLoose.notSynchronized Bd)
            refine ⟨_, _, pre25 _ ?_, hrun, hended, _, _, rfl, ?_, ⟨_, rfl⟩, hW, hsame.mono (by decide) (by decide)⟩
            · show Steps p.tables e below (T24.setTop (mkF m 147 #[.val (.ref ob), .val (.int fr), .val (.int (own_fi fr nu u)), .val (.long (own_wd fr w)), .second, .val (.int (scan u (nu.toInt - 1 - (own_ix (own_wi fr)).toInt).toNat (own_ix (own_wi fr)) (own_sw fr u)).1), .val (.long (scan u (nu.toInt - 1 - (own_ix (own_wi fr)).toInt).toNat (own_ix (own_wi fr)) (own_sw fr u)).2), .second] [(.int (((own_fi fr nu u) <<< ((6 : Int32) &&& 31)) + (Fntzl (w (own_fi fr nu u)))))])) _
              have hr2 := hr
              rw [(show (Fnext fr cap sz w nu u) = (((own_fi fr nu u) <<< ((6 : Int32) &&& 31)) + (Fntzl (w (own_fi fr nu u)))) from ((if_pos hc4).trans ((if_neg hc7).trans ((if_pos hc11).trans ((if_pos hc14).trans ((if_neg hc19).trans rfl))))))] at hr2
              exact retI X24 hx Bd.returns (hb hby d6_147) hr2
            · show Q6 Z ob fr aw au cap sz nw w nu u h0 n0 _ T24.heap _
              rw [e24]
              exact ⟨rfl, N24, rfl⟩
        ·
          have pre26 : ∀ t, Steps p.tables e below (T12.setTop (mkF m 71 #[.val (.ref ob), .val (.int fr), .val (.int (own_wi fr)), .val (.long (own_wd fr w)), .second, .val (.int (own_ix (own_wi fr))), .unset, .unset] [(.int (-1 : Int32))])) t → Steps p.tables e below (s₁.setTop (entryFrame m #[(.ref ob), (.int fr)] 8)) t := by
            intro t k
            refine pre13 t ?_
            show Steps p.tables e below (T12.setTop (mkF m 67 #[.val (.ref ob), .val (.int fr), .val (.int (own_wi fr)), .val (.long (own_wd fr w)), .second, .val (.int (own_ix (own_wi fr))), .unset, .unset] [(.int nu), (.int (own_ix (own_wi fr)))])) _
            refine XS.icmpNo X12.here hx rfl (hb hby d6_67) rfl (flt hc14).1 ?_
            show Steps p.tables e below (T12.setTop (mkF m 70 #[.val (.ref ob), .val (.int fr), .val (.int (own_wi fr)), .val (.long (own_wd fr w)), .second, .val (.int (own_ix (own_wi fr))), .unset, .unset] [])) _
            refine XS.iconst X12.here hx rfl (hb hby d6_70) ?_
            exact k
          obtain ⟨fs, hr, hrun, hended, hW, hsame⟩ := X12.leave (v := some (.int (Fnext fr cap sz w nu u))) (fun h => by rw [Bd.returns] at h; cases h) (BodyLoose.notSynchronized Bd)
          refine ⟨_, _, pre26 _ ?_, hrun, hended, _, _, rfl, ?_, ⟨_, rfl⟩, hW, hsame.mono (by decide) (by decide)⟩
          · show Steps p.tables e below (T12.setTop (mkF m 71 #[.val (.ref ob), .val (.int fr), .val (.int (own_wi fr)), .val (.long (own_wd fr w)), .second, .val (.int (own_ix (own_wi fr))), .unset, .unset] [(.int (-1 : Int32))])) _
            have hr2 := hr
            rw [(show (Fnext fr cap sz w nu u) = (-1 : Int32) from ((if_pos hc4).trans ((if_neg hc7).trans ((if_pos hc11).trans ((if_neg hc14).trans rfl)))))] at hr2
            exact retI X12 hx Bd.returns (hb hby d6_71) hr2
          · show Q6 Z ob fr aw au cap sz nw w nu u h0 n0 _ T12.heap _
            rw [e12]
            exact ⟨rfl, N0, rfl⟩
      ·
        obtain ⟨_, _, ⟨T27, L27, k27, n27⟩, -, X27, ⟨Lc27, hQ27, l27, y27, z27⟩, st27⟩ := Jvm.LawKit.callS X9 hx (y := (⟨"java/lang/Long", "numberOfTrailingZeros", "(J)I"⟩ : MethodName)) hown (mvT hZ (hw _ (List.mem_of_getElem? (i := 45) rfl))) (mvT hZ (hw _ (List.mem_of_getElem? (i := 46) rfl))) (mvT hZ (hw _ (List.mem_of_getElem? (i := 47) rfl))) (mvT hZ (hw _ (List.mem_of_getElem? (i := 48) rfl))) (by decide) (backOf (W := 1) (rm8 l Z a0 hw [] (own_wd fr w) h0 n0 Z0) hZ (hw _ (List.mem_of_getElem? (i := 48) rfl)) (hw _ (List.mem_of_getElem? (i := 47) rfl)) (by decide) (by decide)) (g := (mkF m 46 #[.val (.ref ob), .val (.int fr), .val (.int (own_ix fr)), .val (.long (own_wd fr w)), .second, .unset, .unset, .unset] [(.long (own_wd fr w)), (.int ((own_ix fr) <<< ((6 : Int32) &&& 31)))])) rfl (by rw [hml]; rfl) (argsL := [(.long (own_wd fr w))]) (rest := [(.int ((own_ix fr) <<< ((6 : Int32) &&& 31)))]) (lenOf pd_5 rfl) rfl (by show 2 * 0 + _ ≤ _; exact Nat.le_of_eq rfl) (hb hby d6_46) (fun _ _ => ⟨rfl, e9, (by decide : 0 + 0 ≤ _), (by decide : 0 + 0 ≤ _)⟩)
        dsimp only [Pt.U, Pt.locs, Pt.cells, Pt.slots] at X27 l27 y27 z27 st27 hQ27
        subst y27 z27
        obtain ⟨rfl, N27q, e27⟩ := hQ27
        have N27 : Fr n0 L27 := by rw [l27]; exact Fr.app N0 N27q
        have pre28 : ∀ t, Steps p.tables e below (T27.setTop (mkF m 50 #[.val (.ref ob), .val (.int fr), .val (.int (own_ix fr)), .val (.long (own_wd fr w)), .second, .unset, .unset, .unset] [(.int (((own_ix fr) <<< ((6 : Int32) &&& 31)) + (Fntzl (own_wd fr w))))])) t → Steps p.tables e below (s₁.setTop (entryFrame m #[(.ref ob), (.int fr)] 8)) t := by
          intro t k
          refine pre10 t ?_
          show Steps p.tables e below (T9.setTop (mkF m 38 #[.val (.ref ob), .val (.int fr), .val (.int (own_ix fr)), .val (.long (own_wd fr w)), .second, .unset, .unset, .unset] [(.int (lcmpW (own_wd fr w) (0 : Int64)))])) _
          refine XS.ifNo X9.here hx rfl (hb hby d6_38) rfl ((if0 _ _).trans (feq (fun q => hc11 ((lw_eq _ _).mp q))).1) ?_
          show Steps p.tables e below (T9.setTop (mkF m 41 #[.val (.ref ob), .val (.int fr), .val (.int (own_ix fr)), .val (.long (own_wd fr w)), .second, .unset, .unset, .unset] [])) _
          refine XS.iloadN X9.here hx rfl (hb hby d6_41) rfl ?_
          show Steps p.tables e below (T9.setTop (mkF m 42 #[.val (.ref ob), .val (.int fr), .val (.int (own_ix fr)), .val (.long (own_wd fr w)), .second, .unset, .unset, .unset] [(.int (own_ix fr))])) _
          refine XS.bipush X9.here hx rfl (hb hby d6_42) ?_
          show Steps p.tables e below (T9.setTop (mkF m 44 #[.val (.ref ob), .val (.int fr), .val (.int (own_ix fr)), .val (.long (own_wd fr w)), .second, .unset, .unset, .unset] [(.int (6 : Int32)), (.int (own_ix fr))])) _
          refine XS.ishl X9.here hx rfl (hb hby d6_44) rfl ?_
          show Steps p.tables e below (T9.setTop (mkF m 45 #[.val (.ref ob), .val (.int fr), .val (.int (own_ix fr)), .val (.long (own_wd fr w)), .second, .unset, .unset, .unset] [(.int ((own_ix fr) <<< ((6 : Int32) &&& 31)))])) _
          refine XS.lloadN X9.here hx rfl (hb hby d6_45) rfl ?_
          show Steps p.tables e below (T9.setTop (mkF m 46 #[.val (.ref ob), .val (.int fr), .val (.int (own_ix fr)), .val (.long (own_wd fr w)), .second, .unset, .unset, .unset] [(.long (own_wd fr w)), (.int ((own_ix fr) <<< ((6 : Int32) &&& 31)))])) _
          refine st27 _ ?_
          show Steps p.tables e below (T27.setTop (mkF m 49 #[.val (.ref ob), .val (.int fr), .val (.int (own_ix fr)), .val (.long (own_wd fr w)), .second, .unset, .unset, .unset] [(.int (Fntzl (own_wd fr w))), (.int ((own_ix fr) <<< ((6 : Int32) &&& 31)))])) _
          refine XS.iadd X27.here hx rfl (hb hby d6_49) rfl ?_
          exact k
        obtain ⟨fs, hr, hrun, hended, hW, hsame⟩ := X27.leave (v := some (.int (Fnext fr cap sz w nu u))) (fun h => by rw [Bd.returns] at h; cases h) (BodyLoose.notSynchronized Bd)
        refine ⟨_, _, pre28 _ ?_, hrun, hended, _, _, rfl, ?_, ⟨_, rfl⟩, hW, hsame.mono (by decide) (by decide)⟩
        · show Steps p.tables e below (T27.setTop (mkF m 50 #[.val (.ref ob), .val (.int fr), .val (.int (own_ix fr)), .val (.long (own_wd fr w)), .second, .unset, .unset, .unset] [(.int (((own_ix fr) <<< ((6 : Int32) &&& 31)) + (Fntzl (own_wd fr w))))])) _
          have hr2 := hr
          rw [(show (Fnext fr cap sz w nu u) = (((own_ix fr) <<< ((6 : Int32) &&& 31)) + (Fntzl (own_wd fr w))) from ((if_pos hc4).trans ((if_neg hc7).trans ((if_neg hc11).trans rfl))))] at hr2
          exact retI X27 hx Bd.returns (hb hby d6_50) hr2
        · show Q6 Z ob fr aw au cap sz nw w nu u h0 n0 _ T27.heap _
          rw [e27]
          exact ⟨rfl, N27, rfl⟩
  ·
    have pre29 : ∀ t, Steps p.tables e below (T2.setTop (mkF m 16 #[.val (.ref ob), .val (.int fr), .unset, .unset, .unset, .unset, .unset, .unset] [(.int (-1 : Int32))])) t → Steps p.tables e below (s₁.setTop (entryFrame m #[(.ref ob), (.int fr)] 8)) t := by
      intro t k
      refine pre3 t ?_
      show Steps p.tables e below (T2.setTop (mkF m 5 #[.val (.ref ob), .val (.int fr), .unset, .unset, .unset, .unset, .unset, .unset] [(.int cap), (.int fr)])) _
      refine XS.icmpYes X2.here hx rfl (pc0 := 5) (pc' := 15) rfl (hb hby d6_5) rfl (flt hc4).2.1 (by decide) (by decide) ?_
      show Steps p.tables e below (T2.setTop (mkF m 15 #[.val (.ref ob), .val (.int fr), .unset, .unset, .unset, .unset, .unset, .unset] [])) _
      refine XS.iconst X2.here hx rfl (hb hby d6_15) ?_
      exact k
    obtain ⟨fs, hr, hrun, hended, hW, hsame⟩ := X2.leave (v := some (.int (Fnext fr cap sz w nu u))) (fun h => by rw [Bd.returns] at h; cases h) (BodyLoose.notSynchronized Bd)
    refine ⟨_, _, pre29 _ ?_, hrun, hended, _, _, rfl, ?_, ⟨_, rfl⟩, hW, hsame.mono (by decide) (by decide)⟩
    · show Steps p.tables e below (T2.setTop (mkF m 16 #[.val (.ref ob), .val (.int fr), .unset, .unset, .unset, .unset, .unset, .unset] [(.int (-1 : Int32))])) _
      have hr2 := hr
      rw [(show (Fnext fr cap sz w nu u) = (-1 : Int32) from ((if_neg hc4).trans rfl))] at hr2
      exact retI X2 hx Bd.returns (hb hby d6_16) hr2
    · show Q6 Z ob fr aw au cap sz nw w nu u h0 n0 _ T2.heap _
      rw [e2]
      exact ⟨rfl, N0, rfl⟩
def tb (x : Int64) (k : Nat) : Bool := x.toBitVec.getLsbD k
def md (i : Int32) : Nat := i.toBitVec.toNat % 64
theorem tb_or (x y : Int64) (k : Nat) : tb (x ||| y) k = (tb x k || tb y k) := by
  unfold tb; rw [Int64.toBitVec_or, BitVec.getLsbD_or]
theorem tb_and (x y : Int64) (k : Nat) : tb (x &&& y) k = (tb x k && tb y k) := by
  unfold tb; rw [Int64.toBitVec_and, BitVec.getLsbD_and]
theorem tb_not (x : Int64) (k : Nat) (hk : k < 64) : tb (x ^^^ -1) k = !tb x k := by
  have e : (-1 : Int64).toBitVec = BitVec.allOnes 64 := by decide
  unfold tb; rw [Int64.toBitVec_xor, BitVec.getLsbD_xor, e, BitVec.getLsbD_allOnes, decide_eq_true hk, Bool.xor_true]
theorem tb_zero (k : Nat) : tb 0 k = false := by
  have e : (0 : Int64).toBitVec = 0#64 := by decide
  unfold tb; rw [e, BitVec.getLsbD_zero]
theorem tb_ext {x y : Int64} (h : ∀ k, k < 64 → tb x k = tb y k) : x = y := by
  rw [← Int64.toBitVec_inj]
  exact BitVec.eq_of_getLsbD_eq fun k hk => h k hk
theorem md_lt (i : Int32) : md i < 64 := Nat.mod_lt _ (by decide)
theorem tb_bit (i : Int32) (k : Nat) (hk : k < 64) : tb (own_bit i) k = decide (k = md i) := by
  obtain ⟨h1, h2⟩ := sm64 i (md i) rfl
  have e : (own_bit i).toBitVec = 1#64 <<< ((BitVec.ofNat 64 (md i)).smod 64).toNat := by
    show (1#64 <<< ((i &&& 0x3f).toInt64.toBitVec.smod 64)) = _
    rw [h1]; rfl
  unfold tb
  rw [e, smod64 _ h2, BitVec.getLsbD_shiftLeft, BitVec.getLsbD_one]
  by_cases q : k = md i
  · subst q; simp [hk]
  · by_cases r : k < md i
    · simp [r, q]
    · have : ¬ k - md i = 0 := by omega
      simp [q, this]
theorem and_bit (x : Int64) (i : Int32) : (x &&& own_bit i = 0) ↔ tb x (md i) = false := by
  constructor
  · intro h
    have q := congrArg (fun z => tb z (md i)) h
    simp only [tb_and, tb_zero, tb_bit i (md i) (md_lt i), decide_true, Bool.and_true] at q
    exact q
  · intro h
    refine tb_ext fun k hk => ?_
    rw [tb_and, tb_zero, tb_bit i k hk]
    by_cases q : k = md i
    · rw [q, h]; rfl
    · rw [decide_eq_false q, Bool.and_false]
theorem md_int (i : Int32) (h : 0 ≤ i.toInt) : (md i : Int) = i.toInt % 64 := by
  have e : i.toInt = (i.toBitVec.toNat : Int) := by
    have := nat_of (own_capn i h)
    have h2 : i.toInt = i.toBitVec.toInt := rfl
    have h3 := BitVec.toInt_eq_toNat_cond i.toBitVec
    have h4 := i.toBitVec.isLt
    rw [h2] at h ⊢
    split at h3 <;> omega
  unfold md
  omega
theorem own_inj {i j : Int32} (hi : 0 ≤ i.toInt) (hj : 0 ≤ j.toInt) (h1 : own_ix i = own_ix j) (h2 : md i = md j) : i = j := by
  have a := own_shr6 i
  have b := own_shr6 j
  have c := md_int i hi
  have d := md_int j hj
  have r1 := rng32 i
  have r2 := rng32 j
  rw [h1] at a
  rw [h2] at c
  rw [← Int32.toInt_inj]
  omega
def mem (w : Int32 → Int64) (i : Int32) : Bool := tb (w (own_ix i)) (md i)
theorem own_con (i : Int32) (w : Int32 → Int64) : Fcon i w = mem w i := by
  unfold Fcon mem
  by_cases h : w (own_ix i) &&& own_bit i = 0
  · rw [if_pos h, (and_bit _ _).mp h]
  · rw [if_neg h]
    cases q : tb (w (own_ix i)) (md i)
    · exact absurd ((and_bit _ _).mpr q) h
    · rfl
theorem mem_add {i j : Int32} (hi : 0 ≤ i.toInt) (hj : 0 ≤ j.toInt) (w : Int32 → Int64) : mem (Fadd_w i w) j = (mem w j || decide (j = i)) := by
  unfold Fadd_w mem
  by_cases h : w (own_ix i) &&& own_bit i = 0
  · rw [if_pos h]
    by_cases q : own_ix j = own_ix i
    · rw [q, upA_hit, tb_or, tb_bit i _ (md_lt j)]
      congr 1
      by_cases r : md j = md i
      · rw [decide_eq_true r, decide_eq_true (own_inj hj hi q r)]
      · rw [decide_eq_false r, decide_eq_false fun e => r (by rw [e])]
    · rw [upA_miss q, decide_eq_false fun e => q (by rw [e]), Bool.or_false]
  · rw [if_neg h]
    by_cases q : j = i
    · rw [q, decide_eq_true rfl, Bool.or_true]
      cases r : tb (w (own_ix i)) (md i)
      · exact absurd ((and_bit _ _).mpr r) h
      · rfl
    · rw [decide_eq_false q, Bool.or_false]
theorem mem_rem {i j : Int32} (hi : 0 ≤ i.toInt) (hj : 0 ≤ j.toInt) (w : Int32 → Int64) : mem (Frem_w i w) j = (mem w j && !decide (j = i)) := by
  unfold Frem_w mem
  by_cases h : w (own_ix i) &&& own_bit i = 0
  · rw [if_pos h]
    by_cases q : j = i
    · rw [q, (and_bit _ _).mp h, Bool.false_and]
    · rw [decide_eq_false q, Bool.not_false, Bool.and_true]
  · rw [if_neg h]
    by_cases q : own_ix j = own_ix i
    · rw [q, upA_hit, tb_and, tb_not _ _ (md_lt j), tb_bit i _ (md_lt j)]
      congr 2
      by_cases r : md j = md i
      · rw [decide_eq_true r, decide_eq_true (own_inj hj hi q r)]
      · rw [decide_eq_false r, decide_eq_false fun e => r (by rw [e])]
    · rw [upA_miss q, decide_eq_false fun e => q (by rw [e]), Bool.not_false, Bool.and_true]
def own_Gf (xm : Int32) : Int32 := (if (0 : Int32) < xm then (if (65536 : Int32) < xm then (if (256 : Int32) < ((xm.toUInt32 >>> ((16 : Int32) &&& 31).toUInt32).toInt32) then (if (16 : Int32) < ((((xm.toUInt32 >>> ((16 : Int32) &&& 31).toUInt32).toInt32).toUInt32 >>> ((8 : Int32) &&& 31).toUInt32).toInt32) then (if (4 : Int32) < ((((((xm.toUInt32 >>> ((16 : Int32) &&& 31).toUInt32).toInt32).toUInt32 >>> ((8 : Int32) &&& 31).toUInt32).toInt32).toUInt32 >>> ((4 : Int32) &&& 31).toUInt32).toInt32) then ((31 : Int32) + ((((((((((xm.toUInt32 >>> ((16 : Int32) &&& 31).toUInt32).toInt32).toUInt32 >>> ((8 : Int32) &&& 31).toUInt32).toInt32).toUInt32 >>> ((4 : Int32) &&& 31).toUInt32).toInt32).toUInt32 >>> ((2 : Int32) &&& 31).toUInt32).toInt32).toUInt32 >>> ((1 : Int32) &&& 31).toUInt32).toInt32)) else ((29 : Int32) + ((((((((xm.toUInt32 >>> ((16 : Int32) &&& 31).toUInt32).toInt32).toUInt32 >>> ((8 : Int32) &&& 31).toUInt32).toInt32).toUInt32 >>> ((4 : Int32) &&& 31).toUInt32).toInt32).toUInt32 >>> ((1 : Int32) &&& 31).toUInt32).toInt32))) else (if (4 : Int32) < ((((xm.toUInt32 >>> ((16 : Int32) &&& 31).toUInt32).toInt32).toUInt32 >>> ((8 : Int32) &&& 31).toUInt32).toInt32) then ((27 : Int32) + ((((((((xm.toUInt32 >>> ((16 : Int32) &&& 31).toUInt32).toInt32).toUInt32 >>> ((8 : Int32) &&& 31).toUInt32).toInt32).toUInt32 >>> ((2 : Int32) &&& 31).toUInt32).toInt32).toUInt32 >>> ((1 : Int32) &&& 31).toUInt32).toInt32)) else ((25 : Int32) + ((((((xm.toUInt32 >>> ((16 : Int32) &&& 31).toUInt32).toInt32).toUInt32 >>> ((8 : Int32) &&& 31).toUInt32).toInt32).toUInt32 >>> ((1 : Int32) &&& 31).toUInt32).toInt32)))) else (if (16 : Int32) < ((xm.toUInt32 >>> ((16 : Int32) &&& 31).toUInt32).toInt32) then (if (4 : Int32) < ((((xm.toUInt32 >>> ((16 : Int32) &&& 31).toUInt32).toInt32).toUInt32 >>> ((4 : Int32) &&& 31).toUInt32).toInt32) then ((23 : Int32) + ((((((((xm.toUInt32 >>> ((16 : Int32) &&& 31).toUInt32).toInt32).toUInt32 >>> ((4 : Int32) &&& 31).toUInt32).toInt32).toUInt32 >>> ((2 : Int32) &&& 31).toUInt32).toInt32).toUInt32 >>> ((1 : Int32) &&& 31).toUInt32).toInt32)) else ((21 : Int32) + ((((((xm.toUInt32 >>> ((16 : Int32) &&& 31).toUInt32).toInt32).toUInt32 >>> ((4 : Int32) &&& 31).toUInt32).toInt32).toUInt32 >>> ((1 : Int32) &&& 31).toUInt32).toInt32))) else (if (4 : Int32) < ((xm.toUInt32 >>> ((16 : Int32) &&& 31).toUInt32).toInt32) then ((19 : Int32) + ((((((xm.toUInt32 >>> ((16 : Int32) &&& 31).toUInt32).toInt32).toUInt32 >>> ((2 : Int32) &&& 31).toUInt32).toInt32).toUInt32 >>> ((1 : Int32) &&& 31).toUInt32).toInt32)) else ((17 : Int32) + ((((xm.toUInt32 >>> ((16 : Int32) &&& 31).toUInt32).toInt32).toUInt32 >>> ((1 : Int32) &&& 31).toUInt32).toInt32))))) else (if (256 : Int32) < xm then (if (16 : Int32) < ((xm.toUInt32 >>> ((8 : Int32) &&& 31).toUInt32).toInt32) then (if (4 : Int32) < ((((xm.toUInt32 >>> ((8 : Int32) &&& 31).toUInt32).toInt32).toUInt32 >>> ((4 : Int32) &&& 31).toUInt32).toInt32) then ((15 : Int32) + ((((((((xm.toUInt32 >>> ((8 : Int32) &&& 31).toUInt32).toInt32).toUInt32 >>> ((4 : Int32) &&& 31).toUInt32).toInt32).toUInt32 >>> ((2 : Int32) &&& 31).toUInt32).toInt32).toUInt32 >>> ((1 : Int32) &&& 31).toUInt32).toInt32)) else ((13 : Int32) + ((((((xm.toUInt32 >>> ((8 : Int32) &&& 31).toUInt32).toInt32).toUInt32 >>> ((4 : Int32) &&& 31).toUInt32).toInt32).toUInt32 >>> ((1 : Int32) &&& 31).toUInt32).toInt32))) else (if (4 : Int32) < ((xm.toUInt32 >>> ((8 : Int32) &&& 31).toUInt32).toInt32) then ((11 : Int32) + ((((((xm.toUInt32 >>> ((8 : Int32) &&& 31).toUInt32).toInt32).toUInt32 >>> ((2 : Int32) &&& 31).toUInt32).toInt32).toUInt32 >>> ((1 : Int32) &&& 31).toUInt32).toInt32)) else ((9 : Int32) + ((((xm.toUInt32 >>> ((8 : Int32) &&& 31).toUInt32).toInt32).toUInt32 >>> ((1 : Int32) &&& 31).toUInt32).toInt32)))) else (if (16 : Int32) < xm then (if (4 : Int32) < ((xm.toUInt32 >>> ((4 : Int32) &&& 31).toUInt32).toInt32) then ((7 : Int32) + ((((((xm.toUInt32 >>> ((4 : Int32) &&& 31).toUInt32).toInt32).toUInt32 >>> ((2 : Int32) &&& 31).toUInt32).toInt32).toUInt32 >>> ((1 : Int32) &&& 31).toUInt32).toInt32)) else ((5 : Int32) + ((((xm.toUInt32 >>> ((4 : Int32) &&& 31).toUInt32).toInt32).toUInt32 >>> ((1 : Int32) &&& 31).toUInt32).toInt32))) else (if (4 : Int32) < xm then ((3 : Int32) + ((((xm.toUInt32 >>> ((2 : Int32) &&& 31).toUInt32).toInt32).toUInt32 >>> ((1 : Int32) &&& 31).toUInt32).toInt32)) else ((1 : Int32) + ((xm.toUInt32 >>> ((1 : Int32) &&& 31).toUInt32).toInt32)))))) else (xm &&& (32 : Int32)))
theorem own_GF (xi : Int32) : Fntz xi = own_Gf (Fmask xi) := rfl
theorem own_low : ∀ N : Nat, 0 < N → ∃ n b, N = 2 ^ n * (2 * b + 1) := by
  intro N
  induction N using Nat.strongRecOn with
  | _ N ih =>
    intro h
    by_cases q : N % 2 = 1
    · exact ⟨0, N / 2, by omega⟩
    · obtain ⟨n, b, e⟩ := ih (N / 2) (by omega) (by omega)
      refine ⟨n + 1, b, ?_⟩
      have e2 : 2 ^ (n + 1) * (2 * b + 1) = 2 * (2 ^ n * (2 * b + 1)) := by rw [Nat.pow_succ, Nat.mul_comm (2 ^ n) 2, Nat.mul_assoc]
      rw [e2, ← e]; omega
theorem own_bits (N n b k : Nat) (h : N = 2 ^ n * (2 * b + 1)) : N.testBit k = (if k < n then false else (2 * b + 1).testBit (k - n)) ∧ (N - 1).testBit k = (if k < n then true else (2 * b).testBit (k - n)) := by
  have hp : 0 < 2 ^ n := Nat.pow_pos (by decide)
  have e1 : N = 2 ^ n * (2 * b + 1) + 0 := by omega
  have e2 : N - 1 = 2 ^ n * (2 * b) + (2 ^ n - 1) := by rw [h, Nat.mul_add]; omega
  constructor
  · rw [e1, Nat.testBit_two_pow_mul_add _ hp]
    split
    · rw [Nat.zero_testBit]
    · rfl
  · rw [e2, Nat.testBit_two_pow_mul_add _ (by omega)]
    split
    · rename_i q; rw [Nat.testBit_two_pow_sub_one, decide_eq_true q]
    · rfl
theorem own_odd (b m : Nat) : (!(2 * b + 1).testBit m && (2 * b).testBit m) = false := by
  cases m with
  | zero => simp
  | succ m =>
    have e1 : (2 * b + 1) / 2 = b := by omega
    have e2 : (2 * b) / 2 = b := by omega
    rw [Nat.testBit_succ, Nat.testBit_succ, e1, e2]
    cases b.testBit m <;> rfl
theorem own_maskv (xi : Int32) (n b : Nat) (hn : n < 32) (h : xi.toBitVec.toNat = 2 ^ n * (2 * b + 1)) : Fmask xi = Int32.ofInt ((2 ^ n - 1 : Nat) : Int) := by
  rw [← Int32.toBitVec_inj]
  have e0 : (Fmask xi).toBitVec = ~~~xi.toBitVec &&& (xi.toBitVec - 1#32) := by
    have a : (-1 : Int32).toBitVec = BitVec.allOnes 32 := by decide
    show (xi.toBitVec ^^^ (-1 : Int32).toBitVec) &&& (xi.toBitVec - 1#32) = _
    rw [a, BitVec.xor_allOnes]
  have e1 : (Int32.ofInt ((2 ^ n - 1 : Nat) : Int)).toBitVec = BitVec.ofNat 32 (2 ^ n - 1) := by
    show BitVec.ofInt 32 ((2 ^ n - 1 : Nat) : Int) = _
    rw [BitVec.ofInt_natCast]
  have hp : 0 < 2 ^ n := Nat.pow_pos (by decide)
  have hpos : 0 < xi.toBitVec.toNat := by rw [h]; exact Nat.mul_pos hp (by omega)
  have hlt := xi.toBitVec.isLt
  have e2 : (xi.toBitVec - 1#32).toNat = xi.toBitVec.toNat - 1 := by
    rw [BitVec.toNat_sub]
    have : (1#32).toNat = 1 := rfl
    rw [this]
    omega
  rw [e0, e1]
  refine BitVec.eq_of_getLsbD_eq fun k hk => ?_
  rw [BitVec.getLsbD_and, BitVec.getLsbD_not, BitVec.getLsbD_ofNat, decide_eq_true hk, Bool.true_and, Bool.true_and, Nat.testBit_two_pow_sub_one]
  obtain ⟨b1, b2⟩ := own_bits xi.toBitVec.toNat n b k h
  have f1 : xi.toBitVec.getLsbD k = xi.toBitVec.toNat.testBit k := rfl
  have f2 : (xi.toBitVec - 1#32).getLsbD k = (xi.toBitVec - 1#32).toNat.testBit k := rfl
  rw [f1, f2, e2, b1, b2]
  by_cases q : k < n
  · rw [if_pos q, if_pos q, decide_eq_true q]; rfl
  · rw [if_neg q, if_neg q, decide_eq_false q]; exact own_odd b _
theorem own_Gt : ∀ n : Fin 32, own_Gf (Int32.ofInt ((2 ^ n.1 - 1 : Nat) : Int)) = Int32.ofInt (n.1 : Int) := by decide +kernel
theorem ntz32 (xi : Int32) (h : xi ≠ 0) : ∃ n : Nat, n < 32 ∧ (Fntz xi).toInt = n ∧ xi.toBitVec.getLsbD n = true ∧ ∀ k, k < n → xi.toBitVec.getLsbD k = false := by
  have hpos : 0 < xi.toBitVec.toNat := by
    refine Nat.pos_of_ne_zero fun q => h ?_
    rw [← Int32.toBitVec_inj]
    exact BitVec.eq_of_toNat_eq q
  obtain ⟨n, b, e⟩ := own_low _ hpos
  have hn : n < 32 := by
    refine Nat.lt_of_not_le fun q => ?_
    have h1 := xi.toBitVec.isLt
    have h2 : 2 ^ 32 ≤ 2 ^ n := Nat.pow_le_pow_right (by decide) q
    have h3 : 2 ^ n * 1 ≤ 2 ^ n * (2 * b + 1) := Nat.mul_le_mul_left _ (by omega)
    omega
  have hv : Fntz xi = Int32.ofInt (n : Int) := by
    rw [own_GF, own_maskv xi n b hn e]; exact own_Gt ⟨n, hn⟩
  have hB := own_bits xi.toBitVec.toNat n b
  refine ⟨n, hn, ?_, ?_, fun k hk => ?_⟩
  · rw [hv, Int32.toInt_ofInt]
    have q : (Int32.size : Int) = 4294967296 := rfl
    exact Int.bmod_eq_of_le (by omega) (by omega)
  · show xi.toBitVec.toNat.testBit n = true
    rw [(hB n e).1, if_neg (Nat.lt_irrefl n), Nat.sub_self]; simp
  · show xi.toBitVec.toNat.testBit k = false
    rw [(hB k e).1, if_pos hk]
theorem own_lo (xl : Int64) (k : Nat) (hk : k < 32) : xl.toInt32.toBitVec.getLsbD k = tb xl k := by
  show (xl.toBitVec.signExtend 32).getLsbD k = _
  rw [BitVec.signExtend_eq_setWidth_of_le _ (by decide), BitVec.getLsbD_setWidth, decide_eq_true hk, Bool.true_and]; rfl
def own_hi (xl : Int64) : Int32 := (((xl.toUInt64 >>> ((32 : Int32) &&& 0x3f).toInt64.toUInt64).toInt64).toInt32)
theorem own_hib (xl : Int64) (k : Nat) (hk : k < 32) : (own_hi xl).toBitVec.getLsbD k = tb xl (k + 32) := by
  rw [own_hi, own_lo _ k hk]
  unfold tb
  show (xl.toBitVec >>> (((32 : Int32) &&& 0x3f).toInt64.toUInt64.toBitVec % 64)).getLsbD k = _
  have e : (((32 : Int32) &&& 0x3f).toInt64.toUInt64.toBitVec % 64) = 32#64 := by decide
  rw [e, BitVec.ushiftRight_eq', BitVec.getLsbD_ushiftRight]
  congr 1
  show 32 + k = k + 32
  omega
theorem ntz64 (xl : Int64) (h : xl ≠ 0) : ∃ n : Nat, n < 64 ∧ (Fntzl xl).toInt = n ∧ tb xl n = true ∧ ∀ k, k < n → tb xl k = false := by
  unfold Fntzl
  by_cases q : xl.toInt32 = 0
  · rw [if_pos q]
    have lo0 : ∀ k, k < 32 → tb xl k = false := fun k hk => by
      rw [← own_lo xl k hk, q]; exact BitVec.getLsbD_zero
    have hh : own_hi xl ≠ 0 := fun w => h (tb_ext fun k hk => by
      rw [tb_zero]
      by_cases r : k < 32
      · exact lo0 k r
      · have := own_hib xl (k - 32) (by omega)
        rw [w, Nat.sub_add_cancel (by omega)] at this
        rw [← this]; exact BitVec.getLsbD_zero)
    obtain ⟨n, h1, h2, h3, h4⟩ := ntz32 (own_hi xl) hh
    refine ⟨n + 32, by omega, ?_, ?_, fun k hk => ?_⟩
    · have a := c_iadd 32 (Fntz (own_hi xl))
      have b := rng32 (32 + Fntz (own_hi xl))
      have l : (32 : Int32).toInt = 32 := by decide
      show (32 + Fntz (own_hi xl)).toInt = _
      omega
    · rw [← own_hib xl n h1]; exact h3
    · by_cases r : k < 32
      · exact lo0 k r
      · have := own_hib xl (k - 32) (by omega)
        rw [Nat.sub_add_cancel (by omega)] at this
        rw [← this]; exact h4 _ (by omega)
  · rw [if_neg q]
    obtain ⟨n, h1, h2, h3, h4⟩ := ntz32 xl.toInt32 q
    exact ⟨n, by omega, h2, by rw [← own_lo xl n h1]; exact h3, fun k hk => by rw [← own_lo xl k (by omega)]; exact h4 k hk⟩
theorem tb_msk (i : Int32) (k : Nat) (hk : k < 64) : tb ((-1 : Int64) <<< (i &&& 0x3f).toInt64) k = decide (md i ≤ k) := by
  obtain ⟨h1, h2⟩ := sm64 i (md i) rfl
  have a : (-1 : Int64).toBitVec = BitVec.allOnes 64 := by decide
  have e : ((-1 : Int64) <<< (i &&& 0x3f).toInt64).toBitVec = BitVec.allOnes 64 <<< ((BitVec.ofNat 64 (md i)).smod 64).toNat := by
    rw [← a]
    show ((-1 : Int64).toBitVec <<< ((i &&& 0x3f).toInt64.toBitVec.smod 64)) = _
    rw [h1]; rfl
  unfold tb
  rw [e, smod64 _ h2, BitVec.getLsbD_shiftLeft, BitVec.getLsbD_allOnes]
  by_cases q : k < md i
  · have : ¬ md i ≤ k := by omega
    simp [q, this]
  · have h3 : md i ≤ k := by omega
    have h4 : k - md i < 64 := by omega
    simp [q, h3, h4, hk]
def Inv (cap : Int32) (w u : Int32 → Int64) : Prop :=
  (∀ k : Int32, 0 ≤ k.toInt → k.toInt < (own_nw cap).toInt → (mem u k = true ↔ w k ≠ 0)) ∧
  (∀ j : Int32, 0 ≤ j.toInt → (own_ix j).toInt < (own_nw cap).toInt → mem w j = true → j.toInt < cap.toInt) ∧
  (∀ k : Int32, 0 ≤ k.toInt → (own_ix k).toInt < (own_nw (own_nw cap)).toInt → mem u k = true → k.toInt < (own_nw cap).toInt)
theorem own_mk (s b : Nat) (hs : s < 1000000) (hb : b < 64) : ∃ k : Int32, k.toInt = 64 * s + b ∧ (own_ix k).toInt = s ∧ md k = b := by
  have e : (Int32.ofInt ((64 * s + b : Nat) : Int)).toInt = 64 * s + b := by
    rw [Int32.toInt_ofInt]
    have q : (Int32.size : Int) = 4294967296 := rfl
    rw [Int.bmod_eq_of_le (by omega) (by omega)]; omega
  refine ⟨Int32.ofInt ((64 * s + b : Nat) : Int), e, ?_, ?_⟩
  · have a := own_shr6 (Int32.ofInt ((64 * s + b : Nat) : Int))
    omega
  · have c := md_int (Int32.ofInt ((64 * s + b : Nat) : Int)) (by omega)
    omega
theorem own_split (j : Int32) (h : 0 ≤ j.toInt) : j.toInt = 64 * (own_ix j).toInt + md j := by
  have a := own_shr6 j
  have b := md_int j h
  have r := rng32 j
  omega
theorem w_ne (x : Int64) : x ≠ 0 ↔ ∃ b, b < 64 ∧ tb x b = true := by
  constructor
  · intro h
    obtain ⟨n, h1, -, h3, -⟩ := ntz64 x h
    exact ⟨n, h1, h3⟩
  · rintro ⟨b, -, hb⟩ q
    rw [q, tb_zero] at hb; cases hb
theorem own_ixI (k : Int32) (s : Int32) (h : (own_ix k).toInt = s.toInt) : own_ix k = s := Int32.toInt_inj.mp h
theorem scan_spec (u : Int32 → Int64) (k : Nat) : ∀ (si : Int32) (sw : Int64), 0 ≤ si.toInt → si.toInt + k ≤ 1000000 →
    ((scan u k si sw).2 ≠ 0 → ((scan u k si sw).1 = si ∧ (scan u k si sw).2 = sw) ∨ (sw = 0 ∧ si.toInt < (scan u k si sw).1.toInt ∧ (scan u k si sw).1.toInt ≤ si.toInt + k ∧ (scan u k si sw).2 = u (scan u k si sw).1 ∧ ∀ t : Int32, si.toInt < t.toInt → t.toInt < (scan u k si sw).1.toInt → u t = 0)) ∧
    ((scan u k si sw).2 = 0 → (scan u k si sw).1.toInt = si.toInt + k ∧ sw = 0 ∧ ∀ t : Int32, si.toInt < t.toInt → t.toInt ≤ si.toInt + k → u t = 0) := by
  induction k with
  | zero =>
    intro si sw h0 h1
    refine ⟨fun _ => Or.inl ⟨rfl, rfl⟩, fun q => ⟨by show si.toInt = _; omega, q, fun t a b => by omega⟩⟩
  | succ k ih =>
    intro si sw h0 h1
    by_cases hz : sw = 0
    · have hs : scan u (k + 1) si sw = scan u k (nx_i si) (nx_w si u) := if_pos hz
      have l1 : (1 : Int32).toInt = 1 := by decide
      have a := c_iadd si 1
      have b := rng32 (si + 1)
      have e1 : (nx_i si).toInt = si.toInt + 1 := by show (si + 1).toInt = _; omega
      obtain ⟨p, q⟩ := ih (nx_i si) (nx_w si u) (by omega) (by omega)
      rw [hs]
      constructor
      · intro hne
        refine Or.inr ⟨hz, ?_⟩
        rcases p hne with ⟨c1, c2⟩ | ⟨c1, c2, c3, c4, c5⟩
        · refine ⟨by rw [c1]; omega, by rw [c1]; omega, by rw [c2, c1]; rfl, fun t t1 t2 => ?_⟩
          rw [c1] at t2; omega
        · refine ⟨by omega, by omega, c4, fun t t1 t2 => ?_⟩
          by_cases w : t.toInt = si.toInt + 1
          · have : t = nx_i si := by rw [← Int32.toInt_inj]; omega
            rw [this]; exact c1
          · exact c5 t (by omega) t2
      · intro he
        obtain ⟨c1, c2, c3⟩ := q he
        refine ⟨by omega, hz, fun t t1 t2 => ?_⟩
        by_cases w : t.toInt = si.toInt + 1
        · have : t = nx_i si := by rw [← Int32.toInt_inj]; omega
          rw [this]; exact c2
        · exact c3 t (by omega) (by omega)
    · have hs : scan u (k + 1) si sw = (si, sw) := if_neg hz
      rw [hs]
      exact ⟨fun _ => Or.inl ⟨rfl, rfl⟩, fun q => absurd q hz⟩
theorem own_shl6 (x n : Int32) (hx0 : 0 ≤ x.toInt) (hx1 : x.toInt ≤ 1000000) (hn0 : 0 ≤ n.toInt) (hn : n.toInt < 64) : ((x <<< ((6 : Int32) &&& 31)) + n).toInt = 64 * x.toInt + n.toInt := by
  have a := c_ishl x 6 6 (by decide)
  have b := rng32 (x <<< ((6 : Int32) &&& 31))
  have c := c_iadd (x <<< ((6 : Int32) &&& 31)) n
  have d := rng32 ((x <<< ((6 : Int32) &&& 31)) + n)
  omega
theorem own_wiv (fr : Int32) (h0 : 0 ≤ fr.toInt) (h1 : fr.toInt ≤ 16384) : (own_wi fr).toInt = (own_ix fr).toInt + 1 ∧ 0 ≤ (own_ix fr).toInt ∧ (own_ix fr).toInt ≤ 256 := by
  have a := own_shr6 fr
  have c := c_iadd (own_ix fr) 1
  have d := rng32 (own_ix fr + 1)
  have l1 : (1 : Int32).toInt = 1 := by decide
  have e : (own_wi fr).toInt = (own_ix fr + 1).toInt := rfl
  omega
theorem own_sc (fr nu : Int32) (h0 : 0 ≤ fr.toInt) (h1 : fr.toInt ≤ 16384) (hn : nu.toInt ≤ 16384) (h : (own_ix (own_wi fr)) < nu) : 0 ≤ (own_ix (own_wi fr)).toInt ∧ (own_ix (own_wi fr)).toInt + ((nu.toInt - 1 - (own_ix (own_wi fr)).toInt).toNat : Nat) = nu.toInt - 1 :=
  ⟨own_ix0 fr h0 h1, own_kk fr nu h0 h1 h⟩
theorem own_in (cap i : Int32) (h : 0 ≤ i.toInt ∧ i.toInt < cap.toInt) (hc : 0 ≤ cap.toInt ∧ cap.toInt ≤ 16384) : (¬ own_ix i < 0 ∧ own_ix i < own_nw cap) ∧ (¬ own_ix (own_ix i) < 0 ∧ own_ix (own_ix i) < own_nw (own_nw cap)) := by
  have a := own_shr6 i
  have b := own_shr6 (own_ix i)
  have c := own_nwv cap hc.1 hc.2
  have d := own_nwv (own_nw cap) (by omega) (by omega)
  have l : (0 : Int32).toInt = 0 := by decide
  simp only [Int32.lt_iff_toInt_lt, l]
  omega
theorem tb_sw (fr : Int32) (u : Int32 → Int64) (b : Nat) (hb : b < 64) : tb (own_sw fr u) b = (tb (u (own_ix (own_wi fr))) b && decide (md (own_wi fr) ≤ b)) := by
  unfold own_sw; rw [tb_and, tb_msk _ b hb]
theorem tb_wd (fr : Int32) (w : Int32 → Int64) (b : Nat) (hb : b < 64) : tb (own_wd fr w) b = (tb (w (own_ix fr)) b && decide (md fr ≤ b)) := by
  unfold own_wd; rw [tb_and, tb_msk _ b hb]
theorem own_first (cap : Int32) (hc0 : 1 ≤ cap.toInt) (hc1 : cap.toInt ≤ 16384) (u : Int32 → Int64) (fr : Int32) (h0 : 0 ≤ fr.toInt) (h1 : fr.toInt ≤ 16384) (hlt : (own_ix (own_wi fr)) < own_nw (own_nw cap)) :
    ((scan u ((own_nw (own_nw cap)).toInt - 1 - (own_ix (own_wi fr)).toInt).toNat (own_ix (own_wi fr)) (own_sw fr u)).2 = 0 → (scan u ((own_nw (own_nw cap)).toInt - 1 - (own_ix (own_wi fr)).toInt).toNat (own_ix (own_wi fr)) (own_sw fr u)).1.toInt = (own_nw (own_nw cap)).toInt - 1 ∧ ∀ k : Int32, (own_wi fr).toInt ≤ k.toInt → k.toInt < (own_nw cap).toInt → mem u k = false) ∧
    (¬ (scan u ((own_nw (own_nw cap)).toInt - 1 - (own_ix (own_wi fr)).toInt).toNat (own_ix (own_wi fr)) (own_sw fr u)).2 = 0 → (own_wi fr).toInt ≤ (own_fi fr (own_nw (own_nw cap)) u).toInt ∧ (own_ix (own_fi fr (own_nw (own_nw cap)) u)).toInt < (own_nw (own_nw cap)).toInt ∧ mem u (own_fi fr (own_nw (own_nw cap)) u) = true ∧ ∀ k : Int32, (own_wi fr).toInt ≤ k.toInt → k.toInt < (own_fi fr (own_nw (own_nw cap)) u).toInt → mem u k = false) := by
  have nv := own_nwv cap (by omega) hc1
  have uv := own_nwv (own_nw cap) (by omega) (by omega)
  obtain ⟨wv, ix0, ix1⟩ := own_wiv fr h0 h1
  obtain ⟨s0, kv⟩ := own_sc fr (own_nw (own_nw cap)) h0 h1 (by omega) hlt
  have sp := scan_spec u ((own_nw (own_nw cap)).toInt - 1 - (own_ix (own_wi fr)).toInt).toNat (own_ix (own_wi fr)) (own_sw fr u) s0 (by omega)
  have wsp := own_split (own_wi fr) (by omega)
  have fidef : own_fi fr (own_nw (own_nw cap)) u = (((scan u ((own_nw (own_nw cap)).toInt - 1 - (own_ix (own_wi fr)).toInt).toNat (own_ix (own_wi fr)) (own_sw fr u)).1) <<< ((6 : Int32) &&& 31)) + (Fntzl (scan u ((own_nw (own_nw cap)).toInt - 1 - (own_ix (own_wi fr)).toInt).toNat (own_ix (own_wi fr)) (own_sw fr u)).2) := rfl
  generalize scan u ((own_nw (own_nw cap)).toInt - 1 - (own_ix (own_wi fr)).toInt).toNat (own_ix (own_wi fr)) (own_sw fr u) = r at *
  obtain ⟨p, q⟩ := sp
  have low : ∀ k : Int32, (own_wi fr).toInt ≤ k.toInt → own_ix k = own_ix (own_wi fr) → own_sw fr u = 0 → mem u k = false := fun k hk he hz => by
    have ks := own_split k (by omega)
    have m := tb_sw fr u (md k) (md_lt k)
    rw [hz, tb_zero] at m
    have d : decide (md (own_wi fr) ≤ md k) = true := decide_eq_true (by rw [he] at ks; omega)
    rw [d, Bool.and_true] at m
    unfold mem; rw [he]; exact m.symm
  constructor
  · intro hz
    obtain ⟨c1, c2, c3⟩ := q hz
    refine ⟨by omega, fun k k0 k1 => ?_⟩
    have ks := own_split k (by omega)
    have ml := md_lt k
    by_cases e : (own_ix k).toInt = (own_ix (own_wi fr)).toInt
    · exact low k k0 (own_ixI _ _ e) c2
    · have mw := md_lt (own_wi fr)
      unfold mem
      rw [c3 (own_ix k) (by omega) (by omega), tb_zero]
  · intro hz
    obtain ⟨n, n1, n2, n3, n4⟩ := ntz64 r.2 hz
    have rb : (own_ix (own_wi fr)).toInt ≤ r.1.toInt ∧ r.1.toInt ≤ (own_nw (own_nw cap)).toInt - 1 := by
      rcases p hz with ⟨c1, -⟩ | ⟨-, c2, c3, -, -⟩
      · rw [c1]; omega
      · omega
    have fv := own_shl6 r.1 (Fntzl r.2) (by omega) (by omega) (by omega) (by omega)
    rw [← fidef] at fv
    have fs := own_split (own_fi fr (own_nw (own_nw cap)) u) (by omega)
    have fm := md_lt (own_fi fr (own_nw (own_nw cap)) u)
    have fx : (own_ix (own_fi fr (own_nw (own_nw cap)) u)).toInt = r.1.toInt := by omega
    have fd : md (own_fi fr (own_nw (own_nw cap)) u) = n := by omega
    have mw := md_lt (own_wi fr)
    rcases p hz with ⟨c1, c2⟩ | ⟨c1, c2, c3, c4, c5⟩
    · have m := tb_sw fr u n n1
      rw [← c2, n3] at m
      have m1 : tb (u (own_ix (own_wi fr))) n = true := by
        cases q1 : tb (u (own_ix (own_wi fr))) n
        · rw [q1] at m; cases m
        · rfl
      have m2 : md (own_wi fr) ≤ n := by
        rw [m1, Bool.true_and] at m
        exact of_decide_eq_true m.symm
      rw [c1] at fx fv
      refine ⟨by omega, by omega, by unfold mem; rw [own_ixI _ _ fx, fd]; exact m1, fun k k0 k1 => ?_⟩
      have ks := own_split k (by omega)
      have ml := md_lt k
      have kx : (own_ix k).toInt = (own_ix (own_wi fr)).toInt := by omega
      have t := tb_sw fr u (md k) (md_lt k)
      rw [← c2, n4 (md k) (by omega), decide_eq_true (by omega : md (own_wi fr) ≤ md k), Bool.and_true] at t
      unfold mem; rw [own_ixI _ _ kx]; exact t.symm
    · refine ⟨by omega, by omega, by unfold mem; rw [own_ixI _ _ fx, fd, ← c4]; exact n3, fun k k0 k1 => ?_⟩
      have ks := own_split k (by omega)
      have ml := md_lt k
      by_cases e : (own_ix k).toInt = (own_ix (own_wi fr)).toInt
      · exact low k k0 (own_ixI _ _ e) c1
      · by_cases e2 : (own_ix k).toInt = r.1.toInt
        · unfold mem
          rw [own_ixI _ _ e2, ← c4]; exact n4 _ (by omega)
        · unfold mem
          rw [c5 (own_ix k) (by omega) (by omega), tb_zero]
theorem own_next (cap : Int32) (hc0 : 1 ≤ cap.toInt) (hc1 : cap.toInt ≤ 16384) (w u : Int32 → Int64) (sz : Int32) (I : Inv cap w u) (hs : ∀ j : Int32, 0 ≤ j.toInt → j.toInt < cap.toInt → mem w j = true → sz ≠ 0) (fr : Int32) (h0 : 0 ≤ fr.toInt) (h1 : fr.toInt ≤ cap.toInt) :
    (Fnext fr cap sz w (own_nw (own_nw cap)) u = -1 ∧ ∀ j : Int32, fr.toInt ≤ j.toInt → j.toInt < cap.toInt → mem w j = false) ∨
    (fr.toInt ≤ (Fnext fr cap sz w (own_nw (own_nw cap)) u).toInt ∧ (Fnext fr cap sz w (own_nw (own_nw cap)) u).toInt < cap.toInt ∧ mem w (Fnext fr cap sz w (own_nw (own_nw cap)) u) = true ∧ ∀ j : Int32, fr.toInt ≤ j.toInt → j.toInt < (Fnext fr cap sz w (own_nw (own_nw cap)) u).toInt → mem w j = false) := by
  have nv := own_nwv cap (by omega) hc1
  have uv := own_nwv (own_nw cap) (by omega) (by omega)
  obtain ⟨wv, ix0, ix1⟩ := own_wiv fr h0 (by omega)
  obtain ⟨I1, I2, I3⟩ := I
  have frs := own_split fr h0
  have frm := md_lt fr
  unfold Fnext
  by_cases q1 : fr < cap
  rotate_left
  · rw [if_neg q1]
    rw [Int32.lt_iff_toInt_lt] at q1
    exact Or.inl ⟨rfl, fun j a b => by omega⟩
  have q1' := q1
  rw [Int32.lt_iff_toInt_lt] at q1'
  rw [if_pos q1]
  by_cases q2 : sz = 0
  · rw [if_pos q2]
    refine Or.inl ⟨rfl, fun j a b => ?_⟩
    cases m : mem w j
    · rfl
    · exact absurd q2 (hs j (by omega) b m)
  rw [if_neg q2]
  by_cases q3 : own_wd fr w = 0
  rotate_left
  · rw [if_neg q3]
    obtain ⟨n, n1, n2, n3, n4⟩ := ntz64 _ q3
    have rv := own_shl6 (own_ix fr) (Fntzl (own_wd fr w)) ix0 (by omega) (by omega) (by omega)
    have m := tb_wd fr w n n1
    rw [n3] at m
    have m1 : tb (w (own_ix fr)) n = true := by
      cases q4 : tb (w (own_ix fr)) n
      · rw [q4] at m; cases m
      · rfl
    have m2 : md fr ≤ n := by
      rw [m1, Bool.true_and] at m
      exact of_decide_eq_true m.symm
    generalize ((own_ix fr) <<< ((6 : Int32) &&& 31)) + (Fntzl (own_wd fr w)) = r at *
    have rs := own_split r (by omega)
    have rm := md_lt r
    have rx : (own_ix r).toInt = (own_ix fr).toInt := by omega
    have rd : md r = n := by omega
    have mr : mem w r = true := by unfold mem; rw [own_ixI _ _ rx, rd]; exact m1
    refine Or.inr ⟨by omega, I2 r (by omega) (by omega) mr, mr, fun j a b => ?_⟩
    have js := own_split j (by omega)
    have jm := md_lt j
    have jx : (own_ix j).toInt = (own_ix fr).toInt := by omega
    have t := tb_wd fr w (md j) jm
    rw [n4 (md j) (by omega), decide_eq_true (by omega : md fr ≤ md j), Bool.and_true] at t
    unfold mem; rw [own_ixI _ _ jx]; exact t.symm
  rw [if_pos q3]
  have low : ∀ j : Int32, fr.toInt ≤ j.toInt → own_ix j = own_ix fr → mem w j = false := fun j hj he => by
    have js := own_split j (by omega)
    have m := tb_wd fr w (md j) (md_lt j)
    rw [q3, tb_zero] at m
    have d : decide (md fr ≤ md j) = true := decide_eq_true (by rw [he] at js; omega)
    rw [d, Bool.and_true] at m
    unfold mem; rw [he]; exact m.symm
  have wz : ∀ k : Int32, 0 ≤ k.toInt → k.toInt < (own_nw cap).toInt → mem u k = false → w k = 0 := fun k a b c => by
    refine Classical.byContradiction fun q => ?_
    rw [(I1 k a b).mpr q] at c; cases c
  have wsp := own_split (own_wi fr) (by omega)
  have wm := md_lt (own_wi fr)
  by_cases q4 : (own_ix (own_wi fr)) < own_nw (own_nw cap)
  rotate_left
  · rw [if_neg q4]
    rw [Int32.lt_iff_toInt_lt] at q4
    refine Or.inl ⟨rfl, fun j a b => ?_⟩
    have js := own_split j (by omega)
    have jm := md_lt j
    exact low j a (own_ixI _ _ (by omega))
  rw [if_pos q4]
  obtain ⟨F1, F2⟩ := own_first cap hc0 hc1 u fr h0 (by omega) q4
  by_cases q5 : (scan u ((own_nw (own_nw cap)).toInt - 1 - (own_ix (own_wi fr)).toInt).toNat (own_ix (own_wi fr)) (own_sw fr u)).2 = 0
  · rw [if_pos q5]
    refine Or.inl ⟨rfl, fun j a b => ?_⟩
    have js := own_split j (by omega)
    have jm := md_lt j
    by_cases e : (own_ix j).toInt = (own_ix fr).toInt
    · exact low j a (own_ixI _ _ e)
    · have := wz (own_ix j) (by omega) (by omega) ((F1 q5).2 (own_ix j) (by omega) (by omega))
      unfold mem; rw [this, tb_zero]
  · rw [if_neg q5]
    obtain ⟨f1, f2, f3, f4⟩ := F2 q5
    generalize own_fi fr (own_nw (own_nw cap)) u = fi at *
    have f5 := I3 fi (by omega) f2 f3
    have f6 : w fi ≠ 0 := (I1 fi (by omega) f5).mp f3
    obtain ⟨n, n1, n2, n3, n4⟩ := ntz64 _ f6
    have rv := own_shl6 fi (Fntzl (w fi)) (by omega) (by omega) (by omega) (by omega)
    generalize (fi <<< ((6 : Int32) &&& 31)) + (Fntzl (w fi)) = r at *
    have rs := own_split r (by omega)
    have rm := md_lt r
    have rx : (own_ix r).toInt = fi.toInt := by omega
    have rd : md r = n := by omega
    have mr : mem w r = true := by unfold mem; rw [own_ixI _ _ rx, rd]; exact n3
    refine Or.inr ⟨by omega, I2 r (by omega) (by omega) mr, mr, fun j a b => ?_⟩
    have js := own_split j (by omega)
    have jm := md_lt j
    by_cases e : (own_ix j).toInt = (own_ix fr).toInt
    · exact low j a (own_ixI _ _ e)
    · by_cases e2 : (own_ix j).toInt = fi.toInt
      · unfold mem
        rw [own_ixI _ _ e2]; exact n4 _ (by omega)
      · have := wz (own_ix j) (by omega) (by omega) (f4 (own_ix j) (by omega) (by omega))
        unfold mem; rw [this, tb_zero]
theorem inv_nil (cap : Int32) : Inv cap (fun _ => 0) (fun _ => 0) := by
  have z : ∀ k : Int32, mem (fun _ => 0) k = false := fun k => tb_zero _
  refine ⟨fun k _ _ => ⟨fun h => ?_, fun h => absurd rfl h⟩, fun j _ _ h => ?_, fun k _ _ h => ?_⟩ <;> (rw [z] at h; cases h)
theorem mem_or {i k : Int32} (hi : 0 ≤ i.toInt) (hk : 0 ≤ k.toInt) (u : Int32 → Int64) : mem (upA u (own_ix i) ((u (own_ix i)) ||| own_bit i)) k = (mem u k || decide (k = i)) := by
  unfold mem
  by_cases q : own_ix k = own_ix i
  · rw [q, upA_hit, tb_or, tb_bit i _ (md_lt k)]
    congr 1
    by_cases r : md k = md i
    · rw [decide_eq_true r, decide_eq_true (own_inj hk hi q r)]
    · rw [decide_eq_false r, decide_eq_false fun e => r (by rw [e])]
  · rw [upA_miss q, decide_eq_false fun e => q (by rw [e]), Bool.or_false]
theorem inv_add (cap i : Int32) (hc0 : 1 ≤ cap.toInt) (hc1 : cap.toInt ≤ 16384) (hi : 0 ≤ i.toInt) (hic : i.toInt < cap.toInt) (w u : Int32 → Int64) (I : Inv cap w u) : Inv cap (Fadd_w i w) (Fadd_u i w u) := by
  have nv := own_nwv cap (by omega) hc1
  have is := own_split i hi
  have im := md_lt i
  obtain ⟨I1, I2, I3⟩ := I
  by_cases h : w (own_ix i) &&& own_bit i = 0
  · have ew : Fadd_w i w = upA w (own_ix i) ((w (own_ix i)) ||| own_bit i) := if_pos h
    have eu : Fadd_u i w u = upA u (own_ix (own_ix i)) ((u (own_ix (own_ix i))) ||| own_bit (own_ix i)) := if_pos h
    refine ⟨fun k k0 k1 => ?_, fun j j0 j1 m => ?_, fun k k0 k1 m => ?_⟩
    · rw [eu, mem_or (by omega) k0, ew]
      by_cases e : k = own_ix i
      · rw [e, upA_hit, decide_eq_true rfl, Bool.or_true]
        refine ⟨fun _ => (w_ne _).mpr ⟨md i, im, ?_⟩, fun _ => rfl⟩
        rw [tb_or, tb_bit i _ im, decide_eq_true rfl, Bool.or_true]
      · rw [upA_miss e, decide_eq_false e, Bool.or_false]; exact I1 k k0 k1
    · rw [mem_add hi j0] at m
      by_cases e : j = i
      · rw [e]; exact hic
      · rw [decide_eq_false e, Bool.or_false] at m; exact I2 j j0 j1 m
    · rw [eu, mem_or (by omega) k0] at m
      by_cases e : k = own_ix i
      · rw [e]; omega
      · rw [decide_eq_false e, Bool.or_false] at m; exact I3 k k0 k1 m
  · have ew : Fadd_w i w = w := if_neg h
    have eu : Fadd_u i w u = u := if_neg h
    rw [ew, eu]; exact ⟨I1, I2, I3⟩
theorem own_addr (i : Int32) (w : Int32 → Int64) : Fadd i w = !mem w i := by
  unfold Fadd mem
  by_cases h : w (own_ix i) &&& own_bit i = 0
  · rw [if_pos h, (and_bit _ _).mp h]; rfl
  · rw [if_neg h]
    cases q : tb (w (own_ix i)) (md i)
    · exact absurd ((and_bit _ _).mpr q) h
    · rfl
theorem own_addsz (i sz : Int32) (w : Int32 → Int64) : Fadd_sz i sz w = if mem w i = true then sz else sz + 1 := by
  unfold Fadd_sz mem
  by_cases h : w (own_ix i) &&& own_bit i = 0
  · rw [if_pos h, (and_bit _ _).mp h]; rfl
  · rw [if_neg h]
    cases q : tb (w (own_ix i)) (md i)
    · exact absurd ((and_bit _ _).mpr q) h
    · rfl
theorem own_nprem (cap : Int32) (hc0 : 1 ≤ cap.toInt) (hc1 : cap.toInt ≤ 16384) (w u : Int32 → Int64) (I : Inv cap w u) (fr : Int32) (h0 : 0 ≤ fr.toInt) (h1 : fr.toInt ≤ cap.toInt) :
    0 ≤ fr.toInt ∧ fr.toInt ≤ 16384 ∧ (own_nw (own_nw cap)).toInt ≤ 16384 ∧ (fr < cap → ¬ (own_ix fr) < 0 ∧ (own_ix fr) < own_nw cap) ∧ ¬ (own_ix (own_wi fr)) < 0 ∧
    ((scan u ((own_nw (own_nw cap)).toInt - 1 - (own_ix (own_wi fr)).toInt).toNat (own_ix (own_wi fr)) (own_sw fr u)).2 = 0 → (own_ix (own_wi fr)) < own_nw (own_nw cap) → ((scan u ((own_nw (own_nw cap)).toInt - 1 - (own_ix (own_wi fr)).toInt).toNat (own_ix (own_wi fr)) (own_sw fr u)).1 + (1 : Int32)) = own_nw (own_nw cap)) ∧
    (¬ ((scan u ((own_nw (own_nw cap)).toInt - 1 - (own_ix (own_wi fr)).toInt).toNat (own_ix (own_wi fr)) (own_sw fr u)).2 = 0) → (own_ix (own_wi fr)) < own_nw (own_nw cap) → ¬ (own_fi fr (own_nw (own_nw cap)) u) < 0 ∧ (own_fi fr (own_nw (own_nw cap)) u) < own_nw cap) := by
  have nv := own_nwv cap (by omega) hc1
  have uv := own_nwv (own_nw cap) (by omega) (by omega)
  obtain ⟨wv, ix0, ix1⟩ := own_wiv fr h0 (by omega)
  have l0 : (0 : Int32).toInt = 0 := by decide
  have l1 : (1 : Int32).toInt = 1 := by decide
  refine ⟨h0, by omega, by omega, fun q => ?_, ?_, fun q1 q2 => ?_, fun q1 q2 => ?_⟩
  · rw [Int32.lt_iff_toInt_lt] at q
    exact (own_in cap fr ⟨h0, q⟩ ⟨by omega, hc1⟩).1
  · rw [Int32.lt_iff_toInt_lt, l0]
    have := own_ix0 fr h0 (by omega)
    omega
  · have e := ((own_first cap hc0 hc1 u fr h0 (by omega) q2).1 q1).1
    generalize (scan u ((own_nw (own_nw cap)).toInt - 1 - (own_ix (own_wi fr)).toInt).toNat (own_ix (own_wi fr)) (own_sw fr u)).1 = x at *
    have a := c_iadd x 1
    have b := rng32 (x + 1)
    rw [← Int32.toInt_inj]
    omega
  · obtain ⟨f1, f2, f3, f4⟩ := (own_first cap hc0 hc1 u fr h0 (by omega) q2).2 q1
    have f5 := I.2.2 _ (by omega) f2 f3
    rw [Int32.lt_iff_toInt_lt, Int32.lt_iff_toInt_lt, l0]
    omega
theorem pn_0 : plainName "com/example/cutline/cutline/IndexSetRemovePinLaw" = true := by first | (simp [plainName, overriddenIn]; done) | decide +kernel
theorem pd_0 : parseMethodDescriptor "(I)V" = some ⟨[.int], none⟩ := by decide +kernel
theorem pd_2 : parseMethodDescriptor "(I)Z" = some ⟨[.int], some .boolean⟩ := by decide +kernel
theorem pd_3 : parseMethodDescriptor "()I" = some ⟨[], some .int⟩ := by decide +kernel
theorem ef_0 (m : MethodId) (x0 : Int32) (x1 : Int32) (x2 : Int32) (x3 : Int32) (x4 : Int32) (x5 : Int32) : entryFrame m #[(.int x0), (.int x1), (.int x2), (.int x3), (.int x4), (.int x5)] maxLocals = mkF m 0 #[.val (.int x0), .val (.int x1), .val (.int x2), .val (.int x3), .val (.int x4), .val (.int x5), .unset, .unset, .unset, .unset, .unset, .unset, .unset, .unset, .unset, .unset, .unset, .unset, .unset, .unset, .unset] [] := by first | (simp [entryFrame, mkF, argsToLocals, Value.category, maxLocals]; done) | rfl
def v_cap (ci : Int32) : Int32 := ((1 : Int32) + (ci &&& (16383 : Int32)))
def v_x (ci : Int32) (ai : Int32) : Int32 := ((ai &&& (2147483647 : Int32)) % (v_cap ci))
def v_y0 (ci : Int32) (bi : Int32) : Int32 := ((bi &&& (2147483647 : Int32)) % (v_cap ci))
def v_z (ci : Int32) (ai : Int32) (bi : Int32) : Int32 := (((v_x ci ai) &&& (-64 : Int32)) ||| (bi &&& (63 : Int32)))
def v_y (ci : Int32) (ai : Int32) (bi : Int32) (fl : Int32) : Int32 := (if (fl &&& (16 : Int32)) = (0 : Int32) then (v_y0 ci bi) else (if (v_z ci ai bi) < (v_cap ci) then (v_z ci ai bi) else (v_y0 ci bi)))
def v_sel (fl : Int32) : Int32 := (fl &&& (3 : Int32))
def v_r0 (ci : Int32) (ii : Int32) : Int32 := ((ii &&& (2147483647 : Int32)) % (v_cap ci))
def v_r (ci : Int32) (ai : Int32) (bi : Int32) (ii : Int32) (fl : Int32) : Int32 := (if (v_sel fl) = (0 : Int32) then (v_x ci ai) else (if (v_sel fl) = (1 : Int32) then (v_y ci ai bi fl) else (v_r0 ci ii)))
def v_aA (fl : Int32) : Bool := (if (fl &&& (4 : Int32)) = (0 : Int32) then false else true)
def v_aB (fl : Int32) : Bool := (if (fl &&& (8 : Int32)) = (0 : Int32) then false else true)
def v_from (ci : Int32) (fi : Int32) : Int32 := ((fi &&& (2147483647 : Int32)) % ((v_cap ci) + (1 : Int32)))
def v_sA (ci : Int32) (ai : Int32) (fl : Int32) : Int32 := (if (v_aA fl) = true then (Fadd_sz (v_x ci ai) (0 : Int32) (fun _ => 0)) else (0 : Int32))
def v_wA (ci : Int32) (ai : Int32) (fl : Int32) : Int32 → Int64 := (if (v_aA fl) = true then (Fadd_w (v_x ci ai) (fun _ => 0)) else (fun _ => 0))
def v_uA (ci : Int32) (ai : Int32) (fl : Int32) : Int32 → Int64 := (if (v_aA fl) = true then (Fadd_u (v_x ci ai) (fun _ => 0) (fun _ => 0)) else (fun _ => 0))
def v_sB (ci : Int32) (ai : Int32) (bi : Int32) (fl : Int32) : Int32 := (if (v_aB fl) = true then (Fadd_sz (v_y ci ai bi fl) (v_sA ci ai fl) (v_wA ci ai fl)) else (v_sA ci ai fl))
def v_wB (ci : Int32) (ai : Int32) (bi : Int32) (fl : Int32) : Int32 → Int64 := (if (v_aB fl) = true then (Fadd_w (v_y ci ai bi fl) (v_wA ci ai fl)) else (v_wA ci ai fl))
def v_uB (ci : Int32) (ai : Int32) (bi : Int32) (fl : Int32) : Int32 → Int64 := (if (v_aB fl) = true then (Fadd_u (v_y ci ai bi fl) (v_wA ci ai fl) (v_uA ci ai fl)) else (v_uA ci ai fl))
def nd0_188_35 (ci : Int32) (ai : Int32) (bi : Int32) (ii : Int32) (fl : Int32) : Bool := (if (v_aB fl) = true then (if (v_r ci ai bi ii fl) = (v_y ci ai bi fl) then true else false) else false)
def v_was (ci : Int32) (ai : Int32) (bi : Int32) (ii : Int32) (fl : Int32) : Bool := (if (v_aA fl) = true then (if (v_r ci ai bi ii fl) = (v_x ci ai) then true else (nd0_188_35 ci ai bi ii fl)) else (nd0_188_35 ci ai bi ii fl))
def nd0_224_45 (ci : Int32) (ai : Int32) (bi : Int32) (ii : Int32) (fl : Int32) : Bool := (if (v_x ci ai) = (v_r ci ai bi ii fl) then false else true)
def v_px (ci : Int32) (ai : Int32) (bi : Int32) (ii : Int32) (fl : Int32) : Bool := (if (v_aA fl) = true then (nd0_224_45 ci ai bi ii fl) else (if (v_aB fl) = true then (if (v_y ci ai bi fl) = (v_x ci ai) then (nd0_224_45 ci ai bi ii fl) else false) else false))
def nd0_255_54 (ci : Int32) (ai : Int32) (bi : Int32) (ii : Int32) (fl : Int32) : Bool := (if (v_y ci ai bi fl) = (v_r ci ai bi ii fl) then false else true)
def v_py (ci : Int32) (ai : Int32) (bi : Int32) (ii : Int32) (fl : Int32) : Bool := (if (v_aB fl) = true then (nd0_255_54 ci ai bi ii fl) else (if (v_aA fl) = true then (if (v_x ci ai) = (v_y ci ai bi fl) then (nd0_255_54 ci ai bi ii fl) else false) else false))
def v_n (ci : Int32) (ai : Int32) (bi : Int32) (ii : Int32) (fl : Int32) : Int32 := ((b2i (if (v_px ci ai bi ii fl) = true then true else false)) + (b2i (if (v_py ci ai bi ii fl) = true then (if (v_y ci ai bi fl) = (v_x ci ai) then false else true) else false)))
def v_c0 (ci : Int32) (ai : Int32) (bi : Int32) (ii : Int32) (fi : Int32) (fl : Int32) : Int32 := (if (v_px ci ai bi ii fl) = true then (if (v_x ci ai) < (v_from ci fi) then (-1 : Int32) else (v_x ci ai)) else (-1 : Int32))
def v_cand (ci : Int32) (ai : Int32) (bi : Int32) (ii : Int32) (fi : Int32) (fl : Int32) : Int32 := (if (v_py ci ai bi ii fl) = true then (if (v_y ci ai bi fl) < (v_from ci fi) then (v_c0 ci ai bi ii fi fl) else (if (v_c0 ci ai bi ii fi fl) = (-1 : Int32) then (v_y ci ai bi fl) else (if (v_y ci ai bi fl) < (v_c0 ci ai bi ii fi fl) then (v_y ci ai bi fl) else (v_c0 ci ai bi ii fi fl)))) else (v_c0 ci ai bi ii fi fl))
def v_sC (ci : Int32) (ai : Int32) (bi : Int32) (ii : Int32) (fl : Int32) : Int32 := (Frem_sz (v_r ci ai bi ii fl) (v_sB ci ai bi fl) (v_wB ci ai bi fl))
def v_wC (ci : Int32) (ai : Int32) (bi : Int32) (ii : Int32) (fl : Int32) : Int32 → Int64 := (Frem_w (v_r ci ai bi ii fl) (v_wB ci ai bi fl))
def v_uC (ci : Int32) (ai : Int32) (bi : Int32) (ii : Int32) (fl : Int32) : Int32 → Int64 := (Frem_u (v_r ci ai bi ii fl) (v_wB ci ai bi fl) (v_uB ci ai bi fl))
def v_ret (ci : Int32) (ai : Int32) (bi : Int32) (ii : Int32) (fl : Int32) : Bool := (Frem (v_r ci ai bi ii fl) (v_wB ci ai bi fl))
def lawE1 (ci : Int32) (ai : Int32) (bi : Int32) (ii : Int32) (fi : Int32) (fl : Int32) : Bool := (if (Fnext (v_from ci fi) (v_cap ci) (v_sC ci ai bi ii fl) (v_wC ci ai bi ii fl) (own_nw (own_nw (v_cap ci))) (v_uC ci ai bi ii fl)) = (v_cand ci ai bi ii fi fl) then true else false)
theorem mem_andn {i k : Int32} (hi : 0 ≤ i.toInt) (hk : 0 ≤ k.toInt) (u : Int32 → Int64) : mem (upA u (own_ix i) ((u (own_ix i)) &&& ((own_bit i) ^^^ (-1 : Int64)))) k = (mem u k && !decide (k = i)) := by
  unfold mem
  by_cases q : own_ix k = own_ix i
  · rw [q, upA_hit, tb_and, tb_not _ _ (md_lt k), tb_bit i _ (md_lt k)]
    congr 2
    by_cases r : md k = md i
    · rw [decide_eq_true r, decide_eq_true (own_inj hk hi q r)]
    · rw [decide_eq_false r, decide_eq_false fun e => r (by rw [e])]
  · rw [upA_miss q, decide_eq_false fun e => q (by rw [e]), Bool.not_false, Bool.and_true]
theorem own_remr (i : Int32) (w : Int32 → Int64) : Frem i w = mem w i := by
  unfold Frem mem
  by_cases h : w (own_ix i) &&& own_bit i = 0
  · rw [if_pos h, (and_bit _ _).mp h]
  · rw [if_neg h]
    cases q : tb (w (own_ix i)) (md i)
    · exact absurd ((and_bit _ _).mpr q) h
    · rfl
theorem own_remsz (i sz : Int32) (w : Int32 → Int64) : Frem_sz i sz w = if mem w i = true then sz - 1 else sz := by
  unfold Frem_sz mem
  by_cases h : w (own_ix i) &&& own_bit i = 0
  · rw [if_pos h, (and_bit _ _).mp h]; rfl
  · rw [if_neg h]
    cases q : tb (w (own_ix i)) (md i)
    · exact absurd ((and_bit _ _).mpr q) h
    · rfl
theorem inv_rem (cap i : Int32) (hc0 : 1 ≤ cap.toInt) (hc1 : cap.toInt ≤ 16384) (hi : 0 ≤ i.toInt) (hic : i.toInt < cap.toInt) (w u : Int32 → Int64) (I : Inv cap w u) : Inv cap (Frem_w i w) (Frem_u i w u) := by
  have nv := own_nwv cap (by omega) hc1
  have is := own_split i hi
  have im := md_lt i
  obtain ⟨I1, I2, I3⟩ := I
  by_cases h : w (own_ix i) &&& own_bit i = 0
  · have ew : Frem_w i w = w := if_pos h
    have eu : Frem_u i w u = u := if_pos h
    rw [ew, eu]; exact ⟨I1, I2, I3⟩
  · have ew : Frem_w i w = upA w (own_ix i) ((w (own_ix i)) &&& ((own_bit i) ^^^ (-1 : Int64))) := if_neg h
    have wi : w (own_ix i) ≠ 0 := fun q => h (by rw [q, Int64.zero_and])
    have mu : mem u (own_ix i) = true := (I1 (own_ix i) (by omega) (by omega)).mpr wi
    by_cases z : (w (own_ix i)) &&& ((own_bit i) ^^^ (-1 : Int64)) = 0
    · have eu : Frem_u i w u = upA u (own_ix (own_ix i)) ((u (own_ix (own_ix i))) &&& ((own_bit (own_ix i)) ^^^ (-1 : Int64))) := (if_neg h).trans (if_pos z)
      refine ⟨fun k k0 k1 => ?_, fun j j0 j1 m => ?_, fun k k0 k1 m => ?_⟩
      · rw [eu, mem_andn (by omega) k0, ew]
        by_cases e : k = own_ix i
        · rw [e, upA_hit, decide_eq_true rfl, z, Bool.not_true, Bool.and_false]
          exact ⟨fun q => (by cases q), fun q => absurd rfl q⟩
        · rw [upA_miss e, decide_eq_false e, Bool.not_false, Bool.and_true]; exact I1 k k0 k1
      · rw [mem_rem hi j0, Bool.and_eq_true_iff] at m; exact I2 j j0 j1 m.1
      · rw [eu, mem_andn (by omega) k0, Bool.and_eq_true_iff] at m; exact I3 k k0 k1 m.1
    · have eu : Frem_u i w u = u := (if_neg h).trans (if_neg z)
      refine ⟨fun k k0 k1 => ?_, fun j j0 j1 m => ?_, fun k k0 k1 m => ?_⟩
      · rw [eu, ew]
        by_cases e : k = own_ix i
        · rw [e, upA_hit]; exact ⟨fun _ => z, fun _ => mu⟩
        · rw [upA_miss e]; exact I1 k k0 k1
      · rw [mem_rem hi j0, Bool.and_eq_true_iff] at m; exact I2 j j0 j1 m.1
      · rw [eu] at m; exact I3 k k0 k1 m
theorem own_vc1 (ci : Int32) : 1 ≤ (v_cap ci).toInt ∧ (v_cap ci).toInt ≤ 16384 := by
  have a := c_mask ci 16383 14 (by decide) (by decide)
  have b := c_iadd 1 (ci &&& 16383)
  have c := rng32 (1 + (ci &&& 16383))
  have l : (1 : Int32).toInt = 1 := by decide
  show 1 ≤ (1 + (ci &&& 16383)).toInt ∧ (1 + (ci &&& 16383)).toInt ≤ 16384
  omega
theorem own_vcap (ci : Int32) : 0 ≤ (v_cap ci).toInt ∧ (v_cap ci).toInt ≤ 16384 := by have := own_vc1 ci; omega
theorem own_nz (ci : Int32) : ¬ (v_cap ci = 0) := fun h => by
  have a := (own_vc1 ci).1
  rw [h] at a
  exact absurd a (by decide)
theorem own_rem (y c : Int32) (h : 1 ≤ c.toInt) : 0 ≤ ((y &&& 2147483647) % c).toInt ∧ ((y &&& 2147483647) % c).toInt < c.toInt := by
  have a := c_mask y 2147483647 31 (by decide) (by decide)
  have b := (c_iremV (y &&& 2147483647) c).1 (by omega) (by omega)
  exact ⟨b.1, b.2.1⟩
theorem own_nz1 (ci : Int32) : ¬ ((v_cap ci + (1 : Int32)) = 0) := fun h => by
  have c := own_vc1 ci
  have a := c_iadd (v_cap ci) 1
  have l1 : (1 : Int32).toInt = 1 := by decide
  have l0 : (0 : Int32).toInt = 0 := by decide
  rw [h] at a
  omega
theorem own_vx (ci ai : Int32) : 0 ≤ (v_x ci ai).toInt ∧ (v_x ci ai).toInt < (v_cap ci).toInt := own_rem ai _ (own_vc1 ci).1
theorem own_vy (ci ai bi fl : Int32) : 0 ≤ (v_y ci ai bi fl).toInt ∧ (v_y ci ai bi fl).toInt < (v_cap ci).toInt := by
  have y0 : 0 ≤ (v_y0 ci bi).toInt ∧ (v_y0 ci bi).toInt < (v_cap ci).toInt := own_rem bi _ (own_vc1 ci).1
  unfold v_y
  split
  · exact y0
  · split
    · rename_i h
      rw [Int32.lt_iff_toInt_lt] at h
      have iv := own_vx ci ai
      have d := (c_andS (v_x ci ai) (-64)).2.1 iv.1
      have f := c_mask bi 63 6 (by decide) (by decide)
      exact ⟨(c_orS (v_x ci ai &&& -64) (bi &&& 63)).1 d (by omega), h⟩
    · exact y0
theorem own_vr (ci ai bi ii fl : Int32) : 0 ≤ (v_r ci ai bi ii fl).toInt ∧ (v_r ci ai bi ii fl).toInt < (v_cap ci).toInt := by
  unfold v_r
  split
  · exact own_vx ci ai
  · split
    · exact own_vy ci ai bi fl
    · exact own_rem ii _ (own_vc1 ci).1
theorem own_vf (ci fi : Int32) : 0 ≤ (v_from ci fi).toInt ∧ (v_from ci fi).toInt ≤ (v_cap ci).toInt := by
  have c := own_vc1 ci
  have a := c_iadd (v_cap ci) 1
  have b := rng32 (v_cap ci + 1)
  have l1 : (1 : Int32).toInt = 1 := by decide
  have r := own_rem fi (v_cap ci + 1) (by omega)
  have e : v_from ci fi = (fi &&& 2147483647) % (v_cap ci + 1) := rfl
  rw [e]; omega
theorem own_mA (ci ai fl j : Int32) (hj : 0 ≤ j.toInt) : mem (v_wA ci ai fl) j = (v_aA fl && decide (j = v_x ci ai)) := by
  unfold v_wA
  cases q : v_aA fl
  · rw [if_neg (by decide)]; exact tb_zero _
  · rw [if_pos rfl, mem_add (own_vx ci ai).1 hj, show mem (fun _ => 0) j = false from tb_zero _]; rfl
theorem own_mB (ci ai bi fl j : Int32) (hj : 0 ≤ j.toInt) : mem (v_wB ci ai bi fl) j = ((v_aA fl && decide (j = v_x ci ai)) || (v_aB fl && decide (j = v_y ci ai bi fl))) := by
  unfold v_wB
  cases q : v_aB fl
  · rw [if_neg (by decide), own_mA ci ai fl j hj, Bool.false_and, Bool.or_false]
  · rw [if_pos rfl, mem_add (own_vy ci ai bi fl).1 hj, own_mA ci ai fl j hj]; rfl
theorem own_mC (ci ai bi ii fl j : Int32) (hj : 0 ≤ j.toInt) : mem (v_wC ci ai bi ii fl) j = (((v_aA fl && decide (j = v_x ci ai)) || (v_aB fl && decide (j = v_y ci ai bi fl))) && !decide (j = v_r ci ai bi ii fl)) := by
  unfold v_wC
  rw [mem_rem (own_vr ci ai bi ii fl).1 hj, own_mB ci ai bi fl j hj]
theorem own_invC (ci ai bi ii fl : Int32) : Inv (v_cap ci) (v_wC ci ai bi ii fl) (v_uC ci ai bi ii fl) := by
  obtain ⟨c0, c1⟩ := own_vc1 ci
  have x := own_vx ci ai
  have y := own_vy ci ai bi fl
  have r := own_vr ci ai bi ii fl
  have IA : Inv (v_cap ci) (v_wA ci ai fl) (v_uA ci ai fl) := by
    unfold v_wA v_uA
    cases v_aA fl
    · rw [if_neg (by decide), if_neg (by decide)]; exact inv_nil _
    · rw [if_pos rfl, if_pos rfl]; exact inv_add _ _ c0 c1 x.1 x.2 _ _ (inv_nil _)
  have IB : Inv (v_cap ci) (v_wB ci ai bi fl) (v_uB ci ai bi fl) := by
    unfold v_wB v_uB
    cases v_aB fl
    · rw [if_neg (by decide), if_neg (by decide)]; exact IA
    · rw [if_pos rfl, if_pos rfl]; exact inv_add _ _ c0 c1 y.1 y.2 _ _ IA
  exact inv_rem _ _ c0 c1 r.1 r.2 _ _ IB
theorem own_ret (ci ai bi ii fl : Int32) : v_ret ci ai bi ii fl = v_was ci ai bi ii fl := by
  unfold v_ret v_was nd0_188_35
  rw [own_remr, own_mB ci ai bi fl _ (own_vr ci ai bi ii fl).1]
  cases v_aA fl <;> cases v_aB fl <;> by_cases q1 : v_r ci ai bi ii fl = v_x ci ai <;> by_cases q2 : v_r ci ai bi ii fl = v_y ci ai bi fl <;> simp [q1, q2]
theorem own_pxv (ci ai bi ii fl : Int32) : v_px ci ai bi ii fl = ((v_aA fl || (v_aB fl && decide (v_y ci ai bi fl = v_x ci ai))) && !decide (v_x ci ai = v_r ci ai bi ii fl)) := by
  unfold v_px nd0_224_45
  cases v_aA fl <;> cases v_aB fl <;> by_cases q1 : v_x ci ai = v_r ci ai bi ii fl <;> by_cases q2 : v_y ci ai bi fl = v_x ci ai <;> simp [q1, q2]
theorem own_pyv (ci ai bi ii fl : Int32) : v_py ci ai bi ii fl = ((v_aB fl || (v_aA fl && decide (v_x ci ai = v_y ci ai bi fl))) && !decide (v_y ci ai bi fl = v_r ci ai bi ii fl)) := by
  unfold v_py nd0_255_54
  cases v_aA fl <;> cases v_aB fl <;> by_cases q1 : v_y ci ai bi fl = v_r ci ai bi ii fl <;> by_cases q2 : v_x ci ai = v_y ci ai bi fl <;> simp [q1, q2]
theorem own_conr (ci ai bi ii fl : Int32) : ¬ (Fcon (v_r ci ai bi ii fl) (v_wC ci ai bi ii fl) = true) := by
  rw [own_con, own_mC ci ai bi ii fl _ (own_vr ci ai bi ii fl).1]
  simp
theorem own_conx (ci ai bi ii fl : Int32) : Fcon (v_x ci ai) (v_wC ci ai bi ii fl) = v_px ci ai bi ii fl := by
  rw [own_con, own_mC ci ai bi ii fl _ (own_vx ci ai).1, own_pxv]
  cases v_aA fl <;> cases v_aB fl <;> by_cases q1 : v_x ci ai = v_r ci ai bi ii fl <;> by_cases q2 : v_x ci ai = v_y ci ai bi fl <;> simp [q1, q2] <;> (try (intro w; exact q2 w.symm))
theorem own_cony (ci ai bi ii fl : Int32) : Fcon (v_y ci ai bi fl) (v_wC ci ai bi ii fl) = v_py ci ai bi ii fl := by
  rw [own_con, own_mC ci ai bi ii fl _ (own_vy ci ai bi fl).1, own_pyv]
  cases v_aA fl <;> cases v_aB fl <;> by_cases q1 : v_y ci ai bi fl = v_r ci ai bi ii fl <;> by_cases q2 : v_y ci ai bi fl = v_x ci ai <;> simp [q1, q2] <;> (try (intro w; exact q2 w.symm))
theorem own_cnt (a b : Bool) (x y r : Int32) : (if ((a && decide (r = x)) || (b && decide (r = y))) = true then (if b = true then (if (a && decide (y = x)) = true then (if a = true then (1 : Int32) else 0) else (if a = true then (1 : Int32) else 0) + 1) else (if a = true then (1 : Int32) else 0)) - 1 else (if b = true then (if (a && decide (y = x)) = true then (if a = true then (1 : Int32) else 0) else (if a = true then (1 : Int32) else 0) + 1) else (if a = true then (1 : Int32) else 0))) =
    (b2i (if ((a || (b && decide (y = x))) && !decide (x = r)) = true then true else false)) + (b2i (if ((b || (a && decide (x = y))) && !decide (y = r)) = true then (if y = x then false else true) else false)) := by
  by_cases h1 : r = x
  · subst h1
    by_cases h2 : y = r
    · subst h2; cases a <;> cases b <;> simp <;> decide
    · have h3 : ¬ r = y := fun q => h2 q.symm
      cases a <;> cases b <;> simp [h2, h3] <;> decide
  · have h1' : ¬ x = r := fun q => h1 q.symm
    by_cases h2 : y = x
    · subst h2; cases a <;> cases b <;> simp [h1, h1'] <;> decide
    · have h2' : ¬ x = y := fun q => h2 q.symm
      by_cases h3 : r = y
      · subst h3; cases a <;> cases b <;> simp [h1, h1', h2, h2'] <;> decide
      · have h3' : ¬ y = r := fun q => h3 q.symm
        cases a <;> cases b <;> simp [h1, h1', h2, h2', h3, h3'] <;> decide
theorem own_size (ci ai bi ii fl : Int32) : Fsize (v_sC ci ai bi ii fl) = v_n ci ai bi ii fl := by
  have eA : v_sA ci ai fl = if v_aA fl = true then 1 else 0 := by
    unfold v_sA
    cases v_aA fl
    · rfl
    · rw [if_pos rfl, if_pos rfl, own_addsz, show mem (fun _ => 0) (v_x ci ai) = false from tb_zero _]; decide
  have eB : v_sB ci ai bi fl = if v_aB fl = true then (if (v_aA fl && decide (v_y ci ai bi fl = v_x ci ai)) = true then (if v_aA fl = true then 1 else 0) else (if v_aA fl = true then 1 else 0) + 1) else (if v_aA fl = true then 1 else 0) := by
    unfold v_sB
    rw [own_addsz, own_mA ci ai fl _ (own_vy ci ai bi fl).1, eA]
  show v_sC ci ai bi ii fl = _
  unfold v_sC v_n
  rw [own_remsz, own_mB ci ai bi fl _ (own_vr ci ai bi ii fl).1, eB, own_pxv, own_pyv]
  exact own_cnt (v_aA fl) (v_aB fl) (v_x ci ai) (v_y ci ai bi fl) (v_r ci ai bi ii fl)
theorem own_mP (ci ai bi ii fl j : Int32) (hj : 0 ≤ j.toInt) : mem (v_wC ci ai bi ii fl) j = ((v_px ci ai bi ii fl && decide (j = v_x ci ai)) || (v_py ci ai bi ii fl && decide (j = v_y ci ai bi fl))) := by
  rw [own_mC ci ai bi ii fl j hj, own_pxv, own_pyv]
  generalize v_x ci ai = x
  generalize v_y ci ai bi fl = y
  generalize v_r ci ai bi ii fl = r
  by_cases h1 : j = x
  · subst h1
    by_cases h2 : j = y
    · subst h2; cases v_aA fl <;> cases v_aB fl <;> by_cases h3 : j = r <;> simp [h3]
    · have h2' : ¬ y = j := fun q => h2 q.symm
      by_cases h3 : j = r
      · subst h3; cases v_aA fl <;> cases v_aB fl <;> simp [h2, h2']
      · cases v_aA fl <;> cases v_aB fl <;> simp [h2, h2', h3]
  · by_cases h2 : j = y
    · subst h2
      have h1' : ¬ x = j := fun q => h1 q.symm
      by_cases h3 : j = r
      · subst h3; cases v_aA fl <;> cases v_aB fl <;> simp [h1, h1']
      · cases v_aA fl <;> cases v_aB fl <;> simp [h1, h1', h3]
    · cases v_aA fl <;> cases v_aB fl <;> simp [h1, h2]
theorem own_hs (ci ai bi ii fl j : Int32) (hj : 0 ≤ j.toInt) (m : mem (v_wC ci ai bi ii fl) j = true) : v_sC ci ai bi ii fl ≠ 0 := by
  have s : v_sC ci ai bi ii fl = v_n ci ai bi ii fl := own_size ci ai bi ii fl
  rw [s]
  rw [own_mP ci ai bi ii fl j hj] at m
  have key : ∀ (px py : Bool) (q : Prop) [Decidable q] (d1 d2 : Bool), ((px && d1) || (py && d2)) = true → (q → d1 = d2) → (q → px = py) → (b2i (if px = true then true else false)) + (b2i (if py = true then (if q then false else true) else false)) ≠ 0 := by
    intro px py q _ d1 d2 h1 h2 h3
    by_cases hq : q
    · have := h2 hq; have := h3 hq; subst d1; subst py
      cases px <;> cases d2 <;> simp [hq] at h1 ⊢ <;> decide
    · cases px <;> cases py <;> simp [hq] at h1 ⊢ <;> decide
  exact key _ _ (v_y ci ai bi fl = v_x ci ai) _ _ m (fun q => by rw [q]) (fun q => by rw [own_pxv, own_pyv, q]; cases v_aA fl <;> cases v_aB fl <;> simp)
def own_np (ci ai bi ii fi fl : Int32) := own_nprem (v_cap ci) (own_vc1 ci).1 (own_vc1 ci).2 (v_wC ci ai bi ii fl) (v_uC ci ai bi ii fl) (own_invC ci ai bi ii fl) (v_from ci fi) (own_vf ci fi).1 (own_vf ci fi).2
theorem own_law1 (ci : Int32) (ai : Int32) (bi : Int32) (ii : Int32) (fi : Int32) (fl : Int32) : lawE1 ci ai bi ii fi fl = true := by
  refine if_pos ?_
  have c := own_vc1 ci
  have x := own_vx ci ai
  have y := own_vy ci ai bi fl
  have f := own_vf ci fi
  have n := own_next (v_cap ci) c.1 c.2 (v_wC ci ai bi ii fl) (v_uC ci ai bi ii fl) (v_sC ci ai bi ii fl) (own_invC ci ai bi ii fl) (fun j a _ m => own_hs ci ai bi ii fl j a m) (v_from ci fi) f.1 f.2
  generalize Fnext (v_from ci fi) (v_cap ci) (v_sC ci ai bi ii fl) (v_wC ci ai bi ii fl) (own_nw (own_nw (v_cap ci))) (v_uC ci ai bi ii fl) = r at *
  have mp := own_mP ci ai bi ii fl
  unfold v_cand v_c0
  generalize v_wC ci ai bi ii fl = w at *
  generalize v_px ci ai bi ii fl = px at *
  generalize v_py ci ai bi ii fl = py at *
  generalize v_x ci ai = vx at *
  generalize v_y ci ai bi fl = vy at *
  generalize v_from ci fi = vf at *
  have mx : px = true → mem w vx = true := fun q => by rw [mp vx x.1, q, decide_eq_true rfl]; rfl
  have my : py = true → mem w vy = true := fun q => by rw [mp vy y.1, q, decide_eq_true (rfl : vy = vy), Bool.true_and, Bool.or_true]
  have lm : (-1 : Int32).toInt = -1 := by decide
  have hr : (r = -1 ∧ (px = true → vx.toInt < vf.toInt) ∧ (py = true → vy.toInt < vf.toInt)) ∨ ((vf.toInt ≤ r.toInt ∧ ((px = true ∧ r.toInt = vx.toInt) ∨ (py = true ∧ r.toInt = vy.toInt))) ∧ (px = true → vx.toInt < vf.toInt ∨ r.toInt ≤ vx.toInt) ∧ (py = true → vy.toInt < vf.toInt ∨ r.toInt ≤ vy.toInt)) := by
    rcases n with ⟨n1, n2⟩ | ⟨n1, n2, n3, n4⟩
    · refine Or.inl ⟨n1, fun q => ?_, fun q => ?_⟩
      · refine Int.not_le.mp fun h => ?_
        have := mx q; rw [n2 vx h x.2] at this; cases this
      · refine Int.not_le.mp fun h => ?_
        have := my q; rw [n2 vy h y.2] at this; cases this
    · refine Or.inr ⟨⟨n1, ?_⟩, fun q => ?_, fun q => ?_⟩
      · rw [mp r (by omega)] at n3
        rcases Bool.or_eq_true_iff.mp n3 with h | h
        · rw [Bool.and_eq_true_iff] at h
          exact Or.inl ⟨h.1, by rw [of_decide_eq_true h.2]⟩
        · rw [Bool.and_eq_true_iff] at h
          exact Or.inr ⟨h.1, by rw [of_decide_eq_true h.2]⟩
      · by_cases h : vx.toInt < vf.toInt
        · exact Or.inl h
        · refine Or.inr (Int.not_lt.mp fun h2 => ?_)
          have := mx q; rw [n4 vx (by omega) h2] at this; cases this
      · by_cases h : vy.toInt < vf.toInt
        · exact Or.inl h
        · refine Or.inr (Int.not_lt.mp fun h2 => ?_)
          have := my q; rw [n4 vy (by omega) h2] at this; cases this
  have rl : r = -1 → r.toInt = -1 := fun q => by rw [q, lm]
  rcases hr with ⟨h1, h2, h3⟩ | ⟨⟨h1, h2⟩, h3, h4⟩
  · have c0 : (if px = true then (if vx < vf then (-1 : Int32) else vx) else (-1 : Int32)) = -1 := by
      by_cases P : px = true
      · rw [if_pos P, if_pos (by rw [Int32.lt_iff_toInt_lt]; exact h2 P)]
      · rw [if_neg P]
    rw [c0, h1]
    by_cases Q : py = true
    · rw [if_pos Q, if_pos (by rw [Int32.lt_iff_toInt_lt]; exact h3 Q)]
    · rw [if_neg Q]
  · by_cases P : px = true <;> by_cases Q : py = true
    · have h3 := h3 P
      have h4 := h4 Q
      have h2 : r.toInt = vx.toInt ∨ r.toInt = vy.toInt := h2.imp (·.2) (·.2)
      simp only [if_pos P, if_pos Q, Int32.lt_iff_toInt_lt, ← Int32.toInt_inj, lm]
      repeat' split
      all_goals omega
    · have h3 := h3 P
      have h2 : r.toInt = vx.toInt := h2.elim (·.2) (fun z => absurd z.1 Q)
      simp only [if_pos P, if_neg Q, Int32.lt_iff_toInt_lt, ← Int32.toInt_inj, lm]
      repeat' split
      all_goals omega
    · have h4 := h4 Q
      have h2 : r.toInt = vy.toInt := h2.elim (fun z => absurd z.1 P) (·.2)
      simp only [if_neg P, if_pos Q, Int32.lt_iff_toInt_lt, ← Int32.toInt_inj, lm, ↓reduceIte]
      repeat' split
      all_goals omega
    · exact h2.elim (fun z => absurd z.1 P) (fun z => absurd z.1 Q)
def Q0 (Z : State) (ci : Int32) (ai : Int32) (bi : Int32) (ii : Int32) (fi : Int32) (fl : Int32) (h0 : Heap) (n0 : Nat) (v : Option Value) (h : Heap) (L : List Loc) : Prop := v = some (.int (1 : Int32)) ∧ Fr n0 L
set_option maxRecDepth 65536 in
set_option maxHeartbeats 40000000 in
theorem rm0 (l : Launch) (Z : State) (a0 : Array Value) (hw : ∀ d ∈ tables_1, d.before a0 Z = true) (ws : List Jvm.Cond) (ci : Int32) (ai : Int32) (bi : Int32) (ii : Int32) (fi : Int32) (fl : Int32) (h0 : Heap) (n0 : Nat) (Z0 : n0 ≤ h0.size) :
    MetFree l x (head1 (Jvm.Cond.code x code maxLocals ret :: ws) room_1) (fun a U => a = #[(.int ci), (.int ai), (.int bi), (.int ii), (.int fi), (.int fl)] ∧ Z.Warmed39 U.vm ∧ U.heap = h0) (fun _ _ _ _ _ => True) (fun _ U o U' => ∃ v L, o = .returned v ∧ Q0 Z ci ai bi ii fi fl h0 n0 v U'.heap L ∧ FrameEnd U o U' L room_1.cells room_1.slots) := by
  refine MetFree.of_bodySF (plainFor_of_name pn_0) hisR ?_
  intro p e s m args below meth c s₁ Bd hml0 hP hK
  obtain ⟨rfl, hZ, hh⟩ := hP
  have hx := Bd.exec
  have hby := Bd.bytes
  have hml : c.maxLocals = 21 := hml0
  have hown : s.vm.findClass "com/example/cutline/cutline/IndexSetRemovePinLaw" = some m.cls := findClass_of_methodNamed Bd.named
  have hnm := (name_of_methodNamed Bd.named Bd.method).1
  have X0 : Stand p l e room_1 s m #[(.int ci), (.int ai), (.int bi), (.int ii), (.int fi), (.int fl)] below meth c s₁ [] 0 0 := Stand.of_body Bd
  have e0 : s₁.heap = h0 := by rw [← hh, Bd.state]; rfl
  have N0 := Fr.nil n0
  have pre0 : ∀ t, Steps p.tables e below (s₁.setTop (mkF m 0 #[.val (.int ci), .val (.int ai), .val (.int bi), .val (.int ii), .val (.int fi), .val (.int fl), .unset, .unset, .unset, .unset, .unset, .unset, .unset, .unset, .unset, .unset, .unset, .unset, .unset, .unset, .unset] [])) t → Steps p.tables e below (s₁.setTop (entryFrame m #[(.int ci), (.int ai), (.int bi), (.int ii), (.int fi), (.int fl)] maxLocals)) t := fun t k => castTop (ef_0 m ci ai bi ii fi fl) k
  have pre1 : ∀ t, Steps p.tables e below (s₁.setTop (mkF m 32 #[.val (.int ci), .val (.int ai), .val (.int bi), .val (.int ii), .val (.int fi), .val (.int fl), .val (.int (v_cap ci)), .val (.int (v_x ci ai)), .val (.int (v_y0 ci bi)), .unset, .unset, .unset, .unset, .unset, .unset, .unset, .unset, .unset, .unset, .unset, .unset] [(.int (fl &&& (16 : Int32)))])) t → Steps p.tables e below (s₁.setTop (entryFrame m #[(.int ci), (.int ai), (.int bi), (.int ii), (.int fi), (.int fl)] maxLocals)) t := by
    intro t k
    refine pre0 t ?_
    show Steps p.tables e below (s₁.setTop (mkF m 0 #[.val (.int ci), .val (.int ai), .val (.int bi), .val (.int ii), .val (.int fi), .val (.int fl), .unset, .unset, .unset, .unset, .unset, .unset, .unset, .unset, .unset, .unset, .unset, .unset, .unset, .unset, .unset] [])) _
    refine XS.iconst X0.here hx rfl (hb hby at_0) ?_
    show Steps p.tables e below (s₁.setTop (mkF m 1 #[.val (.int ci), .val (.int ai), .val (.int bi), .val (.int ii), .val (.int fi), .val (.int fl), .unset, .unset, .unset, .unset, .unset, .unset, .unset, .unset, .unset, .unset, .unset, .unset, .unset, .unset, .unset] [(.int (1 : Int32))])) _
    refine XS.iloadN X0.here hx rfl (hb hby at_1) rfl ?_
    show Steps p.tables e below (s₁.setTop (mkF m 2 #[.val (.int ci), .val (.int ai), .val (.int bi), .val (.int ii), .val (.int fi), .val (.int fl), .unset, .unset, .unset, .unset, .unset, .unset, .unset, .unset, .unset, .unset, .unset, .unset, .unset, .unset, .unset] [(.int ci), (.int (1 : Int32))])) _
    refine XS.sipush X0.here hx rfl (hb hby at_2) ?_
    show Steps p.tables e below (s₁.setTop (mkF m 5 #[.val (.int ci), .val (.int ai), .val (.int bi), .val (.int ii), .val (.int fi), .val (.int fl), .unset, .unset, .unset, .unset, .unset, .unset, .unset, .unset, .unset, .unset, .unset, .unset, .unset, .unset, .unset] [(.int (16383 : Int32)), (.int ci), (.int (1 : Int32))])) _
    refine XS.iand X0.here hx rfl (hb hby at_5) rfl ?_
    show Steps p.tables e below (s₁.setTop (mkF m 6 #[.val (.int ci), .val (.int ai), .val (.int bi), .val (.int ii), .val (.int fi), .val (.int fl), .unset, .unset, .unset, .unset, .unset, .unset, .unset, .unset, .unset, .unset, .unset, .unset, .unset, .unset, .unset] [(.int (ci &&& (16383 : Int32))), (.int (1 : Int32))])) _
    refine XS.iadd X0.here hx rfl (hb hby at_6) rfl ?_
    show Steps p.tables e below (s₁.setTop (mkF m 7 #[.val (.int ci), .val (.int ai), .val (.int bi), .val (.int ii), .val (.int fi), .val (.int fl), .unset, .unset, .unset, .unset, .unset, .unset, .unset, .unset, .unset, .unset, .unset, .unset, .unset, .unset, .unset] [(.int ((1 : Int32) + (ci &&& (16383 : Int32))))])) _
    refine XS.istore X0.here hx rfl (hb hby at_7) rfl (l' := #[.val (.int ci), .val (.int ai), .val (.int bi), .val (.int ii), .val (.int fi), .val (.int fl), .val (.int (v_cap ci)), .unset, .unset, .unset, .unset, .unset, .unset, .unset, .unset, .unset, .unset, .unset, .unset, .unset, .unset]) rfl ?_
    show Steps p.tables e below (s₁.setTop (mkF m 9 #[.val (.int ci), .val (.int ai), .val (.int bi), .val (.int ii), .val (.int fi), .val (.int fl), .val (.int (v_cap ci)), .unset, .unset, .unset, .unset, .unset, .unset, .unset, .unset, .unset, .unset, .unset, .unset, .unset, .unset] [])) _
    refine XS.iloadN X0.here hx rfl (hb hby at_9) rfl ?_
    show Steps p.tables e below (s₁.setTop (mkF m 10 #[.val (.int ci), .val (.int ai), .val (.int bi), .val (.int ii), .val (.int fi), .val (.int fl), .val (.int (v_cap ci)), .unset, .unset, .unset, .unset, .unset, .unset, .unset, .unset, .unset, .unset, .unset, .unset, .unset, .unset] [(.int ai)])) _
    refine X0.ldcInt hx hown (mvT hZ (hw _ (List.mem_of_getElem? (i := 0) rfl))) (g := (mkF m 10 #[.val (.int ci), .val (.int ai), .val (.int bi), .val (.int ii), .val (.int fi), .val (.int fl), .val (.int (v_cap ci)), .unset, .unset, .unset, .unset, .unset, .unset, .unset, .unset, .unset, .unset, .unset, .unset, .unset, .unset] [(.int ai)])) rfl (hb hby at_10) _ ?_
    show Steps p.tables e below (s₁.setTop (mkF m 12 #[.val (.int ci), .val (.int ai), .val (.int bi), .val (.int ii), .val (.int fi), .val (.int fl), .val (.int (v_cap ci)), .unset, .unset, .unset, .unset, .unset, .unset, .unset, .unset, .unset, .unset, .unset, .unset, .unset, .unset] [(.int (2147483647 : Int32)), (.int ai)])) _
    refine XS.iand X0.here hx rfl (hb hby at_12) rfl ?_
    show Steps p.tables e below (s₁.setTop (mkF m 13 #[.val (.int ci), .val (.int ai), .val (.int bi), .val (.int ii), .val (.int fi), .val (.int fl), .val (.int (v_cap ci)), .unset, .unset, .unset, .unset, .unset, .unset, .unset, .unset, .unset, .unset, .unset, .unset, .unset, .unset] [(.int (ai &&& (2147483647 : Int32)))])) _
    refine XS.iload X0.here hx rfl (hb hby at_13) rfl ?_
    show Steps p.tables e below (s₁.setTop (mkF m 15 #[.val (.int ci), .val (.int ai), .val (.int bi), .val (.int ii), .val (.int fi), .val (.int fl), .val (.int (v_cap ci)), .unset, .unset, .unset, .unset, .unset, .unset, .unset, .unset, .unset, .unset, .unset, .unset, .unset, .unset] [(.int (v_cap ci)), (.int (ai &&& (2147483647 : Int32)))])) _
    refine iremM X0 hx rfl (hb hby at_15) rfl (own_nz ci) ?_
    show Steps p.tables e below (s₁.setTop (mkF m 16 #[.val (.int ci), .val (.int ai), .val (.int bi), .val (.int ii), .val (.int fi), .val (.int fl), .val (.int (v_cap ci)), .unset, .unset, .unset, .unset, .unset, .unset, .unset, .unset, .unset, .unset, .unset, .unset, .unset, .unset] [(.int ((ai &&& (2147483647 : Int32)) % (v_cap ci)))])) _
    refine XS.istore X0.here hx rfl (hb hby at_16) rfl (l' := #[.val (.int ci), .val (.int ai), .val (.int bi), .val (.int ii), .val (.int fi), .val (.int fl), .val (.int (v_cap ci)), .val (.int (v_x ci ai)), .unset, .unset, .unset, .unset, .unset, .unset, .unset, .unset, .unset, .unset, .unset, .unset, .unset]) rfl ?_
    show Steps p.tables e below (s₁.setTop (mkF m 18 #[.val (.int ci), .val (.int ai), .val (.int bi), .val (.int ii), .val (.int fi), .val (.int fl), .val (.int (v_cap ci)), .val (.int (v_x ci ai)), .unset, .unset, .unset, .unset, .unset, .unset, .unset, .unset, .unset, .unset, .unset, .unset, .unset] [])) _
    refine XS.iloadN X0.here hx rfl (hb hby at_18) rfl ?_
    show Steps p.tables e below (s₁.setTop (mkF m 19 #[.val (.int ci), .val (.int ai), .val (.int bi), .val (.int ii), .val (.int fi), .val (.int fl), .val (.int (v_cap ci)), .val (.int (v_x ci ai)), .unset, .unset, .unset, .unset, .unset, .unset, .unset, .unset, .unset, .unset, .unset, .unset, .unset] [(.int bi)])) _
    refine X0.ldcInt hx hown (mvT hZ (hw _ (List.mem_of_getElem? (i := 0) rfl))) (g := (mkF m 19 #[.val (.int ci), .val (.int ai), .val (.int bi), .val (.int ii), .val (.int fi), .val (.int fl), .val (.int (v_cap ci)), .val (.int (v_x ci ai)), .unset, .unset, .unset, .unset, .unset, .unset, .unset, .unset, .unset, .unset, .unset, .unset, .unset] [(.int bi)])) rfl (hb hby at_19) _ ?_
    show Steps p.tables e below (s₁.setTop (mkF m 21 #[.val (.int ci), .val (.int ai), .val (.int bi), .val (.int ii), .val (.int fi), .val (.int fl), .val (.int (v_cap ci)), .val (.int (v_x ci ai)), .unset, .unset, .unset, .unset, .unset, .unset, .unset, .unset, .unset, .unset, .unset, .unset, .unset] [(.int (2147483647 : Int32)), (.int bi)])) _
    refine XS.iand X0.here hx rfl (hb hby at_21) rfl ?_
    show Steps p.tables e below (s₁.setTop (mkF m 22 #[.val (.int ci), .val (.int ai), .val (.int bi), .val (.int ii), .val (.int fi), .val (.int fl), .val (.int (v_cap ci)), .val (.int (v_x ci ai)), .unset, .unset, .unset, .unset, .unset, .unset, .unset, .unset, .unset, .unset, .unset, .unset, .unset] [(.int (bi &&& (2147483647 : Int32)))])) _
    refine XS.iload X0.here hx rfl (hb hby at_22) rfl ?_
    show Steps p.tables e below (s₁.setTop (mkF m 24 #[.val (.int ci), .val (.int ai), .val (.int bi), .val (.int ii), .val (.int fi), .val (.int fl), .val (.int (v_cap ci)), .val (.int (v_x ci ai)), .unset, .unset, .unset, .unset, .unset, .unset, .unset, .unset, .unset, .unset, .unset, .unset, .unset] [(.int (v_cap ci)), (.int (bi &&& (2147483647 : Int32)))])) _
    refine iremM X0 hx rfl (hb hby at_24) rfl (own_nz ci) ?_
    show Steps p.tables e below (s₁.setTop (mkF m 25 #[.val (.int ci), .val (.int ai), .val (.int bi), .val (.int ii), .val (.int fi), .val (.int fl), .val (.int (v_cap ci)), .val (.int (v_x ci ai)), .unset, .unset, .unset, .unset, .unset, .unset, .unset, .unset, .unset, .unset, .unset, .unset, .unset] [(.int ((bi &&& (2147483647 : Int32)) % (v_cap ci)))])) _
    refine XS.istore X0.here hx rfl (hb hby at_25) rfl (l' := #[.val (.int ci), .val (.int ai), .val (.int bi), .val (.int ii), .val (.int fi), .val (.int fl), .val (.int (v_cap ci)), .val (.int (v_x ci ai)), .val (.int (v_y0 ci bi)), .unset, .unset, .unset, .unset, .unset, .unset, .unset, .unset, .unset, .unset, .unset, .unset]) rfl ?_
    show Steps p.tables e below (s₁.setTop (mkF m 27 #[.val (.int ci), .val (.int ai), .val (.int bi), .val (.int ii), .val (.int fi), .val (.int fl), .val (.int (v_cap ci)), .val (.int (v_x ci ai)), .val (.int (v_y0 ci bi)), .unset, .unset, .unset, .unset, .unset, .unset, .unset, .unset, .unset, .unset, .unset, .unset] [])) _
    refine XS.iload X0.here hx rfl (hb hby at_27) rfl ?_
    show Steps p.tables e below (s₁.setTop (mkF m 29 #[.val (.int ci), .val (.int ai), .val (.int bi), .val (.int ii), .val (.int fi), .val (.int fl), .val (.int (v_cap ci)), .val (.int (v_x ci ai)), .val (.int (v_y0 ci bi)), .unset, .unset, .unset, .unset, .unset, .unset, .unset, .unset, .unset, .unset, .unset, .unset] [(.int fl)])) _
    refine XS.bipush X0.here hx rfl (hb hby at_29) ?_
    show Steps p.tables e below (s₁.setTop (mkF m 31 #[.val (.int ci), .val (.int ai), .val (.int bi), .val (.int ii), .val (.int fi), .val (.int fl), .val (.int (v_cap ci)), .val (.int (v_x ci ai)), .val (.int (v_y0 ci bi)), .unset, .unset, .unset, .unset, .unset, .unset, .unset, .unset, .unset, .unset, .unset, .unset] [(.int (16 : Int32)), (.int fl)])) _
    refine XS.iand X0.here hx rfl (hb hby at_31) rfl ?_
    exact k
  have pre2 : ∀ t, Steps p.tables e below (s₁.setTop (mkF m 58 #[.val (.int ci), .val (.int ai), .val (.int bi), .val (.int ii), .val (.int fi), .val (.int fl), .val (.int (v_cap ci)), .val (.int (v_x ci ai)), .val (.int (v_y ci ai bi fl)), (if (fl &&& (16 : Int32)) = (0 : Int32) then (.unset) else (.val (.int (v_z ci ai bi)))), .unset, .unset, .unset, .unset, .unset, .unset, .unset, .unset, .unset, .unset, .unset] [])) t → Steps p.tables e below (s₁.setTop (entryFrame m #[(.int ci), (.int ai), (.int bi), (.int ii), (.int fi), (.int fl)] maxLocals)) t := by
    intro t k
    refine pre1 t ?_
    have k : ∀ (v1 : Int32) (v2 : Slot), v1 = (if (fl &&& (16 : Int32)) = (0 : Int32) then (v_y0 ci bi) else (if (v_z ci ai bi) < (v_cap ci) then (v_z ci ai bi) else (v_y0 ci bi))) → v2 = (if (fl &&& (16 : Int32)) = (0 : Int32) then (.unset) else (.val (.int (v_z ci ai bi)))) → Steps p.tables e below (s₁.setTop (mkF m 58 #[.val (.int ci), .val (.int ai), .val (.int bi), .val (.int ii), .val (.int fi), .val (.int fl), .val (.int (v_cap ci)), .val (.int (v_x ci ai)), .val (.int v1), v2, .unset, .unset, .unset, .unset, .unset, .unset, .unset, .unset, .unset, .unset, .unset] [])) t := fun v1 v2 hv1 hv2 => by subst hv1 hv2; exact k
    show Steps p.tables e below (s₁.setTop (mkF m 32 #[.val (.int ci), .val (.int ai), .val (.int bi), .val (.int ii), .val (.int fi), .val (.int fl), .val (.int (v_cap ci)), .val (.int (v_x ci ai)), .val (.int (v_y0 ci bi)), .unset, .unset, .unset, .unset, .unset, .unset, .unset, .unset, .unset, .unset, .unset, .unset] [(.int (fl &&& (16 : Int32)))])) _
    by_cases hc3 : (fl &&& (16 : Int32)) = (0 : Int32)
    · refine XS.ifYes X0.here hx rfl (pc0 := 32) (pc' := 58) rfl (hb hby at_32) rfl ((if0 _ _).trans (teq hc3).1) (by decide) (by decide) ?_
      have k : ∀ (v1 : Int32) (v2 : Slot), v1 = (v_y0 ci bi) → v2 = (.unset) → Steps p.tables e below (s₁.setTop (mkF m 58 #[.val (.int ci), .val (.int ai), .val (.int bi), .val (.int ii), .val (.int fi), .val (.int fl), .val (.int (v_cap ci)), .val (.int (v_x ci ai)), .val (.int v1), v2, .unset, .unset, .unset, .unset, .unset, .unset, .unset, .unset, .unset, .unset, .unset] [])) t := fun v1 v2 hv1 hv2 => k v1 v2 (hv1.trans (if_pos hc3).symm) (hv2.trans (if_pos hc3).symm)
      exact k _ _ rfl rfl
    · refine XS.ifNo X0.here hx rfl (hb hby at_32) rfl ((if0 _ _).trans (feq hc3).1) ?_
      have k : ∀ (v1 : Int32) (v2 : Slot), v1 = (if (v_z ci ai bi) < (v_cap ci) then (v_z ci ai bi) else (v_y0 ci bi)) → v2 = (.val (.int (v_z ci ai bi))) → Steps p.tables e below (s₁.setTop (mkF m 58 #[.val (.int ci), .val (.int ai), .val (.int bi), .val (.int ii), .val (.int fi), .val (.int fl), .val (.int (v_cap ci)), .val (.int (v_x ci ai)), .val (.int v1), v2, .unset, .unset, .unset, .unset, .unset, .unset, .unset, .unset, .unset, .unset, .unset] [])) t := fun v1 v2 hv1 hv2 => k v1 v2 (hv1.trans (if_neg hc3).symm) (hv2.trans (if_neg hc3).symm)
      show Steps p.tables e below (s₁.setTop (mkF m 35 #[.val (.int ci), .val (.int ai), .val (.int bi), .val (.int ii), .val (.int fi), .val (.int fl), .val (.int (v_cap ci)), .val (.int (v_x ci ai)), .val (.int (v_y0 ci bi)), .unset, .unset, .unset, .unset, .unset, .unset, .unset, .unset, .unset, .unset, .unset, .unset] [])) _
      refine XS.iload X0.here hx rfl (hb hby at_35) rfl ?_
      show Steps p.tables e below (s₁.setTop (mkF m 37 #[.val (.int ci), .val (.int ai), .val (.int bi), .val (.int ii), .val (.int fi), .val (.int fl), .val (.int (v_cap ci)), .val (.int (v_x ci ai)), .val (.int (v_y0 ci bi)), .unset, .unset, .unset, .unset, .unset, .unset, .unset, .unset, .unset, .unset, .unset, .unset] [(.int (v_x ci ai))])) _
      refine XS.bipush X0.here hx rfl (hb hby at_37) ?_
      show Steps p.tables e below (s₁.setTop (mkF m 39 #[.val (.int ci), .val (.int ai), .val (.int bi), .val (.int ii), .val (.int fi), .val (.int fl), .val (.int (v_cap ci)), .val (.int (v_x ci ai)), .val (.int (v_y0 ci bi)), .unset, .unset, .unset, .unset, .unset, .unset, .unset, .unset, .unset, .unset, .unset, .unset] [(.int (-64 : Int32)), (.int (v_x ci ai))])) _
      refine XS.iand X0.here hx rfl (hb hby at_39) rfl ?_
      show Steps p.tables e below (s₁.setTop (mkF m 40 #[.val (.int ci), .val (.int ai), .val (.int bi), .val (.int ii), .val (.int fi), .val (.int fl), .val (.int (v_cap ci)), .val (.int (v_x ci ai)), .val (.int (v_y0 ci bi)), .unset, .unset, .unset, .unset, .unset, .unset, .unset, .unset, .unset, .unset, .unset, .unset] [(.int ((v_x ci ai) &&& (-64 : Int32)))])) _
      refine XS.iloadN X0.here hx rfl (hb hby at_40) rfl ?_
      show Steps p.tables e below (s₁.setTop (mkF m 41 #[.val (.int ci), .val (.int ai), .val (.int bi), .val (.int ii), .val (.int fi), .val (.int fl), .val (.int (v_cap ci)), .val (.int (v_x ci ai)), .val (.int (v_y0 ci bi)), .unset, .unset, .unset, .unset, .unset, .unset, .unset, .unset, .unset, .unset, .unset, .unset] [(.int bi), (.int ((v_x ci ai) &&& (-64 : Int32)))])) _
      refine XS.bipush X0.here hx rfl (hb hby at_41) ?_
      show Steps p.tables e below (s₁.setTop (mkF m 43 #[.val (.int ci), .val (.int ai), .val (.int bi), .val (.int ii), .val (.int fi), .val (.int fl), .val (.int (v_cap ci)), .val (.int (v_x ci ai)), .val (.int (v_y0 ci bi)), .unset, .unset, .unset, .unset, .unset, .unset, .unset, .unset, .unset, .unset, .unset, .unset] [(.int (63 : Int32)), (.int bi), (.int ((v_x ci ai) &&& (-64 : Int32)))])) _
      refine XS.iand X0.here hx rfl (hb hby at_43) rfl ?_
      show Steps p.tables e below (s₁.setTop (mkF m 44 #[.val (.int ci), .val (.int ai), .val (.int bi), .val (.int ii), .val (.int fi), .val (.int fl), .val (.int (v_cap ci)), .val (.int (v_x ci ai)), .val (.int (v_y0 ci bi)), .unset, .unset, .unset, .unset, .unset, .unset, .unset, .unset, .unset, .unset, .unset, .unset] [(.int (bi &&& (63 : Int32))), (.int ((v_x ci ai) &&& (-64 : Int32)))])) _
      refine XS.ior X0.here hx rfl (hb hby at_44) rfl ?_
      show Steps p.tables e below (s₁.setTop (mkF m 45 #[.val (.int ci), .val (.int ai), .val (.int bi), .val (.int ii), .val (.int fi), .val (.int fl), .val (.int (v_cap ci)), .val (.int (v_x ci ai)), .val (.int (v_y0 ci bi)), .unset, .unset, .unset, .unset, .unset, .unset, .unset, .unset, .unset, .unset, .unset, .unset] [(.int (((v_x ci ai) &&& (-64 : Int32)) ||| (bi &&& (63 : Int32))))])) _
      refine XS.istore X0.here hx rfl (hb hby at_45) rfl (l' := #[.val (.int ci), .val (.int ai), .val (.int bi), .val (.int ii), .val (.int fi), .val (.int fl), .val (.int (v_cap ci)), .val (.int (v_x ci ai)), .val (.int (v_y0 ci bi)), .val (.int (v_z ci ai bi)), .unset, .unset, .unset, .unset, .unset, .unset, .unset, .unset, .unset, .unset, .unset]) rfl ?_
      show Steps p.tables e below (s₁.setTop (mkF m 47 #[.val (.int ci), .val (.int ai), .val (.int bi), .val (.int ii), .val (.int fi), .val (.int fl), .val (.int (v_cap ci)), .val (.int (v_x ci ai)), .val (.int (v_y0 ci bi)), .val (.int (v_z ci ai bi)), .unset, .unset, .unset, .unset, .unset, .unset, .unset, .unset, .unset, .unset, .unset] [])) _
      refine XS.iload X0.here hx rfl (hb hby at_47) rfl ?_
      show Steps p.tables e below (s₁.setTop (mkF m 49 #[.val (.int ci), .val (.int ai), .val (.int bi), .val (.int ii), .val (.int fi), .val (.int fl), .val (.int (v_cap ci)), .val (.int (v_x ci ai)), .val (.int (v_y0 ci bi)), .val (.int (v_z ci ai bi)), .unset, .unset, .unset, .unset, .unset, .unset, .unset, .unset, .unset, .unset, .unset] [(.int (v_z ci ai bi))])) _
      refine XS.iload X0.here hx rfl (hb hby at_49) rfl ?_
      show Steps p.tables e below (s₁.setTop (mkF m 51 #[.val (.int ci), .val (.int ai), .val (.int bi), .val (.int ii), .val (.int fi), .val (.int fl), .val (.int (v_cap ci)), .val (.int (v_x ci ai)), .val (.int (v_y0 ci bi)), .val (.int (v_z ci ai bi)), .unset, .unset, .unset, .unset, .unset, .unset, .unset, .unset, .unset, .unset, .unset] [(.int (v_cap ci)), (.int (v_z ci ai bi))])) _
      by_cases hc4 : (v_z ci ai bi) < (v_cap ci)
      · refine XS.icmpNo X0.here hx rfl (hb hby at_51) rfl (tlt hc4).2.1 ?_
        have k : ∀ (v1 : Int32) (v2 : Slot), v1 = (v_z ci ai bi) → v2 = (.val (.int (v_z ci ai bi))) → Steps p.tables e below (s₁.setTop (mkF m 58 #[.val (.int ci), .val (.int ai), .val (.int bi), .val (.int ii), .val (.int fi), .val (.int fl), .val (.int (v_cap ci)), .val (.int (v_x ci ai)), .val (.int v1), v2, .unset, .unset, .unset, .unset, .unset, .unset, .unset, .unset, .unset, .unset, .unset] [])) t := fun v1 v2 hv1 hv2 => k v1 v2 (hv1.trans (if_pos hc4).symm) hv2
        show Steps p.tables e below (s₁.setTop (mkF m 54 #[.val (.int ci), .val (.int ai), .val (.int bi), .val (.int ii), .val (.int fi), .val (.int fl), .val (.int (v_cap ci)), .val (.int (v_x ci ai)), .val (.int (v_y0 ci bi)), .val (.int (v_z ci ai bi)), .unset, .unset, .unset, .unset, .unset, .unset, .unset, .unset, .unset, .unset, .unset] [])) _
        refine XS.iload X0.here hx rfl (hb hby at_54) rfl ?_
        show Steps p.tables e below (s₁.setTop (mkF m 56 #[.val (.int ci), .val (.int ai), .val (.int bi), .val (.int ii), .val (.int fi), .val (.int fl), .val (.int (v_cap ci)), .val (.int (v_x ci ai)), .val (.int (v_y0 ci bi)), .val (.int (v_z ci ai bi)), .unset, .unset, .unset, .unset, .unset, .unset, .unset, .unset, .unset, .unset, .unset] [(.int (v_z ci ai bi))])) _
        refine XS.istore X0.here hx rfl (hb hby at_56) rfl (l' := #[.val (.int ci), .val (.int ai), .val (.int bi), .val (.int ii), .val (.int fi), .val (.int fl), .val (.int (v_cap ci)), .val (.int (v_x ci ai)), .val (.int (v_z ci ai bi)), .val (.int (v_z ci ai bi)), .unset, .unset, .unset, .unset, .unset, .unset, .unset, .unset, .unset, .unset, .unset]) rfl ?_
        exact k _ _ rfl rfl
      · refine XS.icmpYes X0.here hx rfl (pc0 := 51) (pc' := 58) rfl (hb hby at_51) rfl (flt hc4).2.1 (by decide) (by decide) ?_
        have k : ∀ (v1 : Int32) (v2 : Slot), v1 = (v_y0 ci bi) → v2 = (.val (.int (v_z ci ai bi))) → Steps p.tables e below (s₁.setTop (mkF m 58 #[.val (.int ci), .val (.int ai), .val (.int bi), .val (.int ii), .val (.int fi), .val (.int fl), .val (.int (v_cap ci)), .val (.int (v_x ci ai)), .val (.int v1), v2, .unset, .unset, .unset, .unset, .unset, .unset, .unset, .unset, .unset, .unset, .unset] [])) t := fun v1 v2 hv1 hv2 => k v1 v2 (hv1.trans (if_neg hc4).symm) hv2
        exact k _ _ rfl rfl
  have pre5 : ∀ t, Steps p.tables e below (s₁.setTop (mkF m 66 #[.val (.int ci), .val (.int ai), .val (.int bi), .val (.int ii), .val (.int fi), .val (.int fl), .val (.int (v_cap ci)), .val (.int (v_x ci ai)), .val (.int (v_y ci ai bi fl)), .val (.int (v_sel fl)), .unset, .unset, .unset, .unset, .unset, .unset, .unset, .unset, .unset, .unset, .unset] [(.int (v_sel fl))])) t → Steps p.tables e below (s₁.setTop (entryFrame m #[(.int ci), (.int ai), (.int bi), (.int ii), (.int fi), (.int fl)] maxLocals)) t := by
    intro t k
    refine pre2 t ?_
    show Steps p.tables e below (s₁.setTop (mkF m 58 #[.val (.int ci), .val (.int ai), .val (.int bi), .val (.int ii), .val (.int fi), .val (.int fl), .val (.int (v_cap ci)), .val (.int (v_x ci ai)), .val (.int (v_y ci ai bi fl)), (if (fl &&& (16 : Int32)) = (0 : Int32) then (.unset) else (.val (.int (v_z ci ai bi)))), .unset, .unset, .unset, .unset, .unset, .unset, .unset, .unset, .unset, .unset, .unset] [])) _
    refine XS.iload X0.here hx rfl (hb hby at_58) rfl ?_
    show Steps p.tables e below (s₁.setTop (mkF m 60 #[.val (.int ci), .val (.int ai), .val (.int bi), .val (.int ii), .val (.int fi), .val (.int fl), .val (.int (v_cap ci)), .val (.int (v_x ci ai)), .val (.int (v_y ci ai bi fl)), (if (fl &&& (16 : Int32)) = (0 : Int32) then (.unset) else (.val (.int (v_z ci ai bi)))), .unset, .unset, .unset, .unset, .unset, .unset, .unset, .unset, .unset, .unset, .unset] [(.int fl)])) _
    refine XS.iconst X0.here hx rfl (hb hby at_60) ?_
    show Steps p.tables e below (s₁.setTop (mkF m 61 #[.val (.int ci), .val (.int ai), .val (.int bi), .val (.int ii), .val (.int fi), .val (.int fl), .val (.int (v_cap ci)), .val (.int (v_x ci ai)), .val (.int (v_y ci ai bi fl)), (if (fl &&& (16 : Int32)) = (0 : Int32) then (.unset) else (.val (.int (v_z ci ai bi)))), .unset, .unset, .unset, .unset, .unset, .unset, .unset, .unset, .unset, .unset, .unset] [(.int (3 : Int32)), (.int fl)])) _
    refine XS.iand X0.here hx rfl (hb hby at_61) rfl ?_
    show Steps p.tables e below (s₁.setTop (mkF m 62 #[.val (.int ci), .val (.int ai), .val (.int bi), .val (.int ii), .val (.int fi), .val (.int fl), .val (.int (v_cap ci)), .val (.int (v_x ci ai)), .val (.int (v_y ci ai bi fl)), (if (fl &&& (16 : Int32)) = (0 : Int32) then (.unset) else (.val (.int (v_z ci ai bi)))), .unset, .unset, .unset, .unset, .unset, .unset, .unset, .unset, .unset, .unset, .unset] [(.int (fl &&& (3 : Int32)))])) _
    refine XS.istore X0.here hx rfl (hb hby at_62) rfl (l' := #[.val (.int ci), .val (.int ai), .val (.int bi), .val (.int ii), .val (.int fi), .val (.int fl), .val (.int (v_cap ci)), .val (.int (v_x ci ai)), .val (.int (v_y ci ai bi fl)), .val (.int (v_sel fl)), .unset, .unset, .unset, .unset, .unset, .unset, .unset, .unset, .unset, .unset, .unset]) (by split <;> rfl) ?_
    show Steps p.tables e below (s₁.setTop (mkF m 64 #[.val (.int ci), .val (.int ai), .val (.int bi), .val (.int ii), .val (.int fi), .val (.int fl), .val (.int (v_cap ci)), .val (.int (v_x ci ai)), .val (.int (v_y ci ai bi fl)), .val (.int (v_sel fl)), .unset, .unset, .unset, .unset, .unset, .unset, .unset, .unset, .unset, .unset, .unset] [])) _
    refine XS.iload X0.here hx rfl (hb hby at_64) rfl ?_
    exact k
  have pre6 : ∀ t, Steps p.tables e below (s₁.setTop (mkF m 98 #[.val (.int ci), .val (.int ai), .val (.int bi), .val (.int ii), .val (.int fi), .val (.int fl), .val (.int (v_cap ci)), .val (.int (v_x ci ai)), .val (.int (v_y ci ai bi fl)), .val (.int (v_sel fl)), .val (.int (v_r ci ai bi ii fl)), .unset, .unset, .unset, .unset, .unset, .unset, .unset, .unset, .unset, .unset] [])) t → Steps p.tables e below (s₁.setTop (entryFrame m #[(.int ci), (.int ai), (.int bi), (.int ii), (.int fi), (.int fl)] maxLocals)) t := by
    intro t k
    refine pre5 t ?_
    have k : ∀ (v1 : Int32), v1 = (if (v_sel fl) = (0 : Int32) then (v_x ci ai) else (if (v_sel fl) = (1 : Int32) then (v_y ci ai bi fl) else (v_r0 ci ii))) → Steps p.tables e below (s₁.setTop (mkF m 98 #[.val (.int ci), .val (.int ai), .val (.int bi), .val (.int ii), .val (.int fi), .val (.int fl), .val (.int (v_cap ci)), .val (.int (v_x ci ai)), .val (.int (v_y ci ai bi fl)), .val (.int (v_sel fl)), .val (.int v1), .unset, .unset, .unset, .unset, .unset, .unset, .unset, .unset, .unset, .unset] [])) t := fun v1 hv1 => by subst hv1; exact k
    show Steps p.tables e below (s₁.setTop (mkF m 66 #[.val (.int ci), .val (.int ai), .val (.int bi), .val (.int ii), .val (.int fi), .val (.int fl), .val (.int (v_cap ci)), .val (.int (v_x ci ai)), .val (.int (v_y ci ai bi fl)), .val (.int (v_sel fl)), .unset, .unset, .unset, .unset, .unset, .unset, .unset, .unset, .unset, .unset, .unset] [(.int (v_sel fl))])) _
    by_cases hc7 : (v_sel fl) = (0 : Int32)
    · refine XS.ifNo X0.here hx rfl (hb hby at_66) rfl ((if0 _ _).trans (teq hc7).2) ?_
      have k : ∀ (v1 : Int32), v1 = (v_x ci ai) → Steps p.tables e below (s₁.setTop (mkF m 98 #[.val (.int ci), .val (.int ai), .val (.int bi), .val (.int ii), .val (.int fi), .val (.int fl), .val (.int (v_cap ci)), .val (.int (v_x ci ai)), .val (.int (v_y ci ai bi fl)), .val (.int (v_sel fl)), .val (.int v1), .unset, .unset, .unset, .unset, .unset, .unset, .unset, .unset, .unset, .unset] [])) t := fun v1 hv1 => k v1 (hv1.trans (if_pos hc7).symm)
      show Steps p.tables e below (s₁.setTop (mkF m 69 #[.val (.int ci), .val (.int ai), .val (.int bi), .val (.int ii), .val (.int fi), .val (.int fl), .val (.int (v_cap ci)), .val (.int (v_x ci ai)), .val (.int (v_y ci ai bi fl)), .val (.int (v_sel fl)), .unset, .unset, .unset, .unset, .unset, .unset, .unset, .unset, .unset, .unset, .unset] [])) _
      refine XS.iload X0.here hx rfl (hb hby at_69) rfl ?_
      show Steps p.tables e below (s₁.setTop (mkF m 71 #[.val (.int ci), .val (.int ai), .val (.int bi), .val (.int ii), .val (.int fi), .val (.int fl), .val (.int (v_cap ci)), .val (.int (v_x ci ai)), .val (.int (v_y ci ai bi fl)), .val (.int (v_sel fl)), .unset, .unset, .unset, .unset, .unset, .unset, .unset, .unset, .unset, .unset, .unset] [(.int (v_x ci ai))])) _
      refine XS.istore X0.here hx rfl (hb hby at_71) rfl (l' := #[.val (.int ci), .val (.int ai), .val (.int bi), .val (.int ii), .val (.int fi), .val (.int fl), .val (.int (v_cap ci)), .val (.int (v_x ci ai)), .val (.int (v_y ci ai bi fl)), .val (.int (v_sel fl)), .val (.int (v_x ci ai)), .unset, .unset, .unset, .unset, .unset, .unset, .unset, .unset, .unset, .unset]) rfl ?_
      show Steps p.tables e below (s₁.setTop (mkF m 73 #[.val (.int ci), .val (.int ai), .val (.int bi), .val (.int ii), .val (.int fi), .val (.int fl), .val (.int (v_cap ci)), .val (.int (v_x ci ai)), .val (.int (v_y ci ai bi fl)), .val (.int (v_sel fl)), .val (.int (v_x ci ai)), .unset, .unset, .unset, .unset, .unset, .unset, .unset, .unset, .unset, .unset] [])) _
      refine XS.goto X0.here hx rfl (pc0 := 73) (pc' := 98) rfl (hb hby at_73) (by decide) (by decide) ?_
      exact k _ rfl
    · refine XS.ifYes X0.here hx rfl (pc0 := 66) (pc' := 76) rfl (hb hby at_66) rfl ((if0 _ _).trans (feq hc7).2) (by decide) (by decide) ?_
      have k : ∀ (v1 : Int32), v1 = (if (v_sel fl) = (1 : Int32) then (v_y ci ai bi fl) else (v_r0 ci ii)) → Steps p.tables e below (s₁.setTop (mkF m 98 #[.val (.int ci), .val (.int ai), .val (.int bi), .val (.int ii), .val (.int fi), .val (.int fl), .val (.int (v_cap ci)), .val (.int (v_x ci ai)), .val (.int (v_y ci ai bi fl)), .val (.int (v_sel fl)), .val (.int v1), .unset, .unset, .unset, .unset, .unset, .unset, .unset, .unset, .unset, .unset] [])) t := fun v1 hv1 => k v1 (hv1.trans (if_neg hc7).symm)
      show Steps p.tables e below (s₁.setTop (mkF m 76 #[.val (.int ci), .val (.int ai), .val (.int bi), .val (.int ii), .val (.int fi), .val (.int fl), .val (.int (v_cap ci)), .val (.int (v_x ci ai)), .val (.int (v_y ci ai bi fl)), .val (.int (v_sel fl)), .unset, .unset, .unset, .unset, .unset, .unset, .unset, .unset, .unset, .unset, .unset] [])) _
      refine XS.iload X0.here hx rfl (hb hby at_76) rfl ?_
      show Steps p.tables e below (s₁.setTop (mkF m 78 #[.val (.int ci), .val (.int ai), .val (.int bi), .val (.int ii), .val (.int fi), .val (.int fl), .val (.int (v_cap ci)), .val (.int (v_x ci ai)), .val (.int (v_y ci ai bi fl)), .val (.int (v_sel fl)), .unset, .unset, .unset, .unset, .unset, .unset, .unset, .unset, .unset, .unset, .unset] [(.int (v_sel fl))])) _
      refine XS.iconst X0.here hx rfl (hb hby at_78) ?_
      show Steps p.tables e below (s₁.setTop (mkF m 79 #[.val (.int ci), .val (.int ai), .val (.int bi), .val (.int ii), .val (.int fi), .val (.int fl), .val (.int (v_cap ci)), .val (.int (v_x ci ai)), .val (.int (v_y ci ai bi fl)), .val (.int (v_sel fl)), .unset, .unset, .unset, .unset, .unset, .unset, .unset, .unset, .unset, .unset, .unset] [(.int (1 : Int32)), (.int (v_sel fl))])) _
      by_cases hc8 : (v_sel fl) = (1 : Int32)
      · refine XS.icmpNo X0.here hx rfl (hb hby at_79) rfl (teq hc8).2 ?_
        have k : ∀ (v1 : Int32), v1 = (v_y ci ai bi fl) → Steps p.tables e below (s₁.setTop (mkF m 98 #[.val (.int ci), .val (.int ai), .val (.int bi), .val (.int ii), .val (.int fi), .val (.int fl), .val (.int (v_cap ci)), .val (.int (v_x ci ai)), .val (.int (v_y ci ai bi fl)), .val (.int (v_sel fl)), .val (.int v1), .unset, .unset, .unset, .unset, .unset, .unset, .unset, .unset, .unset, .unset] [])) t := fun v1 hv1 => k v1 (hv1.trans (if_pos hc8).symm)
        show Steps p.tables e below (s₁.setTop (mkF m 82 #[.val (.int ci), .val (.int ai), .val (.int bi), .val (.int ii), .val (.int fi), .val (.int fl), .val (.int (v_cap ci)), .val (.int (v_x ci ai)), .val (.int (v_y ci ai bi fl)), .val (.int (v_sel fl)), .unset, .unset, .unset, .unset, .unset, .unset, .unset, .unset, .unset, .unset, .unset] [])) _
        refine XS.iload X0.here hx rfl (hb hby at_82) rfl ?_
        show Steps p.tables e below (s₁.setTop (mkF m 84 #[.val (.int ci), .val (.int ai), .val (.int bi), .val (.int ii), .val (.int fi), .val (.int fl), .val (.int (v_cap ci)), .val (.int (v_x ci ai)), .val (.int (v_y ci ai bi fl)), .val (.int (v_sel fl)), .unset, .unset, .unset, .unset, .unset, .unset, .unset, .unset, .unset, .unset, .unset] [(.int (v_y ci ai bi fl))])) _
        refine XS.istore X0.here hx rfl (hb hby at_84) rfl (l' := #[.val (.int ci), .val (.int ai), .val (.int bi), .val (.int ii), .val (.int fi), .val (.int fl), .val (.int (v_cap ci)), .val (.int (v_x ci ai)), .val (.int (v_y ci ai bi fl)), .val (.int (v_sel fl)), .val (.int (v_y ci ai bi fl)), .unset, .unset, .unset, .unset, .unset, .unset, .unset, .unset, .unset, .unset]) rfl ?_
        show Steps p.tables e below (s₁.setTop (mkF m 86 #[.val (.int ci), .val (.int ai), .val (.int bi), .val (.int ii), .val (.int fi), .val (.int fl), .val (.int (v_cap ci)), .val (.int (v_x ci ai)), .val (.int (v_y ci ai bi fl)), .val (.int (v_sel fl)), .val (.int (v_y ci ai bi fl)), .unset, .unset, .unset, .unset, .unset, .unset, .unset, .unset, .unset, .unset] [])) _
        refine XS.goto X0.here hx rfl (pc0 := 86) (pc' := 98) rfl (hb hby at_86) (by decide) (by decide) ?_
        exact k _ rfl
      · refine XS.icmpYes X0.here hx rfl (pc0 := 79) (pc' := 89) rfl (hb hby at_79) rfl (feq hc8).2 (by decide) (by decide) ?_
        have k : ∀ (v1 : Int32), v1 = (v_r0 ci ii) → Steps p.tables e below (s₁.setTop (mkF m 98 #[.val (.int ci), .val (.int ai), .val (.int bi), .val (.int ii), .val (.int fi), .val (.int fl), .val (.int (v_cap ci)), .val (.int (v_x ci ai)), .val (.int (v_y ci ai bi fl)), .val (.int (v_sel fl)), .val (.int v1), .unset, .unset, .unset, .unset, .unset, .unset, .unset, .unset, .unset, .unset] [])) t := fun v1 hv1 => k v1 (hv1.trans (if_neg hc8).symm)
        show Steps p.tables e below (s₁.setTop (mkF m 89 #[.val (.int ci), .val (.int ai), .val (.int bi), .val (.int ii), .val (.int fi), .val (.int fl), .val (.int (v_cap ci)), .val (.int (v_x ci ai)), .val (.int (v_y ci ai bi fl)), .val (.int (v_sel fl)), .unset, .unset, .unset, .unset, .unset, .unset, .unset, .unset, .unset, .unset, .unset] [])) _
        refine XS.iloadN X0.here hx rfl (hb hby at_89) rfl ?_
        show Steps p.tables e below (s₁.setTop (mkF m 90 #[.val (.int ci), .val (.int ai), .val (.int bi), .val (.int ii), .val (.int fi), .val (.int fl), .val (.int (v_cap ci)), .val (.int (v_x ci ai)), .val (.int (v_y ci ai bi fl)), .val (.int (v_sel fl)), .unset, .unset, .unset, .unset, .unset, .unset, .unset, .unset, .unset, .unset, .unset] [(.int ii)])) _
        refine X0.ldcInt hx hown (mvT hZ (hw _ (List.mem_of_getElem? (i := 0) rfl))) (g := (mkF m 90 #[.val (.int ci), .val (.int ai), .val (.int bi), .val (.int ii), .val (.int fi), .val (.int fl), .val (.int (v_cap ci)), .val (.int (v_x ci ai)), .val (.int (v_y ci ai bi fl)), .val (.int (v_sel fl)), .unset, .unset, .unset, .unset, .unset, .unset, .unset, .unset, .unset, .unset, .unset] [(.int ii)])) rfl (hb hby at_90) _ ?_
        show Steps p.tables e below (s₁.setTop (mkF m 92 #[.val (.int ci), .val (.int ai), .val (.int bi), .val (.int ii), .val (.int fi), .val (.int fl), .val (.int (v_cap ci)), .val (.int (v_x ci ai)), .val (.int (v_y ci ai bi fl)), .val (.int (v_sel fl)), .unset, .unset, .unset, .unset, .unset, .unset, .unset, .unset, .unset, .unset, .unset] [(.int (2147483647 : Int32)), (.int ii)])) _
        refine XS.iand X0.here hx rfl (hb hby at_92) rfl ?_
        show Steps p.tables e below (s₁.setTop (mkF m 93 #[.val (.int ci), .val (.int ai), .val (.int bi), .val (.int ii), .val (.int fi), .val (.int fl), .val (.int (v_cap ci)), .val (.int (v_x ci ai)), .val (.int (v_y ci ai bi fl)), .val (.int (v_sel fl)), .unset, .unset, .unset, .unset, .unset, .unset, .unset, .unset, .unset, .unset, .unset] [(.int (ii &&& (2147483647 : Int32)))])) _
        refine XS.iload X0.here hx rfl (hb hby at_93) rfl ?_
        show Steps p.tables e below (s₁.setTop (mkF m 95 #[.val (.int ci), .val (.int ai), .val (.int bi), .val (.int ii), .val (.int fi), .val (.int fl), .val (.int (v_cap ci)), .val (.int (v_x ci ai)), .val (.int (v_y ci ai bi fl)), .val (.int (v_sel fl)), .unset, .unset, .unset, .unset, .unset, .unset, .unset, .unset, .unset, .unset, .unset] [(.int (v_cap ci)), (.int (ii &&& (2147483647 : Int32)))])) _
        refine iremM X0 hx rfl (hb hby at_95) rfl (own_nz ci) ?_
        show Steps p.tables e below (s₁.setTop (mkF m 96 #[.val (.int ci), .val (.int ai), .val (.int bi), .val (.int ii), .val (.int fi), .val (.int fl), .val (.int (v_cap ci)), .val (.int (v_x ci ai)), .val (.int (v_y ci ai bi fl)), .val (.int (v_sel fl)), .unset, .unset, .unset, .unset, .unset, .unset, .unset, .unset, .unset, .unset, .unset] [(.int ((ii &&& (2147483647 : Int32)) % (v_cap ci)))])) _
        refine XS.istore X0.here hx rfl (hb hby at_96) rfl (l' := #[.val (.int ci), .val (.int ai), .val (.int bi), .val (.int ii), .val (.int fi), .val (.int fl), .val (.int (v_cap ci)), .val (.int (v_x ci ai)), .val (.int (v_y ci ai bi fl)), .val (.int (v_sel fl)), .val (.int (v_r0 ci ii)), .unset, .unset, .unset, .unset, .unset, .unset, .unset, .unset, .unset, .unset]) rfl ?_
        exact k _ rfl
  have pre9 : ∀ t, Steps p.tables e below (s₁.setTop (mkF m 102 #[.val (.int ci), .val (.int ai), .val (.int bi), .val (.int ii), .val (.int fi), .val (.int fl), .val (.int (v_cap ci)), .val (.int (v_x ci ai)), .val (.int (v_y ci ai bi fl)), .val (.int (v_sel fl)), .val (.int (v_r ci ai bi ii fl)), .unset, .unset, .unset, .unset, .unset, .unset, .unset, .unset, .unset, .unset] [(.int (fl &&& (4 : Int32)))])) t → Steps p.tables e below (s₁.setTop (entryFrame m #[(.int ci), (.int ai), (.int bi), (.int ii), (.int fi), (.int fl)] maxLocals)) t := by
    intro t k
    refine pre6 t ?_
    show Steps p.tables e below (s₁.setTop (mkF m 98 #[.val (.int ci), .val (.int ai), .val (.int bi), .val (.int ii), .val (.int fi), .val (.int fl), .val (.int (v_cap ci)), .val (.int (v_x ci ai)), .val (.int (v_y ci ai bi fl)), .val (.int (v_sel fl)), .val (.int (v_r ci ai bi ii fl)), .unset, .unset, .unset, .unset, .unset, .unset, .unset, .unset, .unset, .unset] [])) _
    refine XS.iload X0.here hx rfl (hb hby at_98) rfl ?_
    show Steps p.tables e below (s₁.setTop (mkF m 100 #[.val (.int ci), .val (.int ai), .val (.int bi), .val (.int ii), .val (.int fi), .val (.int fl), .val (.int (v_cap ci)), .val (.int (v_x ci ai)), .val (.int (v_y ci ai bi fl)), .val (.int (v_sel fl)), .val (.int (v_r ci ai bi ii fl)), .unset, .unset, .unset, .unset, .unset, .unset, .unset, .unset, .unset, .unset] [(.int fl)])) _
    refine XS.iconst X0.here hx rfl (hb hby at_100) ?_
    show Steps p.tables e below (s₁.setTop (mkF m 101 #[.val (.int ci), .val (.int ai), .val (.int bi), .val (.int ii), .val (.int fi), .val (.int fl), .val (.int (v_cap ci)), .val (.int (v_x ci ai)), .val (.int (v_y ci ai bi fl)), .val (.int (v_sel fl)), .val (.int (v_r ci ai bi ii fl)), .unset, .unset, .unset, .unset, .unset, .unset, .unset, .unset, .unset, .unset] [(.int (4 : Int32)), (.int fl)])) _
    refine XS.iand X0.here hx rfl (hb hby at_101) rfl ?_
    exact k
  have pre10 : ∀ t, Steps p.tables e below (s₁.setTop (mkF m 110 #[.val (.int ci), .val (.int ai), .val (.int bi), .val (.int ii), .val (.int fi), .val (.int fl), .val (.int (v_cap ci)), .val (.int (v_x ci ai)), .val (.int (v_y ci ai bi fl)), .val (.int (v_sel fl)), .val (.int (v_r ci ai bi ii fl)), .unset, .unset, .unset, .unset, .unset, .unset, .unset, .unset, .unset, .unset] [(.int (b2i (if (fl &&& (4 : Int32)) = (0 : Int32) then false else true)))])) t → Steps p.tables e below (s₁.setTop (entryFrame m #[(.int ci), (.int ai), (.int bi), (.int ii), (.int fi), (.int fl)] maxLocals)) t := by
    intro t k
    refine pre9 t ?_
    have k : ∀ (v1 : Bool), v1 = (if (fl &&& (4 : Int32)) = (0 : Int32) then false else true) → Steps p.tables e below (s₁.setTop (mkF m 110 #[.val (.int ci), .val (.int ai), .val (.int bi), .val (.int ii), .val (.int fi), .val (.int fl), .val (.int (v_cap ci)), .val (.int (v_x ci ai)), .val (.int (v_y ci ai bi fl)), .val (.int (v_sel fl)), .val (.int (v_r ci ai bi ii fl)), .unset, .unset, .unset, .unset, .unset, .unset, .unset, .unset, .unset, .unset] [(.int (b2i v1))])) t := fun v1 hv1 => by subst hv1; exact k
    show Steps p.tables e below (s₁.setTop (mkF m 102 #[.val (.int ci), .val (.int ai), .val (.int bi), .val (.int ii), .val (.int fi), .val (.int fl), .val (.int (v_cap ci)), .val (.int (v_x ci ai)), .val (.int (v_y ci ai bi fl)), .val (.int (v_sel fl)), .val (.int (v_r ci ai bi ii fl)), .unset, .unset, .unset, .unset, .unset, .unset, .unset, .unset, .unset, .unset] [(.int (fl &&& (4 : Int32)))])) _
    by_cases hc11 : (fl &&& (4 : Int32)) = (0 : Int32)
    · refine XS.ifYes X0.here hx rfl (pc0 := 102) (pc' := 109) rfl (hb hby at_102) rfl ((if0 _ _).trans (teq hc11).1) (by decide) (by decide) ?_
      have k : ∀ (v1 : Bool), v1 = false → Steps p.tables e below (s₁.setTop (mkF m 110 #[.val (.int ci), .val (.int ai), .val (.int bi), .val (.int ii), .val (.int fi), .val (.int fl), .val (.int (v_cap ci)), .val (.int (v_x ci ai)), .val (.int (v_y ci ai bi fl)), .val (.int (v_sel fl)), .val (.int (v_r ci ai bi ii fl)), .unset, .unset, .unset, .unset, .unset, .unset, .unset, .unset, .unset, .unset] [(.int (b2i v1))])) t := fun v1 hv1 => k v1 (hv1.trans (if_pos hc11).symm)
      show Steps p.tables e below (s₁.setTop (mkF m 109 #[.val (.int ci), .val (.int ai), .val (.int bi), .val (.int ii), .val (.int fi), .val (.int fl), .val (.int (v_cap ci)), .val (.int (v_x ci ai)), .val (.int (v_y ci ai bi fl)), .val (.int (v_sel fl)), .val (.int (v_r ci ai bi ii fl)), .unset, .unset, .unset, .unset, .unset, .unset, .unset, .unset, .unset, .unset] [])) _
      refine XS.iconst X0.here hx rfl (hb hby at_109) ?_
      exact k false rfl
    · refine XS.ifNo X0.here hx rfl (hb hby at_102) rfl ((if0 _ _).trans (feq hc11).1) ?_
      have k : ∀ (v1 : Bool), v1 = true → Steps p.tables e below (s₁.setTop (mkF m 110 #[.val (.int ci), .val (.int ai), .val (.int bi), .val (.int ii), .val (.int fi), .val (.int fl), .val (.int (v_cap ci)), .val (.int (v_x ci ai)), .val (.int (v_y ci ai bi fl)), .val (.int (v_sel fl)), .val (.int (v_r ci ai bi ii fl)), .unset, .unset, .unset, .unset, .unset, .unset, .unset, .unset, .unset, .unset] [(.int (b2i v1))])) t := fun v1 hv1 => k v1 (hv1.trans (if_neg hc11).symm)
      show Steps p.tables e below (s₁.setTop (mkF m 105 #[.val (.int ci), .val (.int ai), .val (.int bi), .val (.int ii), .val (.int fi), .val (.int fl), .val (.int (v_cap ci)), .val (.int (v_x ci ai)), .val (.int (v_y ci ai bi fl)), .val (.int (v_sel fl)), .val (.int (v_r ci ai bi ii fl)), .unset, .unset, .unset, .unset, .unset, .unset, .unset, .unset, .unset, .unset] [])) _
      refine XS.iconst X0.here hx rfl (hb hby at_105) ?_
      show Steps p.tables e below (s₁.setTop (mkF m 106 #[.val (.int ci), .val (.int ai), .val (.int bi), .val (.int ii), .val (.int fi), .val (.int fl), .val (.int (v_cap ci)), .val (.int (v_x ci ai)), .val (.int (v_y ci ai bi fl)), .val (.int (v_sel fl)), .val (.int (v_r ci ai bi ii fl)), .unset, .unset, .unset, .unset, .unset, .unset, .unset, .unset, .unset, .unset] [(.int (1 : Int32))])) _
      refine XS.goto X0.here hx rfl (pc0 := 106) (pc' := 110) rfl (hb hby at_106) (by decide) (by decide) ?_
      exact k true rfl
  have pre12 : ∀ t, Steps p.tables e below (s₁.setTop (mkF m 117 #[.val (.int ci), .val (.int ai), .val (.int bi), .val (.int ii), .val (.int fi), .val (.int fl), .val (.int (v_cap ci)), .val (.int (v_x ci ai)), .val (.int (v_y ci ai bi fl)), .val (.int (v_sel fl)), .val (.int (v_r ci ai bi ii fl)), .val (.int (b2i (v_aA fl))), .unset, .unset, .unset, .unset, .unset, .unset, .unset, .unset, .unset] [(.int (fl &&& (8 : Int32)))])) t → Steps p.tables e below (s₁.setTop (entryFrame m #[(.int ci), (.int ai), (.int bi), (.int ii), (.int fi), (.int fl)] maxLocals)) t := by
    intro t k
    refine pre10 t ?_
    show Steps p.tables e below (s₁.setTop (mkF m 110 #[.val (.int ci), .val (.int ai), .val (.int bi), .val (.int ii), .val (.int fi), .val (.int fl), .val (.int (v_cap ci)), .val (.int (v_x ci ai)), .val (.int (v_y ci ai bi fl)), .val (.int (v_sel fl)), .val (.int (v_r ci ai bi ii fl)), .unset, .unset, .unset, .unset, .unset, .unset, .unset, .unset, .unset, .unset] [(.int (b2i (if (fl &&& (4 : Int32)) = (0 : Int32) then false else true)))])) _
    refine XS.istore X0.here hx rfl (hb hby at_110) rfl (l' := #[.val (.int ci), .val (.int ai), .val (.int bi), .val (.int ii), .val (.int fi), .val (.int fl), .val (.int (v_cap ci)), .val (.int (v_x ci ai)), .val (.int (v_y ci ai bi fl)), .val (.int (v_sel fl)), .val (.int (v_r ci ai bi ii fl)), .val (.int (b2i (v_aA fl))), .unset, .unset, .unset, .unset, .unset, .unset, .unset, .unset, .unset]) rfl ?_
    show Steps p.tables e below (s₁.setTop (mkF m 112 #[.val (.int ci), .val (.int ai), .val (.int bi), .val (.int ii), .val (.int fi), .val (.int fl), .val (.int (v_cap ci)), .val (.int (v_x ci ai)), .val (.int (v_y ci ai bi fl)), .val (.int (v_sel fl)), .val (.int (v_r ci ai bi ii fl)), .val (.int (b2i (v_aA fl))), .unset, .unset, .unset, .unset, .unset, .unset, .unset, .unset, .unset] [])) _
    refine XS.iload X0.here hx rfl (hb hby at_112) rfl ?_
    show Steps p.tables e below (s₁.setTop (mkF m 114 #[.val (.int ci), .val (.int ai), .val (.int bi), .val (.int ii), .val (.int fi), .val (.int fl), .val (.int (v_cap ci)), .val (.int (v_x ci ai)), .val (.int (v_y ci ai bi fl)), .val (.int (v_sel fl)), .val (.int (v_r ci ai bi ii fl)), .val (.int (b2i (v_aA fl))), .unset, .unset, .unset, .unset, .unset, .unset, .unset, .unset, .unset] [(.int fl)])) _
    refine XS.bipush X0.here hx rfl (hb hby at_114) ?_
    show Steps p.tables e below (s₁.setTop (mkF m 116 #[.val (.int ci), .val (.int ai), .val (.int bi), .val (.int ii), .val (.int fi), .val (.int fl), .val (.int (v_cap ci)), .val (.int (v_x ci ai)), .val (.int (v_y ci ai bi fl)), .val (.int (v_sel fl)), .val (.int (v_r ci ai bi ii fl)), .val (.int (b2i (v_aA fl))), .unset, .unset, .unset, .unset, .unset, .unset, .unset, .unset, .unset] [(.int (8 : Int32)), (.int fl)])) _
    refine XS.iand X0.here hx rfl (hb hby at_116) rfl ?_
    exact k
  have pre13 : ∀ t, Steps p.tables e below (s₁.setTop (mkF m 125 #[.val (.int ci), .val (.int ai), .val (.int bi), .val (.int ii), .val (.int fi), .val (.int fl), .val (.int (v_cap ci)), .val (.int (v_x ci ai)), .val (.int (v_y ci ai bi fl)), .val (.int (v_sel fl)), .val (.int (v_r ci ai bi ii fl)), .val (.int (b2i (v_aA fl))), .unset, .unset, .unset, .unset, .unset, .unset, .unset, .unset, .unset] [(.int (b2i (if (fl &&& (8 : Int32)) = (0 : Int32) then false else true)))])) t → Steps p.tables e below (s₁.setTop (entryFrame m #[(.int ci), (.int ai), (.int bi), (.int ii), (.int fi), (.int fl)] maxLocals)) t := by
    intro t k
    refine pre12 t ?_
    have k : ∀ (v1 : Bool), v1 = (if (fl &&& (8 : Int32)) = (0 : Int32) then false else true) → Steps p.tables e below (s₁.setTop (mkF m 125 #[.val (.int ci), .val (.int ai), .val (.int bi), .val (.int ii), .val (.int fi), .val (.int fl), .val (.int (v_cap ci)), .val (.int (v_x ci ai)), .val (.int (v_y ci ai bi fl)), .val (.int (v_sel fl)), .val (.int (v_r ci ai bi ii fl)), .val (.int (b2i (v_aA fl))), .unset, .unset, .unset, .unset, .unset, .unset, .unset, .unset, .unset] [(.int (b2i v1))])) t := fun v1 hv1 => by subst hv1; exact k
    show Steps p.tables e below (s₁.setTop (mkF m 117 #[.val (.int ci), .val (.int ai), .val (.int bi), .val (.int ii), .val (.int fi), .val (.int fl), .val (.int (v_cap ci)), .val (.int (v_x ci ai)), .val (.int (v_y ci ai bi fl)), .val (.int (v_sel fl)), .val (.int (v_r ci ai bi ii fl)), .val (.int (b2i (v_aA fl))), .unset, .unset, .unset, .unset, .unset, .unset, .unset, .unset, .unset] [(.int (fl &&& (8 : Int32)))])) _
    by_cases hc14 : (fl &&& (8 : Int32)) = (0 : Int32)
    · refine XS.ifYes X0.here hx rfl (pc0 := 117) (pc' := 124) rfl (hb hby at_117) rfl ((if0 _ _).trans (teq hc14).1) (by decide) (by decide) ?_
      have k : ∀ (v1 : Bool), v1 = false → Steps p.tables e below (s₁.setTop (mkF m 125 #[.val (.int ci), .val (.int ai), .val (.int bi), .val (.int ii), .val (.int fi), .val (.int fl), .val (.int (v_cap ci)), .val (.int (v_x ci ai)), .val (.int (v_y ci ai bi fl)), .val (.int (v_sel fl)), .val (.int (v_r ci ai bi ii fl)), .val (.int (b2i (v_aA fl))), .unset, .unset, .unset, .unset, .unset, .unset, .unset, .unset, .unset] [(.int (b2i v1))])) t := fun v1 hv1 => k v1 (hv1.trans (if_pos hc14).symm)
      show Steps p.tables e below (s₁.setTop (mkF m 124 #[.val (.int ci), .val (.int ai), .val (.int bi), .val (.int ii), .val (.int fi), .val (.int fl), .val (.int (v_cap ci)), .val (.int (v_x ci ai)), .val (.int (v_y ci ai bi fl)), .val (.int (v_sel fl)), .val (.int (v_r ci ai bi ii fl)), .val (.int (b2i (v_aA fl))), .unset, .unset, .unset, .unset, .unset, .unset, .unset, .unset, .unset] [])) _
      refine XS.iconst X0.here hx rfl (hb hby at_124) ?_
      exact k false rfl
    · refine XS.ifNo X0.here hx rfl (hb hby at_117) rfl ((if0 _ _).trans (feq hc14).1) ?_
      have k : ∀ (v1 : Bool), v1 = true → Steps p.tables e below (s₁.setTop (mkF m 125 #[.val (.int ci), .val (.int ai), .val (.int bi), .val (.int ii), .val (.int fi), .val (.int fl), .val (.int (v_cap ci)), .val (.int (v_x ci ai)), .val (.int (v_y ci ai bi fl)), .val (.int (v_sel fl)), .val (.int (v_r ci ai bi ii fl)), .val (.int (b2i (v_aA fl))), .unset, .unset, .unset, .unset, .unset, .unset, .unset, .unset, .unset] [(.int (b2i v1))])) t := fun v1 hv1 => k v1 (hv1.trans (if_neg hc14).symm)
      show Steps p.tables e below (s₁.setTop (mkF m 120 #[.val (.int ci), .val (.int ai), .val (.int bi), .val (.int ii), .val (.int fi), .val (.int fl), .val (.int (v_cap ci)), .val (.int (v_x ci ai)), .val (.int (v_y ci ai bi fl)), .val (.int (v_sel fl)), .val (.int (v_r ci ai bi ii fl)), .val (.int (b2i (v_aA fl))), .unset, .unset, .unset, .unset, .unset, .unset, .unset, .unset, .unset] [])) _
      refine XS.iconst X0.here hx rfl (hb hby at_120) ?_
      show Steps p.tables e below (s₁.setTop (mkF m 121 #[.val (.int ci), .val (.int ai), .val (.int bi), .val (.int ii), .val (.int fi), .val (.int fl), .val (.int (v_cap ci)), .val (.int (v_x ci ai)), .val (.int (v_y ci ai bi fl)), .val (.int (v_sel fl)), .val (.int (v_r ci ai bi ii fl)), .val (.int (b2i (v_aA fl))), .unset, .unset, .unset, .unset, .unset, .unset, .unset, .unset, .unset] [(.int (1 : Int32))])) _
      refine XS.goto X0.here hx rfl (pc0 := 121) (pc' := 125) rfl (hb hby at_121) (by decide) (by decide) ?_
      exact k true rfl
  obtain ⟨T15, h15, X15, e15, E15, A15, D15, -, st15⟩ := newO X0 hx hZ hown (hw _ (List.mem_of_getElem? (i := 1) rfl)) (hw _ (List.mem_of_getElem? (i := 2) rfl)) (hw _ (List.mem_of_getElem? (i := 3) rfl)) e0 (g := (mkF m 139 #[.val (.int ci), .val (.int ai), .val (.int bi), .val (.int ii), .val (.int fi), .val (.int fl), .val (.int (v_cap ci)), .val (.int (v_x ci ai)), .val (.int (v_y ci ai bi fl)), .val (.int (v_sel fl)), .val (.int (v_r ci ai bi ii fl)), .val (.int (b2i (v_aA fl))), .val (.int (b2i (v_aB fl))), .val (.int (v_from ci fi)), .unset, .unset, .unset, .unset, .unset, .unset, .unset] [])) rfl (hb hby at_139) (by decide) (by decide)
  obtain ⟨b15, g15⟩ : ∃ z, z = h0.size := ⟨_, rfl⟩
  rw [← g15] at A15 D15 st15
  have ge_b15 : n0 ≤ b15 := Nat.le_trans Z0 (Nat.le_of_eq g15.symm)
  have Z15 : n0 ≤ h15.size := Nat.le_trans Z0 E15.1
  have F15_capacity : Fld Z h15 b15 "com/example/cutline/cutline/IndexSet" "capacity" "I" (.int (0 : Int32)) := D15 (Or.inr (hw _ (List.mem_of_getElem? (i := 11) rfl))) (ty := .int) (by decide)
  have F15_words : Fld Z h15 b15 "com/example/cutline/cutline/IndexSet" "words" "[J" .null := D15 (Or.inr (hw _ (List.mem_of_getElem? (i := 14) rfl))) (ty := (.array .long)) (by decide)
  have F15_summary : Fld Z h15 b15 "com/example/cutline/cutline/IndexSet" "summary" "[J" .null := D15 (Or.inr (hw _ (List.mem_of_getElem? (i := 16) rfl))) (ty := (.array .long)) (by decide)
  have F15_size : Fld Z h15 b15 "com/example/cutline/cutline/IndexSet" "size" "I" (.int (0 : Int32)) := D15 (Or.inl (hw _ (List.mem_of_getElem? (i := 28) rfl))) (ty := .int) (by decide)
  obtain ⟨_, _, ⟨T16, L16, k16, n16⟩, -, X16, ⟨Lc16, hQ16, l16, y16, z16⟩, st16⟩ := X15.specialBack hx (y := (⟨"com/example/cutline/cutline/IndexSet", "<init>", "(I)V"⟩ : MethodName)) rfl hown (mvT hZ (hw _ (List.mem_of_getElem? (i := 4) rfl))) (mvT hZ (hw _ (List.mem_of_getElem? (i := 5) rfl))) (mvT hZ (hw _ (List.mem_of_getElem? (i := 6) rfl))) (by decide) (backOf (W := 1) (rm1 l Z a0 hw [] b15 (v_cap ci) (0 : Int32) h15 n0 Z15 ⟨A15, F15_capacity, F15_words, F15_summary, F15_size, ge_b15, Z15⟩ (own_vcap ci).1 (own_vcap ci).2) hZ (hw _ (List.mem_of_getElem? (i := 6) rfl)) (hw _ (List.mem_of_getElem? (i := 3) rfl)) (by decide) (by decide)) (g := (mkF m 145 #[.val (.int ci), .val (.int ai), .val (.int bi), .val (.int ii), .val (.int fi), .val (.int fl), .val (.int (v_cap ci)), .val (.int (v_x ci ai)), .val (.int (v_y ci ai bi fl)), .val (.int (v_sel fl)), .val (.int (v_r ci ai bi ii fl)), .val (.int (b2i (v_aA fl))), .val (.int (b2i (v_aB fl))), .val (.int (v_from ci fi)), .unset, .unset, .unset, .unset, .unset, .unset, .unset] [(.int (v_cap ci)), (.ref b15), (.ref b15)])) rfl (by rw [hml]; rfl) (Steps.refl _) (a := b15) (argsL := [(.int (v_cap ci))]) (rest := [(.ref b15)]) (lenOf pd_0 rfl) rfl (by show 2 * 0 + _ ≤ _; exact Nat.le_of_eq rfl) (hb hby at_145) (fun _ _ => ⟨rfl, e15, (by decide : 1 + 2 ≤ _), (by decide : 4 + 260 ≤ _)⟩)
  dsimp only [Pt.U, Pt.locs, Pt.cells, Pt.slots] at X16 l16 y16 z16 st16 hQ16
  subst y16 z16
  obtain ⟨rfl, N16q, aw16, au16, I16⟩ := hQ16
  obtain ⟨k17_0, k17_1, k17_2, k17_3, k17_4, k17_5, k17_6, k17_g_ob, k17_g_aw, k17_g_au, k17_n_ob_aw, k17_n_ob_au, k17_n_aw_au, k17_sz⟩ := I16
  have N16 : Fr n0 L16 := by rw [l16]; exact Fr.app N0 N16q
  have pre18 : ∀ t, Steps p.tables e below (T16.setTop (mkF m 152 #[.val (.int ci), .val (.int ai), .val (.int bi), .val (.int ii), .val (.int fi), .val (.int fl), .val (.int (v_cap ci)), .val (.int (v_x ci ai)), .val (.int (v_y ci ai bi fl)), .val (.int (v_sel fl)), .val (.int (v_r ci ai bi ii fl)), .val (.int (b2i (v_aA fl))), .val (.int (b2i (v_aB fl))), .val (.int (v_from ci fi)), .val (.ref b15), .unset, .unset, .unset, .unset, .unset, .unset] [(.int (b2i (v_aA fl)))])) t → Steps p.tables e below (s₁.setTop (entryFrame m #[(.int ci), (.int ai), (.int bi), (.int ii), (.int fi), (.int fl)] maxLocals)) t := by
    intro t k
    refine pre13 t ?_
    show Steps p.tables e below (s₁.setTop (mkF m 125 #[.val (.int ci), .val (.int ai), .val (.int bi), .val (.int ii), .val (.int fi), .val (.int fl), .val (.int (v_cap ci)), .val (.int (v_x ci ai)), .val (.int (v_y ci ai bi fl)), .val (.int (v_sel fl)), .val (.int (v_r ci ai bi ii fl)), .val (.int (b2i (v_aA fl))), .unset, .unset, .unset, .unset, .unset, .unset, .unset, .unset, .unset] [(.int (b2i (if (fl &&& (8 : Int32)) = (0 : Int32) then false else true)))])) _
    refine XS.istore X0.here hx rfl (hb hby at_125) rfl (l' := #[.val (.int ci), .val (.int ai), .val (.int bi), .val (.int ii), .val (.int fi), .val (.int fl), .val (.int (v_cap ci)), .val (.int (v_x ci ai)), .val (.int (v_y ci ai bi fl)), .val (.int (v_sel fl)), .val (.int (v_r ci ai bi ii fl)), .val (.int (b2i (v_aA fl))), .val (.int (b2i (v_aB fl))), .unset, .unset, .unset, .unset, .unset, .unset, .unset, .unset]) rfl ?_
    show Steps p.tables e below (s₁.setTop (mkF m 127 #[.val (.int ci), .val (.int ai), .val (.int bi), .val (.int ii), .val (.int fi), .val (.int fl), .val (.int (v_cap ci)), .val (.int (v_x ci ai)), .val (.int (v_y ci ai bi fl)), .val (.int (v_sel fl)), .val (.int (v_r ci ai bi ii fl)), .val (.int (b2i (v_aA fl))), .val (.int (b2i (v_aB fl))), .unset, .unset, .unset, .unset, .unset, .unset, .unset, .unset] [])) _
    refine XS.iload X0.here hx rfl (hb hby at_127) rfl ?_
    show Steps p.tables e below (s₁.setTop (mkF m 129 #[.val (.int ci), .val (.int ai), .val (.int bi), .val (.int ii), .val (.int fi), .val (.int fl), .val (.int (v_cap ci)), .val (.int (v_x ci ai)), .val (.int (v_y ci ai bi fl)), .val (.int (v_sel fl)), .val (.int (v_r ci ai bi ii fl)), .val (.int (b2i (v_aA fl))), .val (.int (b2i (v_aB fl))), .unset, .unset, .unset, .unset, .unset, .unset, .unset, .unset] [(.int fi)])) _
    refine X0.ldcInt hx hown (mvT hZ (hw _ (List.mem_of_getElem? (i := 0) rfl))) (g := (mkF m 129 #[.val (.int ci), .val (.int ai), .val (.int bi), .val (.int ii), .val (.int fi), .val (.int fl), .val (.int (v_cap ci)), .val (.int (v_x ci ai)), .val (.int (v_y ci ai bi fl)), .val (.int (v_sel fl)), .val (.int (v_r ci ai bi ii fl)), .val (.int (b2i (v_aA fl))), .val (.int (b2i (v_aB fl))), .unset, .unset, .unset, .unset, .unset, .unset, .unset, .unset] [(.int fi)])) rfl (hb hby at_129) _ ?_
    show Steps p.tables e below (s₁.setTop (mkF m 131 #[.val (.int ci), .val (.int ai), .val (.int bi), .val (.int ii), .val (.int fi), .val (.int fl), .val (.int (v_cap ci)), .val (.int (v_x ci ai)), .val (.int (v_y ci ai bi fl)), .val (.int (v_sel fl)), .val (.int (v_r ci ai bi ii fl)), .val (.int (b2i (v_aA fl))), .val (.int (b2i (v_aB fl))), .unset, .unset, .unset, .unset, .unset, .unset, .unset, .unset] [(.int (2147483647 : Int32)), (.int fi)])) _
    refine XS.iand X0.here hx rfl (hb hby at_131) rfl ?_
    show Steps p.tables e below (s₁.setTop (mkF m 132 #[.val (.int ci), .val (.int ai), .val (.int bi), .val (.int ii), .val (.int fi), .val (.int fl), .val (.int (v_cap ci)), .val (.int (v_x ci ai)), .val (.int (v_y ci ai bi fl)), .val (.int (v_sel fl)), .val (.int (v_r ci ai bi ii fl)), .val (.int (b2i (v_aA fl))), .val (.int (b2i (v_aB fl))), .unset, .unset, .unset, .unset, .unset, .unset, .unset, .unset] [(.int (fi &&& (2147483647 : Int32)))])) _
    refine XS.iload X0.here hx rfl (hb hby at_132) rfl ?_
    show Steps p.tables e below (s₁.setTop (mkF m 134 #[.val (.int ci), .val (.int ai), .val (.int bi), .val (.int ii), .val (.int fi), .val (.int fl), .val (.int (v_cap ci)), .val (.int (v_x ci ai)), .val (.int (v_y ci ai bi fl)), .val (.int (v_sel fl)), .val (.int (v_r ci ai bi ii fl)), .val (.int (b2i (v_aA fl))), .val (.int (b2i (v_aB fl))), .unset, .unset, .unset, .unset, .unset, .unset, .unset, .unset] [(.int (v_cap ci)), (.int (fi &&& (2147483647 : Int32)))])) _
    refine XS.iconst X0.here hx rfl (hb hby at_134) ?_
    show Steps p.tables e below (s₁.setTop (mkF m 135 #[.val (.int ci), .val (.int ai), .val (.int bi), .val (.int ii), .val (.int fi), .val (.int fl), .val (.int (v_cap ci)), .val (.int (v_x ci ai)), .val (.int (v_y ci ai bi fl)), .val (.int (v_sel fl)), .val (.int (v_r ci ai bi ii fl)), .val (.int (b2i (v_aA fl))), .val (.int (b2i (v_aB fl))), .unset, .unset, .unset, .unset, .unset, .unset, .unset, .unset] [(.int (1 : Int32)), (.int (v_cap ci)), (.int (fi &&& (2147483647 : Int32)))])) _
    refine XS.iadd X0.here hx rfl (hb hby at_135) rfl ?_
    show Steps p.tables e below (s₁.setTop (mkF m 136 #[.val (.int ci), .val (.int ai), .val (.int bi), .val (.int ii), .val (.int fi), .val (.int fl), .val (.int (v_cap ci)), .val (.int (v_x ci ai)), .val (.int (v_y ci ai bi fl)), .val (.int (v_sel fl)), .val (.int (v_r ci ai bi ii fl)), .val (.int (b2i (v_aA fl))), .val (.int (b2i (v_aB fl))), .unset, .unset, .unset, .unset, .unset, .unset, .unset, .unset] [(.int ((v_cap ci) + (1 : Int32))), (.int (fi &&& (2147483647 : Int32)))])) _
    refine iremM X0 hx rfl (hb hby at_136) rfl (own_nz1 ci) ?_
    show Steps p.tables e below (s₁.setTop (mkF m 137 #[.val (.int ci), .val (.int ai), .val (.int bi), .val (.int ii), .val (.int fi), .val (.int fl), .val (.int (v_cap ci)), .val (.int (v_x ci ai)), .val (.int (v_y ci ai bi fl)), .val (.int (v_sel fl)), .val (.int (v_r ci ai bi ii fl)), .val (.int (b2i (v_aA fl))), .val (.int (b2i (v_aB fl))), .unset, .unset, .unset, .unset, .unset, .unset, .unset, .unset] [(.int ((fi &&& (2147483647 : Int32)) % ((v_cap ci) + (1 : Int32))))])) _
    refine XS.istore X0.here hx rfl (hb hby at_137) rfl (l' := #[.val (.int ci), .val (.int ai), .val (.int bi), .val (.int ii), .val (.int fi), .val (.int fl), .val (.int (v_cap ci)), .val (.int (v_x ci ai)), .val (.int (v_y ci ai bi fl)), .val (.int (v_sel fl)), .val (.int (v_r ci ai bi ii fl)), .val (.int (b2i (v_aA fl))), .val (.int (b2i (v_aB fl))), .val (.int (v_from ci fi)), .unset, .unset, .unset, .unset, .unset, .unset, .unset]) rfl ?_
    show Steps p.tables e below (s₁.setTop (mkF m 139 #[.val (.int ci), .val (.int ai), .val (.int bi), .val (.int ii), .val (.int fi), .val (.int fl), .val (.int (v_cap ci)), .val (.int (v_x ci ai)), .val (.int (v_y ci ai bi fl)), .val (.int (v_sel fl)), .val (.int (v_r ci ai bi ii fl)), .val (.int (b2i (v_aA fl))), .val (.int (b2i (v_aB fl))), .val (.int (v_from ci fi)), .unset, .unset, .unset, .unset, .unset, .unset, .unset] [])) _
    refine st15 _ ?_
    show Steps p.tables e below (T15.setTop (mkF m 142 #[.val (.int ci), .val (.int ai), .val (.int bi), .val (.int ii), .val (.int fi), .val (.int fl), .val (.int (v_cap ci)), .val (.int (v_x ci ai)), .val (.int (v_y ci ai bi fl)), .val (.int (v_sel fl)), .val (.int (v_r ci ai bi ii fl)), .val (.int (b2i (v_aA fl))), .val (.int (b2i (v_aB fl))), .val (.int (v_from ci fi)), .unset, .unset, .unset, .unset, .unset, .unset, .unset] [(.ref b15)])) _
    refine XS.dup X15.here hx rfl (hb hby at_142) rfl rfl ?_
    show Steps p.tables e below (T15.setTop (mkF m 143 #[.val (.int ci), .val (.int ai), .val (.int bi), .val (.int ii), .val (.int fi), .val (.int fl), .val (.int (v_cap ci)), .val (.int (v_x ci ai)), .val (.int (v_y ci ai bi fl)), .val (.int (v_sel fl)), .val (.int (v_r ci ai bi ii fl)), .val (.int (b2i (v_aA fl))), .val (.int (b2i (v_aB fl))), .val (.int (v_from ci fi)), .unset, .unset, .unset, .unset, .unset, .unset, .unset] [(.ref b15), (.ref b15)])) _
    refine XS.iload X15.here hx rfl (hb hby at_143) rfl ?_
    show Steps p.tables e below (T15.setTop (mkF m 145 #[.val (.int ci), .val (.int ai), .val (.int bi), .val (.int ii), .val (.int fi), .val (.int fl), .val (.int (v_cap ci)), .val (.int (v_x ci ai)), .val (.int (v_y ci ai bi fl)), .val (.int (v_sel fl)), .val (.int (v_r ci ai bi ii fl)), .val (.int (b2i (v_aA fl))), .val (.int (b2i (v_aB fl))), .val (.int (v_from ci fi)), .unset, .unset, .unset, .unset, .unset, .unset, .unset] [(.int (v_cap ci)), (.ref b15), (.ref b15)])) _
    refine st16.trans ?_
    show Steps p.tables e below (T16.setTop (mkF m 148 #[.val (.int ci), .val (.int ai), .val (.int bi), .val (.int ii), .val (.int fi), .val (.int fl), .val (.int (v_cap ci)), .val (.int (v_x ci ai)), .val (.int (v_y ci ai bi fl)), .val (.int (v_sel fl)), .val (.int (v_r ci ai bi ii fl)), .val (.int (b2i (v_aA fl))), .val (.int (b2i (v_aB fl))), .val (.int (v_from ci fi)), .unset, .unset, .unset, .unset, .unset, .unset, .unset] [(.ref b15)])) _
    refine XS.astore X16.here hx rfl (hb hby at_148) rfl rfl (l' := #[.val (.int ci), .val (.int ai), .val (.int bi), .val (.int ii), .val (.int fi), .val (.int fl), .val (.int (v_cap ci)), .val (.int (v_x ci ai)), .val (.int (v_y ci ai bi fl)), .val (.int (v_sel fl)), .val (.int (v_r ci ai bi ii fl)), .val (.int (b2i (v_aA fl))), .val (.int (b2i (v_aB fl))), .val (.int (v_from ci fi)), .val (.ref b15), .unset, .unset, .unset, .unset, .unset, .unset]) rfl ?_
    show Steps p.tables e below (T16.setTop (mkF m 150 #[.val (.int ci), .val (.int ai), .val (.int bi), .val (.int ii), .val (.int fi), .val (.int fl), .val (.int (v_cap ci)), .val (.int (v_x ci ai)), .val (.int (v_y ci ai bi fl)), .val (.int (v_sel fl)), .val (.int (v_r ci ai bi ii fl)), .val (.int (b2i (v_aA fl))), .val (.int (b2i (v_aB fl))), .val (.int (v_from ci fi)), .val (.ref b15), .unset, .unset, .unset, .unset, .unset, .unset] [])) _
    refine XS.iload X16.here hx rfl (hb hby at_150) rfl ?_
    exact k
  obtain ⟨T24, hh24, L24, X24, e24, N24, I24, pre24⟩ : ∃ (T : State) (hh24 : Heap) (L : List Loc), Stand p l e room_1 s m #[(.int ci), (.int ai), (.int bi), (.int ii), (.int fi), (.int fl)] below meth c T L 3 264 ∧ T.heap = hh24 ∧ Fr n0 L ∧ (IS Z hh24 n0 b15 aw16 au16 (v_cap ci) (v_sA ci ai fl) (own_nw (v_cap ci)) (v_wA ci ai fl) (own_nw (own_nw (v_cap ci))) (v_uA ci ai fl)) ∧ ∀ t, Steps p.tables e below (T.setTop (mkF m 163 #[.val (.int ci), .val (.int ai), .val (.int bi), .val (.int ii), .val (.int fi), .val (.int fl), .val (.int (v_cap ci)), .val (.int (v_x ci ai)), .val (.int (v_y ci ai bi fl)), .val (.int (v_sel fl)), .val (.int (v_r ci ai bi ii fl)), .val (.int (b2i (v_aA fl))), .val (.int (b2i (v_aB fl))), .val (.int (v_from ci fi)), .val (.ref b15), .unset, .unset, .unset, .unset, .unset, .unset] [])) t → Steps p.tables e below (s₁.setTop (entryFrame m #[(.int ci), (.int ai), (.int bi), (.int ii), (.int fi), (.int fl)] maxLocals)) t := by
    by_cases hc19 : (v_aA fl) = true
    ·
      obtain ⟨cq20, kq20, q20a, q20b, q20c⟩ := isOf hZ rfl k17_0
      obtain ⟨_, _, ⟨T20, L20, k20, n20⟩, -, X20, ⟨Lc20, hQ20, l20, y20, z20⟩, st20⟩ := X16.virtualBack hx (y := (⟨"com/example/cutline/cutline/IndexSet", "add", "(I)Z"⟩ : MethodName)) (z := (⟨"com/example/cutline/cutline/IndexSet", "add", "(I)Z"⟩ : MethodName)) hown (mvT hZ (hw _ (List.mem_of_getElem? (i := 39) rfl))) (mvT hZ (hw _ (List.mem_of_getElem? (i := 40) rfl))) (notFace_of_selects (args := #[]) (mvT hZ (hw _ (List.mem_of_getElem? (i := 42) rfl)))) (mvT hZ (hw _ (List.mem_of_getElem? (i := 42) rfl))) (mvT hZ (hw _ (List.mem_of_getElem? (i := 41) rfl))) (by decide) (backOf (W := 0) (rm7 l Z a0 hw [] b15 (v_x ci ai) aw16 au16 (v_cap ci) (0 : Int32) (own_nw (v_cap ci)) (fun _ => 0) (own_nw (own_nw (v_cap ci))) (fun _ => 0) T16.heap n0 k17_sz ⟨k17_0, k17_1, k17_2, k17_3, k17_4, k17_5, k17_6, k17_g_ob, k17_g_aw, k17_g_au, k17_n_ob_aw, k17_n_ob_au, k17_n_aw_au, k17_sz⟩ (own_in _ _ (own_vx ci ai) (own_vcap ci)).1 (own_in _ _ (own_vx ci ai) (own_vcap ci)).2) hZ (hw _ (List.mem_of_getElem? (i := 43) rfl)) (hw _ (List.mem_of_getElem? (i := 3) rfl)) (by decide) (by decide)) q20a q20c (g := (mkF m 159 #[.val (.int ci), .val (.int ai), .val (.int bi), .val (.int ii), .val (.int fi), .val (.int fl), .val (.int (v_cap ci)), .val (.int (v_x ci ai)), .val (.int (v_y ci ai bi fl)), .val (.int (v_sel fl)), .val (.int (v_r ci ai bi ii fl)), .val (.int (b2i (v_aA fl))), .val (.int (b2i (v_aB fl))), .val (.int (v_from ci fi)), .val (.ref b15), .unset, .unset, .unset, .unset, .unset, .unset] [(.int (v_x ci ai)), (.ref b15)])) rfl (by rw [hml]; rfl) (Steps.refl _) (argsL := [(.int (v_x ci ai))]) (rest := []) (lenOf pd_2 rfl) rfl (by show 2 * 0 + _ ≤ _; exact Nat.le_of_eq rfl) (hb hby at_159) (fun _ _ => ⟨rfl, rfl, (by decide : 3 + 0 ≤ _), (by decide : 264 + 0 ≤ _)⟩)
      dsimp only [Pt.U, Pt.locs, Pt.cells, Pt.slots] at X20 l20 y20 z20 st20 hQ20
      subst y20 z20
      obtain ⟨rfl, N20q, I20⟩ := hQ20
      obtain ⟨k21_0, k21_1, k21_2, k21_3, k21_4, k21_5, k21_6, k21_g_ob, k21_g_aw, k21_g_au, k21_n_ob_aw, k21_n_ob_au, k21_n_aw_au, k21_sz⟩ := I20
      have N20 : Fr n0 L20 := by rw [l20]; exact Fr.app N16 N20q
      have pre22 : ∀ t, Steps p.tables e below (T20.setTop (mkF m 163 #[.val (.int ci), .val (.int ai), .val (.int bi), .val (.int ii), .val (.int fi), .val (.int fl), .val (.int (v_cap ci)), .val (.int (v_x ci ai)), .val (.int (v_y ci ai bi fl)), .val (.int (v_sel fl)), .val (.int (v_r ci ai bi ii fl)), .val (.int (b2i (v_aA fl))), .val (.int (b2i (v_aB fl))), .val (.int (v_from ci fi)), .val (.ref b15), .unset, .unset, .unset, .unset, .unset, .unset] [])) t → Steps p.tables e below (s₁.setTop (entryFrame m #[(.int ci), (.int ai), (.int bi), (.int ii), (.int fi), (.int fl)] maxLocals)) t := by
        intro t k
        refine pre18 t ?_
        show Steps p.tables e below (T16.setTop (mkF m 152 #[.val (.int ci), .val (.int ai), .val (.int bi), .val (.int ii), .val (.int fi), .val (.int fl), .val (.int (v_cap ci)), .val (.int (v_x ci ai)), .val (.int (v_y ci ai bi fl)), .val (.int (v_sel fl)), .val (.int (v_r ci ai bi ii fl)), .val (.int (b2i (v_aA fl))), .val (.int (b2i (v_aB fl))), .val (.int (v_from ci fi)), .val (.ref b15), .unset, .unset, .unset, .unset, .unset, .unset] [(.int (b2i (v_aA fl)))])) _
        refine XS.ifNo X16.here hx rfl (hb hby at_152) rfl ((if0 _ _).trans (feq (b2i_ne hc19)).1) ?_
        show Steps p.tables e below (T16.setTop (mkF m 155 #[.val (.int ci), .val (.int ai), .val (.int bi), .val (.int ii), .val (.int fi), .val (.int fl), .val (.int (v_cap ci)), .val (.int (v_x ci ai)), .val (.int (v_y ci ai bi fl)), .val (.int (v_sel fl)), .val (.int (v_r ci ai bi ii fl)), .val (.int (b2i (v_aA fl))), .val (.int (b2i (v_aB fl))), .val (.int (v_from ci fi)), .val (.ref b15), .unset, .unset, .unset, .unset, .unset, .unset] [])) _
        refine XS.aload X16.here hx rfl (hb hby at_155) rfl rfl ?_
        show Steps p.tables e below (T16.setTop (mkF m 157 #[.val (.int ci), .val (.int ai), .val (.int bi), .val (.int ii), .val (.int fi), .val (.int fl), .val (.int (v_cap ci)), .val (.int (v_x ci ai)), .val (.int (v_y ci ai bi fl)), .val (.int (v_sel fl)), .val (.int (v_r ci ai bi ii fl)), .val (.int (b2i (v_aA fl))), .val (.int (b2i (v_aB fl))), .val (.int (v_from ci fi)), .val (.ref b15), .unset, .unset, .unset, .unset, .unset, .unset] [(.ref b15)])) _
        refine XS.iload X16.here hx rfl (hb hby at_157) rfl ?_
        show Steps p.tables e below (T16.setTop (mkF m 159 #[.val (.int ci), .val (.int ai), .val (.int bi), .val (.int ii), .val (.int fi), .val (.int fl), .val (.int (v_cap ci)), .val (.int (v_x ci ai)), .val (.int (v_y ci ai bi fl)), .val (.int (v_sel fl)), .val (.int (v_r ci ai bi ii fl)), .val (.int (b2i (v_aA fl))), .val (.int (b2i (v_aB fl))), .val (.int (v_from ci fi)), .val (.ref b15), .unset, .unset, .unset, .unset, .unset, .unset] [(.int (v_x ci ai)), (.ref b15)])) _
        refine st20.trans ?_
        show Steps p.tables e below (T20.setTop (mkF m 162 #[.val (.int ci), .val (.int ai), .val (.int bi), .val (.int ii), .val (.int fi), .val (.int fl), .val (.int (v_cap ci)), .val (.int (v_x ci ai)), .val (.int (v_y ci ai bi fl)), .val (.int (v_sel fl)), .val (.int (v_r ci ai bi ii fl)), .val (.int (b2i (v_aA fl))), .val (.int (b2i (v_aB fl))), .val (.int (v_from ci fi)), .val (.ref b15), .unset, .unset, .unset, .unset, .unset, .unset] [(.int (b2i (Fadd (v_x ci ai) (fun _ => 0))))])) _
        refine XS.pop X20.here hx rfl (hb hby at_162) rfl rfl ?_
        exact k
      refine ⟨T20, _, _, X20, rfl, N20, ⟨k21_0, k21_1, k21_2, k21_3, (by rw [(show (v_sA ci ai fl) = (Fadd_sz (v_x ci ai) (0 : Int32) (fun _ => 0)) from ((if_pos hc19).trans rfl))]; exact k21_4), (by rw [(show (v_wA ci ai fl) = (Fadd_w (v_x ci ai) (fun _ => 0)) from ((if_pos hc19).trans rfl))]; exact k21_5), (by rw [(show (v_uA ci ai fl) = (Fadd_u (v_x ci ai) (fun _ => 0) (fun _ => 0)) from ((if_pos hc19).trans rfl))]; exact k21_6), k21_g_ob, k21_g_aw, k21_g_au, k21_n_ob_aw, k21_n_ob_au, k21_n_aw_au, k21_sz⟩, fun t k => ?_⟩
      exact pre22 t k
    ·
      have pre23 : ∀ t, Steps p.tables e below (T16.setTop (mkF m 163 #[.val (.int ci), .val (.int ai), .val (.int bi), .val (.int ii), .val (.int fi), .val (.int fl), .val (.int (v_cap ci)), .val (.int (v_x ci ai)), .val (.int (v_y ci ai bi fl)), .val (.int (v_sel fl)), .val (.int (v_r ci ai bi ii fl)), .val (.int (b2i (v_aA fl))), .val (.int (b2i (v_aB fl))), .val (.int (v_from ci fi)), .val (.ref b15), .unset, .unset, .unset, .unset, .unset, .unset] [])) t → Steps p.tables e below (s₁.setTop (entryFrame m #[(.int ci), (.int ai), (.int bi), (.int ii), (.int fi), (.int fl)] maxLocals)) t := by
        intro t k
        refine pre18 t ?_
        show Steps p.tables e below (T16.setTop (mkF m 152 #[.val (.int ci), .val (.int ai), .val (.int bi), .val (.int ii), .val (.int fi), .val (.int fl), .val (.int (v_cap ci)), .val (.int (v_x ci ai)), .val (.int (v_y ci ai bi fl)), .val (.int (v_sel fl)), .val (.int (v_r ci ai bi ii fl)), .val (.int (b2i (v_aA fl))), .val (.int (b2i (v_aB fl))), .val (.int (v_from ci fi)), .val (.ref b15), .unset, .unset, .unset, .unset, .unset, .unset] [(.int (b2i (v_aA fl)))])) _
        refine XS.ifYes X16.here hx rfl (pc0 := 152) (pc' := 163) rfl (hb hby at_152) rfl ((if0 _ _).trans (teq (b2i_eq hc19)).1) (by decide) (by decide) ?_
        exact k
      refine ⟨T16, _, _, X16, rfl, N16, ⟨k17_0, k17_1, k17_2, k17_3, (by rw [(show (v_sA ci ai fl) = (0 : Int32) from ((if_neg hc19).trans rfl))]; exact k17_4), (by rw [(show (v_wA ci ai fl) = (fun _ => 0) from ((if_neg hc19).trans rfl))]; exact k17_5), (by rw [(show (v_uA ci ai fl) = (fun _ => 0) from ((if_neg hc19).trans rfl))]; exact k17_6), k17_g_ob, k17_g_aw, k17_g_au, k17_n_ob_aw, k17_n_ob_au, k17_n_aw_au, k17_sz⟩, fun t k => ?_⟩
      exact pre23 t k
  obtain ⟨k25_0, k25_1, k25_2, k25_3, k25_4, k25_5, k25_6, k25_g_ob, k25_g_aw, k25_g_au, k25_n_ob_aw, k25_n_ob_au, k25_n_aw_au, k25_sz⟩ := I24
  have pre26 : ∀ t, Steps p.tables e below (T24.setTop (mkF m 165 #[.val (.int ci), .val (.int ai), .val (.int bi), .val (.int ii), .val (.int fi), .val (.int fl), .val (.int (v_cap ci)), .val (.int (v_x ci ai)), .val (.int (v_y ci ai bi fl)), .val (.int (v_sel fl)), .val (.int (v_r ci ai bi ii fl)), .val (.int (b2i (v_aA fl))), .val (.int (b2i (v_aB fl))), .val (.int (v_from ci fi)), .val (.ref b15), .unset, .unset, .unset, .unset, .unset, .unset] [(.int (b2i (v_aB fl)))])) t → Steps p.tables e below (s₁.setTop (entryFrame m #[(.int ci), (.int ai), (.int bi), (.int ii), (.int fi), (.int fl)] maxLocals)) t := by
    intro t k
    refine pre24 t ?_
    show Steps p.tables e below (T24.setTop (mkF m 163 #[.val (.int ci), .val (.int ai), .val (.int bi), .val (.int ii), .val (.int fi), .val (.int fl), .val (.int (v_cap ci)), .val (.int (v_x ci ai)), .val (.int (v_y ci ai bi fl)), .val (.int (v_sel fl)), .val (.int (v_r ci ai bi ii fl)), .val (.int (b2i (v_aA fl))), .val (.int (b2i (v_aB fl))), .val (.int (v_from ci fi)), .val (.ref b15), .unset, .unset, .unset, .unset, .unset, .unset] [])) _
    refine XS.iload X24.here hx rfl (hb hby at_163) rfl ?_
    exact k
  obtain ⟨T32, hh32, L32, X32, e32, N32, I32, pre32⟩ : ∃ (T : State) (hh32 : Heap) (L : List Loc), Stand p l e room_1 s m #[(.int ci), (.int ai), (.int bi), (.int ii), (.int fi), (.int fl)] below meth c T L 3 264 ∧ T.heap = hh32 ∧ Fr n0 L ∧ (IS Z hh32 n0 b15 aw16 au16 (v_cap ci) (v_sB ci ai bi fl) (own_nw (v_cap ci)) (v_wB ci ai bi fl) (own_nw (own_nw (v_cap ci))) (v_uB ci ai bi fl)) ∧ ∀ t, Steps p.tables e below (T.setTop (mkF m 176 #[.val (.int ci), .val (.int ai), .val (.int bi), .val (.int ii), .val (.int fi), .val (.int fl), .val (.int (v_cap ci)), .val (.int (v_x ci ai)), .val (.int (v_y ci ai bi fl)), .val (.int (v_sel fl)), .val (.int (v_r ci ai bi ii fl)), .val (.int (b2i (v_aA fl))), .val (.int (b2i (v_aB fl))), .val (.int (v_from ci fi)), .val (.ref b15), .unset, .unset, .unset, .unset, .unset, .unset] [])) t → Steps p.tables e below (s₁.setTop (entryFrame m #[(.int ci), (.int ai), (.int bi), (.int ii), (.int fi), (.int fl)] maxLocals)) t := by
    by_cases hc27 : (v_aB fl) = true
    ·
      obtain ⟨cq28, kq28, q28a, q28b, q28c⟩ := isOf hZ e24 k25_0
      obtain ⟨_, _, ⟨T28, L28, k28, n28⟩, -, X28, ⟨Lc28, hQ28, l28, y28, z28⟩, st28⟩ := X24.virtualBack hx (y := (⟨"com/example/cutline/cutline/IndexSet", "add", "(I)Z"⟩ : MethodName)) (z := (⟨"com/example/cutline/cutline/IndexSet", "add", "(I)Z"⟩ : MethodName)) hown (mvT hZ (hw _ (List.mem_of_getElem? (i := 39) rfl))) (mvT hZ (hw _ (List.mem_of_getElem? (i := 40) rfl))) (notFace_of_selects (args := #[]) (mvT hZ (hw _ (List.mem_of_getElem? (i := 42) rfl)))) (mvT hZ (hw _ (List.mem_of_getElem? (i := 42) rfl))) (mvT hZ (hw _ (List.mem_of_getElem? (i := 41) rfl))) (by decide) (backOf (W := 0) (rm7 l Z a0 hw [] b15 (v_y ci ai bi fl) aw16 au16 (v_cap ci) (v_sA ci ai fl) (own_nw (v_cap ci)) (v_wA ci ai fl) (own_nw (own_nw (v_cap ci))) (v_uA ci ai fl) hh24 n0 k25_sz ⟨k25_0, k25_1, k25_2, k25_3, k25_4, k25_5, k25_6, k25_g_ob, k25_g_aw, k25_g_au, k25_n_ob_aw, k25_n_ob_au, k25_n_aw_au, k25_sz⟩ (own_in _ _ (own_vy ci ai bi fl) (own_vcap ci)).1 (own_in _ _ (own_vy ci ai bi fl) (own_vcap ci)).2) hZ (hw _ (List.mem_of_getElem? (i := 43) rfl)) (hw _ (List.mem_of_getElem? (i := 3) rfl)) (by decide) (by decide)) q28a q28c (g := (mkF m 172 #[.val (.int ci), .val (.int ai), .val (.int bi), .val (.int ii), .val (.int fi), .val (.int fl), .val (.int (v_cap ci)), .val (.int (v_x ci ai)), .val (.int (v_y ci ai bi fl)), .val (.int (v_sel fl)), .val (.int (v_r ci ai bi ii fl)), .val (.int (b2i (v_aA fl))), .val (.int (b2i (v_aB fl))), .val (.int (v_from ci fi)), .val (.ref b15), .unset, .unset, .unset, .unset, .unset, .unset] [(.int (v_y ci ai bi fl)), (.ref b15)])) rfl (by rw [hml]; rfl) (Steps.refl _) (argsL := [(.int (v_y ci ai bi fl))]) (rest := []) (lenOf pd_2 rfl) rfl (by show 2 * 0 + _ ≤ _; exact Nat.le_of_eq rfl) (hb hby at_172) (fun _ _ => ⟨rfl, e24, (by decide : 3 + 0 ≤ _), (by decide : 264 + 0 ≤ _)⟩)
      dsimp only [Pt.U, Pt.locs, Pt.cells, Pt.slots] at X28 l28 y28 z28 st28 hQ28
      subst y28 z28
      obtain ⟨rfl, N28q, I28⟩ := hQ28
      obtain ⟨k29_0, k29_1, k29_2, k29_3, k29_4, k29_5, k29_6, k29_g_ob, k29_g_aw, k29_g_au, k29_n_ob_aw, k29_n_ob_au, k29_n_aw_au, k29_sz⟩ := I28
      have N28 : Fr n0 L28 := by rw [l28]; exact Fr.app N24 N28q
      have pre30 : ∀ t, Steps p.tables e below (T28.setTop (mkF m 176 #[.val (.int ci), .val (.int ai), .val (.int bi), .val (.int ii), .val (.int fi), .val (.int fl), .val (.int (v_cap ci)), .val (.int (v_x ci ai)), .val (.int (v_y ci ai bi fl)), .val (.int (v_sel fl)), .val (.int (v_r ci ai bi ii fl)), .val (.int (b2i (v_aA fl))), .val (.int (b2i (v_aB fl))), .val (.int (v_from ci fi)), .val (.ref b15), .unset, .unset, .unset, .unset, .unset, .unset] [])) t → Steps p.tables e below (s₁.setTop (entryFrame m #[(.int ci), (.int ai), (.int bi), (.int ii), (.int fi), (.int fl)] maxLocals)) t := by
        intro t k
        refine pre26 t ?_
        show Steps p.tables e below (T24.setTop (mkF m 165 #[.val (.int ci), .val (.int ai), .val (.int bi), .val (.int ii), .val (.int fi), .val (.int fl), .val (.int (v_cap ci)), .val (.int (v_x ci ai)), .val (.int (v_y ci ai bi fl)), .val (.int (v_sel fl)), .val (.int (v_r ci ai bi ii fl)), .val (.int (b2i (v_aA fl))), .val (.int (b2i (v_aB fl))), .val (.int (v_from ci fi)), .val (.ref b15), .unset, .unset, .unset, .unset, .unset, .unset] [(.int (b2i (v_aB fl)))])) _
        refine XS.ifNo X24.here hx rfl (hb hby at_165) rfl ((if0 _ _).trans (feq (b2i_ne hc27)).1) ?_
        show Steps p.tables e below (T24.setTop (mkF m 168 #[.val (.int ci), .val (.int ai), .val (.int bi), .val (.int ii), .val (.int fi), .val (.int fl), .val (.int (v_cap ci)), .val (.int (v_x ci ai)), .val (.int (v_y ci ai bi fl)), .val (.int (v_sel fl)), .val (.int (v_r ci ai bi ii fl)), .val (.int (b2i (v_aA fl))), .val (.int (b2i (v_aB fl))), .val (.int (v_from ci fi)), .val (.ref b15), .unset, .unset, .unset, .unset, .unset, .unset] [])) _
        refine XS.aload X24.here hx rfl (hb hby at_168) rfl rfl ?_
        show Steps p.tables e below (T24.setTop (mkF m 170 #[.val (.int ci), .val (.int ai), .val (.int bi), .val (.int ii), .val (.int fi), .val (.int fl), .val (.int (v_cap ci)), .val (.int (v_x ci ai)), .val (.int (v_y ci ai bi fl)), .val (.int (v_sel fl)), .val (.int (v_r ci ai bi ii fl)), .val (.int (b2i (v_aA fl))), .val (.int (b2i (v_aB fl))), .val (.int (v_from ci fi)), .val (.ref b15), .unset, .unset, .unset, .unset, .unset, .unset] [(.ref b15)])) _
        refine XS.iload X24.here hx rfl (hb hby at_170) rfl ?_
        show Steps p.tables e below (T24.setTop (mkF m 172 #[.val (.int ci), .val (.int ai), .val (.int bi), .val (.int ii), .val (.int fi), .val (.int fl), .val (.int (v_cap ci)), .val (.int (v_x ci ai)), .val (.int (v_y ci ai bi fl)), .val (.int (v_sel fl)), .val (.int (v_r ci ai bi ii fl)), .val (.int (b2i (v_aA fl))), .val (.int (b2i (v_aB fl))), .val (.int (v_from ci fi)), .val (.ref b15), .unset, .unset, .unset, .unset, .unset, .unset] [(.int (v_y ci ai bi fl)), (.ref b15)])) _
        refine st28.trans ?_
        show Steps p.tables e below (T28.setTop (mkF m 175 #[.val (.int ci), .val (.int ai), .val (.int bi), .val (.int ii), .val (.int fi), .val (.int fl), .val (.int (v_cap ci)), .val (.int (v_x ci ai)), .val (.int (v_y ci ai bi fl)), .val (.int (v_sel fl)), .val (.int (v_r ci ai bi ii fl)), .val (.int (b2i (v_aA fl))), .val (.int (b2i (v_aB fl))), .val (.int (v_from ci fi)), .val (.ref b15), .unset, .unset, .unset, .unset, .unset, .unset] [(.int (b2i (Fadd (v_y ci ai bi fl) (v_wA ci ai fl))))])) _
        refine XS.pop X28.here hx rfl (hb hby at_175) rfl rfl ?_
        exact k
      refine ⟨T28, _, _, X28, rfl, N28, ⟨k29_0, k29_1, k29_2, k29_3, (by rw [(show (v_sB ci ai bi fl) = (Fadd_sz (v_y ci ai bi fl) (v_sA ci ai fl) (v_wA ci ai fl)) from ((if_pos hc27).trans rfl))]; exact k29_4), (by rw [(show (v_wB ci ai bi fl) = (Fadd_w (v_y ci ai bi fl) (v_wA ci ai fl)) from ((if_pos hc27).trans rfl))]; exact k29_5), (by rw [(show (v_uB ci ai bi fl) = (Fadd_u (v_y ci ai bi fl) (v_wA ci ai fl) (v_uA ci ai fl)) from ((if_pos hc27).trans rfl))]; exact k29_6), k29_g_ob, k29_g_aw, k29_g_au, k29_n_ob_aw, k29_n_ob_au, k29_n_aw_au, k29_sz⟩, fun t k => ?_⟩
      exact pre30 t k
    ·
      have pre31 : ∀ t, Steps p.tables e below (T24.setTop (mkF m 176 #[.val (.int ci), .val (.int ai), .val (.int bi), .val (.int ii), .val (.int fi), .val (.int fl), .val (.int (v_cap ci)), .val (.int (v_x ci ai)), .val (.int (v_y ci ai bi fl)), .val (.int (v_sel fl)), .val (.int (v_r ci ai bi ii fl)), .val (.int (b2i (v_aA fl))), .val (.int (b2i (v_aB fl))), .val (.int (v_from ci fi)), .val (.ref b15), .unset, .unset, .unset, .unset, .unset, .unset] [])) t → Steps p.tables e below (s₁.setTop (entryFrame m #[(.int ci), (.int ai), (.int bi), (.int ii), (.int fi), (.int fl)] maxLocals)) t := by
        intro t k
        refine pre26 t ?_
        show Steps p.tables e below (T24.setTop (mkF m 165 #[.val (.int ci), .val (.int ai), .val (.int bi), .val (.int ii), .val (.int fi), .val (.int fl), .val (.int (v_cap ci)), .val (.int (v_x ci ai)), .val (.int (v_y ci ai bi fl)), .val (.int (v_sel fl)), .val (.int (v_r ci ai bi ii fl)), .val (.int (b2i (v_aA fl))), .val (.int (b2i (v_aB fl))), .val (.int (v_from ci fi)), .val (.ref b15), .unset, .unset, .unset, .unset, .unset, .unset] [(.int (b2i (v_aB fl)))])) _
        refine XS.ifYes X24.here hx rfl (pc0 := 165) (pc' := 176) rfl (hb hby at_165) rfl ((if0 _ _).trans (teq (b2i_eq hc27)).1) (by decide) (by decide) ?_
        exact k
      refine ⟨T24, _, _, X24, e24, N24, ⟨k25_0, k25_1, k25_2, k25_3, (by rw [(show (v_sB ci ai bi fl) = (v_sA ci ai fl) from ((if_neg hc27).trans rfl))]; exact k25_4), (by rw [(show (v_wB ci ai bi fl) = (v_wA ci ai fl) from ((if_neg hc27).trans rfl))]; exact k25_5), (by rw [(show (v_uB ci ai bi fl) = (v_uA ci ai fl) from ((if_neg hc27).trans rfl))]; exact k25_6), k25_g_ob, k25_g_aw, k25_g_au, k25_n_ob_aw, k25_n_ob_au, k25_n_aw_au, k25_sz⟩, fun t k => ?_⟩
      exact pre31 t k
  obtain ⟨k33_0, k33_1, k33_2, k33_3, k33_4, k33_5, k33_6, k33_g_ob, k33_g_aw, k33_g_au, k33_n_ob_aw, k33_n_ob_au, k33_n_aw_au, k33_sz⟩ := I32
  have pre34 : ∀ t, Steps p.tables e below (T32.setTop (mkF m 178 #[.val (.int ci), .val (.int ai), .val (.int bi), .val (.int ii), .val (.int fi), .val (.int fl), .val (.int (v_cap ci)), .val (.int (v_x ci ai)), .val (.int (v_y ci ai bi fl)), .val (.int (v_sel fl)), .val (.int (v_r ci ai bi ii fl)), .val (.int (b2i (v_aA fl))), .val (.int (b2i (v_aB fl))), .val (.int (v_from ci fi)), .val (.ref b15), .unset, .unset, .unset, .unset, .unset, .unset] [(.int (b2i (v_aA fl)))])) t → Steps p.tables e below (s₁.setTop (entryFrame m #[(.int ci), (.int ai), (.int bi), (.int ii), (.int fi), (.int fl)] maxLocals)) t := by
    intro t k
    refine pre32 t ?_
    show Steps p.tables e below (T32.setTop (mkF m 176 #[.val (.int ci), .val (.int ai), .val (.int bi), .val (.int ii), .val (.int fi), .val (.int fl), .val (.int (v_cap ci)), .val (.int (v_x ci ai)), .val (.int (v_y ci ai bi fl)), .val (.int (v_sel fl)), .val (.int (v_r ci ai bi ii fl)), .val (.int (b2i (v_aA fl))), .val (.int (b2i (v_aB fl))), .val (.int (v_from ci fi)), .val (.ref b15), .unset, .unset, .unset, .unset, .unset, .unset] [])) _
    refine XS.iload X32.here hx rfl (hb hby at_176) rfl ?_
    exact k
  have pre36 : ∀ t, Steps p.tables e below (T32.setTop (mkF m 205 #[.val (.int ci), .val (.int ai), .val (.int bi), .val (.int ii), .val (.int fi), .val (.int fl), .val (.int (v_cap ci)), .val (.int (v_x ci ai)), .val (.int (v_y ci ai bi fl)), .val (.int (v_sel fl)), .val (.int (v_r ci ai bi ii fl)), .val (.int (b2i (v_aA fl))), .val (.int (b2i (v_aB fl))), .val (.int (v_from ci fi)), .val (.ref b15), .unset, .unset, .unset, .unset, .unset, .unset] [(.int (b2i (if (v_aA fl) = true then (if (v_r ci ai bi ii fl) = (v_x ci ai) then true else (nd0_188_35 ci ai bi ii fl)) else (nd0_188_35 ci ai bi ii fl))))])) t → Steps p.tables e below (s₁.setTop (entryFrame m #[(.int ci), (.int ai), (.int bi), (.int ii), (.int fi), (.int fl)] maxLocals)) t := by
    intro t k
    refine pre34 t ?_
    have k : ∀ (v1 : Bool), v1 = (if (v_aA fl) = true then (if (v_r ci ai bi ii fl) = (v_x ci ai) then true else (nd0_188_35 ci ai bi ii fl)) else (nd0_188_35 ci ai bi ii fl)) → Steps p.tables e below (T32.setTop (mkF m 205 #[.val (.int ci), .val (.int ai), .val (.int bi), .val (.int ii), .val (.int fi), .val (.int fl), .val (.int (v_cap ci)), .val (.int (v_x ci ai)), .val (.int (v_y ci ai bi fl)), .val (.int (v_sel fl)), .val (.int (v_r ci ai bi ii fl)), .val (.int (b2i (v_aA fl))), .val (.int (b2i (v_aB fl))), .val (.int (v_from ci fi)), .val (.ref b15), .unset, .unset, .unset, .unset, .unset, .unset] [(.int (b2i v1))])) t := fun v1 hv1 => by subst hv1; exact k
    have nd37 : (∀ (v1 : Bool), v1 = true → Steps p.tables e below (T32.setTop (mkF m 205 #[.val (.int ci), .val (.int ai), .val (.int bi), .val (.int ii), .val (.int fi), .val (.int fl), .val (.int (v_cap ci)), .val (.int (v_x ci ai)), .val (.int (v_y ci ai bi fl)), .val (.int (v_sel fl)), .val (.int (v_r ci ai bi ii fl)), .val (.int (b2i (v_aA fl))), .val (.int (b2i (v_aB fl))), .val (.int (v_from ci fi)), .val (.ref b15), .unset, .unset, .unset, .unset, .unset, .unset] [(.int (b2i v1))])) t) → Steps p.tables e below (T32.setTop (mkF m 200 #[.val (.int ci), .val (.int ai), .val (.int bi), .val (.int ii), .val (.int fi), .val (.int fl), .val (.int (v_cap ci)), .val (.int (v_x ci ai)), .val (.int (v_y ci ai bi fl)), .val (.int (v_sel fl)), .val (.int (v_r ci ai bi ii fl)), .val (.int (b2i (v_aA fl))), .val (.int (b2i (v_aB fl))), .val (.int (v_from ci fi)), .val (.ref b15), .unset, .unset, .unset, .unset, .unset, .unset] [])) t := by
      intro k
      show Steps p.tables e below (T32.setTop (mkF m 200 #[.val (.int ci), .val (.int ai), .val (.int bi), .val (.int ii), .val (.int fi), .val (.int fl), .val (.int (v_cap ci)), .val (.int (v_x ci ai)), .val (.int (v_y ci ai bi fl)), .val (.int (v_sel fl)), .val (.int (v_r ci ai bi ii fl)), .val (.int (b2i (v_aA fl))), .val (.int (b2i (v_aB fl))), .val (.int (v_from ci fi)), .val (.ref b15), .unset, .unset, .unset, .unset, .unset, .unset] [])) _
      refine XS.iconst X32.here hx rfl (hb hby at_200) ?_
      show Steps p.tables e below (T32.setTop (mkF m 201 #[.val (.int ci), .val (.int ai), .val (.int bi), .val (.int ii), .val (.int fi), .val (.int fl), .val (.int (v_cap ci)), .val (.int (v_x ci ai)), .val (.int (v_y ci ai bi fl)), .val (.int (v_sel fl)), .val (.int (v_r ci ai bi ii fl)), .val (.int (b2i (v_aA fl))), .val (.int (b2i (v_aB fl))), .val (.int (v_from ci fi)), .val (.ref b15), .unset, .unset, .unset, .unset, .unset, .unset] [(.int (1 : Int32))])) _
      refine XS.goto X32.here hx rfl (pc0 := 201) (pc' := 205) rfl (hb hby at_201) (by decide) (by decide) ?_
      exact k true rfl
    have nd38 : (∀ (v1 : Bool), v1 = false → Steps p.tables e below (T32.setTop (mkF m 205 #[.val (.int ci), .val (.int ai), .val (.int bi), .val (.int ii), .val (.int fi), .val (.int fl), .val (.int (v_cap ci)), .val (.int (v_x ci ai)), .val (.int (v_y ci ai bi fl)), .val (.int (v_sel fl)), .val (.int (v_r ci ai bi ii fl)), .val (.int (b2i (v_aA fl))), .val (.int (b2i (v_aB fl))), .val (.int (v_from ci fi)), .val (.ref b15), .unset, .unset, .unset, .unset, .unset, .unset] [(.int (b2i v1))])) t) → Steps p.tables e below (T32.setTop (mkF m 204 #[.val (.int ci), .val (.int ai), .val (.int bi), .val (.int ii), .val (.int fi), .val (.int fl), .val (.int (v_cap ci)), .val (.int (v_x ci ai)), .val (.int (v_y ci ai bi fl)), .val (.int (v_sel fl)), .val (.int (v_r ci ai bi ii fl)), .val (.int (b2i (v_aA fl))), .val (.int (b2i (v_aB fl))), .val (.int (v_from ci fi)), .val (.ref b15), .unset, .unset, .unset, .unset, .unset, .unset] [])) t := by
      intro k
      show Steps p.tables e below (T32.setTop (mkF m 204 #[.val (.int ci), .val (.int ai), .val (.int bi), .val (.int ii), .val (.int fi), .val (.int fl), .val (.int (v_cap ci)), .val (.int (v_x ci ai)), .val (.int (v_y ci ai bi fl)), .val (.int (v_sel fl)), .val (.int (v_r ci ai bi ii fl)), .val (.int (b2i (v_aA fl))), .val (.int (b2i (v_aB fl))), .val (.int (v_from ci fi)), .val (.ref b15), .unset, .unset, .unset, .unset, .unset, .unset] [])) _
      refine XS.iconst X32.here hx rfl (hb hby at_204) ?_
      exact k false rfl
    have nd39 : (∀ (v1 : Bool), v1 = (nd0_188_35 ci ai bi ii fl) → Steps p.tables e below (T32.setTop (mkF m 205 #[.val (.int ci), .val (.int ai), .val (.int bi), .val (.int ii), .val (.int fi), .val (.int fl), .val (.int (v_cap ci)), .val (.int (v_x ci ai)), .val (.int (v_y ci ai bi fl)), .val (.int (v_sel fl)), .val (.int (v_r ci ai bi ii fl)), .val (.int (b2i (v_aA fl))), .val (.int (b2i (v_aB fl))), .val (.int (v_from ci fi)), .val (.ref b15), .unset, .unset, .unset, .unset, .unset, .unset] [(.int (b2i v1))])) t) → Steps p.tables e below (T32.setTop (mkF m 188 #[.val (.int ci), .val (.int ai), .val (.int bi), .val (.int ii), .val (.int fi), .val (.int fl), .val (.int (v_cap ci)), .val (.int (v_x ci ai)), .val (.int (v_y ci ai bi fl)), .val (.int (v_sel fl)), .val (.int (v_r ci ai bi ii fl)), .val (.int (b2i (v_aA fl))), .val (.int (b2i (v_aB fl))), .val (.int (v_from ci fi)), .val (.ref b15), .unset, .unset, .unset, .unset, .unset, .unset] [])) t := by
      intro k
      have k : ∀ (v1 : Bool), v1 = (if (v_aB fl) = true then (if (v_r ci ai bi ii fl) = (v_y ci ai bi fl) then true else false) else false) → Steps p.tables e below (T32.setTop (mkF m 205 #[.val (.int ci), .val (.int ai), .val (.int bi), .val (.int ii), .val (.int fi), .val (.int fl), .val (.int (v_cap ci)), .val (.int (v_x ci ai)), .val (.int (v_y ci ai bi fl)), .val (.int (v_sel fl)), .val (.int (v_r ci ai bi ii fl)), .val (.int (b2i (v_aA fl))), .val (.int (b2i (v_aB fl))), .val (.int (v_from ci fi)), .val (.ref b15), .unset, .unset, .unset, .unset, .unset, .unset] [(.int (b2i v1))])) t := k
      show Steps p.tables e below (T32.setTop (mkF m 188 #[.val (.int ci), .val (.int ai), .val (.int bi), .val (.int ii), .val (.int fi), .val (.int fl), .val (.int (v_cap ci)), .val (.int (v_x ci ai)), .val (.int (v_y ci ai bi fl)), .val (.int (v_sel fl)), .val (.int (v_r ci ai bi ii fl)), .val (.int (b2i (v_aA fl))), .val (.int (b2i (v_aB fl))), .val (.int (v_from ci fi)), .val (.ref b15), .unset, .unset, .unset, .unset, .unset, .unset] [])) _
      refine XS.iload X32.here hx rfl (hb hby at_188) rfl ?_
      show Steps p.tables e below (T32.setTop (mkF m 190 #[.val (.int ci), .val (.int ai), .val (.int bi), .val (.int ii), .val (.int fi), .val (.int fl), .val (.int (v_cap ci)), .val (.int (v_x ci ai)), .val (.int (v_y ci ai bi fl)), .val (.int (v_sel fl)), .val (.int (v_r ci ai bi ii fl)), .val (.int (b2i (v_aA fl))), .val (.int (b2i (v_aB fl))), .val (.int (v_from ci fi)), .val (.ref b15), .unset, .unset, .unset, .unset, .unset, .unset] [(.int (b2i (v_aB fl)))])) _
      by_cases hc40 : (v_aB fl) = true
      · refine XS.ifNo X32.here hx rfl (hb hby at_190) rfl ((if0 _ _).trans (feq (b2i_ne hc40)).1) ?_
        have k : ∀ (v1 : Bool), v1 = (if (v_r ci ai bi ii fl) = (v_y ci ai bi fl) then true else false) → Steps p.tables e below (T32.setTop (mkF m 205 #[.val (.int ci), .val (.int ai), .val (.int bi), .val (.int ii), .val (.int fi), .val (.int fl), .val (.int (v_cap ci)), .val (.int (v_x ci ai)), .val (.int (v_y ci ai bi fl)), .val (.int (v_sel fl)), .val (.int (v_r ci ai bi ii fl)), .val (.int (b2i (v_aA fl))), .val (.int (b2i (v_aB fl))), .val (.int (v_from ci fi)), .val (.ref b15), .unset, .unset, .unset, .unset, .unset, .unset] [(.int (b2i v1))])) t := fun v1 hv1 => k v1 (hv1.trans (if_pos hc40).symm)
        show Steps p.tables e below (T32.setTop (mkF m 193 #[.val (.int ci), .val (.int ai), .val (.int bi), .val (.int ii), .val (.int fi), .val (.int fl), .val (.int (v_cap ci)), .val (.int (v_x ci ai)), .val (.int (v_y ci ai bi fl)), .val (.int (v_sel fl)), .val (.int (v_r ci ai bi ii fl)), .val (.int (b2i (v_aA fl))), .val (.int (b2i (v_aB fl))), .val (.int (v_from ci fi)), .val (.ref b15), .unset, .unset, .unset, .unset, .unset, .unset] [])) _
        refine XS.iload X32.here hx rfl (hb hby at_193) rfl ?_
        show Steps p.tables e below (T32.setTop (mkF m 195 #[.val (.int ci), .val (.int ai), .val (.int bi), .val (.int ii), .val (.int fi), .val (.int fl), .val (.int (v_cap ci)), .val (.int (v_x ci ai)), .val (.int (v_y ci ai bi fl)), .val (.int (v_sel fl)), .val (.int (v_r ci ai bi ii fl)), .val (.int (b2i (v_aA fl))), .val (.int (b2i (v_aB fl))), .val (.int (v_from ci fi)), .val (.ref b15), .unset, .unset, .unset, .unset, .unset, .unset] [(.int (v_r ci ai bi ii fl))])) _
        refine XS.iload X32.here hx rfl (hb hby at_195) rfl ?_
        show Steps p.tables e below (T32.setTop (mkF m 197 #[.val (.int ci), .val (.int ai), .val (.int bi), .val (.int ii), .val (.int fi), .val (.int fl), .val (.int (v_cap ci)), .val (.int (v_x ci ai)), .val (.int (v_y ci ai bi fl)), .val (.int (v_sel fl)), .val (.int (v_r ci ai bi ii fl)), .val (.int (b2i (v_aA fl))), .val (.int (b2i (v_aB fl))), .val (.int (v_from ci fi)), .val (.ref b15), .unset, .unset, .unset, .unset, .unset, .unset] [(.int (v_y ci ai bi fl)), (.int (v_r ci ai bi ii fl))])) _
        by_cases hc41 : (v_r ci ai bi ii fl) = (v_y ci ai bi fl)
        · refine XS.icmpNo X32.here hx rfl (hb hby at_197) rfl (teq hc41).2 ?_
          have k : ∀ (v1 : Bool), v1 = true → Steps p.tables e below (T32.setTop (mkF m 205 #[.val (.int ci), .val (.int ai), .val (.int bi), .val (.int ii), .val (.int fi), .val (.int fl), .val (.int (v_cap ci)), .val (.int (v_x ci ai)), .val (.int (v_y ci ai bi fl)), .val (.int (v_sel fl)), .val (.int (v_r ci ai bi ii fl)), .val (.int (b2i (v_aA fl))), .val (.int (b2i (v_aB fl))), .val (.int (v_from ci fi)), .val (.ref b15), .unset, .unset, .unset, .unset, .unset, .unset] [(.int (b2i v1))])) t := fun v1 hv1 => k v1 (hv1.trans (if_pos hc41).symm)
          exact nd37 k
        · refine XS.icmpYes X32.here hx rfl (pc0 := 197) (pc' := 204) rfl (hb hby at_197) rfl (feq hc41).2 (by decide) (by decide) ?_
          have k : ∀ (v1 : Bool), v1 = false → Steps p.tables e below (T32.setTop (mkF m 205 #[.val (.int ci), .val (.int ai), .val (.int bi), .val (.int ii), .val (.int fi), .val (.int fl), .val (.int (v_cap ci)), .val (.int (v_x ci ai)), .val (.int (v_y ci ai bi fl)), .val (.int (v_sel fl)), .val (.int (v_r ci ai bi ii fl)), .val (.int (b2i (v_aA fl))), .val (.int (b2i (v_aB fl))), .val (.int (v_from ci fi)), .val (.ref b15), .unset, .unset, .unset, .unset, .unset, .unset] [(.int (b2i v1))])) t := fun v1 hv1 => k v1 (hv1.trans (if_neg hc41).symm)
          exact nd38 k
      · refine XS.ifYes X32.here hx rfl (pc0 := 190) (pc' := 204) rfl (hb hby at_190) rfl ((if0 _ _).trans (teq (b2i_eq hc40)).1) (by decide) (by decide) ?_
        have k : ∀ (v1 : Bool), v1 = false → Steps p.tables e below (T32.setTop (mkF m 205 #[.val (.int ci), .val (.int ai), .val (.int bi), .val (.int ii), .val (.int fi), .val (.int fl), .val (.int (v_cap ci)), .val (.int (v_x ci ai)), .val (.int (v_y ci ai bi fl)), .val (.int (v_sel fl)), .val (.int (v_r ci ai bi ii fl)), .val (.int (b2i (v_aA fl))), .val (.int (b2i (v_aB fl))), .val (.int (v_from ci fi)), .val (.ref b15), .unset, .unset, .unset, .unset, .unset, .unset] [(.int (b2i v1))])) t := fun v1 hv1 => k v1 (hv1.trans (if_neg hc40).symm)
        exact nd38 k
    show Steps p.tables e below (T32.setTop (mkF m 178 #[.val (.int ci), .val (.int ai), .val (.int bi), .val (.int ii), .val (.int fi), .val (.int fl), .val (.int (v_cap ci)), .val (.int (v_x ci ai)), .val (.int (v_y ci ai bi fl)), .val (.int (v_sel fl)), .val (.int (v_r ci ai bi ii fl)), .val (.int (b2i (v_aA fl))), .val (.int (b2i (v_aB fl))), .val (.int (v_from ci fi)), .val (.ref b15), .unset, .unset, .unset, .unset, .unset, .unset] [(.int (b2i (v_aA fl)))])) _
    by_cases hc42 : (v_aA fl) = true
    · refine XS.ifNo X32.here hx rfl (hb hby at_178) rfl ((if0 _ _).trans (feq (b2i_ne hc42)).1) ?_
      have k : ∀ (v1 : Bool), v1 = (if (v_r ci ai bi ii fl) = (v_x ci ai) then true else (nd0_188_35 ci ai bi ii fl)) → Steps p.tables e below (T32.setTop (mkF m 205 #[.val (.int ci), .val (.int ai), .val (.int bi), .val (.int ii), .val (.int fi), .val (.int fl), .val (.int (v_cap ci)), .val (.int (v_x ci ai)), .val (.int (v_y ci ai bi fl)), .val (.int (v_sel fl)), .val (.int (v_r ci ai bi ii fl)), .val (.int (b2i (v_aA fl))), .val (.int (b2i (v_aB fl))), .val (.int (v_from ci fi)), .val (.ref b15), .unset, .unset, .unset, .unset, .unset, .unset] [(.int (b2i v1))])) t := fun v1 hv1 => k v1 (hv1.trans (if_pos hc42).symm)
      show Steps p.tables e below (T32.setTop (mkF m 181 #[.val (.int ci), .val (.int ai), .val (.int bi), .val (.int ii), .val (.int fi), .val (.int fl), .val (.int (v_cap ci)), .val (.int (v_x ci ai)), .val (.int (v_y ci ai bi fl)), .val (.int (v_sel fl)), .val (.int (v_r ci ai bi ii fl)), .val (.int (b2i (v_aA fl))), .val (.int (b2i (v_aB fl))), .val (.int (v_from ci fi)), .val (.ref b15), .unset, .unset, .unset, .unset, .unset, .unset] [])) _
      refine XS.iload X32.here hx rfl (hb hby at_181) rfl ?_
      show Steps p.tables e below (T32.setTop (mkF m 183 #[.val (.int ci), .val (.int ai), .val (.int bi), .val (.int ii), .val (.int fi), .val (.int fl), .val (.int (v_cap ci)), .val (.int (v_x ci ai)), .val (.int (v_y ci ai bi fl)), .val (.int (v_sel fl)), .val (.int (v_r ci ai bi ii fl)), .val (.int (b2i (v_aA fl))), .val (.int (b2i (v_aB fl))), .val (.int (v_from ci fi)), .val (.ref b15), .unset, .unset, .unset, .unset, .unset, .unset] [(.int (v_r ci ai bi ii fl))])) _
      refine XS.iload X32.here hx rfl (hb hby at_183) rfl ?_
      show Steps p.tables e below (T32.setTop (mkF m 185 #[.val (.int ci), .val (.int ai), .val (.int bi), .val (.int ii), .val (.int fi), .val (.int fl), .val (.int (v_cap ci)), .val (.int (v_x ci ai)), .val (.int (v_y ci ai bi fl)), .val (.int (v_sel fl)), .val (.int (v_r ci ai bi ii fl)), .val (.int (b2i (v_aA fl))), .val (.int (b2i (v_aB fl))), .val (.int (v_from ci fi)), .val (.ref b15), .unset, .unset, .unset, .unset, .unset, .unset] [(.int (v_x ci ai)), (.int (v_r ci ai bi ii fl))])) _
      by_cases hc43 : (v_r ci ai bi ii fl) = (v_x ci ai)
      · refine XS.icmpYes X32.here hx rfl (pc0 := 185) (pc' := 200) rfl (hb hby at_185) rfl (teq hc43).1 (by decide) (by decide) ?_
        have k : ∀ (v1 : Bool), v1 = true → Steps p.tables e below (T32.setTop (mkF m 205 #[.val (.int ci), .val (.int ai), .val (.int bi), .val (.int ii), .val (.int fi), .val (.int fl), .val (.int (v_cap ci)), .val (.int (v_x ci ai)), .val (.int (v_y ci ai bi fl)), .val (.int (v_sel fl)), .val (.int (v_r ci ai bi ii fl)), .val (.int (b2i (v_aA fl))), .val (.int (b2i (v_aB fl))), .val (.int (v_from ci fi)), .val (.ref b15), .unset, .unset, .unset, .unset, .unset, .unset] [(.int (b2i v1))])) t := fun v1 hv1 => k v1 (hv1.trans (if_pos hc43).symm)
        exact nd37 k
      · refine XS.icmpNo X32.here hx rfl (hb hby at_185) rfl (feq hc43).1 ?_
        have k : ∀ (v1 : Bool), v1 = (nd0_188_35 ci ai bi ii fl) → Steps p.tables e below (T32.setTop (mkF m 205 #[.val (.int ci), .val (.int ai), .val (.int bi), .val (.int ii), .val (.int fi), .val (.int fl), .val (.int (v_cap ci)), .val (.int (v_x ci ai)), .val (.int (v_y ci ai bi fl)), .val (.int (v_sel fl)), .val (.int (v_r ci ai bi ii fl)), .val (.int (b2i (v_aA fl))), .val (.int (b2i (v_aB fl))), .val (.int (v_from ci fi)), .val (.ref b15), .unset, .unset, .unset, .unset, .unset, .unset] [(.int (b2i v1))])) t := fun v1 hv1 => k v1 (hv1.trans (if_neg hc43).symm)
        exact nd39 k
    · refine XS.ifYes X32.here hx rfl (pc0 := 178) (pc' := 188) rfl (hb hby at_178) rfl ((if0 _ _).trans (teq (b2i_eq hc42)).1) (by decide) (by decide) ?_
      have k : ∀ (v1 : Bool), v1 = (nd0_188_35 ci ai bi ii fl) → Steps p.tables e below (T32.setTop (mkF m 205 #[.val (.int ci), .val (.int ai), .val (.int bi), .val (.int ii), .val (.int fi), .val (.int fl), .val (.int (v_cap ci)), .val (.int (v_x ci ai)), .val (.int (v_y ci ai bi fl)), .val (.int (v_sel fl)), .val (.int (v_r ci ai bi ii fl)), .val (.int (b2i (v_aA fl))), .val (.int (b2i (v_aB fl))), .val (.int (v_from ci fi)), .val (.ref b15), .unset, .unset, .unset, .unset, .unset, .unset] [(.int (b2i v1))])) t := fun v1 hv1 => k v1 (hv1.trans (if_neg hc42).symm)
      exact nd39 k
  have pre44 : ∀ t, Steps p.tables e below (T32.setTop (mkF m 209 #[.val (.int ci), .val (.int ai), .val (.int bi), .val (.int ii), .val (.int fi), .val (.int fl), .val (.int (v_cap ci)), .val (.int (v_x ci ai)), .val (.int (v_y ci ai bi fl)), .val (.int (v_sel fl)), .val (.int (v_r ci ai bi ii fl)), .val (.int (b2i (v_aA fl))), .val (.int (b2i (v_aB fl))), .val (.int (v_from ci fi)), .val (.ref b15), .val (.int (b2i (v_was ci ai bi ii fl))), .unset, .unset, .unset, .unset, .unset] [(.int (b2i (v_aA fl)))])) t → Steps p.tables e below (s₁.setTop (entryFrame m #[(.int ci), (.int ai), (.int bi), (.int ii), (.int fi), (.int fl)] maxLocals)) t := by
    intro t k
    refine pre36 t ?_
    show Steps p.tables e below (T32.setTop (mkF m 205 #[.val (.int ci), .val (.int ai), .val (.int bi), .val (.int ii), .val (.int fi), .val (.int fl), .val (.int (v_cap ci)), .val (.int (v_x ci ai)), .val (.int (v_y ci ai bi fl)), .val (.int (v_sel fl)), .val (.int (v_r ci ai bi ii fl)), .val (.int (b2i (v_aA fl))), .val (.int (b2i (v_aB fl))), .val (.int (v_from ci fi)), .val (.ref b15), .unset, .unset, .unset, .unset, .unset, .unset] [(.int (b2i (if (v_aA fl) = true then (if (v_r ci ai bi ii fl) = (v_x ci ai) then true else (nd0_188_35 ci ai bi ii fl)) else (nd0_188_35 ci ai bi ii fl))))])) _
    refine XS.istore X32.here hx rfl (hb hby at_205) rfl (l' := #[.val (.int ci), .val (.int ai), .val (.int bi), .val (.int ii), .val (.int fi), .val (.int fl), .val (.int (v_cap ci)), .val (.int (v_x ci ai)), .val (.int (v_y ci ai bi fl)), .val (.int (v_sel fl)), .val (.int (v_r ci ai bi ii fl)), .val (.int (b2i (v_aA fl))), .val (.int (b2i (v_aB fl))), .val (.int (v_from ci fi)), .val (.ref b15), .val (.int (b2i (v_was ci ai bi ii fl))), .unset, .unset, .unset, .unset, .unset]) rfl ?_
    show Steps p.tables e below (T32.setTop (mkF m 207 #[.val (.int ci), .val (.int ai), .val (.int bi), .val (.int ii), .val (.int fi), .val (.int fl), .val (.int (v_cap ci)), .val (.int (v_x ci ai)), .val (.int (v_y ci ai bi fl)), .val (.int (v_sel fl)), .val (.int (v_r ci ai bi ii fl)), .val (.int (b2i (v_aA fl))), .val (.int (b2i (v_aB fl))), .val (.int (v_from ci fi)), .val (.ref b15), .val (.int (b2i (v_was ci ai bi ii fl))), .unset, .unset, .unset, .unset, .unset] [])) _
    refine XS.iload X32.here hx rfl (hb hby at_207) rfl ?_
    exact k
  have pre46 : ∀ t, Steps p.tables e below (T32.setTop (mkF m 236 #[.val (.int ci), .val (.int ai), .val (.int bi), .val (.int ii), .val (.int fi), .val (.int fl), .val (.int (v_cap ci)), .val (.int (v_x ci ai)), .val (.int (v_y ci ai bi fl)), .val (.int (v_sel fl)), .val (.int (v_r ci ai bi ii fl)), .val (.int (b2i (v_aA fl))), .val (.int (b2i (v_aB fl))), .val (.int (v_from ci fi)), .val (.ref b15), .val (.int (b2i (v_was ci ai bi ii fl))), .unset, .unset, .unset, .unset, .unset] [(.int (b2i (if (v_aA fl) = true then (nd0_224_45 ci ai bi ii fl) else (if (v_aB fl) = true then (if (v_y ci ai bi fl) = (v_x ci ai) then (nd0_224_45 ci ai bi ii fl) else false) else false))))])) t → Steps p.tables e below (s₁.setTop (entryFrame m #[(.int ci), (.int ai), (.int bi), (.int ii), (.int fi), (.int fl)] maxLocals)) t := by
    intro t k
    refine pre44 t ?_
    have k : ∀ (v1 : Bool), v1 = (if (v_aA fl) = true then (nd0_224_45 ci ai bi ii fl) else (if (v_aB fl) = true then (if (v_y ci ai bi fl) = (v_x ci ai) then (nd0_224_45 ci ai bi ii fl) else false) else false)) → Steps p.tables e below (T32.setTop (mkF m 236 #[.val (.int ci), .val (.int ai), .val (.int bi), .val (.int ii), .val (.int fi), .val (.int fl), .val (.int (v_cap ci)), .val (.int (v_x ci ai)), .val (.int (v_y ci ai bi fl)), .val (.int (v_sel fl)), .val (.int (v_r ci ai bi ii fl)), .val (.int (b2i (v_aA fl))), .val (.int (b2i (v_aB fl))), .val (.int (v_from ci fi)), .val (.ref b15), .val (.int (b2i (v_was ci ai bi ii fl))), .unset, .unset, .unset, .unset, .unset] [(.int (b2i v1))])) t := fun v1 hv1 => by subst hv1; exact k
    have nd47 : (∀ (v1 : Bool), v1 = false → Steps p.tables e below (T32.setTop (mkF m 236 #[.val (.int ci), .val (.int ai), .val (.int bi), .val (.int ii), .val (.int fi), .val (.int fl), .val (.int (v_cap ci)), .val (.int (v_x ci ai)), .val (.int (v_y ci ai bi fl)), .val (.int (v_sel fl)), .val (.int (v_r ci ai bi ii fl)), .val (.int (b2i (v_aA fl))), .val (.int (b2i (v_aB fl))), .val (.int (v_from ci fi)), .val (.ref b15), .val (.int (b2i (v_was ci ai bi ii fl))), .unset, .unset, .unset, .unset, .unset] [(.int (b2i v1))])) t) → Steps p.tables e below (T32.setTop (mkF m 235 #[.val (.int ci), .val (.int ai), .val (.int bi), .val (.int ii), .val (.int fi), .val (.int fl), .val (.int (v_cap ci)), .val (.int (v_x ci ai)), .val (.int (v_y ci ai bi fl)), .val (.int (v_sel fl)), .val (.int (v_r ci ai bi ii fl)), .val (.int (b2i (v_aA fl))), .val (.int (b2i (v_aB fl))), .val (.int (v_from ci fi)), .val (.ref b15), .val (.int (b2i (v_was ci ai bi ii fl))), .unset, .unset, .unset, .unset, .unset] [])) t := by
      intro k
      show Steps p.tables e below (T32.setTop (mkF m 235 #[.val (.int ci), .val (.int ai), .val (.int bi), .val (.int ii), .val (.int fi), .val (.int fl), .val (.int (v_cap ci)), .val (.int (v_x ci ai)), .val (.int (v_y ci ai bi fl)), .val (.int (v_sel fl)), .val (.int (v_r ci ai bi ii fl)), .val (.int (b2i (v_aA fl))), .val (.int (b2i (v_aB fl))), .val (.int (v_from ci fi)), .val (.ref b15), .val (.int (b2i (v_was ci ai bi ii fl))), .unset, .unset, .unset, .unset, .unset] [])) _
      refine XS.iconst X32.here hx rfl (hb hby at_235) ?_
      exact k false rfl
    have nd48 : (∀ (v1 : Bool), v1 = (nd0_224_45 ci ai bi ii fl) → Steps p.tables e below (T32.setTop (mkF m 236 #[.val (.int ci), .val (.int ai), .val (.int bi), .val (.int ii), .val (.int fi), .val (.int fl), .val (.int (v_cap ci)), .val (.int (v_x ci ai)), .val (.int (v_y ci ai bi fl)), .val (.int (v_sel fl)), .val (.int (v_r ci ai bi ii fl)), .val (.int (b2i (v_aA fl))), .val (.int (b2i (v_aB fl))), .val (.int (v_from ci fi)), .val (.ref b15), .val (.int (b2i (v_was ci ai bi ii fl))), .unset, .unset, .unset, .unset, .unset] [(.int (b2i v1))])) t) → Steps p.tables e below (T32.setTop (mkF m 224 #[.val (.int ci), .val (.int ai), .val (.int bi), .val (.int ii), .val (.int fi), .val (.int fl), .val (.int (v_cap ci)), .val (.int (v_x ci ai)), .val (.int (v_y ci ai bi fl)), .val (.int (v_sel fl)), .val (.int (v_r ci ai bi ii fl)), .val (.int (b2i (v_aA fl))), .val (.int (b2i (v_aB fl))), .val (.int (v_from ci fi)), .val (.ref b15), .val (.int (b2i (v_was ci ai bi ii fl))), .unset, .unset, .unset, .unset, .unset] [])) t := by
      intro k
      have k : ∀ (v1 : Bool), v1 = (if (v_x ci ai) = (v_r ci ai bi ii fl) then false else true) → Steps p.tables e below (T32.setTop (mkF m 236 #[.val (.int ci), .val (.int ai), .val (.int bi), .val (.int ii), .val (.int fi), .val (.int fl), .val (.int (v_cap ci)), .val (.int (v_x ci ai)), .val (.int (v_y ci ai bi fl)), .val (.int (v_sel fl)), .val (.int (v_r ci ai bi ii fl)), .val (.int (b2i (v_aA fl))), .val (.int (b2i (v_aB fl))), .val (.int (v_from ci fi)), .val (.ref b15), .val (.int (b2i (v_was ci ai bi ii fl))), .unset, .unset, .unset, .unset, .unset] [(.int (b2i v1))])) t := k
      show Steps p.tables e below (T32.setTop (mkF m 224 #[.val (.int ci), .val (.int ai), .val (.int bi), .val (.int ii), .val (.int fi), .val (.int fl), .val (.int (v_cap ci)), .val (.int (v_x ci ai)), .val (.int (v_y ci ai bi fl)), .val (.int (v_sel fl)), .val (.int (v_r ci ai bi ii fl)), .val (.int (b2i (v_aA fl))), .val (.int (b2i (v_aB fl))), .val (.int (v_from ci fi)), .val (.ref b15), .val (.int (b2i (v_was ci ai bi ii fl))), .unset, .unset, .unset, .unset, .unset] [])) _
      refine XS.iload X32.here hx rfl (hb hby at_224) rfl ?_
      show Steps p.tables e below (T32.setTop (mkF m 226 #[.val (.int ci), .val (.int ai), .val (.int bi), .val (.int ii), .val (.int fi), .val (.int fl), .val (.int (v_cap ci)), .val (.int (v_x ci ai)), .val (.int (v_y ci ai bi fl)), .val (.int (v_sel fl)), .val (.int (v_r ci ai bi ii fl)), .val (.int (b2i (v_aA fl))), .val (.int (b2i (v_aB fl))), .val (.int (v_from ci fi)), .val (.ref b15), .val (.int (b2i (v_was ci ai bi ii fl))), .unset, .unset, .unset, .unset, .unset] [(.int (v_x ci ai))])) _
      refine XS.iload X32.here hx rfl (hb hby at_226) rfl ?_
      show Steps p.tables e below (T32.setTop (mkF m 228 #[.val (.int ci), .val (.int ai), .val (.int bi), .val (.int ii), .val (.int fi), .val (.int fl), .val (.int (v_cap ci)), .val (.int (v_x ci ai)), .val (.int (v_y ci ai bi fl)), .val (.int (v_sel fl)), .val (.int (v_r ci ai bi ii fl)), .val (.int (b2i (v_aA fl))), .val (.int (b2i (v_aB fl))), .val (.int (v_from ci fi)), .val (.ref b15), .val (.int (b2i (v_was ci ai bi ii fl))), .unset, .unset, .unset, .unset, .unset] [(.int (v_r ci ai bi ii fl)), (.int (v_x ci ai))])) _
      by_cases hc49 : (v_x ci ai) = (v_r ci ai bi ii fl)
      · refine XS.icmpYes X32.here hx rfl (pc0 := 228) (pc' := 235) rfl (hb hby at_228) rfl (teq hc49).1 (by decide) (by decide) ?_
        have k : ∀ (v1 : Bool), v1 = false → Steps p.tables e below (T32.setTop (mkF m 236 #[.val (.int ci), .val (.int ai), .val (.int bi), .val (.int ii), .val (.int fi), .val (.int fl), .val (.int (v_cap ci)), .val (.int (v_x ci ai)), .val (.int (v_y ci ai bi fl)), .val (.int (v_sel fl)), .val (.int (v_r ci ai bi ii fl)), .val (.int (b2i (v_aA fl))), .val (.int (b2i (v_aB fl))), .val (.int (v_from ci fi)), .val (.ref b15), .val (.int (b2i (v_was ci ai bi ii fl))), .unset, .unset, .unset, .unset, .unset] [(.int (b2i v1))])) t := fun v1 hv1 => k v1 (hv1.trans (if_pos hc49).symm)
        exact nd47 k
      · refine XS.icmpNo X32.here hx rfl (hb hby at_228) rfl (feq hc49).1 ?_
        have k : ∀ (v1 : Bool), v1 = true → Steps p.tables e below (T32.setTop (mkF m 236 #[.val (.int ci), .val (.int ai), .val (.int bi), .val (.int ii), .val (.int fi), .val (.int fl), .val (.int (v_cap ci)), .val (.int (v_x ci ai)), .val (.int (v_y ci ai bi fl)), .val (.int (v_sel fl)), .val (.int (v_r ci ai bi ii fl)), .val (.int (b2i (v_aA fl))), .val (.int (b2i (v_aB fl))), .val (.int (v_from ci fi)), .val (.ref b15), .val (.int (b2i (v_was ci ai bi ii fl))), .unset, .unset, .unset, .unset, .unset] [(.int (b2i v1))])) t := fun v1 hv1 => k v1 (hv1.trans (if_neg hc49).symm)
        show Steps p.tables e below (T32.setTop (mkF m 231 #[.val (.int ci), .val (.int ai), .val (.int bi), .val (.int ii), .val (.int fi), .val (.int fl), .val (.int (v_cap ci)), .val (.int (v_x ci ai)), .val (.int (v_y ci ai bi fl)), .val (.int (v_sel fl)), .val (.int (v_r ci ai bi ii fl)), .val (.int (b2i (v_aA fl))), .val (.int (b2i (v_aB fl))), .val (.int (v_from ci fi)), .val (.ref b15), .val (.int (b2i (v_was ci ai bi ii fl))), .unset, .unset, .unset, .unset, .unset] [])) _
        refine XS.iconst X32.here hx rfl (hb hby at_231) ?_
        show Steps p.tables e below (T32.setTop (mkF m 232 #[.val (.int ci), .val (.int ai), .val (.int bi), .val (.int ii), .val (.int fi), .val (.int fl), .val (.int (v_cap ci)), .val (.int (v_x ci ai)), .val (.int (v_y ci ai bi fl)), .val (.int (v_sel fl)), .val (.int (v_r ci ai bi ii fl)), .val (.int (b2i (v_aA fl))), .val (.int (b2i (v_aB fl))), .val (.int (v_from ci fi)), .val (.ref b15), .val (.int (b2i (v_was ci ai bi ii fl))), .unset, .unset, .unset, .unset, .unset] [(.int (1 : Int32))])) _
        refine XS.goto X32.here hx rfl (pc0 := 232) (pc' := 236) rfl (hb hby at_232) (by decide) (by decide) ?_
        exact k true rfl
    show Steps p.tables e below (T32.setTop (mkF m 209 #[.val (.int ci), .val (.int ai), .val (.int bi), .val (.int ii), .val (.int fi), .val (.int fl), .val (.int (v_cap ci)), .val (.int (v_x ci ai)), .val (.int (v_y ci ai bi fl)), .val (.int (v_sel fl)), .val (.int (v_r ci ai bi ii fl)), .val (.int (b2i (v_aA fl))), .val (.int (b2i (v_aB fl))), .val (.int (v_from ci fi)), .val (.ref b15), .val (.int (b2i (v_was ci ai bi ii fl))), .unset, .unset, .unset, .unset, .unset] [(.int (b2i (v_aA fl)))])) _
    by_cases hc50 : (v_aA fl) = true
    · refine XS.ifYes X32.here hx rfl (pc0 := 209) (pc' := 224) rfl (hb hby at_209) rfl ((if0 _ _).trans (feq (b2i_ne hc50)).2) (by decide) (by decide) ?_
      have k : ∀ (v1 : Bool), v1 = (nd0_224_45 ci ai bi ii fl) → Steps p.tables e below (T32.setTop (mkF m 236 #[.val (.int ci), .val (.int ai), .val (.int bi), .val (.int ii), .val (.int fi), .val (.int fl), .val (.int (v_cap ci)), .val (.int (v_x ci ai)), .val (.int (v_y ci ai bi fl)), .val (.int (v_sel fl)), .val (.int (v_r ci ai bi ii fl)), .val (.int (b2i (v_aA fl))), .val (.int (b2i (v_aB fl))), .val (.int (v_from ci fi)), .val (.ref b15), .val (.int (b2i (v_was ci ai bi ii fl))), .unset, .unset, .unset, .unset, .unset] [(.int (b2i v1))])) t := fun v1 hv1 => k v1 (hv1.trans (if_pos hc50).symm)
      exact nd48 k
    · refine XS.ifNo X32.here hx rfl (hb hby at_209) rfl ((if0 _ _).trans (teq (b2i_eq hc50)).2) ?_
      have k : ∀ (v1 : Bool), v1 = (if (v_aB fl) = true then (if (v_y ci ai bi fl) = (v_x ci ai) then (nd0_224_45 ci ai bi ii fl) else false) else false) → Steps p.tables e below (T32.setTop (mkF m 236 #[.val (.int ci), .val (.int ai), .val (.int bi), .val (.int ii), .val (.int fi), .val (.int fl), .val (.int (v_cap ci)), .val (.int (v_x ci ai)), .val (.int (v_y ci ai bi fl)), .val (.int (v_sel fl)), .val (.int (v_r ci ai bi ii fl)), .val (.int (b2i (v_aA fl))), .val (.int (b2i (v_aB fl))), .val (.int (v_from ci fi)), .val (.ref b15), .val (.int (b2i (v_was ci ai bi ii fl))), .unset, .unset, .unset, .unset, .unset] [(.int (b2i v1))])) t := fun v1 hv1 => k v1 (hv1.trans (if_neg hc50).symm)
      show Steps p.tables e below (T32.setTop (mkF m 212 #[.val (.int ci), .val (.int ai), .val (.int bi), .val (.int ii), .val (.int fi), .val (.int fl), .val (.int (v_cap ci)), .val (.int (v_x ci ai)), .val (.int (v_y ci ai bi fl)), .val (.int (v_sel fl)), .val (.int (v_r ci ai bi ii fl)), .val (.int (b2i (v_aA fl))), .val (.int (b2i (v_aB fl))), .val (.int (v_from ci fi)), .val (.ref b15), .val (.int (b2i (v_was ci ai bi ii fl))), .unset, .unset, .unset, .unset, .unset] [])) _
      refine XS.iload X32.here hx rfl (hb hby at_212) rfl ?_
      show Steps p.tables e below (T32.setTop (mkF m 214 #[.val (.int ci), .val (.int ai), .val (.int bi), .val (.int ii), .val (.int fi), .val (.int fl), .val (.int (v_cap ci)), .val (.int (v_x ci ai)), .val (.int (v_y ci ai bi fl)), .val (.int (v_sel fl)), .val (.int (v_r ci ai bi ii fl)), .val (.int (b2i (v_aA fl))), .val (.int (b2i (v_aB fl))), .val (.int (v_from ci fi)), .val (.ref b15), .val (.int (b2i (v_was ci ai bi ii fl))), .unset, .unset, .unset, .unset, .unset] [(.int (b2i (v_aB fl)))])) _
      by_cases hc51 : (v_aB fl) = true
      · refine XS.ifNo X32.here hx rfl (hb hby at_214) rfl ((if0 _ _).trans (feq (b2i_ne hc51)).1) ?_
        have k : ∀ (v1 : Bool), v1 = (if (v_y ci ai bi fl) = (v_x ci ai) then (nd0_224_45 ci ai bi ii fl) else false) → Steps p.tables e below (T32.setTop (mkF m 236 #[.val (.int ci), .val (.int ai), .val (.int bi), .val (.int ii), .val (.int fi), .val (.int fl), .val (.int (v_cap ci)), .val (.int (v_x ci ai)), .val (.int (v_y ci ai bi fl)), .val (.int (v_sel fl)), .val (.int (v_r ci ai bi ii fl)), .val (.int (b2i (v_aA fl))), .val (.int (b2i (v_aB fl))), .val (.int (v_from ci fi)), .val (.ref b15), .val (.int (b2i (v_was ci ai bi ii fl))), .unset, .unset, .unset, .unset, .unset] [(.int (b2i v1))])) t := fun v1 hv1 => k v1 (hv1.trans (if_pos hc51).symm)
        show Steps p.tables e below (T32.setTop (mkF m 217 #[.val (.int ci), .val (.int ai), .val (.int bi), .val (.int ii), .val (.int fi), .val (.int fl), .val (.int (v_cap ci)), .val (.int (v_x ci ai)), .val (.int (v_y ci ai bi fl)), .val (.int (v_sel fl)), .val (.int (v_r ci ai bi ii fl)), .val (.int (b2i (v_aA fl))), .val (.int (b2i (v_aB fl))), .val (.int (v_from ci fi)), .val (.ref b15), .val (.int (b2i (v_was ci ai bi ii fl))), .unset, .unset, .unset, .unset, .unset] [])) _
        refine XS.iload X32.here hx rfl (hb hby at_217) rfl ?_
        show Steps p.tables e below (T32.setTop (mkF m 219 #[.val (.int ci), .val (.int ai), .val (.int bi), .val (.int ii), .val (.int fi), .val (.int fl), .val (.int (v_cap ci)), .val (.int (v_x ci ai)), .val (.int (v_y ci ai bi fl)), .val (.int (v_sel fl)), .val (.int (v_r ci ai bi ii fl)), .val (.int (b2i (v_aA fl))), .val (.int (b2i (v_aB fl))), .val (.int (v_from ci fi)), .val (.ref b15), .val (.int (b2i (v_was ci ai bi ii fl))), .unset, .unset, .unset, .unset, .unset] [(.int (v_y ci ai bi fl))])) _
        refine XS.iload X32.here hx rfl (hb hby at_219) rfl ?_
        show Steps p.tables e below (T32.setTop (mkF m 221 #[.val (.int ci), .val (.int ai), .val (.int bi), .val (.int ii), .val (.int fi), .val (.int fl), .val (.int (v_cap ci)), .val (.int (v_x ci ai)), .val (.int (v_y ci ai bi fl)), .val (.int (v_sel fl)), .val (.int (v_r ci ai bi ii fl)), .val (.int (b2i (v_aA fl))), .val (.int (b2i (v_aB fl))), .val (.int (v_from ci fi)), .val (.ref b15), .val (.int (b2i (v_was ci ai bi ii fl))), .unset, .unset, .unset, .unset, .unset] [(.int (v_x ci ai)), (.int (v_y ci ai bi fl))])) _
        by_cases hc52 : (v_y ci ai bi fl) = (v_x ci ai)
        · refine XS.icmpNo X32.here hx rfl (hb hby at_221) rfl (teq hc52).2 ?_
          have k : ∀ (v1 : Bool), v1 = (nd0_224_45 ci ai bi ii fl) → Steps p.tables e below (T32.setTop (mkF m 236 #[.val (.int ci), .val (.int ai), .val (.int bi), .val (.int ii), .val (.int fi), .val (.int fl), .val (.int (v_cap ci)), .val (.int (v_x ci ai)), .val (.int (v_y ci ai bi fl)), .val (.int (v_sel fl)), .val (.int (v_r ci ai bi ii fl)), .val (.int (b2i (v_aA fl))), .val (.int (b2i (v_aB fl))), .val (.int (v_from ci fi)), .val (.ref b15), .val (.int (b2i (v_was ci ai bi ii fl))), .unset, .unset, .unset, .unset, .unset] [(.int (b2i v1))])) t := fun v1 hv1 => k v1 (hv1.trans (if_pos hc52).symm)
          exact nd48 k
        · refine XS.icmpYes X32.here hx rfl (pc0 := 221) (pc' := 235) rfl (hb hby at_221) rfl (feq hc52).2 (by decide) (by decide) ?_
          have k : ∀ (v1 : Bool), v1 = false → Steps p.tables e below (T32.setTop (mkF m 236 #[.val (.int ci), .val (.int ai), .val (.int bi), .val (.int ii), .val (.int fi), .val (.int fl), .val (.int (v_cap ci)), .val (.int (v_x ci ai)), .val (.int (v_y ci ai bi fl)), .val (.int (v_sel fl)), .val (.int (v_r ci ai bi ii fl)), .val (.int (b2i (v_aA fl))), .val (.int (b2i (v_aB fl))), .val (.int (v_from ci fi)), .val (.ref b15), .val (.int (b2i (v_was ci ai bi ii fl))), .unset, .unset, .unset, .unset, .unset] [(.int (b2i v1))])) t := fun v1 hv1 => k v1 (hv1.trans (if_neg hc52).symm)
          exact nd47 k
      · refine XS.ifYes X32.here hx rfl (pc0 := 214) (pc' := 235) rfl (hb hby at_214) rfl ((if0 _ _).trans (teq (b2i_eq hc51)).1) (by decide) (by decide) ?_
        have k : ∀ (v1 : Bool), v1 = false → Steps p.tables e below (T32.setTop (mkF m 236 #[.val (.int ci), .val (.int ai), .val (.int bi), .val (.int ii), .val (.int fi), .val (.int fl), .val (.int (v_cap ci)), .val (.int (v_x ci ai)), .val (.int (v_y ci ai bi fl)), .val (.int (v_sel fl)), .val (.int (v_r ci ai bi ii fl)), .val (.int (b2i (v_aA fl))), .val (.int (b2i (v_aB fl))), .val (.int (v_from ci fi)), .val (.ref b15), .val (.int (b2i (v_was ci ai bi ii fl))), .unset, .unset, .unset, .unset, .unset] [(.int (b2i v1))])) t := fun v1 hv1 => k v1 (hv1.trans (if_neg hc51).symm)
        exact nd47 k
  have pre53 : ∀ t, Steps p.tables e below (T32.setTop (mkF m 240 #[.val (.int ci), .val (.int ai), .val (.int bi), .val (.int ii), .val (.int fi), .val (.int fl), .val (.int (v_cap ci)), .val (.int (v_x ci ai)), .val (.int (v_y ci ai bi fl)), .val (.int (v_sel fl)), .val (.int (v_r ci ai bi ii fl)), .val (.int (b2i (v_aA fl))), .val (.int (b2i (v_aB fl))), .val (.int (v_from ci fi)), .val (.ref b15), .val (.int (b2i (v_was ci ai bi ii fl))), .val (.int (b2i (v_px ci ai bi ii fl))), .unset, .unset, .unset, .unset] [(.int (b2i (v_aB fl)))])) t → Steps p.tables e below (s₁.setTop (entryFrame m #[(.int ci), (.int ai), (.int bi), (.int ii), (.int fi), (.int fl)] maxLocals)) t := by
    intro t k
    refine pre46 t ?_
    show Steps p.tables e below (T32.setTop (mkF m 236 #[.val (.int ci), .val (.int ai), .val (.int bi), .val (.int ii), .val (.int fi), .val (.int fl), .val (.int (v_cap ci)), .val (.int (v_x ci ai)), .val (.int (v_y ci ai bi fl)), .val (.int (v_sel fl)), .val (.int (v_r ci ai bi ii fl)), .val (.int (b2i (v_aA fl))), .val (.int (b2i (v_aB fl))), .val (.int (v_from ci fi)), .val (.ref b15), .val (.int (b2i (v_was ci ai bi ii fl))), .unset, .unset, .unset, .unset, .unset] [(.int (b2i (if (v_aA fl) = true then (nd0_224_45 ci ai bi ii fl) else (if (v_aB fl) = true then (if (v_y ci ai bi fl) = (v_x ci ai) then (nd0_224_45 ci ai bi ii fl) else false) else false))))])) _
    refine XS.istore X32.here hx rfl (hb hby at_236) rfl (l' := #[.val (.int ci), .val (.int ai), .val (.int bi), .val (.int ii), .val (.int fi), .val (.int fl), .val (.int (v_cap ci)), .val (.int (v_x ci ai)), .val (.int (v_y ci ai bi fl)), .val (.int (v_sel fl)), .val (.int (v_r ci ai bi ii fl)), .val (.int (b2i (v_aA fl))), .val (.int (b2i (v_aB fl))), .val (.int (v_from ci fi)), .val (.ref b15), .val (.int (b2i (v_was ci ai bi ii fl))), .val (.int (b2i (v_px ci ai bi ii fl))), .unset, .unset, .unset, .unset]) rfl ?_
    show Steps p.tables e below (T32.setTop (mkF m 238 #[.val (.int ci), .val (.int ai), .val (.int bi), .val (.int ii), .val (.int fi), .val (.int fl), .val (.int (v_cap ci)), .val (.int (v_x ci ai)), .val (.int (v_y ci ai bi fl)), .val (.int (v_sel fl)), .val (.int (v_r ci ai bi ii fl)), .val (.int (b2i (v_aA fl))), .val (.int (b2i (v_aB fl))), .val (.int (v_from ci fi)), .val (.ref b15), .val (.int (b2i (v_was ci ai bi ii fl))), .val (.int (b2i (v_px ci ai bi ii fl))), .unset, .unset, .unset, .unset] [])) _
    refine XS.iload X32.here hx rfl (hb hby at_238) rfl ?_
    exact k
  have pre55 : ∀ t, Steps p.tables e below (T32.setTop (mkF m 267 #[.val (.int ci), .val (.int ai), .val (.int bi), .val (.int ii), .val (.int fi), .val (.int fl), .val (.int (v_cap ci)), .val (.int (v_x ci ai)), .val (.int (v_y ci ai bi fl)), .val (.int (v_sel fl)), .val (.int (v_r ci ai bi ii fl)), .val (.int (b2i (v_aA fl))), .val (.int (b2i (v_aB fl))), .val (.int (v_from ci fi)), .val (.ref b15), .val (.int (b2i (v_was ci ai bi ii fl))), .val (.int (b2i (v_px ci ai bi ii fl))), .unset, .unset, .unset, .unset] [(.int (b2i (if (v_aB fl) = true then (nd0_255_54 ci ai bi ii fl) else (if (v_aA fl) = true then (if (v_x ci ai) = (v_y ci ai bi fl) then (nd0_255_54 ci ai bi ii fl) else false) else false))))])) t → Steps p.tables e below (s₁.setTop (entryFrame m #[(.int ci), (.int ai), (.int bi), (.int ii), (.int fi), (.int fl)] maxLocals)) t := by
    intro t k
    refine pre53 t ?_
    have k : ∀ (v1 : Bool), v1 = (if (v_aB fl) = true then (nd0_255_54 ci ai bi ii fl) else (if (v_aA fl) = true then (if (v_x ci ai) = (v_y ci ai bi fl) then (nd0_255_54 ci ai bi ii fl) else false) else false)) → Steps p.tables e below (T32.setTop (mkF m 267 #[.val (.int ci), .val (.int ai), .val (.int bi), .val (.int ii), .val (.int fi), .val (.int fl), .val (.int (v_cap ci)), .val (.int (v_x ci ai)), .val (.int (v_y ci ai bi fl)), .val (.int (v_sel fl)), .val (.int (v_r ci ai bi ii fl)), .val (.int (b2i (v_aA fl))), .val (.int (b2i (v_aB fl))), .val (.int (v_from ci fi)), .val (.ref b15), .val (.int (b2i (v_was ci ai bi ii fl))), .val (.int (b2i (v_px ci ai bi ii fl))), .unset, .unset, .unset, .unset] [(.int (b2i v1))])) t := fun v1 hv1 => by subst hv1; exact k
    have nd56 : (∀ (v1 : Bool), v1 = false → Steps p.tables e below (T32.setTop (mkF m 267 #[.val (.int ci), .val (.int ai), .val (.int bi), .val (.int ii), .val (.int fi), .val (.int fl), .val (.int (v_cap ci)), .val (.int (v_x ci ai)), .val (.int (v_y ci ai bi fl)), .val (.int (v_sel fl)), .val (.int (v_r ci ai bi ii fl)), .val (.int (b2i (v_aA fl))), .val (.int (b2i (v_aB fl))), .val (.int (v_from ci fi)), .val (.ref b15), .val (.int (b2i (v_was ci ai bi ii fl))), .val (.int (b2i (v_px ci ai bi ii fl))), .unset, .unset, .unset, .unset] [(.int (b2i v1))])) t) → Steps p.tables e below (T32.setTop (mkF m 266 #[.val (.int ci), .val (.int ai), .val (.int bi), .val (.int ii), .val (.int fi), .val (.int fl), .val (.int (v_cap ci)), .val (.int (v_x ci ai)), .val (.int (v_y ci ai bi fl)), .val (.int (v_sel fl)), .val (.int (v_r ci ai bi ii fl)), .val (.int (b2i (v_aA fl))), .val (.int (b2i (v_aB fl))), .val (.int (v_from ci fi)), .val (.ref b15), .val (.int (b2i (v_was ci ai bi ii fl))), .val (.int (b2i (v_px ci ai bi ii fl))), .unset, .unset, .unset, .unset] [])) t := by
      intro k
      show Steps p.tables e below (T32.setTop (mkF m 266 #[.val (.int ci), .val (.int ai), .val (.int bi), .val (.int ii), .val (.int fi), .val (.int fl), .val (.int (v_cap ci)), .val (.int (v_x ci ai)), .val (.int (v_y ci ai bi fl)), .val (.int (v_sel fl)), .val (.int (v_r ci ai bi ii fl)), .val (.int (b2i (v_aA fl))), .val (.int (b2i (v_aB fl))), .val (.int (v_from ci fi)), .val (.ref b15), .val (.int (b2i (v_was ci ai bi ii fl))), .val (.int (b2i (v_px ci ai bi ii fl))), .unset, .unset, .unset, .unset] [])) _
      refine XS.iconst X32.here hx rfl (hb hby at_266) ?_
      exact k false rfl
    have nd57 : (∀ (v1 : Bool), v1 = (nd0_255_54 ci ai bi ii fl) → Steps p.tables e below (T32.setTop (mkF m 267 #[.val (.int ci), .val (.int ai), .val (.int bi), .val (.int ii), .val (.int fi), .val (.int fl), .val (.int (v_cap ci)), .val (.int (v_x ci ai)), .val (.int (v_y ci ai bi fl)), .val (.int (v_sel fl)), .val (.int (v_r ci ai bi ii fl)), .val (.int (b2i (v_aA fl))), .val (.int (b2i (v_aB fl))), .val (.int (v_from ci fi)), .val (.ref b15), .val (.int (b2i (v_was ci ai bi ii fl))), .val (.int (b2i (v_px ci ai bi ii fl))), .unset, .unset, .unset, .unset] [(.int (b2i v1))])) t) → Steps p.tables e below (T32.setTop (mkF m 255 #[.val (.int ci), .val (.int ai), .val (.int bi), .val (.int ii), .val (.int fi), .val (.int fl), .val (.int (v_cap ci)), .val (.int (v_x ci ai)), .val (.int (v_y ci ai bi fl)), .val (.int (v_sel fl)), .val (.int (v_r ci ai bi ii fl)), .val (.int (b2i (v_aA fl))), .val (.int (b2i (v_aB fl))), .val (.int (v_from ci fi)), .val (.ref b15), .val (.int (b2i (v_was ci ai bi ii fl))), .val (.int (b2i (v_px ci ai bi ii fl))), .unset, .unset, .unset, .unset] [])) t := by
      intro k
      have k : ∀ (v1 : Bool), v1 = (if (v_y ci ai bi fl) = (v_r ci ai bi ii fl) then false else true) → Steps p.tables e below (T32.setTop (mkF m 267 #[.val (.int ci), .val (.int ai), .val (.int bi), .val (.int ii), .val (.int fi), .val (.int fl), .val (.int (v_cap ci)), .val (.int (v_x ci ai)), .val (.int (v_y ci ai bi fl)), .val (.int (v_sel fl)), .val (.int (v_r ci ai bi ii fl)), .val (.int (b2i (v_aA fl))), .val (.int (b2i (v_aB fl))), .val (.int (v_from ci fi)), .val (.ref b15), .val (.int (b2i (v_was ci ai bi ii fl))), .val (.int (b2i (v_px ci ai bi ii fl))), .unset, .unset, .unset, .unset] [(.int (b2i v1))])) t := k
      show Steps p.tables e below (T32.setTop (mkF m 255 #[.val (.int ci), .val (.int ai), .val (.int bi), .val (.int ii), .val (.int fi), .val (.int fl), .val (.int (v_cap ci)), .val (.int (v_x ci ai)), .val (.int (v_y ci ai bi fl)), .val (.int (v_sel fl)), .val (.int (v_r ci ai bi ii fl)), .val (.int (b2i (v_aA fl))), .val (.int (b2i (v_aB fl))), .val (.int (v_from ci fi)), .val (.ref b15), .val (.int (b2i (v_was ci ai bi ii fl))), .val (.int (b2i (v_px ci ai bi ii fl))), .unset, .unset, .unset, .unset] [])) _
      refine XS.iload X32.here hx rfl (hb hby at_255) rfl ?_
      show Steps p.tables e below (T32.setTop (mkF m 257 #[.val (.int ci), .val (.int ai), .val (.int bi), .val (.int ii), .val (.int fi), .val (.int fl), .val (.int (v_cap ci)), .val (.int (v_x ci ai)), .val (.int (v_y ci ai bi fl)), .val (.int (v_sel fl)), .val (.int (v_r ci ai bi ii fl)), .val (.int (b2i (v_aA fl))), .val (.int (b2i (v_aB fl))), .val (.int (v_from ci fi)), .val (.ref b15), .val (.int (b2i (v_was ci ai bi ii fl))), .val (.int (b2i (v_px ci ai bi ii fl))), .unset, .unset, .unset, .unset] [(.int (v_y ci ai bi fl))])) _
      refine XS.iload X32.here hx rfl (hb hby at_257) rfl ?_
      show Steps p.tables e below (T32.setTop (mkF m 259 #[.val (.int ci), .val (.int ai), .val (.int bi), .val (.int ii), .val (.int fi), .val (.int fl), .val (.int (v_cap ci)), .val (.int (v_x ci ai)), .val (.int (v_y ci ai bi fl)), .val (.int (v_sel fl)), .val (.int (v_r ci ai bi ii fl)), .val (.int (b2i (v_aA fl))), .val (.int (b2i (v_aB fl))), .val (.int (v_from ci fi)), .val (.ref b15), .val (.int (b2i (v_was ci ai bi ii fl))), .val (.int (b2i (v_px ci ai bi ii fl))), .unset, .unset, .unset, .unset] [(.int (v_r ci ai bi ii fl)), (.int (v_y ci ai bi fl))])) _
      by_cases hc58 : (v_y ci ai bi fl) = (v_r ci ai bi ii fl)
      · refine XS.icmpYes X32.here hx rfl (pc0 := 259) (pc' := 266) rfl (hb hby at_259) rfl (teq hc58).1 (by decide) (by decide) ?_
        have k : ∀ (v1 : Bool), v1 = false → Steps p.tables e below (T32.setTop (mkF m 267 #[.val (.int ci), .val (.int ai), .val (.int bi), .val (.int ii), .val (.int fi), .val (.int fl), .val (.int (v_cap ci)), .val (.int (v_x ci ai)), .val (.int (v_y ci ai bi fl)), .val (.int (v_sel fl)), .val (.int (v_r ci ai bi ii fl)), .val (.int (b2i (v_aA fl))), .val (.int (b2i (v_aB fl))), .val (.int (v_from ci fi)), .val (.ref b15), .val (.int (b2i (v_was ci ai bi ii fl))), .val (.int (b2i (v_px ci ai bi ii fl))), .unset, .unset, .unset, .unset] [(.int (b2i v1))])) t := fun v1 hv1 => k v1 (hv1.trans (if_pos hc58).symm)
        exact nd56 k
      · refine XS.icmpNo X32.here hx rfl (hb hby at_259) rfl (feq hc58).1 ?_
        have k : ∀ (v1 : Bool), v1 = true → Steps p.tables e below (T32.setTop (mkF m 267 #[.val (.int ci), .val (.int ai), .val (.int bi), .val (.int ii), .val (.int fi), .val (.int fl), .val (.int (v_cap ci)), .val (.int (v_x ci ai)), .val (.int (v_y ci ai bi fl)), .val (.int (v_sel fl)), .val (.int (v_r ci ai bi ii fl)), .val (.int (b2i (v_aA fl))), .val (.int (b2i (v_aB fl))), .val (.int (v_from ci fi)), .val (.ref b15), .val (.int (b2i (v_was ci ai bi ii fl))), .val (.int (b2i (v_px ci ai bi ii fl))), .unset, .unset, .unset, .unset] [(.int (b2i v1))])) t := fun v1 hv1 => k v1 (hv1.trans (if_neg hc58).symm)
        show Steps p.tables e below (T32.setTop (mkF m 262 #[.val (.int ci), .val (.int ai), .val (.int bi), .val (.int ii), .val (.int fi), .val (.int fl), .val (.int (v_cap ci)), .val (.int (v_x ci ai)), .val (.int (v_y ci ai bi fl)), .val (.int (v_sel fl)), .val (.int (v_r ci ai bi ii fl)), .val (.int (b2i (v_aA fl))), .val (.int (b2i (v_aB fl))), .val (.int (v_from ci fi)), .val (.ref b15), .val (.int (b2i (v_was ci ai bi ii fl))), .val (.int (b2i (v_px ci ai bi ii fl))), .unset, .unset, .unset, .unset] [])) _
        refine XS.iconst X32.here hx rfl (hb hby at_262) ?_
        show Steps p.tables e below (T32.setTop (mkF m 263 #[.val (.int ci), .val (.int ai), .val (.int bi), .val (.int ii), .val (.int fi), .val (.int fl), .val (.int (v_cap ci)), .val (.int (v_x ci ai)), .val (.int (v_y ci ai bi fl)), .val (.int (v_sel fl)), .val (.int (v_r ci ai bi ii fl)), .val (.int (b2i (v_aA fl))), .val (.int (b2i (v_aB fl))), .val (.int (v_from ci fi)), .val (.ref b15), .val (.int (b2i (v_was ci ai bi ii fl))), .val (.int (b2i (v_px ci ai bi ii fl))), .unset, .unset, .unset, .unset] [(.int (1 : Int32))])) _
        refine XS.goto X32.here hx rfl (pc0 := 263) (pc' := 267) rfl (hb hby at_263) (by decide) (by decide) ?_
        exact k true rfl
    show Steps p.tables e below (T32.setTop (mkF m 240 #[.val (.int ci), .val (.int ai), .val (.int bi), .val (.int ii), .val (.int fi), .val (.int fl), .val (.int (v_cap ci)), .val (.int (v_x ci ai)), .val (.int (v_y ci ai bi fl)), .val (.int (v_sel fl)), .val (.int (v_r ci ai bi ii fl)), .val (.int (b2i (v_aA fl))), .val (.int (b2i (v_aB fl))), .val (.int (v_from ci fi)), .val (.ref b15), .val (.int (b2i (v_was ci ai bi ii fl))), .val (.int (b2i (v_px ci ai bi ii fl))), .unset, .unset, .unset, .unset] [(.int (b2i (v_aB fl)))])) _
    by_cases hc59 : (v_aB fl) = true
    · refine XS.ifYes X32.here hx rfl (pc0 := 240) (pc' := 255) rfl (hb hby at_240) rfl ((if0 _ _).trans (feq (b2i_ne hc59)).2) (by decide) (by decide) ?_
      have k : ∀ (v1 : Bool), v1 = (nd0_255_54 ci ai bi ii fl) → Steps p.tables e below (T32.setTop (mkF m 267 #[.val (.int ci), .val (.int ai), .val (.int bi), .val (.int ii), .val (.int fi), .val (.int fl), .val (.int (v_cap ci)), .val (.int (v_x ci ai)), .val (.int (v_y ci ai bi fl)), .val (.int (v_sel fl)), .val (.int (v_r ci ai bi ii fl)), .val (.int (b2i (v_aA fl))), .val (.int (b2i (v_aB fl))), .val (.int (v_from ci fi)), .val (.ref b15), .val (.int (b2i (v_was ci ai bi ii fl))), .val (.int (b2i (v_px ci ai bi ii fl))), .unset, .unset, .unset, .unset] [(.int (b2i v1))])) t := fun v1 hv1 => k v1 (hv1.trans (if_pos hc59).symm)
      exact nd57 k
    · refine XS.ifNo X32.here hx rfl (hb hby at_240) rfl ((if0 _ _).trans (teq (b2i_eq hc59)).2) ?_
      have k : ∀ (v1 : Bool), v1 = (if (v_aA fl) = true then (if (v_x ci ai) = (v_y ci ai bi fl) then (nd0_255_54 ci ai bi ii fl) else false) else false) → Steps p.tables e below (T32.setTop (mkF m 267 #[.val (.int ci), .val (.int ai), .val (.int bi), .val (.int ii), .val (.int fi), .val (.int fl), .val (.int (v_cap ci)), .val (.int (v_x ci ai)), .val (.int (v_y ci ai bi fl)), .val (.int (v_sel fl)), .val (.int (v_r ci ai bi ii fl)), .val (.int (b2i (v_aA fl))), .val (.int (b2i (v_aB fl))), .val (.int (v_from ci fi)), .val (.ref b15), .val (.int (b2i (v_was ci ai bi ii fl))), .val (.int (b2i (v_px ci ai bi ii fl))), .unset, .unset, .unset, .unset] [(.int (b2i v1))])) t := fun v1 hv1 => k v1 (hv1.trans (if_neg hc59).symm)
      show Steps p.tables e below (T32.setTop (mkF m 243 #[.val (.int ci), .val (.int ai), .val (.int bi), .val (.int ii), .val (.int fi), .val (.int fl), .val (.int (v_cap ci)), .val (.int (v_x ci ai)), .val (.int (v_y ci ai bi fl)), .val (.int (v_sel fl)), .val (.int (v_r ci ai bi ii fl)), .val (.int (b2i (v_aA fl))), .val (.int (b2i (v_aB fl))), .val (.int (v_from ci fi)), .val (.ref b15), .val (.int (b2i (v_was ci ai bi ii fl))), .val (.int (b2i (v_px ci ai bi ii fl))), .unset, .unset, .unset, .unset] [])) _
      refine XS.iload X32.here hx rfl (hb hby at_243) rfl ?_
      show Steps p.tables e below (T32.setTop (mkF m 245 #[.val (.int ci), .val (.int ai), .val (.int bi), .val (.int ii), .val (.int fi), .val (.int fl), .val (.int (v_cap ci)), .val (.int (v_x ci ai)), .val (.int (v_y ci ai bi fl)), .val (.int (v_sel fl)), .val (.int (v_r ci ai bi ii fl)), .val (.int (b2i (v_aA fl))), .val (.int (b2i (v_aB fl))), .val (.int (v_from ci fi)), .val (.ref b15), .val (.int (b2i (v_was ci ai bi ii fl))), .val (.int (b2i (v_px ci ai bi ii fl))), .unset, .unset, .unset, .unset] [(.int (b2i (v_aA fl)))])) _
      by_cases hc60 : (v_aA fl) = true
      · refine XS.ifNo X32.here hx rfl (hb hby at_245) rfl ((if0 _ _).trans (feq (b2i_ne hc60)).1) ?_
        have k : ∀ (v1 : Bool), v1 = (if (v_x ci ai) = (v_y ci ai bi fl) then (nd0_255_54 ci ai bi ii fl) else false) → Steps p.tables e below (T32.setTop (mkF m 267 #[.val (.int ci), .val (.int ai), .val (.int bi), .val (.int ii), .val (.int fi), .val (.int fl), .val (.int (v_cap ci)), .val (.int (v_x ci ai)), .val (.int (v_y ci ai bi fl)), .val (.int (v_sel fl)), .val (.int (v_r ci ai bi ii fl)), .val (.int (b2i (v_aA fl))), .val (.int (b2i (v_aB fl))), .val (.int (v_from ci fi)), .val (.ref b15), .val (.int (b2i (v_was ci ai bi ii fl))), .val (.int (b2i (v_px ci ai bi ii fl))), .unset, .unset, .unset, .unset] [(.int (b2i v1))])) t := fun v1 hv1 => k v1 (hv1.trans (if_pos hc60).symm)
        show Steps p.tables e below (T32.setTop (mkF m 248 #[.val (.int ci), .val (.int ai), .val (.int bi), .val (.int ii), .val (.int fi), .val (.int fl), .val (.int (v_cap ci)), .val (.int (v_x ci ai)), .val (.int (v_y ci ai bi fl)), .val (.int (v_sel fl)), .val (.int (v_r ci ai bi ii fl)), .val (.int (b2i (v_aA fl))), .val (.int (b2i (v_aB fl))), .val (.int (v_from ci fi)), .val (.ref b15), .val (.int (b2i (v_was ci ai bi ii fl))), .val (.int (b2i (v_px ci ai bi ii fl))), .unset, .unset, .unset, .unset] [])) _
        refine XS.iload X32.here hx rfl (hb hby at_248) rfl ?_
        show Steps p.tables e below (T32.setTop (mkF m 250 #[.val (.int ci), .val (.int ai), .val (.int bi), .val (.int ii), .val (.int fi), .val (.int fl), .val (.int (v_cap ci)), .val (.int (v_x ci ai)), .val (.int (v_y ci ai bi fl)), .val (.int (v_sel fl)), .val (.int (v_r ci ai bi ii fl)), .val (.int (b2i (v_aA fl))), .val (.int (b2i (v_aB fl))), .val (.int (v_from ci fi)), .val (.ref b15), .val (.int (b2i (v_was ci ai bi ii fl))), .val (.int (b2i (v_px ci ai bi ii fl))), .unset, .unset, .unset, .unset] [(.int (v_x ci ai))])) _
        refine XS.iload X32.here hx rfl (hb hby at_250) rfl ?_
        show Steps p.tables e below (T32.setTop (mkF m 252 #[.val (.int ci), .val (.int ai), .val (.int bi), .val (.int ii), .val (.int fi), .val (.int fl), .val (.int (v_cap ci)), .val (.int (v_x ci ai)), .val (.int (v_y ci ai bi fl)), .val (.int (v_sel fl)), .val (.int (v_r ci ai bi ii fl)), .val (.int (b2i (v_aA fl))), .val (.int (b2i (v_aB fl))), .val (.int (v_from ci fi)), .val (.ref b15), .val (.int (b2i (v_was ci ai bi ii fl))), .val (.int (b2i (v_px ci ai bi ii fl))), .unset, .unset, .unset, .unset] [(.int (v_y ci ai bi fl)), (.int (v_x ci ai))])) _
        by_cases hc61 : (v_x ci ai) = (v_y ci ai bi fl)
        · refine XS.icmpNo X32.here hx rfl (hb hby at_252) rfl (teq hc61).2 ?_
          have k : ∀ (v1 : Bool), v1 = (nd0_255_54 ci ai bi ii fl) → Steps p.tables e below (T32.setTop (mkF m 267 #[.val (.int ci), .val (.int ai), .val (.int bi), .val (.int ii), .val (.int fi), .val (.int fl), .val (.int (v_cap ci)), .val (.int (v_x ci ai)), .val (.int (v_y ci ai bi fl)), .val (.int (v_sel fl)), .val (.int (v_r ci ai bi ii fl)), .val (.int (b2i (v_aA fl))), .val (.int (b2i (v_aB fl))), .val (.int (v_from ci fi)), .val (.ref b15), .val (.int (b2i (v_was ci ai bi ii fl))), .val (.int (b2i (v_px ci ai bi ii fl))), .unset, .unset, .unset, .unset] [(.int (b2i v1))])) t := fun v1 hv1 => k v1 (hv1.trans (if_pos hc61).symm)
          exact nd57 k
        · refine XS.icmpYes X32.here hx rfl (pc0 := 252) (pc' := 266) rfl (hb hby at_252) rfl (feq hc61).2 (by decide) (by decide) ?_
          have k : ∀ (v1 : Bool), v1 = false → Steps p.tables e below (T32.setTop (mkF m 267 #[.val (.int ci), .val (.int ai), .val (.int bi), .val (.int ii), .val (.int fi), .val (.int fl), .val (.int (v_cap ci)), .val (.int (v_x ci ai)), .val (.int (v_y ci ai bi fl)), .val (.int (v_sel fl)), .val (.int (v_r ci ai bi ii fl)), .val (.int (b2i (v_aA fl))), .val (.int (b2i (v_aB fl))), .val (.int (v_from ci fi)), .val (.ref b15), .val (.int (b2i (v_was ci ai bi ii fl))), .val (.int (b2i (v_px ci ai bi ii fl))), .unset, .unset, .unset, .unset] [(.int (b2i v1))])) t := fun v1 hv1 => k v1 (hv1.trans (if_neg hc61).symm)
          exact nd56 k
      · refine XS.ifYes X32.here hx rfl (pc0 := 245) (pc' := 266) rfl (hb hby at_245) rfl ((if0 _ _).trans (teq (b2i_eq hc60)).1) (by decide) (by decide) ?_
        have k : ∀ (v1 : Bool), v1 = false → Steps p.tables e below (T32.setTop (mkF m 267 #[.val (.int ci), .val (.int ai), .val (.int bi), .val (.int ii), .val (.int fi), .val (.int fl), .val (.int (v_cap ci)), .val (.int (v_x ci ai)), .val (.int (v_y ci ai bi fl)), .val (.int (v_sel fl)), .val (.int (v_r ci ai bi ii fl)), .val (.int (b2i (v_aA fl))), .val (.int (b2i (v_aB fl))), .val (.int (v_from ci fi)), .val (.ref b15), .val (.int (b2i (v_was ci ai bi ii fl))), .val (.int (b2i (v_px ci ai bi ii fl))), .unset, .unset, .unset, .unset] [(.int (b2i v1))])) t := fun v1 hv1 => k v1 (hv1.trans (if_neg hc60).symm)
        exact nd56 k
  have pre62 : ∀ t, Steps p.tables e below (T32.setTop (mkF m 271 #[.val (.int ci), .val (.int ai), .val (.int bi), .val (.int ii), .val (.int fi), .val (.int fl), .val (.int (v_cap ci)), .val (.int (v_x ci ai)), .val (.int (v_y ci ai bi fl)), .val (.int (v_sel fl)), .val (.int (v_r ci ai bi ii fl)), .val (.int (b2i (v_aA fl))), .val (.int (b2i (v_aB fl))), .val (.int (v_from ci fi)), .val (.ref b15), .val (.int (b2i (v_was ci ai bi ii fl))), .val (.int (b2i (v_px ci ai bi ii fl))), .val (.int (b2i (v_py ci ai bi ii fl))), .unset, .unset, .unset] [(.int (b2i (v_px ci ai bi ii fl)))])) t → Steps p.tables e below (s₁.setTop (entryFrame m #[(.int ci), (.int ai), (.int bi), (.int ii), (.int fi), (.int fl)] maxLocals)) t := by
    intro t k
    refine pre55 t ?_
    show Steps p.tables e below (T32.setTop (mkF m 267 #[.val (.int ci), .val (.int ai), .val (.int bi), .val (.int ii), .val (.int fi), .val (.int fl), .val (.int (v_cap ci)), .val (.int (v_x ci ai)), .val (.int (v_y ci ai bi fl)), .val (.int (v_sel fl)), .val (.int (v_r ci ai bi ii fl)), .val (.int (b2i (v_aA fl))), .val (.int (b2i (v_aB fl))), .val (.int (v_from ci fi)), .val (.ref b15), .val (.int (b2i (v_was ci ai bi ii fl))), .val (.int (b2i (v_px ci ai bi ii fl))), .unset, .unset, .unset, .unset] [(.int (b2i (if (v_aB fl) = true then (nd0_255_54 ci ai bi ii fl) else (if (v_aA fl) = true then (if (v_x ci ai) = (v_y ci ai bi fl) then (nd0_255_54 ci ai bi ii fl) else false) else false))))])) _
    refine XS.istore X32.here hx rfl (hb hby at_267) rfl (l' := #[.val (.int ci), .val (.int ai), .val (.int bi), .val (.int ii), .val (.int fi), .val (.int fl), .val (.int (v_cap ci)), .val (.int (v_x ci ai)), .val (.int (v_y ci ai bi fl)), .val (.int (v_sel fl)), .val (.int (v_r ci ai bi ii fl)), .val (.int (b2i (v_aA fl))), .val (.int (b2i (v_aB fl))), .val (.int (v_from ci fi)), .val (.ref b15), .val (.int (b2i (v_was ci ai bi ii fl))), .val (.int (b2i (v_px ci ai bi ii fl))), .val (.int (b2i (v_py ci ai bi ii fl))), .unset, .unset, .unset]) rfl ?_
    show Steps p.tables e below (T32.setTop (mkF m 269 #[.val (.int ci), .val (.int ai), .val (.int bi), .val (.int ii), .val (.int fi), .val (.int fl), .val (.int (v_cap ci)), .val (.int (v_x ci ai)), .val (.int (v_y ci ai bi fl)), .val (.int (v_sel fl)), .val (.int (v_r ci ai bi ii fl)), .val (.int (b2i (v_aA fl))), .val (.int (b2i (v_aB fl))), .val (.int (v_from ci fi)), .val (.ref b15), .val (.int (b2i (v_was ci ai bi ii fl))), .val (.int (b2i (v_px ci ai bi ii fl))), .val (.int (b2i (v_py ci ai bi ii fl))), .unset, .unset, .unset] [])) _
    refine XS.iload X32.here hx rfl (hb hby at_269) rfl ?_
    exact k
  have pre63 : ∀ t, Steps p.tables e below (T32.setTop (mkF m 279 #[.val (.int ci), .val (.int ai), .val (.int bi), .val (.int ii), .val (.int fi), .val (.int fl), .val (.int (v_cap ci)), .val (.int (v_x ci ai)), .val (.int (v_y ci ai bi fl)), .val (.int (v_sel fl)), .val (.int (v_r ci ai bi ii fl)), .val (.int (b2i (v_aA fl))), .val (.int (b2i (v_aB fl))), .val (.int (v_from ci fi)), .val (.ref b15), .val (.int (b2i (v_was ci ai bi ii fl))), .val (.int (b2i (v_px ci ai bi ii fl))), .val (.int (b2i (v_py ci ai bi ii fl))), .unset, .unset, .unset] [(.int (b2i (if (v_px ci ai bi ii fl) = true then true else false)))])) t → Steps p.tables e below (s₁.setTop (entryFrame m #[(.int ci), (.int ai), (.int bi), (.int ii), (.int fi), (.int fl)] maxLocals)) t := by
    intro t k
    refine pre62 t ?_
    have k : ∀ (v1 : Bool), v1 = (if (v_px ci ai bi ii fl) = true then true else false) → Steps p.tables e below (T32.setTop (mkF m 279 #[.val (.int ci), .val (.int ai), .val (.int bi), .val (.int ii), .val (.int fi), .val (.int fl), .val (.int (v_cap ci)), .val (.int (v_x ci ai)), .val (.int (v_y ci ai bi fl)), .val (.int (v_sel fl)), .val (.int (v_r ci ai bi ii fl)), .val (.int (b2i (v_aA fl))), .val (.int (b2i (v_aB fl))), .val (.int (v_from ci fi)), .val (.ref b15), .val (.int (b2i (v_was ci ai bi ii fl))), .val (.int (b2i (v_px ci ai bi ii fl))), .val (.int (b2i (v_py ci ai bi ii fl))), .unset, .unset, .unset] [(.int (b2i v1))])) t := fun v1 hv1 => by subst hv1; exact k
    show Steps p.tables e below (T32.setTop (mkF m 271 #[.val (.int ci), .val (.int ai), .val (.int bi), .val (.int ii), .val (.int fi), .val (.int fl), .val (.int (v_cap ci)), .val (.int (v_x ci ai)), .val (.int (v_y ci ai bi fl)), .val (.int (v_sel fl)), .val (.int (v_r ci ai bi ii fl)), .val (.int (b2i (v_aA fl))), .val (.int (b2i (v_aB fl))), .val (.int (v_from ci fi)), .val (.ref b15), .val (.int (b2i (v_was ci ai bi ii fl))), .val (.int (b2i (v_px ci ai bi ii fl))), .val (.int (b2i (v_py ci ai bi ii fl))), .unset, .unset, .unset] [(.int (b2i (v_px ci ai bi ii fl)))])) _
    by_cases hc64 : (v_px ci ai bi ii fl) = true
    · refine XS.ifNo X32.here hx rfl (hb hby at_271) rfl ((if0 _ _).trans (feq (b2i_ne hc64)).1) ?_
      have k : ∀ (v1 : Bool), v1 = true → Steps p.tables e below (T32.setTop (mkF m 279 #[.val (.int ci), .val (.int ai), .val (.int bi), .val (.int ii), .val (.int fi), .val (.int fl), .val (.int (v_cap ci)), .val (.int (v_x ci ai)), .val (.int (v_y ci ai bi fl)), .val (.int (v_sel fl)), .val (.int (v_r ci ai bi ii fl)), .val (.int (b2i (v_aA fl))), .val (.int (b2i (v_aB fl))), .val (.int (v_from ci fi)), .val (.ref b15), .val (.int (b2i (v_was ci ai bi ii fl))), .val (.int (b2i (v_px ci ai bi ii fl))), .val (.int (b2i (v_py ci ai bi ii fl))), .unset, .unset, .unset] [(.int (b2i v1))])) t := fun v1 hv1 => k v1 (hv1.trans (if_pos hc64).symm)
      show Steps p.tables e below (T32.setTop (mkF m 274 #[.val (.int ci), .val (.int ai), .val (.int bi), .val (.int ii), .val (.int fi), .val (.int fl), .val (.int (v_cap ci)), .val (.int (v_x ci ai)), .val (.int (v_y ci ai bi fl)), .val (.int (v_sel fl)), .val (.int (v_r ci ai bi ii fl)), .val (.int (b2i (v_aA fl))), .val (.int (b2i (v_aB fl))), .val (.int (v_from ci fi)), .val (.ref b15), .val (.int (b2i (v_was ci ai bi ii fl))), .val (.int (b2i (v_px ci ai bi ii fl))), .val (.int (b2i (v_py ci ai bi ii fl))), .unset, .unset, .unset] [])) _
      refine XS.iconst X32.here hx rfl (hb hby at_274) ?_
      show Steps p.tables e below (T32.setTop (mkF m 275 #[.val (.int ci), .val (.int ai), .val (.int bi), .val (.int ii), .val (.int fi), .val (.int fl), .val (.int (v_cap ci)), .val (.int (v_x ci ai)), .val (.int (v_y ci ai bi fl)), .val (.int (v_sel fl)), .val (.int (v_r ci ai bi ii fl)), .val (.int (b2i (v_aA fl))), .val (.int (b2i (v_aB fl))), .val (.int (v_from ci fi)), .val (.ref b15), .val (.int (b2i (v_was ci ai bi ii fl))), .val (.int (b2i (v_px ci ai bi ii fl))), .val (.int (b2i (v_py ci ai bi ii fl))), .unset, .unset, .unset] [(.int (1 : Int32))])) _
      refine XS.goto X32.here hx rfl (pc0 := 275) (pc' := 279) rfl (hb hby at_275) (by decide) (by decide) ?_
      exact k true rfl
    · refine XS.ifYes X32.here hx rfl (pc0 := 271) (pc' := 278) rfl (hb hby at_271) rfl ((if0 _ _).trans (teq (b2i_eq hc64)).1) (by decide) (by decide) ?_
      have k : ∀ (v1 : Bool), v1 = false → Steps p.tables e below (T32.setTop (mkF m 279 #[.val (.int ci), .val (.int ai), .val (.int bi), .val (.int ii), .val (.int fi), .val (.int fl), .val (.int (v_cap ci)), .val (.int (v_x ci ai)), .val (.int (v_y ci ai bi fl)), .val (.int (v_sel fl)), .val (.int (v_r ci ai bi ii fl)), .val (.int (b2i (v_aA fl))), .val (.int (b2i (v_aB fl))), .val (.int (v_from ci fi)), .val (.ref b15), .val (.int (b2i (v_was ci ai bi ii fl))), .val (.int (b2i (v_px ci ai bi ii fl))), .val (.int (b2i (v_py ci ai bi ii fl))), .unset, .unset, .unset] [(.int (b2i v1))])) t := fun v1 hv1 => k v1 (hv1.trans (if_neg hc64).symm)
      show Steps p.tables e below (T32.setTop (mkF m 278 #[.val (.int ci), .val (.int ai), .val (.int bi), .val (.int ii), .val (.int fi), .val (.int fl), .val (.int (v_cap ci)), .val (.int (v_x ci ai)), .val (.int (v_y ci ai bi fl)), .val (.int (v_sel fl)), .val (.int (v_r ci ai bi ii fl)), .val (.int (b2i (v_aA fl))), .val (.int (b2i (v_aB fl))), .val (.int (v_from ci fi)), .val (.ref b15), .val (.int (b2i (v_was ci ai bi ii fl))), .val (.int (b2i (v_px ci ai bi ii fl))), .val (.int (b2i (v_py ci ai bi ii fl))), .unset, .unset, .unset] [])) _
      refine XS.iconst X32.here hx rfl (hb hby at_278) ?_
      exact k false rfl
  have pre65 : ∀ t, Steps p.tables e below (T32.setTop (mkF m 281 #[.val (.int ci), .val (.int ai), .val (.int bi), .val (.int ii), .val (.int fi), .val (.int fl), .val (.int (v_cap ci)), .val (.int (v_x ci ai)), .val (.int (v_y ci ai bi fl)), .val (.int (v_sel fl)), .val (.int (v_r ci ai bi ii fl)), .val (.int (b2i (v_aA fl))), .val (.int (b2i (v_aB fl))), .val (.int (v_from ci fi)), .val (.ref b15), .val (.int (b2i (v_was ci ai bi ii fl))), .val (.int (b2i (v_px ci ai bi ii fl))), .val (.int (b2i (v_py ci ai bi ii fl))), .unset, .unset, .unset] [(.int (b2i (v_py ci ai bi ii fl))), (.int (b2i (if (v_px ci ai bi ii fl) = true then true else false)))])) t → Steps p.tables e below (s₁.setTop (entryFrame m #[(.int ci), (.int ai), (.int bi), (.int ii), (.int fi), (.int fl)] maxLocals)) t := by
    intro t k
    refine pre63 t ?_
    show Steps p.tables e below (T32.setTop (mkF m 279 #[.val (.int ci), .val (.int ai), .val (.int bi), .val (.int ii), .val (.int fi), .val (.int fl), .val (.int (v_cap ci)), .val (.int (v_x ci ai)), .val (.int (v_y ci ai bi fl)), .val (.int (v_sel fl)), .val (.int (v_r ci ai bi ii fl)), .val (.int (b2i (v_aA fl))), .val (.int (b2i (v_aB fl))), .val (.int (v_from ci fi)), .val (.ref b15), .val (.int (b2i (v_was ci ai bi ii fl))), .val (.int (b2i (v_px ci ai bi ii fl))), .val (.int (b2i (v_py ci ai bi ii fl))), .unset, .unset, .unset] [(.int (b2i (if (v_px ci ai bi ii fl) = true then true else false)))])) _
    refine XS.iload X32.here hx rfl (hb hby at_279) rfl ?_
    exact k
  have pre66 : ∀ t, Steps p.tables e below (T32.setTop (mkF m 296 #[.val (.int ci), .val (.int ai), .val (.int bi), .val (.int ii), .val (.int fi), .val (.int fl), .val (.int (v_cap ci)), .val (.int (v_x ci ai)), .val (.int (v_y ci ai bi fl)), .val (.int (v_sel fl)), .val (.int (v_r ci ai bi ii fl)), .val (.int (b2i (v_aA fl))), .val (.int (b2i (v_aB fl))), .val (.int (v_from ci fi)), .val (.ref b15), .val (.int (b2i (v_was ci ai bi ii fl))), .val (.int (b2i (v_px ci ai bi ii fl))), .val (.int (b2i (v_py ci ai bi ii fl))), .unset, .unset, .unset] [(.int (b2i (if (v_py ci ai bi ii fl) = true then (if (v_y ci ai bi fl) = (v_x ci ai) then false else true) else false))), (.int (b2i (if (v_px ci ai bi ii fl) = true then true else false)))])) t → Steps p.tables e below (s₁.setTop (entryFrame m #[(.int ci), (.int ai), (.int bi), (.int ii), (.int fi), (.int fl)] maxLocals)) t := by
    intro t k
    refine pre65 t ?_
    have k : ∀ (v1 : Bool), v1 = (if (v_py ci ai bi ii fl) = true then (if (v_y ci ai bi fl) = (v_x ci ai) then false else true) else false) → Steps p.tables e below (T32.setTop (mkF m 296 #[.val (.int ci), .val (.int ai), .val (.int bi), .val (.int ii), .val (.int fi), .val (.int fl), .val (.int (v_cap ci)), .val (.int (v_x ci ai)), .val (.int (v_y ci ai bi fl)), .val (.int (v_sel fl)), .val (.int (v_r ci ai bi ii fl)), .val (.int (b2i (v_aA fl))), .val (.int (b2i (v_aB fl))), .val (.int (v_from ci fi)), .val (.ref b15), .val (.int (b2i (v_was ci ai bi ii fl))), .val (.int (b2i (v_px ci ai bi ii fl))), .val (.int (b2i (v_py ci ai bi ii fl))), .unset, .unset, .unset] [(.int (b2i v1)), (.int (b2i (if (v_px ci ai bi ii fl) = true then true else false)))])) t := fun v1 hv1 => by subst hv1; exact k
    have nd67 : (∀ (v1 : Bool), v1 = false → Steps p.tables e below (T32.setTop (mkF m 296 #[.val (.int ci), .val (.int ai), .val (.int bi), .val (.int ii), .val (.int fi), .val (.int fl), .val (.int (v_cap ci)), .val (.int (v_x ci ai)), .val (.int (v_y ci ai bi fl)), .val (.int (v_sel fl)), .val (.int (v_r ci ai bi ii fl)), .val (.int (b2i (v_aA fl))), .val (.int (b2i (v_aB fl))), .val (.int (v_from ci fi)), .val (.ref b15), .val (.int (b2i (v_was ci ai bi ii fl))), .val (.int (b2i (v_px ci ai bi ii fl))), .val (.int (b2i (v_py ci ai bi ii fl))), .unset, .unset, .unset] [(.int (b2i v1)), (.int (b2i (if (v_px ci ai bi ii fl) = true then true else false)))])) t) → Steps p.tables e below (T32.setTop (mkF m 295 #[.val (.int ci), .val (.int ai), .val (.int bi), .val (.int ii), .val (.int fi), .val (.int fl), .val (.int (v_cap ci)), .val (.int (v_x ci ai)), .val (.int (v_y ci ai bi fl)), .val (.int (v_sel fl)), .val (.int (v_r ci ai bi ii fl)), .val (.int (b2i (v_aA fl))), .val (.int (b2i (v_aB fl))), .val (.int (v_from ci fi)), .val (.ref b15), .val (.int (b2i (v_was ci ai bi ii fl))), .val (.int (b2i (v_px ci ai bi ii fl))), .val (.int (b2i (v_py ci ai bi ii fl))), .unset, .unset, .unset] [(.int (b2i (if (v_px ci ai bi ii fl) = true then true else false)))])) t := by
      intro k
      show Steps p.tables e below (T32.setTop (mkF m 295 #[.val (.int ci), .val (.int ai), .val (.int bi), .val (.int ii), .val (.int fi), .val (.int fl), .val (.int (v_cap ci)), .val (.int (v_x ci ai)), .val (.int (v_y ci ai bi fl)), .val (.int (v_sel fl)), .val (.int (v_r ci ai bi ii fl)), .val (.int (b2i (v_aA fl))), .val (.int (b2i (v_aB fl))), .val (.int (v_from ci fi)), .val (.ref b15), .val (.int (b2i (v_was ci ai bi ii fl))), .val (.int (b2i (v_px ci ai bi ii fl))), .val (.int (b2i (v_py ci ai bi ii fl))), .unset, .unset, .unset] [(.int (b2i (if (v_px ci ai bi ii fl) = true then true else false)))])) _
      refine XS.iconst X32.here hx rfl (hb hby at_295) ?_
      exact k false rfl
    show Steps p.tables e below (T32.setTop (mkF m 281 #[.val (.int ci), .val (.int ai), .val (.int bi), .val (.int ii), .val (.int fi), .val (.int fl), .val (.int (v_cap ci)), .val (.int (v_x ci ai)), .val (.int (v_y ci ai bi fl)), .val (.int (v_sel fl)), .val (.int (v_r ci ai bi ii fl)), .val (.int (b2i (v_aA fl))), .val (.int (b2i (v_aB fl))), .val (.int (v_from ci fi)), .val (.ref b15), .val (.int (b2i (v_was ci ai bi ii fl))), .val (.int (b2i (v_px ci ai bi ii fl))), .val (.int (b2i (v_py ci ai bi ii fl))), .unset, .unset, .unset] [(.int (b2i (v_py ci ai bi ii fl))), (.int (b2i (if (v_px ci ai bi ii fl) = true then true else false)))])) _
    by_cases hc68 : (v_py ci ai bi ii fl) = true
    · refine XS.ifNo X32.here hx rfl (hb hby at_281) rfl ((if0 _ _).trans (feq (b2i_ne hc68)).1) ?_
      have k : ∀ (v1 : Bool), v1 = (if (v_y ci ai bi fl) = (v_x ci ai) then false else true) → Steps p.tables e below (T32.setTop (mkF m 296 #[.val (.int ci), .val (.int ai), .val (.int bi), .val (.int ii), .val (.int fi), .val (.int fl), .val (.int (v_cap ci)), .val (.int (v_x ci ai)), .val (.int (v_y ci ai bi fl)), .val (.int (v_sel fl)), .val (.int (v_r ci ai bi ii fl)), .val (.int (b2i (v_aA fl))), .val (.int (b2i (v_aB fl))), .val (.int (v_from ci fi)), .val (.ref b15), .val (.int (b2i (v_was ci ai bi ii fl))), .val (.int (b2i (v_px ci ai bi ii fl))), .val (.int (b2i (v_py ci ai bi ii fl))), .unset, .unset, .unset] [(.int (b2i v1)), (.int (b2i (if (v_px ci ai bi ii fl) = true then true else false)))])) t := fun v1 hv1 => k v1 (hv1.trans (if_pos hc68).symm)
      show Steps p.tables e below (T32.setTop (mkF m 284 #[.val (.int ci), .val (.int ai), .val (.int bi), .val (.int ii), .val (.int fi), .val (.int fl), .val (.int (v_cap ci)), .val (.int (v_x ci ai)), .val (.int (v_y ci ai bi fl)), .val (.int (v_sel fl)), .val (.int (v_r ci ai bi ii fl)), .val (.int (b2i (v_aA fl))), .val (.int (b2i (v_aB fl))), .val (.int (v_from ci fi)), .val (.ref b15), .val (.int (b2i (v_was ci ai bi ii fl))), .val (.int (b2i (v_px ci ai bi ii fl))), .val (.int (b2i (v_py ci ai bi ii fl))), .unset, .unset, .unset] [(.int (b2i (if (v_px ci ai bi ii fl) = true then true else false)))])) _
      refine XS.iload X32.here hx rfl (hb hby at_284) rfl ?_
      show Steps p.tables e below (T32.setTop (mkF m 286 #[.val (.int ci), .val (.int ai), .val (.int bi), .val (.int ii), .val (.int fi), .val (.int fl), .val (.int (v_cap ci)), .val (.int (v_x ci ai)), .val (.int (v_y ci ai bi fl)), .val (.int (v_sel fl)), .val (.int (v_r ci ai bi ii fl)), .val (.int (b2i (v_aA fl))), .val (.int (b2i (v_aB fl))), .val (.int (v_from ci fi)), .val (.ref b15), .val (.int (b2i (v_was ci ai bi ii fl))), .val (.int (b2i (v_px ci ai bi ii fl))), .val (.int (b2i (v_py ci ai bi ii fl))), .unset, .unset, .unset] [(.int (v_y ci ai bi fl)), (.int (b2i (if (v_px ci ai bi ii fl) = true then true else false)))])) _
      refine XS.iload X32.here hx rfl (hb hby at_286) rfl ?_
      show Steps p.tables e below (T32.setTop (mkF m 288 #[.val (.int ci), .val (.int ai), .val (.int bi), .val (.int ii), .val (.int fi), .val (.int fl), .val (.int (v_cap ci)), .val (.int (v_x ci ai)), .val (.int (v_y ci ai bi fl)), .val (.int (v_sel fl)), .val (.int (v_r ci ai bi ii fl)), .val (.int (b2i (v_aA fl))), .val (.int (b2i (v_aB fl))), .val (.int (v_from ci fi)), .val (.ref b15), .val (.int (b2i (v_was ci ai bi ii fl))), .val (.int (b2i (v_px ci ai bi ii fl))), .val (.int (b2i (v_py ci ai bi ii fl))), .unset, .unset, .unset] [(.int (v_x ci ai)), (.int (v_y ci ai bi fl)), (.int (b2i (if (v_px ci ai bi ii fl) = true then true else false)))])) _
      by_cases hc69 : (v_y ci ai bi fl) = (v_x ci ai)
      · refine XS.icmpYes X32.here hx rfl (pc0 := 288) (pc' := 295) rfl (hb hby at_288) rfl (teq hc69).1 (by decide) (by decide) ?_
        have k : ∀ (v1 : Bool), v1 = false → Steps p.tables e below (T32.setTop (mkF m 296 #[.val (.int ci), .val (.int ai), .val (.int bi), .val (.int ii), .val (.int fi), .val (.int fl), .val (.int (v_cap ci)), .val (.int (v_x ci ai)), .val (.int (v_y ci ai bi fl)), .val (.int (v_sel fl)), .val (.int (v_r ci ai bi ii fl)), .val (.int (b2i (v_aA fl))), .val (.int (b2i (v_aB fl))), .val (.int (v_from ci fi)), .val (.ref b15), .val (.int (b2i (v_was ci ai bi ii fl))), .val (.int (b2i (v_px ci ai bi ii fl))), .val (.int (b2i (v_py ci ai bi ii fl))), .unset, .unset, .unset] [(.int (b2i v1)), (.int (b2i (if (v_px ci ai bi ii fl) = true then true else false)))])) t := fun v1 hv1 => k v1 (hv1.trans (if_pos hc69).symm)
        exact nd67 k
      · refine XS.icmpNo X32.here hx rfl (hb hby at_288) rfl (feq hc69).1 ?_
        have k : ∀ (v1 : Bool), v1 = true → Steps p.tables e below (T32.setTop (mkF m 296 #[.val (.int ci), .val (.int ai), .val (.int bi), .val (.int ii), .val (.int fi), .val (.int fl), .val (.int (v_cap ci)), .val (.int (v_x ci ai)), .val (.int (v_y ci ai bi fl)), .val (.int (v_sel fl)), .val (.int (v_r ci ai bi ii fl)), .val (.int (b2i (v_aA fl))), .val (.int (b2i (v_aB fl))), .val (.int (v_from ci fi)), .val (.ref b15), .val (.int (b2i (v_was ci ai bi ii fl))), .val (.int (b2i (v_px ci ai bi ii fl))), .val (.int (b2i (v_py ci ai bi ii fl))), .unset, .unset, .unset] [(.int (b2i v1)), (.int (b2i (if (v_px ci ai bi ii fl) = true then true else false)))])) t := fun v1 hv1 => k v1 (hv1.trans (if_neg hc69).symm)
        show Steps p.tables e below (T32.setTop (mkF m 291 #[.val (.int ci), .val (.int ai), .val (.int bi), .val (.int ii), .val (.int fi), .val (.int fl), .val (.int (v_cap ci)), .val (.int (v_x ci ai)), .val (.int (v_y ci ai bi fl)), .val (.int (v_sel fl)), .val (.int (v_r ci ai bi ii fl)), .val (.int (b2i (v_aA fl))), .val (.int (b2i (v_aB fl))), .val (.int (v_from ci fi)), .val (.ref b15), .val (.int (b2i (v_was ci ai bi ii fl))), .val (.int (b2i (v_px ci ai bi ii fl))), .val (.int (b2i (v_py ci ai bi ii fl))), .unset, .unset, .unset] [(.int (b2i (if (v_px ci ai bi ii fl) = true then true else false)))])) _
        refine XS.iconst X32.here hx rfl (hb hby at_291) ?_
        show Steps p.tables e below (T32.setTop (mkF m 292 #[.val (.int ci), .val (.int ai), .val (.int bi), .val (.int ii), .val (.int fi), .val (.int fl), .val (.int (v_cap ci)), .val (.int (v_x ci ai)), .val (.int (v_y ci ai bi fl)), .val (.int (v_sel fl)), .val (.int (v_r ci ai bi ii fl)), .val (.int (b2i (v_aA fl))), .val (.int (b2i (v_aB fl))), .val (.int (v_from ci fi)), .val (.ref b15), .val (.int (b2i (v_was ci ai bi ii fl))), .val (.int (b2i (v_px ci ai bi ii fl))), .val (.int (b2i (v_py ci ai bi ii fl))), .unset, .unset, .unset] [(.int (1 : Int32)), (.int (b2i (if (v_px ci ai bi ii fl) = true then true else false)))])) _
        refine XS.goto X32.here hx rfl (pc0 := 292) (pc' := 296) rfl (hb hby at_292) (by decide) (by decide) ?_
        exact k true rfl
    · refine XS.ifYes X32.here hx rfl (pc0 := 281) (pc' := 295) rfl (hb hby at_281) rfl ((if0 _ _).trans (teq (b2i_eq hc68)).1) (by decide) (by decide) ?_
      have k : ∀ (v1 : Bool), v1 = false → Steps p.tables e below (T32.setTop (mkF m 296 #[.val (.int ci), .val (.int ai), .val (.int bi), .val (.int ii), .val (.int fi), .val (.int fl), .val (.int (v_cap ci)), .val (.int (v_x ci ai)), .val (.int (v_y ci ai bi fl)), .val (.int (v_sel fl)), .val (.int (v_r ci ai bi ii fl)), .val (.int (b2i (v_aA fl))), .val (.int (b2i (v_aB fl))), .val (.int (v_from ci fi)), .val (.ref b15), .val (.int (b2i (v_was ci ai bi ii fl))), .val (.int (b2i (v_px ci ai bi ii fl))), .val (.int (b2i (v_py ci ai bi ii fl))), .unset, .unset, .unset] [(.int (b2i v1)), (.int (b2i (if (v_px ci ai bi ii fl) = true then true else false)))])) t := fun v1 hv1 => k v1 (hv1.trans (if_neg hc68).symm)
      exact nd67 k
  have pre70 : ∀ t, Steps p.tables e below (T32.setTop (mkF m 304 #[.val (.int ci), .val (.int ai), .val (.int bi), .val (.int ii), .val (.int fi), .val (.int fl), .val (.int (v_cap ci)), .val (.int (v_x ci ai)), .val (.int (v_y ci ai bi fl)), .val (.int (v_sel fl)), .val (.int (v_r ci ai bi ii fl)), .val (.int (b2i (v_aA fl))), .val (.int (b2i (v_aB fl))), .val (.int (v_from ci fi)), .val (.ref b15), .val (.int (b2i (v_was ci ai bi ii fl))), .val (.int (b2i (v_px ci ai bi ii fl))), .val (.int (b2i (v_py ci ai bi ii fl))), .val (.int (v_n ci ai bi ii fl)), .val (.int (-1 : Int32)), .unset] [(.int (b2i (v_px ci ai bi ii fl)))])) t → Steps p.tables e below (s₁.setTop (entryFrame m #[(.int ci), (.int ai), (.int bi), (.int ii), (.int fi), (.int fl)] maxLocals)) t := by
    intro t k
    refine pre66 t ?_
    show Steps p.tables e below (T32.setTop (mkF m 296 #[.val (.int ci), .val (.int ai), .val (.int bi), .val (.int ii), .val (.int fi), .val (.int fl), .val (.int (v_cap ci)), .val (.int (v_x ci ai)), .val (.int (v_y ci ai bi fl)), .val (.int (v_sel fl)), .val (.int (v_r ci ai bi ii fl)), .val (.int (b2i (v_aA fl))), .val (.int (b2i (v_aB fl))), .val (.int (v_from ci fi)), .val (.ref b15), .val (.int (b2i (v_was ci ai bi ii fl))), .val (.int (b2i (v_px ci ai bi ii fl))), .val (.int (b2i (v_py ci ai bi ii fl))), .unset, .unset, .unset] [(.int (b2i (if (v_py ci ai bi ii fl) = true then (if (v_y ci ai bi fl) = (v_x ci ai) then false else true) else false))), (.int (b2i (if (v_px ci ai bi ii fl) = true then true else false)))])) _
    refine XS.iadd X32.here hx rfl (hb hby at_296) rfl ?_
    show Steps p.tables e below (T32.setTop (mkF m 297 #[.val (.int ci), .val (.int ai), .val (.int bi), .val (.int ii), .val (.int fi), .val (.int fl), .val (.int (v_cap ci)), .val (.int (v_x ci ai)), .val (.int (v_y ci ai bi fl)), .val (.int (v_sel fl)), .val (.int (v_r ci ai bi ii fl)), .val (.int (b2i (v_aA fl))), .val (.int (b2i (v_aB fl))), .val (.int (v_from ci fi)), .val (.ref b15), .val (.int (b2i (v_was ci ai bi ii fl))), .val (.int (b2i (v_px ci ai bi ii fl))), .val (.int (b2i (v_py ci ai bi ii fl))), .unset, .unset, .unset] [(.int ((b2i (if (v_px ci ai bi ii fl) = true then true else false)) + (b2i (if (v_py ci ai bi ii fl) = true then (if (v_y ci ai bi fl) = (v_x ci ai) then false else true) else false))))])) _
    refine XS.istore X32.here hx rfl (hb hby at_297) rfl (l' := #[.val (.int ci), .val (.int ai), .val (.int bi), .val (.int ii), .val (.int fi), .val (.int fl), .val (.int (v_cap ci)), .val (.int (v_x ci ai)), .val (.int (v_y ci ai bi fl)), .val (.int (v_sel fl)), .val (.int (v_r ci ai bi ii fl)), .val (.int (b2i (v_aA fl))), .val (.int (b2i (v_aB fl))), .val (.int (v_from ci fi)), .val (.ref b15), .val (.int (b2i (v_was ci ai bi ii fl))), .val (.int (b2i (v_px ci ai bi ii fl))), .val (.int (b2i (v_py ci ai bi ii fl))), .val (.int (v_n ci ai bi ii fl)), .unset, .unset]) rfl ?_
    show Steps p.tables e below (T32.setTop (mkF m 299 #[.val (.int ci), .val (.int ai), .val (.int bi), .val (.int ii), .val (.int fi), .val (.int fl), .val (.int (v_cap ci)), .val (.int (v_x ci ai)), .val (.int (v_y ci ai bi fl)), .val (.int (v_sel fl)), .val (.int (v_r ci ai bi ii fl)), .val (.int (b2i (v_aA fl))), .val (.int (b2i (v_aB fl))), .val (.int (v_from ci fi)), .val (.ref b15), .val (.int (b2i (v_was ci ai bi ii fl))), .val (.int (b2i (v_px ci ai bi ii fl))), .val (.int (b2i (v_py ci ai bi ii fl))), .val (.int (v_n ci ai bi ii fl)), .unset, .unset] [])) _
    refine XS.iconst X32.here hx rfl (hb hby at_299) ?_
    show Steps p.tables e below (T32.setTop (mkF m 300 #[.val (.int ci), .val (.int ai), .val (.int bi), .val (.int ii), .val (.int fi), .val (.int fl), .val (.int (v_cap ci)), .val (.int (v_x ci ai)), .val (.int (v_y ci ai bi fl)), .val (.int (v_sel fl)), .val (.int (v_r ci ai bi ii fl)), .val (.int (b2i (v_aA fl))), .val (.int (b2i (v_aB fl))), .val (.int (v_from ci fi)), .val (.ref b15), .val (.int (b2i (v_was ci ai bi ii fl))), .val (.int (b2i (v_px ci ai bi ii fl))), .val (.int (b2i (v_py ci ai bi ii fl))), .val (.int (v_n ci ai bi ii fl)), .unset, .unset] [(.int (-1 : Int32))])) _
    refine XS.istore X32.here hx rfl (hb hby at_300) rfl (l' := #[.val (.int ci), .val (.int ai), .val (.int bi), .val (.int ii), .val (.int fi), .val (.int fl), .val (.int (v_cap ci)), .val (.int (v_x ci ai)), .val (.int (v_y ci ai bi fl)), .val (.int (v_sel fl)), .val (.int (v_r ci ai bi ii fl)), .val (.int (b2i (v_aA fl))), .val (.int (b2i (v_aB fl))), .val (.int (v_from ci fi)), .val (.ref b15), .val (.int (b2i (v_was ci ai bi ii fl))), .val (.int (b2i (v_px ci ai bi ii fl))), .val (.int (b2i (v_py ci ai bi ii fl))), .val (.int (v_n ci ai bi ii fl)), .val (.int (-1 : Int32)), .unset]) rfl ?_
    show Steps p.tables e below (T32.setTop (mkF m 302 #[.val (.int ci), .val (.int ai), .val (.int bi), .val (.int ii), .val (.int fi), .val (.int fl), .val (.int (v_cap ci)), .val (.int (v_x ci ai)), .val (.int (v_y ci ai bi fl)), .val (.int (v_sel fl)), .val (.int (v_r ci ai bi ii fl)), .val (.int (b2i (v_aA fl))), .val (.int (b2i (v_aB fl))), .val (.int (v_from ci fi)), .val (.ref b15), .val (.int (b2i (v_was ci ai bi ii fl))), .val (.int (b2i (v_px ci ai bi ii fl))), .val (.int (b2i (v_py ci ai bi ii fl))), .val (.int (v_n ci ai bi ii fl)), .val (.int (-1 : Int32)), .unset] [])) _
    refine XS.iload X32.here hx rfl (hb hby at_302) rfl ?_
    exact k
  have pre71 : ∀ t, Steps p.tables e below (T32.setTop (mkF m 318 #[.val (.int ci), .val (.int ai), .val (.int bi), .val (.int ii), .val (.int fi), .val (.int fl), .val (.int (v_cap ci)), .val (.int (v_x ci ai)), .val (.int (v_y ci ai bi fl)), .val (.int (v_sel fl)), .val (.int (v_r ci ai bi ii fl)), .val (.int (b2i (v_aA fl))), .val (.int (b2i (v_aB fl))), .val (.int (v_from ci fi)), .val (.ref b15), .val (.int (b2i (v_was ci ai bi ii fl))), .val (.int (b2i (v_px ci ai bi ii fl))), .val (.int (b2i (v_py ci ai bi ii fl))), .val (.int (v_n ci ai bi ii fl)), .val (.int (v_c0 ci ai bi ii fi fl)), .unset] [])) t → Steps p.tables e below (s₁.setTop (entryFrame m #[(.int ci), (.int ai), (.int bi), (.int ii), (.int fi), (.int fl)] maxLocals)) t := by
    intro t k
    refine pre70 t ?_
    have k : ∀ (v1 : Int32), v1 = (if (v_px ci ai bi ii fl) = true then (if (v_x ci ai) < (v_from ci fi) then (-1 : Int32) else (v_x ci ai)) else (-1 : Int32)) → Steps p.tables e below (T32.setTop (mkF m 318 #[.val (.int ci), .val (.int ai), .val (.int bi), .val (.int ii), .val (.int fi), .val (.int fl), .val (.int (v_cap ci)), .val (.int (v_x ci ai)), .val (.int (v_y ci ai bi fl)), .val (.int (v_sel fl)), .val (.int (v_r ci ai bi ii fl)), .val (.int (b2i (v_aA fl))), .val (.int (b2i (v_aB fl))), .val (.int (v_from ci fi)), .val (.ref b15), .val (.int (b2i (v_was ci ai bi ii fl))), .val (.int (b2i (v_px ci ai bi ii fl))), .val (.int (b2i (v_py ci ai bi ii fl))), .val (.int (v_n ci ai bi ii fl)), .val (.int v1), .unset] [])) t := fun v1 hv1 => by subst hv1; exact k
    have nd72 : (∀ (v1 : Int32), v1 = (-1 : Int32) → Steps p.tables e below (T32.setTop (mkF m 318 #[.val (.int ci), .val (.int ai), .val (.int bi), .val (.int ii), .val (.int fi), .val (.int fl), .val (.int (v_cap ci)), .val (.int (v_x ci ai)), .val (.int (v_y ci ai bi fl)), .val (.int (v_sel fl)), .val (.int (v_r ci ai bi ii fl)), .val (.int (b2i (v_aA fl))), .val (.int (b2i (v_aB fl))), .val (.int (v_from ci fi)), .val (.ref b15), .val (.int (b2i (v_was ci ai bi ii fl))), .val (.int (b2i (v_px ci ai bi ii fl))), .val (.int (b2i (v_py ci ai bi ii fl))), .val (.int (v_n ci ai bi ii fl)), .val (.int v1), .unset] [])) t) → Steps p.tables e below (T32.setTop (mkF m 318 #[.val (.int ci), .val (.int ai), .val (.int bi), .val (.int ii), .val (.int fi), .val (.int fl), .val (.int (v_cap ci)), .val (.int (v_x ci ai)), .val (.int (v_y ci ai bi fl)), .val (.int (v_sel fl)), .val (.int (v_r ci ai bi ii fl)), .val (.int (b2i (v_aA fl))), .val (.int (b2i (v_aB fl))), .val (.int (v_from ci fi)), .val (.ref b15), .val (.int (b2i (v_was ci ai bi ii fl))), .val (.int (b2i (v_px ci ai bi ii fl))), .val (.int (b2i (v_py ci ai bi ii fl))), .val (.int (v_n ci ai bi ii fl)), .val (.int (-1 : Int32)), .unset] [])) t := by
      intro k
      exact k _ rfl
    show Steps p.tables e below (T32.setTop (mkF m 304 #[.val (.int ci), .val (.int ai), .val (.int bi), .val (.int ii), .val (.int fi), .val (.int fl), .val (.int (v_cap ci)), .val (.int (v_x ci ai)), .val (.int (v_y ci ai bi fl)), .val (.int (v_sel fl)), .val (.int (v_r ci ai bi ii fl)), .val (.int (b2i (v_aA fl))), .val (.int (b2i (v_aB fl))), .val (.int (v_from ci fi)), .val (.ref b15), .val (.int (b2i (v_was ci ai bi ii fl))), .val (.int (b2i (v_px ci ai bi ii fl))), .val (.int (b2i (v_py ci ai bi ii fl))), .val (.int (v_n ci ai bi ii fl)), .val (.int (-1 : Int32)), .unset] [(.int (b2i (v_px ci ai bi ii fl)))])) _
    by_cases hc73 : (v_px ci ai bi ii fl) = true
    · refine XS.ifNo X32.here hx rfl (hb hby at_304) rfl ((if0 _ _).trans (feq (b2i_ne hc73)).1) ?_
      have k : ∀ (v1 : Int32), v1 = (if (v_x ci ai) < (v_from ci fi) then (-1 : Int32) else (v_x ci ai)) → Steps p.tables e below (T32.setTop (mkF m 318 #[.val (.int ci), .val (.int ai), .val (.int bi), .val (.int ii), .val (.int fi), .val (.int fl), .val (.int (v_cap ci)), .val (.int (v_x ci ai)), .val (.int (v_y ci ai bi fl)), .val (.int (v_sel fl)), .val (.int (v_r ci ai bi ii fl)), .val (.int (b2i (v_aA fl))), .val (.int (b2i (v_aB fl))), .val (.int (v_from ci fi)), .val (.ref b15), .val (.int (b2i (v_was ci ai bi ii fl))), .val (.int (b2i (v_px ci ai bi ii fl))), .val (.int (b2i (v_py ci ai bi ii fl))), .val (.int (v_n ci ai bi ii fl)), .val (.int v1), .unset] [])) t := fun v1 hv1 => k v1 (hv1.trans (if_pos hc73).symm)
      show Steps p.tables e below (T32.setTop (mkF m 307 #[.val (.int ci), .val (.int ai), .val (.int bi), .val (.int ii), .val (.int fi), .val (.int fl), .val (.int (v_cap ci)), .val (.int (v_x ci ai)), .val (.int (v_y ci ai bi fl)), .val (.int (v_sel fl)), .val (.int (v_r ci ai bi ii fl)), .val (.int (b2i (v_aA fl))), .val (.int (b2i (v_aB fl))), .val (.int (v_from ci fi)), .val (.ref b15), .val (.int (b2i (v_was ci ai bi ii fl))), .val (.int (b2i (v_px ci ai bi ii fl))), .val (.int (b2i (v_py ci ai bi ii fl))), .val (.int (v_n ci ai bi ii fl)), .val (.int (-1 : Int32)), .unset] [])) _
      refine XS.iload X32.here hx rfl (hb hby at_307) rfl ?_
      show Steps p.tables e below (T32.setTop (mkF m 309 #[.val (.int ci), .val (.int ai), .val (.int bi), .val (.int ii), .val (.int fi), .val (.int fl), .val (.int (v_cap ci)), .val (.int (v_x ci ai)), .val (.int (v_y ci ai bi fl)), .val (.int (v_sel fl)), .val (.int (v_r ci ai bi ii fl)), .val (.int (b2i (v_aA fl))), .val (.int (b2i (v_aB fl))), .val (.int (v_from ci fi)), .val (.ref b15), .val (.int (b2i (v_was ci ai bi ii fl))), .val (.int (b2i (v_px ci ai bi ii fl))), .val (.int (b2i (v_py ci ai bi ii fl))), .val (.int (v_n ci ai bi ii fl)), .val (.int (-1 : Int32)), .unset] [(.int (v_x ci ai))])) _
      refine XS.iload X32.here hx rfl (hb hby at_309) rfl ?_
      show Steps p.tables e below (T32.setTop (mkF m 311 #[.val (.int ci), .val (.int ai), .val (.int bi), .val (.int ii), .val (.int fi), .val (.int fl), .val (.int (v_cap ci)), .val (.int (v_x ci ai)), .val (.int (v_y ci ai bi fl)), .val (.int (v_sel fl)), .val (.int (v_r ci ai bi ii fl)), .val (.int (b2i (v_aA fl))), .val (.int (b2i (v_aB fl))), .val (.int (v_from ci fi)), .val (.ref b15), .val (.int (b2i (v_was ci ai bi ii fl))), .val (.int (b2i (v_px ci ai bi ii fl))), .val (.int (b2i (v_py ci ai bi ii fl))), .val (.int (v_n ci ai bi ii fl)), .val (.int (-1 : Int32)), .unset] [(.int (v_from ci fi)), (.int (v_x ci ai))])) _
      by_cases hc74 : (v_x ci ai) < (v_from ci fi)
      · refine XS.icmpYes X32.here hx rfl (pc0 := 311) (pc' := 318) rfl (hb hby at_311) rfl (tlt hc74).1 (by decide) (by decide) ?_
        have k : ∀ (v1 : Int32), v1 = (-1 : Int32) → Steps p.tables e below (T32.setTop (mkF m 318 #[.val (.int ci), .val (.int ai), .val (.int bi), .val (.int ii), .val (.int fi), .val (.int fl), .val (.int (v_cap ci)), .val (.int (v_x ci ai)), .val (.int (v_y ci ai bi fl)), .val (.int (v_sel fl)), .val (.int (v_r ci ai bi ii fl)), .val (.int (b2i (v_aA fl))), .val (.int (b2i (v_aB fl))), .val (.int (v_from ci fi)), .val (.ref b15), .val (.int (b2i (v_was ci ai bi ii fl))), .val (.int (b2i (v_px ci ai bi ii fl))), .val (.int (b2i (v_py ci ai bi ii fl))), .val (.int (v_n ci ai bi ii fl)), .val (.int v1), .unset] [])) t := fun v1 hv1 => k v1 (hv1.trans (if_pos hc74).symm)
        exact nd72 k
      · refine XS.icmpNo X32.here hx rfl (hb hby at_311) rfl (flt hc74).1 ?_
        have k : ∀ (v1 : Int32), v1 = (v_x ci ai) → Steps p.tables e below (T32.setTop (mkF m 318 #[.val (.int ci), .val (.int ai), .val (.int bi), .val (.int ii), .val (.int fi), .val (.int fl), .val (.int (v_cap ci)), .val (.int (v_x ci ai)), .val (.int (v_y ci ai bi fl)), .val (.int (v_sel fl)), .val (.int (v_r ci ai bi ii fl)), .val (.int (b2i (v_aA fl))), .val (.int (b2i (v_aB fl))), .val (.int (v_from ci fi)), .val (.ref b15), .val (.int (b2i (v_was ci ai bi ii fl))), .val (.int (b2i (v_px ci ai bi ii fl))), .val (.int (b2i (v_py ci ai bi ii fl))), .val (.int (v_n ci ai bi ii fl)), .val (.int v1), .unset] [])) t := fun v1 hv1 => k v1 (hv1.trans (if_neg hc74).symm)
        show Steps p.tables e below (T32.setTop (mkF m 314 #[.val (.int ci), .val (.int ai), .val (.int bi), .val (.int ii), .val (.int fi), .val (.int fl), .val (.int (v_cap ci)), .val (.int (v_x ci ai)), .val (.int (v_y ci ai bi fl)), .val (.int (v_sel fl)), .val (.int (v_r ci ai bi ii fl)), .val (.int (b2i (v_aA fl))), .val (.int (b2i (v_aB fl))), .val (.int (v_from ci fi)), .val (.ref b15), .val (.int (b2i (v_was ci ai bi ii fl))), .val (.int (b2i (v_px ci ai bi ii fl))), .val (.int (b2i (v_py ci ai bi ii fl))), .val (.int (v_n ci ai bi ii fl)), .val (.int (-1 : Int32)), .unset] [])) _
        refine XS.iload X32.here hx rfl (hb hby at_314) rfl ?_
        show Steps p.tables e below (T32.setTop (mkF m 316 #[.val (.int ci), .val (.int ai), .val (.int bi), .val (.int ii), .val (.int fi), .val (.int fl), .val (.int (v_cap ci)), .val (.int (v_x ci ai)), .val (.int (v_y ci ai bi fl)), .val (.int (v_sel fl)), .val (.int (v_r ci ai bi ii fl)), .val (.int (b2i (v_aA fl))), .val (.int (b2i (v_aB fl))), .val (.int (v_from ci fi)), .val (.ref b15), .val (.int (b2i (v_was ci ai bi ii fl))), .val (.int (b2i (v_px ci ai bi ii fl))), .val (.int (b2i (v_py ci ai bi ii fl))), .val (.int (v_n ci ai bi ii fl)), .val (.int (-1 : Int32)), .unset] [(.int (v_x ci ai))])) _
        refine XS.istore X32.here hx rfl (hb hby at_316) rfl (l' := #[.val (.int ci), .val (.int ai), .val (.int bi), .val (.int ii), .val (.int fi), .val (.int fl), .val (.int (v_cap ci)), .val (.int (v_x ci ai)), .val (.int (v_y ci ai bi fl)), .val (.int (v_sel fl)), .val (.int (v_r ci ai bi ii fl)), .val (.int (b2i (v_aA fl))), .val (.int (b2i (v_aB fl))), .val (.int (v_from ci fi)), .val (.ref b15), .val (.int (b2i (v_was ci ai bi ii fl))), .val (.int (b2i (v_px ci ai bi ii fl))), .val (.int (b2i (v_py ci ai bi ii fl))), .val (.int (v_n ci ai bi ii fl)), .val (.int (v_x ci ai)), .unset]) rfl ?_
        exact k _ rfl
    · refine XS.ifYes X32.here hx rfl (pc0 := 304) (pc' := 318) rfl (hb hby at_304) rfl ((if0 _ _).trans (teq (b2i_eq hc73)).1) (by decide) (by decide) ?_
      have k : ∀ (v1 : Int32), v1 = (-1 : Int32) → Steps p.tables e below (T32.setTop (mkF m 318 #[.val (.int ci), .val (.int ai), .val (.int bi), .val (.int ii), .val (.int fi), .val (.int fl), .val (.int (v_cap ci)), .val (.int (v_x ci ai)), .val (.int (v_y ci ai bi fl)), .val (.int (v_sel fl)), .val (.int (v_r ci ai bi ii fl)), .val (.int (b2i (v_aA fl))), .val (.int (b2i (v_aB fl))), .val (.int (v_from ci fi)), .val (.ref b15), .val (.int (b2i (v_was ci ai bi ii fl))), .val (.int (b2i (v_px ci ai bi ii fl))), .val (.int (b2i (v_py ci ai bi ii fl))), .val (.int (v_n ci ai bi ii fl)), .val (.int v1), .unset] [])) t := fun v1 hv1 => k v1 (hv1.trans (if_neg hc73).symm)
      exact nd72 k
  have pre75 : ∀ t, Steps p.tables e below (T32.setTop (mkF m 320 #[.val (.int ci), .val (.int ai), .val (.int bi), .val (.int ii), .val (.int fi), .val (.int fl), .val (.int (v_cap ci)), .val (.int (v_x ci ai)), .val (.int (v_y ci ai bi fl)), .val (.int (v_sel fl)), .val (.int (v_r ci ai bi ii fl)), .val (.int (b2i (v_aA fl))), .val (.int (b2i (v_aB fl))), .val (.int (v_from ci fi)), .val (.ref b15), .val (.int (b2i (v_was ci ai bi ii fl))), .val (.int (b2i (v_px ci ai bi ii fl))), .val (.int (b2i (v_py ci ai bi ii fl))), .val (.int (v_n ci ai bi ii fl)), .val (.int (v_c0 ci ai bi ii fi fl)), .unset] [(.int (b2i (v_py ci ai bi ii fl)))])) t → Steps p.tables e below (s₁.setTop (entryFrame m #[(.int ci), (.int ai), (.int bi), (.int ii), (.int fi), (.int fl)] maxLocals)) t := by
    intro t k
    refine pre71 t ?_
    show Steps p.tables e below (T32.setTop (mkF m 318 #[.val (.int ci), .val (.int ai), .val (.int bi), .val (.int ii), .val (.int fi), .val (.int fl), .val (.int (v_cap ci)), .val (.int (v_x ci ai)), .val (.int (v_y ci ai bi fl)), .val (.int (v_sel fl)), .val (.int (v_r ci ai bi ii fl)), .val (.int (b2i (v_aA fl))), .val (.int (b2i (v_aB fl))), .val (.int (v_from ci fi)), .val (.ref b15), .val (.int (b2i (v_was ci ai bi ii fl))), .val (.int (b2i (v_px ci ai bi ii fl))), .val (.int (b2i (v_py ci ai bi ii fl))), .val (.int (v_n ci ai bi ii fl)), .val (.int (v_c0 ci ai bi ii fi fl)), .unset] [])) _
    refine XS.iload X32.here hx rfl (hb hby at_318) rfl ?_
    exact k
  have pre76 : ∀ t, Steps p.tables e below (T32.setTop (mkF m 347 #[.val (.int ci), .val (.int ai), .val (.int bi), .val (.int ii), .val (.int fi), .val (.int fl), .val (.int (v_cap ci)), .val (.int (v_x ci ai)), .val (.int (v_y ci ai bi fl)), .val (.int (v_sel fl)), .val (.int (v_r ci ai bi ii fl)), .val (.int (b2i (v_aA fl))), .val (.int (b2i (v_aB fl))), .val (.int (v_from ci fi)), .val (.ref b15), .val (.int (b2i (v_was ci ai bi ii fl))), .val (.int (b2i (v_px ci ai bi ii fl))), .val (.int (b2i (v_py ci ai bi ii fl))), .val (.int (v_n ci ai bi ii fl)), .val (.int (v_cand ci ai bi ii fi fl)), .unset] [])) t → Steps p.tables e below (s₁.setTop (entryFrame m #[(.int ci), (.int ai), (.int bi), (.int ii), (.int fi), (.int fl)] maxLocals)) t := by
    intro t k
    refine pre75 t ?_
    have k : ∀ (v1 : Int32), v1 = (if (v_py ci ai bi ii fl) = true then (if (v_y ci ai bi fl) < (v_from ci fi) then (v_c0 ci ai bi ii fi fl) else (if (v_c0 ci ai bi ii fi fl) = (-1 : Int32) then (v_y ci ai bi fl) else (if (v_y ci ai bi fl) < (v_c0 ci ai bi ii fi fl) then (v_y ci ai bi fl) else (v_c0 ci ai bi ii fi fl)))) else (v_c0 ci ai bi ii fi fl)) → Steps p.tables e below (T32.setTop (mkF m 347 #[.val (.int ci), .val (.int ai), .val (.int bi), .val (.int ii), .val (.int fi), .val (.int fl), .val (.int (v_cap ci)), .val (.int (v_x ci ai)), .val (.int (v_y ci ai bi fl)), .val (.int (v_sel fl)), .val (.int (v_r ci ai bi ii fl)), .val (.int (b2i (v_aA fl))), .val (.int (b2i (v_aB fl))), .val (.int (v_from ci fi)), .val (.ref b15), .val (.int (b2i (v_was ci ai bi ii fl))), .val (.int (b2i (v_px ci ai bi ii fl))), .val (.int (b2i (v_py ci ai bi ii fl))), .val (.int (v_n ci ai bi ii fl)), .val (.int v1), .unset] [])) t := fun v1 hv1 => by subst hv1; exact k
    have nd77 : (∀ (v1 : Int32), v1 = (v_c0 ci ai bi ii fi fl) → Steps p.tables e below (T32.setTop (mkF m 347 #[.val (.int ci), .val (.int ai), .val (.int bi), .val (.int ii), .val (.int fi), .val (.int fl), .val (.int (v_cap ci)), .val (.int (v_x ci ai)), .val (.int (v_y ci ai bi fl)), .val (.int (v_sel fl)), .val (.int (v_r ci ai bi ii fl)), .val (.int (b2i (v_aA fl))), .val (.int (b2i (v_aB fl))), .val (.int (v_from ci fi)), .val (.ref b15), .val (.int (b2i (v_was ci ai bi ii fl))), .val (.int (b2i (v_px ci ai bi ii fl))), .val (.int (b2i (v_py ci ai bi ii fl))), .val (.int (v_n ci ai bi ii fl)), .val (.int v1), .unset] [])) t) → Steps p.tables e below (T32.setTop (mkF m 347 #[.val (.int ci), .val (.int ai), .val (.int bi), .val (.int ii), .val (.int fi), .val (.int fl), .val (.int (v_cap ci)), .val (.int (v_x ci ai)), .val (.int (v_y ci ai bi fl)), .val (.int (v_sel fl)), .val (.int (v_r ci ai bi ii fl)), .val (.int (b2i (v_aA fl))), .val (.int (b2i (v_aB fl))), .val (.int (v_from ci fi)), .val (.ref b15), .val (.int (b2i (v_was ci ai bi ii fl))), .val (.int (b2i (v_px ci ai bi ii fl))), .val (.int (b2i (v_py ci ai bi ii fl))), .val (.int (v_n ci ai bi ii fl)), .val (.int (v_c0 ci ai bi ii fi fl)), .unset] [])) t := by
      intro k
      exact k _ rfl
    have nd78 : (∀ (v1 : Int32), v1 = (v_y ci ai bi fl) → Steps p.tables e below (T32.setTop (mkF m 347 #[.val (.int ci), .val (.int ai), .val (.int bi), .val (.int ii), .val (.int fi), .val (.int fl), .val (.int (v_cap ci)), .val (.int (v_x ci ai)), .val (.int (v_y ci ai bi fl)), .val (.int (v_sel fl)), .val (.int (v_r ci ai bi ii fl)), .val (.int (b2i (v_aA fl))), .val (.int (b2i (v_aB fl))), .val (.int (v_from ci fi)), .val (.ref b15), .val (.int (b2i (v_was ci ai bi ii fl))), .val (.int (b2i (v_px ci ai bi ii fl))), .val (.int (b2i (v_py ci ai bi ii fl))), .val (.int (v_n ci ai bi ii fl)), .val (.int v1), .unset] [])) t) → Steps p.tables e below (T32.setTop (mkF m 343 #[.val (.int ci), .val (.int ai), .val (.int bi), .val (.int ii), .val (.int fi), .val (.int fl), .val (.int (v_cap ci)), .val (.int (v_x ci ai)), .val (.int (v_y ci ai bi fl)), .val (.int (v_sel fl)), .val (.int (v_r ci ai bi ii fl)), .val (.int (b2i (v_aA fl))), .val (.int (b2i (v_aB fl))), .val (.int (v_from ci fi)), .val (.ref b15), .val (.int (b2i (v_was ci ai bi ii fl))), .val (.int (b2i (v_px ci ai bi ii fl))), .val (.int (b2i (v_py ci ai bi ii fl))), .val (.int (v_n ci ai bi ii fl)), .val (.int (v_c0 ci ai bi ii fi fl)), .unset] [])) t := by
      intro k
      show Steps p.tables e below (T32.setTop (mkF m 343 #[.val (.int ci), .val (.int ai), .val (.int bi), .val (.int ii), .val (.int fi), .val (.int fl), .val (.int (v_cap ci)), .val (.int (v_x ci ai)), .val (.int (v_y ci ai bi fl)), .val (.int (v_sel fl)), .val (.int (v_r ci ai bi ii fl)), .val (.int (b2i (v_aA fl))), .val (.int (b2i (v_aB fl))), .val (.int (v_from ci fi)), .val (.ref b15), .val (.int (b2i (v_was ci ai bi ii fl))), .val (.int (b2i (v_px ci ai bi ii fl))), .val (.int (b2i (v_py ci ai bi ii fl))), .val (.int (v_n ci ai bi ii fl)), .val (.int (v_c0 ci ai bi ii fi fl)), .unset] [])) _
      refine XS.iload X32.here hx rfl (hb hby at_343) rfl ?_
      show Steps p.tables e below (T32.setTop (mkF m 345 #[.val (.int ci), .val (.int ai), .val (.int bi), .val (.int ii), .val (.int fi), .val (.int fl), .val (.int (v_cap ci)), .val (.int (v_x ci ai)), .val (.int (v_y ci ai bi fl)), .val (.int (v_sel fl)), .val (.int (v_r ci ai bi ii fl)), .val (.int (b2i (v_aA fl))), .val (.int (b2i (v_aB fl))), .val (.int (v_from ci fi)), .val (.ref b15), .val (.int (b2i (v_was ci ai bi ii fl))), .val (.int (b2i (v_px ci ai bi ii fl))), .val (.int (b2i (v_py ci ai bi ii fl))), .val (.int (v_n ci ai bi ii fl)), .val (.int (v_c0 ci ai bi ii fi fl)), .unset] [(.int (v_y ci ai bi fl))])) _
      refine XS.istore X32.here hx rfl (hb hby at_345) rfl (l' := #[.val (.int ci), .val (.int ai), .val (.int bi), .val (.int ii), .val (.int fi), .val (.int fl), .val (.int (v_cap ci)), .val (.int (v_x ci ai)), .val (.int (v_y ci ai bi fl)), .val (.int (v_sel fl)), .val (.int (v_r ci ai bi ii fl)), .val (.int (b2i (v_aA fl))), .val (.int (b2i (v_aB fl))), .val (.int (v_from ci fi)), .val (.ref b15), .val (.int (b2i (v_was ci ai bi ii fl))), .val (.int (b2i (v_px ci ai bi ii fl))), .val (.int (b2i (v_py ci ai bi ii fl))), .val (.int (v_n ci ai bi ii fl)), .val (.int (v_y ci ai bi fl)), .unset]) rfl ?_
      exact k _ rfl
    show Steps p.tables e below (T32.setTop (mkF m 320 #[.val (.int ci), .val (.int ai), .val (.int bi), .val (.int ii), .val (.int fi), .val (.int fl), .val (.int (v_cap ci)), .val (.int (v_x ci ai)), .val (.int (v_y ci ai bi fl)), .val (.int (v_sel fl)), .val (.int (v_r ci ai bi ii fl)), .val (.int (b2i (v_aA fl))), .val (.int (b2i (v_aB fl))), .val (.int (v_from ci fi)), .val (.ref b15), .val (.int (b2i (v_was ci ai bi ii fl))), .val (.int (b2i (v_px ci ai bi ii fl))), .val (.int (b2i (v_py ci ai bi ii fl))), .val (.int (v_n ci ai bi ii fl)), .val (.int (v_c0 ci ai bi ii fi fl)), .unset] [(.int (b2i (v_py ci ai bi ii fl)))])) _
    by_cases hc79 : (v_py ci ai bi ii fl) = true
    · refine XS.ifNo X32.here hx rfl (hb hby at_320) rfl ((if0 _ _).trans (feq (b2i_ne hc79)).1) ?_
      have k : ∀ (v1 : Int32), v1 = (if (v_y ci ai bi fl) < (v_from ci fi) then (v_c0 ci ai bi ii fi fl) else (if (v_c0 ci ai bi ii fi fl) = (-1 : Int32) then (v_y ci ai bi fl) else (if (v_y ci ai bi fl) < (v_c0 ci ai bi ii fi fl) then (v_y ci ai bi fl) else (v_c0 ci ai bi ii fi fl)))) → Steps p.tables e below (T32.setTop (mkF m 347 #[.val (.int ci), .val (.int ai), .val (.int bi), .val (.int ii), .val (.int fi), .val (.int fl), .val (.int (v_cap ci)), .val (.int (v_x ci ai)), .val (.int (v_y ci ai bi fl)), .val (.int (v_sel fl)), .val (.int (v_r ci ai bi ii fl)), .val (.int (b2i (v_aA fl))), .val (.int (b2i (v_aB fl))), .val (.int (v_from ci fi)), .val (.ref b15), .val (.int (b2i (v_was ci ai bi ii fl))), .val (.int (b2i (v_px ci ai bi ii fl))), .val (.int (b2i (v_py ci ai bi ii fl))), .val (.int (v_n ci ai bi ii fl)), .val (.int v1), .unset] [])) t := fun v1 hv1 => k v1 (hv1.trans (if_pos hc79).symm)
      show Steps p.tables e below (T32.setTop (mkF m 323 #[.val (.int ci), .val (.int ai), .val (.int bi), .val (.int ii), .val (.int fi), .val (.int fl), .val (.int (v_cap ci)), .val (.int (v_x ci ai)), .val (.int (v_y ci ai bi fl)), .val (.int (v_sel fl)), .val (.int (v_r ci ai bi ii fl)), .val (.int (b2i (v_aA fl))), .val (.int (b2i (v_aB fl))), .val (.int (v_from ci fi)), .val (.ref b15), .val (.int (b2i (v_was ci ai bi ii fl))), .val (.int (b2i (v_px ci ai bi ii fl))), .val (.int (b2i (v_py ci ai bi ii fl))), .val (.int (v_n ci ai bi ii fl)), .val (.int (v_c0 ci ai bi ii fi fl)), .unset] [])) _
      refine XS.iload X32.here hx rfl (hb hby at_323) rfl ?_
      show Steps p.tables e below (T32.setTop (mkF m 325 #[.val (.int ci), .val (.int ai), .val (.int bi), .val (.int ii), .val (.int fi), .val (.int fl), .val (.int (v_cap ci)), .val (.int (v_x ci ai)), .val (.int (v_y ci ai bi fl)), .val (.int (v_sel fl)), .val (.int (v_r ci ai bi ii fl)), .val (.int (b2i (v_aA fl))), .val (.int (b2i (v_aB fl))), .val (.int (v_from ci fi)), .val (.ref b15), .val (.int (b2i (v_was ci ai bi ii fl))), .val (.int (b2i (v_px ci ai bi ii fl))), .val (.int (b2i (v_py ci ai bi ii fl))), .val (.int (v_n ci ai bi ii fl)), .val (.int (v_c0 ci ai bi ii fi fl)), .unset] [(.int (v_y ci ai bi fl))])) _
      refine XS.iload X32.here hx rfl (hb hby at_325) rfl ?_
      show Steps p.tables e below (T32.setTop (mkF m 327 #[.val (.int ci), .val (.int ai), .val (.int bi), .val (.int ii), .val (.int fi), .val (.int fl), .val (.int (v_cap ci)), .val (.int (v_x ci ai)), .val (.int (v_y ci ai bi fl)), .val (.int (v_sel fl)), .val (.int (v_r ci ai bi ii fl)), .val (.int (b2i (v_aA fl))), .val (.int (b2i (v_aB fl))), .val (.int (v_from ci fi)), .val (.ref b15), .val (.int (b2i (v_was ci ai bi ii fl))), .val (.int (b2i (v_px ci ai bi ii fl))), .val (.int (b2i (v_py ci ai bi ii fl))), .val (.int (v_n ci ai bi ii fl)), .val (.int (v_c0 ci ai bi ii fi fl)), .unset] [(.int (v_from ci fi)), (.int (v_y ci ai bi fl))])) _
      by_cases hc80 : (v_y ci ai bi fl) < (v_from ci fi)
      · refine XS.icmpYes X32.here hx rfl (pc0 := 327) (pc' := 347) rfl (hb hby at_327) rfl (tlt hc80).1 (by decide) (by decide) ?_
        have k : ∀ (v1 : Int32), v1 = (v_c0 ci ai bi ii fi fl) → Steps p.tables e below (T32.setTop (mkF m 347 #[.val (.int ci), .val (.int ai), .val (.int bi), .val (.int ii), .val (.int fi), .val (.int fl), .val (.int (v_cap ci)), .val (.int (v_x ci ai)), .val (.int (v_y ci ai bi fl)), .val (.int (v_sel fl)), .val (.int (v_r ci ai bi ii fl)), .val (.int (b2i (v_aA fl))), .val (.int (b2i (v_aB fl))), .val (.int (v_from ci fi)), .val (.ref b15), .val (.int (b2i (v_was ci ai bi ii fl))), .val (.int (b2i (v_px ci ai bi ii fl))), .val (.int (b2i (v_py ci ai bi ii fl))), .val (.int (v_n ci ai bi ii fl)), .val (.int v1), .unset] [])) t := fun v1 hv1 => k v1 (hv1.trans (if_pos hc80).symm)
        exact nd77 k
      · refine XS.icmpNo X32.here hx rfl (hb hby at_327) rfl (flt hc80).1 ?_
        have k : ∀ (v1 : Int32), v1 = (if (v_c0 ci ai bi ii fi fl) = (-1 : Int32) then (v_y ci ai bi fl) else (if (v_y ci ai bi fl) < (v_c0 ci ai bi ii fi fl) then (v_y ci ai bi fl) else (v_c0 ci ai bi ii fi fl))) → Steps p.tables e below (T32.setTop (mkF m 347 #[.val (.int ci), .val (.int ai), .val (.int bi), .val (.int ii), .val (.int fi), .val (.int fl), .val (.int (v_cap ci)), .val (.int (v_x ci ai)), .val (.int (v_y ci ai bi fl)), .val (.int (v_sel fl)), .val (.int (v_r ci ai bi ii fl)), .val (.int (b2i (v_aA fl))), .val (.int (b2i (v_aB fl))), .val (.int (v_from ci fi)), .val (.ref b15), .val (.int (b2i (v_was ci ai bi ii fl))), .val (.int (b2i (v_px ci ai bi ii fl))), .val (.int (b2i (v_py ci ai bi ii fl))), .val (.int (v_n ci ai bi ii fl)), .val (.int v1), .unset] [])) t := fun v1 hv1 => k v1 (hv1.trans (if_neg hc80).symm)
        show Steps p.tables e below (T32.setTop (mkF m 330 #[.val (.int ci), .val (.int ai), .val (.int bi), .val (.int ii), .val (.int fi), .val (.int fl), .val (.int (v_cap ci)), .val (.int (v_x ci ai)), .val (.int (v_y ci ai bi fl)), .val (.int (v_sel fl)), .val (.int (v_r ci ai bi ii fl)), .val (.int (b2i (v_aA fl))), .val (.int (b2i (v_aB fl))), .val (.int (v_from ci fi)), .val (.ref b15), .val (.int (b2i (v_was ci ai bi ii fl))), .val (.int (b2i (v_px ci ai bi ii fl))), .val (.int (b2i (v_py ci ai bi ii fl))), .val (.int (v_n ci ai bi ii fl)), .val (.int (v_c0 ci ai bi ii fi fl)), .unset] [])) _
        refine XS.iload X32.here hx rfl (hb hby at_330) rfl ?_
        show Steps p.tables e below (T32.setTop (mkF m 332 #[.val (.int ci), .val (.int ai), .val (.int bi), .val (.int ii), .val (.int fi), .val (.int fl), .val (.int (v_cap ci)), .val (.int (v_x ci ai)), .val (.int (v_y ci ai bi fl)), .val (.int (v_sel fl)), .val (.int (v_r ci ai bi ii fl)), .val (.int (b2i (v_aA fl))), .val (.int (b2i (v_aB fl))), .val (.int (v_from ci fi)), .val (.ref b15), .val (.int (b2i (v_was ci ai bi ii fl))), .val (.int (b2i (v_px ci ai bi ii fl))), .val (.int (b2i (v_py ci ai bi ii fl))), .val (.int (v_n ci ai bi ii fl)), .val (.int (v_c0 ci ai bi ii fi fl)), .unset] [(.int (v_c0 ci ai bi ii fi fl))])) _
        refine XS.iconst X32.here hx rfl (hb hby at_332) ?_
        show Steps p.tables e below (T32.setTop (mkF m 333 #[.val (.int ci), .val (.int ai), .val (.int bi), .val (.int ii), .val (.int fi), .val (.int fl), .val (.int (v_cap ci)), .val (.int (v_x ci ai)), .val (.int (v_y ci ai bi fl)), .val (.int (v_sel fl)), .val (.int (v_r ci ai bi ii fl)), .val (.int (b2i (v_aA fl))), .val (.int (b2i (v_aB fl))), .val (.int (v_from ci fi)), .val (.ref b15), .val (.int (b2i (v_was ci ai bi ii fl))), .val (.int (b2i (v_px ci ai bi ii fl))), .val (.int (b2i (v_py ci ai bi ii fl))), .val (.int (v_n ci ai bi ii fl)), .val (.int (v_c0 ci ai bi ii fi fl)), .unset] [(.int (-1 : Int32)), (.int (v_c0 ci ai bi ii fi fl))])) _
        by_cases hc81 : (v_c0 ci ai bi ii fi fl) = (-1 : Int32)
        · refine XS.icmpYes X32.here hx rfl (pc0 := 333) (pc' := 343) rfl (hb hby at_333) rfl (teq hc81).1 (by decide) (by decide) ?_
          have k : ∀ (v1 : Int32), v1 = (v_y ci ai bi fl) → Steps p.tables e below (T32.setTop (mkF m 347 #[.val (.int ci), .val (.int ai), .val (.int bi), .val (.int ii), .val (.int fi), .val (.int fl), .val (.int (v_cap ci)), .val (.int (v_x ci ai)), .val (.int (v_y ci ai bi fl)), .val (.int (v_sel fl)), .val (.int (v_r ci ai bi ii fl)), .val (.int (b2i (v_aA fl))), .val (.int (b2i (v_aB fl))), .val (.int (v_from ci fi)), .val (.ref b15), .val (.int (b2i (v_was ci ai bi ii fl))), .val (.int (b2i (v_px ci ai bi ii fl))), .val (.int (b2i (v_py ci ai bi ii fl))), .val (.int (v_n ci ai bi ii fl)), .val (.int v1), .unset] [])) t := fun v1 hv1 => k v1 (hv1.trans (if_pos hc81).symm)
          exact nd78 k
        · refine XS.icmpNo X32.here hx rfl (hb hby at_333) rfl (feq hc81).1 ?_
          have k : ∀ (v1 : Int32), v1 = (if (v_y ci ai bi fl) < (v_c0 ci ai bi ii fi fl) then (v_y ci ai bi fl) else (v_c0 ci ai bi ii fi fl)) → Steps p.tables e below (T32.setTop (mkF m 347 #[.val (.int ci), .val (.int ai), .val (.int bi), .val (.int ii), .val (.int fi), .val (.int fl), .val (.int (v_cap ci)), .val (.int (v_x ci ai)), .val (.int (v_y ci ai bi fl)), .val (.int (v_sel fl)), .val (.int (v_r ci ai bi ii fl)), .val (.int (b2i (v_aA fl))), .val (.int (b2i (v_aB fl))), .val (.int (v_from ci fi)), .val (.ref b15), .val (.int (b2i (v_was ci ai bi ii fl))), .val (.int (b2i (v_px ci ai bi ii fl))), .val (.int (b2i (v_py ci ai bi ii fl))), .val (.int (v_n ci ai bi ii fl)), .val (.int v1), .unset] [])) t := fun v1 hv1 => k v1 (hv1.trans (if_neg hc81).symm)
          show Steps p.tables e below (T32.setTop (mkF m 336 #[.val (.int ci), .val (.int ai), .val (.int bi), .val (.int ii), .val (.int fi), .val (.int fl), .val (.int (v_cap ci)), .val (.int (v_x ci ai)), .val (.int (v_y ci ai bi fl)), .val (.int (v_sel fl)), .val (.int (v_r ci ai bi ii fl)), .val (.int (b2i (v_aA fl))), .val (.int (b2i (v_aB fl))), .val (.int (v_from ci fi)), .val (.ref b15), .val (.int (b2i (v_was ci ai bi ii fl))), .val (.int (b2i (v_px ci ai bi ii fl))), .val (.int (b2i (v_py ci ai bi ii fl))), .val (.int (v_n ci ai bi ii fl)), .val (.int (v_c0 ci ai bi ii fi fl)), .unset] [])) _
          refine XS.iload X32.here hx rfl (hb hby at_336) rfl ?_
          show Steps p.tables e below (T32.setTop (mkF m 338 #[.val (.int ci), .val (.int ai), .val (.int bi), .val (.int ii), .val (.int fi), .val (.int fl), .val (.int (v_cap ci)), .val (.int (v_x ci ai)), .val (.int (v_y ci ai bi fl)), .val (.int (v_sel fl)), .val (.int (v_r ci ai bi ii fl)), .val (.int (b2i (v_aA fl))), .val (.int (b2i (v_aB fl))), .val (.int (v_from ci fi)), .val (.ref b15), .val (.int (b2i (v_was ci ai bi ii fl))), .val (.int (b2i (v_px ci ai bi ii fl))), .val (.int (b2i (v_py ci ai bi ii fl))), .val (.int (v_n ci ai bi ii fl)), .val (.int (v_c0 ci ai bi ii fi fl)), .unset] [(.int (v_y ci ai bi fl))])) _
          refine XS.iload X32.here hx rfl (hb hby at_338) rfl ?_
          show Steps p.tables e below (T32.setTop (mkF m 340 #[.val (.int ci), .val (.int ai), .val (.int bi), .val (.int ii), .val (.int fi), .val (.int fl), .val (.int (v_cap ci)), .val (.int (v_x ci ai)), .val (.int (v_y ci ai bi fl)), .val (.int (v_sel fl)), .val (.int (v_r ci ai bi ii fl)), .val (.int (b2i (v_aA fl))), .val (.int (b2i (v_aB fl))), .val (.int (v_from ci fi)), .val (.ref b15), .val (.int (b2i (v_was ci ai bi ii fl))), .val (.int (b2i (v_px ci ai bi ii fl))), .val (.int (b2i (v_py ci ai bi ii fl))), .val (.int (v_n ci ai bi ii fl)), .val (.int (v_c0 ci ai bi ii fi fl)), .unset] [(.int (v_c0 ci ai bi ii fi fl)), (.int (v_y ci ai bi fl))])) _
          by_cases hc82 : (v_y ci ai bi fl) < (v_c0 ci ai bi ii fi fl)
          · refine XS.icmpNo X32.here hx rfl (hb hby at_340) rfl (tlt hc82).2.1 ?_
            have k : ∀ (v1 : Int32), v1 = (v_y ci ai bi fl) → Steps p.tables e below (T32.setTop (mkF m 347 #[.val (.int ci), .val (.int ai), .val (.int bi), .val (.int ii), .val (.int fi), .val (.int fl), .val (.int (v_cap ci)), .val (.int (v_x ci ai)), .val (.int (v_y ci ai bi fl)), .val (.int (v_sel fl)), .val (.int (v_r ci ai bi ii fl)), .val (.int (b2i (v_aA fl))), .val (.int (b2i (v_aB fl))), .val (.int (v_from ci fi)), .val (.ref b15), .val (.int (b2i (v_was ci ai bi ii fl))), .val (.int (b2i (v_px ci ai bi ii fl))), .val (.int (b2i (v_py ci ai bi ii fl))), .val (.int (v_n ci ai bi ii fl)), .val (.int v1), .unset] [])) t := fun v1 hv1 => k v1 (hv1.trans (if_pos hc82).symm)
            exact nd78 k
          · refine XS.icmpYes X32.here hx rfl (pc0 := 340) (pc' := 347) rfl (hb hby at_340) rfl (flt hc82).2.1 (by decide) (by decide) ?_
            have k : ∀ (v1 : Int32), v1 = (v_c0 ci ai bi ii fi fl) → Steps p.tables e below (T32.setTop (mkF m 347 #[.val (.int ci), .val (.int ai), .val (.int bi), .val (.int ii), .val (.int fi), .val (.int fl), .val (.int (v_cap ci)), .val (.int (v_x ci ai)), .val (.int (v_y ci ai bi fl)), .val (.int (v_sel fl)), .val (.int (v_r ci ai bi ii fl)), .val (.int (b2i (v_aA fl))), .val (.int (b2i (v_aB fl))), .val (.int (v_from ci fi)), .val (.ref b15), .val (.int (b2i (v_was ci ai bi ii fl))), .val (.int (b2i (v_px ci ai bi ii fl))), .val (.int (b2i (v_py ci ai bi ii fl))), .val (.int (v_n ci ai bi ii fl)), .val (.int v1), .unset] [])) t := fun v1 hv1 => k v1 (hv1.trans (if_neg hc82).symm)
            exact nd77 k
    · refine XS.ifYes X32.here hx rfl (pc0 := 320) (pc' := 347) rfl (hb hby at_320) rfl ((if0 _ _).trans (teq (b2i_eq hc79)).1) (by decide) (by decide) ?_
      have k : ∀ (v1 : Int32), v1 = (v_c0 ci ai bi ii fi fl) → Steps p.tables e below (T32.setTop (mkF m 347 #[.val (.int ci), .val (.int ai), .val (.int bi), .val (.int ii), .val (.int fi), .val (.int fl), .val (.int (v_cap ci)), .val (.int (v_x ci ai)), .val (.int (v_y ci ai bi fl)), .val (.int (v_sel fl)), .val (.int (v_r ci ai bi ii fl)), .val (.int (b2i (v_aA fl))), .val (.int (b2i (v_aB fl))), .val (.int (v_from ci fi)), .val (.ref b15), .val (.int (b2i (v_was ci ai bi ii fl))), .val (.int (b2i (v_px ci ai bi ii fl))), .val (.int (b2i (v_py ci ai bi ii fl))), .val (.int (v_n ci ai bi ii fl)), .val (.int v1), .unset] [])) t := fun v1 hv1 => k v1 (hv1.trans (if_neg hc79).symm)
      exact nd77 k
  obtain ⟨cq83, kq83, q83a, q83b, q83c⟩ := isOf hZ e32 k33_0
  obtain ⟨_, _, ⟨T83, L83, k83, n83⟩, -, X83, ⟨Lc83, hQ83, l83, y83, z83⟩, st83⟩ := X32.virtualBack hx (y := (⟨"com/example/cutline/cutline/IndexSet", "remove", "(I)Z"⟩ : MethodName)) (z := (⟨"com/example/cutline/cutline/IndexSet", "remove", "(I)Z"⟩ : MethodName)) hown (mvT hZ (hw _ (List.mem_of_getElem? (i := 17) rfl))) (mvT hZ (hw _ (List.mem_of_getElem? (i := 18) rfl))) (notFace_of_selects (args := #[]) (mvT hZ (hw _ (List.mem_of_getElem? (i := 20) rfl)))) (mvT hZ (hw _ (List.mem_of_getElem? (i := 20) rfl))) (mvT hZ (hw _ (List.mem_of_getElem? (i := 19) rfl))) (by decide) (backOf (W := 0) (rm3 l Z a0 hw [] b15 (v_r ci ai bi ii fl) aw16 au16 (v_cap ci) (v_sB ci ai bi fl) (own_nw (v_cap ci)) (v_wB ci ai bi fl) (own_nw (own_nw (v_cap ci))) (v_uB ci ai bi fl) hh32 n0 k33_sz ⟨k33_0, k33_1, k33_2, k33_3, k33_4, k33_5, k33_6, k33_g_ob, k33_g_aw, k33_g_au, k33_n_ob_aw, k33_n_ob_au, k33_n_aw_au, k33_sz⟩ (own_in _ _ (own_vr ci ai bi ii fl) (own_vcap ci)).1 (own_in _ _ (own_vr ci ai bi ii fl) (own_vcap ci)).2) hZ (hw _ (List.mem_of_getElem? (i := 21) rfl)) (hw _ (List.mem_of_getElem? (i := 3) rfl)) (by decide) (by decide)) q83a q83c (g := (mkF m 351 #[.val (.int ci), .val (.int ai), .val (.int bi), .val (.int ii), .val (.int fi), .val (.int fl), .val (.int (v_cap ci)), .val (.int (v_x ci ai)), .val (.int (v_y ci ai bi fl)), .val (.int (v_sel fl)), .val (.int (v_r ci ai bi ii fl)), .val (.int (b2i (v_aA fl))), .val (.int (b2i (v_aB fl))), .val (.int (v_from ci fi)), .val (.ref b15), .val (.int (b2i (v_was ci ai bi ii fl))), .val (.int (b2i (v_px ci ai bi ii fl))), .val (.int (b2i (v_py ci ai bi ii fl))), .val (.int (v_n ci ai bi ii fl)), .val (.int (v_cand ci ai bi ii fi fl)), .unset] [(.int (v_r ci ai bi ii fl)), (.ref b15)])) rfl (by rw [hml]; rfl) (Steps.refl _) (argsL := [(.int (v_r ci ai bi ii fl))]) (rest := []) (lenOf pd_2 rfl) rfl (by show 2 * 0 + _ ≤ _; exact Nat.le_of_eq rfl) (hb hby at_351) (fun _ _ => ⟨rfl, e32, (by decide : 3 + 0 ≤ _), (by decide : 264 + 0 ≤ _)⟩)
  dsimp only [Pt.U, Pt.locs, Pt.cells, Pt.slots] at X83 l83 y83 z83 st83 hQ83
  subst y83 z83
  obtain ⟨rfl, N83q, I83⟩ := hQ83
  obtain ⟨k84_0, k84_1, k84_2, k84_3, k84_4, k84_5, k84_6, k84_g_ob, k84_g_aw, k84_g_au, k84_n_ob_aw, k84_n_ob_au, k84_n_aw_au, k84_sz⟩ := I83
  have N83 : Fr n0 L83 := by rw [l83]; exact Fr.app N32 N83q
  obtain ⟨cq85, kq85, q85a, q85b, q85c⟩ := isOf hZ rfl k84_0
  obtain ⟨_, _, ⟨T85, L85, k85, n85⟩, -, X85, ⟨Lc85, hQ85, l85, y85, z85⟩, st85⟩ := X83.virtualBack hx (y := (⟨"com/example/cutline/cutline/IndexSet", "size", "()I"⟩ : MethodName)) (z := (⟨"com/example/cutline/cutline/IndexSet", "size", "()I"⟩ : MethodName)) hown (mvT hZ (hw _ (List.mem_of_getElem? (i := 22) rfl))) (mvT hZ (hw _ (List.mem_of_getElem? (i := 23) rfl))) (notFace_of_selects (args := #[]) (mvT hZ (hw _ (List.mem_of_getElem? (i := 25) rfl)))) (mvT hZ (hw _ (List.mem_of_getElem? (i := 25) rfl))) (mvT hZ (hw _ (List.mem_of_getElem? (i := 24) rfl))) (by decide) (backOf (W := 0) (rm4 l Z a0 hw [] b15 aw16 au16 (v_cap ci) (v_sC ci ai bi ii fl) (own_nw (v_cap ci)) (v_wC ci ai bi ii fl) (own_nw (own_nw (v_cap ci))) (v_uC ci ai bi ii fl) T83.heap n0 k84_sz ⟨k84_0, k84_1, k84_2, k84_3, k84_4, k84_5, k84_6, k84_g_ob, k84_g_aw, k84_g_au, k84_n_ob_aw, k84_n_ob_au, k84_n_aw_au, k84_sz⟩) hZ (hw _ (List.mem_of_getElem? (i := 26) rfl)) (hw _ (List.mem_of_getElem? (i := 3) rfl)) (by decide) (by decide)) q85a q85c (g := (mkF m 367 #[.val (.int ci), .val (.int ai), .val (.int bi), .val (.int ii), .val (.int fi), .val (.int fl), .val (.int (v_cap ci)), .val (.int (v_x ci ai)), .val (.int (v_y ci ai bi fl)), .val (.int (v_sel fl)), .val (.int (v_r ci ai bi ii fl)), .val (.int (b2i (v_aA fl))), .val (.int (b2i (v_aB fl))), .val (.int (v_from ci fi)), .val (.ref b15), .val (.int (b2i (v_was ci ai bi ii fl))), .val (.int (b2i (v_px ci ai bi ii fl))), .val (.int (b2i (v_py ci ai bi ii fl))), .val (.int (v_n ci ai bi ii fl)), .val (.int (v_cand ci ai bi ii fi fl)), .val (.int (b2i (v_ret ci ai bi ii fl)))] [(.ref b15)])) rfl (by rw [hml]; rfl) (Steps.refl _) (argsL := []) (rest := []) (lenOf pd_3 rfl) rfl (by show 2 * 0 + _ ≤ _; exact Nat.le_of_eq rfl) (hb hby at_367) (fun _ _ => ⟨rfl, rfl, (by decide : 3 + 0 ≤ _), (by decide : 264 + 0 ≤ _)⟩)
  dsimp only [Pt.U, Pt.locs, Pt.cells, Pt.slots] at X85 l85 y85 z85 st85 hQ85
  subst y85 z85
  obtain ⟨rfl, N85q, e85⟩ := hQ85
  have N85 : Fr n0 L85 := by rw [l85]; exact Fr.app N83 N85q
  obtain ⟨cq86, kq86, q86a, q86b, q86c⟩ := isOf hZ e85 k84_0
  obtain ⟨_, _, ⟨T86, L86, k86, n86⟩, -, X86, ⟨Lc86, hQ86, l86, y86, z86⟩, st86⟩ := X85.virtualBack hx (y := (⟨"com/example/cutline/cutline/IndexSet", "contains", "(I)Z"⟩ : MethodName)) (z := (⟨"com/example/cutline/cutline/IndexSet", "contains", "(I)Z"⟩ : MethodName)) hown (mvT hZ (hw _ (List.mem_of_getElem? (i := 29) rfl))) (mvT hZ (hw _ (List.mem_of_getElem? (i := 30) rfl))) (notFace_of_selects (args := #[]) (mvT hZ (hw _ (List.mem_of_getElem? (i := 32) rfl)))) (mvT hZ (hw _ (List.mem_of_getElem? (i := 32) rfl))) (mvT hZ (hw _ (List.mem_of_getElem? (i := 31) rfl))) (by decide) (backOf (W := 0) (rm5 l Z a0 hw [] b15 (v_r ci ai bi ii fl) aw16 au16 (v_cap ci) (v_sC ci ai bi ii fl) (own_nw (v_cap ci)) (v_wC ci ai bi ii fl) (own_nw (own_nw (v_cap ci))) (v_uC ci ai bi ii fl) T83.heap n0 k84_sz ⟨k84_0, k84_1, k84_2, k84_3, k84_4, k84_5, k84_6, k84_g_ob, k84_g_aw, k84_g_au, k84_n_ob_aw, k84_n_ob_au, k84_n_aw_au, k84_sz⟩ (own_in _ _ (own_vr ci ai bi ii fl) (own_vcap ci)).1) hZ (hw _ (List.mem_of_getElem? (i := 33) rfl)) (hw _ (List.mem_of_getElem? (i := 3) rfl)) (by decide) (by decide)) q86a q86c (g := (mkF m 381 #[.val (.int ci), .val (.int ai), .val (.int bi), .val (.int ii), .val (.int fi), .val (.int fl), .val (.int (v_cap ci)), .val (.int (v_x ci ai)), .val (.int (v_y ci ai bi fl)), .val (.int (v_sel fl)), .val (.int (v_r ci ai bi ii fl)), .val (.int (b2i (v_aA fl))), .val (.int (b2i (v_aB fl))), .val (.int (v_from ci fi)), .val (.ref b15), .val (.int (b2i (v_was ci ai bi ii fl))), .val (.int (b2i (v_px ci ai bi ii fl))), .val (.int (b2i (v_py ci ai bi ii fl))), .val (.int (v_n ci ai bi ii fl)), .val (.int (v_cand ci ai bi ii fi fl)), .val (.int (b2i (v_ret ci ai bi ii fl)))] [(.int (v_r ci ai bi ii fl)), (.ref b15)])) rfl (by rw [hml]; rfl) (Steps.refl _) (argsL := [(.int (v_r ci ai bi ii fl))]) (rest := []) (lenOf pd_2 rfl) rfl (by show 2 * 0 + _ ≤ _; exact Nat.le_of_eq rfl) (hb hby at_381) (fun _ _ => ⟨rfl, e85, (by decide : 3 + 0 ≤ _), (by decide : 264 + 0 ≤ _)⟩)
  dsimp only [Pt.U, Pt.locs, Pt.cells, Pt.slots] at X86 l86 y86 z86 st86 hQ86
  subst y86 z86
  obtain ⟨rfl, N86q, e86⟩ := hQ86
  have N86 : Fr n0 L86 := by rw [l86]; exact Fr.app N85 N86q
  obtain ⟨cq87, kq87, q87a, q87b, q87c⟩ := isOf hZ e86 k84_0
  obtain ⟨_, _, ⟨T87, L87, k87, n87⟩, -, X87, ⟨Lc87, hQ87, l87, y87, z87⟩, st87⟩ := X86.virtualBack hx (y := (⟨"com/example/cutline/cutline/IndexSet", "contains", "(I)Z"⟩ : MethodName)) (z := (⟨"com/example/cutline/cutline/IndexSet", "contains", "(I)Z"⟩ : MethodName)) hown (mvT hZ (hw _ (List.mem_of_getElem? (i := 29) rfl))) (mvT hZ (hw _ (List.mem_of_getElem? (i := 30) rfl))) (notFace_of_selects (args := #[]) (mvT hZ (hw _ (List.mem_of_getElem? (i := 32) rfl)))) (mvT hZ (hw _ (List.mem_of_getElem? (i := 32) rfl))) (mvT hZ (hw _ (List.mem_of_getElem? (i := 31) rfl))) (by decide) (backOf (W := 0) (rm5 l Z a0 hw [] b15 (v_x ci ai) aw16 au16 (v_cap ci) (v_sC ci ai bi ii fl) (own_nw (v_cap ci)) (v_wC ci ai bi ii fl) (own_nw (own_nw (v_cap ci))) (v_uC ci ai bi ii fl) T83.heap n0 k84_sz ⟨k84_0, k84_1, k84_2, k84_3, k84_4, k84_5, k84_6, k84_g_ob, k84_g_aw, k84_g_au, k84_n_ob_aw, k84_n_ob_au, k84_n_aw_au, k84_sz⟩ (own_in _ _ (own_vx ci ai) (own_vcap ci)).1) hZ (hw _ (List.mem_of_getElem? (i := 33) rfl)) (hw _ (List.mem_of_getElem? (i := 3) rfl)) (by decide) (by decide)) q87a q87c (g := (mkF m 393 #[.val (.int ci), .val (.int ai), .val (.int bi), .val (.int ii), .val (.int fi), .val (.int fl), .val (.int (v_cap ci)), .val (.int (v_x ci ai)), .val (.int (v_y ci ai bi fl)), .val (.int (v_sel fl)), .val (.int (v_r ci ai bi ii fl)), .val (.int (b2i (v_aA fl))), .val (.int (b2i (v_aB fl))), .val (.int (v_from ci fi)), .val (.ref b15), .val (.int (b2i (v_was ci ai bi ii fl))), .val (.int (b2i (v_px ci ai bi ii fl))), .val (.int (b2i (v_py ci ai bi ii fl))), .val (.int (v_n ci ai bi ii fl)), .val (.int (v_cand ci ai bi ii fi fl)), .val (.int (b2i (v_ret ci ai bi ii fl)))] [(.int (v_x ci ai)), (.ref b15)])) rfl (by rw [hml]; rfl) (Steps.refl _) (argsL := [(.int (v_x ci ai))]) (rest := []) (lenOf pd_2 rfl) rfl (by show 2 * 0 + _ ≤ _; exact Nat.le_of_eq rfl) (hb hby at_393) (fun _ _ => ⟨rfl, e86, (by decide : 3 + 0 ≤ _), (by decide : 264 + 0 ≤ _)⟩)
  dsimp only [Pt.U, Pt.locs, Pt.cells, Pt.slots] at X87 l87 y87 z87 st87 hQ87
  subst y87 z87
  obtain ⟨rfl, N87q, e87⟩ := hQ87
  have N87 : Fr n0 L87 := by rw [l87]; exact Fr.app N86 N87q
  obtain ⟨cq88, kq88, q88a, q88b, q88c⟩ := isOf hZ e87 k84_0
  obtain ⟨_, _, ⟨T88, L88, k88, n88⟩, -, X88, ⟨Lc88, hQ88, l88, y88, z88⟩, st88⟩ := X87.virtualBack hx (y := (⟨"com/example/cutline/cutline/IndexSet", "contains", "(I)Z"⟩ : MethodName)) (z := (⟨"com/example/cutline/cutline/IndexSet", "contains", "(I)Z"⟩ : MethodName)) hown (mvT hZ (hw _ (List.mem_of_getElem? (i := 29) rfl))) (mvT hZ (hw _ (List.mem_of_getElem? (i := 30) rfl))) (notFace_of_selects (args := #[]) (mvT hZ (hw _ (List.mem_of_getElem? (i := 32) rfl)))) (mvT hZ (hw _ (List.mem_of_getElem? (i := 32) rfl))) (mvT hZ (hw _ (List.mem_of_getElem? (i := 31) rfl))) (by decide) (backOf (W := 0) (rm5 l Z a0 hw [] b15 (v_y ci ai bi fl) aw16 au16 (v_cap ci) (v_sC ci ai bi ii fl) (own_nw (v_cap ci)) (v_wC ci ai bi ii fl) (own_nw (own_nw (v_cap ci))) (v_uC ci ai bi ii fl) T83.heap n0 k84_sz ⟨k84_0, k84_1, k84_2, k84_3, k84_4, k84_5, k84_6, k84_g_ob, k84_g_aw, k84_g_au, k84_n_ob_aw, k84_n_ob_au, k84_n_aw_au, k84_sz⟩ (own_in _ _ (own_vy ci ai bi fl) (own_vcap ci)).1) hZ (hw _ (List.mem_of_getElem? (i := 33) rfl)) (hw _ (List.mem_of_getElem? (i := 3) rfl)) (by decide) (by decide)) q88a q88c (g := (mkF m 407 #[.val (.int ci), .val (.int ai), .val (.int bi), .val (.int ii), .val (.int fi), .val (.int fl), .val (.int (v_cap ci)), .val (.int (v_x ci ai)), .val (.int (v_y ci ai bi fl)), .val (.int (v_sel fl)), .val (.int (v_r ci ai bi ii fl)), .val (.int (b2i (v_aA fl))), .val (.int (b2i (v_aB fl))), .val (.int (v_from ci fi)), .val (.ref b15), .val (.int (b2i (v_was ci ai bi ii fl))), .val (.int (b2i (v_px ci ai bi ii fl))), .val (.int (b2i (v_py ci ai bi ii fl))), .val (.int (v_n ci ai bi ii fl)), .val (.int (v_cand ci ai bi ii fi fl)), .val (.int (b2i (v_ret ci ai bi ii fl)))] [(.int (v_y ci ai bi fl)), (.ref b15)])) rfl (by rw [hml]; rfl) (Steps.refl _) (argsL := [(.int (v_y ci ai bi fl))]) (rest := []) (lenOf pd_2 rfl) rfl (by show 2 * 0 + _ ≤ _; exact Nat.le_of_eq rfl) (hb hby at_407) (fun _ _ => ⟨rfl, e87, (by decide : 3 + 0 ≤ _), (by decide : 264 + 0 ≤ _)⟩)
  dsimp only [Pt.U, Pt.locs, Pt.cells, Pt.slots] at X88 l88 y88 z88 st88 hQ88
  subst y88 z88
  obtain ⟨rfl, N88q, e88⟩ := hQ88
  have N88 : Fr n0 L88 := by rw [l88]; exact Fr.app N87 N88q
  obtain ⟨cq89, kq89, q89a, q89b, q89c⟩ := isOf hZ e88 k84_0
  obtain ⟨_, _, ⟨T89, L89, k89, n89⟩, -, X89, ⟨Lc89, hQ89, l89, y89, z89⟩, st89⟩ := X88.virtualBack hx (y := (⟨"com/example/cutline/cutline/IndexSet", "next", "(I)I"⟩ : MethodName)) (z := (⟨"com/example/cutline/cutline/IndexSet", "next", "(I)I"⟩ : MethodName)) hown (mvT hZ (hw _ (List.mem_of_getElem? (i := 34) rfl))) (mvT hZ (hw _ (List.mem_of_getElem? (i := 35) rfl))) (notFace_of_selects (args := #[]) (mvT hZ (hw _ (List.mem_of_getElem? (i := 37) rfl)))) (mvT hZ (hw _ (List.mem_of_getElem? (i := 37) rfl))) (mvT hZ (hw _ (List.mem_of_getElem? (i := 36) rfl))) (by decide) (backOf (W := 0) (rm6 l Z a0 hw [] b15 (v_from ci fi) aw16 au16 (v_cap ci) (v_sC ci ai bi ii fl) (own_nw (v_cap ci)) (v_wC ci ai bi ii fl) (own_nw (own_nw (v_cap ci))) (v_uC ci ai bi ii fl) T83.heap n0 k84_sz ⟨k84_0, k84_1, k84_2, k84_3, k84_4, k84_5, k84_6, k84_g_ob, k84_g_aw, k84_g_au, k84_n_ob_aw, k84_n_ob_au, k84_n_aw_au, k84_sz⟩ (own_np ci ai bi ii fi fl).1 (own_np ci ai bi ii fi fl).2.1 (own_np ci ai bi ii fi fl).2.2.1 (own_np ci ai bi ii fi fl).2.2.2.1 (own_np ci ai bi ii fi fl).2.2.2.2.1 (own_np ci ai bi ii fi fl).2.2.2.2.2.1 (own_np ci ai bi ii fi fl).2.2.2.2.2.2) hZ (hw _ (List.mem_of_getElem? (i := 38) rfl)) (hw _ (List.mem_of_getElem? (i := 3) rfl)) (by decide) (by decide)) q89a q89c (g := (mkF m 421 #[.val (.int ci), .val (.int ai), .val (.int bi), .val (.int ii), .val (.int fi), .val (.int fl), .val (.int (v_cap ci)), .val (.int (v_x ci ai)), .val (.int (v_y ci ai bi fl)), .val (.int (v_sel fl)), .val (.int (v_r ci ai bi ii fl)), .val (.int (b2i (v_aA fl))), .val (.int (b2i (v_aB fl))), .val (.int (v_from ci fi)), .val (.ref b15), .val (.int (b2i (v_was ci ai bi ii fl))), .val (.int (b2i (v_px ci ai bi ii fl))), .val (.int (b2i (v_py ci ai bi ii fl))), .val (.int (v_n ci ai bi ii fl)), .val (.int (v_cand ci ai bi ii fi fl)), .val (.int (b2i (v_ret ci ai bi ii fl)))] [(.int (v_from ci fi)), (.ref b15)])) rfl (by rw [hml]; rfl) (Steps.refl _) (argsL := [(.int (v_from ci fi))]) (rest := []) (lenOf pd_4 rfl) rfl (by show 2 * 0 + _ ≤ _; exact Nat.le_of_eq rfl) (hb hby at_421) (fun _ _ => ⟨rfl, e88, (by decide : 3 + 0 ≤ _), (by decide : 264 + 0 ≤ _)⟩)
  dsimp only [Pt.U, Pt.locs, Pt.cells, Pt.slots] at X89 l89 y89 z89 st89 hQ89
  subst y89 z89
  obtain ⟨rfl, N89q, e89⟩ := hQ89
  have N89 : Fr n0 L89 := by rw [l89]; exact Fr.app N88 N89q
  have pre90 : ∀ t, Steps p.tables e below (T89.setTop (mkF m 426 #[.val (.int ci), .val (.int ai), .val (.int bi), .val (.int ii), .val (.int fi), .val (.int fl), .val (.int (v_cap ci)), .val (.int (v_x ci ai)), .val (.int (v_y ci ai bi fl)), .val (.int (v_sel fl)), .val (.int (v_r ci ai bi ii fl)), .val (.int (b2i (v_aA fl))), .val (.int (b2i (v_aB fl))), .val (.int (v_from ci fi)), .val (.ref b15), .val (.int (b2i (v_was ci ai bi ii fl))), .val (.int (b2i (v_px ci ai bi ii fl))), .val (.int (b2i (v_py ci ai bi ii fl))), .val (.int (v_n ci ai bi ii fl)), .val (.int (v_cand ci ai bi ii fi fl)), .val (.int (b2i (v_ret ci ai bi ii fl)))] [(.int (v_cand ci ai bi ii fi fl)), (.int (Fnext (v_from ci fi) (v_cap ci) (v_sC ci ai bi ii fl) (v_wC ci ai bi ii fl) (own_nw (own_nw (v_cap ci))) (v_uC ci ai bi ii fl)))])) t → Steps p.tables e below (s₁.setTop (entryFrame m #[(.int ci), (.int ai), (.int bi), (.int ii), (.int fi), (.int fl)] maxLocals)) t := by
    intro t k
    refine pre76 t ?_
    show Steps p.tables e below (T32.setTop (mkF m 347 #[.val (.int ci), .val (.int ai), .val (.int bi), .val (.int ii), .val (.int fi), .val (.int fl), .val (.int (v_cap ci)), .val (.int (v_x ci ai)), .val (.int (v_y ci ai bi fl)), .val (.int (v_sel fl)), .val (.int (v_r ci ai bi ii fl)), .val (.int (b2i (v_aA fl))), .val (.int (b2i (v_aB fl))), .val (.int (v_from ci fi)), .val (.ref b15), .val (.int (b2i (v_was ci ai bi ii fl))), .val (.int (b2i (v_px ci ai bi ii fl))), .val (.int (b2i (v_py ci ai bi ii fl))), .val (.int (v_n ci ai bi ii fl)), .val (.int (v_cand ci ai bi ii fi fl)), .unset] [])) _
    refine XS.aload X32.here hx rfl (hb hby at_347) rfl rfl ?_
    show Steps p.tables e below (T32.setTop (mkF m 349 #[.val (.int ci), .val (.int ai), .val (.int bi), .val (.int ii), .val (.int fi), .val (.int fl), .val (.int (v_cap ci)), .val (.int (v_x ci ai)), .val (.int (v_y ci ai bi fl)), .val (.int (v_sel fl)), .val (.int (v_r ci ai bi ii fl)), .val (.int (b2i (v_aA fl))), .val (.int (b2i (v_aB fl))), .val (.int (v_from ci fi)), .val (.ref b15), .val (.int (b2i (v_was ci ai bi ii fl))), .val (.int (b2i (v_px ci ai bi ii fl))), .val (.int (b2i (v_py ci ai bi ii fl))), .val (.int (v_n ci ai bi ii fl)), .val (.int (v_cand ci ai bi ii fi fl)), .unset] [(.ref b15)])) _
    refine XS.iload X32.here hx rfl (hb hby at_349) rfl ?_
    show Steps p.tables e below (T32.setTop (mkF m 351 #[.val (.int ci), .val (.int ai), .val (.int bi), .val (.int ii), .val (.int fi), .val (.int fl), .val (.int (v_cap ci)), .val (.int (v_x ci ai)), .val (.int (v_y ci ai bi fl)), .val (.int (v_sel fl)), .val (.int (v_r ci ai bi ii fl)), .val (.int (b2i (v_aA fl))), .val (.int (b2i (v_aB fl))), .val (.int (v_from ci fi)), .val (.ref b15), .val (.int (b2i (v_was ci ai bi ii fl))), .val (.int (b2i (v_px ci ai bi ii fl))), .val (.int (b2i (v_py ci ai bi ii fl))), .val (.int (v_n ci ai bi ii fl)), .val (.int (v_cand ci ai bi ii fi fl)), .unset] [(.int (v_r ci ai bi ii fl)), (.ref b15)])) _
    refine st83.trans ?_
    show Steps p.tables e below (T83.setTop (mkF m 354 #[.val (.int ci), .val (.int ai), .val (.int bi), .val (.int ii), .val (.int fi), .val (.int fl), .val (.int (v_cap ci)), .val (.int (v_x ci ai)), .val (.int (v_y ci ai bi fl)), .val (.int (v_sel fl)), .val (.int (v_r ci ai bi ii fl)), .val (.int (b2i (v_aA fl))), .val (.int (b2i (v_aB fl))), .val (.int (v_from ci fi)), .val (.ref b15), .val (.int (b2i (v_was ci ai bi ii fl))), .val (.int (b2i (v_px ci ai bi ii fl))), .val (.int (b2i (v_py ci ai bi ii fl))), .val (.int (v_n ci ai bi ii fl)), .val (.int (v_cand ci ai bi ii fi fl)), .unset] [(.int (b2i (v_ret ci ai bi ii fl)))])) _
    refine XS.istore X83.here hx rfl (hb hby at_354) rfl (l' := #[.val (.int ci), .val (.int ai), .val (.int bi), .val (.int ii), .val (.int fi), .val (.int fl), .val (.int (v_cap ci)), .val (.int (v_x ci ai)), .val (.int (v_y ci ai bi fl)), .val (.int (v_sel fl)), .val (.int (v_r ci ai bi ii fl)), .val (.int (b2i (v_aA fl))), .val (.int (b2i (v_aB fl))), .val (.int (v_from ci fi)), .val (.ref b15), .val (.int (b2i (v_was ci ai bi ii fl))), .val (.int (b2i (v_px ci ai bi ii fl))), .val (.int (b2i (v_py ci ai bi ii fl))), .val (.int (v_n ci ai bi ii fl)), .val (.int (v_cand ci ai bi ii fi fl)), .val (.int (b2i (v_ret ci ai bi ii fl)))]) rfl ?_
    show Steps p.tables e below (T83.setTop (mkF m 356 #[.val (.int ci), .val (.int ai), .val (.int bi), .val (.int ii), .val (.int fi), .val (.int fl), .val (.int (v_cap ci)), .val (.int (v_x ci ai)), .val (.int (v_y ci ai bi fl)), .val (.int (v_sel fl)), .val (.int (v_r ci ai bi ii fl)), .val (.int (b2i (v_aA fl))), .val (.int (b2i (v_aB fl))), .val (.int (v_from ci fi)), .val (.ref b15), .val (.int (b2i (v_was ci ai bi ii fl))), .val (.int (b2i (v_px ci ai bi ii fl))), .val (.int (b2i (v_py ci ai bi ii fl))), .val (.int (v_n ci ai bi ii fl)), .val (.int (v_cand ci ai bi ii fi fl)), .val (.int (b2i (v_ret ci ai bi ii fl)))] [])) _
    refine XS.iload X83.here hx rfl (hb hby at_356) rfl ?_
    show Steps p.tables e below (T83.setTop (mkF m 358 #[.val (.int ci), .val (.int ai), .val (.int bi), .val (.int ii), .val (.int fi), .val (.int fl), .val (.int (v_cap ci)), .val (.int (v_x ci ai)), .val (.int (v_y ci ai bi fl)), .val (.int (v_sel fl)), .val (.int (v_r ci ai bi ii fl)), .val (.int (b2i (v_aA fl))), .val (.int (b2i (v_aB fl))), .val (.int (v_from ci fi)), .val (.ref b15), .val (.int (b2i (v_was ci ai bi ii fl))), .val (.int (b2i (v_px ci ai bi ii fl))), .val (.int (b2i (v_py ci ai bi ii fl))), .val (.int (v_n ci ai bi ii fl)), .val (.int (v_cand ci ai bi ii fi fl)), .val (.int (b2i (v_ret ci ai bi ii fl)))] [(.int (b2i (v_ret ci ai bi ii fl)))])) _
    refine XS.iload X83.here hx rfl (hb hby at_358) rfl ?_
    show Steps p.tables e below (T83.setTop (mkF m 360 #[.val (.int ci), .val (.int ai), .val (.int bi), .val (.int ii), .val (.int fi), .val (.int fl), .val (.int (v_cap ci)), .val (.int (v_x ci ai)), .val (.int (v_y ci ai bi fl)), .val (.int (v_sel fl)), .val (.int (v_r ci ai bi ii fl)), .val (.int (b2i (v_aA fl))), .val (.int (b2i (v_aB fl))), .val (.int (v_from ci fi)), .val (.ref b15), .val (.int (b2i (v_was ci ai bi ii fl))), .val (.int (b2i (v_px ci ai bi ii fl))), .val (.int (b2i (v_py ci ai bi ii fl))), .val (.int (v_n ci ai bi ii fl)), .val (.int (v_cand ci ai bi ii fi fl)), .val (.int (b2i (v_ret ci ai bi ii fl)))] [(.int (b2i (v_was ci ai bi ii fl))), (.int (b2i (v_ret ci ai bi ii fl)))])) _
    refine XS.icmpYes X83.here hx rfl (pc0 := 360) (pc' := 365) rfl (hb hby at_360) rfl (teq (congrArg b2i (own_ret ci ai bi ii fl))).1 (by decide) (by decide) ?_
    show Steps p.tables e below (T83.setTop (mkF m 365 #[.val (.int ci), .val (.int ai), .val (.int bi), .val (.int ii), .val (.int fi), .val (.int fl), .val (.int (v_cap ci)), .val (.int (v_x ci ai)), .val (.int (v_y ci ai bi fl)), .val (.int (v_sel fl)), .val (.int (v_r ci ai bi ii fl)), .val (.int (b2i (v_aA fl))), .val (.int (b2i (v_aB fl))), .val (.int (v_from ci fi)), .val (.ref b15), .val (.int (b2i (v_was ci ai bi ii fl))), .val (.int (b2i (v_px ci ai bi ii fl))), .val (.int (b2i (v_py ci ai bi ii fl))), .val (.int (v_n ci ai bi ii fl)), .val (.int (v_cand ci ai bi ii fi fl)), .val (.int (b2i (v_ret ci ai bi ii fl)))] [])) _
    refine XS.aload X83.here hx rfl (hb hby at_365) rfl rfl ?_
    show Steps p.tables e below (T83.setTop (mkF m 367 #[.val (.int ci), .val (.int ai), .val (.int bi), .val (.int ii), .val (.int fi), .val (.int fl), .val (.int (v_cap ci)), .val (.int (v_x ci ai)), .val (.int (v_y ci ai bi fl)), .val (.int (v_sel fl)), .val (.int (v_r ci ai bi ii fl)), .val (.int (b2i (v_aA fl))), .val (.int (b2i (v_aB fl))), .val (.int (v_from ci fi)), .val (.ref b15), .val (.int (b2i (v_was ci ai bi ii fl))), .val (.int (b2i (v_px ci ai bi ii fl))), .val (.int (b2i (v_py ci ai bi ii fl))), .val (.int (v_n ci ai bi ii fl)), .val (.int (v_cand ci ai bi ii fi fl)), .val (.int (b2i (v_ret ci ai bi ii fl)))] [(.ref b15)])) _
    refine st85.trans ?_
    show Steps p.tables e below (T85.setTop (mkF m 370 #[.val (.int ci), .val (.int ai), .val (.int bi), .val (.int ii), .val (.int fi), .val (.int fl), .val (.int (v_cap ci)), .val (.int (v_x ci ai)), .val (.int (v_y ci ai bi fl)), .val (.int (v_sel fl)), .val (.int (v_r ci ai bi ii fl)), .val (.int (b2i (v_aA fl))), .val (.int (b2i (v_aB fl))), .val (.int (v_from ci fi)), .val (.ref b15), .val (.int (b2i (v_was ci ai bi ii fl))), .val (.int (b2i (v_px ci ai bi ii fl))), .val (.int (b2i (v_py ci ai bi ii fl))), .val (.int (v_n ci ai bi ii fl)), .val (.int (v_cand ci ai bi ii fi fl)), .val (.int (b2i (v_ret ci ai bi ii fl)))] [(.int (Fsize (v_sC ci ai bi ii fl)))])) _
    refine XS.iload X85.here hx rfl (hb hby at_370) rfl ?_
    show Steps p.tables e below (T85.setTop (mkF m 372 #[.val (.int ci), .val (.int ai), .val (.int bi), .val (.int ii), .val (.int fi), .val (.int fl), .val (.int (v_cap ci)), .val (.int (v_x ci ai)), .val (.int (v_y ci ai bi fl)), .val (.int (v_sel fl)), .val (.int (v_r ci ai bi ii fl)), .val (.int (b2i (v_aA fl))), .val (.int (b2i (v_aB fl))), .val (.int (v_from ci fi)), .val (.ref b15), .val (.int (b2i (v_was ci ai bi ii fl))), .val (.int (b2i (v_px ci ai bi ii fl))), .val (.int (b2i (v_py ci ai bi ii fl))), .val (.int (v_n ci ai bi ii fl)), .val (.int (v_cand ci ai bi ii fi fl)), .val (.int (b2i (v_ret ci ai bi ii fl)))] [(.int (v_n ci ai bi ii fl)), (.int (Fsize (v_sC ci ai bi ii fl)))])) _
    refine XS.icmpYes X85.here hx rfl (pc0 := 372) (pc' := 377) rfl (hb hby at_372) rfl (teq (own_size ci ai bi ii fl)).1 (by decide) (by decide) ?_
    show Steps p.tables e below (T85.setTop (mkF m 377 #[.val (.int ci), .val (.int ai), .val (.int bi), .val (.int ii), .val (.int fi), .val (.int fl), .val (.int (v_cap ci)), .val (.int (v_x ci ai)), .val (.int (v_y ci ai bi fl)), .val (.int (v_sel fl)), .val (.int (v_r ci ai bi ii fl)), .val (.int (b2i (v_aA fl))), .val (.int (b2i (v_aB fl))), .val (.int (v_from ci fi)), .val (.ref b15), .val (.int (b2i (v_was ci ai bi ii fl))), .val (.int (b2i (v_px ci ai bi ii fl))), .val (.int (b2i (v_py ci ai bi ii fl))), .val (.int (v_n ci ai bi ii fl)), .val (.int (v_cand ci ai bi ii fi fl)), .val (.int (b2i (v_ret ci ai bi ii fl)))] [])) _
    refine XS.aload X85.here hx rfl (hb hby at_377) rfl rfl ?_
    show Steps p.tables e below (T85.setTop (mkF m 379 #[.val (.int ci), .val (.int ai), .val (.int bi), .val (.int ii), .val (.int fi), .val (.int fl), .val (.int (v_cap ci)), .val (.int (v_x ci ai)), .val (.int (v_y ci ai bi fl)), .val (.int (v_sel fl)), .val (.int (v_r ci ai bi ii fl)), .val (.int (b2i (v_aA fl))), .val (.int (b2i (v_aB fl))), .val (.int (v_from ci fi)), .val (.ref b15), .val (.int (b2i (v_was ci ai bi ii fl))), .val (.int (b2i (v_px ci ai bi ii fl))), .val (.int (b2i (v_py ci ai bi ii fl))), .val (.int (v_n ci ai bi ii fl)), .val (.int (v_cand ci ai bi ii fi fl)), .val (.int (b2i (v_ret ci ai bi ii fl)))] [(.ref b15)])) _
    refine XS.iload X85.here hx rfl (hb hby at_379) rfl ?_
    show Steps p.tables e below (T85.setTop (mkF m 381 #[.val (.int ci), .val (.int ai), .val (.int bi), .val (.int ii), .val (.int fi), .val (.int fl), .val (.int (v_cap ci)), .val (.int (v_x ci ai)), .val (.int (v_y ci ai bi fl)), .val (.int (v_sel fl)), .val (.int (v_r ci ai bi ii fl)), .val (.int (b2i (v_aA fl))), .val (.int (b2i (v_aB fl))), .val (.int (v_from ci fi)), .val (.ref b15), .val (.int (b2i (v_was ci ai bi ii fl))), .val (.int (b2i (v_px ci ai bi ii fl))), .val (.int (b2i (v_py ci ai bi ii fl))), .val (.int (v_n ci ai bi ii fl)), .val (.int (v_cand ci ai bi ii fi fl)), .val (.int (b2i (v_ret ci ai bi ii fl)))] [(.int (v_r ci ai bi ii fl)), (.ref b15)])) _
    refine st86.trans ?_
    show Steps p.tables e below (T86.setTop (mkF m 384 #[.val (.int ci), .val (.int ai), .val (.int bi), .val (.int ii), .val (.int fi), .val (.int fl), .val (.int (v_cap ci)), .val (.int (v_x ci ai)), .val (.int (v_y ci ai bi fl)), .val (.int (v_sel fl)), .val (.int (v_r ci ai bi ii fl)), .val (.int (b2i (v_aA fl))), .val (.int (b2i (v_aB fl))), .val (.int (v_from ci fi)), .val (.ref b15), .val (.int (b2i (v_was ci ai bi ii fl))), .val (.int (b2i (v_px ci ai bi ii fl))), .val (.int (b2i (v_py ci ai bi ii fl))), .val (.int (v_n ci ai bi ii fl)), .val (.int (v_cand ci ai bi ii fi fl)), .val (.int (b2i (v_ret ci ai bi ii fl)))] [(.int (b2i (Fcon (v_r ci ai bi ii fl) (v_wC ci ai bi ii fl))))])) _
    refine XS.ifYes X86.here hx rfl (pc0 := 384) (pc' := 389) rfl (hb hby at_384) rfl ((if0 _ _).trans (teq (b2i_eq (own_conr ci ai bi ii fl))).1) (by decide) (by decide) ?_
    show Steps p.tables e below (T86.setTop (mkF m 389 #[.val (.int ci), .val (.int ai), .val (.int bi), .val (.int ii), .val (.int fi), .val (.int fl), .val (.int (v_cap ci)), .val (.int (v_x ci ai)), .val (.int (v_y ci ai bi fl)), .val (.int (v_sel fl)), .val (.int (v_r ci ai bi ii fl)), .val (.int (b2i (v_aA fl))), .val (.int (b2i (v_aB fl))), .val (.int (v_from ci fi)), .val (.ref b15), .val (.int (b2i (v_was ci ai bi ii fl))), .val (.int (b2i (v_px ci ai bi ii fl))), .val (.int (b2i (v_py ci ai bi ii fl))), .val (.int (v_n ci ai bi ii fl)), .val (.int (v_cand ci ai bi ii fi fl)), .val (.int (b2i (v_ret ci ai bi ii fl)))] [])) _
    refine XS.aload X86.here hx rfl (hb hby at_389) rfl rfl ?_
    show Steps p.tables e below (T86.setTop (mkF m 391 #[.val (.int ci), .val (.int ai), .val (.int bi), .val (.int ii), .val (.int fi), .val (.int fl), .val (.int (v_cap ci)), .val (.int (v_x ci ai)), .val (.int (v_y ci ai bi fl)), .val (.int (v_sel fl)), .val (.int (v_r ci ai bi ii fl)), .val (.int (b2i (v_aA fl))), .val (.int (b2i (v_aB fl))), .val (.int (v_from ci fi)), .val (.ref b15), .val (.int (b2i (v_was ci ai bi ii fl))), .val (.int (b2i (v_px ci ai bi ii fl))), .val (.int (b2i (v_py ci ai bi ii fl))), .val (.int (v_n ci ai bi ii fl)), .val (.int (v_cand ci ai bi ii fi fl)), .val (.int (b2i (v_ret ci ai bi ii fl)))] [(.ref b15)])) _
    refine XS.iload X86.here hx rfl (hb hby at_391) rfl ?_
    show Steps p.tables e below (T86.setTop (mkF m 393 #[.val (.int ci), .val (.int ai), .val (.int bi), .val (.int ii), .val (.int fi), .val (.int fl), .val (.int (v_cap ci)), .val (.int (v_x ci ai)), .val (.int (v_y ci ai bi fl)), .val (.int (v_sel fl)), .val (.int (v_r ci ai bi ii fl)), .val (.int (b2i (v_aA fl))), .val (.int (b2i (v_aB fl))), .val (.int (v_from ci fi)), .val (.ref b15), .val (.int (b2i (v_was ci ai bi ii fl))), .val (.int (b2i (v_px ci ai bi ii fl))), .val (.int (b2i (v_py ci ai bi ii fl))), .val (.int (v_n ci ai bi ii fl)), .val (.int (v_cand ci ai bi ii fi fl)), .val (.int (b2i (v_ret ci ai bi ii fl)))] [(.int (v_x ci ai)), (.ref b15)])) _
    refine st87.trans ?_
    show Steps p.tables e below (T87.setTop (mkF m 396 #[.val (.int ci), .val (.int ai), .val (.int bi), .val (.int ii), .val (.int fi), .val (.int fl), .val (.int (v_cap ci)), .val (.int (v_x ci ai)), .val (.int (v_y ci ai bi fl)), .val (.int (v_sel fl)), .val (.int (v_r ci ai bi ii fl)), .val (.int (b2i (v_aA fl))), .val (.int (b2i (v_aB fl))), .val (.int (v_from ci fi)), .val (.ref b15), .val (.int (b2i (v_was ci ai bi ii fl))), .val (.int (b2i (v_px ci ai bi ii fl))), .val (.int (b2i (v_py ci ai bi ii fl))), .val (.int (v_n ci ai bi ii fl)), .val (.int (v_cand ci ai bi ii fi fl)), .val (.int (b2i (v_ret ci ai bi ii fl)))] [(.int (b2i (Fcon (v_x ci ai) (v_wC ci ai bi ii fl))))])) _
    refine XS.iload X87.here hx rfl (hb hby at_396) rfl ?_
    show Steps p.tables e below (T87.setTop (mkF m 398 #[.val (.int ci), .val (.int ai), .val (.int bi), .val (.int ii), .val (.int fi), .val (.int fl), .val (.int (v_cap ci)), .val (.int (v_x ci ai)), .val (.int (v_y ci ai bi fl)), .val (.int (v_sel fl)), .val (.int (v_r ci ai bi ii fl)), .val (.int (b2i (v_aA fl))), .val (.int (b2i (v_aB fl))), .val (.int (v_from ci fi)), .val (.ref b15), .val (.int (b2i (v_was ci ai bi ii fl))), .val (.int (b2i (v_px ci ai bi ii fl))), .val (.int (b2i (v_py ci ai bi ii fl))), .val (.int (v_n ci ai bi ii fl)), .val (.int (v_cand ci ai bi ii fi fl)), .val (.int (b2i (v_ret ci ai bi ii fl)))] [(.int (b2i (v_px ci ai bi ii fl))), (.int (b2i (Fcon (v_x ci ai) (v_wC ci ai bi ii fl))))])) _
    refine XS.icmpYes X87.here hx rfl (pc0 := 398) (pc' := 403) rfl (hb hby at_398) rfl (teq (congrArg b2i (own_conx ci ai bi ii fl))).1 (by decide) (by decide) ?_
    show Steps p.tables e below (T87.setTop (mkF m 403 #[.val (.int ci), .val (.int ai), .val (.int bi), .val (.int ii), .val (.int fi), .val (.int fl), .val (.int (v_cap ci)), .val (.int (v_x ci ai)), .val (.int (v_y ci ai bi fl)), .val (.int (v_sel fl)), .val (.int (v_r ci ai bi ii fl)), .val (.int (b2i (v_aA fl))), .val (.int (b2i (v_aB fl))), .val (.int (v_from ci fi)), .val (.ref b15), .val (.int (b2i (v_was ci ai bi ii fl))), .val (.int (b2i (v_px ci ai bi ii fl))), .val (.int (b2i (v_py ci ai bi ii fl))), .val (.int (v_n ci ai bi ii fl)), .val (.int (v_cand ci ai bi ii fi fl)), .val (.int (b2i (v_ret ci ai bi ii fl)))] [])) _
    refine XS.aload X87.here hx rfl (hb hby at_403) rfl rfl ?_
    show Steps p.tables e below (T87.setTop (mkF m 405 #[.val (.int ci), .val (.int ai), .val (.int bi), .val (.int ii), .val (.int fi), .val (.int fl), .val (.int (v_cap ci)), .val (.int (v_x ci ai)), .val (.int (v_y ci ai bi fl)), .val (.int (v_sel fl)), .val (.int (v_r ci ai bi ii fl)), .val (.int (b2i (v_aA fl))), .val (.int (b2i (v_aB fl))), .val (.int (v_from ci fi)), .val (.ref b15), .val (.int (b2i (v_was ci ai bi ii fl))), .val (.int (b2i (v_px ci ai bi ii fl))), .val (.int (b2i (v_py ci ai bi ii fl))), .val (.int (v_n ci ai bi ii fl)), .val (.int (v_cand ci ai bi ii fi fl)), .val (.int (b2i (v_ret ci ai bi ii fl)))] [(.ref b15)])) _
    refine XS.iload X87.here hx rfl (hb hby at_405) rfl ?_
    show Steps p.tables e below (T87.setTop (mkF m 407 #[.val (.int ci), .val (.int ai), .val (.int bi), .val (.int ii), .val (.int fi), .val (.int fl), .val (.int (v_cap ci)), .val (.int (v_x ci ai)), .val (.int (v_y ci ai bi fl)), .val (.int (v_sel fl)), .val (.int (v_r ci ai bi ii fl)), .val (.int (b2i (v_aA fl))), .val (.int (b2i (v_aB fl))), .val (.int (v_from ci fi)), .val (.ref b15), .val (.int (b2i (v_was ci ai bi ii fl))), .val (.int (b2i (v_px ci ai bi ii fl))), .val (.int (b2i (v_py ci ai bi ii fl))), .val (.int (v_n ci ai bi ii fl)), .val (.int (v_cand ci ai bi ii fi fl)), .val (.int (b2i (v_ret ci ai bi ii fl)))] [(.int (v_y ci ai bi fl)), (.ref b15)])) _
    refine st88.trans ?_
    show Steps p.tables e below (T88.setTop (mkF m 410 #[.val (.int ci), .val (.int ai), .val (.int bi), .val (.int ii), .val (.int fi), .val (.int fl), .val (.int (v_cap ci)), .val (.int (v_x ci ai)), .val (.int (v_y ci ai bi fl)), .val (.int (v_sel fl)), .val (.int (v_r ci ai bi ii fl)), .val (.int (b2i (v_aA fl))), .val (.int (b2i (v_aB fl))), .val (.int (v_from ci fi)), .val (.ref b15), .val (.int (b2i (v_was ci ai bi ii fl))), .val (.int (b2i (v_px ci ai bi ii fl))), .val (.int (b2i (v_py ci ai bi ii fl))), .val (.int (v_n ci ai bi ii fl)), .val (.int (v_cand ci ai bi ii fi fl)), .val (.int (b2i (v_ret ci ai bi ii fl)))] [(.int (b2i (Fcon (v_y ci ai bi fl) (v_wC ci ai bi ii fl))))])) _
    refine XS.iload X88.here hx rfl (hb hby at_410) rfl ?_
    show Steps p.tables e below (T88.setTop (mkF m 412 #[.val (.int ci), .val (.int ai), .val (.int bi), .val (.int ii), .val (.int fi), .val (.int fl), .val (.int (v_cap ci)), .val (.int (v_x ci ai)), .val (.int (v_y ci ai bi fl)), .val (.int (v_sel fl)), .val (.int (v_r ci ai bi ii fl)), .val (.int (b2i (v_aA fl))), .val (.int (b2i (v_aB fl))), .val (.int (v_from ci fi)), .val (.ref b15), .val (.int (b2i (v_was ci ai bi ii fl))), .val (.int (b2i (v_px ci ai bi ii fl))), .val (.int (b2i (v_py ci ai bi ii fl))), .val (.int (v_n ci ai bi ii fl)), .val (.int (v_cand ci ai bi ii fi fl)), .val (.int (b2i (v_ret ci ai bi ii fl)))] [(.int (b2i (v_py ci ai bi ii fl))), (.int (b2i (Fcon (v_y ci ai bi fl) (v_wC ci ai bi ii fl))))])) _
    refine XS.icmpYes X88.here hx rfl (pc0 := 412) (pc' := 417) rfl (hb hby at_412) rfl (teq (congrArg b2i (own_cony ci ai bi ii fl))).1 (by decide) (by decide) ?_
    show Steps p.tables e below (T88.setTop (mkF m 417 #[.val (.int ci), .val (.int ai), .val (.int bi), .val (.int ii), .val (.int fi), .val (.int fl), .val (.int (v_cap ci)), .val (.int (v_x ci ai)), .val (.int (v_y ci ai bi fl)), .val (.int (v_sel fl)), .val (.int (v_r ci ai bi ii fl)), .val (.int (b2i (v_aA fl))), .val (.int (b2i (v_aB fl))), .val (.int (v_from ci fi)), .val (.ref b15), .val (.int (b2i (v_was ci ai bi ii fl))), .val (.int (b2i (v_px ci ai bi ii fl))), .val (.int (b2i (v_py ci ai bi ii fl))), .val (.int (v_n ci ai bi ii fl)), .val (.int (v_cand ci ai bi ii fi fl)), .val (.int (b2i (v_ret ci ai bi ii fl)))] [])) _
    refine XS.aload X88.here hx rfl (hb hby at_417) rfl rfl ?_
    show Steps p.tables e below (T88.setTop (mkF m 419 #[.val (.int ci), .val (.int ai), .val (.int bi), .val (.int ii), .val (.int fi), .val (.int fl), .val (.int (v_cap ci)), .val (.int (v_x ci ai)), .val (.int (v_y ci ai bi fl)), .val (.int (v_sel fl)), .val (.int (v_r ci ai bi ii fl)), .val (.int (b2i (v_aA fl))), .val (.int (b2i (v_aB fl))), .val (.int (v_from ci fi)), .val (.ref b15), .val (.int (b2i (v_was ci ai bi ii fl))), .val (.int (b2i (v_px ci ai bi ii fl))), .val (.int (b2i (v_py ci ai bi ii fl))), .val (.int (v_n ci ai bi ii fl)), .val (.int (v_cand ci ai bi ii fi fl)), .val (.int (b2i (v_ret ci ai bi ii fl)))] [(.ref b15)])) _
    refine XS.iload X88.here hx rfl (hb hby at_419) rfl ?_
    show Steps p.tables e below (T88.setTop (mkF m 421 #[.val (.int ci), .val (.int ai), .val (.int bi), .val (.int ii), .val (.int fi), .val (.int fl), .val (.int (v_cap ci)), .val (.int (v_x ci ai)), .val (.int (v_y ci ai bi fl)), .val (.int (v_sel fl)), .val (.int (v_r ci ai bi ii fl)), .val (.int (b2i (v_aA fl))), .val (.int (b2i (v_aB fl))), .val (.int (v_from ci fi)), .val (.ref b15), .val (.int (b2i (v_was ci ai bi ii fl))), .val (.int (b2i (v_px ci ai bi ii fl))), .val (.int (b2i (v_py ci ai bi ii fl))), .val (.int (v_n ci ai bi ii fl)), .val (.int (v_cand ci ai bi ii fi fl)), .val (.int (b2i (v_ret ci ai bi ii fl)))] [(.int (v_from ci fi)), (.ref b15)])) _
    refine st89.trans ?_
    show Steps p.tables e below (T89.setTop (mkF m 424 #[.val (.int ci), .val (.int ai), .val (.int bi), .val (.int ii), .val (.int fi), .val (.int fl), .val (.int (v_cap ci)), .val (.int (v_x ci ai)), .val (.int (v_y ci ai bi fl)), .val (.int (v_sel fl)), .val (.int (v_r ci ai bi ii fl)), .val (.int (b2i (v_aA fl))), .val (.int (b2i (v_aB fl))), .val (.int (v_from ci fi)), .val (.ref b15), .val (.int (b2i (v_was ci ai bi ii fl))), .val (.int (b2i (v_px ci ai bi ii fl))), .val (.int (b2i (v_py ci ai bi ii fl))), .val (.int (v_n ci ai bi ii fl)), .val (.int (v_cand ci ai bi ii fi fl)), .val (.int (b2i (v_ret ci ai bi ii fl)))] [(.int (Fnext (v_from ci fi) (v_cap ci) (v_sC ci ai bi ii fl) (v_wC ci ai bi ii fl) (own_nw (own_nw (v_cap ci))) (v_uC ci ai bi ii fl)))])) _
    refine XS.iload X89.here hx rfl (hb hby at_424) rfl ?_
    exact k
  have pre91 : ∀ t, Steps p.tables e below (T89.setTop (mkF m 434 #[.val (.int ci), .val (.int ai), .val (.int bi), .val (.int ii), .val (.int fi), .val (.int fl), .val (.int (v_cap ci)), .val (.int (v_x ci ai)), .val (.int (v_y ci ai bi fl)), .val (.int (v_sel fl)), .val (.int (v_r ci ai bi ii fl)), .val (.int (b2i (v_aA fl))), .val (.int (b2i (v_aB fl))), .val (.int (v_from ci fi)), .val (.ref b15), .val (.int (b2i (v_was ci ai bi ii fl))), .val (.int (b2i (v_px ci ai bi ii fl))), .val (.int (b2i (v_py ci ai bi ii fl))), .val (.int (v_n ci ai bi ii fl)), .val (.int (v_cand ci ai bi ii fi fl)), .val (.int (b2i (v_ret ci ai bi ii fl)))] [(.int (b2i (if (Fnext (v_from ci fi) (v_cap ci) (v_sC ci ai bi ii fl) (v_wC ci ai bi ii fl) (own_nw (own_nw (v_cap ci))) (v_uC ci ai bi ii fl)) = (v_cand ci ai bi ii fi fl) then true else false)))])) t → Steps p.tables e below (s₁.setTop (entryFrame m #[(.int ci), (.int ai), (.int bi), (.int ii), (.int fi), (.int fl)] maxLocals)) t := by
    intro t k
    refine pre90 t ?_
    have k : ∀ (v1 : Bool), v1 = (if (Fnext (v_from ci fi) (v_cap ci) (v_sC ci ai bi ii fl) (v_wC ci ai bi ii fl) (own_nw (own_nw (v_cap ci))) (v_uC ci ai bi ii fl)) = (v_cand ci ai bi ii fi fl) then true else false) → Steps p.tables e below (T89.setTop (mkF m 434 #[.val (.int ci), .val (.int ai), .val (.int bi), .val (.int ii), .val (.int fi), .val (.int fl), .val (.int (v_cap ci)), .val (.int (v_x ci ai)), .val (.int (v_y ci ai bi fl)), .val (.int (v_sel fl)), .val (.int (v_r ci ai bi ii fl)), .val (.int (b2i (v_aA fl))), .val (.int (b2i (v_aB fl))), .val (.int (v_from ci fi)), .val (.ref b15), .val (.int (b2i (v_was ci ai bi ii fl))), .val (.int (b2i (v_px ci ai bi ii fl))), .val (.int (b2i (v_py ci ai bi ii fl))), .val (.int (v_n ci ai bi ii fl)), .val (.int (v_cand ci ai bi ii fi fl)), .val (.int (b2i (v_ret ci ai bi ii fl)))] [(.int (b2i v1))])) t := fun v1 hv1 => by subst hv1; exact k
    show Steps p.tables e below (T89.setTop (mkF m 426 #[.val (.int ci), .val (.int ai), .val (.int bi), .val (.int ii), .val (.int fi), .val (.int fl), .val (.int (v_cap ci)), .val (.int (v_x ci ai)), .val (.int (v_y ci ai bi fl)), .val (.int (v_sel fl)), .val (.int (v_r ci ai bi ii fl)), .val (.int (b2i (v_aA fl))), .val (.int (b2i (v_aB fl))), .val (.int (v_from ci fi)), .val (.ref b15), .val (.int (b2i (v_was ci ai bi ii fl))), .val (.int (b2i (v_px ci ai bi ii fl))), .val (.int (b2i (v_py ci ai bi ii fl))), .val (.int (v_n ci ai bi ii fl)), .val (.int (v_cand ci ai bi ii fi fl)), .val (.int (b2i (v_ret ci ai bi ii fl)))] [(.int (v_cand ci ai bi ii fi fl)), (.int (Fnext (v_from ci fi) (v_cap ci) (v_sC ci ai bi ii fl) (v_wC ci ai bi ii fl) (own_nw (own_nw (v_cap ci))) (v_uC ci ai bi ii fl)))])) _
    by_cases hc92 : (Fnext (v_from ci fi) (v_cap ci) (v_sC ci ai bi ii fl) (v_wC ci ai bi ii fl) (own_nw (own_nw (v_cap ci))) (v_uC ci ai bi ii fl)) = (v_cand ci ai bi ii fi fl)
    · refine XS.icmpNo X89.here hx rfl (hb hby at_426) rfl (teq hc92).2 ?_
      have k : ∀ (v1 : Bool), v1 = true → Steps p.tables e below (T89.setTop (mkF m 434 #[.val (.int ci), .val (.int ai), .val (.int bi), .val (.int ii), .val (.int fi), .val (.int fl), .val (.int (v_cap ci)), .val (.int (v_x ci ai)), .val (.int (v_y ci ai bi fl)), .val (.int (v_sel fl)), .val (.int (v_r ci ai bi ii fl)), .val (.int (b2i (v_aA fl))), .val (.int (b2i (v_aB fl))), .val (.int (v_from ci fi)), .val (.ref b15), .val (.int (b2i (v_was ci ai bi ii fl))), .val (.int (b2i (v_px ci ai bi ii fl))), .val (.int (b2i (v_py ci ai bi ii fl))), .val (.int (v_n ci ai bi ii fl)), .val (.int (v_cand ci ai bi ii fi fl)), .val (.int (b2i (v_ret ci ai bi ii fl)))] [(.int (b2i v1))])) t := fun v1 hv1 => k v1 (hv1.trans (if_pos hc92).symm)
      show Steps p.tables e below (T89.setTop (mkF m 429 #[.val (.int ci), .val (.int ai), .val (.int bi), .val (.int ii), .val (.int fi), .val (.int fl), .val (.int (v_cap ci)), .val (.int (v_x ci ai)), .val (.int (v_y ci ai bi fl)), .val (.int (v_sel fl)), .val (.int (v_r ci ai bi ii fl)), .val (.int (b2i (v_aA fl))), .val (.int (b2i (v_aB fl))), .val (.int (v_from ci fi)), .val (.ref b15), .val (.int (b2i (v_was ci ai bi ii fl))), .val (.int (b2i (v_px ci ai bi ii fl))), .val (.int (b2i (v_py ci ai bi ii fl))), .val (.int (v_n ci ai bi ii fl)), .val (.int (v_cand ci ai bi ii fi fl)), .val (.int (b2i (v_ret ci ai bi ii fl)))] [])) _
      refine XS.iconst X89.here hx rfl (hb hby at_429) ?_
      show Steps p.tables e below (T89.setTop (mkF m 430 #[.val (.int ci), .val (.int ai), .val (.int bi), .val (.int ii), .val (.int fi), .val (.int fl), .val (.int (v_cap ci)), .val (.int (v_x ci ai)), .val (.int (v_y ci ai bi fl)), .val (.int (v_sel fl)), .val (.int (v_r ci ai bi ii fl)), .val (.int (b2i (v_aA fl))), .val (.int (b2i (v_aB fl))), .val (.int (v_from ci fi)), .val (.ref b15), .val (.int (b2i (v_was ci ai bi ii fl))), .val (.int (b2i (v_px ci ai bi ii fl))), .val (.int (b2i (v_py ci ai bi ii fl))), .val (.int (v_n ci ai bi ii fl)), .val (.int (v_cand ci ai bi ii fi fl)), .val (.int (b2i (v_ret ci ai bi ii fl)))] [(.int (1 : Int32))])) _
      refine XS.goto X89.here hx rfl (pc0 := 430) (pc' := 434) rfl (hb hby at_430) (by decide) (by decide) ?_
      exact k true rfl
    · refine XS.icmpYes X89.here hx rfl (pc0 := 426) (pc' := 433) rfl (hb hby at_426) rfl (feq hc92).2 (by decide) (by decide) ?_
      have k : ∀ (v1 : Bool), v1 = false → Steps p.tables e below (T89.setTop (mkF m 434 #[.val (.int ci), .val (.int ai), .val (.int bi), .val (.int ii), .val (.int fi), .val (.int fl), .val (.int (v_cap ci)), .val (.int (v_x ci ai)), .val (.int (v_y ci ai bi fl)), .val (.int (v_sel fl)), .val (.int (v_r ci ai bi ii fl)), .val (.int (b2i (v_aA fl))), .val (.int (b2i (v_aB fl))), .val (.int (v_from ci fi)), .val (.ref b15), .val (.int (b2i (v_was ci ai bi ii fl))), .val (.int (b2i (v_px ci ai bi ii fl))), .val (.int (b2i (v_py ci ai bi ii fl))), .val (.int (v_n ci ai bi ii fl)), .val (.int (v_cand ci ai bi ii fi fl)), .val (.int (b2i (v_ret ci ai bi ii fl)))] [(.int (b2i v1))])) t := fun v1 hv1 => k v1 (hv1.trans (if_neg hc92).symm)
      show Steps p.tables e below (T89.setTop (mkF m 433 #[.val (.int ci), .val (.int ai), .val (.int bi), .val (.int ii), .val (.int fi), .val (.int fl), .val (.int (v_cap ci)), .val (.int (v_x ci ai)), .val (.int (v_y ci ai bi fl)), .val (.int (v_sel fl)), .val (.int (v_r ci ai bi ii fl)), .val (.int (b2i (v_aA fl))), .val (.int (b2i (v_aB fl))), .val (.int (v_from ci fi)), .val (.ref b15), .val (.int (b2i (v_was ci ai bi ii fl))), .val (.int (b2i (v_px ci ai bi ii fl))), .val (.int (b2i (v_py ci ai bi ii fl))), .val (.int (v_n ci ai bi ii fl)), .val (.int (v_cand ci ai bi ii fi fl)), .val (.int (b2i (v_ret ci ai bi ii fl)))] [])) _
      refine XS.iconst X89.here hx rfl (hb hby at_433) ?_
      exact k false rfl
  have hlaw : (if (Fnext (v_from ci fi) (v_cap ci) (v_sC ci ai bi ii fl) (v_wC ci ai bi ii fl) (own_nw (own_nw (v_cap ci))) (v_uC ci ai bi ii fl)) = (v_cand ci ai bi ii fi fl) then true else false) = true := own_law1 ci ai bi ii fi fl
  obtain ⟨fs, hr, hrun, hended, hW, hsame⟩ := X89.leave (v := some (.int (1 : Int32))) (fun h => by rw [Bd.returns] at h; cases h) (BodyLoose.notSynchronized Bd)
  refine ⟨_, _, pre91 _ ?_, hrun, hended, _, _, rfl, ?_, ⟨_, rfl⟩, hW, hsame.mono (by decide) (by decide)⟩
  · show Steps p.tables e below (T89.setTop (mkF m 434 #[.val (.int ci), .val (.int ai), .val (.int bi), .val (.int ii), .val (.int fi), .val (.int fl), .val (.int (v_cap ci)), .val (.int (v_x ci ai)), .val (.int (v_y ci ai bi fl)), .val (.int (v_sel fl)), .val (.int (v_r ci ai bi ii fl)), .val (.int (b2i (v_aA fl))), .val (.int (b2i (v_aB fl))), .val (.int (v_from ci fi)), .val (.ref b15), .val (.int (b2i (v_was ci ai bi ii fl))), .val (.int (b2i (v_px ci ai bi ii fl))), .val (.int (b2i (v_py ci ai bi ii fl))), .val (.int (v_n ci ai bi ii fl)), .val (.int (v_cand ci ai bi ii fi fl)), .val (.int (b2i (v_ret ci ai bi ii fl)))] [(.int (b2i (if (Fnext (v_from ci fi) (v_cap ci) (v_sC ci ai bi ii fl) (v_wC ci ai bi ii fl) (own_nw (own_nw (v_cap ci))) (v_uC ci ai bi ii fl)) = (v_cand ci ai bi ii fi fl) then true else false)))])) _
    exact retN X89 hx (t := .boolean) Bd.returns (by simp) (hb hby at_434) (by rw [b2i_one hlaw]; exact hr)
  · show Q0 Z ci ai bi ii fi fl h0 n0 _ T89.heap _
    rw [e89]
    exact ⟨rfl, N89⟩
set_option maxRecDepth 65536 in
set_option maxHeartbeats 40000000 in
theorem comes_1 {Post : Tables → Env → Array Value → State → Outcome → State → Prop} (hpost : ∀ tb e args s v u, (limb_1_1.after args s (.returned v) u = true ∧ limb_1_2.after args s (.returned v) u = true ∧ True) → FrameEnd s (.returned v) u (Jvm.fieldLocs frame_1_writes args s ++ Jvm.arrayLocs frame_1_arrays args s ++ Jvm.staticLocs frame_1_statics s) 16 640 → Post tb e args s (.returned v) u) :
    ArmFor flags0 classFile x code maxLocals ret World_1 tables_1 room_1 Calls_1 rest_1 Pre_1 Post := by
  intro l hfl _ _ p e ha hc hk s m args below hf hA hF happ hP
  obtain ⟨hcalls, hrest, hpre⟩ := hP
  obtain ⟨-, -, -, hnamed, -, -, -, hat⟩ := (Spec.applies_iff hf).mp happ
  obtain ⟨hg, hn⟩ := and_e (Cond.before_iff.mp (show (Jvm.Cond.and given_1 narrow_1).before args s = true from hpre))
  obtain ⟨g1, g2⟩ := and_e hg
  obtain ⟨g3, g4⟩ := and_e g2
  obtain ⟨g5, g6⟩ := and_e g4
  obtain ⟨g7, g8⟩ := and_e g6
  obtain ⟨g9, g10⟩ := and_e g8
  obtain ⟨g11, g12⟩ := and_e g10
  obtain ⟨w0, w1, w2, w3, w4, w5, rfl⟩ : ∃ w0 w1 w2 w3 w4 w5 : Value, args = #[w0, w1, w2, w3, w4, w5] := by
    have hs : args.size = 6 := by simpa [Cond.value, given_1] using g1
    obtain ⟨L⟩ := args
    match L, hs with
    | [w0, w1, w2, w3, w4, w5], _ => exact ⟨w0, w1, w2, w3, w4, w5, rfl⟩
  have hw := fun d (hd : d ∈ tables_1) => atoms_spec (ws := Jvm.Cond.code x code maxLocals ret :: tables_1) hat d (List.mem_cons_of_mem _ hd)
  obtain ⟨i0, ei0⟩ := is_v g3
  obtain rfl : w0 = (.int i0) := Option.some.inj ei0
  obtain ⟨i1, ei1⟩ := is_v g5
  obtain rfl : w1 = (.int i1) := Option.some.inj ei1
  obtain ⟨i2, ei2⟩ := is_v g7
  obtain rfl : w2 = (.int i2) := Option.some.inj ei2
  obtain ⟨i3, ei3⟩ := is_v g9
  obtain rfl : w3 = (.int i3) := Option.some.inj ei3
  obtain ⟨i4, ei4⟩ := is_v g11
  obtain rfl : w4 = (.int i4) := Option.some.inj ei4
  obtain ⟨i5, ei5⟩ := is_v g12
  obtain rfl : w5 = (.int i5) := Option.some.inj ei5
  obtain ⟨n, o, h1, h2, h3, _, L, rfl, ⟨rfl, N⟩, hq⟩ := rm0 l s _ hw tables_1 i0 i1 i2 i3 i4 i5 s.heap s.heap.size (Nat.le_refl _) p e ha hc hk s m _ below hf ((Spec.applies_iff_loose hf).mp happ).1 ⟨rfl, State.Warmed39.refl s, rfl⟩ trivial
  refine ⟨n, _, h1, h2, h3, hpost _ _ _ _ _ _ ⟨Cond.after_iff.mpr rfl, Cond.after_iff.mpr (eq_i res_at (Term.int_eval (1)) rfl), trivial⟩ ⟨hq.1, hq.2.1, (hq.2.2.sift fun y hy => Or.inr (N y hy)).mono (by decide) (by decide)⟩⟩
theorem main_1_1 : Claimed_1_1 := comes_1 fun _ _ _ _ _ _ h hF => ⟨h.1, hF⟩
theorem main_1_2 : Claimed_1_2 := comes_1 fun _ _ _ _ _ _ h hF => ⟨h.2.1, hF⟩
end Jvm.Pilot.@@N@@
namespace Jvm.Pilot.@@N@@
open Jvm Jvm.ClassFile Sem Op Lib Jvm.Free Jvm.Stand Jvm.Pilot.@@N@@.Jvm.D
/-! MADE BY PROGRAM (witnessworld.py) out of the Statement's table words and the real class files: 17 classes; the members and pool entries that the words name. The judged class is class 1, her method 1. -/
namespace start1
open Jvm.ClassFile
def u (s : String) : CpInfo := .utf8 (stringToUtf16 s)
/-- a pool by its gaps: so many unusable entries, then the entry; so many at the end -/
def gap : Nat → List CpInfo → List CpInfo
  | 0, r => r
  | n + 1, r => .unusable :: gap n r
def poolList (es : List (Nat × CpInfo)) (last : Nat) : List CpInfo := es.foldr (fun e r => gap e.1 (e.2 :: r)) (gap last [])
def pool (es : List (Nat × CpInfo)) (last : Nat) : Array CpInfo := ⟨poolList es last⟩
def fileOf (pool : Array CpInfo) (this : Nat) (attrs : Array Attribute := #[]) (ms : Array MethodInfo := #[]) (fl : Nat := 33) (sup : Nat := 0) (ifs : Array Nat := #[]) (fds : Array FieldInfo := #[]) : ClassFile where
  minorVersion := 0
  majorVersion := 65
  constantPool := pool
  accessFlags := fl
  thisClass := this
  superClass := sup
  interfaces := ifs
  fields := fds
  methods := ms
  attributes := attrs
def plain (name : String) (sup : Option ClassId) : Class where
  name := name
  kind := .ordinary
  loader := none
  accessFlags := 33
  super := sup
  interfaces := #[]
  cf := none
  fields := #[]
  methods := #[]
  instanceTypes := #[]
  staticTypes := #[]
  resolved := #[]
  callSites := []
  init := .initialized
  statics := none
  mirror := none

def pool0 : Array CpInfo := pool [(5, u "<init>"), (0, u "()V"), (1, .class_ 10), (1, u "java/lang/Object")] 113

def k0c0 : Code := { maxStack := 0, maxLocals := 1, code := object_method_1_code, exceptionTable := #[], attributes := #[] }
def k0m0 : Method := { name := "<init>", desc := "()V", sig := { parameters := [], returnType := none }, accessFlags := 1, code := some k0c0 }
/-- java/lang/Object -/
def k0 : Class := { plain "java/lang/Object" none with
  accessFlags := 33
  interfaces := #[]
  cf := some (fileOf pool0 8 #[] #[{ accessFlags := 1, nameIndex := 5, descriptorIndex := 6, attributes := #[] }] 33 0 #[] #[])
  fields := #[]
  methods := #[k0m0]
  instanceTypes := #[]
  staticTypes := #[]
  resolved := Array.replicate 124 none
  statics := none }

def pool1 : Array CpInfo := pool [(2, .class_ 4), (1, u "java/lang/Object"), (0, u "<init>"), (0, u "()V"), (0, .integer 2147483647), (0, .class_ 9), (0, u "com/example/cutline/cutline/IndexSet"), (0, .methodref 8 11), (0, .nameAndType 5 12), (0, u "(I)V"), (0, .methodref 8 14), (0, .nameAndType 15 16), (0, u "add"), (0, u "(I)Z"), (0, .methodref 8 18), (0, .nameAndType 19 16), (0, u "remove"), (0, .methodref 8 21), (0, .nameAndType 22 23), (0, u "size"), (0, u "()I"), (0, .methodref 8 25), (0, .nameAndType 26 16), (0, u "contains"), (0, .methodref 8 28), (0, .nameAndType 29 30), (0, u "next"), (0, u "(I)I"), (0, .class_ 32), (0, u "com/example/cutline/cutline/IndexSetRemovePinLaw"), (2, u "law"), (0, u "(IIIIII)Z")] 3

def k1m0 : Method := { name := "<init>", desc := "()V", sig := { parameters := [], returnType := none }, accessFlags := 1, code := none }
def k1c1 : Code := { maxStack := 3, maxLocals := 21, code := code, exceptionTable := #[], attributes := #[] }
def k1m1 : Method := { name := "law", desc := "(IIIIII)Z", sig := { parameters := [.int, .int, .int, .int, .int, .int], returnType := some .boolean }, accessFlags := 9, code := some k1c1 }
/-- com/example/cutline/cutline/IndexSetRemovePinLaw -/
def k1 : Class := { plain "com/example/cutline/cutline/IndexSetRemovePinLaw" (some 0) with
  accessFlags := 49
  interfaces := #[]
  cf := some (fileOf pool1 31 #[] #[{ accessFlags := 1, nameIndex := 5, descriptorIndex := 6, attributes := #[] }, { accessFlags := 9, nameIndex := 35, descriptorIndex := 36, attributes := #[] }] 49 2 #[] #[])
  fields := #[]
  methods := #[k1m0, k1m1]
  instanceTypes := #[]
  staticTypes := #[]
  resolved := Array.replicate 40 none
  statics := none }

def pool2 : Array CpInfo := pool [(1, .methodref 2 3), (0, .class_ 4), (0, .nameAndType 5 6), (0, u "java/lang/Object"), (0, u "<init>"), (0, u "()V"), (0, .fieldref 8 9), (0, .class_ 10), (0, .nameAndType 11 12), (0, u "com/example/cutline/cutline/IndexSet"), (0, u "capacity"), (0, u "I"), (0, .fieldref 8 14), (0, .nameAndType 15 16), (0, u "words"), (0, u "[J"), (0, .fieldref 8 18), (0, .nameAndType 19 16), (0, u "summary"), (0, .fieldref 8 21), (0, .nameAndType 22 12), (0, u "size"), (0, .long 18446744073709551615), (1, .methodref 26 27), (0, .class_ 28), (0, .nameAndType 29 30), (0, u "java/lang/Long"), (0, u "numberOfTrailingZeros"), (0, u "(J)I"), (3, u "(I)V"), (2, u "()I"), (0, u "contains"), (0, u "(I)Z"), (1, u "add"), (0, u "remove"), (2, u "next"), (0, u "(I)I")] 2

def k2c0 : Code := { maxStack := 3, maxLocals := 2, code := prog_16_method_1_code, exceptionTable := #[], attributes := #[] }
def k2m0 : Method := { name := "<init>", desc := "(I)V", sig := { parameters := [.int], returnType := none }, accessFlags := 0, code := some k2c0 }
def k2c1 : Code := { maxStack := 1, maxLocals := 1, code := prog_16_method_2_code, exceptionTable := #[], attributes := #[] }
def k2m1 : Method := { name := "size", desc := "()I", sig := { parameters := [], returnType := some .int }, accessFlags := 0, code := some k2c1 }
def k2c2 : Code := { maxStack := 5, maxLocals := 2, code := prog_16_method_3_code, exceptionTable := #[], attributes := #[] }
def k2m2 : Method := { name := "contains", desc := "(I)Z", sig := { parameters := [.int], returnType := some .boolean }, accessFlags := 0, code := some k2c2 }
def k2c3 : Code := { maxStack := 7, maxLocals := 5, code := prog_16_method_4_code, exceptionTable := #[], attributes := #[] }
def k2m3 : Method := { name := "add", desc := "(I)Z", sig := { parameters := [.int], returnType := some .boolean }, accessFlags := 0, code := some k2c3 }
def k2c4 : Code := { maxStack := 8, maxLocals := 5, code := prog_16_method_5_code, exceptionTable := #[], attributes := #[] }
def k2m4 : Method := { name := "remove", desc := "(I)Z", sig := { parameters := [.int], returnType := some .boolean }, accessFlags := 0, code := some k2c4 }
def k2c5 : Code := { maxStack := 5, maxLocals := 8, code := prog_16_method_8_code, exceptionTable := #[], attributes := #[] }
def k2m5 : Method := { name := "next", desc := "(I)I", sig := { parameters := [.int], returnType := some .int }, accessFlags := 0, code := some k2c5 }
/-- com/example/cutline/cutline/IndexSet -/
def k2 : Class := { plain "com/example/cutline/cutline/IndexSet" (some 0) with
  accessFlags := 48
  interfaces := #[]
  cf := some (fileOf pool2 8 #[] #[{ accessFlags := 0, nameIndex := 5, descriptorIndex := 34, attributes := #[] }, { accessFlags := 0, nameIndex := 22, descriptorIndex := 37, attributes := #[] }, { accessFlags := 0, nameIndex := 38, descriptorIndex := 39, attributes := #[] }, { accessFlags := 0, nameIndex := 41, descriptorIndex := 39, attributes := #[] }, { accessFlags := 0, nameIndex := 42, descriptorIndex := 39, attributes := #[] }, { accessFlags := 0, nameIndex := 45, descriptorIndex := 46, attributes := #[] }] 48 2 #[] #[{ accessFlags := 18, nameIndex := 11, descriptorIndex := 12, attributes := #[] }, { accessFlags := 18, nameIndex := 15, descriptorIndex := 16, attributes := #[] }, { accessFlags := 18, nameIndex := 19, descriptorIndex := 16, attributes := #[] }, { accessFlags := 2, nameIndex := 22, descriptorIndex := 12, attributes := #[] }])
  fields := #[{ name := "capacity", type := .int, accessFlags := 18, slot := 0, constantValue := 0 }, { name := "words", type := (.array .long), accessFlags := 18, slot := 1, constantValue := 0 }, { name := "summary", type := (.array .long), accessFlags := 18, slot := 2, constantValue := 0 }, { name := "size", type := .int, accessFlags := 2, slot := 3, constantValue := 0 }]
  methods := #[k2m0, k2m1, k2m2, k2m3, k2m4, k2m5]
  instanceTypes := #[.int, (.array .long), (.array .long), .int]
  staticTypes := #[]
  resolved := Array.replicate 49 none
  statics := none }

def pool3 : Array CpInfo := pool [(1, .class_ 2), (0, u "java/io/Serializable"), (0, .class_ 4), (0, u "java/lang/Object")] 2

/-- java/io/Serializable -/
def k3 : Class := { plain "java/io/Serializable" (some 0) with
  accessFlags := 1537
  interfaces := #[]
  cf := some (fileOf pool3 1 #[] #[] 1537 3 #[] #[])
  fields := #[]
  methods := #[]
  instanceTypes := #[]
  staticTypes := #[]
  resolved := Array.replicate 7 none
  statics := none }

def pool4 : Array CpInfo := pool [(2, .class_ 4), (1, u "java/lang/Object"), (0, u "<init>"), (0, u "()V"), (1, .class_ 10), (1, u "java/lang/Number"), (2, .class_ 14), (0, u "java/io/Serializable"), (0, u "serialVersionUID"), (0, u "J")] 20

def k4m0 : Method := { name := "<init>", desc := "()V", sig := { parameters := [], returnType := none }, accessFlags := 1, code := none }
/-- java/lang/Number -/
def k4 : Class := { plain "java/lang/Number" (some 0) with
  accessFlags := 1057
  interfaces := #[3]
  cf := some (fileOf pool4 8 #[] #[{ accessFlags := 1, nameIndex := 5, descriptorIndex := 6, attributes := #[] }] 1057 2 #[13] #[{ accessFlags := 26, nameIndex := 15, descriptorIndex := 16, attributes := #[] }])
  fields := #[{ name := "serialVersionUID", type := .long, accessFlags := 26, slot := 0, constantValue := 0 }]
  methods := #[k4m0]
  instanceTypes := #[]
  staticTypes := #[.long]
  resolved := Array.replicate 37 none
  statics := none }

def pool5 : Array CpInfo := pool [(1, .class_ 2), (0, u "java/lang/Comparable"), (0, .class_ 4), (0, u "java/lang/Object")] 7

/-- java/lang/Comparable -/
def k5 : Class := { plain "java/lang/Comparable" (some 0) with
  accessFlags := 1537
  interfaces := #[]
  cf := some (fileOf pool5 1 #[] #[] 1537 3 #[] #[])
  fields := #[]
  methods := #[]
  instanceTypes := #[]
  staticTypes := #[]
  resolved := Array.replicate 12 none
  statics := none }

def pool6 : Array CpInfo := pool [(1, .class_ 2), (0, u "java/lang/constant/Constable"), (0, .class_ 4), (0, u "java/lang/Object")] 6

/-- java/lang/constant/Constable -/
def k6 : Class := { plain "java/lang/constant/Constable" (some 0) with
  accessFlags := 1537
  interfaces := #[]
  cf := some (fileOf pool6 1 #[] #[] 1537 3 #[] #[])
  fields := #[]
  methods := #[]
  instanceTypes := #[]
  staticTypes := #[]
  resolved := Array.replicate 11 none
  statics := none }

def pool7 : Array CpInfo := pool [(1, .class_ 2), (0, u "java/lang/constant/ConstantDesc"), (0, .class_ 4), (0, u "java/lang/Object")] 32

/-- java/lang/constant/ConstantDesc -/
def k7 : Class := { plain "java/lang/constant/ConstantDesc" (some 0) with
  accessFlags := 1537
  interfaces := #[]
  cf := some (fileOf pool7 1 #[] #[] 1537 3 #[] #[])
  fields := #[]
  methods := #[]
  instanceTypes := #[]
  staticTypes := #[]
  resolved := Array.replicate 37 none
  statics := none }

def pool8 : Array CpInfo := pool [(1, .class_ 2), (0, u "java/lang/Long"), (15, .class_ 20), (1, u "java/lang/Integer"), (80, u "(J)I"), (133, .class_ 237), (1, u "java/lang/Long$LongCache"), (33, .class_ 272), (0, u "java/lang/Number"), (2, u "value"), (0, u "J"), (33, u "(I)I"), (0, .methodref 18 312), (0, .nameAndType 313 310), (0, u "numberOfTrailingZeros"), (47, u "TYPE"), (0, u "Ljava/lang/Class;"), (0, .class_ 364), (0, u "java/lang/Comparable"), (0, .class_ 366), (0, u "java/lang/constant/Constable"), (0, .class_ 368), (0, u "java/lang/constant/ConstantDesc"), (0, u "MIN_VALUE"), (1, u "MAX_VALUE"), (4, u "SIZE"), (0, u "I"), (1, u "BYTES"), (1, u "serialVersionUID")] 142

def k8c0 : Code := { maxStack := 4, maxLocals := 3, code := jdk_35_method_49_code, exceptionTable := #[], attributes := #[] }
def k8m0 : Method := { name := "numberOfTrailingZeros", desc := "(J)I", sig := { parameters := [.long], returnType := some .int }, accessFlags := 9, code := some k8c0 }
/-- java/lang/Long -/
def k8 : Class := { plain "java/lang/Long" (some 4) with
  accessFlags := 49
  interfaces := #[5, 6, 7]
  cf := some (fileOf pool8 1 #[.nestMembers #[235]] #[{ accessFlags := 9, nameIndex := 313, descriptorIndex := 101, attributes := #[] }] 49 271 #[363, 365, 367] #[{ accessFlags := 25, nameIndex := 369, descriptorIndex := 276, attributes := #[] }, { accessFlags := 25, nameIndex := 371, descriptorIndex := 276, attributes := #[] }, { accessFlags := 25, nameIndex := 361, descriptorIndex := 362, attributes := #[] }, { accessFlags := 18, nameIndex := 275, descriptorIndex := 276, attributes := #[] }, { accessFlags := 25, nameIndex := 376, descriptorIndex := 377, attributes := #[] }, { accessFlags := 25, nameIndex := 379, descriptorIndex := 377, attributes := #[] }, { accessFlags := 26, nameIndex := 381, descriptorIndex := 276, attributes := #[] }])
  fields := #[{ name := "MIN_VALUE", type := .long, accessFlags := 25, slot := 0, constantValue := 0 }, { name := "MAX_VALUE", type := .long, accessFlags := 25, slot := 1, constantValue := 0 }, { name := "TYPE", type := (.object "java/lang/Class"), accessFlags := 25, slot := 2, constantValue := 0 }, { name := "value", type := .long, accessFlags := 18, slot := 0, constantValue := 0 }, { name := "SIZE", type := .int, accessFlags := 25, slot := 3, constantValue := 0 }, { name := "BYTES", type := .int, accessFlags := 25, slot := 4, constantValue := 0 }, { name := "serialVersionUID", type := .long, accessFlags := 26, slot := 5, constantValue := 0 }]
  methods := #[k8m0]
  instanceTypes := #[.long]
  staticTypes := #[.long, .long, (.object "java/lang/Class"), .int, .int, .long]
  resolved := Array.replicate 524 none
  statics := none }

def pool9 : Array CpInfo := pool [(1, .class_ 2), (0, u "java/lang/Integer"), (16, u "digits"), (0, u "[C"), (33, u "(I)I"), (30, u "DigitOnes"), (0, u "[B"), (2, u "DigitTens"), (99, .class_ 190), (0, u "java/lang/Integer$IntegerCache"), (3, u "I"), (8, .class_ 204), (0, u "java/lang/Number"), (2, u "value"), (56, .integer 65536), (37, u "TYPE"), (0, u "Ljava/lang/Class;"), (0, .class_ 305), (0, u "java/lang/Comparable"), (0, .class_ 307), (0, u "java/lang/constant/Constable"), (0, .class_ 309), (0, u "java/lang/constant/ConstantDesc"), (0, u "MIN_VALUE"), (1, u "MAX_VALUE"), (3, u "SIZE"), (1, u "BYTES"), (1, u "serialVersionUID"), (0, u "J"), (84, u "numberOfTrailingZeros")] 46

def k9c0 : Code := { maxStack := 3, maxLocals := 2, code := jdk_33_method_48_code, exceptionTable := #[], attributes := #[] }
def k9m0 : Method := { name := "numberOfTrailingZeros", desc := "(I)I", sig := { parameters := [.int], returnType := some .int }, accessFlags := 9, code := some k9c0 }
/-- java/lang/Integer -/
def k9 : Class := { plain "java/lang/Integer" (some 4) with
  accessFlags := 49
  interfaces := #[5, 6, 7]
  cf := some (fileOf pool9 1 #[.nestMembers #[189]] #[{ accessFlags := 9, nameIndex := 406, descriptorIndex := 54, attributes := #[] }] 49 203 #[304, 306, 308] #[{ accessFlags := 25, nameIndex := 310, descriptorIndex := 194, attributes := #[] }, { accessFlags := 25, nameIndex := 312, descriptorIndex := 194, attributes := #[] }, { accessFlags := 25, nameIndex := 302, descriptorIndex := 303, attributes := #[] }, { accessFlags := 24, nameIndex := 19, descriptorIndex := 20, attributes := #[] }, { accessFlags := 24, nameIndex := 89, descriptorIndex := 86, attributes := #[] }, { accessFlags := 24, nameIndex := 85, descriptorIndex := 86, attributes := #[] }, { accessFlags := 18, nameIndex := 207, descriptorIndex := 194, attributes := #[] }, { accessFlags := 25, nameIndex := 316, descriptorIndex := 194, attributes := #[] }, { accessFlags := 25, nameIndex := 318, descriptorIndex := 194, attributes := #[] }, { accessFlags := 26, nameIndex := 320, descriptorIndex := 321, attributes := #[] }])
  fields := #[{ name := "MIN_VALUE", type := .int, accessFlags := 25, slot := 0, constantValue := 0 }, { name := "MAX_VALUE", type := .int, accessFlags := 25, slot := 1, constantValue := 0 }, { name := "TYPE", type := (.object "java/lang/Class"), accessFlags := 25, slot := 2, constantValue := 0 }, { name := "digits", type := (.array .char), accessFlags := 24, slot := 3, constantValue := 0 }, { name := "DigitTens", type := (.array .byte), accessFlags := 24, slot := 4, constantValue := 0 }, { name := "DigitOnes", type := (.array .byte), accessFlags := 24, slot := 5, constantValue := 0 }, { name := "value", type := .int, accessFlags := 18, slot := 0, constantValue := 0 }, { name := "SIZE", type := .int, accessFlags := 25, slot := 6, constantValue := 0 }, { name := "BYTES", type := .int, accessFlags := 25, slot := 7, constantValue := 0 }, { name := "serialVersionUID", type := .long, accessFlags := 26, slot := 8, constantValue := 0 }]
  methods := #[k9m0]
  instanceTypes := #[.int]
  staticTypes := #[.int, .int, (.object "java/lang/Class"), (.array .char), (.array .byte), (.array .byte), .int, .int, .long]
  resolved := Array.replicate 453 none
  statics := none }

def pool10 : Array CpInfo := pool [(1, u "java/lang/Cloneable"), (0, .class_ 1), (0, u "java/lang/Object"), (0, .class_ 3)] 3

/-- java/lang/Cloneable -/
def k10 : Class := { plain "java/lang/Cloneable" (some 0) with
  accessFlags := 1537
  interfaces := #[]
  cf := some (fileOf pool10 2 #[] #[] 1537 4 #[] #[])
  fields := #[]
  methods := #[]
  instanceTypes := #[]
  staticTypes := #[]
  resolved := Array.replicate 8 none
  statics := none }

/-- the primitive byte -/
def k11 : Class := { plain "byte" none with kind := .primitive 'B', accessFlags := 0x411 }
/-- [B -/
def k12 : Class := { plain "[B" (some 0) with kind := .array 11 .byte, interfaces := #[10, 3], accessFlags := 1041 }

/-- the primitive int -/
def k13 : Class := { plain "int" none with kind := .primitive 'I', accessFlags := 0x411 }
/-- [I -/
def k14 : Class := { plain "[I" (some 0) with kind := .array 13 .int, interfaces := #[10, 3], accessFlags := 1041 }

/-- the primitive long -/
def k15 : Class := { plain "long" none with kind := .primitive 'J', accessFlags := 0x411 }
/-- [J -/
def k16 : Class := { plain "[J" (some 0) with kind := .array 15 .long, interfaces := #[10, 3], accessFlags := 1041 }

def heap : Heap := #[]
def classes : Array Class := #[k0, k1, k2, k3, k4, k5, k6, k7, k8, k9, k10, k11, k12, k13, k14, k15, k16]
def interned : List (Array UInt16 × Addr) := []
def slotsUsed : Nat := 0
def theMethod : MethodId := ⟨1, 1⟩
def args0 : Array Value := #[.int 5, .int 3, .int 7, .int 4, .int 9, .int 12]
def aboutOver (below : List Frame) : State where
  vm := { classes := classes, interned := interned.toArray }
  heap := heap
  slotsUsed := slotsUsed
  threads := #[{ frames := .invoking theMethod args0 :: below }]
def below0 : List Frame := [.native { method := ⟨0, 0⟩, args := #[] }]
def about1 : State := aboutOver below0
def p0 : Program := .bare "" "" ""
def e0 : Env := launch0.env 0 0 0
theorem w_frames : about1.frames = Frame.invoking theMethod args0 :: below0 := rfl
set_option maxRecDepth 65536 in
theorem w_args : argsFit about1.vm theMethod args0 = true := by decide +kernel
set_option maxRecDepth 65536 in
theorem w_heap : heapFits about1 = true := by decide +kernel
set_option maxRecDepth 65536 in
theorem w_runnable : about1.curStatus? = some .runnable := by decide +kernel
set_option maxRecDepth 65536 in
theorem w_alone : about1.alone = true := by decide +kernel
set_option maxRecDepth 65536 in
theorem w_named : about1.methodNamed? x = some theMethod := by decide +kernel
set_option maxRecDepth 65536 in
theorem w_hears : about1.hears theMethod below0 = true := by decide +kernel
set_option maxRecDepth 65536 in
theorem w_ripe : about1.ripe theMethod args0 below0 = true := by decide +kernel
theorem w_running : about1.status = .running := rfl
set_option maxRecDepth 65536 in
theorem w_room : about1.hasRoom e0.platform room_1 = true :=
  launch0.hasRoom_least _ room_1 (by decide +kernel) (by decide +kernel) (by decide +kernel) (by decide +kernel) (by decide +kernel) (by decide +kernel)
theorem allAtoms_all (ts : List Jvm.Cond) (a : Array Jvm.Value) (st : Jvm.State) : (allAtoms ts).before a st = ts.all (fun c => c.before a st) := by
  induction ts with
  | nil => rfl
  | cons c t ih =>
    show (Jvm.Cond.and c (allAtoms t)).before a st = _
    rw [Jvm.Cond.before_and, ih, List.all_cons]
def words1 : List Jvm.Cond := Jvm.Cond.code x code maxLocals ret :: tables_1
/-- a 'code' word, met by the world's own term for the bytes: nothing is compared byte by byte -/
theorem code_word {y : MethodName} {bytes : ByteArray} {mx : Nat} {rt : Option FieldType} {a : Array Value} {s : State} {m : MethodId} {meth : Method} {c : Code} (h1 : s.methodNamed? y = some m) (h2 : s.vm.method? m = some meth) (h3 : meth.code = some c) (h4 : c.code = bytes)
    (h5 : (c.maxLocals == mx && c.exceptionTable.isEmpty && decide (c.maxStack ≤ mostOperands) && decide (meth.sig.returnType = rt) && !meth.locks && decide (parseMethodDescriptor y.desc = some meth.sig)) = true) : (Jvm.Cond.code y bytes mx rt).before a s = true := by
  simp only [Bool.and_eq_true, beq_iff_eq, Bool.not_eq_true', decide_eq_true_eq] at h5
  obtain ⟨⟨⟨⟨⟨g1, g2⟩, g3⟩, g4⟩, g5⟩, g6⟩ := h5
  simp [Cond.before, Cond.holds, Cond.value, h1, h2, h3, h4, g1, g2, g3, g4, g5, g6]
def isCode : Jvm.Cond → Bool
  | .code _ _ _ _ => true
  | _ => false
theorem all_split {L : List Jvm.Cond} {P : Jvm.Cond → Bool} (h1 : L.all (fun c => isCode c || P c) = true) (h2 : ∀ c ∈ L.filter isCode, P c = true) : L.all P = true := by
  refine List.all_eq_true.mpr fun c hc => ?_
  have h := List.all_eq_true.mp h1 c hc
  rcases Bool.eq_false_or_eq_true (isCode c) with hi | hi
  · exact h2 c (List.mem_filter.mpr ⟨hc, hi⟩)
  · simpa [hi] using h
set_option maxRecDepth 65536 in
theorem w_c0 : (Jvm.Cond.code x code maxLocals ret).before args0 about1 = true := code_word (m := ⟨1, 1⟩) (meth := k1m1) (c := k1c1) (by decide +kernel) rfl rfl rfl (by decide +kernel)
set_option maxRecDepth 65536 in
theorem w_c1 : (Jvm.Cond.code ({ cls := "com/example/cutline/cutline/IndexSet", name := "<init>", desc := "(I)V" } : Jvm.MethodName) prog_16_method_1_code (2 : Nat) (Option.none : Option Jvm.ClassFile.FieldType)).before args0 about1 = true := code_word (m := ⟨2, 0⟩) (meth := k2m0) (c := k2c0) (by decide +kernel) rfl rfl rfl (by decide +kernel)
set_option maxRecDepth 65536 in
theorem w_c2 : (Jvm.Cond.code ({ cls := "java/lang/Object", name := "<init>", desc := "()V" } : Jvm.MethodName) object_method_1_code (1 : Nat) (Option.none : Option Jvm.ClassFile.FieldType)).before args0 about1 = true := code_word (m := ⟨0, 0⟩) (meth := k0m0) (c := k0c0) (by decide +kernel) rfl rfl rfl (by decide +kernel)
set_option maxRecDepth 65536 in
theorem w_c3 : (Jvm.Cond.code ({ cls := "com/example/cutline/cutline/IndexSet", name := "remove", desc := "(I)Z" } : Jvm.MethodName) prog_16_method_5_code (5 : Nat) (Option.some Jvm.ClassFile.FieldType.boolean)).before args0 about1 = true := code_word (m := ⟨2, 4⟩) (meth := k2m4) (c := k2c4) (by decide +kernel) rfl rfl rfl (by decide +kernel)
set_option maxRecDepth 65536 in
theorem w_c4 : (Jvm.Cond.code ({ cls := "com/example/cutline/cutline/IndexSet", name := "size", desc := "()I" } : Jvm.MethodName) prog_16_method_2_code (1 : Nat) (Option.some Jvm.ClassFile.FieldType.int)).before args0 about1 = true := code_word (m := ⟨2, 1⟩) (meth := k2m1) (c := k2c1) (by decide +kernel) rfl rfl rfl (by decide +kernel)
set_option maxRecDepth 65536 in
theorem w_c5 : (Jvm.Cond.code ({ cls := "com/example/cutline/cutline/IndexSet", name := "contains", desc := "(I)Z" } : Jvm.MethodName) prog_16_method_3_code (2 : Nat) (Option.some Jvm.ClassFile.FieldType.boolean)).before args0 about1 = true := code_word (m := ⟨2, 2⟩) (meth := k2m2) (c := k2c2) (by decide +kernel) rfl rfl rfl (by decide +kernel)
set_option maxRecDepth 65536 in
theorem w_c6 : (Jvm.Cond.code ({ cls := "com/example/cutline/cutline/IndexSet", name := "next", desc := "(I)I" } : Jvm.MethodName) prog_16_method_8_code (8 : Nat) (Option.some Jvm.ClassFile.FieldType.int)).before args0 about1 = true := code_word (m := ⟨2, 5⟩) (meth := k2m5) (c := k2c5) (by decide +kernel) rfl rfl rfl (by decide +kernel)
set_option maxRecDepth 65536 in
theorem w_c7 : (Jvm.Cond.code ({ cls := "com/example/cutline/cutline/IndexSet", name := "add", desc := "(I)Z" } : Jvm.MethodName) prog_16_method_4_code (5 : Nat) (Option.some Jvm.ClassFile.FieldType.boolean)).before args0 about1 = true := code_word (m := ⟨2, 3⟩) (meth := k2m3) (c := k2c3) (by decide +kernel) rfl rfl rfl (by decide +kernel)
set_option maxRecDepth 65536 in
theorem w_c8 : (Jvm.Cond.code ({ cls := "java/lang/Long", name := "numberOfTrailingZeros", desc := "(J)I" } : Jvm.MethodName) jdk_35_method_49_code (3 : Nat) (Option.some Jvm.ClassFile.FieldType.int)).before args0 about1 = true := code_word (m := ⟨8, 0⟩) (meth := k8m0) (c := k8c0) (by decide +kernel) rfl rfl rfl (by decide +kernel)
set_option maxRecDepth 65536 in
theorem w_c9 : (Jvm.Cond.code ({ cls := "java/lang/Integer", name := "numberOfTrailingZeros", desc := "(I)I" } : Jvm.MethodName) jdk_33_method_48_code (2 : Nat) (Option.some Jvm.ClassFile.FieldType.int)).before args0 about1 = true := code_word (m := ⟨9, 0⟩) (meth := k9m0) (c := k9c0) (by decide +kernel) rfl rfl rfl (by decide +kernel)
def codes1 : List Jvm.Cond := [Jvm.Cond.code x code maxLocals ret, Jvm.Cond.code ({ cls := "com/example/cutline/cutline/IndexSet", name := "<init>", desc := "(I)V" } : Jvm.MethodName) prog_16_method_1_code (2 : Nat) (Option.none : Option Jvm.ClassFile.FieldType), Jvm.Cond.code ({ cls := "java/lang/Object", name := "<init>", desc := "()V" } : Jvm.MethodName) object_method_1_code (1 : Nat) (Option.none : Option Jvm.ClassFile.FieldType), Jvm.Cond.code ({ cls := "com/example/cutline/cutline/IndexSet", name := "remove", desc := "(I)Z" } : Jvm.MethodName) prog_16_method_5_code (5 : Nat) (Option.some Jvm.ClassFile.FieldType.boolean), Jvm.Cond.code ({ cls := "com/example/cutline/cutline/IndexSet", name := "size", desc := "()I" } : Jvm.MethodName) prog_16_method_2_code (1 : Nat) (Option.some Jvm.ClassFile.FieldType.int), Jvm.Cond.code ({ cls := "com/example/cutline/cutline/IndexSet", name := "contains", desc := "(I)Z" } : Jvm.MethodName) prog_16_method_3_code (2 : Nat) (Option.some Jvm.ClassFile.FieldType.boolean), Jvm.Cond.code ({ cls := "com/example/cutline/cutline/IndexSet", name := "next", desc := "(I)I" } : Jvm.MethodName) prog_16_method_8_code (8 : Nat) (Option.some Jvm.ClassFile.FieldType.int), Jvm.Cond.code ({ cls := "com/example/cutline/cutline/IndexSet", name := "add", desc := "(I)Z" } : Jvm.MethodName) prog_16_method_4_code (5 : Nat) (Option.some Jvm.ClassFile.FieldType.boolean), Jvm.Cond.code ({ cls := "java/lang/Long", name := "numberOfTrailingZeros", desc := "(J)I" } : Jvm.MethodName) jdk_35_method_49_code (3 : Nat) (Option.some Jvm.ClassFile.FieldType.int), Jvm.Cond.code ({ cls := "java/lang/Integer", name := "numberOfTrailingZeros", desc := "(I)I" } : Jvm.MethodName) jdk_33_method_48_code (2 : Nat) (Option.some Jvm.ClassFile.FieldType.int)]
set_option maxRecDepth 65536 in
theorem codes_eq : words1.filter isCode = codes1 := rfl
theorem w_codes : ∀ c ∈ words1.filter isCode, c.before args0 about1 = true := by
  rw [codes_eq]
  intro c hc
  simp only [codes1, List.mem_cons, List.not_mem_nil, or_false] at hc
  rcases hc with rfl | rfl | rfl | rfl | rfl | rfl | rfl | rfl | rfl | rfl
  · exact w_c0
  · exact w_c1
  · exact w_c2
  · exact w_c3
  · exact w_c4
  · exact w_c5
  · exact w_c6
  · exact w_c7
  · exact w_c8
  · exact w_c9
set_option maxRecDepth 65536 in
theorem w_t1 : (words1.take 24).all (fun c => isCode c || c.before args0 about1) = true := by decide +kernel
set_option maxRecDepth 65536 in
theorem w_t2 : ((words1.drop 24).take 24).all (fun c => isCode c || c.before args0 about1) = true := by decide +kernel
set_option maxRecDepth 65536 in
theorem w_t3 : ((words1.drop 24).drop 24).all (fun c => isCode c || c.before args0 about1) = true := by decide +kernel
theorem w_tables : (allAtoms (Jvm.Cond.code x code maxLocals ret :: tables_1)).before args0 about1 = true := by
  rw [allAtoms_all]
  show words1.all (fun c => c.before args0 about1) = true
  refine all_split ?_ w_codes
  rw [← List.take_append_drop 24 words1, List.all_append, w_t1, ← List.take_append_drop 24 (words1.drop 24), List.all_append, w_t2, w_t3]
  rfl
set_option maxRecDepth 65536 in
theorem w_case : (Jvm.Cond.and given_1 narrow_1).before args0 about1 = true := by decide +kernel
theorem w_applies : (headSpec (Jvm.Cond.code x code maxLocals ret :: tables_1) room_1).applies x e0.platform about1 = true :=
  (Spec.applies_iff w_frames).mpr ⟨w_running, w_runnable, w_alone, w_named, w_hears, w_ripe, w_room, w_tables⟩
theorem atStart : AtStart classFile x code maxLocals ret World_1 tables_1 room_1 Calls_1 rest_1 Pre_1 launch0 p0 e0 about1 theMethod args0 below0 :=
  ⟨lists_1, trivial, launch0.admits_env _ _ _, launch0.least_env, fairChoices_fair.cas, fairChoices_fair.clock, w_frames, w_args, w_heap, w_applies, trivial, trivial, w_case⟩
end start1
theorem witness_1 : WitnessClaimed_1 := ⟨start1.p0, start1.e0, start1.about1, start1.theMethod, start1.args0, start1.below0, start1.atStart⟩
end Jvm.Pilot.@@N@@
