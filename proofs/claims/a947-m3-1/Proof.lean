import JvmDerived
import JvmDerived.Pilot.@@N@@Statement
import JvmDerived.Pilot.@@N@@Code
set_option linter.unusedVariables false
set_option linter.unusedSimpArgs false
namespace Jvm.RoadKit
open Sem ClassFile Op Lib Jvm.Stand Jvm.Free Jvm.LawKit
section New
variable {p : Program} {l : Launch} {e : Env} {R : Room} {s : State} {m : MethodId} {args : Array Value} {below : List Frame} {meth : Method} {c : Code} {T : State} {locs : List Loc} {cells slots : Nat}
theorem retI (X : Stand p l e R s m args below meth c T locs cells slots) (hx : p.tables.exec = Jvm.exec) {pc : Nat} {Ls : Array Slot} {z : Int32} {rest : List Value} (hret : meth.sig.returnType = some .int) (hd : decode c.code pc = .ok (.ireturn, 1)) {fs : List Frame}
    (hl : ∀ (f : JFrame) (acts : List Action), f.method = m → f.locked = none → f.entered = [] → (doReturn e (T.setTop f) acts (some (.int z))).1 = T.setFrames fs) : Steps p.tables e below (T.setTop (mkF m pc Ls (.int z :: rest))) (T.setFrames fs) := by
  have hm' : T.vm.method? m = some meth := X.method'
  have hn : narrow .int (.int z) = .int z := rfl
  show Steps p.tables e below (T.setTop { method := m, pc := pc, locals := Ls, stack := _ :: rest, locked := none }) _
  jvm_step X.here [X.here.top, hx, hd, hm', hret, hn]
  first | (intro acts; rw [hl _ acts rfl rfl rfl]) | rw [hl _ _ rfl rfl rfl]
  exact Steps.refl _
end New
end Jvm.RoadKit
namespace Jvm.OwnKit
open Sem ClassFile Op Lib Jvm.Stand Jvm.Free Jvm.LawKit Jvm.RoadKit
def b2i (b : Bool) : Int32 := if b = true then 1 else 0
theorem b2i_eq {b : Bool} (h : ¬ b = true) : b2i b = 0 := if_neg h
theorem b2i_ne {b : Bool} (h : b = true) : ¬ b2i b = 0 := by rw [b2i, if_pos h]; decide
theorem nar_b2i (b : Bool) : nar .boolean (b2i b) = b2i b := by cases b <;> decide
theorem b2i_one {b : Bool} (h : b = true) : nar .boolean (b2i b) = 1 := by rw [h]; decide
end Jvm.OwnKit
namespace Jvm.OwnKit
open Sem ClassFile Op Lib Jvm.Stand Jvm.Free Jvm.LawKit Jvm.RoadKit
section Arrays
variable {Z : State} {h h' : Heap} {a b : Addr} {ty : FieldType} {z : Int32} {G : Int32 → Value}
def AG (Z : State) (h : Heap) (a : Addr) (ty : FieldType) (z : Int32) (G : Int32 → Value) : Prop := ∃ c : Cell, Arr Z h a c ty ∧ c.slots.size = z.toNatClampNeg ∧ ¬ z < 0 ∧ ∀ j : Int32, ¬ j < 0 → j < z → c.slots[j.toNatClampNeg]? = some (G j)
def AJ (Z : State) (h : Heap) (a : Addr) (z : Int32) (f : Int32 → Int64) : Prop := AG Z h a .long z (fun i => .long (f i))
def AI (Z : State) (h : Heap) (a : Addr) (ty : FieldType) (z : Int32) (f : Int32 → Int32) : Prop := AG Z h a ty z (fun i => .int (f i))
def upd {α : Type} (f : Int32 → α) (j : Int32) (v : α) : Int32 → α := fun i => if i = j then v else f i
theorem upd_hit {α : Type} {f : Int32 → α} {j : Int32} {v : α} : upd f j v j = v := if_pos rfl
theorem upd_miss {α : Type} {f : Int32 → α} {i j : Int32} {v : α} (q : ¬ i = j) : upd f j v i = f i := if_neg q
theorem AG.lt (F : AG Z h a ty z G) : a < h.size := by obtain ⟨c, A, -⟩ := F; exact A.lt
theorem AG.ext (F : AG Z h a ty z G) (E : Ext h h') : AG Z h' a ty z G := by obtain ⟨c, A, r⟩ := F; exact ⟨c, A.ext E, r⟩
theorem AG.other (F : AG Z h b ty z G) {sl : Nat} {v : Value} (W : Wr h h' a sl v) (q : b ≠ a) : AG Z h' b ty z G := by obtain ⟨c, A, r⟩ := F; exact ⟨c, A.other W q, r⟩
theorem AG.new {k : ClassId} (A : Arr Z h a (newA k ty z) ty) (q : ¬ z < 0) : AG Z h a ty z (fun _ => defaultValue ty) :=
  ⟨_, A, sz_new _ _ _, q, fun j h1 h2 => get_new (by have w := inb_of (sz_new k ty z) ⟨h1, h2⟩; rwa [sz_new] at w)⟩
theorem AG.set (F : AG Z h a ty z G) {j : Int32} {v : Value} (W : Wr h h' a j.toNatClampNeg v) (q : ¬ j < 0 ∧ j < z) : AG Z h' a ty z (upd G j v) := by
  obtain ⟨c, A, S, M, H⟩ := F
  refine ⟨_, A.same W, by rw [sz_set]; exact S, M, fun i h1 h2 => ?_⟩
  by_cases e : i = j
  · rw [upd, if_pos e]; exact get_hit (inb_of S q) e
  · rw [upd, if_neg e, get_miss q.1 h1 e]; exact H i h1 h2
theorem AG.keep (F : AG Z h a ty z G) {ws : List Addr} (K : Keep h h' ws) (q : a ∉ ws) : AG Z h' a ty z G := by obtain ⟨c, A, r⟩ := F; exact ⟨c, ⟨K.2.1 a c A.1 q, A.2⟩, r⟩
theorem AJ.keep {f : Int32 → Int64} (F : AJ Z h a z f) {ws : List Addr} (K : Keep h h' ws) (q : a ∉ ws) : AJ Z h' a z f := AG.keep F K q
theorem AI.keep {f : Int32 → Int32} (F : AI Z h a ty z f) {ws : List Addr} (K : Keep h h' ws) (q : a ∉ ws) : AI Z h' a ty z f := AG.keep F K q
theorem AJ.lt {f : Int32 → Int64} (F : AJ Z h a z f) : a < h.size := AG.lt F
theorem AI.lt {f : Int32 → Int32} (F : AI Z h a ty z f) : a < h.size := AG.lt F
theorem AJ.ext {f : Int32 → Int64} (F : AJ Z h a z f) (E : Ext h h') : AJ Z h' a z f := AG.ext F E
theorem AI.ext {f : Int32 → Int32} (F : AI Z h a ty z f) (E : Ext h h') : AI Z h' a ty z f := AG.ext F E
theorem AJ.other {f : Int32 → Int64} (F : AJ Z h b z f) {sl : Nat} {v : Value} (W : Wr h h' a sl v) (q : b ≠ a) : AJ Z h' b z f := AG.other F W q
theorem AI.other {f : Int32 → Int32} (F : AI Z h b ty z f) {sl : Nat} {v : Value} (W : Wr h h' a sl v) (q : b ≠ a) : AI Z h' b ty z f := AG.other F W q
theorem AJ.set {f : Int32 → Int64} (F : AJ Z h a z f) {j : Int32} {v : Int64} (W : Wr h h' a j.toNatClampNeg (.long v)) (q : ¬ j < 0 ∧ j < z) : AJ Z h' a z (upd f j v) := by
  have e : (fun i => Value.long (upd f j v i)) = upd (fun i => Value.long (f i)) j (.long v) := funext fun i => by unfold upd; split <;> rfl
  unfold AJ; rw [e]; exact AG.set F W q
theorem AI.set {f : Int32 → Int32} (F : AI Z h a ty z f) {j v : Int32} (W : Wr h h' a j.toNatClampNeg (.int v)) (q : ¬ j < 0 ∧ j < z) : AI Z h' a ty z (upd f j v) := by
  have e : (fun i => Value.int (upd f j v i)) = upd (fun i => Value.int (f i)) j (.int v) := funext fun i => by unfold upd; split <;> rfl
  unfold AI; rw [e]; exact AG.set F W q
theorem AJ.congr {f g : Int32 → Int64} (F : AJ Z h a z f) (q : ∀ j : Int32, ¬ j < 0 → j < z → f j = g j) : AJ Z h a z g := by
  obtain ⟨c, A, S, M, H⟩ := F; exact ⟨c, A, S, M, fun j h1 h2 => (H j h1 h2).trans (congrArg (fun v => some (Value.long v)) (q j h1 h2))⟩
theorem AI.congr {f g : Int32 → Int32} (F : AI Z h a ty z f) (q : ∀ j : Int32, ¬ j < 0 → j < z → f j = g j) : AI Z h a ty z g := by
  obtain ⟨c, A, S, M, H⟩ := F; exact ⟨c, A, S, M, fun j h1 h2 => (H j h1 h2).trans (congrArg (fun v => some (Value.int v)) (q j h1 h2))⟩
theorem AJ.new {k : ClassId} (A : Arr Z h a (newA k .long z) .long) (q : ¬ z < 0) : AJ Z h a z (fun _ => 0) := AG.new A q
theorem AI.new {k : ClassId} (A : Arr Z h a (newA k .int z) .int) (q : ¬ z < 0) : AI Z h a .int z (fun _ => 0) := AG.new A q
theorem AI.newB {k : ClassId} (A : Arr Z h a (newA k .byte z) .byte) (q : ¬ z < 0) : AI Z h a .byte z (fun _ => 0) := AG.new A q
theorem AI.newZ {k : ClassId} (A : Arr Z h a (newA k .boolean z) .boolean) (q : ¬ z < 0) : AI Z h a .boolean z (fun _ => 0) := AG.new A q
variable {p : Program} {l : Launch} {e : Env} {R : Room} {s : State} {m : MethodId} {args : Array Value} {below : List Frame} {meth : Method} {c : Code} {T : State} {locs : List Loc} {cells slots : Nat} {g : JFrame} {rest : List Value} {j : Int32}
theorem rdJ {f : Int32 → Int64} {y : Int64} (X : Stand p l e R s m args below meth c T locs cells slots) (hx : p.tables.exec = Jvm.exec) (hZ : Z.Warmed39 s.vm) (eT : T.heap = h) (F : AJ Z h a z f) (q : ¬ j < 0 ∧ j < z) (hv : f j = y) (hg : g.method = m) (hs : g.stack = .int j :: .ref a :: rest) (hd : decode c.code g.pc = .ok (.laload, 1)) (target : State)
    (hr : Steps p.tables e below (T.setTop { g with pc := g.pc + 1, stack := .long y :: rest }) target) : Steps p.tables e below (T.setTop g) target := by
  subst hv
  obtain ⟨cl, A, S, M, H⟩ := F
  exact X.laload hx (by rw [eT]; exact A.1) (State.isArrayOf_alike hZ.alike A.2.1) A.2.2 (inb_of S q) (H j q.1 q.2) hg hs hd target hr
theorem rdI {f : Int32 → Int32} {y : Int32} (X : Stand p l e R s m args below meth c T locs cells slots) (hx : p.tables.exec = Jvm.exec) (hZ : Z.Warmed39 s.vm) (eT : T.heap = h) (F : AI Z h a .int z f) (q : ¬ j < 0 ∧ j < z) (hv : f j = y) (hg : g.method = m) (hs : g.stack = .int j :: .ref a :: rest) (hd : decode c.code g.pc = .ok (.iaload, 1)) (target : State)
    (hr : Steps p.tables e below (T.setTop { g with pc := g.pc + 1, stack := .int y :: rest }) target) : Steps p.tables e below (T.setTop g) target := by
  subst hv
  obtain ⟨cl, A, S, M, H⟩ := F
  exact X.iaload hx (by rw [eT]; exact A.1) (State.isArrayOf_alike hZ.alike A.2.1) A.2.2 (inb_of S q) (H j q.1 q.2) hg hs hd target hr
theorem rdB {f : Int32 → Int32} {y : Int32} (X : Stand p l e R s m args below meth c T locs cells slots) (hx : p.tables.exec = Jvm.exec) (hZ : Z.Warmed39 s.vm) (eT : T.heap = h) (F : AI Z h a .byte z f) (q : ¬ j < 0 ∧ j < z) (hv : f j = y) (hg : g.method = m) (hs : g.stack = .int j :: .ref a :: rest) (hd : decode c.code g.pc = .ok (.baload, 1)) (target : State)
    (hr : Steps p.tables e below (T.setTop { g with pc := g.pc + 1, stack := .int y :: rest }) target) : Steps p.tables e below (T.setTop g) target := by
  subst hv
  obtain ⟨cl, A, S, M, H⟩ := F
  exact X.baloadBytes hx (by rw [eT]; exact A.1) (State.isArrayOf_alike hZ.alike A.2.1) A.2.2 (inb_of S q) (H j q.1 q.2) hg hs hd target hr
theorem rdZ {f : Int32 → Int32} {y : Int32} (X : Stand p l e R s m args below meth c T locs cells slots) (hx : p.tables.exec = Jvm.exec) (hZ : Z.Warmed39 s.vm) (eT : T.heap = h) (F : AI Z h a .boolean z f) (q : ¬ j < 0 ∧ j < z) (hv : f j = y) (hg : g.method = m) (hs : g.stack = .int j :: .ref a :: rest) (hd : decode c.code g.pc = .ok (.baload, 1)) (target : State)
    (hr : Steps p.tables e below (T.setTop { g with pc := g.pc + 1, stack := .int y :: rest }) target) : Steps p.tables e below (T.setTop g) target := by
  subst hv
  obtain ⟨cl, A, S, M, H⟩ := F
  exact X.baloadBooleans hx (by rw [eT]; exact A.1) (State.isArrayOf_alike hZ.alike A.2.1) A.2.2 (inb_of S q) (H j q.1 q.2) hg hs hd target hr
theorem lnG (X : Stand p l e R s m args below meth c T locs cells slots) (hx : p.tables.exec = Jvm.exec) (hZ : Z.Warmed39 s.vm) (eT : T.heap = h) (F : AG Z h a ty z G) (hg : g.method = m) (hs : g.stack = .ref a :: rest) (hd : decode c.code g.pc = .ok (.arraylength, 1)) (target : State)
    (hr : Steps p.tables e below (T.setTop { g with pc := g.pc + 1, stack := .int z :: rest }) target) : Steps p.tables e below (T.setTop g) target := by
  obtain ⟨cl, A, S, M, H⟩ := F
  refine X.arraylength hx (by rw [eT]; exact A.1) (State.isArrayOf_alike hZ.alike A.2.1) hg hs hd target ?_
  rw [len_of S M]; exact hr
theorem wrJ {f : Int32 → Int64} {x : Int64} (X : Stand p l e R s m args below meth c T locs cells slots) (hx : p.tables.exec = Jvm.exec) (hZ : Z.Warmed39 s.vm) (eT : T.heap = h) (F : AJ Z h a z f) (q : ¬ j < 0 ∧ j < z) (hg : g.method = m) (hs : g.stack = .long x :: .int j :: .ref a :: rest) (hd : decode c.code g.pc = .ok (.lastore, 1)) :
    ∃ T' h', Stand p l e R s m args below meth c T' (locs ++ [⟨a, j.toNatClampNeg⟩]) cells slots ∧ T'.heap = h' ∧ Wr h h' a j.toNatClampNeg (.long x) ∧ AJ Z h' a z (upd f j x) ∧ ∀ target, Steps p.tables e below (T'.setTop { g with pc := g.pc + 1, stack := rest }) target → Steps p.tables e below (T.setTop g) target := by
  have F' := F
  obtain ⟨cl, A, S, M, H⟩ := F
  obtain ⟨T', h', X', e', W, st⟩ := stJ X hx hZ eT A (inb_of S q) hg hs hd
  exact ⟨T', h', X', e', W, AJ.set F' W q, st⟩
theorem wrI {f : Int32 → Int32} {x : Int32} (X : Stand p l e R s m args below meth c T locs cells slots) (hx : p.tables.exec = Jvm.exec) (hZ : Z.Warmed39 s.vm) (eT : T.heap = h) (F : AI Z h a .int z f) (q : ¬ j < 0 ∧ j < z) (hg : g.method = m) (hs : g.stack = .int x :: .int j :: .ref a :: rest) (hd : decode c.code g.pc = .ok (.iastore, 1)) :
    ∃ T' h', Stand p l e R s m args below meth c T' (locs ++ [⟨a, j.toNatClampNeg⟩]) cells slots ∧ T'.heap = h' ∧ Wr h h' a j.toNatClampNeg (.int x) ∧ AI Z h' a .int z (upd f j x) ∧ ∀ target, Steps p.tables e below (T'.setTop { g with pc := g.pc + 1, stack := rest }) target → Steps p.tables e below (T.setTop g) target := by
  have F' := F
  obtain ⟨cl, A, S, M, H⟩ := F
  obtain ⟨T', h', X', e', W, st⟩ := stI X hx hZ eT A (inb_of S q) hg hs hd
  exact ⟨T', h', X', e', W, AI.set F' W q, st⟩
theorem wrB {f : Int32 → Int32} {x y : Int32} (X : Stand p l e R s m args below meth c T locs cells slots) (hx : p.tables.exec = Jvm.exec) (hZ : Z.Warmed39 s.vm) (eT : T.heap = h) (F : AI Z h a .byte z f) (q : ¬ j < 0 ∧ j < z) (hn : nar .byte x = y) (hg : g.method = m) (hs : g.stack = .int x :: .int j :: .ref a :: rest) (hd : decode c.code g.pc = .ok (.bastore, 1)) :
    ∃ T' h', Stand p l e R s m args below meth c T' (locs ++ [⟨a, j.toNatClampNeg⟩]) cells slots ∧ T'.heap = h' ∧ Wr h h' a j.toNatClampNeg (.int y) ∧ AI Z h' a .byte z (upd f j y) ∧ ∀ target, Steps p.tables e below (T'.setTop { g with pc := g.pc + 1, stack := rest }) target → Steps p.tables e below (T.setTop g) target := by
  have F' := F
  obtain ⟨cl, A, S, M, H⟩ := F
  obtain ⟨T', h', X', e', W, st⟩ := stB X hx hZ eT A (inb_of S q) hg hs hd
  rw [hn] at W
  exact ⟨T', h', X', e', W, AI.set F' W q, st⟩
theorem wrZ {f : Int32 → Int32} {x y : Int32} (X : Stand p l e R s m args below meth c T locs cells slots) (hx : p.tables.exec = Jvm.exec) (hZ : Z.Warmed39 s.vm) (eT : T.heap = h) (F : AI Z h a .boolean z f) (q : ¬ j < 0 ∧ j < z) (hn : nar .boolean x = y) (hg : g.method = m) (hs : g.stack = .int x :: .int j :: .ref a :: rest) (hd : decode c.code g.pc = .ok (.bastore, 1)) :
    ∃ T' h', Stand p l e R s m args below meth c T' (locs ++ [⟨a, j.toNatClampNeg⟩]) cells slots ∧ T'.heap = h' ∧ Wr h h' a j.toNatClampNeg (.int y) ∧ AI Z h' a .boolean z (upd f j y) ∧ ∀ target, Steps p.tables e below (T'.setTop { g with pc := g.pc + 1, stack := rest }) target → Steps p.tables e below (T.setTop g) target := by
  have F' := F
  obtain ⟨cl, A, S, M, H⟩ := F
  obtain ⟨T', h', X', e', W, st⟩ := stZ X hx hZ eT A (inb_of S q) hg hs hd
  rw [hn] at W
  exact ⟨T', h', X', e', W, AI.set F' W q, st⟩
theorem nar_byte (x : Int32) : nar .byte x.toInt8.toInt32 = x.toInt8.toInt32 := by
  show x.toInt8.toInt32.toInt8.toInt32 = x.toInt8.toInt32
  rw [Int8.toInt8_toInt32]
end Arrays
end Jvm.OwnKit
namespace Jvm.Pilot.@@N@@
open Jvm Jvm.ClassFile Sem Op Lib Jvm.Free Jvm.Stand Jvm.LawKit Jvm.RoadKit Jvm.OwnKit Bundle Jvm.Pilot.@@N@@.Jvm.D
def own_ix (i : Int32) : Int32 := ((i.toUInt32 >>> ((6 : Int32) &&& 31).toUInt32).toInt32)
def own_bit (i : Int32) : Int64 := ((1 : Int64) <<< (i &&& 0x3f).toInt64)
def own_nw (i : Int32) : Int32 := (((i + (63 : Int32)).toUInt32 >>> ((6 : Int32) &&& 31).toUInt32).toInt32)
theorem own_shr6 (x : Int32) : (own_ix x).toInt = (x.toInt % 4294967296) / 64 := c_iushr x 6 6 (by decide) (by decide)
theorem own_nwv (p : Int32) (h0 : 0 ≤ p.toInt) (h1 : p.toInt ≤ 16384) : (own_nw p).toInt = (p.toInt + 63) / 64 := by
  have a := c_iadd p 63
  have b := rng32 (p + 63)
  have l : (63 : Int32).toInt = 63 := by decide
  have c : (own_nw p).toInt = ((p + 63).toInt % 4294967296) / 64 := own_shr6 (p + 63)
  omega
theorem own_capn (z : Int32) (h0 : 0 ≤ z.toInt) : ¬ z < 0 := by
  rw [Int32.lt_iff_toInt_lt]
  have l : (0 : Int32).toInt = 0 := by decide
  omega
theorem own_capc (z : Int32) (n : Nat) (h0 : 0 ≤ z.toInt) (h1 : z.toInt ≤ n) : z.toNatClampNeg ≤ n := by
  have := nat_of (own_capn z h0)
  omega
def IS0 (Z : State) (h : Heap) (n0 : Nat) (ob : Addr) (c0 : Int32) : Prop := Exa Z h ob "com/example/cutline/cutline/IndexSet" ∧ Fld Z h ob "com/example/cutline/cutline/IndexSet" "capacity" "I" (.int c0) ∧ Fld Z h ob "com/example/cutline/cutline/IndexSet" "words" "[J" .null ∧ Fld Z h ob "com/example/cutline/cutline/IndexSet" "summary" "[J" .null ∧ Fld Z h ob "com/example/cutline/cutline/IndexSet" "size" "I" (.int (0 : Int32)) ∧ n0 ≤ ob ∧ n0 ≤ h.size
def IS (Z : State) (h : Heap) (n0 : Nat) (ob : Addr) (aw : Addr) (au : Addr) (cap : Int32) (sz : Int32) (nw : Int32) (w : Int32 → Int64) (nu : Int32) (u : Int32 → Int64) : Prop := Exa Z h ob "com/example/cutline/cutline/IndexSet" ∧ Fld Z h ob "com/example/cutline/cutline/IndexSet" "capacity" "I" (.int cap) ∧ Fld Z h ob "com/example/cutline/cutline/IndexSet" "words" "[J" (.ref aw) ∧ Fld Z h ob "com/example/cutline/cutline/IndexSet" "summary" "[J" (.ref au) ∧ Fld Z h ob "com/example/cutline/cutline/IndexSet" "size" "I" (.int sz) ∧ AJ Z h aw nw w ∧ AJ Z h au nu u ∧ n0 ≤ ob ∧ n0 ≤ aw ∧ n0 ≤ au ∧ ob ≠ aw ∧ ob ≠ au ∧ aw ≠ au ∧ n0 ≤ h.size
theorem d1_0 : decode prog_16_method_1_code 0 = .ok (.aload_n 0, 1) := by decide +kernel
theorem d1_1 : decode prog_16_method_1_code 1 = .ok (.invokespecial 1, 3) := by decide +kernel
theorem d1_4 : decode prog_16_method_1_code 4 = .ok (.aload_n 0, 1) := by decide +kernel
theorem d1_5 : decode prog_16_method_1_code 5 = .ok (.iload_n 1, 1) := by decide +kernel
theorem d1_6 : decode prog_16_method_1_code 6 = .ok (.putfield 7, 3) := by decide +kernel
theorem d1_9 : decode prog_16_method_1_code 9 = .ok (.aload_n 0, 1) := by decide +kernel
theorem d1_10 : decode prog_16_method_1_code 10 = .ok (.iload_n 1, 1) := by decide +kernel
theorem d1_11 : decode prog_16_method_1_code 11 = .ok (.bipush 63, 2) := by decide +kernel
theorem d1_13 : decode prog_16_method_1_code 13 = .ok (.iadd, 1) := by decide +kernel
theorem d1_14 : decode prog_16_method_1_code 14 = .ok (.bipush 6, 2) := by decide +kernel
theorem d1_16 : decode prog_16_method_1_code 16 = .ok (.iushr, 1) := by decide +kernel
theorem d1_17 : decode prog_16_method_1_code 17 = .ok (.newarray .long, 2) := by decide +kernel
theorem d1_19 : decode prog_16_method_1_code 19 = .ok (.putfield 13, 3) := by decide +kernel
theorem d1_22 : decode prog_16_method_1_code 22 = .ok (.aload_n 0, 1) := by decide +kernel
theorem d1_23 : decode prog_16_method_1_code 23 = .ok (.aload_n 0, 1) := by decide +kernel
theorem d1_24 : decode prog_16_method_1_code 24 = .ok (.getfield 13, 3) := by decide +kernel
theorem d1_27 : decode prog_16_method_1_code 27 = .ok (.arraylength, 1) := by decide +kernel
theorem d1_28 : decode prog_16_method_1_code 28 = .ok (.bipush 63, 2) := by decide +kernel
theorem d1_30 : decode prog_16_method_1_code 30 = .ok (.iadd, 1) := by decide +kernel
theorem d1_31 : decode prog_16_method_1_code 31 = .ok (.bipush 6, 2) := by decide +kernel
theorem d1_33 : decode prog_16_method_1_code 33 = .ok (.iushr, 1) := by decide +kernel
theorem d1_34 : decode prog_16_method_1_code 34 = .ok (.newarray .long, 2) := by decide +kernel
theorem d1_36 : decode prog_16_method_1_code 36 = .ok (.putfield 17, 3) := by decide +kernel
theorem d1_39 : decode prog_16_method_1_code 39 = .ok (.return_, 1) := by decide +kernel
theorem pn_1 : plainName "com/example/cutline/cutline/IndexSet" = true := by first | (simp [plainName, overriddenIn]; done) | decide +kernel
theorem ef_1 (m : MethodId) (x0 : Addr) (x1 : Int32) : entryFrame m #[(.ref x0), (.int x1)] 2 = mkF m 0 #[.val (.ref x0), .val (.int x1)] [] := by first | (simp [entryFrame, mkF, argsToLocals, Value.category]; done) | rfl
def Q1 (Z : State) (ob : Addr) (p0 : Int32) (c0 : Int32) (h0 : Heap) (n0 : Nat) (v : Option Value) (h : Heap) (L : List Loc) : Prop := v = none ∧ Fr n0 L ∧ ∃ aw au : Addr, IS Z h n0 ob aw au p0 0 (own_nw p0) (fun _ => 0) (own_nw (own_nw p0)) (fun _ => 0)
set_option maxRecDepth 65536 in
set_option maxHeartbeats 40000000 in
theorem rm1 (l : Launch) (Z : State) (a0 : Array Value) (hw : ∀ d ∈ tables_1, d.before a0 Z = true) (ws : List Jvm.Cond) (ob : Addr) (p0 : Int32) (c0 : Int32) (h0 : Heap) (n0 : Nat) (Z0 : n0 ≤ h0.size) (I0 : IS0 Z h0 n0 ob c0) (hp0 : 0 ≤ p0.toInt) (hp1 : p0.toInt ≤ 16384) :
    MetFree l (⟨"com/example/cutline/cutline/IndexSet", "<init>", "(I)V"⟩ : MethodName) (head1 (Jvm.Cond.code (⟨"com/example/cutline/cutline/IndexSet", "<init>", "(I)V"⟩ : MethodName) prog_16_method_1_code 2 none :: ws) ({ frames := 1, cells := 2, slots := 260, locals := 12 } : Room)) (fun a U => a = #[(.ref ob), (.int p0)] ∧ Z.Warmed39 U.vm ∧ U.heap = h0) (fun _ _ _ _ _ => True) (fun _ U o U' => ∃ v L, o = .returned v ∧ Q1 Z ob p0 c0 h0 n0 v U'.heap L ∧ FrameEnd U o U' L ({ frames := 1, cells := 2, slots := 260, locals := 12 } : Room).cells ({ frames := 1, cells := 2, slots := 260, locals := 12 } : Room).slots) := by
  refine MetFree.of_bodySF (plainFor_of_name pn_1) hisR ?_
  intro p e s m args below meth c s₁ Bd hml0 hP hK
  obtain ⟨rfl, hZ, hh⟩ := hP
  have hx := Bd.exec
  have hby := Bd.bytes
  have hml : c.maxLocals = 2 := hml0
  have hown : s.vm.findClass "com/example/cutline/cutline/IndexSet" = some m.cls := findClass_of_methodNamed Bd.named
  have hnm := (name_of_methodNamed Bd.named Bd.method).1
  have X0 : Stand p l e ({ frames := 1, cells := 2, slots := 260, locals := 12 } : Room) s m #[(.ref ob), (.int p0)] below meth c s₁ [] 0 0 := Stand.of_body Bd
  have e0 : s₁.heap = h0 := by rw [← hh, Bd.state]; rfl
  have N0 := Fr.nil n0
  have pre0 : ∀ t, Steps p.tables e below (s₁.setTop (mkF m 0 #[.val (.ref ob), .val (.int p0)] [])) t → Steps p.tables e below (s₁.setTop (entryFrame m #[(.ref ob), (.int p0)] 2)) t := fun t k => castTop (ef_1 m ob p0) k
  obtain ⟨k1_0, k1_1, k1_2, k1_3, k1_4, k1_g_ob, k1_sz⟩ := I0
  obtain ⟨T2, X2, e2, st2⟩ := initO X0 hx hZ hown (hw _ (List.mem_of_getElem? (i := 7) rfl)) (hw _ (List.mem_of_getElem? (i := 8) rfl)) (hw _ (List.mem_of_getElem? (i := 9) rfl)) e0 (g := (mkF m 1 #[.val (.ref ob), .val (.int p0)] [(.ref ob)])) rfl (by rw [hml]; rfl) rfl (hb hby d1_1) (by decide) (W := 0) (by show 2 * 0 + _ ≤ _; exact Nat.le_of_eq rfl) (by decide)
  obtain ⟨T3, h3, X3, e3, W3, st3⟩ := putF X2 hx hZ hown (host := "") (Or.inl (hw _ (List.mem_of_getElem? (i := 10) rfl))) Via.refl e2 k1_1 k1_0 (Or.inr ⟨(hw _ (List.mem_of_getElem? (i := 11) rfl)), rfl, hnm⟩) (hw _ (List.mem_of_getElem? (i := 2) rfl)) (ty := .int) (by decide) rfl rfl (g := (mkF m 6 #[.val (.ref ob), .val (.int p0)] [(.int p0), (.ref ob)])) rfl rfl (hb hby d1_6)
  have f4 := (k1_2.other W3 (Or.inr (slot_ne (Or.inr (hw _ (List.mem_of_getElem? (i := 14) rfl))) (Or.inr (hw _ (List.mem_of_getElem? (i := 11) rfl))) (by decide) (t := (.array .long)) (t' := .int) (by decide) (by decide))))
  have f5 := (k1_3.other W3 (Or.inr (slot_ne (Or.inr (hw _ (List.mem_of_getElem? (i := 16) rfl))) (Or.inr (hw _ (List.mem_of_getElem? (i := 11) rfl))) (by decide) (t := (.array .long)) (t' := .int) (by decide) (by decide))))
  have f6 := (k1_4.other W3 (Or.inr (slot_ne (Or.inl (hw _ (List.mem_of_getElem? (i := 23) rfl))) (Or.inr (hw _ (List.mem_of_getElem? (i := 11) rfl))) (by decide) (t := .int) (t' := .int) (by decide) (by decide))))
  have Z3 : n0 ≤ h3.size := Nat.le_trans Z0 (Keep.of_wr W3).1
  have N3 := Fr.snoc X3 N0 k1_g_ob
  obtain ⟨T7, h7, k7, X7, e7, E7, A7, st7⟩ := newP X3 hx hZ (hw _ (List.mem_of_getElem? (i := 12) rfl)) e3 (g := (mkF m 17 #[.val (.ref ob), .val (.int p0)] [(.int (own_nw p0)), (.ref ob)])) rfl (hb hby d1_17) rfl (own_capn _ (by have := own_nwv p0 hp0 hp1; omega)) (cap := 256) (own_capc _ 256 (by have := own_nwv p0 hp0 hp1; omega) (by have := own_nwv p0 hp0 hp1; omega)) (by decide) (by decide) (by decide)
  obtain ⟨b7, g7⟩ : ∃ z, z = h3.size := ⟨_, rfl⟩
  rw [← g7] at A7 st7
  have ne_ob_b7 : ob ≠ b7 := Nat.ne_of_lt (Nat.lt_of_lt_of_le (k1_0.wr W3).lt (Nat.le_of_eq g7.symm))
  have ge_b7 : n0 ≤ b7 := Nat.le_trans Z3 (Nat.le_of_eq g7.symm)
  have Z7 : n0 ≤ h7.size := Nat.le_trans Z3 E7.1
  have V7 := AJ.new A7 (own_capn _ (by have := own_nwv p0 hp0 hp1; omega))
  obtain ⟨T8, h8, X8, e8, W8, st8⟩ := putF X7 hx hZ hown (host := "") (Or.inl (hw _ (List.mem_of_getElem? (i := 13) rfl))) Via.refl e7 (f4.ext E7) ((k1_0.wr W3).ext E7) (Or.inr ⟨(hw _ (List.mem_of_getElem? (i := 14) rfl)), rfl, hnm⟩) (hw _ (List.mem_of_getElem? (i := 2) rfl)) (ty := (.array .long)) (by decide) rfl rfl (g := (mkF m 19 #[.val (.ref ob), .val (.int p0)] [(.ref b7), (.ref ob)])) rfl rfl (hb hby d1_19)
  have f9 := (((k1_1.same W3).ext E7).other W8 (Or.inr (slot_ne (Or.inr (hw _ (List.mem_of_getElem? (i := 11) rfl))) (Or.inr (hw _ (List.mem_of_getElem? (i := 14) rfl))) (by decide) (t := .int) (t' := (.array .long)) (by decide) (by decide))))
  have f10 := ((f5.ext E7).other W8 (Or.inr (slot_ne (Or.inr (hw _ (List.mem_of_getElem? (i := 16) rfl))) (Or.inr (hw _ (List.mem_of_getElem? (i := 14) rfl))) (by decide) (t := (.array .long)) (t' := (.array .long)) (by decide) (by decide))))
  have f11 := ((f6.ext E7).other W8 (Or.inr (slot_ne (Or.inl (hw _ (List.mem_of_getElem? (i := 23) rfl))) (Or.inr (hw _ (List.mem_of_getElem? (i := 14) rfl))) (by decide) (t := .int) (t' := (.array .long)) (by decide) (by decide))))
  have Z8 : n0 ≤ h8.size := Nat.le_trans Z7 (Keep.of_wr W8).1
  have N8 := Fr.snoc X8 N3 k1_g_ob
  obtain ⟨T12, X12, e12, st12⟩ := getF X8 hx hZ hown (host := "") (Or.inl (hw _ (List.mem_of_getElem? (i := 13) rfl))) Via.refl e8 ((f4.ext E7).same W8) (g := (mkF m 24 #[.val (.ref ob), .val (.int p0)] [(.ref ob), (.ref ob)])) rfl rfl (hb hby d1_24)
  obtain ⟨T13, h13, k13, X13, e13, E13, A13, st13⟩ := newP X12 hx hZ (hw _ (List.mem_of_getElem? (i := 12) rfl)) e12 (g := (mkF m 34 #[.val (.ref ob), .val (.int p0)] [(.int (own_nw (own_nw p0))), (.ref ob)])) rfl (hb hby d1_34) rfl (own_capn _ (by have a := own_nwv p0 hp0 hp1; have b := own_nwv (own_nw p0) (by omega) (by omega); omega)) (cap := 4) (own_capc _ 4 (by have a := own_nwv p0 hp0 hp1; have b := own_nwv (own_nw p0) (by omega) (by omega); omega) (by have a := own_nwv p0 hp0 hp1; have b := own_nwv (own_nw p0) (by omega) (by omega); omega)) (by decide) (by decide) (by decide)
  obtain ⟨b13, g13⟩ : ∃ z, z = h8.size := ⟨_, rfl⟩
  rw [← g13] at A13 st13
  have ne_ob_b13 : ob ≠ b13 := Nat.ne_of_lt (Nat.lt_of_lt_of_le (((k1_0.wr W3).ext E7).wr W8).lt (Nat.le_of_eq g13.symm))
  have ne_b7_b13 : b7 ≠ b13 := Nat.ne_of_lt (Nat.lt_of_lt_of_le (V7.other W8 (Ne.symm ne_ob_b7)).lt (Nat.le_of_eq g13.symm))
  have ge_b13 : n0 ≤ b13 := Nat.le_trans Z8 (Nat.le_of_eq g13.symm)
  have Z13 : n0 ≤ h13.size := Nat.le_trans Z8 E13.1
  have V13 := AJ.new A13 (own_capn _ (by have a := own_nwv p0 hp0 hp1; have b := own_nwv (own_nw p0) (by omega) (by omega); omega))
  obtain ⟨T14, h14, X14, e14, W14, st14⟩ := putF X13 hx hZ hown (host := "") (Or.inl (hw _ (List.mem_of_getElem? (i := 15) rfl))) Via.refl e13 (f10.ext E13) ((((k1_0.wr W3).ext E7).wr W8).ext E13) (Or.inr ⟨(hw _ (List.mem_of_getElem? (i := 16) rfl)), rfl, hnm⟩) (hw _ (List.mem_of_getElem? (i := 2) rfl)) (ty := (.array .long)) (by decide) rfl rfl (g := (mkF m 36 #[.val (.ref ob), .val (.int p0)] [(.ref b13), (.ref ob)])) rfl rfl (hb hby d1_36)
  have f15 := ((f9.ext E13).other W14 (Or.inr (slot_ne (Or.inr (hw _ (List.mem_of_getElem? (i := 11) rfl))) (Or.inr (hw _ (List.mem_of_getElem? (i := 16) rfl))) (by decide) (t := .int) (t' := (.array .long)) (by decide) (by decide))))
  have f16 := ((((f4.ext E7).same W8).ext E13).other W14 (Or.inr (slot_ne (Or.inr (hw _ (List.mem_of_getElem? (i := 14) rfl))) (Or.inr (hw _ (List.mem_of_getElem? (i := 16) rfl))) (by decide) (t := (.array .long)) (t' := (.array .long)) (by decide) (by decide))))
  have f17 := ((f11.ext E13).other W14 (Or.inr (slot_ne (Or.inl (hw _ (List.mem_of_getElem? (i := 23) rfl))) (Or.inr (hw _ (List.mem_of_getElem? (i := 16) rfl))) (by decide) (t := .int) (t' := (.array .long)) (by decide) (by decide))))
  have Z14 : n0 ≤ h14.size := Nat.le_trans Z13 (Keep.of_wr W14).1
  have N14 := Fr.snoc X14 N8 k1_g_ob
  have pre18 : ∀ t, Steps p.tables e below (T14.setTop (mkF m 39 #[.val (.ref ob), .val (.int p0)] [])) t → Steps p.tables e below (s₁.setTop (entryFrame m #[(.ref ob), (.int p0)] 2)) t := by
    intro t k
    refine pre0 t ?_
    show Steps p.tables e below (s₁.setTop (mkF m 0 #[.val (.ref ob), .val (.int p0)] [])) _
    refine XS.aloadN X0.here hx rfl (hb hby d1_0) rfl rfl ?_
    show Steps p.tables e below (s₁.setTop (mkF m 1 #[.val (.ref ob), .val (.int p0)] [(.ref ob)])) _
    refine st2 _ ?_
    show Steps p.tables e below (T2.setTop (mkF m 4 #[.val (.ref ob), .val (.int p0)] [])) _
    refine XS.aloadN X2.here hx rfl (hb hby d1_4) rfl rfl ?_
    show Steps p.tables e below (T2.setTop (mkF m 5 #[.val (.ref ob), .val (.int p0)] [(.ref ob)])) _
    refine XS.iloadN X2.here hx rfl (hb hby d1_5) rfl ?_
    show Steps p.tables e below (T2.setTop (mkF m 6 #[.val (.ref ob), .val (.int p0)] [(.int p0), (.ref ob)])) _
    refine st3 _ ?_
    show Steps p.tables e below (T3.setTop (mkF m 9 #[.val (.ref ob), .val (.int p0)] [])) _
    refine XS.aloadN X3.here hx rfl (hb hby d1_9) rfl rfl ?_
    show Steps p.tables e below (T3.setTop (mkF m 10 #[.val (.ref ob), .val (.int p0)] [(.ref ob)])) _
    refine XS.iloadN X3.here hx rfl (hb hby d1_10) rfl ?_
    show Steps p.tables e below (T3.setTop (mkF m 11 #[.val (.ref ob), .val (.int p0)] [(.int p0), (.ref ob)])) _
    refine XS.bipush X3.here hx rfl (hb hby d1_11) ?_
    show Steps p.tables e below (T3.setTop (mkF m 13 #[.val (.ref ob), .val (.int p0)] [(.int (63 : Int32)), (.int p0), (.ref ob)])) _
    refine XS.iadd X3.here hx rfl (hb hby d1_13) rfl ?_
    show Steps p.tables e below (T3.setTop (mkF m 14 #[.val (.ref ob), .val (.int p0)] [(.int (p0 + (63 : Int32))), (.ref ob)])) _
    refine XS.bipush X3.here hx rfl (hb hby d1_14) ?_
    show Steps p.tables e below (T3.setTop (mkF m 16 #[.val (.ref ob), .val (.int p0)] [(.int (6 : Int32)), (.int (p0 + (63 : Int32))), (.ref ob)])) _
    refine XS.iushr X3.here hx rfl (hb hby d1_16) rfl ?_
    show Steps p.tables e below (T3.setTop (mkF m 17 #[.val (.ref ob), .val (.int p0)] [(.int (own_nw p0)), (.ref ob)])) _
    refine st7 _ ?_
    show Steps p.tables e below (T7.setTop (mkF m 19 #[.val (.ref ob), .val (.int p0)] [(.ref b7), (.ref ob)])) _
    refine st8 _ ?_
    show Steps p.tables e below (T8.setTop (mkF m 22 #[.val (.ref ob), .val (.int p0)] [])) _
    refine XS.aloadN X8.here hx rfl (hb hby d1_22) rfl rfl ?_
    show Steps p.tables e below (T8.setTop (mkF m 23 #[.val (.ref ob), .val (.int p0)] [(.ref ob)])) _
    refine XS.aloadN X8.here hx rfl (hb hby d1_23) rfl rfl ?_
    show Steps p.tables e below (T8.setTop (mkF m 24 #[.val (.ref ob), .val (.int p0)] [(.ref ob), (.ref ob)])) _
    refine st12 _ ?_
    show Steps p.tables e below (T12.setTop (mkF m 27 #[.val (.ref ob), .val (.int p0)] [(.ref b7), (.ref ob)])) _
    refine lnG X12 hx hZ e12 (V7.other W8 (Ne.symm ne_ob_b7)) (g := (mkF m 27 #[.val (.ref ob), .val (.int p0)] [(.ref b7), (.ref ob)])) rfl rfl (hb hby d1_27) _ ?_
    show Steps p.tables e below (T12.setTop (mkF m 28 #[.val (.ref ob), .val (.int p0)] [(.int (own_nw p0)), (.ref ob)])) _
    refine XS.bipush X12.here hx rfl (hb hby d1_28) ?_
    show Steps p.tables e below (T12.setTop (mkF m 30 #[.val (.ref ob), .val (.int p0)] [(.int (63 : Int32)), (.int (own_nw p0)), (.ref ob)])) _
    refine XS.iadd X12.here hx rfl (hb hby d1_30) rfl ?_
    show Steps p.tables e below (T12.setTop (mkF m 31 #[.val (.ref ob), .val (.int p0)] [(.int ((own_nw p0) + (63 : Int32))), (.ref ob)])) _
    refine XS.bipush X12.here hx rfl (hb hby d1_31) ?_
    show Steps p.tables e below (T12.setTop (mkF m 33 #[.val (.ref ob), .val (.int p0)] [(.int (6 : Int32)), (.int ((own_nw p0) + (63 : Int32))), (.ref ob)])) _
    refine XS.iushr X12.here hx rfl (hb hby d1_33) rfl ?_
    show Steps p.tables e below (T12.setTop (mkF m 34 #[.val (.ref ob), .val (.int p0)] [(.int (own_nw (own_nw p0))), (.ref ob)])) _
    refine st13 _ ?_
    show Steps p.tables e below (T13.setTop (mkF m 36 #[.val (.ref ob), .val (.int p0)] [(.ref b13), (.ref ob)])) _
    refine st14 _ ?_
    exact k
  obtain ⟨fs, hr, hrun, hended, hW, hsame⟩ := X14.leave (v := none) (fun _ => rfl)
  refine ⟨_, _, pre18 _ ?_, hrun, hended, _, _, rfl, ?_, ⟨_, rfl⟩, hW, hsame.mono (by decide) (by decide)⟩
  · show Steps p.tables e below (T14.setTop (mkF m 39 #[.val (.ref ob), .val (.int p0)] [])) _
    exact X14.returnOut hx Bd.returns (hb hby d1_39) hr
  · show Q1 Z ob p0 c0 h0 n0 _ T14.heap _
    rw [e14]
    exact ⟨rfl, N14, ⟨b7, b13, ⟨(((((k1_0.wr W3).ext E7).wr W8).ext E13).wr W14), f15, f16, ((f10.ext E13).same W14), f17, (((V7.other W8 (Ne.symm ne_ob_b7)).ext E13).other W14 (Ne.symm ne_ob_b7)), (V13.other W14 (Ne.symm ne_ob_b13)), k1_g_ob, ge_b7, ge_b13, ne_ob_b7, ne_ob_b13, ne_b7_b13, Z14⟩⟩⟩
theorem d3_0 : decode prog_16_method_4_code 0 = .ok (.iload_n 1, 1) := by decide +kernel
theorem d3_1 : decode prog_16_method_4_code 1 = .ok (.bipush 6, 2) := by decide +kernel
theorem d3_3 : decode prog_16_method_4_code 3 = .ok (.iushr, 1) := by decide +kernel
theorem d3_4 : decode prog_16_method_4_code 4 = .ok (.istore_n 2, 1) := by decide +kernel
theorem d3_5 : decode prog_16_method_4_code 5 = .ok (.lconst 1, 1) := by decide +kernel
theorem d3_6 : decode prog_16_method_4_code 6 = .ok (.iload_n 1, 1) := by decide +kernel
theorem d3_7 : decode prog_16_method_4_code 7 = .ok (.lshl, 1) := by decide +kernel
theorem d3_8 : decode prog_16_method_4_code 8 = .ok (.lstore_n 3, 1) := by decide +kernel
theorem d3_9 : decode prog_16_method_4_code 9 = .ok (.aload_n 0, 1) := by decide +kernel
theorem d3_10 : decode prog_16_method_4_code 10 = .ok (.getfield 13, 3) := by decide +kernel
theorem d3_13 : decode prog_16_method_4_code 13 = .ok (.iload_n 2, 1) := by decide +kernel
theorem d3_14 : decode prog_16_method_4_code 14 = .ok (.laload, 1) := by decide +kernel
theorem d3_15 : decode prog_16_method_4_code 15 = .ok (.lload_n 3, 1) := by decide +kernel
theorem d3_16 : decode prog_16_method_4_code 16 = .ok (.land, 1) := by decide +kernel
theorem d3_17 : decode prog_16_method_4_code 17 = .ok (.lconst 0, 1) := by decide +kernel
theorem d3_18 : decode prog_16_method_4_code 18 = .ok (.lcmp, 1) := by decide +kernel
theorem d3_19 : decode prog_16_method_4_code 19 = .ok (.ifCond .eq 5, 3) := by decide +kernel
theorem d3_22 : decode prog_16_method_4_code 22 = .ok (.iconst 0, 1) := by decide +kernel
theorem d3_23 : decode prog_16_method_4_code 23 = .ok (.ireturn, 1) := by decide +kernel
theorem d3_24 : decode prog_16_method_4_code 24 = .ok (.aload_n 0, 1) := by decide +kernel
theorem d3_25 : decode prog_16_method_4_code 25 = .ok (.getfield 13, 3) := by decide +kernel
theorem d3_28 : decode prog_16_method_4_code 28 = .ok (.iload_n 2, 1) := by decide +kernel
theorem d3_29 : decode prog_16_method_4_code 29 = .ok (.dup2, 1) := by decide +kernel
theorem d3_30 : decode prog_16_method_4_code 30 = .ok (.laload, 1) := by decide +kernel
theorem d3_31 : decode prog_16_method_4_code 31 = .ok (.lload_n 3, 1) := by decide +kernel
theorem d3_32 : decode prog_16_method_4_code 32 = .ok (.lor, 1) := by decide +kernel
theorem d3_33 : decode prog_16_method_4_code 33 = .ok (.lastore, 1) := by decide +kernel
theorem d3_34 : decode prog_16_method_4_code 34 = .ok (.aload_n 0, 1) := by decide +kernel
theorem d3_35 : decode prog_16_method_4_code 35 = .ok (.getfield 17, 3) := by decide +kernel
theorem d3_38 : decode prog_16_method_4_code 38 = .ok (.iload_n 2, 1) := by decide +kernel
theorem d3_39 : decode prog_16_method_4_code 39 = .ok (.bipush 6, 2) := by decide +kernel
theorem d3_41 : decode prog_16_method_4_code 41 = .ok (.iushr, 1) := by decide +kernel
theorem d3_42 : decode prog_16_method_4_code 42 = .ok (.dup2, 1) := by decide +kernel
theorem d3_43 : decode prog_16_method_4_code 43 = .ok (.laload, 1) := by decide +kernel
theorem d3_44 : decode prog_16_method_4_code 44 = .ok (.lconst 1, 1) := by decide +kernel
theorem d3_45 : decode prog_16_method_4_code 45 = .ok (.iload_n 2, 1) := by decide +kernel
theorem d3_46 : decode prog_16_method_4_code 46 = .ok (.lshl, 1) := by decide +kernel
theorem d3_47 : decode prog_16_method_4_code 47 = .ok (.lor, 1) := by decide +kernel
theorem d3_48 : decode prog_16_method_4_code 48 = .ok (.lastore, 1) := by decide +kernel
theorem d3_49 : decode prog_16_method_4_code 49 = .ok (.aload_n 0, 1) := by decide +kernel
theorem d3_50 : decode prog_16_method_4_code 50 = .ok (.dup, 1) := by decide +kernel
theorem d3_51 : decode prog_16_method_4_code 51 = .ok (.getfield 20, 3) := by decide +kernel
theorem d3_54 : decode prog_16_method_4_code 54 = .ok (.iconst 1, 1) := by decide +kernel
theorem d3_55 : decode prog_16_method_4_code 55 = .ok (.iadd, 1) := by decide +kernel
theorem d3_56 : decode prog_16_method_4_code 56 = .ok (.putfield 20, 3) := by decide +kernel
theorem d3_59 : decode prog_16_method_4_code 59 = .ok (.iconst 1, 1) := by decide +kernel
theorem d3_60 : decode prog_16_method_4_code 60 = .ok (.ireturn, 1) := by decide +kernel
theorem ef_3 (m : MethodId) (x0 : Addr) (x1 : Int32) : entryFrame m #[(.ref x0), (.int x1)] 5 = mkF m 0 #[.val (.ref x0), .val (.int x1), .unset, .unset, .unset] [] := by first | (simp [entryFrame, mkF, argsToLocals, Value.category]; done) | rfl
def Fadd (i : Int32) (w : Int32 → Int64) : Bool := (if ((w (own_ix i)) &&& (own_bit i)) = (0 : Int64) then true else false)
def Fadd_sz (i : Int32) (sz : Int32) (w : Int32 → Int64) : Int32 := (if ((w (own_ix i)) &&& (own_bit i)) = (0 : Int64) then (sz + (1 : Int32)) else sz)
def Fadd_w (i : Int32) (w : Int32 → Int64) : Int32 → Int64 := (if ((w (own_ix i)) &&& (own_bit i)) = (0 : Int64) then (upd w (own_ix i) ((w (own_ix i)) ||| (own_bit i))) else w)
def Fadd_u (i : Int32) (w : Int32 → Int64) (u : Int32 → Int64) : Int32 → Int64 := (if ((w (own_ix i)) &&& (own_bit i)) = (0 : Int64) then (upd u (own_ix (own_ix i)) ((u (own_ix (own_ix i))) ||| (own_bit (own_ix i)))) else u)
def Q3 (Z : State) (ob : Addr) (i : Int32) (aw : Addr) (au : Addr) (cap : Int32) (sz : Int32) (nw : Int32) (w : Int32 → Int64) (nu : Int32) (u : Int32 → Int64) (h0 : Heap) (n0 : Nat) (v : Option Value) (h : Heap) (L : List Loc) : Prop := v = some (.int (b2i (Fadd i w))) ∧ Fr n0 L ∧ IS Z h n0 ob aw au cap (Fadd_sz i sz w) nw (Fadd_w i w) nu (Fadd_u i w u)
set_option maxRecDepth 65536 in
set_option maxHeartbeats 40000000 in
theorem rm3 (l : Launch) (Z : State) (a0 : Array Value) (hw : ∀ d ∈ tables_1, d.before a0 Z = true) (ws : List Jvm.Cond) (ob : Addr) (i : Int32) (aw : Addr) (au : Addr) (cap : Int32) (sz : Int32) (nw : Int32) (w : Int32 → Int64) (nu : Int32) (u : Int32 → Int64) (h0 : Heap) (n0 : Nat) (Z0 : n0 ≤ h0.size) (I0 : IS Z h0 n0 ob aw au cap sz nw w nu u) (hi : ¬ (own_ix i) < 0 ∧ (own_ix i) < nw) (hj : ¬ (own_ix (own_ix i)) < 0 ∧ (own_ix (own_ix i)) < nu) :
    MetFree l (⟨"com/example/cutline/cutline/IndexSet", "add", "(I)Z"⟩ : MethodName) (head1 (Jvm.Cond.code (⟨"com/example/cutline/cutline/IndexSet", "add", "(I)Z"⟩ : MethodName) prog_16_method_4_code 5 (some .boolean) :: ws) ({ frames := 0, cells := 0, slots := 0, locals := 0 } : Room)) (fun a U => a = #[(.ref ob), (.int i)] ∧ Z.Warmed39 U.vm ∧ U.heap = h0) (fun _ _ _ _ _ => True) (fun _ U o U' => ∃ v L, o = .returned v ∧ Q3 Z ob i aw au cap sz nw w nu u h0 n0 v U'.heap L ∧ FrameEnd U o U' L ({ frames := 0, cells := 0, slots := 0, locals := 0 } : Room).cells ({ frames := 0, cells := 0, slots := 0, locals := 0 } : Room).slots) := by
  refine MetFree.of_bodySF (plainFor_of_name pn_1) hisR ?_
  intro p e s m args below meth c s₁ Bd hml0 hP hK
  obtain ⟨rfl, hZ, hh⟩ := hP
  have hx := Bd.exec
  have hby := Bd.bytes
  have hml : c.maxLocals = 5 := hml0
  have hown : s.vm.findClass "com/example/cutline/cutline/IndexSet" = some m.cls := findClass_of_methodNamed Bd.named
  have hnm := (name_of_methodNamed Bd.named Bd.method).1
  have X0 : Stand p l e ({ frames := 0, cells := 0, slots := 0, locals := 0 } : Room) s m #[(.ref ob), (.int i)] below meth c s₁ [] 0 0 := Stand.of_body Bd
  have e0 : s₁.heap = h0 := by rw [← hh, Bd.state]; rfl
  have N0 := Fr.nil n0
  have pre0 : ∀ t, Steps p.tables e below (s₁.setTop (mkF m 0 #[.val (.ref ob), .val (.int i), .unset, .unset, .unset] [])) t → Steps p.tables e below (s₁.setTop (entryFrame m #[(.ref ob), (.int i)] 5)) t := fun t k => castTop (ef_3 m ob i) k
  obtain ⟨k1_0, k1_1, k1_2, k1_3, k1_4, k1_5, k1_6, k1_g_ob, k1_g_aw, k1_g_au, k1_n_ob_aw, k1_n_ob_au, k1_n_aw_au, k1_sz⟩ := I0
  obtain ⟨T2, X2, e2, st2⟩ := getF X0 hx hZ hown (host := "") (Or.inl (hw _ (List.mem_of_getElem? (i := 13) rfl))) Via.refl e0 k1_2 (g := (mkF m 10 #[.val (.ref ob), .val (.int i), .val (.int (own_ix i)), .val (.long (own_bit i)), .second] [(.ref ob)])) rfl rfl (hb hby d3_10)
  have pre3 : ∀ t, Steps p.tables e below (T2.setTop (mkF m 19 #[.val (.ref ob), .val (.int i), .val (.int (own_ix i)), .val (.long (own_bit i)), .second] [(.int (lcmpW ((w (own_ix i)) &&& (own_bit i)) (0 : Int64)))])) t → Steps p.tables e below (s₁.setTop (entryFrame m #[(.ref ob), (.int i)] 5)) t := by
    intro t k
    refine pre0 t ?_
    show Steps p.tables e below (s₁.setTop (mkF m 0 #[.val (.ref ob), .val (.int i), .unset, .unset, .unset] [])) _
    refine XS.iloadN X0.here hx rfl (hb hby d3_0) rfl ?_
    show Steps p.tables e below (s₁.setTop (mkF m 1 #[.val (.ref ob), .val (.int i), .unset, .unset, .unset] [(.int i)])) _
    refine XS.bipush X0.here hx rfl (hb hby d3_1) ?_
    show Steps p.tables e below (s₁.setTop (mkF m 3 #[.val (.ref ob), .val (.int i), .unset, .unset, .unset] [(.int (6 : Int32)), (.int i)])) _
    refine XS.iushr X0.here hx rfl (hb hby d3_3) rfl ?_
    show Steps p.tables e below (s₁.setTop (mkF m 4 #[.val (.ref ob), .val (.int i), .unset, .unset, .unset] [(.int ((i.toUInt32 >>> ((6 : Int32) &&& 31).toUInt32).toInt32))])) _
    refine XS.istoreN X0.here hx rfl (hb hby d3_4) rfl (l' := #[.val (.ref ob), .val (.int i), .val (.int (own_ix i)), .unset, .unset]) rfl ?_
    show Steps p.tables e below (s₁.setTop (mkF m 5 #[.val (.ref ob), .val (.int i), .val (.int (own_ix i)), .unset, .unset] [])) _
    refine XS.lconst X0.here hx rfl (hb hby d3_5) ?_
    show Steps p.tables e below (s₁.setTop (mkF m 6 #[.val (.ref ob), .val (.int i), .val (.int (own_ix i)), .unset, .unset] [(.long (1 : Int64))])) _
    refine XS.iloadN X0.here hx rfl (hb hby d3_6) rfl ?_
    show Steps p.tables e below (s₁.setTop (mkF m 7 #[.val (.ref ob), .val (.int i), .val (.int (own_ix i)), .unset, .unset] [(.int i), (.long (1 : Int64))])) _
    refine XS.lshl X0.here hx rfl (hb hby d3_7) rfl ?_
    show Steps p.tables e below (s₁.setTop (mkF m 8 #[.val (.ref ob), .val (.int i), .val (.int (own_ix i)), .unset, .unset] [(.long ((1 : Int64) <<< (i &&& 0x3f).toInt64))])) _
    refine XS.lstoreN X0.here hx rfl (hb hby d3_8) rfl (l' := #[.val (.ref ob), .val (.int i), .val (.int (own_ix i)), .val (.long (own_bit i)), .second]) rfl ?_
    show Steps p.tables e below (s₁.setTop (mkF m 9 #[.val (.ref ob), .val (.int i), .val (.int (own_ix i)), .val (.long (own_bit i)), .second] [])) _
    refine XS.aloadN X0.here hx rfl (hb hby d3_9) rfl rfl ?_
    show Steps p.tables e below (s₁.setTop (mkF m 10 #[.val (.ref ob), .val (.int i), .val (.int (own_ix i)), .val (.long (own_bit i)), .second] [(.ref ob)])) _
    refine st2 _ ?_
    show Steps p.tables e below (T2.setTop (mkF m 13 #[.val (.ref ob), .val (.int i), .val (.int (own_ix i)), .val (.long (own_bit i)), .second] [(.ref aw)])) _
    refine XS.iloadN X2.here hx rfl (hb hby d3_13) rfl ?_
    show Steps p.tables e below (T2.setTop (mkF m 14 #[.val (.ref ob), .val (.int i), .val (.int (own_ix i)), .val (.long (own_bit i)), .second] [(.int (own_ix i)), (.ref aw)])) _
    refine rdJ X2 hx hZ e2 k1_5 (j := (own_ix i)) hi rfl (g := (mkF m 14 #[.val (.ref ob), .val (.int i), .val (.int (own_ix i)), .val (.long (own_bit i)), .second] [(.int (own_ix i)), (.ref aw)])) rfl rfl (hb hby d3_14) _ ?_
    show Steps p.tables e below (T2.setTop (mkF m 15 #[.val (.ref ob), .val (.int i), .val (.int (own_ix i)), .val (.long (own_bit i)), .second] [(.long (w (own_ix i)))])) _
    refine XS.lloadN X2.here hx rfl (hb hby d3_15) rfl ?_
    show Steps p.tables e below (T2.setTop (mkF m 16 #[.val (.ref ob), .val (.int i), .val (.int (own_ix i)), .val (.long (own_bit i)), .second] [(.long (own_bit i)), (.long (w (own_ix i)))])) _
    refine XS.land X2.here hx rfl (hb hby d3_16) rfl ?_
    show Steps p.tables e below (T2.setTop (mkF m 17 #[.val (.ref ob), .val (.int i), .val (.int (own_ix i)), .val (.long (own_bit i)), .second] [(.long ((w (own_ix i)) &&& (own_bit i)))])) _
    refine XS.lconst X2.here hx rfl (hb hby d3_17) ?_
    show Steps p.tables e below (T2.setTop (mkF m 18 #[.val (.ref ob), .val (.int i), .val (.int (own_ix i)), .val (.long (own_bit i)), .second] [(.long (0 : Int64)), (.long ((w (own_ix i)) &&& (own_bit i)))])) _
    refine XS.lcmp X2.here hx rfl (hb hby d3_18) rfl ?_
    exact k
  by_cases hc4 : ((w (own_ix i)) &&& (own_bit i)) = (0 : Int64)
  ·
    obtain ⟨T5, X5, e5, st5⟩ := getF X2 hx hZ hown (host := "") (Or.inl (hw _ (List.mem_of_getElem? (i := 13) rfl))) Via.refl e2 k1_2 (g := (mkF m 25 #[.val (.ref ob), .val (.int i), .val (.int (own_ix i)), .val (.long (own_bit i)), .second] [(.ref ob)])) rfl rfl (hb hby d3_25)
    obtain ⟨T6, h6, X6, e6, W6, V6, st6⟩ := wrJ X5 hx hZ e5 k1_5 (j := (own_ix i)) hi  (g := (mkF m 33 #[.val (.ref ob), .val (.int i), .val (.int (own_ix i)), .val (.long (own_bit i)), .second] [(.long ((w (own_ix i)) ||| (own_bit i))), (.int (own_ix i)), (.ref aw)])) rfl rfl (hb hby d3_33)
    have Z6 : n0 ≤ h6.size := Nat.le_trans Z0 (Keep.of_wr W6).1
    have N6 := Fr.snoc X6 N0 k1_g_aw
    obtain ⟨T7, X7, e7, st7⟩ := getF X6 hx hZ hown (host := "") (Or.inl (hw _ (List.mem_of_getElem? (i := 15) rfl))) Via.refl e6 (k1_3.other W6 (Or.inl k1_n_ob_aw)) (g := (mkF m 35 #[.val (.ref ob), .val (.int i), .val (.int (own_ix i)), .val (.long (own_bit i)), .second] [(.ref ob)])) rfl rfl (hb hby d3_35)
    obtain ⟨T8, h8, X8, e8, W8, V8, st8⟩ := wrJ X7 hx hZ e7 (k1_6.other W6 (Ne.symm k1_n_aw_au)) (j := (own_ix (own_ix i))) hj  (g := (mkF m 48 #[.val (.ref ob), .val (.int i), .val (.int (own_ix i)), .val (.long (own_bit i)), .second] [(.long ((u (own_ix (own_ix i))) ||| (own_bit (own_ix i)))), (.int (own_ix (own_ix i))), (.ref au)])) rfl rfl (hb hby d3_48)
    have Z8 : n0 ≤ h8.size := Nat.le_trans Z6 (Keep.of_wr W8).1
    have N8 := Fr.snoc X8 N6 k1_g_au
    obtain ⟨T9, X9, e9, st9⟩ := getF X8 hx hZ hown (host := "") (Or.inl (hw _ (List.mem_of_getElem? (i := 22) rfl))) Via.refl e8 ((k1_4.other W6 (Or.inl k1_n_ob_aw)).other W8 (Or.inl k1_n_ob_au)) (g := (mkF m 51 #[.val (.ref ob), .val (.int i), .val (.int (own_ix i)), .val (.long (own_bit i)), .second] [(.ref ob), (.ref ob)])) rfl rfl (hb hby d3_51)
    obtain ⟨T10, h10, X10, e10, W10, st10⟩ := putF X9 hx hZ hown (host := "") (Or.inl (hw _ (List.mem_of_getElem? (i := 22) rfl))) Via.refl e9 ((k1_4.other W6 (Or.inl k1_n_ob_aw)).other W8 (Or.inl k1_n_ob_au)) ((k1_0.wr W6).wr W8) (Or.inl (hw _ (List.mem_of_getElem? (i := 23) rfl))) (hw _ (List.mem_of_getElem? (i := 2) rfl)) (ty := .int) (by decide) rfl rfl (g := (mkF m 56 #[.val (.ref ob), .val (.int i), .val (.int (own_ix i)), .val (.long (own_bit i)), .second] [(.int (sz + (1 : Int32))), (.ref ob)])) rfl rfl (hb hby d3_56)
    have f11 := (((k1_1.other W6 (Or.inl k1_n_ob_aw)).other W8 (Or.inl k1_n_ob_au)).other W10 (Or.inr (slot_ne (Or.inr (hw _ (List.mem_of_getElem? (i := 11) rfl))) (Or.inl (hw _ (List.mem_of_getElem? (i := 23) rfl))) (by decide) (t := .int) (t' := .int) (by decide) (by decide))))
    have f12 := (((k1_2.other W6 (Or.inl k1_n_ob_aw)).other W8 (Or.inl k1_n_ob_au)).other W10 (Or.inr (slot_ne (Or.inr (hw _ (List.mem_of_getElem? (i := 14) rfl))) (Or.inl (hw _ (List.mem_of_getElem? (i := 23) rfl))) (by decide) (t := (.array .long)) (t' := .int) (by decide) (by decide))))
    have f13 := (((k1_3.other W6 (Or.inl k1_n_ob_aw)).other W8 (Or.inl k1_n_ob_au)).other W10 (Or.inr (slot_ne (Or.inr (hw _ (List.mem_of_getElem? (i := 16) rfl))) (Or.inl (hw _ (List.mem_of_getElem? (i := 23) rfl))) (by decide) (t := (.array .long)) (t' := .int) (by decide) (by decide))))
    have Z10 : n0 ≤ h10.size := Nat.le_trans Z8 (Keep.of_wr W10).1
    have N10 := Fr.snoc X10 N8 k1_g_ob
    have pre14 : ∀ t, Steps p.tables e below (T10.setTop (mkF m 60 #[.val (.ref ob), .val (.int i), .val (.int (own_ix i)), .val (.long (own_bit i)), .second] [(.int (1 : Int32))])) t → Steps p.tables e below (s₁.setTop (entryFrame m #[(.ref ob), (.int i)] 5)) t := by
      intro t k
      refine pre3 t ?_
      show Steps p.tables e below (T2.setTop (mkF m 19 #[.val (.ref ob), .val (.int i), .val (.int (own_ix i)), .val (.long (own_bit i)), .second] [(.int (lcmpW ((w (own_ix i)) &&& (own_bit i)) (0 : Int64)))])) _
      refine XS.ifYes X2.here hx rfl (pc0 := 19) (pc' := 24) rfl (hb hby d3_19) rfl ((if0 _ _).trans (teq ((lw_eq _ _).mpr hc4)).1) (by decide) (by decide) ?_
      show Steps p.tables e below (T2.setTop (mkF m 24 #[.val (.ref ob), .val (.int i), .val (.int (own_ix i)), .val (.long (own_bit i)), .second] [])) _
      refine XS.aloadN X2.here hx rfl (hb hby d3_24) rfl rfl ?_
      show Steps p.tables e below (T2.setTop (mkF m 25 #[.val (.ref ob), .val (.int i), .val (.int (own_ix i)), .val (.long (own_bit i)), .second] [(.ref ob)])) _
      refine st5 _ ?_
      show Steps p.tables e below (T5.setTop (mkF m 28 #[.val (.ref ob), .val (.int i), .val (.int (own_ix i)), .val (.long (own_bit i)), .second] [(.ref aw)])) _
      refine XS.iloadN X5.here hx rfl (hb hby d3_28) rfl ?_
      show Steps p.tables e below (T5.setTop (mkF m 29 #[.val (.ref ob), .val (.int i), .val (.int (own_ix i)), .val (.long (own_bit i)), .second] [(.int (own_ix i)), (.ref aw)])) _
      refine Jvm.Free.XT.dup2 X5.here hx rfl (hb hby d3_29) rfl rfl rfl ?_
      show Steps p.tables e below (T5.setTop (mkF m 30 #[.val (.ref ob), .val (.int i), .val (.int (own_ix i)), .val (.long (own_bit i)), .second] [(.int (own_ix i)), (.ref aw), (.int (own_ix i)), (.ref aw)])) _
      refine rdJ X5 hx hZ e5 k1_5 (j := (own_ix i)) hi rfl (g := (mkF m 30 #[.val (.ref ob), .val (.int i), .val (.int (own_ix i)), .val (.long (own_bit i)), .second] [(.int (own_ix i)), (.ref aw), (.int (own_ix i)), (.ref aw)])) rfl rfl (hb hby d3_30) _ ?_
      show Steps p.tables e below (T5.setTop (mkF m 31 #[.val (.ref ob), .val (.int i), .val (.int (own_ix i)), .val (.long (own_bit i)), .second] [(.long (w (own_ix i))), (.int (own_ix i)), (.ref aw)])) _
      refine XS.lloadN X5.here hx rfl (hb hby d3_31) rfl ?_
      show Steps p.tables e below (T5.setTop (mkF m 32 #[.val (.ref ob), .val (.int i), .val (.int (own_ix i)), .val (.long (own_bit i)), .second] [(.long (own_bit i)), (.long (w (own_ix i))), (.int (own_ix i)), (.ref aw)])) _
      refine XS.lor X5.here hx rfl (hb hby d3_32) rfl ?_
      show Steps p.tables e below (T5.setTop (mkF m 33 #[.val (.ref ob), .val (.int i), .val (.int (own_ix i)), .val (.long (own_bit i)), .second] [(.long ((w (own_ix i)) ||| (own_bit i))), (.int (own_ix i)), (.ref aw)])) _
      refine st6 _ ?_
      show Steps p.tables e below (T6.setTop (mkF m 34 #[.val (.ref ob), .val (.int i), .val (.int (own_ix i)), .val (.long (own_bit i)), .second] [])) _
      refine XS.aloadN X6.here hx rfl (hb hby d3_34) rfl rfl ?_
      show Steps p.tables e below (T6.setTop (mkF m 35 #[.val (.ref ob), .val (.int i), .val (.int (own_ix i)), .val (.long (own_bit i)), .second] [(.ref ob)])) _
      refine st7 _ ?_
      show Steps p.tables e below (T7.setTop (mkF m 38 #[.val (.ref ob), .val (.int i), .val (.int (own_ix i)), .val (.long (own_bit i)), .second] [(.ref au)])) _
      refine XS.iloadN X7.here hx rfl (hb hby d3_38) rfl ?_
      show Steps p.tables e below (T7.setTop (mkF m 39 #[.val (.ref ob), .val (.int i), .val (.int (own_ix i)), .val (.long (own_bit i)), .second] [(.int (own_ix i)), (.ref au)])) _
      refine XS.bipush X7.here hx rfl (hb hby d3_39) ?_
      show Steps p.tables e below (T7.setTop (mkF m 41 #[.val (.ref ob), .val (.int i), .val (.int (own_ix i)), .val (.long (own_bit i)), .second] [(.int (6 : Int32)), (.int (own_ix i)), (.ref au)])) _
      refine XS.iushr X7.here hx rfl (hb hby d3_41) rfl ?_
      show Steps p.tables e below (T7.setTop (mkF m 42 #[.val (.ref ob), .val (.int i), .val (.int (own_ix i)), .val (.long (own_bit i)), .second] [(.int (own_ix (own_ix i))), (.ref au)])) _
      refine Jvm.Free.XT.dup2 X7.here hx rfl (hb hby d3_42) rfl rfl rfl ?_
      show Steps p.tables e below (T7.setTop (mkF m 43 #[.val (.ref ob), .val (.int i), .val (.int (own_ix i)), .val (.long (own_bit i)), .second] [(.int (own_ix (own_ix i))), (.ref au), (.int (own_ix (own_ix i))), (.ref au)])) _
      refine rdJ X7 hx hZ e7 (k1_6.other W6 (Ne.symm k1_n_aw_au)) (j := (own_ix (own_ix i))) hj rfl (g := (mkF m 43 #[.val (.ref ob), .val (.int i), .val (.int (own_ix i)), .val (.long (own_bit i)), .second] [(.int (own_ix (own_ix i))), (.ref au), (.int (own_ix (own_ix i))), (.ref au)])) rfl rfl (hb hby d3_43) _ ?_
      show Steps p.tables e below (T7.setTop (mkF m 44 #[.val (.ref ob), .val (.int i), .val (.int (own_ix i)), .val (.long (own_bit i)), .second] [(.long (u (own_ix (own_ix i)))), (.int (own_ix (own_ix i))), (.ref au)])) _
      refine XS.lconst X7.here hx rfl (hb hby d3_44) ?_
      show Steps p.tables e below (T7.setTop (mkF m 45 #[.val (.ref ob), .val (.int i), .val (.int (own_ix i)), .val (.long (own_bit i)), .second] [(.long (1 : Int64)), (.long (u (own_ix (own_ix i)))), (.int (own_ix (own_ix i))), (.ref au)])) _
      refine XS.iloadN X7.here hx rfl (hb hby d3_45) rfl ?_
      show Steps p.tables e below (T7.setTop (mkF m 46 #[.val (.ref ob), .val (.int i), .val (.int (own_ix i)), .val (.long (own_bit i)), .second] [(.int (own_ix i)), (.long (1 : Int64)), (.long (u (own_ix (own_ix i)))), (.int (own_ix (own_ix i))), (.ref au)])) _
      refine XS.lshl X7.here hx rfl (hb hby d3_46) rfl ?_
      show Steps p.tables e below (T7.setTop (mkF m 47 #[.val (.ref ob), .val (.int i), .val (.int (own_ix i)), .val (.long (own_bit i)), .second] [(.long (own_bit (own_ix i))), (.long (u (own_ix (own_ix i)))), (.int (own_ix (own_ix i))), (.ref au)])) _
      refine XS.lor X7.here hx rfl (hb hby d3_47) rfl ?_
      show Steps p.tables e below (T7.setTop (mkF m 48 #[.val (.ref ob), .val (.int i), .val (.int (own_ix i)), .val (.long (own_bit i)), .second] [(.long ((u (own_ix (own_ix i))) ||| (own_bit (own_ix i)))), (.int (own_ix (own_ix i))), (.ref au)])) _
      refine st8 _ ?_
      show Steps p.tables e below (T8.setTop (mkF m 49 #[.val (.ref ob), .val (.int i), .val (.int (own_ix i)), .val (.long (own_bit i)), .second] [])) _
      refine XS.aloadN X8.here hx rfl (hb hby d3_49) rfl rfl ?_
      show Steps p.tables e below (T8.setTop (mkF m 50 #[.val (.ref ob), .val (.int i), .val (.int (own_ix i)), .val (.long (own_bit i)), .second] [(.ref ob)])) _
      refine XS.dup X8.here hx rfl (hb hby d3_50) rfl rfl ?_
      show Steps p.tables e below (T8.setTop (mkF m 51 #[.val (.ref ob), .val (.int i), .val (.int (own_ix i)), .val (.long (own_bit i)), .second] [(.ref ob), (.ref ob)])) _
      refine st9 _ ?_
      show Steps p.tables e below (T9.setTop (mkF m 54 #[.val (.ref ob), .val (.int i), .val (.int (own_ix i)), .val (.long (own_bit i)), .second] [(.int sz), (.ref ob)])) _
      refine XS.iconst X9.here hx rfl (hb hby d3_54) ?_
      show Steps p.tables e below (T9.setTop (mkF m 55 #[.val (.ref ob), .val (.int i), .val (.int (own_ix i)), .val (.long (own_bit i)), .second] [(.int (1 : Int32)), (.int sz), (.ref ob)])) _
      refine XS.iadd X9.here hx rfl (hb hby d3_55) rfl ?_
      show Steps p.tables e below (T9.setTop (mkF m 56 #[.val (.ref ob), .val (.int i), .val (.int (own_ix i)), .val (.long (own_bit i)), .second] [(.int (sz + (1 : Int32))), (.ref ob)])) _
      refine st10 _ ?_
      show Steps p.tables e below (T10.setTop (mkF m 59 #[.val (.ref ob), .val (.int i), .val (.int (own_ix i)), .val (.long (own_bit i)), .second] [])) _
      refine XS.iconst X10.here hx rfl (hb hby d3_59) ?_
      exact k
    obtain ⟨fs, hr, hrun, hended, hW, hsame⟩ := X10.leave (v := some (.int (b2i (Fadd i w)))) (fun h => by rw [Bd.returns] at h; cases h)
    refine ⟨_, _, pre14 _ ?_, hrun, hended, _, _, rfl, ?_, ⟨_, rfl⟩, hW, hsame.mono (by decide) (by decide)⟩
    · show Steps p.tables e below (T10.setTop (mkF m 60 #[.val (.ref ob), .val (.int i), .val (.int (own_ix i)), .val (.long (own_bit i)), .second] [(.int (1 : Int32))])) _
      have hr2 := hr
      rw [(show (Fadd i w) = true from ((if_pos hc4).trans rfl))] at hr2
      exact retN X10 hx (t := .boolean) Bd.returns (by simp) (hb hby d3_60) hr2
    · show Q3 Z ob i aw au cap sz nw w nu u h0 n0 _ T10.heap _
      rw [e10]
      exact ⟨rfl, N10, ⟨(((k1_0.wr W6).wr W8).wr W10), f11, f12, f13, (by rw [(show (Fadd_sz i sz w) = (sz + (1 : Int32)) from ((if_pos hc4).trans rfl))]; exact (((k1_4.other W6 (Or.inl k1_n_ob_aw)).other W8 (Or.inl k1_n_ob_au)).same W10)), (by rw [(show (Fadd_w i w) = (upd w (own_ix i) ((w (own_ix i)) ||| (own_bit i))) from ((if_pos hc4).trans rfl))]; exact ((V6.other W8 k1_n_aw_au).other W10 (Ne.symm k1_n_ob_aw))), (by rw [(show (Fadd_u i w u) = (upd u (own_ix (own_ix i)) ((u (own_ix (own_ix i))) ||| (own_bit (own_ix i)))) from ((if_pos hc4).trans rfl))]; exact (V8.other W10 (Ne.symm k1_n_ob_au))), k1_g_ob, k1_g_aw, k1_g_au, k1_n_ob_aw, k1_n_ob_au, k1_n_aw_au, Z10⟩⟩
  ·
    have pre15 : ∀ t, Steps p.tables e below (T2.setTop (mkF m 23 #[.val (.ref ob), .val (.int i), .val (.int (own_ix i)), .val (.long (own_bit i)), .second] [(.int (0 : Int32))])) t → Steps p.tables e below (s₁.setTop (entryFrame m #[(.ref ob), (.int i)] 5)) t := by
      intro t k
      refine pre3 t ?_
      show Steps p.tables e below (T2.setTop (mkF m 19 #[.val (.ref ob), .val (.int i), .val (.int (own_ix i)), .val (.long (own_bit i)), .second] [(.int (lcmpW ((w (own_ix i)) &&& (own_bit i)) (0 : Int64)))])) _
      refine XS.ifNo X2.here hx rfl (hb hby d3_19) rfl ((if0 _ _).trans (feq (fun q => hc4 ((lw_eq _ _).mp q))).1) ?_
      show Steps p.tables e below (T2.setTop (mkF m 22 #[.val (.ref ob), .val (.int i), .val (.int (own_ix i)), .val (.long (own_bit i)), .second] [])) _
      refine XS.iconst X2.here hx rfl (hb hby d3_22) ?_
      exact k
    obtain ⟨fs, hr, hrun, hended, hW, hsame⟩ := X2.leave (v := some (.int (b2i (Fadd i w)))) (fun h => by rw [Bd.returns] at h; cases h)
    refine ⟨_, _, pre15 _ ?_, hrun, hended, _, _, rfl, ?_, ⟨_, rfl⟩, hW, hsame.mono (by decide) (by decide)⟩
    · show Steps p.tables e below (T2.setTop (mkF m 23 #[.val (.ref ob), .val (.int i), .val (.int (own_ix i)), .val (.long (own_bit i)), .second] [(.int (0 : Int32))])) _
      have hr2 := hr
      rw [(show (Fadd i w) = false from ((if_neg hc4).trans rfl))] at hr2
      exact retN X2 hx (t := .boolean) Bd.returns (by simp) (hb hby d3_23) hr2
    · show Q3 Z ob i aw au cap sz nw w nu u h0 n0 _ T2.heap _
      rw [e2]
      exact ⟨rfl, N0, ⟨k1_0, k1_1, k1_2, k1_3, (by rw [(show (Fadd_sz i sz w) = sz from ((if_neg hc4).trans rfl))]; exact k1_4), (by rw [(show (Fadd_w i w) = w from ((if_neg hc4).trans rfl))]; exact k1_5), (by rw [(show (Fadd_u i w u) = u from ((if_neg hc4).trans rfl))]; exact k1_6), k1_g_ob, k1_g_aw, k1_g_au, k1_n_ob_aw, k1_n_ob_au, k1_n_aw_au, Z0⟩⟩
theorem d4_0 : decode prog_16_method_3_code 0 = .ok (.aload_n 0, 1) := by decide +kernel
theorem d4_1 : decode prog_16_method_3_code 1 = .ok (.getfield 13, 3) := by decide +kernel
theorem d4_4 : decode prog_16_method_3_code 4 = .ok (.iload_n 1, 1) := by decide +kernel
theorem d4_5 : decode prog_16_method_3_code 5 = .ok (.bipush 6, 2) := by decide +kernel
theorem d4_7 : decode prog_16_method_3_code 7 = .ok (.iushr, 1) := by decide +kernel
theorem d4_8 : decode prog_16_method_3_code 8 = .ok (.laload, 1) := by decide +kernel
theorem d4_9 : decode prog_16_method_3_code 9 = .ok (.lconst 1, 1) := by decide +kernel
theorem d4_10 : decode prog_16_method_3_code 10 = .ok (.iload_n 1, 1) := by decide +kernel
theorem d4_11 : decode prog_16_method_3_code 11 = .ok (.lshl, 1) := by decide +kernel
theorem d4_12 : decode prog_16_method_3_code 12 = .ok (.land, 1) := by decide +kernel
theorem d4_13 : decode prog_16_method_3_code 13 = .ok (.lconst 0, 1) := by decide +kernel
theorem d4_14 : decode prog_16_method_3_code 14 = .ok (.lcmp, 1) := by decide +kernel
theorem d4_15 : decode prog_16_method_3_code 15 = .ok (.ifCond .eq 7, 3) := by decide +kernel
theorem d4_18 : decode prog_16_method_3_code 18 = .ok (.iconst 1, 1) := by decide +kernel
theorem d4_19 : decode prog_16_method_3_code 19 = .ok (.goto 4, 3) := by decide +kernel
theorem d4_22 : decode prog_16_method_3_code 22 = .ok (.iconst 0, 1) := by decide +kernel
theorem d4_23 : decode prog_16_method_3_code 23 = .ok (.ireturn, 1) := by decide +kernel
theorem ef_4 (m : MethodId) (x0 : Addr) (x1 : Int32) : entryFrame m #[(.ref x0), (.int x1)] 2 = mkF m 0 #[.val (.ref x0), .val (.int x1)] [] := by first | (simp [entryFrame, mkF, argsToLocals, Value.category]; done) | rfl
def Fcon (i : Int32) (w : Int32 → Int64) : Bool := (if ((w (own_ix i)) &&& (own_bit i)) = (0 : Int64) then false else true)
def Q4 (Z : State) (ob : Addr) (i : Int32) (aw : Addr) (au : Addr) (cap : Int32) (sz : Int32) (nw : Int32) (w : Int32 → Int64) (nu : Int32) (u : Int32 → Int64) (h0 : Heap) (n0 : Nat) (v : Option Value) (h : Heap) (L : List Loc) : Prop := v = some (.int (b2i (Fcon i w))) ∧ Fr n0 L ∧ h = h0
set_option maxRecDepth 65536 in
set_option maxHeartbeats 40000000 in
theorem rm4 (l : Launch) (Z : State) (a0 : Array Value) (hw : ∀ d ∈ tables_1, d.before a0 Z = true) (ws : List Jvm.Cond) (ob : Addr) (i : Int32) (aw : Addr) (au : Addr) (cap : Int32) (sz : Int32) (nw : Int32) (w : Int32 → Int64) (nu : Int32) (u : Int32 → Int64) (h0 : Heap) (n0 : Nat) (Z0 : n0 ≤ h0.size) (I0 : IS Z h0 n0 ob aw au cap sz nw w nu u) (hi : ¬ (own_ix i) < 0 ∧ (own_ix i) < nw) :
    MetFree l (⟨"com/example/cutline/cutline/IndexSet", "contains", "(I)Z"⟩ : MethodName) (head1 (Jvm.Cond.code (⟨"com/example/cutline/cutline/IndexSet", "contains", "(I)Z"⟩ : MethodName) prog_16_method_3_code 2 (some .boolean) :: ws) ({ frames := 0, cells := 0, slots := 0, locals := 0 } : Room)) (fun a U => a = #[(.ref ob), (.int i)] ∧ Z.Warmed39 U.vm ∧ U.heap = h0) (fun _ _ _ _ _ => True) (fun _ U o U' => ∃ v L, o = .returned v ∧ Q4 Z ob i aw au cap sz nw w nu u h0 n0 v U'.heap L ∧ FrameEnd U o U' L ({ frames := 0, cells := 0, slots := 0, locals := 0 } : Room).cells ({ frames := 0, cells := 0, slots := 0, locals := 0 } : Room).slots) := by
  refine MetFree.of_bodySF (plainFor_of_name pn_1) hisR ?_
  intro p e s m args below meth c s₁ Bd hml0 hP hK
  obtain ⟨rfl, hZ, hh⟩ := hP
  have hx := Bd.exec
  have hby := Bd.bytes
  have hml : c.maxLocals = 2 := hml0
  have hown : s.vm.findClass "com/example/cutline/cutline/IndexSet" = some m.cls := findClass_of_methodNamed Bd.named
  have hnm := (name_of_methodNamed Bd.named Bd.method).1
  have X0 : Stand p l e ({ frames := 0, cells := 0, slots := 0, locals := 0 } : Room) s m #[(.ref ob), (.int i)] below meth c s₁ [] 0 0 := Stand.of_body Bd
  have e0 : s₁.heap = h0 := by rw [← hh, Bd.state]; rfl
  have N0 := Fr.nil n0
  have pre0 : ∀ t, Steps p.tables e below (s₁.setTop (mkF m 0 #[.val (.ref ob), .val (.int i)] [])) t → Steps p.tables e below (s₁.setTop (entryFrame m #[(.ref ob), (.int i)] 2)) t := fun t k => castTop (ef_4 m ob i) k
  obtain ⟨k1_0, k1_1, k1_2, k1_3, k1_4, k1_5, k1_6, k1_g_ob, k1_g_aw, k1_g_au, k1_n_ob_aw, k1_n_ob_au, k1_n_aw_au, k1_sz⟩ := I0
  obtain ⟨T2, X2, e2, st2⟩ := getF X0 hx hZ hown (host := "") (Or.inl (hw _ (List.mem_of_getElem? (i := 13) rfl))) Via.refl e0 k1_2 (g := (mkF m 1 #[.val (.ref ob), .val (.int i)] [(.ref ob)])) rfl rfl (hb hby d4_1)
  have pre3 : ∀ t, Steps p.tables e below (T2.setTop (mkF m 15 #[.val (.ref ob), .val (.int i)] [(.int (lcmpW ((w (own_ix i)) &&& (own_bit i)) (0 : Int64)))])) t → Steps p.tables e below (s₁.setTop (entryFrame m #[(.ref ob), (.int i)] 2)) t := by
    intro t k
    refine pre0 t ?_
    show Steps p.tables e below (s₁.setTop (mkF m 0 #[.val (.ref ob), .val (.int i)] [])) _
    refine XS.aloadN X0.here hx rfl (hb hby d4_0) rfl rfl ?_
    show Steps p.tables e below (s₁.setTop (mkF m 1 #[.val (.ref ob), .val (.int i)] [(.ref ob)])) _
    refine st2 _ ?_
    show Steps p.tables e below (T2.setTop (mkF m 4 #[.val (.ref ob), .val (.int i)] [(.ref aw)])) _
    refine XS.iloadN X2.here hx rfl (hb hby d4_4) rfl ?_
    show Steps p.tables e below (T2.setTop (mkF m 5 #[.val (.ref ob), .val (.int i)] [(.int i), (.ref aw)])) _
    refine XS.bipush X2.here hx rfl (hb hby d4_5) ?_
    show Steps p.tables e below (T2.setTop (mkF m 7 #[.val (.ref ob), .val (.int i)] [(.int (6 : Int32)), (.int i), (.ref aw)])) _
    refine XS.iushr X2.here hx rfl (hb hby d4_7) rfl ?_
    show Steps p.tables e below (T2.setTop (mkF m 8 #[.val (.ref ob), .val (.int i)] [(.int (own_ix i)), (.ref aw)])) _
    refine rdJ X2 hx hZ e2 k1_5 (j := (own_ix i)) hi rfl (g := (mkF m 8 #[.val (.ref ob), .val (.int i)] [(.int (own_ix i)), (.ref aw)])) rfl rfl (hb hby d4_8) _ ?_
    show Steps p.tables e below (T2.setTop (mkF m 9 #[.val (.ref ob), .val (.int i)] [(.long (w (own_ix i)))])) _
    refine XS.lconst X2.here hx rfl (hb hby d4_9) ?_
    show Steps p.tables e below (T2.setTop (mkF m 10 #[.val (.ref ob), .val (.int i)] [(.long (1 : Int64)), (.long (w (own_ix i)))])) _
    refine XS.iloadN X2.here hx rfl (hb hby d4_10) rfl ?_
    show Steps p.tables e below (T2.setTop (mkF m 11 #[.val (.ref ob), .val (.int i)] [(.int i), (.long (1 : Int64)), (.long (w (own_ix i)))])) _
    refine XS.lshl X2.here hx rfl (hb hby d4_11) rfl ?_
    show Steps p.tables e below (T2.setTop (mkF m 12 #[.val (.ref ob), .val (.int i)] [(.long (own_bit i)), (.long (w (own_ix i)))])) _
    refine XS.land X2.here hx rfl (hb hby d4_12) rfl ?_
    show Steps p.tables e below (T2.setTop (mkF m 13 #[.val (.ref ob), .val (.int i)] [(.long ((w (own_ix i)) &&& (own_bit i)))])) _
    refine XS.lconst X2.here hx rfl (hb hby d4_13) ?_
    show Steps p.tables e below (T2.setTop (mkF m 14 #[.val (.ref ob), .val (.int i)] [(.long (0 : Int64)), (.long ((w (own_ix i)) &&& (own_bit i)))])) _
    refine XS.lcmp X2.here hx rfl (hb hby d4_14) rfl ?_
    exact k
  have pre4 : ∀ t, Steps p.tables e below (T2.setTop (mkF m 23 #[.val (.ref ob), .val (.int i)] [(.int (b2i (if ((w (own_ix i)) &&& (own_bit i)) = (0 : Int64) then false else true)))])) t → Steps p.tables e below (s₁.setTop (entryFrame m #[(.ref ob), (.int i)] 2)) t := by
    intro t k
    refine pre3 t ?_
    have k : ∀ (v1 : Bool), v1 = (if ((w (own_ix i)) &&& (own_bit i)) = (0 : Int64) then false else true) → Steps p.tables e below (T2.setTop (mkF m 23 #[.val (.ref ob), .val (.int i)] [(.int (b2i v1))])) t := fun v1 hv1 => by subst hv1; exact k
    show Steps p.tables e below (T2.setTop (mkF m 15 #[.val (.ref ob), .val (.int i)] [(.int (lcmpW ((w (own_ix i)) &&& (own_bit i)) (0 : Int64)))])) _
    by_cases hc5 : ((w (own_ix i)) &&& (own_bit i)) = (0 : Int64)
    · refine XS.ifYes X2.here hx rfl (pc0 := 15) (pc' := 22) rfl (hb hby d4_15) rfl ((if0 _ _).trans (teq ((lw_eq _ _).mpr hc5)).1) (by decide) (by decide) ?_
      have k : ∀ (v1 : Bool), v1 = false → Steps p.tables e below (T2.setTop (mkF m 23 #[.val (.ref ob), .val (.int i)] [(.int (b2i v1))])) t := fun v1 hv1 => k v1 (hv1.trans (if_pos hc5).symm)
      show Steps p.tables e below (T2.setTop (mkF m 22 #[.val (.ref ob), .val (.int i)] [])) _
      refine XS.iconst X2.here hx rfl (hb hby d4_22) ?_
      exact k false rfl
    · refine XS.ifNo X2.here hx rfl (hb hby d4_15) rfl ((if0 _ _).trans (feq (fun q => hc5 ((lw_eq _ _).mp q))).1) ?_
      have k : ∀ (v1 : Bool), v1 = true → Steps p.tables e below (T2.setTop (mkF m 23 #[.val (.ref ob), .val (.int i)] [(.int (b2i v1))])) t := fun v1 hv1 => k v1 (hv1.trans (if_neg hc5).symm)
      show Steps p.tables e below (T2.setTop (mkF m 18 #[.val (.ref ob), .val (.int i)] [])) _
      refine XS.iconst X2.here hx rfl (hb hby d4_18) ?_
      show Steps p.tables e below (T2.setTop (mkF m 19 #[.val (.ref ob), .val (.int i)] [(.int (1 : Int32))])) _
      refine XS.goto X2.here hx rfl (pc0 := 19) (pc' := 23) rfl (hb hby d4_19) (by decide) (by decide) ?_
      exact k true rfl
  obtain ⟨fs, hr, hrun, hended, hW, hsame⟩ := X2.leave (v := some (.int (b2i (Fcon i w)))) (fun h => by rw [Bd.returns] at h; cases h)
  refine ⟨_, _, pre4 _ ?_, hrun, hended, _, _, rfl, ?_, ⟨_, rfl⟩, hW, hsame.mono (by decide) (by decide)⟩
  · show Steps p.tables e below (T2.setTop (mkF m 23 #[.val (.ref ob), .val (.int i)] [(.int (b2i (if ((w (own_ix i)) &&& (own_bit i)) = (0 : Int64) then false else true)))])) _
    have hr2 := hr
    rw [(show (Fcon i w) = (if ((w (own_ix i)) &&& (own_bit i)) = (0 : Int64) then false else true) from rfl)] at hr2
    exact retN X2 hx (t := .boolean) Bd.returns (by simp) (hb hby d4_23) (by rw [nar_b2i]; exact hr2)
  · show Q4 Z ob i aw au cap sz nw w nu u h0 n0 _ T2.heap _
    rw [e2]
    exact ⟨rfl, N0, rfl⟩
theorem d5_0 : decode prog_16_method_5_code 0 = .ok (.iload_n 1, 1) := by decide +kernel
theorem d5_1 : decode prog_16_method_5_code 1 = .ok (.bipush 6, 2) := by decide +kernel
theorem d5_3 : decode prog_16_method_5_code 3 = .ok (.iushr, 1) := by decide +kernel
theorem d5_4 : decode prog_16_method_5_code 4 = .ok (.istore_n 2, 1) := by decide +kernel
theorem d5_5 : decode prog_16_method_5_code 5 = .ok (.lconst 1, 1) := by decide +kernel
theorem d5_6 : decode prog_16_method_5_code 6 = .ok (.iload_n 1, 1) := by decide +kernel
theorem d5_7 : decode prog_16_method_5_code 7 = .ok (.lshl, 1) := by decide +kernel
theorem d5_8 : decode prog_16_method_5_code 8 = .ok (.lstore_n 3, 1) := by decide +kernel
theorem d5_9 : decode prog_16_method_5_code 9 = .ok (.aload_n 0, 1) := by decide +kernel
theorem d5_10 : decode prog_16_method_5_code 10 = .ok (.getfield 13, 3) := by decide +kernel
theorem d5_13 : decode prog_16_method_5_code 13 = .ok (.iload_n 2, 1) := by decide +kernel
theorem d5_14 : decode prog_16_method_5_code 14 = .ok (.laload, 1) := by decide +kernel
theorem d5_15 : decode prog_16_method_5_code 15 = .ok (.lload_n 3, 1) := by decide +kernel
theorem d5_16 : decode prog_16_method_5_code 16 = .ok (.land, 1) := by decide +kernel
theorem d5_17 : decode prog_16_method_5_code 17 = .ok (.lconst 0, 1) := by decide +kernel
theorem d5_18 : decode prog_16_method_5_code 18 = .ok (.lcmp, 1) := by decide +kernel
theorem d5_19 : decode prog_16_method_5_code 19 = .ok (.ifCond .ne 5, 3) := by decide +kernel
theorem d5_22 : decode prog_16_method_5_code 22 = .ok (.iconst 0, 1) := by decide +kernel
theorem d5_23 : decode prog_16_method_5_code 23 = .ok (.ireturn, 1) := by decide +kernel
theorem d5_24 : decode prog_16_method_5_code 24 = .ok (.aload_n 0, 1) := by decide +kernel
theorem d5_25 : decode prog_16_method_5_code 25 = .ok (.getfield 13, 3) := by decide +kernel
theorem d5_28 : decode prog_16_method_5_code 28 = .ok (.iload_n 2, 1) := by decide +kernel
theorem d5_29 : decode prog_16_method_5_code 29 = .ok (.dup2, 1) := by decide +kernel
theorem d5_30 : decode prog_16_method_5_code 30 = .ok (.laload, 1) := by decide +kernel
theorem d5_31 : decode prog_16_method_5_code 31 = .ok (.lload_n 3, 1) := by decide +kernel
theorem d5_32 : decode prog_16_method_5_code 32 = .ok (.ldc2_w 23, 3) := by decide +kernel
theorem d5_35 : decode prog_16_method_5_code 35 = .ok (.lxor, 1) := by decide +kernel
theorem d5_36 : decode prog_16_method_5_code 36 = .ok (.land, 1) := by decide +kernel
theorem d5_37 : decode prog_16_method_5_code 37 = .ok (.lastore, 1) := by decide +kernel
theorem d5_38 : decode prog_16_method_5_code 38 = .ok (.aload_n 0, 1) := by decide +kernel
theorem d5_39 : decode prog_16_method_5_code 39 = .ok (.getfield 13, 3) := by decide +kernel
theorem d5_42 : decode prog_16_method_5_code 42 = .ok (.iload_n 2, 1) := by decide +kernel
theorem d5_43 : decode prog_16_method_5_code 43 = .ok (.laload, 1) := by decide +kernel
theorem d5_44 : decode prog_16_method_5_code 44 = .ok (.lconst 0, 1) := by decide +kernel
theorem d5_45 : decode prog_16_method_5_code 45 = .ok (.lcmp, 1) := by decide +kernel
theorem d5_46 : decode prog_16_method_5_code 46 = .ok (.ifCond .ne 22, 3) := by decide +kernel
theorem d5_49 : decode prog_16_method_5_code 49 = .ok (.aload_n 0, 1) := by decide +kernel
theorem d5_50 : decode prog_16_method_5_code 50 = .ok (.getfield 17, 3) := by decide +kernel
theorem d5_53 : decode prog_16_method_5_code 53 = .ok (.iload_n 2, 1) := by decide +kernel
theorem d5_54 : decode prog_16_method_5_code 54 = .ok (.bipush 6, 2) := by decide +kernel
theorem d5_56 : decode prog_16_method_5_code 56 = .ok (.iushr, 1) := by decide +kernel
theorem d5_57 : decode prog_16_method_5_code 57 = .ok (.dup2, 1) := by decide +kernel
theorem d5_58 : decode prog_16_method_5_code 58 = .ok (.laload, 1) := by decide +kernel
theorem d5_59 : decode prog_16_method_5_code 59 = .ok (.lconst 1, 1) := by decide +kernel
theorem d5_60 : decode prog_16_method_5_code 60 = .ok (.iload_n 2, 1) := by decide +kernel
theorem d5_61 : decode prog_16_method_5_code 61 = .ok (.lshl, 1) := by decide +kernel
theorem d5_62 : decode prog_16_method_5_code 62 = .ok (.ldc2_w 23, 3) := by decide +kernel
theorem d5_65 : decode prog_16_method_5_code 65 = .ok (.lxor, 1) := by decide +kernel
theorem d5_66 : decode prog_16_method_5_code 66 = .ok (.land, 1) := by decide +kernel
theorem d5_67 : decode prog_16_method_5_code 67 = .ok (.lastore, 1) := by decide +kernel
theorem d5_68 : decode prog_16_method_5_code 68 = .ok (.aload_n 0, 1) := by decide +kernel
theorem d5_69 : decode prog_16_method_5_code 69 = .ok (.dup, 1) := by decide +kernel
theorem d5_70 : decode prog_16_method_5_code 70 = .ok (.getfield 20, 3) := by decide +kernel
theorem d5_73 : decode prog_16_method_5_code 73 = .ok (.iconst 1, 1) := by decide +kernel
theorem d5_74 : decode prog_16_method_5_code 74 = .ok (.isub, 1) := by decide +kernel
theorem d5_75 : decode prog_16_method_5_code 75 = .ok (.putfield 20, 3) := by decide +kernel
theorem d5_78 : decode prog_16_method_5_code 78 = .ok (.iconst 1, 1) := by decide +kernel
theorem d5_79 : decode prog_16_method_5_code 79 = .ok (.ireturn, 1) := by decide +kernel
theorem ef_5 (m : MethodId) (x0 : Addr) (x1 : Int32) : entryFrame m #[(.ref x0), (.int x1)] 5 = mkF m 0 #[.val (.ref x0), .val (.int x1), .unset, .unset, .unset] [] := by first | (simp [entryFrame, mkF, argsToLocals, Value.category]; done) | rfl
def Frem (i : Int32) (w : Int32 → Int64) : Bool := (if ((w (own_ix i)) &&& (own_bit i)) = (0 : Int64) then false else true)
def Frem_sz (i : Int32) (sz : Int32) (w : Int32 → Int64) : Int32 := (if ((w (own_ix i)) &&& (own_bit i)) = (0 : Int64) then sz else (sz - (1 : Int32)))
def Frem_w (i : Int32) (w : Int32 → Int64) : Int32 → Int64 := (if ((w (own_ix i)) &&& (own_bit i)) = (0 : Int64) then w else (upd w (own_ix i) ((w (own_ix i)) &&& ((own_bit i) ^^^ (-1 : Int64)))))
def Frem_u (i : Int32) (w : Int32 → Int64) (u : Int32 → Int64) : Int32 → Int64 := (if ((w (own_ix i)) &&& (own_bit i)) = (0 : Int64) then u else (if ((w (own_ix i)) &&& ((own_bit i) ^^^ (-1 : Int64))) = (0 : Int64) then (upd u (own_ix (own_ix i)) ((u (own_ix (own_ix i))) &&& ((own_bit (own_ix i)) ^^^ (-1 : Int64)))) else u))
def Q5 (Z : State) (ob : Addr) (i : Int32) (aw : Addr) (au : Addr) (cap : Int32) (sz : Int32) (nw : Int32) (w : Int32 → Int64) (nu : Int32) (u : Int32 → Int64) (h0 : Heap) (n0 : Nat) (v : Option Value) (h : Heap) (L : List Loc) : Prop := v = some (.int (b2i (Frem i w))) ∧ Fr n0 L ∧ IS Z h n0 ob aw au cap (Frem_sz i sz w) nw (Frem_w i w) nu (Frem_u i w u)
set_option maxRecDepth 65536 in
set_option maxHeartbeats 40000000 in
theorem rm5 (l : Launch) (Z : State) (a0 : Array Value) (hw : ∀ d ∈ tables_1, d.before a0 Z = true) (ws : List Jvm.Cond) (ob : Addr) (i : Int32) (aw : Addr) (au : Addr) (cap : Int32) (sz : Int32) (nw : Int32) (w : Int32 → Int64) (nu : Int32) (u : Int32 → Int64) (h0 : Heap) (n0 : Nat) (Z0 : n0 ≤ h0.size) (I0 : IS Z h0 n0 ob aw au cap sz nw w nu u) (hi : ¬ (own_ix i) < 0 ∧ (own_ix i) < nw) (hj : ¬ (own_ix (own_ix i)) < 0 ∧ (own_ix (own_ix i)) < nu) :
    MetFree l (⟨"com/example/cutline/cutline/IndexSet", "remove", "(I)Z"⟩ : MethodName) (head1 (Jvm.Cond.code (⟨"com/example/cutline/cutline/IndexSet", "remove", "(I)Z"⟩ : MethodName) prog_16_method_5_code 5 (some .boolean) :: ws) ({ frames := 0, cells := 0, slots := 0, locals := 0 } : Room)) (fun a U => a = #[(.ref ob), (.int i)] ∧ Z.Warmed39 U.vm ∧ U.heap = h0) (fun _ _ _ _ _ => True) (fun _ U o U' => ∃ v L, o = .returned v ∧ Q5 Z ob i aw au cap sz nw w nu u h0 n0 v U'.heap L ∧ FrameEnd U o U' L ({ frames := 0, cells := 0, slots := 0, locals := 0 } : Room).cells ({ frames := 0, cells := 0, slots := 0, locals := 0 } : Room).slots) := by
  refine MetFree.of_bodySF (plainFor_of_name pn_1) hisR ?_
  intro p e s m args below meth c s₁ Bd hml0 hP hK
  obtain ⟨rfl, hZ, hh⟩ := hP
  have hx := Bd.exec
  have hby := Bd.bytes
  have hml : c.maxLocals = 5 := hml0
  have hown : s.vm.findClass "com/example/cutline/cutline/IndexSet" = some m.cls := findClass_of_methodNamed Bd.named
  have hnm := (name_of_methodNamed Bd.named Bd.method).1
  have X0 : Stand p l e ({ frames := 0, cells := 0, slots := 0, locals := 0 } : Room) s m #[(.ref ob), (.int i)] below meth c s₁ [] 0 0 := Stand.of_body Bd
  have e0 : s₁.heap = h0 := by rw [← hh, Bd.state]; rfl
  have N0 := Fr.nil n0
  have pre0 : ∀ t, Steps p.tables e below (s₁.setTop (mkF m 0 #[.val (.ref ob), .val (.int i), .unset, .unset, .unset] [])) t → Steps p.tables e below (s₁.setTop (entryFrame m #[(.ref ob), (.int i)] 5)) t := fun t k => castTop (ef_5 m ob i) k
  obtain ⟨k1_0, k1_1, k1_2, k1_3, k1_4, k1_5, k1_6, k1_g_ob, k1_g_aw, k1_g_au, k1_n_ob_aw, k1_n_ob_au, k1_n_aw_au, k1_sz⟩ := I0
  obtain ⟨T2, X2, e2, st2⟩ := getF X0 hx hZ hown (host := "") (Or.inl (hw _ (List.mem_of_getElem? (i := 13) rfl))) Via.refl e0 k1_2 (g := (mkF m 10 #[.val (.ref ob), .val (.int i), .val (.int (own_ix i)), .val (.long (own_bit i)), .second] [(.ref ob)])) rfl rfl (hb hby d5_10)
  have pre3 : ∀ t, Steps p.tables e below (T2.setTop (mkF m 19 #[.val (.ref ob), .val (.int i), .val (.int (own_ix i)), .val (.long (own_bit i)), .second] [(.int (lcmpW ((w (own_ix i)) &&& (own_bit i)) (0 : Int64)))])) t → Steps p.tables e below (s₁.setTop (entryFrame m #[(.ref ob), (.int i)] 5)) t := by
    intro t k
    refine pre0 t ?_
    show Steps p.tables e below (s₁.setTop (mkF m 0 #[.val (.ref ob), .val (.int i), .unset, .unset, .unset] [])) _
    refine XS.iloadN X0.here hx rfl (hb hby d5_0) rfl ?_
    show Steps p.tables e below (s₁.setTop (mkF m 1 #[.val (.ref ob), .val (.int i), .unset, .unset, .unset] [(.int i)])) _
    refine XS.bipush X0.here hx rfl (hb hby d5_1) ?_
    show Steps p.tables e below (s₁.setTop (mkF m 3 #[.val (.ref ob), .val (.int i), .unset, .unset, .unset] [(.int (6 : Int32)), (.int i)])) _
    refine XS.iushr X0.here hx rfl (hb hby d5_3) rfl ?_
    show Steps p.tables e below (s₁.setTop (mkF m 4 #[.val (.ref ob), .val (.int i), .unset, .unset, .unset] [(.int ((i.toUInt32 >>> ((6 : Int32) &&& 31).toUInt32).toInt32))])) _
    refine XS.istoreN X0.here hx rfl (hb hby d5_4) rfl (l' := #[.val (.ref ob), .val (.int i), .val (.int (own_ix i)), .unset, .unset]) rfl ?_
    show Steps p.tables e below (s₁.setTop (mkF m 5 #[.val (.ref ob), .val (.int i), .val (.int (own_ix i)), .unset, .unset] [])) _
    refine XS.lconst X0.here hx rfl (hb hby d5_5) ?_
    show Steps p.tables e below (s₁.setTop (mkF m 6 #[.val (.ref ob), .val (.int i), .val (.int (own_ix i)), .unset, .unset] [(.long (1 : Int64))])) _
    refine XS.iloadN X0.here hx rfl (hb hby d5_6) rfl ?_
    show Steps p.tables e below (s₁.setTop (mkF m 7 #[.val (.ref ob), .val (.int i), .val (.int (own_ix i)), .unset, .unset] [(.int i), (.long (1 : Int64))])) _
    refine XS.lshl X0.here hx rfl (hb hby d5_7) rfl ?_
    show Steps p.tables e below (s₁.setTop (mkF m 8 #[.val (.ref ob), .val (.int i), .val (.int (own_ix i)), .unset, .unset] [(.long ((1 : Int64) <<< (i &&& 0x3f).toInt64))])) _
    refine XS.lstoreN X0.here hx rfl (hb hby d5_8) rfl (l' := #[.val (.ref ob), .val (.int i), .val (.int (own_ix i)), .val (.long (own_bit i)), .second]) rfl ?_
    show Steps p.tables e below (s₁.setTop (mkF m 9 #[.val (.ref ob), .val (.int i), .val (.int (own_ix i)), .val (.long (own_bit i)), .second] [])) _
    refine XS.aloadN X0.here hx rfl (hb hby d5_9) rfl rfl ?_
    show Steps p.tables e below (s₁.setTop (mkF m 10 #[.val (.ref ob), .val (.int i), .val (.int (own_ix i)), .val (.long (own_bit i)), .second] [(.ref ob)])) _
    refine st2 _ ?_
    show Steps p.tables e below (T2.setTop (mkF m 13 #[.val (.ref ob), .val (.int i), .val (.int (own_ix i)), .val (.long (own_bit i)), .second] [(.ref aw)])) _
    refine XS.iloadN X2.here hx rfl (hb hby d5_13) rfl ?_
    show Steps p.tables e below (T2.setTop (mkF m 14 #[.val (.ref ob), .val (.int i), .val (.int (own_ix i)), .val (.long (own_bit i)), .second] [(.int (own_ix i)), (.ref aw)])) _
    refine rdJ X2 hx hZ e2 k1_5 (j := (own_ix i)) hi rfl (g := (mkF m 14 #[.val (.ref ob), .val (.int i), .val (.int (own_ix i)), .val (.long (own_bit i)), .second] [(.int (own_ix i)), (.ref aw)])) rfl rfl (hb hby d5_14) _ ?_
    show Steps p.tables e below (T2.setTop (mkF m 15 #[.val (.ref ob), .val (.int i), .val (.int (own_ix i)), .val (.long (own_bit i)), .second] [(.long (w (own_ix i)))])) _
    refine XS.lloadN X2.here hx rfl (hb hby d5_15) rfl ?_
    show Steps p.tables e below (T2.setTop (mkF m 16 #[.val (.ref ob), .val (.int i), .val (.int (own_ix i)), .val (.long (own_bit i)), .second] [(.long (own_bit i)), (.long (w (own_ix i)))])) _
    refine XS.land X2.here hx rfl (hb hby d5_16) rfl ?_
    show Steps p.tables e below (T2.setTop (mkF m 17 #[.val (.ref ob), .val (.int i), .val (.int (own_ix i)), .val (.long (own_bit i)), .second] [(.long ((w (own_ix i)) &&& (own_bit i)))])) _
    refine XS.lconst X2.here hx rfl (hb hby d5_17) ?_
    show Steps p.tables e below (T2.setTop (mkF m 18 #[.val (.ref ob), .val (.int i), .val (.int (own_ix i)), .val (.long (own_bit i)), .second] [(.long (0 : Int64)), (.long ((w (own_ix i)) &&& (own_bit i)))])) _
    refine XS.lcmp X2.here hx rfl (hb hby d5_18) rfl ?_
    exact k
  by_cases hc4 : ((w (own_ix i)) &&& (own_bit i)) = (0 : Int64)
  ·
    have pre5 : ∀ t, Steps p.tables e below (T2.setTop (mkF m 23 #[.val (.ref ob), .val (.int i), .val (.int (own_ix i)), .val (.long (own_bit i)), .second] [(.int (0 : Int32))])) t → Steps p.tables e below (s₁.setTop (entryFrame m #[(.ref ob), (.int i)] 5)) t := by
      intro t k
      refine pre3 t ?_
      show Steps p.tables e below (T2.setTop (mkF m 19 #[.val (.ref ob), .val (.int i), .val (.int (own_ix i)), .val (.long (own_bit i)), .second] [(.int (lcmpW ((w (own_ix i)) &&& (own_bit i)) (0 : Int64)))])) _
      refine XS.ifNo X2.here hx rfl (hb hby d5_19) rfl ((if0 _ _).trans (teq ((lw_eq _ _).mpr hc4)).2) ?_
      show Steps p.tables e below (T2.setTop (mkF m 22 #[.val (.ref ob), .val (.int i), .val (.int (own_ix i)), .val (.long (own_bit i)), .second] [])) _
      refine XS.iconst X2.here hx rfl (hb hby d5_22) ?_
      exact k
    obtain ⟨fs, hr, hrun, hended, hW, hsame⟩ := X2.leave (v := some (.int (b2i (Frem i w)))) (fun h => by rw [Bd.returns] at h; cases h)
    refine ⟨_, _, pre5 _ ?_, hrun, hended, _, _, rfl, ?_, ⟨_, rfl⟩, hW, hsame.mono (by decide) (by decide)⟩
    · show Steps p.tables e below (T2.setTop (mkF m 23 #[.val (.ref ob), .val (.int i), .val (.int (own_ix i)), .val (.long (own_bit i)), .second] [(.int (0 : Int32))])) _
      have hr2 := hr
      rw [(show (Frem i w) = false from ((if_pos hc4).trans rfl))] at hr2
      exact retN X2 hx (t := .boolean) Bd.returns (by simp) (hb hby d5_23) hr2
    · show Q5 Z ob i aw au cap sz nw w nu u h0 n0 _ T2.heap _
      rw [e2]
      exact ⟨rfl, N0, ⟨k1_0, k1_1, k1_2, k1_3, (by rw [(show (Frem_sz i sz w) = sz from ((if_pos hc4).trans rfl))]; exact k1_4), (by rw [(show (Frem_w i w) = w from ((if_pos hc4).trans rfl))]; exact k1_5), (by rw [(show (Frem_u i w u) = u from ((if_pos hc4).trans rfl))]; exact k1_6), k1_g_ob, k1_g_aw, k1_g_au, k1_n_ob_aw, k1_n_ob_au, k1_n_aw_au, Z0⟩⟩
  ·
    obtain ⟨T6, X6, e6, st6⟩ := getF X2 hx hZ hown (host := "") (Or.inl (hw _ (List.mem_of_getElem? (i := 13) rfl))) Via.refl e2 k1_2 (g := (mkF m 25 #[.val (.ref ob), .val (.int i), .val (.int (own_ix i)), .val (.long (own_bit i)), .second] [(.ref ob)])) rfl rfl (hb hby d5_25)
    obtain ⟨T7, h7, X7, e7, W7, V7, st7⟩ := wrJ X6 hx hZ e6 k1_5 (j := (own_ix i)) hi  (g := (mkF m 37 #[.val (.ref ob), .val (.int i), .val (.int (own_ix i)), .val (.long (own_bit i)), .second] [(.long ((w (own_ix i)) &&& ((own_bit i) ^^^ (-1 : Int64)))), (.int (own_ix i)), (.ref aw)])) rfl rfl (hb hby d5_37)
    have Z7 : n0 ≤ h7.size := Nat.le_trans Z0 (Keep.of_wr W7).1
    have N7 := Fr.snoc X7 N0 k1_g_aw
    obtain ⟨T8, X8, e8, st8⟩ := getF X7 hx hZ hown (host := "") (Or.inl (hw _ (List.mem_of_getElem? (i := 13) rfl))) Via.refl e7 (k1_2.other W7 (Or.inl k1_n_ob_aw)) (g := (mkF m 39 #[.val (.ref ob), .val (.int i), .val (.int (own_ix i)), .val (.long (own_bit i)), .second] [(.ref ob)])) rfl rfl (hb hby d5_39)
    have pre9 : ∀ t, Steps p.tables e below (T8.setTop (mkF m 46 #[.val (.ref ob), .val (.int i), .val (.int (own_ix i)), .val (.long (own_bit i)), .second] [(.int (lcmpW ((w (own_ix i)) &&& ((own_bit i) ^^^ (-1 : Int64))) (0 : Int64)))])) t → Steps p.tables e below (s₁.setTop (entryFrame m #[(.ref ob), (.int i)] 5)) t := by
      intro t k
      refine pre3 t ?_
      show Steps p.tables e below (T2.setTop (mkF m 19 #[.val (.ref ob), .val (.int i), .val (.int (own_ix i)), .val (.long (own_bit i)), .second] [(.int (lcmpW ((w (own_ix i)) &&& (own_bit i)) (0 : Int64)))])) _
      refine XS.ifYes X2.here hx rfl (pc0 := 19) (pc' := 24) rfl (hb hby d5_19) rfl ((if0 _ _).trans (feq (fun q => hc4 ((lw_eq _ _).mp q))).2) (by decide) (by decide) ?_
      show Steps p.tables e below (T2.setTop (mkF m 24 #[.val (.ref ob), .val (.int i), .val (.int (own_ix i)), .val (.long (own_bit i)), .second] [])) _
      refine XS.aloadN X2.here hx rfl (hb hby d5_24) rfl rfl ?_
      show Steps p.tables e below (T2.setTop (mkF m 25 #[.val (.ref ob), .val (.int i), .val (.int (own_ix i)), .val (.long (own_bit i)), .second] [(.ref ob)])) _
      refine st6 _ ?_
      show Steps p.tables e below (T6.setTop (mkF m 28 #[.val (.ref ob), .val (.int i), .val (.int (own_ix i)), .val (.long (own_bit i)), .second] [(.ref aw)])) _
      refine XS.iloadN X6.here hx rfl (hb hby d5_28) rfl ?_
      show Steps p.tables e below (T6.setTop (mkF m 29 #[.val (.ref ob), .val (.int i), .val (.int (own_ix i)), .val (.long (own_bit i)), .second] [(.int (own_ix i)), (.ref aw)])) _
      refine Jvm.Free.XT.dup2 X6.here hx rfl (hb hby d5_29) rfl rfl rfl ?_
      show Steps p.tables e below (T6.setTop (mkF m 30 #[.val (.ref ob), .val (.int i), .val (.int (own_ix i)), .val (.long (own_bit i)), .second] [(.int (own_ix i)), (.ref aw), (.int (own_ix i)), (.ref aw)])) _
      refine rdJ X6 hx hZ e6 k1_5 (j := (own_ix i)) hi rfl (g := (mkF m 30 #[.val (.ref ob), .val (.int i), .val (.int (own_ix i)), .val (.long (own_bit i)), .second] [(.int (own_ix i)), (.ref aw), (.int (own_ix i)), (.ref aw)])) rfl rfl (hb hby d5_30) _ ?_
      show Steps p.tables e below (T6.setTop (mkF m 31 #[.val (.ref ob), .val (.int i), .val (.int (own_ix i)), .val (.long (own_bit i)), .second] [(.long (w (own_ix i))), (.int (own_ix i)), (.ref aw)])) _
      refine XS.lloadN X6.here hx rfl (hb hby d5_31) rfl ?_
      show Steps p.tables e below (T6.setTop (mkF m 32 #[.val (.ref ob), .val (.int i), .val (.int (own_ix i)), .val (.long (own_bit i)), .second] [(.long (own_bit i)), (.long (w (own_ix i))), (.int (own_ix i)), (.ref aw)])) _
      refine X6.ldc2Long hx hown (mvT hZ (hw _ (List.mem_of_getElem? (i := 34) rfl))) (g := (mkF m 32 #[.val (.ref ob), .val (.int i), .val (.int (own_ix i)), .val (.long (own_bit i)), .second] [(.long (own_bit i)), (.long (w (own_ix i))), (.int (own_ix i)), (.ref aw)])) rfl (hb hby d5_32) _ ?_
      show Steps p.tables e below (T6.setTop (mkF m 35 #[.val (.ref ob), .val (.int i), .val (.int (own_ix i)), .val (.long (own_bit i)), .second] [(.long (-1 : Int64)), (.long (own_bit i)), (.long (w (own_ix i))), (.int (own_ix i)), (.ref aw)])) _
      refine XS.lxor X6.here hx rfl (hb hby d5_35) rfl ?_
      show Steps p.tables e below (T6.setTop (mkF m 36 #[.val (.ref ob), .val (.int i), .val (.int (own_ix i)), .val (.long (own_bit i)), .second] [(.long ((own_bit i) ^^^ (-1 : Int64))), (.long (w (own_ix i))), (.int (own_ix i)), (.ref aw)])) _
      refine XS.land X6.here hx rfl (hb hby d5_36) rfl ?_
      show Steps p.tables e below (T6.setTop (mkF m 37 #[.val (.ref ob), .val (.int i), .val (.int (own_ix i)), .val (.long (own_bit i)), .second] [(.long ((w (own_ix i)) &&& ((own_bit i) ^^^ (-1 : Int64)))), (.int (own_ix i)), (.ref aw)])) _
      refine st7 _ ?_
      show Steps p.tables e below (T7.setTop (mkF m 38 #[.val (.ref ob), .val (.int i), .val (.int (own_ix i)), .val (.long (own_bit i)), .second] [])) _
      refine XS.aloadN X7.here hx rfl (hb hby d5_38) rfl rfl ?_
      show Steps p.tables e below (T7.setTop (mkF m 39 #[.val (.ref ob), .val (.int i), .val (.int (own_ix i)), .val (.long (own_bit i)), .second] [(.ref ob)])) _
      refine st8 _ ?_
      show Steps p.tables e below (T8.setTop (mkF m 42 #[.val (.ref ob), .val (.int i), .val (.int (own_ix i)), .val (.long (own_bit i)), .second] [(.ref aw)])) _
      refine XS.iloadN X8.here hx rfl (hb hby d5_42) rfl ?_
      show Steps p.tables e below (T8.setTop (mkF m 43 #[.val (.ref ob), .val (.int i), .val (.int (own_ix i)), .val (.long (own_bit i)), .second] [(.int (own_ix i)), (.ref aw)])) _
      refine rdJ X8 hx hZ e8 V7 (j := (own_ix i)) hi upd_hit (g := (mkF m 43 #[.val (.ref ob), .val (.int i), .val (.int (own_ix i)), .val (.long (own_bit i)), .second] [(.int (own_ix i)), (.ref aw)])) rfl rfl (hb hby d5_43) _ ?_
      show Steps p.tables e below (T8.setTop (mkF m 44 #[.val (.ref ob), .val (.int i), .val (.int (own_ix i)), .val (.long (own_bit i)), .second] [(.long ((w (own_ix i)) &&& ((own_bit i) ^^^ (-1 : Int64))))])) _
      refine XS.lconst X8.here hx rfl (hb hby d5_44) ?_
      show Steps p.tables e below (T8.setTop (mkF m 45 #[.val (.ref ob), .val (.int i), .val (.int (own_ix i)), .val (.long (own_bit i)), .second] [(.long (0 : Int64)), (.long ((w (own_ix i)) &&& ((own_bit i) ^^^ (-1 : Int64))))])) _
      refine XS.lcmp X8.here hx rfl (hb hby d5_45) rfl ?_
      exact k
    by_cases hc10 : ((w (own_ix i)) &&& ((own_bit i) ^^^ (-1 : Int64))) = (0 : Int64)
    ·
      obtain ⟨T11, X11, e11, st11⟩ := getF X8 hx hZ hown (host := "") (Or.inl (hw _ (List.mem_of_getElem? (i := 15) rfl))) Via.refl e8 (k1_3.other W7 (Or.inl k1_n_ob_aw)) (g := (mkF m 50 #[.val (.ref ob), .val (.int i), .val (.int (own_ix i)), .val (.long (own_bit i)), .second] [(.ref ob)])) rfl rfl (hb hby d5_50)
      obtain ⟨T12, h12, X12, e12, W12, V12, st12⟩ := wrJ X11 hx hZ e11 (k1_6.other W7 (Ne.symm k1_n_aw_au)) (j := (own_ix (own_ix i))) hj  (g := (mkF m 67 #[.val (.ref ob), .val (.int i), .val (.int (own_ix i)), .val (.long (own_bit i)), .second] [(.long ((u (own_ix (own_ix i))) &&& ((own_bit (own_ix i)) ^^^ (-1 : Int64)))), (.int (own_ix (own_ix i))), (.ref au)])) rfl rfl (hb hby d5_67)
      have Z12 : n0 ≤ h12.size := Nat.le_trans Z7 (Keep.of_wr W12).1
      have N12 := Fr.snoc X12 N7 k1_g_au
      obtain ⟨T13, X13, e13, st13⟩ := getF X12 hx hZ hown (host := "") (Or.inl (hw _ (List.mem_of_getElem? (i := 22) rfl))) Via.refl e12 ((k1_4.other W7 (Or.inl k1_n_ob_aw)).other W12 (Or.inl k1_n_ob_au)) (g := (mkF m 70 #[.val (.ref ob), .val (.int i), .val (.int (own_ix i)), .val (.long (own_bit i)), .second] [(.ref ob), (.ref ob)])) rfl rfl (hb hby d5_70)
      obtain ⟨T14, h14, X14, e14, W14, st14⟩ := putF X13 hx hZ hown (host := "") (Or.inl (hw _ (List.mem_of_getElem? (i := 22) rfl))) Via.refl e13 ((k1_4.other W7 (Or.inl k1_n_ob_aw)).other W12 (Or.inl k1_n_ob_au)) ((k1_0.wr W7).wr W12) (Or.inl (hw _ (List.mem_of_getElem? (i := 23) rfl))) (hw _ (List.mem_of_getElem? (i := 2) rfl)) (ty := .int) (by decide) rfl rfl (g := (mkF m 75 #[.val (.ref ob), .val (.int i), .val (.int (own_ix i)), .val (.long (own_bit i)), .second] [(.int (sz - (1 : Int32))), (.ref ob)])) rfl rfl (hb hby d5_75)
      have f15 := (((k1_1.other W7 (Or.inl k1_n_ob_aw)).other W12 (Or.inl k1_n_ob_au)).other W14 (Or.inr (slot_ne (Or.inr (hw _ (List.mem_of_getElem? (i := 11) rfl))) (Or.inl (hw _ (List.mem_of_getElem? (i := 23) rfl))) (by decide) (t := .int) (t' := .int) (by decide) (by decide))))
      have f16 := (((k1_2.other W7 (Or.inl k1_n_ob_aw)).other W12 (Or.inl k1_n_ob_au)).other W14 (Or.inr (slot_ne (Or.inr (hw _ (List.mem_of_getElem? (i := 14) rfl))) (Or.inl (hw _ (List.mem_of_getElem? (i := 23) rfl))) (by decide) (t := (.array .long)) (t' := .int) (by decide) (by decide))))
      have f17 := (((k1_3.other W7 (Or.inl k1_n_ob_aw)).other W12 (Or.inl k1_n_ob_au)).other W14 (Or.inr (slot_ne (Or.inr (hw _ (List.mem_of_getElem? (i := 16) rfl))) (Or.inl (hw _ (List.mem_of_getElem? (i := 23) rfl))) (by decide) (t := (.array .long)) (t' := .int) (by decide) (by decide))))
      have Z14 : n0 ≤ h14.size := Nat.le_trans Z12 (Keep.of_wr W14).1
      have N14 := Fr.snoc X14 N12 k1_g_ob
      have pre18 : ∀ t, Steps p.tables e below (T14.setTop (mkF m 79 #[.val (.ref ob), .val (.int i), .val (.int (own_ix i)), .val (.long (own_bit i)), .second] [(.int (1 : Int32))])) t → Steps p.tables e below (s₁.setTop (entryFrame m #[(.ref ob), (.int i)] 5)) t := by
        intro t k
        refine pre9 t ?_
        show Steps p.tables e below (T8.setTop (mkF m 46 #[.val (.ref ob), .val (.int i), .val (.int (own_ix i)), .val (.long (own_bit i)), .second] [(.int (lcmpW ((w (own_ix i)) &&& ((own_bit i) ^^^ (-1 : Int64))) (0 : Int64)))])) _
        refine XS.ifNo X8.here hx rfl (hb hby d5_46) rfl ((if0 _ _).trans (teq ((lw_eq _ _).mpr hc10)).2) ?_
        show Steps p.tables e below (T8.setTop (mkF m 49 #[.val (.ref ob), .val (.int i), .val (.int (own_ix i)), .val (.long (own_bit i)), .second] [])) _
        refine XS.aloadN X8.here hx rfl (hb hby d5_49) rfl rfl ?_
        show Steps p.tables e below (T8.setTop (mkF m 50 #[.val (.ref ob), .val (.int i), .val (.int (own_ix i)), .val (.long (own_bit i)), .second] [(.ref ob)])) _
        refine st11 _ ?_
        show Steps p.tables e below (T11.setTop (mkF m 53 #[.val (.ref ob), .val (.int i), .val (.int (own_ix i)), .val (.long (own_bit i)), .second] [(.ref au)])) _
        refine XS.iloadN X11.here hx rfl (hb hby d5_53) rfl ?_
        show Steps p.tables e below (T11.setTop (mkF m 54 #[.val (.ref ob), .val (.int i), .val (.int (own_ix i)), .val (.long (own_bit i)), .second] [(.int (own_ix i)), (.ref au)])) _
        refine XS.bipush X11.here hx rfl (hb hby d5_54) ?_
        show Steps p.tables e below (T11.setTop (mkF m 56 #[.val (.ref ob), .val (.int i), .val (.int (own_ix i)), .val (.long (own_bit i)), .second] [(.int (6 : Int32)), (.int (own_ix i)), (.ref au)])) _
        refine XS.iushr X11.here hx rfl (hb hby d5_56) rfl ?_
        show Steps p.tables e below (T11.setTop (mkF m 57 #[.val (.ref ob), .val (.int i), .val (.int (own_ix i)), .val (.long (own_bit i)), .second] [(.int (own_ix (own_ix i))), (.ref au)])) _
        refine Jvm.Free.XT.dup2 X11.here hx rfl (hb hby d5_57) rfl rfl rfl ?_
        show Steps p.tables e below (T11.setTop (mkF m 58 #[.val (.ref ob), .val (.int i), .val (.int (own_ix i)), .val (.long (own_bit i)), .second] [(.int (own_ix (own_ix i))), (.ref au), (.int (own_ix (own_ix i))), (.ref au)])) _
        refine rdJ X11 hx hZ e11 (k1_6.other W7 (Ne.symm k1_n_aw_au)) (j := (own_ix (own_ix i))) hj rfl (g := (mkF m 58 #[.val (.ref ob), .val (.int i), .val (.int (own_ix i)), .val (.long (own_bit i)), .second] [(.int (own_ix (own_ix i))), (.ref au), (.int (own_ix (own_ix i))), (.ref au)])) rfl rfl (hb hby d5_58) _ ?_
        show Steps p.tables e below (T11.setTop (mkF m 59 #[.val (.ref ob), .val (.int i), .val (.int (own_ix i)), .val (.long (own_bit i)), .second] [(.long (u (own_ix (own_ix i)))), (.int (own_ix (own_ix i))), (.ref au)])) _
        refine XS.lconst X11.here hx rfl (hb hby d5_59) ?_
        show Steps p.tables e below (T11.setTop (mkF m 60 #[.val (.ref ob), .val (.int i), .val (.int (own_ix i)), .val (.long (own_bit i)), .second] [(.long (1 : Int64)), (.long (u (own_ix (own_ix i)))), (.int (own_ix (own_ix i))), (.ref au)])) _
        refine XS.iloadN X11.here hx rfl (hb hby d5_60) rfl ?_
        show Steps p.tables e below (T11.setTop (mkF m 61 #[.val (.ref ob), .val (.int i), .val (.int (own_ix i)), .val (.long (own_bit i)), .second] [(.int (own_ix i)), (.long (1 : Int64)), (.long (u (own_ix (own_ix i)))), (.int (own_ix (own_ix i))), (.ref au)])) _
        refine XS.lshl X11.here hx rfl (hb hby d5_61) rfl ?_
        show Steps p.tables e below (T11.setTop (mkF m 62 #[.val (.ref ob), .val (.int i), .val (.int (own_ix i)), .val (.long (own_bit i)), .second] [(.long (own_bit (own_ix i))), (.long (u (own_ix (own_ix i)))), (.int (own_ix (own_ix i))), (.ref au)])) _
        refine X11.ldc2Long hx hown (mvT hZ (hw _ (List.mem_of_getElem? (i := 34) rfl))) (g := (mkF m 62 #[.val (.ref ob), .val (.int i), .val (.int (own_ix i)), .val (.long (own_bit i)), .second] [(.long (own_bit (own_ix i))), (.long (u (own_ix (own_ix i)))), (.int (own_ix (own_ix i))), (.ref au)])) rfl (hb hby d5_62) _ ?_
        show Steps p.tables e below (T11.setTop (mkF m 65 #[.val (.ref ob), .val (.int i), .val (.int (own_ix i)), .val (.long (own_bit i)), .second] [(.long (-1 : Int64)), (.long (own_bit (own_ix i))), (.long (u (own_ix (own_ix i)))), (.int (own_ix (own_ix i))), (.ref au)])) _
        refine XS.lxor X11.here hx rfl (hb hby d5_65) rfl ?_
        show Steps p.tables e below (T11.setTop (mkF m 66 #[.val (.ref ob), .val (.int i), .val (.int (own_ix i)), .val (.long (own_bit i)), .second] [(.long ((own_bit (own_ix i)) ^^^ (-1 : Int64))), (.long (u (own_ix (own_ix i)))), (.int (own_ix (own_ix i))), (.ref au)])) _
        refine XS.land X11.here hx rfl (hb hby d5_66) rfl ?_
        show Steps p.tables e below (T11.setTop (mkF m 67 #[.val (.ref ob), .val (.int i), .val (.int (own_ix i)), .val (.long (own_bit i)), .second] [(.long ((u (own_ix (own_ix i))) &&& ((own_bit (own_ix i)) ^^^ (-1 : Int64)))), (.int (own_ix (own_ix i))), (.ref au)])) _
        refine st12 _ ?_
        show Steps p.tables e below (T12.setTop (mkF m 68 #[.val (.ref ob), .val (.int i), .val (.int (own_ix i)), .val (.long (own_bit i)), .second] [])) _
        refine XS.aloadN X12.here hx rfl (hb hby d5_68) rfl rfl ?_
        show Steps p.tables e below (T12.setTop (mkF m 69 #[.val (.ref ob), .val (.int i), .val (.int (own_ix i)), .val (.long (own_bit i)), .second] [(.ref ob)])) _
        refine XS.dup X12.here hx rfl (hb hby d5_69) rfl rfl ?_
        show Steps p.tables e below (T12.setTop (mkF m 70 #[.val (.ref ob), .val (.int i), .val (.int (own_ix i)), .val (.long (own_bit i)), .second] [(.ref ob), (.ref ob)])) _
        refine st13 _ ?_
        show Steps p.tables e below (T13.setTop (mkF m 73 #[.val (.ref ob), .val (.int i), .val (.int (own_ix i)), .val (.long (own_bit i)), .second] [(.int sz), (.ref ob)])) _
        refine XS.iconst X13.here hx rfl (hb hby d5_73) ?_
        show Steps p.tables e below (T13.setTop (mkF m 74 #[.val (.ref ob), .val (.int i), .val (.int (own_ix i)), .val (.long (own_bit i)), .second] [(.int (1 : Int32)), (.int sz), (.ref ob)])) _
        refine XS.isub X13.here hx rfl (hb hby d5_74) rfl ?_
        show Steps p.tables e below (T13.setTop (mkF m 75 #[.val (.ref ob), .val (.int i), .val (.int (own_ix i)), .val (.long (own_bit i)), .second] [(.int (sz - (1 : Int32))), (.ref ob)])) _
        refine st14 _ ?_
        show Steps p.tables e below (T14.setTop (mkF m 78 #[.val (.ref ob), .val (.int i), .val (.int (own_ix i)), .val (.long (own_bit i)), .second] [])) _
        refine XS.iconst X14.here hx rfl (hb hby d5_78) ?_
        exact k
      obtain ⟨fs, hr, hrun, hended, hW, hsame⟩ := X14.leave (v := some (.int (b2i (Frem i w)))) (fun h => by rw [Bd.returns] at h; cases h)
      refine ⟨_, _, pre18 _ ?_, hrun, hended, _, _, rfl, ?_, ⟨_, rfl⟩, hW, hsame.mono (by decide) (by decide)⟩
      · show Steps p.tables e below (T14.setTop (mkF m 79 #[.val (.ref ob), .val (.int i), .val (.int (own_ix i)), .val (.long (own_bit i)), .second] [(.int (1 : Int32))])) _
        have hr2 := hr
        rw [(show (Frem i w) = true from ((if_neg hc4).trans rfl))] at hr2
        exact retN X14 hx (t := .boolean) Bd.returns (by simp) (hb hby d5_79) hr2
      · show Q5 Z ob i aw au cap sz nw w nu u h0 n0 _ T14.heap _
        rw [e14]
        exact ⟨rfl, N14, ⟨(((k1_0.wr W7).wr W12).wr W14), f15, f16, f17, (by rw [(show (Frem_sz i sz w) = (sz - (1 : Int32)) from ((if_neg hc4).trans rfl))]; exact (((k1_4.other W7 (Or.inl k1_n_ob_aw)).other W12 (Or.inl k1_n_ob_au)).same W14)), (by rw [(show (Frem_w i w) = (upd w (own_ix i) ((w (own_ix i)) &&& ((own_bit i) ^^^ (-1 : Int64)))) from ((if_neg hc4).trans rfl))]; exact ((V7.other W12 k1_n_aw_au).other W14 (Ne.symm k1_n_ob_aw))), (by rw [(show (Frem_u i w u) = (upd u (own_ix (own_ix i)) ((u (own_ix (own_ix i))) &&& ((own_bit (own_ix i)) ^^^ (-1 : Int64)))) from ((if_neg hc4).trans ((if_pos hc10).trans rfl)))]; exact (V12.other W14 (Ne.symm k1_n_ob_au))), k1_g_ob, k1_g_aw, k1_g_au, k1_n_ob_aw, k1_n_ob_au, k1_n_aw_au, Z14⟩⟩
    ·
      obtain ⟨T19, X19, e19, st19⟩ := getF X8 hx hZ hown (host := "") (Or.inl (hw _ (List.mem_of_getElem? (i := 22) rfl))) Via.refl e8 (k1_4.other W7 (Or.inl k1_n_ob_aw)) (g := (mkF m 70 #[.val (.ref ob), .val (.int i), .val (.int (own_ix i)), .val (.long (own_bit i)), .second] [(.ref ob), (.ref ob)])) rfl rfl (hb hby d5_70)
      obtain ⟨T20, h20, X20, e20, W20, st20⟩ := putF X19 hx hZ hown (host := "") (Or.inl (hw _ (List.mem_of_getElem? (i := 22) rfl))) Via.refl e19 (k1_4.other W7 (Or.inl k1_n_ob_aw)) (k1_0.wr W7) (Or.inl (hw _ (List.mem_of_getElem? (i := 23) rfl))) (hw _ (List.mem_of_getElem? (i := 2) rfl)) (ty := .int) (by decide) rfl rfl (g := (mkF m 75 #[.val (.ref ob), .val (.int i), .val (.int (own_ix i)), .val (.long (own_bit i)), .second] [(.int (sz - (1 : Int32))), (.ref ob)])) rfl rfl (hb hby d5_75)
      have f21 := ((k1_1.other W7 (Or.inl k1_n_ob_aw)).other W20 (Or.inr (slot_ne (Or.inr (hw _ (List.mem_of_getElem? (i := 11) rfl))) (Or.inl (hw _ (List.mem_of_getElem? (i := 23) rfl))) (by decide) (t := .int) (t' := .int) (by decide) (by decide))))
      have f22 := ((k1_2.other W7 (Or.inl k1_n_ob_aw)).other W20 (Or.inr (slot_ne (Or.inr (hw _ (List.mem_of_getElem? (i := 14) rfl))) (Or.inl (hw _ (List.mem_of_getElem? (i := 23) rfl))) (by decide) (t := (.array .long)) (t' := .int) (by decide) (by decide))))
      have f23 := ((k1_3.other W7 (Or.inl k1_n_ob_aw)).other W20 (Or.inr (slot_ne (Or.inr (hw _ (List.mem_of_getElem? (i := 16) rfl))) (Or.inl (hw _ (List.mem_of_getElem? (i := 23) rfl))) (by decide) (t := (.array .long)) (t' := .int) (by decide) (by decide))))
      have Z20 : n0 ≤ h20.size := Nat.le_trans Z7 (Keep.of_wr W20).1
      have N20 := Fr.snoc X20 N7 k1_g_ob
      have pre24 : ∀ t, Steps p.tables e below (T20.setTop (mkF m 79 #[.val (.ref ob), .val (.int i), .val (.int (own_ix i)), .val (.long (own_bit i)), .second] [(.int (1 : Int32))])) t → Steps p.tables e below (s₁.setTop (entryFrame m #[(.ref ob), (.int i)] 5)) t := by
        intro t k
        refine pre9 t ?_
        show Steps p.tables e below (T8.setTop (mkF m 46 #[.val (.ref ob), .val (.int i), .val (.int (own_ix i)), .val (.long (own_bit i)), .second] [(.int (lcmpW ((w (own_ix i)) &&& ((own_bit i) ^^^ (-1 : Int64))) (0 : Int64)))])) _
        refine XS.ifYes X8.here hx rfl (pc0 := 46) (pc' := 68) rfl (hb hby d5_46) rfl ((if0 _ _).trans (feq (fun q => hc10 ((lw_eq _ _).mp q))).2) (by decide) (by decide) ?_
        show Steps p.tables e below (T8.setTop (mkF m 68 #[.val (.ref ob), .val (.int i), .val (.int (own_ix i)), .val (.long (own_bit i)), .second] [])) _
        refine XS.aloadN X8.here hx rfl (hb hby d5_68) rfl rfl ?_
        show Steps p.tables e below (T8.setTop (mkF m 69 #[.val (.ref ob), .val (.int i), .val (.int (own_ix i)), .val (.long (own_bit i)), .second] [(.ref ob)])) _
        refine XS.dup X8.here hx rfl (hb hby d5_69) rfl rfl ?_
        show Steps p.tables e below (T8.setTop (mkF m 70 #[.val (.ref ob), .val (.int i), .val (.int (own_ix i)), .val (.long (own_bit i)), .second] [(.ref ob), (.ref ob)])) _
        refine st19 _ ?_
        show Steps p.tables e below (T19.setTop (mkF m 73 #[.val (.ref ob), .val (.int i), .val (.int (own_ix i)), .val (.long (own_bit i)), .second] [(.int sz), (.ref ob)])) _
        refine XS.iconst X19.here hx rfl (hb hby d5_73) ?_
        show Steps p.tables e below (T19.setTop (mkF m 74 #[.val (.ref ob), .val (.int i), .val (.int (own_ix i)), .val (.long (own_bit i)), .second] [(.int (1 : Int32)), (.int sz), (.ref ob)])) _
        refine XS.isub X19.here hx rfl (hb hby d5_74) rfl ?_
        show Steps p.tables e below (T19.setTop (mkF m 75 #[.val (.ref ob), .val (.int i), .val (.int (own_ix i)), .val (.long (own_bit i)), .second] [(.int (sz - (1 : Int32))), (.ref ob)])) _
        refine st20 _ ?_
        show Steps p.tables e below (T20.setTop (mkF m 78 #[.val (.ref ob), .val (.int i), .val (.int (own_ix i)), .val (.long (own_bit i)), .second] [])) _
        refine XS.iconst X20.here hx rfl (hb hby d5_78) ?_
        exact k
      obtain ⟨fs, hr, hrun, hended, hW, hsame⟩ := X20.leave (v := some (.int (b2i (Frem i w)))) (fun h => by rw [Bd.returns] at h; cases h)
      refine ⟨_, _, pre24 _ ?_, hrun, hended, _, _, rfl, ?_, ⟨_, rfl⟩, hW, hsame.mono (by decide) (by decide)⟩
      · show Steps p.tables e below (T20.setTop (mkF m 79 #[.val (.ref ob), .val (.int i), .val (.int (own_ix i)), .val (.long (own_bit i)), .second] [(.int (1 : Int32))])) _
        have hr2 := hr
        rw [(show (Frem i w) = true from ((if_neg hc4).trans rfl))] at hr2
        exact retN X20 hx (t := .boolean) Bd.returns (by simp) (hb hby d5_79) hr2
      · show Q5 Z ob i aw au cap sz nw w nu u h0 n0 _ T20.heap _
        rw [e20]
        exact ⟨rfl, N20, ⟨((k1_0.wr W7).wr W20), f21, f22, f23, (by rw [(show (Frem_sz i sz w) = (sz - (1 : Int32)) from ((if_neg hc4).trans rfl))]; exact ((k1_4.other W7 (Or.inl k1_n_ob_aw)).same W20)), (by rw [(show (Frem_w i w) = (upd w (own_ix i) ((w (own_ix i)) &&& ((own_bit i) ^^^ (-1 : Int64)))) from ((if_neg hc4).trans rfl))]; exact (V7.other W20 (Ne.symm k1_n_ob_aw))), (by rw [(show (Frem_u i w u) = u from ((if_neg hc4).trans ((if_neg hc10).trans rfl)))]; exact ((k1_6.other W7 (Ne.symm k1_n_aw_au)).other W20 (Ne.symm k1_n_ob_au))), k1_g_ob, k1_g_aw, k1_g_au, k1_n_ob_aw, k1_n_ob_au, k1_n_aw_au, Z20⟩⟩
theorem pn_0 : plainName "com/example/cutline/cutline/IndexSetContainsPinLaw" = true := by first | (simp [plainName, overriddenIn]; done) | decide +kernel
theorem pd_0 : parseMethodDescriptor "(I)V" = some ⟨[.int], none⟩ := by decide +kernel
theorem pd_2 : parseMethodDescriptor "(I)Z" = some ⟨[.int], some .boolean⟩ := by decide +kernel
theorem ef_0 (m : MethodId) (x0 : Int32) (x1 : Int32) (x2 : Int32) (x3 : Int32) (x4 : Int32) : entryFrame m #[(.int x0), (.int x1), (.int x2), (.int x3), (.int x4)] maxLocals = mkF m 0 #[.val (.int x0), .val (.int x1), .val (.int x2), .val (.int x3), .val (.int x4), .unset, .unset, .unset, .unset, .unset, .unset, .unset, .unset] [] := by first | (simp [entryFrame, mkF, argsToLocals, Value.category, maxLocals]; done) | rfl
def v_cap (pp : Int32) : Int32 := ((1 : Int32) + (pp &&& (8191 : Int32)))
def v_a (pp : Int32) (xx : Int32) : Int32 := ((xx &&& (2147483647 : Int32)) % (v_cap pp))
def v_b (pp : Int32) (yy : Int32) : Int32 := ((yy &&& (2147483647 : Int32)) % (v_cap pp))
def v_sel (mo : Int32) : Int32 := (mo &&& (3 : Int32))
def v_q3 (pp : Int32) (zz : Int32) : Int32 := ((zz &&& (2147483647 : Int32)) % (v_cap pp))
def v_q (pp : Int32) (xx : Int32) (yy : Int32) (zz : Int32) (mo : Int32) : Int32 := (if (v_sel mo) = (0 : Int32) then (v_a pp xx) else (if (v_sel mo) = (1 : Int32) then (v_b pp yy) else (v_q3 pp zz)))
def v_rb (mo : Int32) : Bool := (if (((mo.toUInt32 >>> ((2 : Int32) &&& 31).toUInt32).toInt32) &&& (1 : Int32)) = (0 : Int32) then false else true)
def v_s1 (pp : Int32) (xx : Int32) : Int32 := (Fadd_sz (v_a pp xx) (0 : Int32) (fun _ => 0))
def v_w1 (pp : Int32) (xx : Int32) : Int32 → Int64 := (Fadd_w (v_a pp xx) (fun _ => 0))
def v_u1 (pp : Int32) (xx : Int32) : Int32 → Int64 := (Fadd_u (v_a pp xx) (fun _ => 0) (fun _ => 0))
def v_r1 (pp : Int32) (xx : Int32) : Bool := (Fadd (v_a pp xx) (fun _ => 0))
def v_s2 (pp : Int32) (xx : Int32) (yy : Int32) : Int32 := (Fadd_sz (v_b pp yy) (v_s1 pp xx) (v_w1 pp xx))
def v_w2 (pp : Int32) (xx : Int32) (yy : Int32) : Int32 → Int64 := (Fadd_w (v_b pp yy) (v_w1 pp xx))
def v_u2 (pp : Int32) (xx : Int32) (yy : Int32) : Int32 → Int64 := (Fadd_u (v_b pp yy) (v_w1 pp xx) (v_u1 pp xx))
def v_r2 (pp : Int32) (xx : Int32) (yy : Int32) : Bool := (Fadd (v_b pp yy) (v_w1 pp xx))
def v_s3 (pp : Int32) (xx : Int32) (yy : Int32) : Int32 := (Frem_sz (v_b pp yy) (v_s2 pp xx yy) (v_w2 pp xx yy))
def v_w3 (pp : Int32) (xx : Int32) (yy : Int32) : Int32 → Int64 := (Frem_w (v_b pp yy) (v_w2 pp xx yy))
def v_u3 (pp : Int32) (xx : Int32) (yy : Int32) : Int32 → Int64 := (Frem_u (v_b pp yy) (v_w2 pp xx yy) (v_u2 pp xx yy))
def v_r3 (pp : Int32) (xx : Int32) (yy : Int32) : Bool := (Frem (v_b pp yy) (v_w2 pp xx yy))
def lawE1 (pp : Int32) (xx : Int32) (yy : Int32) (zz : Int32) (mo : Int32) : Bool := (if (b2i (Fcon (v_q pp xx yy zz mo) (v_w3 pp xx yy))) = (b2i (if (v_q pp xx yy zz mo) = (v_a pp xx) then (if (v_q pp xx yy zz mo) = (v_b pp yy) then false else true) else false)) then true else false)
def lawE2 (pp : Int32) (xx : Int32) (yy : Int32) (zz : Int32) (mo : Int32) : Bool := (if (b2i (Fcon (v_q pp xx yy zz mo) (v_w2 pp xx yy))) = (b2i (if (v_q pp xx yy zz mo) = (v_a pp xx) then true else (if (v_q pp xx yy zz mo) = (v_b pp yy) then true else false))) then true else false)
theorem own_in (cap i : Int32) (h : 0 ≤ i.toInt ∧ i.toInt < cap.toInt) (hc : 0 ≤ cap.toInt ∧ cap.toInt ≤ 16384) : (¬ own_ix i < 0 ∧ own_ix i < own_nw cap) ∧ (¬ own_ix (own_ix i) < 0 ∧ own_ix (own_ix i) < own_nw (own_nw cap)) := by
  have a := own_shr6 i
  have b := own_shr6 (own_ix i)
  have c := own_nwv cap hc.1 hc.2
  have d := own_nwv (own_nw cap) (by omega) (by omega)
  have l : (0 : Int32).toInt = 0 := by decide
  simp only [Int32.lt_iff_toInt_lt, l]
  omega
theorem own_vcap (pp : Int32) : 0 ≤ (v_cap pp).toInt ∧ (v_cap pp).toInt ≤ 16384 := by
  have a := c_mask pp 8191 13 (by decide) (by decide)
  have b := c_iadd 1 (pp &&& 8191)
  have c := rng32 (1 + (pp &&& 8191))
  have l : (1 : Int32).toInt = 1 := by decide
  show 0 ≤ (1 + (pp &&& 8191)).toInt ∧ (1 + (pp &&& 8191)).toInt ≤ 16384
  omega
theorem own_vc1 (pp : Int32) : 1 ≤ (v_cap pp).toInt := by
  have a := c_mask pp 8191 13 (by decide) (by decide)
  have b := c_iadd 1 (pp &&& 8191)
  have c := rng32 (1 + (pp &&& 8191))
  have l : (1 : Int32).toInt = 1 := by decide
  show 1 ≤ (1 + (pp &&& 8191)).toInt
  omega
theorem own_nz (pp : Int32) : ¬ (v_cap pp = 0) := fun h => by
  have a := own_vc1 pp
  rw [h] at a
  exact absurd a (by decide)
theorem own_rem (y c : Int32) (h : 1 ≤ c.toInt) : 0 ≤ ((y &&& 2147483647) % c).toInt ∧ ((y &&& 2147483647) % c).toInt < c.toInt := by
  have a := c_mask y 2147483647 31 (by decide) (by decide)
  have b := (c_iremV (y &&& 2147483647) c).1 (by omega) (by omega)
  exact ⟨b.1, b.2.1⟩
theorem own_va (pp xx : Int32) : 0 ≤ (v_a pp xx).toInt ∧ (v_a pp xx).toInt < (v_cap pp).toInt := own_rem xx _ (own_vc1 pp)
theorem own_vb (pp yy : Int32) : 0 ≤ (v_b pp yy).toInt ∧ (v_b pp yy).toInt < (v_cap pp).toInt := own_rem yy _ (own_vc1 pp)
theorem own_vq (pp xx yy zz mo : Int32) : 0 ≤ (v_q pp xx yy zz mo).toInt ∧ (v_q pp xx yy zz mo).toInt < (v_cap pp).toInt := by
  unfold v_q
  split
  · exact own_va pp xx
  · split
    · exact own_vb pp yy
    · exact own_rem zz _ (own_vc1 pp)
def tb (x : Int64) (k : Nat) : Bool := x.toBitVec.getLsbD k
def md (i : Int32) : Nat := i.toBitVec.toNat % 64
theorem tb_or (x y : Int64) (k : Nat) : tb (x ||| y) k = (tb x k || tb y k) := by
  unfold tb; rw [Int64.toBitVec_or, BitVec.getLsbD_or]
theorem tb_and (x y : Int64) (k : Nat) : tb (x &&& y) k = (tb x k && tb y k) := by
  unfold tb; rw [Int64.toBitVec_and, BitVec.getLsbD_and]
theorem tb_not (x : Int64) (k : Nat) (hk : k < 64) : tb (x ^^^ -1) k = !tb x k := by
  have e : (-1 : Int64).toBitVec = BitVec.allOnes 64 := by decide
  unfold tb; rw [Int64.toBitVec_xor, BitVec.getLsbD_xor, e, BitVec.getLsbD_allOnes, decide_eq_true hk, Bool.xor_true]
theorem tb_zero (k : Nat) : tb 0 k = false := by
  have e : (0 : Int64).toBitVec = 0#64 := by decide
  unfold tb; rw [e, BitVec.getLsbD_zero]
theorem tb_ext {x y : Int64} (h : ∀ k, k < 64 → tb x k = tb y k) : x = y := by
  rw [← Int64.toBitVec_inj]
  exact BitVec.eq_of_getLsbD_eq fun k hk => h k hk
theorem md_lt (i : Int32) : md i < 64 := Nat.mod_lt _ (by decide)
theorem tb_bit (i : Int32) (k : Nat) (hk : k < 64) : tb (own_bit i) k = decide (k = md i) := by
  obtain ⟨h1, h2⟩ := sm64 i (md i) rfl
  have e : (own_bit i).toBitVec = 1#64 <<< ((BitVec.ofNat 64 (md i)).smod 64).toNat := by
    show (1#64 <<< ((i &&& 0x3f).toInt64.toBitVec.smod 64)) = _
    rw [h1]; rfl
  unfold tb
  rw [e, smod64 _ h2, BitVec.getLsbD_shiftLeft, BitVec.getLsbD_one]
  by_cases q : k = md i
  · subst q; simp [hk]
  · by_cases r : k < md i
    · simp [r, q]
    · have : ¬ k - md i = 0 := by omega
      simp [q, this]
theorem and_bit (x : Int64) (i : Int32) : (x &&& own_bit i = 0) ↔ tb x (md i) = false := by
  constructor
  · intro h
    have q := congrArg (fun z => tb z (md i)) h
    simp only [tb_and, tb_zero, tb_bit i (md i) (md_lt i), decide_true, Bool.and_true] at q
    exact q
  · intro h
    refine tb_ext fun k hk => ?_
    rw [tb_and, tb_zero, tb_bit i k hk]
    by_cases q : k = md i
    · rw [q, h]; rfl
    · rw [decide_eq_false q, Bool.and_false]
theorem md_int (i : Int32) (h : 0 ≤ i.toInt) : (md i : Int) = i.toInt % 64 := by
  have e : i.toInt = (i.toBitVec.toNat : Int) := by
    have := nat_of (own_capn i h)
    have h2 : i.toInt = i.toBitVec.toInt := rfl
    have h3 := BitVec.toInt_eq_toNat_cond i.toBitVec
    have h4 := i.toBitVec.isLt
    rw [h2] at h ⊢
    split at h3 <;> omega
  unfold md
  omega
theorem own_inj {i j : Int32} (hi : 0 ≤ i.toInt) (hj : 0 ≤ j.toInt) (h1 : own_ix i = own_ix j) (h2 : md i = md j) : i = j := by
  have a := own_shr6 i
  have b := own_shr6 j
  have c := md_int i hi
  have d := md_int j hj
  have r1 := rng32 i
  have r2 := rng32 j
  rw [h1] at a
  rw [h2] at c
  rw [← Int32.toInt_inj]
  omega
def mem (w : Int32 → Int64) (i : Int32) : Bool := tb (w (own_ix i)) (md i)
theorem own_con (i : Int32) (w : Int32 → Int64) : Fcon i w = mem w i := by
  unfold Fcon mem
  by_cases h : w (own_ix i) &&& own_bit i = 0
  · rw [if_pos h, (and_bit _ _).mp h]
  · rw [if_neg h]
    cases q : tb (w (own_ix i)) (md i)
    · exact absurd ((and_bit _ _).mpr q) h
    · rfl
theorem mem_add {i j : Int32} (hi : 0 ≤ i.toInt) (hj : 0 ≤ j.toInt) (w : Int32 → Int64) : mem (Fadd_w i w) j = (mem w j || decide (j = i)) := by
  unfold Fadd_w mem
  by_cases h : w (own_ix i) &&& own_bit i = 0
  · rw [if_pos h]
    by_cases q : own_ix j = own_ix i
    · rw [q, upd_hit, tb_or, tb_bit i _ (md_lt j)]
      congr 1
      by_cases r : md j = md i
      · rw [decide_eq_true r, decide_eq_true (own_inj hj hi q r)]
      · rw [decide_eq_false r, decide_eq_false fun e => r (by rw [e])]
    · rw [upd_miss q, decide_eq_false fun e => q (by rw [e]), Bool.or_false]
  · rw [if_neg h]
    by_cases q : j = i
    · rw [q, decide_eq_true rfl, Bool.or_true]
      cases r : tb (w (own_ix i)) (md i)
      · exact absurd ((and_bit _ _).mpr r) h
      · rfl
    · rw [decide_eq_false q, Bool.or_false]
theorem mem_rem {i j : Int32} (hi : 0 ≤ i.toInt) (hj : 0 ≤ j.toInt) (w : Int32 → Int64) : mem (Frem_w i w) j = (mem w j && !decide (j = i)) := by
  unfold Frem_w mem
  by_cases h : w (own_ix i) &&& own_bit i = 0
  · rw [if_pos h]
    by_cases q : j = i
    · rw [q, (and_bit _ _).mp h, Bool.false_and]
    · rw [decide_eq_false q, Bool.not_false, Bool.and_true]
  · rw [if_neg h]
    by_cases q : own_ix j = own_ix i
    · rw [q, upd_hit, tb_and, tb_not _ _ (md_lt j), tb_bit i _ (md_lt j)]
      congr 2
      by_cases r : md j = md i
      · rw [decide_eq_true r, decide_eq_true (own_inj hj hi q r)]
      · rw [decide_eq_false r, decide_eq_false fun e => r (by rw [e])]
    · rw [upd_miss q, decide_eq_false fun e => q (by rw [e]), Bool.not_false, Bool.and_true]
theorem own_law1 (pp : Int32) (xx : Int32) (yy : Int32) (zz : Int32) (mo : Int32) (hc16 : (v_rb mo) = true) : lawE1 pp xx yy zz mo = true := by
  refine if_pos (congrArg b2i ?_)
  have ha := (own_va pp xx).1
  have hb := (own_vb pp yy).1
  have hq := (own_vq pp xx yy zz mo).1
  rw [own_con]
  unfold v_w3 v_w2 v_w1
  generalize v_a pp xx = a at *
  generalize v_b pp yy = b at *
  generalize v_q pp xx yy zz mo = q at *
  rw [mem_rem hb hq, mem_add hb hq, mem_add ha hq, show mem (fun _ => 0) q = false from tb_zero _]
  by_cases h1 : q = a <;> by_cases h2 : q = b <;> simp [h1, h2]
theorem own_law2 (pp : Int32) (xx : Int32) (yy : Int32) (zz : Int32) (mo : Int32) (hc16 : ¬ ((v_rb mo) = true)) : lawE2 pp xx yy zz mo = true := by
  refine if_pos (congrArg b2i ?_)
  have ha := (own_va pp xx).1
  have hb := (own_vb pp yy).1
  have hq := (own_vq pp xx yy zz mo).1
  rw [own_con]
  unfold v_w2 v_w1
  generalize v_a pp xx = a at *
  generalize v_b pp yy = b at *
  generalize v_q pp xx yy zz mo = q at *
  rw [mem_add hb hq, mem_add ha hq, show mem (fun _ => 0) q = false from tb_zero _]
  by_cases h1 : q = a <;> by_cases h2 : q = b <;> simp [h1, h2]
def Q0 (Z : State) (pp : Int32) (xx : Int32) (yy : Int32) (zz : Int32) (mo : Int32) (h0 : Heap) (n0 : Nat) (v : Option Value) (h : Heap) (L : List Loc) : Prop := v = some (.int (1 : Int32)) ∧ Fr n0 L
set_option maxRecDepth 65536 in
set_option maxHeartbeats 40000000 in
theorem rm0 (l : Launch) (Z : State) (a0 : Array Value) (hw : ∀ d ∈ tables_1, d.before a0 Z = true) (ws : List Jvm.Cond) (pp : Int32) (xx : Int32) (yy : Int32) (zz : Int32) (mo : Int32) (h0 : Heap) (n0 : Nat) (Z0 : n0 ≤ h0.size) :
    MetFree l x (head1 (Jvm.Cond.code x code maxLocals ret :: ws) room_1) (fun a U => a = #[(.int pp), (.int xx), (.int yy), (.int zz), (.int mo)] ∧ Z.Warmed39 U.vm ∧ U.heap = h0) (fun _ _ _ _ _ => True) (fun _ U o U' => ∃ v L, o = .returned v ∧ Q0 Z pp xx yy zz mo h0 n0 v U'.heap L ∧ FrameEnd U o U' L room_1.cells room_1.slots) := by
  refine MetFree.of_bodySF (plainFor_of_name pn_0) hisR ?_
  intro p e s m args below meth c s₁ Bd hml0 hP hK
  obtain ⟨rfl, hZ, hh⟩ := hP
  have hx := Bd.exec
  have hby := Bd.bytes
  have hml : c.maxLocals = 13 := hml0
  have hown : s.vm.findClass "com/example/cutline/cutline/IndexSetContainsPinLaw" = some m.cls := findClass_of_methodNamed Bd.named
  have hnm := (name_of_methodNamed Bd.named Bd.method).1
  have X0 : Stand p l e room_1 s m #[(.int pp), (.int xx), (.int yy), (.int zz), (.int mo)] below meth c s₁ [] 0 0 := Stand.of_body Bd
  have e0 : s₁.heap = h0 := by rw [← hh, Bd.state]; rfl
  have N0 := Fr.nil n0
  have pre0 : ∀ t, Steps p.tables e below (s₁.setTop (mkF m 0 #[.val (.int pp), .val (.int xx), .val (.int yy), .val (.int zz), .val (.int mo), .unset, .unset, .unset, .unset, .unset, .unset, .unset, .unset] [])) t → Steps p.tables e below (s₁.setTop (entryFrame m #[(.int pp), (.int xx), (.int yy), (.int zz), (.int mo)] maxLocals)) t := fun t k => castTop (ef_0 m pp xx yy zz mo) k
  have pre1 : ∀ t, Steps p.tables e below (s₁.setTop (mkF m 35 #[.val (.int pp), .val (.int xx), .val (.int yy), .val (.int zz), .val (.int mo), .val (.int (v_cap pp)), .val (.int (v_a pp xx)), .val (.int (v_b pp yy)), .val (.int (v_sel mo)), .unset, .unset, .unset, .unset] [(.int (v_sel mo))])) t → Steps p.tables e below (s₁.setTop (entryFrame m #[(.int pp), (.int xx), (.int yy), (.int zz), (.int mo)] maxLocals)) t := by
    intro t k
    refine pre0 t ?_
    show Steps p.tables e below (s₁.setTop (mkF m 0 #[.val (.int pp), .val (.int xx), .val (.int yy), .val (.int zz), .val (.int mo), .unset, .unset, .unset, .unset, .unset, .unset, .unset, .unset] [])) _
    refine XS.iconst X0.here hx rfl (hb hby at_0) ?_
    show Steps p.tables e below (s₁.setTop (mkF m 1 #[.val (.int pp), .val (.int xx), .val (.int yy), .val (.int zz), .val (.int mo), .unset, .unset, .unset, .unset, .unset, .unset, .unset, .unset] [(.int (1 : Int32))])) _
    refine XS.iloadN X0.here hx rfl (hb hby at_1) rfl ?_
    show Steps p.tables e below (s₁.setTop (mkF m 2 #[.val (.int pp), .val (.int xx), .val (.int yy), .val (.int zz), .val (.int mo), .unset, .unset, .unset, .unset, .unset, .unset, .unset, .unset] [(.int pp), (.int (1 : Int32))])) _
    refine XS.sipush X0.here hx rfl (hb hby at_2) ?_
    show Steps p.tables e below (s₁.setTop (mkF m 5 #[.val (.int pp), .val (.int xx), .val (.int yy), .val (.int zz), .val (.int mo), .unset, .unset, .unset, .unset, .unset, .unset, .unset, .unset] [(.int (8191 : Int32)), (.int pp), (.int (1 : Int32))])) _
    refine XS.iand X0.here hx rfl (hb hby at_5) rfl ?_
    show Steps p.tables e below (s₁.setTop (mkF m 6 #[.val (.int pp), .val (.int xx), .val (.int yy), .val (.int zz), .val (.int mo), .unset, .unset, .unset, .unset, .unset, .unset, .unset, .unset] [(.int (pp &&& (8191 : Int32))), (.int (1 : Int32))])) _
    refine XS.iadd X0.here hx rfl (hb hby at_6) rfl ?_
    show Steps p.tables e below (s₁.setTop (mkF m 7 #[.val (.int pp), .val (.int xx), .val (.int yy), .val (.int zz), .val (.int mo), .unset, .unset, .unset, .unset, .unset, .unset, .unset, .unset] [(.int ((1 : Int32) + (pp &&& (8191 : Int32))))])) _
    refine XS.istore X0.here hx rfl (hb hby at_7) rfl (l' := #[.val (.int pp), .val (.int xx), .val (.int yy), .val (.int zz), .val (.int mo), .val (.int (v_cap pp)), .unset, .unset, .unset, .unset, .unset, .unset, .unset]) rfl ?_
    show Steps p.tables e below (s₁.setTop (mkF m 9 #[.val (.int pp), .val (.int xx), .val (.int yy), .val (.int zz), .val (.int mo), .val (.int (v_cap pp)), .unset, .unset, .unset, .unset, .unset, .unset, .unset] [])) _
    refine XS.iloadN X0.here hx rfl (hb hby at_9) rfl ?_
    show Steps p.tables e below (s₁.setTop (mkF m 10 #[.val (.int pp), .val (.int xx), .val (.int yy), .val (.int zz), .val (.int mo), .val (.int (v_cap pp)), .unset, .unset, .unset, .unset, .unset, .unset, .unset] [(.int xx)])) _
    refine X0.ldcInt hx hown (mvT hZ (hw _ (List.mem_of_getElem? (i := 0) rfl))) (g := (mkF m 10 #[.val (.int pp), .val (.int xx), .val (.int yy), .val (.int zz), .val (.int mo), .val (.int (v_cap pp)), .unset, .unset, .unset, .unset, .unset, .unset, .unset] [(.int xx)])) rfl (hb hby at_10) _ ?_
    show Steps p.tables e below (s₁.setTop (mkF m 12 #[.val (.int pp), .val (.int xx), .val (.int yy), .val (.int zz), .val (.int mo), .val (.int (v_cap pp)), .unset, .unset, .unset, .unset, .unset, .unset, .unset] [(.int (2147483647 : Int32)), (.int xx)])) _
    refine XS.iand X0.here hx rfl (hb hby at_12) rfl ?_
    show Steps p.tables e below (s₁.setTop (mkF m 13 #[.val (.int pp), .val (.int xx), .val (.int yy), .val (.int zz), .val (.int mo), .val (.int (v_cap pp)), .unset, .unset, .unset, .unset, .unset, .unset, .unset] [(.int (xx &&& (2147483647 : Int32)))])) _
    refine XS.iload X0.here hx rfl (hb hby at_13) rfl ?_
    show Steps p.tables e below (s₁.setTop (mkF m 15 #[.val (.int pp), .val (.int xx), .val (.int yy), .val (.int zz), .val (.int mo), .val (.int (v_cap pp)), .unset, .unset, .unset, .unset, .unset, .unset, .unset] [(.int (v_cap pp)), (.int (xx &&& (2147483647 : Int32)))])) _
    refine iremM X0 hx rfl (hb hby at_15) rfl (own_nz pp) ?_
    show Steps p.tables e below (s₁.setTop (mkF m 16 #[.val (.int pp), .val (.int xx), .val (.int yy), .val (.int zz), .val (.int mo), .val (.int (v_cap pp)), .unset, .unset, .unset, .unset, .unset, .unset, .unset] [(.int ((xx &&& (2147483647 : Int32)) % (v_cap pp)))])) _
    refine XS.istore X0.here hx rfl (hb hby at_16) rfl (l' := #[.val (.int pp), .val (.int xx), .val (.int yy), .val (.int zz), .val (.int mo), .val (.int (v_cap pp)), .val (.int (v_a pp xx)), .unset, .unset, .unset, .unset, .unset, .unset]) rfl ?_
    show Steps p.tables e below (s₁.setTop (mkF m 18 #[.val (.int pp), .val (.int xx), .val (.int yy), .val (.int zz), .val (.int mo), .val (.int (v_cap pp)), .val (.int (v_a pp xx)), .unset, .unset, .unset, .unset, .unset, .unset] [])) _
    refine XS.iloadN X0.here hx rfl (hb hby at_18) rfl ?_
    show Steps p.tables e below (s₁.setTop (mkF m 19 #[.val (.int pp), .val (.int xx), .val (.int yy), .val (.int zz), .val (.int mo), .val (.int (v_cap pp)), .val (.int (v_a pp xx)), .unset, .unset, .unset, .unset, .unset, .unset] [(.int yy)])) _
    refine X0.ldcInt hx hown (mvT hZ (hw _ (List.mem_of_getElem? (i := 0) rfl))) (g := (mkF m 19 #[.val (.int pp), .val (.int xx), .val (.int yy), .val (.int zz), .val (.int mo), .val (.int (v_cap pp)), .val (.int (v_a pp xx)), .unset, .unset, .unset, .unset, .unset, .unset] [(.int yy)])) rfl (hb hby at_19) _ ?_
    show Steps p.tables e below (s₁.setTop (mkF m 21 #[.val (.int pp), .val (.int xx), .val (.int yy), .val (.int zz), .val (.int mo), .val (.int (v_cap pp)), .val (.int (v_a pp xx)), .unset, .unset, .unset, .unset, .unset, .unset] [(.int (2147483647 : Int32)), (.int yy)])) _
    refine XS.iand X0.here hx rfl (hb hby at_21) rfl ?_
    show Steps p.tables e below (s₁.setTop (mkF m 22 #[.val (.int pp), .val (.int xx), .val (.int yy), .val (.int zz), .val (.int mo), .val (.int (v_cap pp)), .val (.int (v_a pp xx)), .unset, .unset, .unset, .unset, .unset, .unset] [(.int (yy &&& (2147483647 : Int32)))])) _
    refine XS.iload X0.here hx rfl (hb hby at_22) rfl ?_
    show Steps p.tables e below (s₁.setTop (mkF m 24 #[.val (.int pp), .val (.int xx), .val (.int yy), .val (.int zz), .val (.int mo), .val (.int (v_cap pp)), .val (.int (v_a pp xx)), .unset, .unset, .unset, .unset, .unset, .unset] [(.int (v_cap pp)), (.int (yy &&& (2147483647 : Int32)))])) _
    refine iremM X0 hx rfl (hb hby at_24) rfl (own_nz pp) ?_
    show Steps p.tables e below (s₁.setTop (mkF m 25 #[.val (.int pp), .val (.int xx), .val (.int yy), .val (.int zz), .val (.int mo), .val (.int (v_cap pp)), .val (.int (v_a pp xx)), .unset, .unset, .unset, .unset, .unset, .unset] [(.int ((yy &&& (2147483647 : Int32)) % (v_cap pp)))])) _
    refine XS.istore X0.here hx rfl (hb hby at_25) rfl (l' := #[.val (.int pp), .val (.int xx), .val (.int yy), .val (.int zz), .val (.int mo), .val (.int (v_cap pp)), .val (.int (v_a pp xx)), .val (.int (v_b pp yy)), .unset, .unset, .unset, .unset, .unset]) rfl ?_
    show Steps p.tables e below (s₁.setTop (mkF m 27 #[.val (.int pp), .val (.int xx), .val (.int yy), .val (.int zz), .val (.int mo), .val (.int (v_cap pp)), .val (.int (v_a pp xx)), .val (.int (v_b pp yy)), .unset, .unset, .unset, .unset, .unset] [])) _
    refine XS.iload X0.here hx rfl (hb hby at_27) rfl ?_
    show Steps p.tables e below (s₁.setTop (mkF m 29 #[.val (.int pp), .val (.int xx), .val (.int yy), .val (.int zz), .val (.int mo), .val (.int (v_cap pp)), .val (.int (v_a pp xx)), .val (.int (v_b pp yy)), .unset, .unset, .unset, .unset, .unset] [(.int mo)])) _
    refine XS.iconst X0.here hx rfl (hb hby at_29) ?_
    show Steps p.tables e below (s₁.setTop (mkF m 30 #[.val (.int pp), .val (.int xx), .val (.int yy), .val (.int zz), .val (.int mo), .val (.int (v_cap pp)), .val (.int (v_a pp xx)), .val (.int (v_b pp yy)), .unset, .unset, .unset, .unset, .unset] [(.int (3 : Int32)), (.int mo)])) _
    refine XS.iand X0.here hx rfl (hb hby at_30) rfl ?_
    show Steps p.tables e below (s₁.setTop (mkF m 31 #[.val (.int pp), .val (.int xx), .val (.int yy), .val (.int zz), .val (.int mo), .val (.int (v_cap pp)), .val (.int (v_a pp xx)), .val (.int (v_b pp yy)), .unset, .unset, .unset, .unset, .unset] [(.int (mo &&& (3 : Int32)))])) _
    refine XS.istore X0.here hx rfl (hb hby at_31) rfl (l' := #[.val (.int pp), .val (.int xx), .val (.int yy), .val (.int zz), .val (.int mo), .val (.int (v_cap pp)), .val (.int (v_a pp xx)), .val (.int (v_b pp yy)), .val (.int (v_sel mo)), .unset, .unset, .unset, .unset]) rfl ?_
    show Steps p.tables e below (s₁.setTop (mkF m 33 #[.val (.int pp), .val (.int xx), .val (.int yy), .val (.int zz), .val (.int mo), .val (.int (v_cap pp)), .val (.int (v_a pp xx)), .val (.int (v_b pp yy)), .val (.int (v_sel mo)), .unset, .unset, .unset, .unset] [])) _
    refine XS.iload X0.here hx rfl (hb hby at_33) rfl ?_
    exact k
  have pre2 : ∀ t, Steps p.tables e below (s₁.setTop (mkF m 67 #[.val (.int pp), .val (.int xx), .val (.int yy), .val (.int zz), .val (.int mo), .val (.int (v_cap pp)), .val (.int (v_a pp xx)), .val (.int (v_b pp yy)), .val (.int (v_sel mo)), .val (.int (v_q pp xx yy zz mo)), .unset, .unset, .unset] [])) t → Steps p.tables e below (s₁.setTop (entryFrame m #[(.int pp), (.int xx), (.int yy), (.int zz), (.int mo)] maxLocals)) t := by
    intro t k
    refine pre1 t ?_
    have k : ∀ (v1 : Int32), v1 = (if (v_sel mo) = (0 : Int32) then (v_a pp xx) else (if (v_sel mo) = (1 : Int32) then (v_b pp yy) else (v_q3 pp zz))) → Steps p.tables e below (s₁.setTop (mkF m 67 #[.val (.int pp), .val (.int xx), .val (.int yy), .val (.int zz), .val (.int mo), .val (.int (v_cap pp)), .val (.int (v_a pp xx)), .val (.int (v_b pp yy)), .val (.int (v_sel mo)), .val (.int v1), .unset, .unset, .unset] [])) t := fun v1 hv1 => by subst hv1; exact k
    show Steps p.tables e below (s₁.setTop (mkF m 35 #[.val (.int pp), .val (.int xx), .val (.int yy), .val (.int zz), .val (.int mo), .val (.int (v_cap pp)), .val (.int (v_a pp xx)), .val (.int (v_b pp yy)), .val (.int (v_sel mo)), .unset, .unset, .unset, .unset] [(.int (v_sel mo))])) _
    by_cases hc3 : (v_sel mo) = (0 : Int32)
    · refine XS.ifNo X0.here hx rfl (hb hby at_35) rfl ((if0 _ _).trans (teq hc3).2) ?_
      have k : ∀ (v1 : Int32), v1 = (v_a pp xx) → Steps p.tables e below (s₁.setTop (mkF m 67 #[.val (.int pp), .val (.int xx), .val (.int yy), .val (.int zz), .val (.int mo), .val (.int (v_cap pp)), .val (.int (v_a pp xx)), .val (.int (v_b pp yy)), .val (.int (v_sel mo)), .val (.int v1), .unset, .unset, .unset] [])) t := fun v1 hv1 => k v1 (hv1.trans (if_pos hc3).symm)
      show Steps p.tables e below (s₁.setTop (mkF m 38 #[.val (.int pp), .val (.int xx), .val (.int yy), .val (.int zz), .val (.int mo), .val (.int (v_cap pp)), .val (.int (v_a pp xx)), .val (.int (v_b pp yy)), .val (.int (v_sel mo)), .unset, .unset, .unset, .unset] [])) _
      refine XS.iload X0.here hx rfl (hb hby at_38) rfl ?_
      show Steps p.tables e below (s₁.setTop (mkF m 40 #[.val (.int pp), .val (.int xx), .val (.int yy), .val (.int zz), .val (.int mo), .val (.int (v_cap pp)), .val (.int (v_a pp xx)), .val (.int (v_b pp yy)), .val (.int (v_sel mo)), .unset, .unset, .unset, .unset] [(.int (v_a pp xx))])) _
      refine XS.istore X0.here hx rfl (hb hby at_40) rfl (l' := #[.val (.int pp), .val (.int xx), .val (.int yy), .val (.int zz), .val (.int mo), .val (.int (v_cap pp)), .val (.int (v_a pp xx)), .val (.int (v_b pp yy)), .val (.int (v_sel mo)), .val (.int (v_a pp xx)), .unset, .unset, .unset]) rfl ?_
      show Steps p.tables e below (s₁.setTop (mkF m 42 #[.val (.int pp), .val (.int xx), .val (.int yy), .val (.int zz), .val (.int mo), .val (.int (v_cap pp)), .val (.int (v_a pp xx)), .val (.int (v_b pp yy)), .val (.int (v_sel mo)), .val (.int (v_a pp xx)), .unset, .unset, .unset] [])) _
      refine XS.goto X0.here hx rfl (pc0 := 42) (pc' := 67) rfl (hb hby at_42) (by decide) (by decide) ?_
      exact k _ rfl
    · refine XS.ifYes X0.here hx rfl (pc0 := 35) (pc' := 45) rfl (hb hby at_35) rfl ((if0 _ _).trans (feq hc3).2) (by decide) (by decide) ?_
      have k : ∀ (v1 : Int32), v1 = (if (v_sel mo) = (1 : Int32) then (v_b pp yy) else (v_q3 pp zz)) → Steps p.tables e below (s₁.setTop (mkF m 67 #[.val (.int pp), .val (.int xx), .val (.int yy), .val (.int zz), .val (.int mo), .val (.int (v_cap pp)), .val (.int (v_a pp xx)), .val (.int (v_b pp yy)), .val (.int (v_sel mo)), .val (.int v1), .unset, .unset, .unset] [])) t := fun v1 hv1 => k v1 (hv1.trans (if_neg hc3).symm)
      show Steps p.tables e below (s₁.setTop (mkF m 45 #[.val (.int pp), .val (.int xx), .val (.int yy), .val (.int zz), .val (.int mo), .val (.int (v_cap pp)), .val (.int (v_a pp xx)), .val (.int (v_b pp yy)), .val (.int (v_sel mo)), .unset, .unset, .unset, .unset] [])) _
      refine XS.iload X0.here hx rfl (hb hby at_45) rfl ?_
      show Steps p.tables e below (s₁.setTop (mkF m 47 #[.val (.int pp), .val (.int xx), .val (.int yy), .val (.int zz), .val (.int mo), .val (.int (v_cap pp)), .val (.int (v_a pp xx)), .val (.int (v_b pp yy)), .val (.int (v_sel mo)), .unset, .unset, .unset, .unset] [(.int (v_sel mo))])) _
      refine XS.iconst X0.here hx rfl (hb hby at_47) ?_
      show Steps p.tables e below (s₁.setTop (mkF m 48 #[.val (.int pp), .val (.int xx), .val (.int yy), .val (.int zz), .val (.int mo), .val (.int (v_cap pp)), .val (.int (v_a pp xx)), .val (.int (v_b pp yy)), .val (.int (v_sel mo)), .unset, .unset, .unset, .unset] [(.int (1 : Int32)), (.int (v_sel mo))])) _
      by_cases hc4 : (v_sel mo) = (1 : Int32)
      · refine XS.icmpNo X0.here hx rfl (hb hby at_48) rfl (teq hc4).2 ?_
        have k : ∀ (v1 : Int32), v1 = (v_b pp yy) → Steps p.tables e below (s₁.setTop (mkF m 67 #[.val (.int pp), .val (.int xx), .val (.int yy), .val (.int zz), .val (.int mo), .val (.int (v_cap pp)), .val (.int (v_a pp xx)), .val (.int (v_b pp yy)), .val (.int (v_sel mo)), .val (.int v1), .unset, .unset, .unset] [])) t := fun v1 hv1 => k v1 (hv1.trans (if_pos hc4).symm)
        show Steps p.tables e below (s₁.setTop (mkF m 51 #[.val (.int pp), .val (.int xx), .val (.int yy), .val (.int zz), .val (.int mo), .val (.int (v_cap pp)), .val (.int (v_a pp xx)), .val (.int (v_b pp yy)), .val (.int (v_sel mo)), .unset, .unset, .unset, .unset] [])) _
        refine XS.iload X0.here hx rfl (hb hby at_51) rfl ?_
        show Steps p.tables e below (s₁.setTop (mkF m 53 #[.val (.int pp), .val (.int xx), .val (.int yy), .val (.int zz), .val (.int mo), .val (.int (v_cap pp)), .val (.int (v_a pp xx)), .val (.int (v_b pp yy)), .val (.int (v_sel mo)), .unset, .unset, .unset, .unset] [(.int (v_b pp yy))])) _
        refine XS.istore X0.here hx rfl (hb hby at_53) rfl (l' := #[.val (.int pp), .val (.int xx), .val (.int yy), .val (.int zz), .val (.int mo), .val (.int (v_cap pp)), .val (.int (v_a pp xx)), .val (.int (v_b pp yy)), .val (.int (v_sel mo)), .val (.int (v_b pp yy)), .unset, .unset, .unset]) rfl ?_
        show Steps p.tables e below (s₁.setTop (mkF m 55 #[.val (.int pp), .val (.int xx), .val (.int yy), .val (.int zz), .val (.int mo), .val (.int (v_cap pp)), .val (.int (v_a pp xx)), .val (.int (v_b pp yy)), .val (.int (v_sel mo)), .val (.int (v_b pp yy)), .unset, .unset, .unset] [])) _
        refine XS.goto X0.here hx rfl (pc0 := 55) (pc' := 67) rfl (hb hby at_55) (by decide) (by decide) ?_
        exact k _ rfl
      · refine XS.icmpYes X0.here hx rfl (pc0 := 48) (pc' := 58) rfl (hb hby at_48) rfl (feq hc4).2 (by decide) (by decide) ?_
        have k : ∀ (v1 : Int32), v1 = (v_q3 pp zz) → Steps p.tables e below (s₁.setTop (mkF m 67 #[.val (.int pp), .val (.int xx), .val (.int yy), .val (.int zz), .val (.int mo), .val (.int (v_cap pp)), .val (.int (v_a pp xx)), .val (.int (v_b pp yy)), .val (.int (v_sel mo)), .val (.int v1), .unset, .unset, .unset] [])) t := fun v1 hv1 => k v1 (hv1.trans (if_neg hc4).symm)
        show Steps p.tables e below (s₁.setTop (mkF m 58 #[.val (.int pp), .val (.int xx), .val (.int yy), .val (.int zz), .val (.int mo), .val (.int (v_cap pp)), .val (.int (v_a pp xx)), .val (.int (v_b pp yy)), .val (.int (v_sel mo)), .unset, .unset, .unset, .unset] [])) _
        refine XS.iloadN X0.here hx rfl (hb hby at_58) rfl ?_
        show Steps p.tables e below (s₁.setTop (mkF m 59 #[.val (.int pp), .val (.int xx), .val (.int yy), .val (.int zz), .val (.int mo), .val (.int (v_cap pp)), .val (.int (v_a pp xx)), .val (.int (v_b pp yy)), .val (.int (v_sel mo)), .unset, .unset, .unset, .unset] [(.int zz)])) _
        refine X0.ldcInt hx hown (mvT hZ (hw _ (List.mem_of_getElem? (i := 0) rfl))) (g := (mkF m 59 #[.val (.int pp), .val (.int xx), .val (.int yy), .val (.int zz), .val (.int mo), .val (.int (v_cap pp)), .val (.int (v_a pp xx)), .val (.int (v_b pp yy)), .val (.int (v_sel mo)), .unset, .unset, .unset, .unset] [(.int zz)])) rfl (hb hby at_59) _ ?_
        show Steps p.tables e below (s₁.setTop (mkF m 61 #[.val (.int pp), .val (.int xx), .val (.int yy), .val (.int zz), .val (.int mo), .val (.int (v_cap pp)), .val (.int (v_a pp xx)), .val (.int (v_b pp yy)), .val (.int (v_sel mo)), .unset, .unset, .unset, .unset] [(.int (2147483647 : Int32)), (.int zz)])) _
        refine XS.iand X0.here hx rfl (hb hby at_61) rfl ?_
        show Steps p.tables e below (s₁.setTop (mkF m 62 #[.val (.int pp), .val (.int xx), .val (.int yy), .val (.int zz), .val (.int mo), .val (.int (v_cap pp)), .val (.int (v_a pp xx)), .val (.int (v_b pp yy)), .val (.int (v_sel mo)), .unset, .unset, .unset, .unset] [(.int (zz &&& (2147483647 : Int32)))])) _
        refine XS.iload X0.here hx rfl (hb hby at_62) rfl ?_
        show Steps p.tables e below (s₁.setTop (mkF m 64 #[.val (.int pp), .val (.int xx), .val (.int yy), .val (.int zz), .val (.int mo), .val (.int (v_cap pp)), .val (.int (v_a pp xx)), .val (.int (v_b pp yy)), .val (.int (v_sel mo)), .unset, .unset, .unset, .unset] [(.int (v_cap pp)), (.int (zz &&& (2147483647 : Int32)))])) _
        refine iremM X0 hx rfl (hb hby at_64) rfl (own_nz pp) ?_
        show Steps p.tables e below (s₁.setTop (mkF m 65 #[.val (.int pp), .val (.int xx), .val (.int yy), .val (.int zz), .val (.int mo), .val (.int (v_cap pp)), .val (.int (v_a pp xx)), .val (.int (v_b pp yy)), .val (.int (v_sel mo)), .unset, .unset, .unset, .unset] [(.int ((zz &&& (2147483647 : Int32)) % (v_cap pp)))])) _
        refine XS.istore X0.here hx rfl (hb hby at_65) rfl (l' := #[.val (.int pp), .val (.int xx), .val (.int yy), .val (.int zz), .val (.int mo), .val (.int (v_cap pp)), .val (.int (v_a pp xx)), .val (.int (v_b pp yy)), .val (.int (v_sel mo)), .val (.int (v_q3 pp zz)), .unset, .unset, .unset]) rfl ?_
        exact k _ rfl
  have pre5 : ∀ t, Steps p.tables e below (s₁.setTop (mkF m 73 #[.val (.int pp), .val (.int xx), .val (.int yy), .val (.int zz), .val (.int mo), .val (.int (v_cap pp)), .val (.int (v_a pp xx)), .val (.int (v_b pp yy)), .val (.int (v_sel mo)), .val (.int (v_q pp xx yy zz mo)), .unset, .unset, .unset] [(.int (((mo.toUInt32 >>> ((2 : Int32) &&& 31).toUInt32).toInt32) &&& (1 : Int32)))])) t → Steps p.tables e below (s₁.setTop (entryFrame m #[(.int pp), (.int xx), (.int yy), (.int zz), (.int mo)] maxLocals)) t := by
    intro t k
    refine pre2 t ?_
    show Steps p.tables e below (s₁.setTop (mkF m 67 #[.val (.int pp), .val (.int xx), .val (.int yy), .val (.int zz), .val (.int mo), .val (.int (v_cap pp)), .val (.int (v_a pp xx)), .val (.int (v_b pp yy)), .val (.int (v_sel mo)), .val (.int (v_q pp xx yy zz mo)), .unset, .unset, .unset] [])) _
    refine XS.iload X0.here hx rfl (hb hby at_67) rfl ?_
    show Steps p.tables e below (s₁.setTop (mkF m 69 #[.val (.int pp), .val (.int xx), .val (.int yy), .val (.int zz), .val (.int mo), .val (.int (v_cap pp)), .val (.int (v_a pp xx)), .val (.int (v_b pp yy)), .val (.int (v_sel mo)), .val (.int (v_q pp xx yy zz mo)), .unset, .unset, .unset] [(.int mo)])) _
    refine XS.iconst X0.here hx rfl (hb hby at_69) ?_
    show Steps p.tables e below (s₁.setTop (mkF m 70 #[.val (.int pp), .val (.int xx), .val (.int yy), .val (.int zz), .val (.int mo), .val (.int (v_cap pp)), .val (.int (v_a pp xx)), .val (.int (v_b pp yy)), .val (.int (v_sel mo)), .val (.int (v_q pp xx yy zz mo)), .unset, .unset, .unset] [(.int (2 : Int32)), (.int mo)])) _
    refine XS.iushr X0.here hx rfl (hb hby at_70) rfl ?_
    show Steps p.tables e below (s₁.setTop (mkF m 71 #[.val (.int pp), .val (.int xx), .val (.int yy), .val (.int zz), .val (.int mo), .val (.int (v_cap pp)), .val (.int (v_a pp xx)), .val (.int (v_b pp yy)), .val (.int (v_sel mo)), .val (.int (v_q pp xx yy zz mo)), .unset, .unset, .unset] [(.int ((mo.toUInt32 >>> ((2 : Int32) &&& 31).toUInt32).toInt32))])) _
    refine XS.iconst X0.here hx rfl (hb hby at_71) ?_
    show Steps p.tables e below (s₁.setTop (mkF m 72 #[.val (.int pp), .val (.int xx), .val (.int yy), .val (.int zz), .val (.int mo), .val (.int (v_cap pp)), .val (.int (v_a pp xx)), .val (.int (v_b pp yy)), .val (.int (v_sel mo)), .val (.int (v_q pp xx yy zz mo)), .unset, .unset, .unset] [(.int (1 : Int32)), (.int ((mo.toUInt32 >>> ((2 : Int32) &&& 31).toUInt32).toInt32))])) _
    refine XS.iand X0.here hx rfl (hb hby at_72) rfl ?_
    exact k
  have pre6 : ∀ t, Steps p.tables e below (s₁.setTop (mkF m 81 #[.val (.int pp), .val (.int xx), .val (.int yy), .val (.int zz), .val (.int mo), .val (.int (v_cap pp)), .val (.int (v_a pp xx)), .val (.int (v_b pp yy)), .val (.int (v_sel mo)), .val (.int (v_q pp xx yy zz mo)), .unset, .unset, .unset] [(.int (b2i (if (((mo.toUInt32 >>> ((2 : Int32) &&& 31).toUInt32).toInt32) &&& (1 : Int32)) = (0 : Int32) then false else true)))])) t → Steps p.tables e below (s₁.setTop (entryFrame m #[(.int pp), (.int xx), (.int yy), (.int zz), (.int mo)] maxLocals)) t := by
    intro t k
    refine pre5 t ?_
    have k : ∀ (v1 : Bool), v1 = (if (((mo.toUInt32 >>> ((2 : Int32) &&& 31).toUInt32).toInt32) &&& (1 : Int32)) = (0 : Int32) then false else true) → Steps p.tables e below (s₁.setTop (mkF m 81 #[.val (.int pp), .val (.int xx), .val (.int yy), .val (.int zz), .val (.int mo), .val (.int (v_cap pp)), .val (.int (v_a pp xx)), .val (.int (v_b pp yy)), .val (.int (v_sel mo)), .val (.int (v_q pp xx yy zz mo)), .unset, .unset, .unset] [(.int (b2i v1))])) t := fun v1 hv1 => by subst hv1; exact k
    show Steps p.tables e below (s₁.setTop (mkF m 73 #[.val (.int pp), .val (.int xx), .val (.int yy), .val (.int zz), .val (.int mo), .val (.int (v_cap pp)), .val (.int (v_a pp xx)), .val (.int (v_b pp yy)), .val (.int (v_sel mo)), .val (.int (v_q pp xx yy zz mo)), .unset, .unset, .unset] [(.int (((mo.toUInt32 >>> ((2 : Int32) &&& 31).toUInt32).toInt32) &&& (1 : Int32)))])) _
    by_cases hc7 : (((mo.toUInt32 >>> ((2 : Int32) &&& 31).toUInt32).toInt32) &&& (1 : Int32)) = (0 : Int32)
    · refine XS.ifYes X0.here hx rfl (pc0 := 73) (pc' := 80) rfl (hb hby at_73) rfl ((if0 _ _).trans (teq hc7).1) (by decide) (by decide) ?_
      have k : ∀ (v1 : Bool), v1 = false → Steps p.tables e below (s₁.setTop (mkF m 81 #[.val (.int pp), .val (.int xx), .val (.int yy), .val (.int zz), .val (.int mo), .val (.int (v_cap pp)), .val (.int (v_a pp xx)), .val (.int (v_b pp yy)), .val (.int (v_sel mo)), .val (.int (v_q pp xx yy zz mo)), .unset, .unset, .unset] [(.int (b2i v1))])) t := fun v1 hv1 => k v1 (hv1.trans (if_pos hc7).symm)
      show Steps p.tables e below (s₁.setTop (mkF m 80 #[.val (.int pp), .val (.int xx), .val (.int yy), .val (.int zz), .val (.int mo), .val (.int (v_cap pp)), .val (.int (v_a pp xx)), .val (.int (v_b pp yy)), .val (.int (v_sel mo)), .val (.int (v_q pp xx yy zz mo)), .unset, .unset, .unset] [])) _
      refine XS.iconst X0.here hx rfl (hb hby at_80) ?_
      exact k false rfl
    · refine XS.ifNo X0.here hx rfl (hb hby at_73) rfl ((if0 _ _).trans (feq hc7).1) ?_
      have k : ∀ (v1 : Bool), v1 = true → Steps p.tables e below (s₁.setTop (mkF m 81 #[.val (.int pp), .val (.int xx), .val (.int yy), .val (.int zz), .val (.int mo), .val (.int (v_cap pp)), .val (.int (v_a pp xx)), .val (.int (v_b pp yy)), .val (.int (v_sel mo)), .val (.int (v_q pp xx yy zz mo)), .unset, .unset, .unset] [(.int (b2i v1))])) t := fun v1 hv1 => k v1 (hv1.trans (if_neg hc7).symm)
      show Steps p.tables e below (s₁.setTop (mkF m 76 #[.val (.int pp), .val (.int xx), .val (.int yy), .val (.int zz), .val (.int mo), .val (.int (v_cap pp)), .val (.int (v_a pp xx)), .val (.int (v_b pp yy)), .val (.int (v_sel mo)), .val (.int (v_q pp xx yy zz mo)), .unset, .unset, .unset] [])) _
      refine XS.iconst X0.here hx rfl (hb hby at_76) ?_
      show Steps p.tables e below (s₁.setTop (mkF m 77 #[.val (.int pp), .val (.int xx), .val (.int yy), .val (.int zz), .val (.int mo), .val (.int (v_cap pp)), .val (.int (v_a pp xx)), .val (.int (v_b pp yy)), .val (.int (v_sel mo)), .val (.int (v_q pp xx yy zz mo)), .unset, .unset, .unset] [(.int (1 : Int32))])) _
      refine XS.goto X0.here hx rfl (pc0 := 77) (pc' := 81) rfl (hb hby at_77) (by decide) (by decide) ?_
      exact k true rfl
  obtain ⟨T8, h8, X8, e8, E8, A8, D8, -, st8⟩ := newO X0 hx hZ hown (hw _ (List.mem_of_getElem? (i := 1) rfl)) (hw _ (List.mem_of_getElem? (i := 2) rfl)) (hw _ (List.mem_of_getElem? (i := 3) rfl)) e0 (g := (mkF m 83 #[.val (.int pp), .val (.int xx), .val (.int yy), .val (.int zz), .val (.int mo), .val (.int (v_cap pp)), .val (.int (v_a pp xx)), .val (.int (v_b pp yy)), .val (.int (v_sel mo)), .val (.int (v_q pp xx yy zz mo)), .val (.int (b2i (v_rb mo))), .unset, .unset] [])) rfl (hb hby at_83) (by decide) (by decide)
  obtain ⟨b8, g8⟩ : ∃ z, z = h0.size := ⟨_, rfl⟩
  rw [← g8] at A8 D8 st8
  have ge_b8 : n0 ≤ b8 := Nat.le_trans Z0 (Nat.le_of_eq g8.symm)
  have Z8 : n0 ≤ h8.size := Nat.le_trans Z0 E8.1
  have F8_capacity : Fld Z h8 b8 "com/example/cutline/cutline/IndexSet" "capacity" "I" (.int (0 : Int32)) := D8 (Or.inr (hw _ (List.mem_of_getElem? (i := 11) rfl))) (ty := .int) (by decide)
  have F8_words : Fld Z h8 b8 "com/example/cutline/cutline/IndexSet" "words" "[J" .null := D8 (Or.inr (hw _ (List.mem_of_getElem? (i := 14) rfl))) (ty := (.array .long)) (by decide)
  have F8_summary : Fld Z h8 b8 "com/example/cutline/cutline/IndexSet" "summary" "[J" .null := D8 (Or.inr (hw _ (List.mem_of_getElem? (i := 16) rfl))) (ty := (.array .long)) (by decide)
  have F8_size : Fld Z h8 b8 "com/example/cutline/cutline/IndexSet" "size" "I" (.int (0 : Int32)) := D8 (Or.inl (hw _ (List.mem_of_getElem? (i := 23) rfl))) (ty := .int) (by decide)
  obtain ⟨_, _, ⟨T9, L9, k9, n9⟩, -, X9, ⟨Lc9, hQ9, l9, y9, z9⟩, st9⟩ := X8.specialBack hx (y := (⟨"com/example/cutline/cutline/IndexSet", "<init>", "(I)V"⟩ : MethodName)) rfl hown (mvT hZ (hw _ (List.mem_of_getElem? (i := 4) rfl))) (mvT hZ (hw _ (List.mem_of_getElem? (i := 5) rfl))) (mvT hZ (hw _ (List.mem_of_getElem? (i := 6) rfl))) (by decide) (backOf (W := 1) (rm1 l Z a0 hw [] b8 (v_cap pp) (0 : Int32) h8 n0 Z8 ⟨A8, F8_capacity, F8_words, F8_summary, F8_size, ge_b8, Z8⟩ (own_vcap pp).1 (own_vcap pp).2) hZ (hw _ (List.mem_of_getElem? (i := 6) rfl)) (hw _ (List.mem_of_getElem? (i := 3) rfl)) (by decide) (by decide)) (g := (mkF m 89 #[.val (.int pp), .val (.int xx), .val (.int yy), .val (.int zz), .val (.int mo), .val (.int (v_cap pp)), .val (.int (v_a pp xx)), .val (.int (v_b pp yy)), .val (.int (v_sel mo)), .val (.int (v_q pp xx yy zz mo)), .val (.int (b2i (v_rb mo))), .unset, .unset] [(.int (v_cap pp)), (.ref b8), (.ref b8)])) rfl (by rw [hml]; rfl) (Steps.refl _) (a := b8) (argsL := [(.int (v_cap pp))]) (rest := [(.ref b8)]) (lenOf pd_0 rfl) rfl (by show 2 * 0 + _ ≤ _; exact Nat.le_of_eq rfl) (hb hby at_89) (fun _ _ => ⟨rfl, e8, (by decide : 1 + 2 ≤ _), (by decide : 4 + 260 ≤ _)⟩)
  dsimp only [Pt.U, Pt.locs, Pt.cells, Pt.slots] at X9 l9 y9 z9 st9 hQ9
  subst l9 y9 z9
  obtain ⟨rfl, N9q, aw9, au9, I9⟩ := hQ9
  obtain ⟨k10_0, k10_1, k10_2, k10_3, k10_4, k10_5, k10_6, k10_g_ob, k10_g_aw, k10_g_au, k10_n_ob_aw, k10_n_ob_au, k10_n_aw_au, k10_sz⟩ := I9
  have N9 := Fr.app N0 N9q
  obtain ⟨cq11, kq11, q11a, q11b, q11c⟩ := isOf hZ rfl k10_0
  obtain ⟨_, _, ⟨T11, L11, k11, n11⟩, -, X11, ⟨Lc11, hQ11, l11, y11, z11⟩, st11⟩ := X9.virtualBack hx (y := (⟨"com/example/cutline/cutline/IndexSet", "add", "(I)Z"⟩ : MethodName)) (z := (⟨"com/example/cutline/cutline/IndexSet", "add", "(I)Z"⟩ : MethodName)) hown (mvT hZ (hw _ (List.mem_of_getElem? (i := 17) rfl))) (mvT hZ (hw _ (List.mem_of_getElem? (i := 18) rfl))) (notFace_of_selects (args := #[]) (mvT hZ (hw _ (List.mem_of_getElem? (i := 20) rfl)))) (mvT hZ (hw _ (List.mem_of_getElem? (i := 20) rfl))) (mvT hZ (hw _ (List.mem_of_getElem? (i := 19) rfl))) (by decide) (backOf (W := 0) (rm3 l Z a0 hw [] b8 (v_a pp xx) aw9 au9 (v_cap pp) (0 : Int32) (own_nw (v_cap pp)) (fun _ => 0) (own_nw (own_nw (v_cap pp))) (fun _ => 0) T9.heap n0 k10_sz ⟨k10_0, k10_1, k10_2, k10_3, k10_4, k10_5, k10_6, k10_g_ob, k10_g_aw, k10_g_au, k10_n_ob_aw, k10_n_ob_au, k10_n_aw_au, k10_sz⟩ (own_in _ _ (own_va pp xx) (own_vcap pp)).1 (own_in _ _ (own_va pp xx) (own_vcap pp)).2) hZ (hw _ (List.mem_of_getElem? (i := 21) rfl)) (hw _ (List.mem_of_getElem? (i := 3) rfl)) (by decide) (by decide)) q11a q11c (g := (mkF m 98 #[.val (.int pp), .val (.int xx), .val (.int yy), .val (.int zz), .val (.int mo), .val (.int (v_cap pp)), .val (.int (v_a pp xx)), .val (.int (v_b pp yy)), .val (.int (v_sel mo)), .val (.int (v_q pp xx yy zz mo)), .val (.int (b2i (v_rb mo))), .val (.ref b8), .unset] [(.int (v_a pp xx)), (.ref b8)])) rfl (by rw [hml]; rfl) (Steps.refl _) (argsL := [(.int (v_a pp xx))]) (rest := []) (lenOf pd_2 rfl) rfl (by show 2 * 0 + _ ≤ _; exact Nat.le_of_eq rfl) (hb hby at_98) (fun _ _ => ⟨rfl, rfl, (by decide : 3 + 0 ≤ _), (by decide : 264 + 0 ≤ _)⟩)
  dsimp only [Pt.U, Pt.locs, Pt.cells, Pt.slots] at X11 l11 y11 z11 st11 hQ11
  subst l11 y11 z11
  obtain ⟨rfl, N11q, I11⟩ := hQ11
  obtain ⟨k12_0, k12_1, k12_2, k12_3, k12_4, k12_5, k12_6, k12_g_ob, k12_g_aw, k12_g_au, k12_n_ob_aw, k12_n_ob_au, k12_n_aw_au, k12_sz⟩ := I11
  have N11 := Fr.app N9 N11q
  obtain ⟨cq13, kq13, q13a, q13b, q13c⟩ := isOf hZ rfl k12_0
  obtain ⟨_, _, ⟨T13, L13, k13, n13⟩, -, X13, ⟨Lc13, hQ13, l13, y13, z13⟩, st13⟩ := X11.virtualBack hx (y := (⟨"com/example/cutline/cutline/IndexSet", "add", "(I)Z"⟩ : MethodName)) (z := (⟨"com/example/cutline/cutline/IndexSet", "add", "(I)Z"⟩ : MethodName)) hown (mvT hZ (hw _ (List.mem_of_getElem? (i := 17) rfl))) (mvT hZ (hw _ (List.mem_of_getElem? (i := 18) rfl))) (notFace_of_selects (args := #[]) (mvT hZ (hw _ (List.mem_of_getElem? (i := 20) rfl)))) (mvT hZ (hw _ (List.mem_of_getElem? (i := 20) rfl))) (mvT hZ (hw _ (List.mem_of_getElem? (i := 19) rfl))) (by decide) (backOf (W := 0) (rm3 l Z a0 hw [] b8 (v_b pp yy) aw9 au9 (v_cap pp) (v_s1 pp xx) (own_nw (v_cap pp)) (v_w1 pp xx) (own_nw (own_nw (v_cap pp))) (v_u1 pp xx) T11.heap n0 k12_sz ⟨k12_0, k12_1, k12_2, k12_3, k12_4, k12_5, k12_6, k12_g_ob, k12_g_aw, k12_g_au, k12_n_ob_aw, k12_n_ob_au, k12_n_aw_au, k12_sz⟩ (own_in _ _ (own_vb pp yy) (own_vcap pp)).1 (own_in _ _ (own_vb pp yy) (own_vcap pp)).2) hZ (hw _ (List.mem_of_getElem? (i := 21) rfl)) (hw _ (List.mem_of_getElem? (i := 3) rfl)) (by decide) (by decide)) q13a q13c (g := (mkF m 106 #[.val (.int pp), .val (.int xx), .val (.int yy), .val (.int zz), .val (.int mo), .val (.int (v_cap pp)), .val (.int (v_a pp xx)), .val (.int (v_b pp yy)), .val (.int (v_sel mo)), .val (.int (v_q pp xx yy zz mo)), .val (.int (b2i (v_rb mo))), .val (.ref b8), .unset] [(.int (v_b pp yy)), (.ref b8)])) rfl (by rw [hml]; rfl) (Steps.refl _) (argsL := [(.int (v_b pp yy))]) (rest := []) (lenOf pd_2 rfl) rfl (by show 2 * 0 + _ ≤ _; exact Nat.le_of_eq rfl) (hb hby at_106) (fun _ _ => ⟨rfl, rfl, (by decide : 3 + 0 ≤ _), (by decide : 264 + 0 ≤ _)⟩)
  dsimp only [Pt.U, Pt.locs, Pt.cells, Pt.slots] at X13 l13 y13 z13 st13 hQ13
  subst l13 y13 z13
  obtain ⟨rfl, N13q, I13⟩ := hQ13
  obtain ⟨k14_0, k14_1, k14_2, k14_3, k14_4, k14_5, k14_6, k14_g_ob, k14_g_aw, k14_g_au, k14_n_ob_aw, k14_n_ob_au, k14_n_aw_au, k14_sz⟩ := I13
  have N13 := Fr.app N11 N13q
  have pre15 : ∀ t, Steps p.tables e below (T13.setTop (mkF m 112 #[.val (.int pp), .val (.int xx), .val (.int yy), .val (.int zz), .val (.int mo), .val (.int (v_cap pp)), .val (.int (v_a pp xx)), .val (.int (v_b pp yy)), .val (.int (v_sel mo)), .val (.int (v_q pp xx yy zz mo)), .val (.int (b2i (v_rb mo))), .val (.ref b8), .unset] [(.int (b2i (v_rb mo)))])) t → Steps p.tables e below (s₁.setTop (entryFrame m #[(.int pp), (.int xx), (.int yy), (.int zz), (.int mo)] maxLocals)) t := by
    intro t k
    refine pre6 t ?_
    show Steps p.tables e below (s₁.setTop (mkF m 81 #[.val (.int pp), .val (.int xx), .val (.int yy), .val (.int zz), .val (.int mo), .val (.int (v_cap pp)), .val (.int (v_a pp xx)), .val (.int (v_b pp yy)), .val (.int (v_sel mo)), .val (.int (v_q pp xx yy zz mo)), .unset, .unset, .unset] [(.int (b2i (if (((mo.toUInt32 >>> ((2 : Int32) &&& 31).toUInt32).toInt32) &&& (1 : Int32)) = (0 : Int32) then false else true)))])) _
    refine XS.istore X0.here hx rfl (hb hby at_81) rfl (l' := #[.val (.int pp), .val (.int xx), .val (.int yy), .val (.int zz), .val (.int mo), .val (.int (v_cap pp)), .val (.int (v_a pp xx)), .val (.int (v_b pp yy)), .val (.int (v_sel mo)), .val (.int (v_q pp xx yy zz mo)), .val (.int (b2i (v_rb mo))), .unset, .unset]) rfl ?_
    show Steps p.tables e below (s₁.setTop (mkF m 83 #[.val (.int pp), .val (.int xx), .val (.int yy), .val (.int zz), .val (.int mo), .val (.int (v_cap pp)), .val (.int (v_a pp xx)), .val (.int (v_b pp yy)), .val (.int (v_sel mo)), .val (.int (v_q pp xx yy zz mo)), .val (.int (b2i (v_rb mo))), .unset, .unset] [])) _
    refine st8 _ ?_
    show Steps p.tables e below (T8.setTop (mkF m 86 #[.val (.int pp), .val (.int xx), .val (.int yy), .val (.int zz), .val (.int mo), .val (.int (v_cap pp)), .val (.int (v_a pp xx)), .val (.int (v_b pp yy)), .val (.int (v_sel mo)), .val (.int (v_q pp xx yy zz mo)), .val (.int (b2i (v_rb mo))), .unset, .unset] [(.ref b8)])) _
    refine XS.dup X8.here hx rfl (hb hby at_86) rfl rfl ?_
    show Steps p.tables e below (T8.setTop (mkF m 87 #[.val (.int pp), .val (.int xx), .val (.int yy), .val (.int zz), .val (.int mo), .val (.int (v_cap pp)), .val (.int (v_a pp xx)), .val (.int (v_b pp yy)), .val (.int (v_sel mo)), .val (.int (v_q pp xx yy zz mo)), .val (.int (b2i (v_rb mo))), .unset, .unset] [(.ref b8), (.ref b8)])) _
    refine XS.iload X8.here hx rfl (hb hby at_87) rfl ?_
    show Steps p.tables e below (T8.setTop (mkF m 89 #[.val (.int pp), .val (.int xx), .val (.int yy), .val (.int zz), .val (.int mo), .val (.int (v_cap pp)), .val (.int (v_a pp xx)), .val (.int (v_b pp yy)), .val (.int (v_sel mo)), .val (.int (v_q pp xx yy zz mo)), .val (.int (b2i (v_rb mo))), .unset, .unset] [(.int (v_cap pp)), (.ref b8), (.ref b8)])) _
    refine st9.trans ?_
    show Steps p.tables e below (T9.setTop (mkF m 92 #[.val (.int pp), .val (.int xx), .val (.int yy), .val (.int zz), .val (.int mo), .val (.int (v_cap pp)), .val (.int (v_a pp xx)), .val (.int (v_b pp yy)), .val (.int (v_sel mo)), .val (.int (v_q pp xx yy zz mo)), .val (.int (b2i (v_rb mo))), .unset, .unset] [(.ref b8)])) _
    refine XS.astore X9.here hx rfl (hb hby at_92) rfl rfl (l' := #[.val (.int pp), .val (.int xx), .val (.int yy), .val (.int zz), .val (.int mo), .val (.int (v_cap pp)), .val (.int (v_a pp xx)), .val (.int (v_b pp yy)), .val (.int (v_sel mo)), .val (.int (v_q pp xx yy zz mo)), .val (.int (b2i (v_rb mo))), .val (.ref b8), .unset]) rfl ?_
    show Steps p.tables e below (T9.setTop (mkF m 94 #[.val (.int pp), .val (.int xx), .val (.int yy), .val (.int zz), .val (.int mo), .val (.int (v_cap pp)), .val (.int (v_a pp xx)), .val (.int (v_b pp yy)), .val (.int (v_sel mo)), .val (.int (v_q pp xx yy zz mo)), .val (.int (b2i (v_rb mo))), .val (.ref b8), .unset] [])) _
    refine XS.aload X9.here hx rfl (hb hby at_94) rfl rfl ?_
    show Steps p.tables e below (T9.setTop (mkF m 96 #[.val (.int pp), .val (.int xx), .val (.int yy), .val (.int zz), .val (.int mo), .val (.int (v_cap pp)), .val (.int (v_a pp xx)), .val (.int (v_b pp yy)), .val (.int (v_sel mo)), .val (.int (v_q pp xx yy zz mo)), .val (.int (b2i (v_rb mo))), .val (.ref b8), .unset] [(.ref b8)])) _
    refine XS.iload X9.here hx rfl (hb hby at_96) rfl ?_
    show Steps p.tables e below (T9.setTop (mkF m 98 #[.val (.int pp), .val (.int xx), .val (.int yy), .val (.int zz), .val (.int mo), .val (.int (v_cap pp)), .val (.int (v_a pp xx)), .val (.int (v_b pp yy)), .val (.int (v_sel mo)), .val (.int (v_q pp xx yy zz mo)), .val (.int (b2i (v_rb mo))), .val (.ref b8), .unset] [(.int (v_a pp xx)), (.ref b8)])) _
    refine st11.trans ?_
    show Steps p.tables e below (T11.setTop (mkF m 101 #[.val (.int pp), .val (.int xx), .val (.int yy), .val (.int zz), .val (.int mo), .val (.int (v_cap pp)), .val (.int (v_a pp xx)), .val (.int (v_b pp yy)), .val (.int (v_sel mo)), .val (.int (v_q pp xx yy zz mo)), .val (.int (b2i (v_rb mo))), .val (.ref b8), .unset] [(.int (b2i (v_r1 pp xx)))])) _
    refine XS.pop X11.here hx rfl (hb hby at_101) rfl rfl ?_
    show Steps p.tables e below (T11.setTop (mkF m 102 #[.val (.int pp), .val (.int xx), .val (.int yy), .val (.int zz), .val (.int mo), .val (.int (v_cap pp)), .val (.int (v_a pp xx)), .val (.int (v_b pp yy)), .val (.int (v_sel mo)), .val (.int (v_q pp xx yy zz mo)), .val (.int (b2i (v_rb mo))), .val (.ref b8), .unset] [])) _
    refine XS.aload X11.here hx rfl (hb hby at_102) rfl rfl ?_
    show Steps p.tables e below (T11.setTop (mkF m 104 #[.val (.int pp), .val (.int xx), .val (.int yy), .val (.int zz), .val (.int mo), .val (.int (v_cap pp)), .val (.int (v_a pp xx)), .val (.int (v_b pp yy)), .val (.int (v_sel mo)), .val (.int (v_q pp xx yy zz mo)), .val (.int (b2i (v_rb mo))), .val (.ref b8), .unset] [(.ref b8)])) _
    refine XS.iload X11.here hx rfl (hb hby at_104) rfl ?_
    show Steps p.tables e below (T11.setTop (mkF m 106 #[.val (.int pp), .val (.int xx), .val (.int yy), .val (.int zz), .val (.int mo), .val (.int (v_cap pp)), .val (.int (v_a pp xx)), .val (.int (v_b pp yy)), .val (.int (v_sel mo)), .val (.int (v_q pp xx yy zz mo)), .val (.int (b2i (v_rb mo))), .val (.ref b8), .unset] [(.int (v_b pp yy)), (.ref b8)])) _
    refine st13.trans ?_
    show Steps p.tables e below (T13.setTop (mkF m 109 #[.val (.int pp), .val (.int xx), .val (.int yy), .val (.int zz), .val (.int mo), .val (.int (v_cap pp)), .val (.int (v_a pp xx)), .val (.int (v_b pp yy)), .val (.int (v_sel mo)), .val (.int (v_q pp xx yy zz mo)), .val (.int (b2i (v_rb mo))), .val (.ref b8), .unset] [(.int (b2i (v_r2 pp xx yy)))])) _
    refine XS.pop X13.here hx rfl (hb hby at_109) rfl rfl ?_
    show Steps p.tables e below (T13.setTop (mkF m 110 #[.val (.int pp), .val (.int xx), .val (.int yy), .val (.int zz), .val (.int mo), .val (.int (v_cap pp)), .val (.int (v_a pp xx)), .val (.int (v_b pp yy)), .val (.int (v_sel mo)), .val (.int (v_q pp xx yy zz mo)), .val (.int (b2i (v_rb mo))), .val (.ref b8), .unset] [])) _
    refine XS.iload X13.here hx rfl (hb hby at_110) rfl ?_
    exact k
  by_cases hc16 : (v_rb mo) = true
  ·
    obtain ⟨cq17, kq17, q17a, q17b, q17c⟩ := isOf hZ rfl k14_0
    obtain ⟨_, _, ⟨T17, L17, k17, n17⟩, -, X17, ⟨Lc17, hQ17, l17, y17, z17⟩, st17⟩ := X13.virtualBack hx (y := (⟨"com/example/cutline/cutline/IndexSet", "remove", "(I)Z"⟩ : MethodName)) (z := (⟨"com/example/cutline/cutline/IndexSet", "remove", "(I)Z"⟩ : MethodName)) hown (mvT hZ (hw _ (List.mem_of_getElem? (i := 29) rfl))) (mvT hZ (hw _ (List.mem_of_getElem? (i := 30) rfl))) (notFace_of_selects (args := #[]) (mvT hZ (hw _ (List.mem_of_getElem? (i := 32) rfl)))) (mvT hZ (hw _ (List.mem_of_getElem? (i := 32) rfl))) (mvT hZ (hw _ (List.mem_of_getElem? (i := 31) rfl))) (by decide) (backOf (W := 0) (rm5 l Z a0 hw [] b8 (v_b pp yy) aw9 au9 (v_cap pp) (v_s2 pp xx yy) (own_nw (v_cap pp)) (v_w2 pp xx yy) (own_nw (own_nw (v_cap pp))) (v_u2 pp xx yy) T13.heap n0 k14_sz ⟨k14_0, k14_1, k14_2, k14_3, k14_4, k14_5, k14_6, k14_g_ob, k14_g_aw, k14_g_au, k14_n_ob_aw, k14_n_ob_au, k14_n_aw_au, k14_sz⟩ (own_in _ _ (own_vb pp yy) (own_vcap pp)).1 (own_in _ _ (own_vb pp yy) (own_vcap pp)).2) hZ (hw _ (List.mem_of_getElem? (i := 33) rfl)) (hw _ (List.mem_of_getElem? (i := 3) rfl)) (by decide) (by decide)) q17a q17c (g := (mkF m 119 #[.val (.int pp), .val (.int xx), .val (.int yy), .val (.int zz), .val (.int mo), .val (.int (v_cap pp)), .val (.int (v_a pp xx)), .val (.int (v_b pp yy)), .val (.int (v_sel mo)), .val (.int (v_q pp xx yy zz mo)), .val (.int (b2i (v_rb mo))), .val (.ref b8), .unset] [(.int (v_b pp yy)), (.ref b8)])) rfl (by rw [hml]; rfl) (Steps.refl _) (argsL := [(.int (v_b pp yy))]) (rest := []) (lenOf pd_2 rfl) rfl (by show 2 * 0 + _ ≤ _; exact Nat.le_of_eq rfl) (hb hby at_119) (fun _ _ => ⟨rfl, rfl, (by decide : 3 + 0 ≤ _), (by decide : 264 + 0 ≤ _)⟩)
    dsimp only [Pt.U, Pt.locs, Pt.cells, Pt.slots] at X17 l17 y17 z17 st17 hQ17
    subst l17 y17 z17
    obtain ⟨rfl, N17q, I17⟩ := hQ17
    obtain ⟨k18_0, k18_1, k18_2, k18_3, k18_4, k18_5, k18_6, k18_g_ob, k18_g_aw, k18_g_au, k18_n_ob_aw, k18_n_ob_au, k18_n_aw_au, k18_sz⟩ := I17
    have N17 := Fr.app N13 N17q
    have pre19 : ∀ t, Steps p.tables e below (T17.setTop (mkF m 132 #[.val (.int pp), .val (.int xx), .val (.int yy), .val (.int zz), .val (.int mo), .val (.int (v_cap pp)), .val (.int (v_a pp xx)), .val (.int (v_b pp yy)), .val (.int (v_sel mo)), .val (.int (v_q pp xx yy zz mo)), .val (.int (b2i (v_rb mo))), .val (.ref b8), .unset] [(.int (v_a pp xx)), (.int (v_q pp xx yy zz mo))])) t → Steps p.tables e below (s₁.setTop (entryFrame m #[(.int pp), (.int xx), (.int yy), (.int zz), (.int mo)] maxLocals)) t := by
      intro t k
      refine pre15 t ?_
      show Steps p.tables e below (T13.setTop (mkF m 112 #[.val (.int pp), .val (.int xx), .val (.int yy), .val (.int zz), .val (.int mo), .val (.int (v_cap pp)), .val (.int (v_a pp xx)), .val (.int (v_b pp yy)), .val (.int (v_sel mo)), .val (.int (v_q pp xx yy zz mo)), .val (.int (b2i (v_rb mo))), .val (.ref b8), .unset] [(.int (b2i (v_rb mo)))])) _
      refine XS.ifNo X13.here hx rfl (hb hby at_112) rfl ((if0 _ _).trans (feq (b2i_ne hc16)).1) ?_
      show Steps p.tables e below (T13.setTop (mkF m 115 #[.val (.int pp), .val (.int xx), .val (.int yy), .val (.int zz), .val (.int mo), .val (.int (v_cap pp)), .val (.int (v_a pp xx)), .val (.int (v_b pp yy)), .val (.int (v_sel mo)), .val (.int (v_q pp xx yy zz mo)), .val (.int (b2i (v_rb mo))), .val (.ref b8), .unset] [])) _
      refine XS.aload X13.here hx rfl (hb hby at_115) rfl rfl ?_
      show Steps p.tables e below (T13.setTop (mkF m 117 #[.val (.int pp), .val (.int xx), .val (.int yy), .val (.int zz), .val (.int mo), .val (.int (v_cap pp)), .val (.int (v_a pp xx)), .val (.int (v_b pp yy)), .val (.int (v_sel mo)), .val (.int (v_q pp xx yy zz mo)), .val (.int (b2i (v_rb mo))), .val (.ref b8), .unset] [(.ref b8)])) _
      refine XS.iload X13.here hx rfl (hb hby at_117) rfl ?_
      show Steps p.tables e below (T13.setTop (mkF m 119 #[.val (.int pp), .val (.int xx), .val (.int yy), .val (.int zz), .val (.int mo), .val (.int (v_cap pp)), .val (.int (v_a pp xx)), .val (.int (v_b pp yy)), .val (.int (v_sel mo)), .val (.int (v_q pp xx yy zz mo)), .val (.int (b2i (v_rb mo))), .val (.ref b8), .unset] [(.int (v_b pp yy)), (.ref b8)])) _
      refine st17.trans ?_
      show Steps p.tables e below (T17.setTop (mkF m 122 #[.val (.int pp), .val (.int xx), .val (.int yy), .val (.int zz), .val (.int mo), .val (.int (v_cap pp)), .val (.int (v_a pp xx)), .val (.int (v_b pp yy)), .val (.int (v_sel mo)), .val (.int (v_q pp xx yy zz mo)), .val (.int (b2i (v_rb mo))), .val (.ref b8), .unset] [(.int (b2i (v_r3 pp xx yy)))])) _
      refine XS.pop X17.here hx rfl (hb hby at_122) rfl rfl ?_
      show Steps p.tables e below (T17.setTop (mkF m 123 #[.val (.int pp), .val (.int xx), .val (.int yy), .val (.int zz), .val (.int mo), .val (.int (v_cap pp)), .val (.int (v_a pp xx)), .val (.int (v_b pp yy)), .val (.int (v_sel mo)), .val (.int (v_q pp xx yy zz mo)), .val (.int (b2i (v_rb mo))), .val (.ref b8), .unset] [])) _
      refine XS.iload X17.here hx rfl (hb hby at_123) rfl ?_
      show Steps p.tables e below (T17.setTop (mkF m 125 #[.val (.int pp), .val (.int xx), .val (.int yy), .val (.int zz), .val (.int mo), .val (.int (v_cap pp)), .val (.int (v_a pp xx)), .val (.int (v_b pp yy)), .val (.int (v_sel mo)), .val (.int (v_q pp xx yy zz mo)), .val (.int (b2i (v_rb mo))), .val (.ref b8), .unset] [(.int (b2i (v_rb mo)))])) _
      refine XS.ifNo X17.here hx rfl (hb hby at_125) rfl ((if0 _ _).trans (feq (b2i_ne hc16)).1) ?_
      show Steps p.tables e below (T17.setTop (mkF m 128 #[.val (.int pp), .val (.int xx), .val (.int yy), .val (.int zz), .val (.int mo), .val (.int (v_cap pp)), .val (.int (v_a pp xx)), .val (.int (v_b pp yy)), .val (.int (v_sel mo)), .val (.int (v_q pp xx yy zz mo)), .val (.int (b2i (v_rb mo))), .val (.ref b8), .unset] [])) _
      refine XS.iload X17.here hx rfl (hb hby at_128) rfl ?_
      show Steps p.tables e below (T17.setTop (mkF m 130 #[.val (.int pp), .val (.int xx), .val (.int yy), .val (.int zz), .val (.int mo), .val (.int (v_cap pp)), .val (.int (v_a pp xx)), .val (.int (v_b pp yy)), .val (.int (v_sel mo)), .val (.int (v_q pp xx yy zz mo)), .val (.int (b2i (v_rb mo))), .val (.ref b8), .unset] [(.int (v_q pp xx yy zz mo))])) _
      refine XS.iload X17.here hx rfl (hb hby at_130) rfl ?_
      exact k
    have pre20 : ∀ t, Steps p.tables e below (T17.setTop (mkF m 147 #[.val (.int pp), .val (.int xx), .val (.int yy), .val (.int zz), .val (.int mo), .val (.int (v_cap pp)), .val (.int (v_a pp xx)), .val (.int (v_b pp yy)), .val (.int (v_sel mo)), .val (.int (v_q pp xx yy zz mo)), .val (.int (b2i (v_rb mo))), .val (.ref b8), .unset] [(.int (b2i (if (v_q pp xx yy zz mo) = (v_a pp xx) then (if (v_q pp xx yy zz mo) = (v_b pp yy) then false else true) else false)))])) t → Steps p.tables e below (s₁.setTop (entryFrame m #[(.int pp), (.int xx), (.int yy), (.int zz), (.int mo)] maxLocals)) t := by
      intro t k
      refine pre19 t ?_
      have k : ∀ (v1 : Bool), v1 = (if (v_q pp xx yy zz mo) = (v_a pp xx) then (if (v_q pp xx yy zz mo) = (v_b pp yy) then false else true) else false) → Steps p.tables e below (T17.setTop (mkF m 147 #[.val (.int pp), .val (.int xx), .val (.int yy), .val (.int zz), .val (.int mo), .val (.int (v_cap pp)), .val (.int (v_a pp xx)), .val (.int (v_b pp yy)), .val (.int (v_sel mo)), .val (.int (v_q pp xx yy zz mo)), .val (.int (b2i (v_rb mo))), .val (.ref b8), .unset] [(.int (b2i v1))])) t := fun v1 hv1 => by subst hv1; exact k
      have nd21 : (∀ (v1 : Bool), v1 = false → Steps p.tables e below (T17.setTop (mkF m 147 #[.val (.int pp), .val (.int xx), .val (.int yy), .val (.int zz), .val (.int mo), .val (.int (v_cap pp)), .val (.int (v_a pp xx)), .val (.int (v_b pp yy)), .val (.int (v_sel mo)), .val (.int (v_q pp xx yy zz mo)), .val (.int (b2i (v_rb mo))), .val (.ref b8), .unset] [(.int (b2i v1))])) t) → Steps p.tables e below (T17.setTop (mkF m 146 #[.val (.int pp), .val (.int xx), .val (.int yy), .val (.int zz), .val (.int mo), .val (.int (v_cap pp)), .val (.int (v_a pp xx)), .val (.int (v_b pp yy)), .val (.int (v_sel mo)), .val (.int (v_q pp xx yy zz mo)), .val (.int (b2i (v_rb mo))), .val (.ref b8), .unset] [])) t := by
        intro k
        show Steps p.tables e below (T17.setTop (mkF m 146 #[.val (.int pp), .val (.int xx), .val (.int yy), .val (.int zz), .val (.int mo), .val (.int (v_cap pp)), .val (.int (v_a pp xx)), .val (.int (v_b pp yy)), .val (.int (v_sel mo)), .val (.int (v_q pp xx yy zz mo)), .val (.int (b2i (v_rb mo))), .val (.ref b8), .unset] [])) _
        refine XS.iconst X17.here hx rfl (hb hby at_146) ?_
        exact k false rfl
      show Steps p.tables e below (T17.setTop (mkF m 132 #[.val (.int pp), .val (.int xx), .val (.int yy), .val (.int zz), .val (.int mo), .val (.int (v_cap pp)), .val (.int (v_a pp xx)), .val (.int (v_b pp yy)), .val (.int (v_sel mo)), .val (.int (v_q pp xx yy zz mo)), .val (.int (b2i (v_rb mo))), .val (.ref b8), .unset] [(.int (v_a pp xx)), (.int (v_q pp xx yy zz mo))])) _
      by_cases hc22 : (v_q pp xx yy zz mo) = (v_a pp xx)
      · refine XS.icmpNo X17.here hx rfl (hb hby at_132) rfl (teq hc22).2 ?_
        have k : ∀ (v1 : Bool), v1 = (if (v_q pp xx yy zz mo) = (v_b pp yy) then false else true) → Steps p.tables e below (T17.setTop (mkF m 147 #[.val (.int pp), .val (.int xx), .val (.int yy), .val (.int zz), .val (.int mo), .val (.int (v_cap pp)), .val (.int (v_a pp xx)), .val (.int (v_b pp yy)), .val (.int (v_sel mo)), .val (.int (v_q pp xx yy zz mo)), .val (.int (b2i (v_rb mo))), .val (.ref b8), .unset] [(.int (b2i v1))])) t := fun v1 hv1 => k v1 (hv1.trans (if_pos hc22).symm)
        show Steps p.tables e below (T17.setTop (mkF m 135 #[.val (.int pp), .val (.int xx), .val (.int yy), .val (.int zz), .val (.int mo), .val (.int (v_cap pp)), .val (.int (v_a pp xx)), .val (.int (v_b pp yy)), .val (.int (v_sel mo)), .val (.int (v_q pp xx yy zz mo)), .val (.int (b2i (v_rb mo))), .val (.ref b8), .unset] [])) _
        refine XS.iload X17.here hx rfl (hb hby at_135) rfl ?_
        show Steps p.tables e below (T17.setTop (mkF m 137 #[.val (.int pp), .val (.int xx), .val (.int yy), .val (.int zz), .val (.int mo), .val (.int (v_cap pp)), .val (.int (v_a pp xx)), .val (.int (v_b pp yy)), .val (.int (v_sel mo)), .val (.int (v_q pp xx yy zz mo)), .val (.int (b2i (v_rb mo))), .val (.ref b8), .unset] [(.int (v_q pp xx yy zz mo))])) _
        refine XS.iload X17.here hx rfl (hb hby at_137) rfl ?_
        show Steps p.tables e below (T17.setTop (mkF m 139 #[.val (.int pp), .val (.int xx), .val (.int yy), .val (.int zz), .val (.int mo), .val (.int (v_cap pp)), .val (.int (v_a pp xx)), .val (.int (v_b pp yy)), .val (.int (v_sel mo)), .val (.int (v_q pp xx yy zz mo)), .val (.int (b2i (v_rb mo))), .val (.ref b8), .unset] [(.int (v_b pp yy)), (.int (v_q pp xx yy zz mo))])) _
        by_cases hc23 : (v_q pp xx yy zz mo) = (v_b pp yy)
        · refine XS.icmpYes X17.here hx rfl (pc0 := 139) (pc' := 146) rfl (hb hby at_139) rfl (teq hc23).1 (by decide) (by decide) ?_
          have k : ∀ (v1 : Bool), v1 = false → Steps p.tables e below (T17.setTop (mkF m 147 #[.val (.int pp), .val (.int xx), .val (.int yy), .val (.int zz), .val (.int mo), .val (.int (v_cap pp)), .val (.int (v_a pp xx)), .val (.int (v_b pp yy)), .val (.int (v_sel mo)), .val (.int (v_q pp xx yy zz mo)), .val (.int (b2i (v_rb mo))), .val (.ref b8), .unset] [(.int (b2i v1))])) t := fun v1 hv1 => k v1 (hv1.trans (if_pos hc23).symm)
          exact nd21 k
        · refine XS.icmpNo X17.here hx rfl (hb hby at_139) rfl (feq hc23).1 ?_
          have k : ∀ (v1 : Bool), v1 = true → Steps p.tables e below (T17.setTop (mkF m 147 #[.val (.int pp), .val (.int xx), .val (.int yy), .val (.int zz), .val (.int mo), .val (.int (v_cap pp)), .val (.int (v_a pp xx)), .val (.int (v_b pp yy)), .val (.int (v_sel mo)), .val (.int (v_q pp xx yy zz mo)), .val (.int (b2i (v_rb mo))), .val (.ref b8), .unset] [(.int (b2i v1))])) t := fun v1 hv1 => k v1 (hv1.trans (if_neg hc23).symm)
          show Steps p.tables e below (T17.setTop (mkF m 142 #[.val (.int pp), .val (.int xx), .val (.int yy), .val (.int zz), .val (.int mo), .val (.int (v_cap pp)), .val (.int (v_a pp xx)), .val (.int (v_b pp yy)), .val (.int (v_sel mo)), .val (.int (v_q pp xx yy zz mo)), .val (.int (b2i (v_rb mo))), .val (.ref b8), .unset] [])) _
          refine XS.iconst X17.here hx rfl (hb hby at_142) ?_
          show Steps p.tables e below (T17.setTop (mkF m 143 #[.val (.int pp), .val (.int xx), .val (.int yy), .val (.int zz), .val (.int mo), .val (.int (v_cap pp)), .val (.int (v_a pp xx)), .val (.int (v_b pp yy)), .val (.int (v_sel mo)), .val (.int (v_q pp xx yy zz mo)), .val (.int (b2i (v_rb mo))), .val (.ref b8), .unset] [(.int (1 : Int32))])) _
          refine XS.goto X17.here hx rfl (pc0 := 143) (pc' := 147) rfl (hb hby at_143) (by decide) (by decide) ?_
          exact k true rfl
      · refine XS.icmpYes X17.here hx rfl (pc0 := 132) (pc' := 146) rfl (hb hby at_132) rfl (feq hc22).2 (by decide) (by decide) ?_
        have k : ∀ (v1 : Bool), v1 = false → Steps p.tables e below (T17.setTop (mkF m 147 #[.val (.int pp), .val (.int xx), .val (.int yy), .val (.int zz), .val (.int mo), .val (.int (v_cap pp)), .val (.int (v_a pp xx)), .val (.int (v_b pp yy)), .val (.int (v_sel mo)), .val (.int (v_q pp xx yy zz mo)), .val (.int (b2i (v_rb mo))), .val (.ref b8), .unset] [(.int (b2i v1))])) t := fun v1 hv1 => k v1 (hv1.trans (if_neg hc22).symm)
        exact nd21 k
    obtain ⟨cq24, kq24, q24a, q24b, q24c⟩ := isOf hZ rfl k18_0
    obtain ⟨_, _, ⟨T24, L24, k24, n24⟩, -, X24, ⟨Lc24, hQ24, l24, y24, z24⟩, st24⟩ := X17.virtualBack hx (y := (⟨"com/example/cutline/cutline/IndexSet", "contains", "(I)Z"⟩ : MethodName)) (z := (⟨"com/example/cutline/cutline/IndexSet", "contains", "(I)Z"⟩ : MethodName)) hown (mvT hZ (hw _ (List.mem_of_getElem? (i := 24) rfl))) (mvT hZ (hw _ (List.mem_of_getElem? (i := 25) rfl))) (notFace_of_selects (args := #[]) (mvT hZ (hw _ (List.mem_of_getElem? (i := 27) rfl)))) (mvT hZ (hw _ (List.mem_of_getElem? (i := 27) rfl))) (mvT hZ (hw _ (List.mem_of_getElem? (i := 26) rfl))) (by decide) (backOf (W := 0) (rm4 l Z a0 hw [] b8 (v_q pp xx yy zz mo) aw9 au9 (v_cap pp) (v_s3 pp xx yy) (own_nw (v_cap pp)) (v_w3 pp xx yy) (own_nw (own_nw (v_cap pp))) (v_u3 pp xx yy) T17.heap n0 k18_sz ⟨k18_0, k18_1, k18_2, k18_3, k18_4, k18_5, k18_6, k18_g_ob, k18_g_aw, k18_g_au, k18_n_ob_aw, k18_n_ob_au, k18_n_aw_au, k18_sz⟩ (own_in _ _ (own_vq pp xx yy zz mo) (own_vcap pp)).1) hZ (hw _ (List.mem_of_getElem? (i := 28) rfl)) (hw _ (List.mem_of_getElem? (i := 3) rfl)) (by decide) (by decide)) q24a q24c (g := (mkF m 177 #[.val (.int pp), .val (.int xx), .val (.int yy), .val (.int zz), .val (.int mo), .val (.int (v_cap pp)), .val (.int (v_a pp xx)), .val (.int (v_b pp yy)), .val (.int (v_sel mo)), .val (.int (v_q pp xx yy zz mo)), .val (.int (b2i (v_rb mo))), .val (.ref b8), .val (.int (b2i (if (v_q pp xx yy zz mo) = (v_a pp xx) then (if (v_q pp xx yy zz mo) = (v_b pp yy) then false else true) else false)))] [(.int (v_q pp xx yy zz mo)), (.ref b8)])) rfl (by rw [hml]; rfl) (Steps.refl _) (argsL := [(.int (v_q pp xx yy zz mo))]) (rest := []) (lenOf pd_2 rfl) rfl (by show 2 * 0 + _ ≤ _; exact Nat.le_of_eq rfl) (hb hby at_177) (fun _ _ => ⟨rfl, rfl, (by decide : 3 + 0 ≤ _), (by decide : 264 + 0 ≤ _)⟩)
    dsimp only [Pt.U, Pt.locs, Pt.cells, Pt.slots] at X24 l24 y24 z24 st24 hQ24
    subst l24 y24 z24
    obtain ⟨rfl, N24q, e24⟩ := hQ24
    have N24 := Fr.app N17 N24q
    have pre25 : ∀ t, Steps p.tables e below (T24.setTop (mkF m 182 #[.val (.int pp), .val (.int xx), .val (.int yy), .val (.int zz), .val (.int mo), .val (.int (v_cap pp)), .val (.int (v_a pp xx)), .val (.int (v_b pp yy)), .val (.int (v_sel mo)), .val (.int (v_q pp xx yy zz mo)), .val (.int (b2i (v_rb mo))), .val (.ref b8), .val (.int (b2i (if (v_q pp xx yy zz mo) = (v_a pp xx) then (if (v_q pp xx yy zz mo) = (v_b pp yy) then false else true) else false)))] [(.int (b2i (if (v_q pp xx yy zz mo) = (v_a pp xx) then (if (v_q pp xx yy zz mo) = (v_b pp yy) then false else true) else false))), (.int (b2i (Fcon (v_q pp xx yy zz mo) (v_w3 pp xx yy))))])) t → Steps p.tables e below (s₁.setTop (entryFrame m #[(.int pp), (.int xx), (.int yy), (.int zz), (.int mo)] maxLocals)) t := by
      intro t k
      refine pre20 t ?_
      show Steps p.tables e below (T17.setTop (mkF m 147 #[.val (.int pp), .val (.int xx), .val (.int yy), .val (.int zz), .val (.int mo), .val (.int (v_cap pp)), .val (.int (v_a pp xx)), .val (.int (v_b pp yy)), .val (.int (v_sel mo)), .val (.int (v_q pp xx yy zz mo)), .val (.int (b2i (v_rb mo))), .val (.ref b8), .unset] [(.int (b2i (if (v_q pp xx yy zz mo) = (v_a pp xx) then (if (v_q pp xx yy zz mo) = (v_b pp yy) then false else true) else false)))])) _
      refine XS.istore X17.here hx rfl (hb hby at_147) rfl (l' := #[.val (.int pp), .val (.int xx), .val (.int yy), .val (.int zz), .val (.int mo), .val (.int (v_cap pp)), .val (.int (v_a pp xx)), .val (.int (v_b pp yy)), .val (.int (v_sel mo)), .val (.int (v_q pp xx yy zz mo)), .val (.int (b2i (v_rb mo))), .val (.ref b8), .val (.int (b2i (if (v_q pp xx yy zz mo) = (v_a pp xx) then (if (v_q pp xx yy zz mo) = (v_b pp yy) then false else true) else false)))]) rfl ?_
      show Steps p.tables e below (T17.setTop (mkF m 149 #[.val (.int pp), .val (.int xx), .val (.int yy), .val (.int zz), .val (.int mo), .val (.int (v_cap pp)), .val (.int (v_a pp xx)), .val (.int (v_b pp yy)), .val (.int (v_sel mo)), .val (.int (v_q pp xx yy zz mo)), .val (.int (b2i (v_rb mo))), .val (.ref b8), .val (.int (b2i (if (v_q pp xx yy zz mo) = (v_a pp xx) then (if (v_q pp xx yy zz mo) = (v_b pp yy) then false else true) else false)))] [])) _
      refine XS.goto X17.here hx rfl (pc0 := 149) (pc' := 173) rfl (hb hby at_149) (by decide) (by decide) ?_
      show Steps p.tables e below (T17.setTop (mkF m 173 #[.val (.int pp), .val (.int xx), .val (.int yy), .val (.int zz), .val (.int mo), .val (.int (v_cap pp)), .val (.int (v_a pp xx)), .val (.int (v_b pp yy)), .val (.int (v_sel mo)), .val (.int (v_q pp xx yy zz mo)), .val (.int (b2i (v_rb mo))), .val (.ref b8), .val (.int (b2i (if (v_q pp xx yy zz mo) = (v_a pp xx) then (if (v_q pp xx yy zz mo) = (v_b pp yy) then false else true) else false)))] [])) _
      refine XS.aload X17.here hx rfl (hb hby at_173) rfl rfl ?_
      show Steps p.tables e below (T17.setTop (mkF m 175 #[.val (.int pp), .val (.int xx), .val (.int yy), .val (.int zz), .val (.int mo), .val (.int (v_cap pp)), .val (.int (v_a pp xx)), .val (.int (v_b pp yy)), .val (.int (v_sel mo)), .val (.int (v_q pp xx yy zz mo)), .val (.int (b2i (v_rb mo))), .val (.ref b8), .val (.int (b2i (if (v_q pp xx yy zz mo) = (v_a pp xx) then (if (v_q pp xx yy zz mo) = (v_b pp yy) then false else true) else false)))] [(.ref b8)])) _
      refine XS.iload X17.here hx rfl (hb hby at_175) rfl ?_
      show Steps p.tables e below (T17.setTop (mkF m 177 #[.val (.int pp), .val (.int xx), .val (.int yy), .val (.int zz), .val (.int mo), .val (.int (v_cap pp)), .val (.int (v_a pp xx)), .val (.int (v_b pp yy)), .val (.int (v_sel mo)), .val (.int (v_q pp xx yy zz mo)), .val (.int (b2i (v_rb mo))), .val (.ref b8), .val (.int (b2i (if (v_q pp xx yy zz mo) = (v_a pp xx) then (if (v_q pp xx yy zz mo) = (v_b pp yy) then false else true) else false)))] [(.int (v_q pp xx yy zz mo)), (.ref b8)])) _
      refine st24.trans ?_
      show Steps p.tables e below (T24.setTop (mkF m 180 #[.val (.int pp), .val (.int xx), .val (.int yy), .val (.int zz), .val (.int mo), .val (.int (v_cap pp)), .val (.int (v_a pp xx)), .val (.int (v_b pp yy)), .val (.int (v_sel mo)), .val (.int (v_q pp xx yy zz mo)), .val (.int (b2i (v_rb mo))), .val (.ref b8), .val (.int (b2i (if (v_q pp xx yy zz mo) = (v_a pp xx) then (if (v_q pp xx yy zz mo) = (v_b pp yy) then false else true) else false)))] [(.int (b2i (Fcon (v_q pp xx yy zz mo) (v_w3 pp xx yy))))])) _
      refine XS.iload X24.here hx rfl (hb hby at_180) rfl ?_
      exact k
    have pre26 : ∀ t, Steps p.tables e below (T24.setTop (mkF m 190 #[.val (.int pp), .val (.int xx), .val (.int yy), .val (.int zz), .val (.int mo), .val (.int (v_cap pp)), .val (.int (v_a pp xx)), .val (.int (v_b pp yy)), .val (.int (v_sel mo)), .val (.int (v_q pp xx yy zz mo)), .val (.int (b2i (v_rb mo))), .val (.ref b8), .val (.int (b2i (if (v_q pp xx yy zz mo) = (v_a pp xx) then (if (v_q pp xx yy zz mo) = (v_b pp yy) then false else true) else false)))] [(.int (b2i (if (b2i (Fcon (v_q pp xx yy zz mo) (v_w3 pp xx yy))) = (b2i (if (v_q pp xx yy zz mo) = (v_a pp xx) then (if (v_q pp xx yy zz mo) = (v_b pp yy) then false else true) else false)) then true else false)))])) t → Steps p.tables e below (s₁.setTop (entryFrame m #[(.int pp), (.int xx), (.int yy), (.int zz), (.int mo)] maxLocals)) t := by
      intro t k
      refine pre25 t ?_
      have k : ∀ (v1 : Bool), v1 = (if (b2i (Fcon (v_q pp xx yy zz mo) (v_w3 pp xx yy))) = (b2i (if (v_q pp xx yy zz mo) = (v_a pp xx) then (if (v_q pp xx yy zz mo) = (v_b pp yy) then false else true) else false)) then true else false) → Steps p.tables e below (T24.setTop (mkF m 190 #[.val (.int pp), .val (.int xx), .val (.int yy), .val (.int zz), .val (.int mo), .val (.int (v_cap pp)), .val (.int (v_a pp xx)), .val (.int (v_b pp yy)), .val (.int (v_sel mo)), .val (.int (v_q pp xx yy zz mo)), .val (.int (b2i (v_rb mo))), .val (.ref b8), .val (.int (b2i (if (v_q pp xx yy zz mo) = (v_a pp xx) then (if (v_q pp xx yy zz mo) = (v_b pp yy) then false else true) else false)))] [(.int (b2i v1))])) t := fun v1 hv1 => by subst hv1; exact k
      show Steps p.tables e below (T24.setTop (mkF m 182 #[.val (.int pp), .val (.int xx), .val (.int yy), .val (.int zz), .val (.int mo), .val (.int (v_cap pp)), .val (.int (v_a pp xx)), .val (.int (v_b pp yy)), .val (.int (v_sel mo)), .val (.int (v_q pp xx yy zz mo)), .val (.int (b2i (v_rb mo))), .val (.ref b8), .val (.int (b2i (if (v_q pp xx yy zz mo) = (v_a pp xx) then (if (v_q pp xx yy zz mo) = (v_b pp yy) then false else true) else false)))] [(.int (b2i (if (v_q pp xx yy zz mo) = (v_a pp xx) then (if (v_q pp xx yy zz mo) = (v_b pp yy) then false else true) else false))), (.int (b2i (Fcon (v_q pp xx yy zz mo) (v_w3 pp xx yy))))])) _
      by_cases hc27 : (b2i (Fcon (v_q pp xx yy zz mo) (v_w3 pp xx yy))) = (b2i (if (v_q pp xx yy zz mo) = (v_a pp xx) then (if (v_q pp xx yy zz mo) = (v_b pp yy) then false else true) else false))
      · refine XS.icmpNo X24.here hx rfl (hb hby at_182) rfl (teq hc27).2 ?_
        have k : ∀ (v1 : Bool), v1 = true → Steps p.tables e below (T24.setTop (mkF m 190 #[.val (.int pp), .val (.int xx), .val (.int yy), .val (.int zz), .val (.int mo), .val (.int (v_cap pp)), .val (.int (v_a pp xx)), .val (.int (v_b pp yy)), .val (.int (v_sel mo)), .val (.int (v_q pp xx yy zz mo)), .val (.int (b2i (v_rb mo))), .val (.ref b8), .val (.int (b2i (if (v_q pp xx yy zz mo) = (v_a pp xx) then (if (v_q pp xx yy zz mo) = (v_b pp yy) then false else true) else false)))] [(.int (b2i v1))])) t := fun v1 hv1 => k v1 (hv1.trans (if_pos hc27).symm)
        show Steps p.tables e below (T24.setTop (mkF m 185 #[.val (.int pp), .val (.int xx), .val (.int yy), .val (.int zz), .val (.int mo), .val (.int (v_cap pp)), .val (.int (v_a pp xx)), .val (.int (v_b pp yy)), .val (.int (v_sel mo)), .val (.int (v_q pp xx yy zz mo)), .val (.int (b2i (v_rb mo))), .val (.ref b8), .val (.int (b2i (if (v_q pp xx yy zz mo) = (v_a pp xx) then (if (v_q pp xx yy zz mo) = (v_b pp yy) then false else true) else false)))] [])) _
        refine XS.iconst X24.here hx rfl (hb hby at_185) ?_
        show Steps p.tables e below (T24.setTop (mkF m 186 #[.val (.int pp), .val (.int xx), .val (.int yy), .val (.int zz), .val (.int mo), .val (.int (v_cap pp)), .val (.int (v_a pp xx)), .val (.int (v_b pp yy)), .val (.int (v_sel mo)), .val (.int (v_q pp xx yy zz mo)), .val (.int (b2i (v_rb mo))), .val (.ref b8), .val (.int (b2i (if (v_q pp xx yy zz mo) = (v_a pp xx) then (if (v_q pp xx yy zz mo) = (v_b pp yy) then false else true) else false)))] [(.int (1 : Int32))])) _
        refine XS.goto X24.here hx rfl (pc0 := 186) (pc' := 190) rfl (hb hby at_186) (by decide) (by decide) ?_
        exact k true rfl
      · refine XS.icmpYes X24.here hx rfl (pc0 := 182) (pc' := 189) rfl (hb hby at_182) rfl (feq hc27).2 (by decide) (by decide) ?_
        have k : ∀ (v1 : Bool), v1 = false → Steps p.tables e below (T24.setTop (mkF m 190 #[.val (.int pp), .val (.int xx), .val (.int yy), .val (.int zz), .val (.int mo), .val (.int (v_cap pp)), .val (.int (v_a pp xx)), .val (.int (v_b pp yy)), .val (.int (v_sel mo)), .val (.int (v_q pp xx yy zz mo)), .val (.int (b2i (v_rb mo))), .val (.ref b8), .val (.int (b2i (if (v_q pp xx yy zz mo) = (v_a pp xx) then (if (v_q pp xx yy zz mo) = (v_b pp yy) then false else true) else false)))] [(.int (b2i v1))])) t := fun v1 hv1 => k v1 (hv1.trans (if_neg hc27).symm)
        show Steps p.tables e below (T24.setTop (mkF m 189 #[.val (.int pp), .val (.int xx), .val (.int yy), .val (.int zz), .val (.int mo), .val (.int (v_cap pp)), .val (.int (v_a pp xx)), .val (.int (v_b pp yy)), .val (.int (v_sel mo)), .val (.int (v_q pp xx yy zz mo)), .val (.int (b2i (v_rb mo))), .val (.ref b8), .val (.int (b2i (if (v_q pp xx yy zz mo) = (v_a pp xx) then (if (v_q pp xx yy zz mo) = (v_b pp yy) then false else true) else false)))] [])) _
        refine XS.iconst X24.here hx rfl (hb hby at_189) ?_
        exact k false rfl
    have hlaw : (if (b2i (Fcon (v_q pp xx yy zz mo) (v_w3 pp xx yy))) = (b2i (if (v_q pp xx yy zz mo) = (v_a pp xx) then (if (v_q pp xx yy zz mo) = (v_b pp yy) then false else true) else false)) then true else false) = true := own_law1 pp xx yy zz mo hc16
    obtain ⟨fs, hr, hrun, hended, hW, hsame⟩ := X24.leave (v := some (.int (1 : Int32))) (fun h => by rw [Bd.returns] at h; cases h)
    refine ⟨_, _, pre26 _ ?_, hrun, hended, _, _, rfl, ?_, ⟨_, rfl⟩, hW, hsame.mono (by decide) (by decide)⟩
    · show Steps p.tables e below (T24.setTop (mkF m 190 #[.val (.int pp), .val (.int xx), .val (.int yy), .val (.int zz), .val (.int mo), .val (.int (v_cap pp)), .val (.int (v_a pp xx)), .val (.int (v_b pp yy)), .val (.int (v_sel mo)), .val (.int (v_q pp xx yy zz mo)), .val (.int (b2i (v_rb mo))), .val (.ref b8), .val (.int (b2i (if (v_q pp xx yy zz mo) = (v_a pp xx) then (if (v_q pp xx yy zz mo) = (v_b pp yy) then false else true) else false)))] [(.int (b2i (if (b2i (Fcon (v_q pp xx yy zz mo) (v_w3 pp xx yy))) = (b2i (if (v_q pp xx yy zz mo) = (v_a pp xx) then (if (v_q pp xx yy zz mo) = (v_b pp yy) then false else true) else false)) then true else false)))])) _
      exact retN X24 hx (t := .boolean) Bd.returns (by simp) (hb hby at_190) (by rw [b2i_one hlaw]; exact hr)
    · show Q0 Z pp xx yy zz mo h0 n0 _ T24.heap _
      rw [e24]
      exact ⟨rfl, N24⟩
  ·
    have pre28 : ∀ t, Steps p.tables e below (T13.setTop (mkF m 156 #[.val (.int pp), .val (.int xx), .val (.int yy), .val (.int zz), .val (.int mo), .val (.int (v_cap pp)), .val (.int (v_a pp xx)), .val (.int (v_b pp yy)), .val (.int (v_sel mo)), .val (.int (v_q pp xx yy zz mo)), .val (.int (b2i (v_rb mo))), .val (.ref b8), .unset] [(.int (v_a pp xx)), (.int (v_q pp xx yy zz mo))])) t → Steps p.tables e below (s₁.setTop (entryFrame m #[(.int pp), (.int xx), (.int yy), (.int zz), (.int mo)] maxLocals)) t := by
      intro t k
      refine pre15 t ?_
      show Steps p.tables e below (T13.setTop (mkF m 112 #[.val (.int pp), .val (.int xx), .val (.int yy), .val (.int zz), .val (.int mo), .val (.int (v_cap pp)), .val (.int (v_a pp xx)), .val (.int (v_b pp yy)), .val (.int (v_sel mo)), .val (.int (v_q pp xx yy zz mo)), .val (.int (b2i (v_rb mo))), .val (.ref b8), .unset] [(.int (b2i (v_rb mo)))])) _
      refine XS.ifYes X13.here hx rfl (pc0 := 112) (pc' := 123) rfl (hb hby at_112) rfl ((if0 _ _).trans (teq (b2i_eq hc16)).1) (by decide) (by decide) ?_
      show Steps p.tables e below (T13.setTop (mkF m 123 #[.val (.int pp), .val (.int xx), .val (.int yy), .val (.int zz), .val (.int mo), .val (.int (v_cap pp)), .val (.int (v_a pp xx)), .val (.int (v_b pp yy)), .val (.int (v_sel mo)), .val (.int (v_q pp xx yy zz mo)), .val (.int (b2i (v_rb mo))), .val (.ref b8), .unset] [])) _
      refine XS.iload X13.here hx rfl (hb hby at_123) rfl ?_
      show Steps p.tables e below (T13.setTop (mkF m 125 #[.val (.int pp), .val (.int xx), .val (.int yy), .val (.int zz), .val (.int mo), .val (.int (v_cap pp)), .val (.int (v_a pp xx)), .val (.int (v_b pp yy)), .val (.int (v_sel mo)), .val (.int (v_q pp xx yy zz mo)), .val (.int (b2i (v_rb mo))), .val (.ref b8), .unset] [(.int (b2i (v_rb mo)))])) _
      refine XS.ifYes X13.here hx rfl (pc0 := 125) (pc' := 152) rfl (hb hby at_125) rfl ((if0 _ _).trans (teq (b2i_eq hc16)).1) (by decide) (by decide) ?_
      show Steps p.tables e below (T13.setTop (mkF m 152 #[.val (.int pp), .val (.int xx), .val (.int yy), .val (.int zz), .val (.int mo), .val (.int (v_cap pp)), .val (.int (v_a pp xx)), .val (.int (v_b pp yy)), .val (.int (v_sel mo)), .val (.int (v_q pp xx yy zz mo)), .val (.int (b2i (v_rb mo))), .val (.ref b8), .unset] [])) _
      refine XS.iload X13.here hx rfl (hb hby at_152) rfl ?_
      show Steps p.tables e below (T13.setTop (mkF m 154 #[.val (.int pp), .val (.int xx), .val (.int yy), .val (.int zz), .val (.int mo), .val (.int (v_cap pp)), .val (.int (v_a pp xx)), .val (.int (v_b pp yy)), .val (.int (v_sel mo)), .val (.int (v_q pp xx yy zz mo)), .val (.int (b2i (v_rb mo))), .val (.ref b8), .unset] [(.int (v_q pp xx yy zz mo))])) _
      refine XS.iload X13.here hx rfl (hb hby at_154) rfl ?_
      exact k
    have pre29 : ∀ t, Steps p.tables e below (T13.setTop (mkF m 171 #[.val (.int pp), .val (.int xx), .val (.int yy), .val (.int zz), .val (.int mo), .val (.int (v_cap pp)), .val (.int (v_a pp xx)), .val (.int (v_b pp yy)), .val (.int (v_sel mo)), .val (.int (v_q pp xx yy zz mo)), .val (.int (b2i (v_rb mo))), .val (.ref b8), .unset] [(.int (b2i (if (v_q pp xx yy zz mo) = (v_a pp xx) then true else (if (v_q pp xx yy zz mo) = (v_b pp yy) then true else false))))])) t → Steps p.tables e below (s₁.setTop (entryFrame m #[(.int pp), (.int xx), (.int yy), (.int zz), (.int mo)] maxLocals)) t := by
      intro t k
      refine pre28 t ?_
      have k : ∀ (v1 : Bool), v1 = (if (v_q pp xx yy zz mo) = (v_a pp xx) then true else (if (v_q pp xx yy zz mo) = (v_b pp yy) then true else false)) → Steps p.tables e below (T13.setTop (mkF m 171 #[.val (.int pp), .val (.int xx), .val (.int yy), .val (.int zz), .val (.int mo), .val (.int (v_cap pp)), .val (.int (v_a pp xx)), .val (.int (v_b pp yy)), .val (.int (v_sel mo)), .val (.int (v_q pp xx yy zz mo)), .val (.int (b2i (v_rb mo))), .val (.ref b8), .unset] [(.int (b2i v1))])) t := fun v1 hv1 => by subst hv1; exact k
      have nd30 : (∀ (v1 : Bool), v1 = true → Steps p.tables e below (T13.setTop (mkF m 171 #[.val (.int pp), .val (.int xx), .val (.int yy), .val (.int zz), .val (.int mo), .val (.int (v_cap pp)), .val (.int (v_a pp xx)), .val (.int (v_b pp yy)), .val (.int (v_sel mo)), .val (.int (v_q pp xx yy zz mo)), .val (.int (b2i (v_rb mo))), .val (.ref b8), .unset] [(.int (b2i v1))])) t) → Steps p.tables e below (T13.setTop (mkF m 166 #[.val (.int pp), .val (.int xx), .val (.int yy), .val (.int zz), .val (.int mo), .val (.int (v_cap pp)), .val (.int (v_a pp xx)), .val (.int (v_b pp yy)), .val (.int (v_sel mo)), .val (.int (v_q pp xx yy zz mo)), .val (.int (b2i (v_rb mo))), .val (.ref b8), .unset] [])) t := by
        intro k
        show Steps p.tables e below (T13.setTop (mkF m 166 #[.val (.int pp), .val (.int xx), .val (.int yy), .val (.int zz), .val (.int mo), .val (.int (v_cap pp)), .val (.int (v_a pp xx)), .val (.int (v_b pp yy)), .val (.int (v_sel mo)), .val (.int (v_q pp xx yy zz mo)), .val (.int (b2i (v_rb mo))), .val (.ref b8), .unset] [])) _
        refine XS.iconst X13.here hx rfl (hb hby at_166) ?_
        show Steps p.tables e below (T13.setTop (mkF m 167 #[.val (.int pp), .val (.int xx), .val (.int yy), .val (.int zz), .val (.int mo), .val (.int (v_cap pp)), .val (.int (v_a pp xx)), .val (.int (v_b pp yy)), .val (.int (v_sel mo)), .val (.int (v_q pp xx yy zz mo)), .val (.int (b2i (v_rb mo))), .val (.ref b8), .unset] [(.int (1 : Int32))])) _
        refine XS.goto X13.here hx rfl (pc0 := 167) (pc' := 171) rfl (hb hby at_167) (by decide) (by decide) ?_
        exact k true rfl
      show Steps p.tables e below (T13.setTop (mkF m 156 #[.val (.int pp), .val (.int xx), .val (.int yy), .val (.int zz), .val (.int mo), .val (.int (v_cap pp)), .val (.int (v_a pp xx)), .val (.int (v_b pp yy)), .val (.int (v_sel mo)), .val (.int (v_q pp xx yy zz mo)), .val (.int (b2i (v_rb mo))), .val (.ref b8), .unset] [(.int (v_a pp xx)), (.int (v_q pp xx yy zz mo))])) _
      by_cases hc31 : (v_q pp xx yy zz mo) = (v_a pp xx)
      · refine XS.icmpYes X13.here hx rfl (pc0 := 156) (pc' := 166) rfl (hb hby at_156) rfl (teq hc31).1 (by decide) (by decide) ?_
        have k : ∀ (v1 : Bool), v1 = true → Steps p.tables e below (T13.setTop (mkF m 171 #[.val (.int pp), .val (.int xx), .val (.int yy), .val (.int zz), .val (.int mo), .val (.int (v_cap pp)), .val (.int (v_a pp xx)), .val (.int (v_b pp yy)), .val (.int (v_sel mo)), .val (.int (v_q pp xx yy zz mo)), .val (.int (b2i (v_rb mo))), .val (.ref b8), .unset] [(.int (b2i v1))])) t := fun v1 hv1 => k v1 (hv1.trans (if_pos hc31).symm)
        exact nd30 k
      · refine XS.icmpNo X13.here hx rfl (hb hby at_156) rfl (feq hc31).1 ?_
        have k : ∀ (v1 : Bool), v1 = (if (v_q pp xx yy zz mo) = (v_b pp yy) then true else false) → Steps p.tables e below (T13.setTop (mkF m 171 #[.val (.int pp), .val (.int xx), .val (.int yy), .val (.int zz), .val (.int mo), .val (.int (v_cap pp)), .val (.int (v_a pp xx)), .val (.int (v_b pp yy)), .val (.int (v_sel mo)), .val (.int (v_q pp xx yy zz mo)), .val (.int (b2i (v_rb mo))), .val (.ref b8), .unset] [(.int (b2i v1))])) t := fun v1 hv1 => k v1 (hv1.trans (if_neg hc31).symm)
        show Steps p.tables e below (T13.setTop (mkF m 159 #[.val (.int pp), .val (.int xx), .val (.int yy), .val (.int zz), .val (.int mo), .val (.int (v_cap pp)), .val (.int (v_a pp xx)), .val (.int (v_b pp yy)), .val (.int (v_sel mo)), .val (.int (v_q pp xx yy zz mo)), .val (.int (b2i (v_rb mo))), .val (.ref b8), .unset] [])) _
        refine XS.iload X13.here hx rfl (hb hby at_159) rfl ?_
        show Steps p.tables e below (T13.setTop (mkF m 161 #[.val (.int pp), .val (.int xx), .val (.int yy), .val (.int zz), .val (.int mo), .val (.int (v_cap pp)), .val (.int (v_a pp xx)), .val (.int (v_b pp yy)), .val (.int (v_sel mo)), .val (.int (v_q pp xx yy zz mo)), .val (.int (b2i (v_rb mo))), .val (.ref b8), .unset] [(.int (v_q pp xx yy zz mo))])) _
        refine XS.iload X13.here hx rfl (hb hby at_161) rfl ?_
        show Steps p.tables e below (T13.setTop (mkF m 163 #[.val (.int pp), .val (.int xx), .val (.int yy), .val (.int zz), .val (.int mo), .val (.int (v_cap pp)), .val (.int (v_a pp xx)), .val (.int (v_b pp yy)), .val (.int (v_sel mo)), .val (.int (v_q pp xx yy zz mo)), .val (.int (b2i (v_rb mo))), .val (.ref b8), .unset] [(.int (v_b pp yy)), (.int (v_q pp xx yy zz mo))])) _
        by_cases hc32 : (v_q pp xx yy zz mo) = (v_b pp yy)
        · refine XS.icmpNo X13.here hx rfl (hb hby at_163) rfl (teq hc32).2 ?_
          have k : ∀ (v1 : Bool), v1 = true → Steps p.tables e below (T13.setTop (mkF m 171 #[.val (.int pp), .val (.int xx), .val (.int yy), .val (.int zz), .val (.int mo), .val (.int (v_cap pp)), .val (.int (v_a pp xx)), .val (.int (v_b pp yy)), .val (.int (v_sel mo)), .val (.int (v_q pp xx yy zz mo)), .val (.int (b2i (v_rb mo))), .val (.ref b8), .unset] [(.int (b2i v1))])) t := fun v1 hv1 => k v1 (hv1.trans (if_pos hc32).symm)
          exact nd30 k
        · refine XS.icmpYes X13.here hx rfl (pc0 := 163) (pc' := 170) rfl (hb hby at_163) rfl (feq hc32).2 (by decide) (by decide) ?_
          have k : ∀ (v1 : Bool), v1 = false → Steps p.tables e below (T13.setTop (mkF m 171 #[.val (.int pp), .val (.int xx), .val (.int yy), .val (.int zz), .val (.int mo), .val (.int (v_cap pp)), .val (.int (v_a pp xx)), .val (.int (v_b pp yy)), .val (.int (v_sel mo)), .val (.int (v_q pp xx yy zz mo)), .val (.int (b2i (v_rb mo))), .val (.ref b8), .unset] [(.int (b2i v1))])) t := fun v1 hv1 => k v1 (hv1.trans (if_neg hc32).symm)
          show Steps p.tables e below (T13.setTop (mkF m 170 #[.val (.int pp), .val (.int xx), .val (.int yy), .val (.int zz), .val (.int mo), .val (.int (v_cap pp)), .val (.int (v_a pp xx)), .val (.int (v_b pp yy)), .val (.int (v_sel mo)), .val (.int (v_q pp xx yy zz mo)), .val (.int (b2i (v_rb mo))), .val (.ref b8), .unset] [])) _
          refine XS.iconst X13.here hx rfl (hb hby at_170) ?_
          exact k false rfl
    obtain ⟨cq33, kq33, q33a, q33b, q33c⟩ := isOf hZ rfl k14_0
    obtain ⟨_, _, ⟨T33, L33, k33, n33⟩, -, X33, ⟨Lc33, hQ33, l33, y33, z33⟩, st33⟩ := X13.virtualBack hx (y := (⟨"com/example/cutline/cutline/IndexSet", "contains", "(I)Z"⟩ : MethodName)) (z := (⟨"com/example/cutline/cutline/IndexSet", "contains", "(I)Z"⟩ : MethodName)) hown (mvT hZ (hw _ (List.mem_of_getElem? (i := 24) rfl))) (mvT hZ (hw _ (List.mem_of_getElem? (i := 25) rfl))) (notFace_of_selects (args := #[]) (mvT hZ (hw _ (List.mem_of_getElem? (i := 27) rfl)))) (mvT hZ (hw _ (List.mem_of_getElem? (i := 27) rfl))) (mvT hZ (hw _ (List.mem_of_getElem? (i := 26) rfl))) (by decide) (backOf (W := 0) (rm4 l Z a0 hw [] b8 (v_q pp xx yy zz mo) aw9 au9 (v_cap pp) (v_s2 pp xx yy) (own_nw (v_cap pp)) (v_w2 pp xx yy) (own_nw (own_nw (v_cap pp))) (v_u2 pp xx yy) T13.heap n0 k14_sz ⟨k14_0, k14_1, k14_2, k14_3, k14_4, k14_5, k14_6, k14_g_ob, k14_g_aw, k14_g_au, k14_n_ob_aw, k14_n_ob_au, k14_n_aw_au, k14_sz⟩ (own_in _ _ (own_vq pp xx yy zz mo) (own_vcap pp)).1) hZ (hw _ (List.mem_of_getElem? (i := 28) rfl)) (hw _ (List.mem_of_getElem? (i := 3) rfl)) (by decide) (by decide)) q33a q33c (g := (mkF m 177 #[.val (.int pp), .val (.int xx), .val (.int yy), .val (.int zz), .val (.int mo), .val (.int (v_cap pp)), .val (.int (v_a pp xx)), .val (.int (v_b pp yy)), .val (.int (v_sel mo)), .val (.int (v_q pp xx yy zz mo)), .val (.int (b2i (v_rb mo))), .val (.ref b8), .val (.int (b2i (if (v_q pp xx yy zz mo) = (v_a pp xx) then true else (if (v_q pp xx yy zz mo) = (v_b pp yy) then true else false))))] [(.int (v_q pp xx yy zz mo)), (.ref b8)])) rfl (by rw [hml]; rfl) (Steps.refl _) (argsL := [(.int (v_q pp xx yy zz mo))]) (rest := []) (lenOf pd_2 rfl) rfl (by show 2 * 0 + _ ≤ _; exact Nat.le_of_eq rfl) (hb hby at_177) (fun _ _ => ⟨rfl, rfl, (by decide : 3 + 0 ≤ _), (by decide : 264 + 0 ≤ _)⟩)
    dsimp only [Pt.U, Pt.locs, Pt.cells, Pt.slots] at X33 l33 y33 z33 st33 hQ33
    subst l33 y33 z33
    obtain ⟨rfl, N33q, e33⟩ := hQ33
    have N33 := Fr.app N13 N33q
    have pre34 : ∀ t, Steps p.tables e below (T33.setTop (mkF m 182 #[.val (.int pp), .val (.int xx), .val (.int yy), .val (.int zz), .val (.int mo), .val (.int (v_cap pp)), .val (.int (v_a pp xx)), .val (.int (v_b pp yy)), .val (.int (v_sel mo)), .val (.int (v_q pp xx yy zz mo)), .val (.int (b2i (v_rb mo))), .val (.ref b8), .val (.int (b2i (if (v_q pp xx yy zz mo) = (v_a pp xx) then true else (if (v_q pp xx yy zz mo) = (v_b pp yy) then true else false))))] [(.int (b2i (if (v_q pp xx yy zz mo) = (v_a pp xx) then true else (if (v_q pp xx yy zz mo) = (v_b pp yy) then true else false)))), (.int (b2i (Fcon (v_q pp xx yy zz mo) (v_w2 pp xx yy))))])) t → Steps p.tables e below (s₁.setTop (entryFrame m #[(.int pp), (.int xx), (.int yy), (.int zz), (.int mo)] maxLocals)) t := by
      intro t k
      refine pre29 t ?_
      show Steps p.tables e below (T13.setTop (mkF m 171 #[.val (.int pp), .val (.int xx), .val (.int yy), .val (.int zz), .val (.int mo), .val (.int (v_cap pp)), .val (.int (v_a pp xx)), .val (.int (v_b pp yy)), .val (.int (v_sel mo)), .val (.int (v_q pp xx yy zz mo)), .val (.int (b2i (v_rb mo))), .val (.ref b8), .unset] [(.int (b2i (if (v_q pp xx yy zz mo) = (v_a pp xx) then true else (if (v_q pp xx yy zz mo) = (v_b pp yy) then true else false))))])) _
      refine XS.istore X13.here hx rfl (hb hby at_171) rfl (l' := #[.val (.int pp), .val (.int xx), .val (.int yy), .val (.int zz), .val (.int mo), .val (.int (v_cap pp)), .val (.int (v_a pp xx)), .val (.int (v_b pp yy)), .val (.int (v_sel mo)), .val (.int (v_q pp xx yy zz mo)), .val (.int (b2i (v_rb mo))), .val (.ref b8), .val (.int (b2i (if (v_q pp xx yy zz mo) = (v_a pp xx) then true else (if (v_q pp xx yy zz mo) = (v_b pp yy) then true else false))))]) rfl ?_
      show Steps p.tables e below (T13.setTop (mkF m 173 #[.val (.int pp), .val (.int xx), .val (.int yy), .val (.int zz), .val (.int mo), .val (.int (v_cap pp)), .val (.int (v_a pp xx)), .val (.int (v_b pp yy)), .val (.int (v_sel mo)), .val (.int (v_q pp xx yy zz mo)), .val (.int (b2i (v_rb mo))), .val (.ref b8), .val (.int (b2i (if (v_q pp xx yy zz mo) = (v_a pp xx) then true else (if (v_q pp xx yy zz mo) = (v_b pp yy) then true else false))))] [])) _
      refine XS.aload X13.here hx rfl (hb hby at_173) rfl rfl ?_
      show Steps p.tables e below (T13.setTop (mkF m 175 #[.val (.int pp), .val (.int xx), .val (.int yy), .val (.int zz), .val (.int mo), .val (.int (v_cap pp)), .val (.int (v_a pp xx)), .val (.int (v_b pp yy)), .val (.int (v_sel mo)), .val (.int (v_q pp xx yy zz mo)), .val (.int (b2i (v_rb mo))), .val (.ref b8), .val (.int (b2i (if (v_q pp xx yy zz mo) = (v_a pp xx) then true else (if (v_q pp xx yy zz mo) = (v_b pp yy) then true else false))))] [(.ref b8)])) _
      refine XS.iload X13.here hx rfl (hb hby at_175) rfl ?_
      show Steps p.tables e below (T13.setTop (mkF m 177 #[.val (.int pp), .val (.int xx), .val (.int yy), .val (.int zz), .val (.int mo), .val (.int (v_cap pp)), .val (.int (v_a pp xx)), .val (.int (v_b pp yy)), .val (.int (v_sel mo)), .val (.int (v_q pp xx yy zz mo)), .val (.int (b2i (v_rb mo))), .val (.ref b8), .val (.int (b2i (if (v_q pp xx yy zz mo) = (v_a pp xx) then true else (if (v_q pp xx yy zz mo) = (v_b pp yy) then true else false))))] [(.int (v_q pp xx yy zz mo)), (.ref b8)])) _
      refine st33.trans ?_
      show Steps p.tables e below (T33.setTop (mkF m 180 #[.val (.int pp), .val (.int xx), .val (.int yy), .val (.int zz), .val (.int mo), .val (.int (v_cap pp)), .val (.int (v_a pp xx)), .val (.int (v_b pp yy)), .val (.int (v_sel mo)), .val (.int (v_q pp xx yy zz mo)), .val (.int (b2i (v_rb mo))), .val (.ref b8), .val (.int (b2i (if (v_q pp xx yy zz mo) = (v_a pp xx) then true else (if (v_q pp xx yy zz mo) = (v_b pp yy) then true else false))))] [(.int (b2i (Fcon (v_q pp xx yy zz mo) (v_w2 pp xx yy))))])) _
      refine XS.iload X33.here hx rfl (hb hby at_180) rfl ?_
      exact k
    have pre35 : ∀ t, Steps p.tables e below (T33.setTop (mkF m 190 #[.val (.int pp), .val (.int xx), .val (.int yy), .val (.int zz), .val (.int mo), .val (.int (v_cap pp)), .val (.int (v_a pp xx)), .val (.int (v_b pp yy)), .val (.int (v_sel mo)), .val (.int (v_q pp xx yy zz mo)), .val (.int (b2i (v_rb mo))), .val (.ref b8), .val (.int (b2i (if (v_q pp xx yy zz mo) = (v_a pp xx) then true else (if (v_q pp xx yy zz mo) = (v_b pp yy) then true else false))))] [(.int (b2i (if (b2i (Fcon (v_q pp xx yy zz mo) (v_w2 pp xx yy))) = (b2i (if (v_q pp xx yy zz mo) = (v_a pp xx) then true else (if (v_q pp xx yy zz mo) = (v_b pp yy) then true else false))) then true else false)))])) t → Steps p.tables e below (s₁.setTop (entryFrame m #[(.int pp), (.int xx), (.int yy), (.int zz), (.int mo)] maxLocals)) t := by
      intro t k
      refine pre34 t ?_
      have k : ∀ (v1 : Bool), v1 = (if (b2i (Fcon (v_q pp xx yy zz mo) (v_w2 pp xx yy))) = (b2i (if (v_q pp xx yy zz mo) = (v_a pp xx) then true else (if (v_q pp xx yy zz mo) = (v_b pp yy) then true else false))) then true else false) → Steps p.tables e below (T33.setTop (mkF m 190 #[.val (.int pp), .val (.int xx), .val (.int yy), .val (.int zz), .val (.int mo), .val (.int (v_cap pp)), .val (.int (v_a pp xx)), .val (.int (v_b pp yy)), .val (.int (v_sel mo)), .val (.int (v_q pp xx yy zz mo)), .val (.int (b2i (v_rb mo))), .val (.ref b8), .val (.int (b2i (if (v_q pp xx yy zz mo) = (v_a pp xx) then true else (if (v_q pp xx yy zz mo) = (v_b pp yy) then true else false))))] [(.int (b2i v1))])) t := fun v1 hv1 => by subst hv1; exact k
      show Steps p.tables e below (T33.setTop (mkF m 182 #[.val (.int pp), .val (.int xx), .val (.int yy), .val (.int zz), .val (.int mo), .val (.int (v_cap pp)), .val (.int (v_a pp xx)), .val (.int (v_b pp yy)), .val (.int (v_sel mo)), .val (.int (v_q pp xx yy zz mo)), .val (.int (b2i (v_rb mo))), .val (.ref b8), .val (.int (b2i (if (v_q pp xx yy zz mo) = (v_a pp xx) then true else (if (v_q pp xx yy zz mo) = (v_b pp yy) then true else false))))] [(.int (b2i (if (v_q pp xx yy zz mo) = (v_a pp xx) then true else (if (v_q pp xx yy zz mo) = (v_b pp yy) then true else false)))), (.int (b2i (Fcon (v_q pp xx yy zz mo) (v_w2 pp xx yy))))])) _
      by_cases hc36 : (b2i (Fcon (v_q pp xx yy zz mo) (v_w2 pp xx yy))) = (b2i (if (v_q pp xx yy zz mo) = (v_a pp xx) then true else (if (v_q pp xx yy zz mo) = (v_b pp yy) then true else false)))
      · refine XS.icmpNo X33.here hx rfl (hb hby at_182) rfl (teq hc36).2 ?_
        have k : ∀ (v1 : Bool), v1 = true → Steps p.tables e below (T33.setTop (mkF m 190 #[.val (.int pp), .val (.int xx), .val (.int yy), .val (.int zz), .val (.int mo), .val (.int (v_cap pp)), .val (.int (v_a pp xx)), .val (.int (v_b pp yy)), .val (.int (v_sel mo)), .val (.int (v_q pp xx yy zz mo)), .val (.int (b2i (v_rb mo))), .val (.ref b8), .val (.int (b2i (if (v_q pp xx yy zz mo) = (v_a pp xx) then true else (if (v_q pp xx yy zz mo) = (v_b pp yy) then true else false))))] [(.int (b2i v1))])) t := fun v1 hv1 => k v1 (hv1.trans (if_pos hc36).symm)
        show Steps p.tables e below (T33.setTop (mkF m 185 #[.val (.int pp), .val (.int xx), .val (.int yy), .val (.int zz), .val (.int mo), .val (.int (v_cap pp)), .val (.int (v_a pp xx)), .val (.int (v_b pp yy)), .val (.int (v_sel mo)), .val (.int (v_q pp xx yy zz mo)), .val (.int (b2i (v_rb mo))), .val (.ref b8), .val (.int (b2i (if (v_q pp xx yy zz mo) = (v_a pp xx) then true else (if (v_q pp xx yy zz mo) = (v_b pp yy) then true else false))))] [])) _
        refine XS.iconst X33.here hx rfl (hb hby at_185) ?_
        show Steps p.tables e below (T33.setTop (mkF m 186 #[.val (.int pp), .val (.int xx), .val (.int yy), .val (.int zz), .val (.int mo), .val (.int (v_cap pp)), .val (.int (v_a pp xx)), .val (.int (v_b pp yy)), .val (.int (v_sel mo)), .val (.int (v_q pp xx yy zz mo)), .val (.int (b2i (v_rb mo))), .val (.ref b8), .val (.int (b2i (if (v_q pp xx yy zz mo) = (v_a pp xx) then true else (if (v_q pp xx yy zz mo) = (v_b pp yy) then true else false))))] [(.int (1 : Int32))])) _
        refine XS.goto X33.here hx rfl (pc0 := 186) (pc' := 190) rfl (hb hby at_186) (by decide) (by decide) ?_
        exact k true rfl
      · refine XS.icmpYes X33.here hx rfl (pc0 := 182) (pc' := 189) rfl (hb hby at_182) rfl (feq hc36).2 (by decide) (by decide) ?_
        have k : ∀ (v1 : Bool), v1 = false → Steps p.tables e below (T33.setTop (mkF m 190 #[.val (.int pp), .val (.int xx), .val (.int yy), .val (.int zz), .val (.int mo), .val (.int (v_cap pp)), .val (.int (v_a pp xx)), .val (.int (v_b pp yy)), .val (.int (v_sel mo)), .val (.int (v_q pp xx yy zz mo)), .val (.int (b2i (v_rb mo))), .val (.ref b8), .val (.int (b2i (if (v_q pp xx yy zz mo) = (v_a pp xx) then true else (if (v_q pp xx yy zz mo) = (v_b pp yy) then true else false))))] [(.int (b2i v1))])) t := fun v1 hv1 => k v1 (hv1.trans (if_neg hc36).symm)
        show Steps p.tables e below (T33.setTop (mkF m 189 #[.val (.int pp), .val (.int xx), .val (.int yy), .val (.int zz), .val (.int mo), .val (.int (v_cap pp)), .val (.int (v_a pp xx)), .val (.int (v_b pp yy)), .val (.int (v_sel mo)), .val (.int (v_q pp xx yy zz mo)), .val (.int (b2i (v_rb mo))), .val (.ref b8), .val (.int (b2i (if (v_q pp xx yy zz mo) = (v_a pp xx) then true else (if (v_q pp xx yy zz mo) = (v_b pp yy) then true else false))))] [])) _
        refine XS.iconst X33.here hx rfl (hb hby at_189) ?_
        exact k false rfl
    have hlaw : (if (b2i (Fcon (v_q pp xx yy zz mo) (v_w2 pp xx yy))) = (b2i (if (v_q pp xx yy zz mo) = (v_a pp xx) then true else (if (v_q pp xx yy zz mo) = (v_b pp yy) then true else false))) then true else false) = true := own_law2 pp xx yy zz mo hc16
    obtain ⟨fs, hr, hrun, hended, hW, hsame⟩ := X33.leave (v := some (.int (1 : Int32))) (fun h => by rw [Bd.returns] at h; cases h)
    refine ⟨_, _, pre35 _ ?_, hrun, hended, _, _, rfl, ?_, ⟨_, rfl⟩, hW, hsame.mono (by decide) (by decide)⟩
    · show Steps p.tables e below (T33.setTop (mkF m 190 #[.val (.int pp), .val (.int xx), .val (.int yy), .val (.int zz), .val (.int mo), .val (.int (v_cap pp)), .val (.int (v_a pp xx)), .val (.int (v_b pp yy)), .val (.int (v_sel mo)), .val (.int (v_q pp xx yy zz mo)), .val (.int (b2i (v_rb mo))), .val (.ref b8), .val (.int (b2i (if (v_q pp xx yy zz mo) = (v_a pp xx) then true else (if (v_q pp xx yy zz mo) = (v_b pp yy) then true else false))))] [(.int (b2i (if (b2i (Fcon (v_q pp xx yy zz mo) (v_w2 pp xx yy))) = (b2i (if (v_q pp xx yy zz mo) = (v_a pp xx) then true else (if (v_q pp xx yy zz mo) = (v_b pp yy) then true else false))) then true else false)))])) _
      exact retN X33 hx (t := .boolean) Bd.returns (by simp) (hb hby at_190) (by rw [b2i_one hlaw]; exact hr)
    · show Q0 Z pp xx yy zz mo h0 n0 _ T33.heap _
      rw [e33]
      exact ⟨rfl, N33⟩
set_option maxRecDepth 65536 in
set_option maxHeartbeats 40000000 in
theorem comes_1 {Post : Tables → Env → Array Value → State → Outcome → State → Prop} (hpost : ∀ tb e args s v u, (limb_1_1.after args s (.returned v) u = true ∧ limb_1_2.after args s (.returned v) u = true ∧ True) → FrameEnd s (.returned v) u (Jvm.fieldLocs frame_1_writes args s ++ Jvm.arrayLocs frame_1_arrays args s ++ Jvm.staticLocs frame_1_statics s) 16 384 → Post tb e args s (.returned v) u) :
    ArmFor flags0 classFile x code maxLocals ret World_1 tables_1 room_1 Calls_1 rest_1 Pre_1 Post := by
  intro l hfl _ _ p e ha hc hk s m args below hf hA hF happ hP
  obtain ⟨hcalls, hrest, hpre⟩ := hP
  obtain ⟨-, -, -, hnamed, -, -, -, hat⟩ := (Spec.applies_iff hf).mp happ
  obtain ⟨hg, hn⟩ := and_e (Cond.before_iff.mp (show (Jvm.Cond.and given_1 narrow_1).before args s = true from hpre))
  obtain ⟨g1, g2⟩ := and_e hg
  obtain ⟨g3, g4⟩ := and_e g2
  obtain ⟨g5, g6⟩ := and_e g4
  obtain ⟨g7, g8⟩ := and_e g6
  obtain ⟨g9, g10⟩ := and_e g8
  obtain ⟨w0, w1, w2, w3, w4, rfl⟩ : ∃ w0 w1 w2 w3 w4 : Value, args = #[w0, w1, w2, w3, w4] := by
    have hs : args.size = 5 := by simpa [Cond.value, given_1] using g1
    obtain ⟨L⟩ := args
    match L, hs with
    | [w0, w1, w2, w3, w4], _ => exact ⟨w0, w1, w2, w3, w4, rfl⟩
  have hw := fun d (hd : d ∈ tables_1) => atoms_spec (ws := Jvm.Cond.code x code maxLocals ret :: tables_1) hat d (List.mem_cons_of_mem _ hd)
  obtain ⟨i0, ei0⟩ := is_v g3
  obtain rfl : w0 = (.int i0) := Option.some.inj ei0
  obtain ⟨i1, ei1⟩ := is_v g5
  obtain rfl : w1 = (.int i1) := Option.some.inj ei1
  obtain ⟨i2, ei2⟩ := is_v g7
  obtain rfl : w2 = (.int i2) := Option.some.inj ei2
  obtain ⟨i3, ei3⟩ := is_v g9
  obtain rfl : w3 = (.int i3) := Option.some.inj ei3
  obtain ⟨i4, ei4⟩ := is_v g10
  obtain rfl : w4 = (.int i4) := Option.some.inj ei4
  obtain ⟨n, o, h1, h2, h3, _, L, rfl, ⟨rfl, N⟩, hq⟩ := rm0 l s _ hw tables_1 i0 i1 i2 i3 i4 s.heap s.heap.size (Nat.le_refl _) p e ha hc hk s m _ below hf ((Spec.applies_iff_loose hf).mp happ).1 ⟨rfl, State.Warmed39.refl s, rfl⟩ trivial
  refine ⟨n, _, h1, h2, h3, hpost _ _ _ _ _ _ ⟨Cond.after_iff.mpr rfl, Cond.after_iff.mpr (eq_i res_at (Term.int_eval (1)) rfl), trivial⟩ ⟨hq.1, hq.2.1, (hq.2.2.sift fun y hy => Or.inr (N y hy)).mono (by decide) (by decide)⟩⟩
theorem main_1_1 : Claimed_1_1 := comes_1 fun _ _ _ _ _ _ h hF => ⟨h.1, hF⟩
theorem main_1_2 : Claimed_1_2 := comes_1 fun _ _ _ _ _ _ h hF => ⟨h.2.1, hF⟩
end Jvm.Pilot.@@N@@
namespace Jvm.Pilot.@@N@@
open Jvm Jvm.ClassFile Sem Op Lib Jvm.Free Jvm.Stand Jvm.Pilot.@@N@@.Jvm.D
/-! MADE BY PROGRAM (witnessworld.py) out of the Statement's table words and the real class files: 11 classes; the members and pool entries that the words name. The judged class is class 1, her method 1. -/
namespace start1
open Jvm.ClassFile
def u (s : String) : CpInfo := .utf8 (stringToUtf16 s)
/-- a pool by its gaps: so many unusable entries, then the entry; so many at the end -/
def gap : Nat → List CpInfo → List CpInfo
  | 0, r => r
  | n + 1, r => .unusable :: gap n r
def poolList (es : List (Nat × CpInfo)) (last : Nat) : List CpInfo := es.foldr (fun e r => gap e.1 (e.2 :: r)) (gap last [])
def pool (es : List (Nat × CpInfo)) (last : Nat) : Array CpInfo := ⟨poolList es last⟩
def fileOf (pool : Array CpInfo) (this : Nat) (attrs : Array Attribute := #[]) (ms : Array MethodInfo := #[]) (fl : Nat := 33) (sup : Nat := 0) (ifs : Array Nat := #[]) (fds : Array FieldInfo := #[]) : ClassFile where
  minorVersion := 0
  majorVersion := 65
  constantPool := pool
  accessFlags := fl
  thisClass := this
  superClass := sup
  interfaces := ifs
  fields := fds
  methods := ms
  attributes := attrs
def plain (name : String) (sup : Option ClassId) : Class where
  name := name
  kind := .ordinary
  loader := none
  accessFlags := 33
  super := sup
  interfaces := #[]
  cf := none
  fields := #[]
  methods := #[]
  instanceTypes := #[]
  staticTypes := #[]
  resolved := #[]
  callSites := []
  init := .initialized
  statics := none
  mirror := none

def pool0 : Array CpInfo := pool [(5, u "<init>"), (0, u "()V"), (1, .class_ 10), (1, u "java/lang/Object")] 113

def k0c0 : Code := { maxStack := 0, maxLocals := 1, code := object_method_1_code, exceptionTable := #[], attributes := #[] }
def k0m0 : Method := { name := "<init>", desc := "()V", sig := { parameters := [], returnType := none }, accessFlags := 1, code := some k0c0 }
/-- java/lang/Object -/
def k0 : Class := { plain "java/lang/Object" none with
  accessFlags := 33
  interfaces := #[]
  cf := some (fileOf pool0 8 #[] #[{ accessFlags := 1, nameIndex := 5, descriptorIndex := 6, attributes := #[] }] 33 0 #[] #[])
  fields := #[]
  methods := #[k0m0]
  instanceTypes := #[]
  staticTypes := #[]
  resolved := Array.replicate 124 none
  statics := none }

def pool1 : Array CpInfo := pool [(2, .class_ 4), (1, u "java/lang/Object"), (0, u "<init>"), (0, u "()V"), (0, .integer 2147483647), (0, .class_ 9), (0, u "com/example/cutline/cutline/IndexSet"), (0, .methodref 8 11), (0, .nameAndType 5 12), (0, u "(I)V"), (0, .methodref 8 14), (0, .nameAndType 15 16), (0, u "add"), (0, u "(I)Z"), (0, .methodref 8 18), (0, .nameAndType 19 16), (0, u "remove"), (0, .methodref 8 21), (0, .nameAndType 22 16), (0, u "contains"), (0, .class_ 24), (0, u "com/example/cutline/cutline/IndexSetContainsPinLaw"), (2, u "law"), (0, u "(IIIII)Z")] 3

def k1m0 : Method := { name := "<init>", desc := "()V", sig := { parameters := [], returnType := none }, accessFlags := 1, code := none }
def k1c1 : Code := { maxStack := 3, maxLocals := 13, code := code, exceptionTable := #[], attributes := #[] }
def k1m1 : Method := { name := "law", desc := "(IIIII)Z", sig := { parameters := [.int, .int, .int, .int, .int], returnType := some .boolean }, accessFlags := 9, code := some k1c1 }
/-- com/example/cutline/cutline/IndexSetContainsPinLaw -/
def k1 : Class := { plain "com/example/cutline/cutline/IndexSetContainsPinLaw" (some 0) with
  accessFlags := 49
  interfaces := #[]
  cf := some (fileOf pool1 23 #[] #[{ accessFlags := 1, nameIndex := 5, descriptorIndex := 6, attributes := #[] }, { accessFlags := 9, nameIndex := 27, descriptorIndex := 28, attributes := #[] }] 49 2 #[] #[])
  fields := #[]
  methods := #[k1m0, k1m1]
  instanceTypes := #[]
  staticTypes := #[]
  resolved := Array.replicate 32 none
  statics := none }

def pool2 : Array CpInfo := pool [(1, .methodref 2 3), (0, .class_ 4), (0, .nameAndType 5 6), (0, u "java/lang/Object"), (0, u "<init>"), (0, u "()V"), (0, .fieldref 8 9), (0, .class_ 10), (0, .nameAndType 11 12), (0, u "com/example/cutline/cutline/IndexSet"), (0, u "capacity"), (0, u "I"), (0, .fieldref 8 14), (0, .nameAndType 15 16), (0, u "words"), (0, u "[J"), (0, .fieldref 8 18), (0, .nameAndType 19 16), (0, u "summary"), (0, .fieldref 8 21), (0, .nameAndType 22 12), (0, u "size"), (0, .long 18446744073709551615), (10, u "(I)V"), (3, u "contains"), (0, u "(I)Z"), (1, u "add"), (0, u "remove")] 6

def k2c0 : Code := { maxStack := 3, maxLocals := 2, code := prog_16_method_1_code, exceptionTable := #[], attributes := #[] }
def k2m0 : Method := { name := "<init>", desc := "(I)V", sig := { parameters := [.int], returnType := none }, accessFlags := 0, code := some k2c0 }
def k2c1 : Code := { maxStack := 5, maxLocals := 2, code := prog_16_method_3_code, exceptionTable := #[], attributes := #[] }
def k2m1 : Method := { name := "contains", desc := "(I)Z", sig := { parameters := [.int], returnType := some .boolean }, accessFlags := 0, code := some k2c1 }
def k2c2 : Code := { maxStack := 7, maxLocals := 5, code := prog_16_method_4_code, exceptionTable := #[], attributes := #[] }
def k2m2 : Method := { name := "add", desc := "(I)Z", sig := { parameters := [.int], returnType := some .boolean }, accessFlags := 0, code := some k2c2 }
def k2c3 : Code := { maxStack := 8, maxLocals := 5, code := prog_16_method_5_code, exceptionTable := #[], attributes := #[] }
def k2m3 : Method := { name := "remove", desc := "(I)Z", sig := { parameters := [.int], returnType := some .boolean }, accessFlags := 0, code := some k2c3 }
/-- com/example/cutline/cutline/IndexSet -/
def k2 : Class := { plain "com/example/cutline/cutline/IndexSet" (some 0) with
  accessFlags := 48
  interfaces := #[]
  cf := some (fileOf pool2 8 #[] #[{ accessFlags := 0, nameIndex := 5, descriptorIndex := 34, attributes := #[] }, { accessFlags := 0, nameIndex := 38, descriptorIndex := 39, attributes := #[] }, { accessFlags := 0, nameIndex := 41, descriptorIndex := 39, attributes := #[] }, { accessFlags := 0, nameIndex := 42, descriptorIndex := 39, attributes := #[] }] 48 2 #[] #[{ accessFlags := 18, nameIndex := 11, descriptorIndex := 12, attributes := #[] }, { accessFlags := 18, nameIndex := 15, descriptorIndex := 16, attributes := #[] }, { accessFlags := 18, nameIndex := 19, descriptorIndex := 16, attributes := #[] }, { accessFlags := 2, nameIndex := 22, descriptorIndex := 12, attributes := #[] }])
  fields := #[{ name := "capacity", type := .int, accessFlags := 18, slot := 0, constantValue := 0 }, { name := "words", type := (.array .long), accessFlags := 18, slot := 1, constantValue := 0 }, { name := "summary", type := (.array .long), accessFlags := 18, slot := 2, constantValue := 0 }, { name := "size", type := .int, accessFlags := 2, slot := 3, constantValue := 0 }]
  methods := #[k2m0, k2m1, k2m2, k2m3]
  instanceTypes := #[.int, (.array .long), (.array .long), .int]
  staticTypes := #[]
  resolved := Array.replicate 49 none
  statics := none }

def pool3 : Array CpInfo := pool [(1, u "java/lang/Cloneable"), (0, .class_ 1), (0, u "java/lang/Object"), (0, .class_ 3)] 3

/-- java/lang/Cloneable -/
def k3 : Class := { plain "java/lang/Cloneable" (some 0) with
  accessFlags := 1537
  interfaces := #[]
  cf := some (fileOf pool3 2 #[] #[] 1537 4 #[] #[])
  fields := #[]
  methods := #[]
  instanceTypes := #[]
  staticTypes := #[]
  resolved := Array.replicate 8 none
  statics := none }

def pool4 : Array CpInfo := pool [(1, u "java/io/Serializable"), (0, .class_ 1), (0, u "java/lang/Object"), (0, .class_ 3)] 3

/-- java/io/Serializable -/
def k4 : Class := { plain "java/io/Serializable" (some 0) with
  accessFlags := 1537
  interfaces := #[]
  cf := some (fileOf pool4 2 #[] #[] 1537 4 #[] #[])
  fields := #[]
  methods := #[]
  instanceTypes := #[]
  staticTypes := #[]
  resolved := Array.replicate 8 none
  statics := none }

/-- the primitive byte -/
def k5 : Class := { plain "byte" none with kind := .primitive 'B', accessFlags := 0x411 }
/-- [B -/
def k6 : Class := { plain "[B" (some 0) with kind := .array 5 .byte, interfaces := #[3, 4], accessFlags := 1041 }

/-- the primitive int -/
def k7 : Class := { plain "int" none with kind := .primitive 'I', accessFlags := 0x411 }
/-- [I -/
def k8 : Class := { plain "[I" (some 0) with kind := .array 7 .int, interfaces := #[3, 4], accessFlags := 1041 }

/-- the primitive long -/
def k9 : Class := { plain "long" none with kind := .primitive 'J', accessFlags := 0x411 }
/-- [J -/
def k10 : Class := { plain "[J" (some 0) with kind := .array 9 .long, interfaces := #[3, 4], accessFlags := 1041 }

def heap : Heap := #[]
def classes : Array Class := #[k0, k1, k2, k3, k4, k5, k6, k7, k8, k9, k10]
def interned : List (Array UInt16 × Addr) := []
def slotsUsed : Nat := 0
def theMethod : MethodId := ⟨1, 1⟩
def args0 : Array Value := #[.int 5, .int 3, .int 7, .int 4, .int 4]
def aboutOver (below : List Frame) : State where
  vm := { classes := classes, interned := interned.toArray }
  heap := heap
  slotsUsed := slotsUsed
  threads := #[{ frames := .invoking theMethod args0 :: below }]
def below0 : List Frame := [.native { method := ⟨0, 0⟩, args := #[] }]
def about1 : State := aboutOver below0
def p0 : Program := .bare "" "" ""
def e0 : Env := launch0.env 0 0 0
theorem w_frames : about1.frames = Frame.invoking theMethod args0 :: below0 := rfl
set_option maxRecDepth 65536 in
theorem w_args : argsFit about1.vm theMethod args0 = true := by decide +kernel
set_option maxRecDepth 65536 in
theorem w_heap : heapFits about1 = true := by decide +kernel
set_option maxRecDepth 65536 in
theorem w_runnable : about1.curStatus? = some .runnable := by decide +kernel
set_option maxRecDepth 65536 in
theorem w_alone : about1.alone = true := by decide +kernel
set_option maxRecDepth 65536 in
theorem w_named : about1.methodNamed? x = some theMethod := by decide +kernel
set_option maxRecDepth 65536 in
theorem w_hears : about1.hears theMethod below0 = true := by decide +kernel
set_option maxRecDepth 65536 in
theorem w_ripe : about1.ripe theMethod args0 below0 = true := by decide +kernel
theorem w_running : about1.status = .running := rfl
set_option maxRecDepth 65536 in
theorem w_room : about1.hasRoom e0.platform room_1 = true :=
  launch0.hasRoom_least _ room_1 (by decide +kernel) (by decide +kernel) (by decide +kernel) (by decide +kernel) (by decide +kernel) (by decide +kernel)
theorem allAtoms_all (ts : List Jvm.Cond) (a : Array Jvm.Value) (st : Jvm.State) : (allAtoms ts).before a st = ts.all (fun c => c.before a st) := by
  induction ts with
  | nil => rfl
  | cons c t ih =>
    show (Jvm.Cond.and c (allAtoms t)).before a st = _
    rw [Jvm.Cond.before_and, ih, List.all_cons]
def words1 : List Jvm.Cond := Jvm.Cond.code x code maxLocals ret :: tables_1
/-- a 'code' word, met by the world's own term for the bytes: nothing is compared byte by byte -/
theorem code_word {y : MethodName} {bytes : ByteArray} {mx : Nat} {rt : Option FieldType} {a : Array Value} {s : State} {m : MethodId} {meth : Method} {c : Code} (h1 : s.methodNamed? y = some m) (h2 : s.vm.method? m = some meth) (h3 : meth.code = some c) (h4 : c.code = bytes)
    (h5 : (c.maxLocals == mx && c.exceptionTable.isEmpty && decide (c.maxStack ≤ mostOperands) && decide (meth.sig.returnType = rt) && !meth.locks && decide (parseMethodDescriptor y.desc = some meth.sig)) = true) : (Jvm.Cond.code y bytes mx rt).before a s = true := by
  simp only [Bool.and_eq_true, beq_iff_eq, Bool.not_eq_true', decide_eq_true_eq] at h5
  obtain ⟨⟨⟨⟨⟨g1, g2⟩, g3⟩, g4⟩, g5⟩, g6⟩ := h5
  simp [Cond.before, Cond.holds, Cond.value, h1, h2, h3, h4, g1, g2, g3, g4, g5, g6]
def isCode : Jvm.Cond → Bool
  | .code _ _ _ _ => true
  | _ => false
theorem all_split {L : List Jvm.Cond} {P : Jvm.Cond → Bool} (h1 : L.all (fun c => isCode c || P c) = true) (h2 : ∀ c ∈ L.filter isCode, P c = true) : L.all P = true := by
  refine List.all_eq_true.mpr fun c hc => ?_
  have h := List.all_eq_true.mp h1 c hc
  rcases Bool.eq_false_or_eq_true (isCode c) with hi | hi
  · exact h2 c (List.mem_filter.mpr ⟨hc, hi⟩)
  · simpa [hi] using h
set_option maxRecDepth 65536 in
theorem w_c0 : (Jvm.Cond.code x code maxLocals ret).before args0 about1 = true := code_word (m := ⟨1, 1⟩) (meth := k1m1) (c := k1c1) (by decide +kernel) rfl rfl rfl (by decide +kernel)
set_option maxRecDepth 65536 in
theorem w_c1 : (Jvm.Cond.code ({ cls := "com/example/cutline/cutline/IndexSet", name := "<init>", desc := "(I)V" } : Jvm.MethodName) prog_16_method_1_code (2 : Nat) (Option.none : Option Jvm.ClassFile.FieldType)).before args0 about1 = true := code_word (m := ⟨2, 0⟩) (meth := k2m0) (c := k2c0) (by decide +kernel) rfl rfl rfl (by decide +kernel)
set_option maxRecDepth 65536 in
theorem w_c2 : (Jvm.Cond.code ({ cls := "java/lang/Object", name := "<init>", desc := "()V" } : Jvm.MethodName) object_method_1_code (1 : Nat) (Option.none : Option Jvm.ClassFile.FieldType)).before args0 about1 = true := code_word (m := ⟨0, 0⟩) (meth := k0m0) (c := k0c0) (by decide +kernel) rfl rfl rfl (by decide +kernel)
set_option maxRecDepth 65536 in
theorem w_c3 : (Jvm.Cond.code ({ cls := "com/example/cutline/cutline/IndexSet", name := "add", desc := "(I)Z" } : Jvm.MethodName) prog_16_method_4_code (5 : Nat) (Option.some Jvm.ClassFile.FieldType.boolean)).before args0 about1 = true := code_word (m := ⟨2, 2⟩) (meth := k2m2) (c := k2c2) (by decide +kernel) rfl rfl rfl (by decide +kernel)
set_option maxRecDepth 65536 in
theorem w_c4 : (Jvm.Cond.code ({ cls := "com/example/cutline/cutline/IndexSet", name := "contains", desc := "(I)Z" } : Jvm.MethodName) prog_16_method_3_code (2 : Nat) (Option.some Jvm.ClassFile.FieldType.boolean)).before args0 about1 = true := code_word (m := ⟨2, 1⟩) (meth := k2m1) (c := k2c1) (by decide +kernel) rfl rfl rfl (by decide +kernel)
set_option maxRecDepth 65536 in
theorem w_c5 : (Jvm.Cond.code ({ cls := "com/example/cutline/cutline/IndexSet", name := "remove", desc := "(I)Z" } : Jvm.MethodName) prog_16_method_5_code (5 : Nat) (Option.some Jvm.ClassFile.FieldType.boolean)).before args0 about1 = true := code_word (m := ⟨2, 3⟩) (meth := k2m3) (c := k2c3) (by decide +kernel) rfl rfl rfl (by decide +kernel)
def codes1 : List Jvm.Cond := [Jvm.Cond.code x code maxLocals ret, Jvm.Cond.code ({ cls := "com/example/cutline/cutline/IndexSet", name := "<init>", desc := "(I)V" } : Jvm.MethodName) prog_16_method_1_code (2 : Nat) (Option.none : Option Jvm.ClassFile.FieldType), Jvm.Cond.code ({ cls := "java/lang/Object", name := "<init>", desc := "()V" } : Jvm.MethodName) object_method_1_code (1 : Nat) (Option.none : Option Jvm.ClassFile.FieldType), Jvm.Cond.code ({ cls := "com/example/cutline/cutline/IndexSet", name := "add", desc := "(I)Z" } : Jvm.MethodName) prog_16_method_4_code (5 : Nat) (Option.some Jvm.ClassFile.FieldType.boolean), Jvm.Cond.code ({ cls := "com/example/cutline/cutline/IndexSet", name := "contains", desc := "(I)Z" } : Jvm.MethodName) prog_16_method_3_code (2 : Nat) (Option.some Jvm.ClassFile.FieldType.boolean), Jvm.Cond.code ({ cls := "com/example/cutline/cutline/IndexSet", name := "remove", desc := "(I)Z" } : Jvm.MethodName) prog_16_method_5_code (5 : Nat) (Option.some Jvm.ClassFile.FieldType.boolean)]
set_option maxRecDepth 65536 in
theorem codes_eq : words1.filter isCode = codes1 := rfl
theorem w_codes : ∀ c ∈ words1.filter isCode, c.before args0 about1 = true := by
  rw [codes_eq]
  intro c hc
  simp only [codes1, List.mem_cons, List.not_mem_nil, or_false] at hc
  rcases hc with rfl | rfl | rfl | rfl | rfl | rfl
  · exact w_c0
  · exact w_c1
  · exact w_c2
  · exact w_c3
  · exact w_c4
  · exact w_c5
set_option maxRecDepth 65536 in
theorem w_t1 : (words1.take 24).all (fun c => isCode c || c.before args0 about1) = true := by decide +kernel
set_option maxRecDepth 65536 in
theorem w_t2 : (words1.drop 24).all (fun c => isCode c || c.before args0 about1) = true := by decide +kernel
theorem w_tables : (allAtoms (Jvm.Cond.code x code maxLocals ret :: tables_1)).before args0 about1 = true := by
  rw [allAtoms_all]
  show words1.all (fun c => c.before args0 about1) = true
  refine all_split ?_ w_codes
  rw [← List.take_append_drop 24 words1, List.all_append, w_t1, w_t2]
  rfl
set_option maxRecDepth 65536 in
theorem w_case : (Jvm.Cond.and given_1 narrow_1).before args0 about1 = true := by decide +kernel
theorem w_applies : (headSpec (Jvm.Cond.code x code maxLocals ret :: tables_1) room_1).applies x e0.platform about1 = true :=
  (Spec.applies_iff w_frames).mpr ⟨w_running, w_runnable, w_alone, w_named, w_hears, w_ripe, w_room, w_tables⟩
theorem atStart : AtStart classFile x code maxLocals ret World_1 tables_1 room_1 Calls_1 rest_1 Pre_1 launch0 p0 e0 about1 theMethod args0 below0 :=
  ⟨lists_1, trivial, launch0.admits_env _ _ _, launch0.least_env, fairChoices_fair.cas, fairChoices_fair.clock, w_frames, w_args, w_heap, w_applies, trivial, trivial, w_case⟩
end start1
theorem witness_1 : WitnessClaimed_1 := ⟨start1.p0, start1.e0, start1.about1, start1.theMethod, start1.args0, start1.below0, start1.atStart⟩
end Jvm.Pilot.@@N@@
