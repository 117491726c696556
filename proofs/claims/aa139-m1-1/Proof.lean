import JvmDerived
import JvmDerived.Pilot.@@N@@Statement
import JvmDerived.Pilot.@@N@@Code
set_option linter.unusedVariables false
set_option linter.unusedSimpArgs false
namespace Jvm.RoadKit
open Sem ClassFile Op Lib Jvm.Stand Jvm.Free Jvm.LawKit
section New
variable {p : Program} {l : Launch} {e : Env} {R : Room} {s : State} {m : MethodId} {args : Array Value} {below : List Frame} {meth : Method} {c : Code} {T : State} {locs : List Loc} {cells slots : Nat}
theorem retI (X : Stand p l e R s m args below meth c T locs cells slots) (hx : p.tables.exec = Jvm.exec) {pc : Nat} {Ls : Array Slot} {z : Int32} {rest : List Value} (hret : meth.sig.returnType = some .int) (hd : decode c.code pc = .ok (.ireturn, 1)) {fs : List Frame}
    (hl : ∀ (f : JFrame) (acts : List Action), f.method = m → f.locked = none → f.entered = [] → (doReturn e (T.setTop f) acts (some (.int z))).1 = T.setFrames fs) : Steps p.tables e below (T.setTop (mkF m pc Ls (.int z :: rest))) (T.setFrames fs) := by
  have hm' : T.vm.method? m = some meth := X.method'
  have hn : narrow .int (.int z) = .int z := rfl
  show Steps p.tables e below (T.setTop { method := m, pc := pc, locals := Ls, stack := _ :: rest, locked := none }) _
  jvm_step X.here [X.here.top, hx, hd, hm', hret, hn]
  first | (intro acts; rw [hl _ acts rfl rfl rfl]) | rw [hl _ _ rfl rfl rfl]
  exact Steps.refl _
end New
end Jvm.RoadKit
namespace Jvm.Pilot.@@N@@
open Jvm Jvm.ClassFile Sem Op Lib Jvm.Free Jvm.Stand Jvm.LawKit Jvm.RoadKit Bundle Jvm.Pilot.@@N@@.Jvm.D
section OwnKit
variable {p : Program} {l : Launch} {e : Env} {R : Room} {s : State} {m : MethodId} {args : Array Value} {below : List Frame} {meth : Method} {c : Code} {T : State} {locs : List Loc} {cells slots : Nat} {Z : State} {h h' : Heap} {a b : Addr} {ty : FieldType} {n : Nat} {f : Nat → Value}
/-- an array by its length and the value at each place -/
def own_AF (Z : State) (h : Heap) (a : Addr) (ty : FieldType) (n : Nat) (f : Nat → Value) : Prop := ∃ c : Cell, Arr Z h a c ty ∧ c.slots.size = n ∧ n < 2 ^ 31 ∧ ∀ i, i < n → c.slots[i]? = some (f i)
theorem own_AF.lt (F : own_AF Z h a ty n f) : a < h.size := by obtain ⟨c, A, -⟩ := F; exact A.lt
theorem own_AF.ext (F : own_AF Z h a ty n f) (E : Ext h h') : own_AF Z h' a ty n f := by obtain ⟨c, A, r⟩ := F; exact ⟨c, A.ext E, r⟩
theorem own_AF.other {sl : Nat} {v : Value} (F : own_AF Z h b ty n f) (W : Wr h h' a sl v) (q : b ≠ a) : own_AF Z h' b ty n f := by obtain ⟨c, A, r⟩ := F; exact ⟨c, A.other W q, r⟩
theorem own_AF.keep {ws : List Addr} (F : own_AF Z h a ty n f) (K : Keep h h' ws) (q : a ∉ ws) : own_AF Z h' a ty n f := by obtain ⟨c, A, r⟩ := F; exact ⟨c, ⟨K.2.1 a c A.1 q, A.2⟩, r⟩
theorem own_AF.congr {g : Nat → Value} (F : own_AF Z h a ty n f) (q : ∀ i, i < n → f i = g i) : own_AF Z h a ty n g := by
  obtain ⟨c, A, r1, r2, r3⟩ := F; exact ⟨c, A, r1, r2, fun i hi => by rw [r3 i hi, q i hi]⟩
theorem own_AF.set {j : Nat} {v : Value} (F : own_AF Z h a ty n f) (W : Wr h h' a j v) : own_AF Z h' a ty n (fun i => if i = j then v else f i) := by
  obtain ⟨c, A, r1, r2, r3⟩ := F
  obtain ⟨cb', q1, q2, q3, q4, -, q6, q7⟩ := wr_at W A.1
  obtain ⟨e1, e2, -⟩ := q7 rfl
  refine ⟨_, A.same W, ?_, r2, fun i hi => ?_⟩
  · rw [sz_set]; exact r1
  · rw [← e1]
    by_cases hij : i = j
    · subst hij; simp only [if_true]; exact e2
    · rw [q6 i hij, r3 i hi]; simp only [hij, if_false]
theorem own_AF.new {k : ClassId} {z : Int32} {d : Value} (A : Arr Z h a (newA k ty z) ty) (q : ¬ z < 0) (hn : z.toNatClampNeg = n) (hd : defaultValue ty = d := by rfl) : own_AF Z h a ty n (fun _ => d) := by
  subst hn
  refine ⟨_, A, sz_new _ _ _, (back32 q).2, fun i hi => ?_⟩
  simp [newA, hi, hd]
theorem own_AF.inb {c : Cell} {j : Int32} {k : Nat} (S : c.slots.size = n) (h1 : ¬ j < 0) (hk : j.toNatClampNeg = k) (h2 : k < n) : ¬ (j < 0 ∨ c.slots.size ≤ j.toNatClampNeg) := by
  rw [S, hk]; exact fun q => q.elim h1 fun q => by omega
theorem own_ldI (X : Stand p l e R s m args below meth c T locs cells slots) (hx : p.tables.exec = Jvm.exec) (hZ : Z.Warmed39 s.vm) (eT : T.heap = h) (A : own_AF Z h a .int n f) {j : Int32} (h1 : ¬ j < 0) {k : Nat} (hk : j.toNatClampNeg = k) (h2 : k < n) {v : Value} (hv : f k = v)
    {g : JFrame} (hg : g.method = m) {rest : List Value} (hs : g.stack = .int j :: .ref a :: rest) (hd : decode c.code g.pc = .ok (.iaload, 1)) (target : State)
    (hr : Steps p.tables e below (T.setTop { g with pc := g.pc + 1, stack := v :: rest }) target) : Steps p.tables e below (T.setTop g) target := by
  obtain ⟨cl, A, r1, r2, r3⟩ := A
  exact X.iaload hx (by rw [eT]; exact A.1) (State.isArrayOf_alike hZ.alike A.2.1) A.2.2 (own_AF.inb r1 h1 hk h2) (by rw [hk, ← hv]; exact r3 k h2) hg hs hd _ hr
theorem own_ldJ (X : Stand p l e R s m args below meth c T locs cells slots) (hx : p.tables.exec = Jvm.exec) (hZ : Z.Warmed39 s.vm) (eT : T.heap = h) (A : own_AF Z h a .long n f) {j : Int32} (h1 : ¬ j < 0) {k : Nat} (hk : j.toNatClampNeg = k) (h2 : k < n) {v : Value} (hv : f k = v)
    {g : JFrame} (hg : g.method = m) {rest : List Value} (hs : g.stack = .int j :: .ref a :: rest) (hd : decode c.code g.pc = .ok (.laload, 1)) (target : State)
    (hr : Steps p.tables e below (T.setTop { g with pc := g.pc + 1, stack := v :: rest }) target) : Steps p.tables e below (T.setTop g) target := by
  obtain ⟨cl, A, r1, r2, r3⟩ := A
  exact X.laload hx (by rw [eT]; exact A.1) (State.isArrayOf_alike hZ.alike A.2.1) A.2.2 (own_AF.inb r1 h1 hk h2) (by rw [hk, ← hv]; exact r3 k h2) hg hs hd _ hr
theorem own_ldB (X : Stand p l e R s m args below meth c T locs cells slots) (hx : p.tables.exec = Jvm.exec) (hZ : Z.Warmed39 s.vm) (eT : T.heap = h) (A : own_AF Z h a .byte n f) {j : Int32} (h1 : ¬ j < 0) {k : Nat} (hk : j.toNatClampNeg = k) (h2 : k < n) {v : Value} (hv : f k = v)
    {g : JFrame} (hg : g.method = m) {rest : List Value} (hs : g.stack = .int j :: .ref a :: rest) (hd : decode c.code g.pc = .ok (.baload, 1)) (target : State)
    (hr : Steps p.tables e below (T.setTop { g with pc := g.pc + 1, stack := v :: rest }) target) : Steps p.tables e below (T.setTop g) target := by
  obtain ⟨cl, A, r1, r2, r3⟩ := A
  exact X.baloadBytes hx (by rw [eT]; exact A.1) (State.isArrayOf_alike hZ.alike A.2.1) A.2.2 (own_AF.inb r1 h1 hk h2) (by rw [hk, ← hv]; exact r3 k h2) hg hs hd _ hr
theorem own_ldZ (X : Stand p l e R s m args below meth c T locs cells slots) (hx : p.tables.exec = Jvm.exec) (hZ : Z.Warmed39 s.vm) (eT : T.heap = h) (A : own_AF Z h a .boolean n f) {j : Int32} (h1 : ¬ j < 0) {k : Nat} (hk : j.toNatClampNeg = k) (h2 : k < n) {v : Value} (hv : f k = v)
    {g : JFrame} (hg : g.method = m) {rest : List Value} (hs : g.stack = .int j :: .ref a :: rest) (hd : decode c.code g.pc = .ok (.baload, 1)) (target : State)
    (hr : Steps p.tables e below (T.setTop { g with pc := g.pc + 1, stack := v :: rest }) target) : Steps p.tables e below (T.setTop g) target := by
  obtain ⟨cl, A, r1, r2, r3⟩ := A
  exact X.baloadBooleans hx (by rw [eT]; exact A.1) (State.isArrayOf_alike hZ.alike A.2.1) A.2.2 (own_AF.inb r1 h1 hk h2) (by rw [hk, ← hv]; exact r3 k h2) hg hs hd _ hr
theorem own_len (X : Stand p l e R s m args below meth c T locs cells slots) (hx : p.tables.exec = Jvm.exec) (hZ : Z.Warmed39 s.vm) (eT : T.heap = h) (A : own_AF Z h a ty n f) {z : Int32} (hz : n.toInt32 = z)
    {g : JFrame} (hg : g.method = m) {rest : List Value} (hs : g.stack = .ref a :: rest) (hd : decode c.code g.pc = .ok (.arraylength, 1)) (target : State)
    (hr : Steps p.tables e below (T.setTop { g with pc := g.pc + 1, stack := .int z :: rest }) target) : Steps p.tables e below (T.setTop g) target := by
  obtain ⟨cl, A, r1, r2, r3⟩ := A
  exact X.arraylength hx (by rw [eT]; exact A.1) (State.isArrayOf_alike hZ.alike A.2.1) hg hs hd _ (by rw [r1, hz]; exact hr)
theorem own_stI (X : Stand p l e R s m args below meth c T locs cells slots) (hx : p.tables.exec = Jvm.exec) (hZ : Z.Warmed39 s.vm) (eT : T.heap = h) (A : own_AF Z h a .int n f) {j x : Int32} (h1 : ¬ j < 0) {k : Nat} (hk : j.toNatClampNeg = k) (h2 : k < n)
    {g : JFrame} (hg : g.method = m) {rest : List Value} (hs : g.stack = .int x :: .int j :: .ref a :: rest) (hd : decode c.code g.pc = .ok (.iastore, 1)) :
    ∃ T' h', Stand p l e R s m args below meth c T' (locs ++ [⟨a, k⟩]) cells slots ∧ T'.heap = h' ∧ Wr h h' a k (.int x) ∧ own_AF Z h' a .int n (fun i => if i = k then .int x else f i) ∧ ∀ target, Steps p.tables e below (T'.setTop { g with pc := g.pc + 1, stack := rest }) target → Steps p.tables e below (T.setTop g) target := by
  obtain ⟨cl, A', r1, r2, r3⟩ := id A
  obtain ⟨T', h', X', e', W', st⟩ := stI X hx hZ eT A' (own_AF.inb r1 h1 hk h2) hg hs hd
  subst hk
  exact ⟨T', h', X', e', W', A.set W', st⟩
theorem own_stJ (X : Stand p l e R s m args below meth c T locs cells slots) (hx : p.tables.exec = Jvm.exec) (hZ : Z.Warmed39 s.vm) (eT : T.heap = h) (A : own_AF Z h a .long n f) {j : Int32} {x : Int64} (h1 : ¬ j < 0) {k : Nat} (hk : j.toNatClampNeg = k) (h2 : k < n)
    {g : JFrame} (hg : g.method = m) {rest : List Value} (hs : g.stack = .long x :: .int j :: .ref a :: rest) (hd : decode c.code g.pc = .ok (.lastore, 1)) :
    ∃ T' h', Stand p l e R s m args below meth c T' (locs ++ [⟨a, k⟩]) cells slots ∧ T'.heap = h' ∧ Wr h h' a k (.long x) ∧ own_AF Z h' a .long n (fun i => if i = k then .long x else f i) ∧ ∀ target, Steps p.tables e below (T'.setTop { g with pc := g.pc + 1, stack := rest }) target → Steps p.tables e below (T.setTop g) target := by
  obtain ⟨cl, A', r1, r2, r3⟩ := id A
  obtain ⟨T', h', X', e', W', st⟩ := stJ X hx hZ eT A' (own_AF.inb r1 h1 hk h2) hg hs hd
  subst hk
  exact ⟨T', h', X', e', W', A.set W', st⟩
theorem own_stB (X : Stand p l e R s m args below meth c T locs cells slots) (hx : p.tables.exec = Jvm.exec) (hZ : Z.Warmed39 s.vm) (eT : T.heap = h) (A : own_AF Z h a .byte n f) {j x : Int32} (h1 : ¬ j < 0) {k : Nat} (hk : j.toNatClampNeg = k) (h2 : k < n)
    {g : JFrame} (hg : g.method = m) {rest : List Value} (hs : g.stack = .int x :: .int j :: .ref a :: rest) (hd : decode c.code g.pc = .ok (.bastore, 1)) :
    ∃ T' h', Stand p l e R s m args below meth c T' (locs ++ [⟨a, k⟩]) cells slots ∧ T'.heap = h' ∧ Wr h h' a k (.int (nar .byte x)) ∧ own_AF Z h' a .byte n (fun i => if i = k then .int (nar .byte x) else f i) ∧ ∀ target, Steps p.tables e below (T'.setTop { g with pc := g.pc + 1, stack := rest }) target → Steps p.tables e below (T.setTop g) target := by
  obtain ⟨cl, A', r1, r2, r3⟩ := id A
  obtain ⟨T', h', X', e', W', st⟩ := stB X hx hZ eT A' (own_AF.inb r1 h1 hk h2) hg hs hd
  subst hk
  exact ⟨T', h', X', e', W', A.set W', st⟩
theorem own_stZ (X : Stand p l e R s m args below meth c T locs cells slots) (hx : p.tables.exec = Jvm.exec) (hZ : Z.Warmed39 s.vm) (eT : T.heap = h) (A : own_AF Z h a .boolean n f) {j x : Int32} (h1 : ¬ j < 0) {k : Nat} (hk : j.toNatClampNeg = k) (h2 : k < n)
    {g : JFrame} (hg : g.method = m) {rest : List Value} (hs : g.stack = .int x :: .int j :: .ref a :: rest) (hd : decode c.code g.pc = .ok (.bastore, 1)) :
    ∃ T' h', Stand p l e R s m args below meth c T' (locs ++ [⟨a, k⟩]) cells slots ∧ T'.heap = h' ∧ Wr h h' a k (.int (nar .boolean x)) ∧ own_AF Z h' a .boolean n (fun i => if i = k then .int (nar .boolean x) else f i) ∧ ∀ target, Steps p.tables e below (T'.setTop { g with pc := g.pc + 1, stack := rest }) target → Steps p.tables e below (T.setTop g) target := by
  obtain ⟨cl, A', r1, r2, r3⟩ := id A
  obtain ⟨T', h', X', e', W', st⟩ := stZ X hx hZ eT A' (own_AF.inb r1 h1 hk h2) hg hs hd
  subst hk
  exact ⟨T', h', X', e', W', A.set W', st⟩
theorem own_lremM {g : JFrame} {target : State} (X : Stand p l e R s m args below meth c T locs cells slots) (hx : p.tables.exec = Jvm.exec) (hg : g.method = m) {x y : Int64} {rest : List Value} (hd : decode c.code g.pc = .ok (.lrem, 1)) (hs : g.stack = .long y :: .long x :: rest) (hy : y ≠ 0)
    (hr : Steps p.tables e below (T.setTop { g with pc := g.pc + 1, stack := .long (x % y) :: rest }) target) : Steps p.tables e below (T.setTop g) target :=
  XS.lrem X.here hx hg hd hs hy (by rw [lrem_mod x y]; exact hr)
theorem own_cloneI {a0 : Array Value} (X : Stand p l e R s m args below meth c T locs cells slots) (hx : p.tables.exec = Jvm.exec) (hZ : Z.Warmed39 s.vm) {own : String} {index : Nat} (hown : s.vm.findClass own = some m.cls)
    (w1 : (Cond.methodLink own index ⟨"[I", "clone", "()Ljava/lang/Object;"⟩).before a0 Z = true) (w2 : (Cond.sameMethod "[I" "java/lang/Object" "clone" "()Ljava/lang/Object;").before a0 Z = true) (w3 : (Cond.native ⟨"java/lang/Object", "clone", "()Ljava/lang/Object;"⟩).before a0 Z = true)
    (w4 : (Cond.instanceMethod ⟨"java/lang/Object", "clone", "()Ljava/lang/Object;"⟩).before a0 Z = true) (w5 : (Cond.selects "[I" ⟨"[I", "clone", "()Ljava/lang/Object;"⟩ ⟨"java/lang/Object", "clone", "()Ljava/lang/Object;"⟩).before a0 Z = true) (w6 : (Cond.castable "[I" "java/lang/Cloneable").before a0 Z = true)
    (eT : T.heap = h) (F : own_AF Z h a .int n f) (E : Exa Z h a "[I") (hfit : ∀ i, i < n → fits .int (f i) = true) {g : JFrame} (hg : g.method = m) (hsize : g.locals.size = c.maxLocals) {rest : List Value} (hs : g.stack = .ref a :: rest) (hd : decode c.code g.pc = .ok (.invokevirtual index, 3))
    (hf : 1 ≤ R.frames) {W cap : Nat} (hW : 2 * g.monitorRoom + (rest.map fun v => v.category).sum ≤ W) (hl : W + 14 ≤ R.locals) (hcap : n ≤ cap) (hc : cells + 1 ≤ R.cells) (hsl : slots + cap ≤ R.slots) :
    ∃ T' h', Stand p l e R s m args below meth c T' locs (cells + 1) (slots + cap) ∧ T'.heap = h' ∧ Ext h h' ∧ own_AF Z h' h.size .int n f ∧ Exa Z h' h.size "[I" ∧
      ∀ target, Steps p.tables e below (T'.setTop { g with pc := g.pc + 3, stack := .ref h.size :: rest }) target → Steps p.tables e below (T.setTop g) target := by
  obtain ⟨cl, A, r1, r2, r3⟩ := F
  have FC : FitC Z cl := fitC_of A fun i hi v hv => by rw [r3 i (by omega)] at hv; cases hv; exact hfit i (by omega)
  obtain ⟨T', h', X', e', ex, A', E', st⟩ := cloneA X hx hZ hown w1 w2 w3 w4 w5 w6 eT A E FC hg hsize hs hd hf hW hl (by rw [r1]; exact hcap) hc hsl
  exact ⟨T', h', X', e', ex, ⟨cloneOf cl, A', r1, r2, r3⟩, E', st⟩
end OwnKit
def own_val (b0 b1 b2 b3 b4 : Int32) : Int64 := if b0 = (-1000 : Int32) then (-1 : Int64) else if b0 < (0 : Int32) then (if b1 = (-1000 : Int32) then (-1 : Int64) else if b1 < (0 : Int32) then (if b2 = (-1000 : Int32) then (-1 : Int64) else if b2 < (0 : Int32) then (if b3 = (-1000 : Int32) then (-1 : Int64) else if b3 < (0 : Int32) then (if b4 = (-1000 : Int32) then (-1 : Int64) else if b4 < (0 : Int32) then (-1 : Int64) else if (15 : Int32) < b4 then (-1 : Int64) else ((((((b0 &&& (127 : Int32)).toInt64) ||| (((b1 &&& (127 : Int32)).toInt64) <<< ((7 : Int32) &&& 0x3f).toInt64)) ||| (((b2 &&& (127 : Int32)).toInt64) <<< ((14 : Int32) &&& 0x3f).toInt64)) ||| (((b3 &&& (127 : Int32)).toInt64) <<< ((21 : Int32) &&& 0x3f).toInt64)) ||| ((b4.toInt64) <<< ((28 : Int32) &&& 0x3f).toInt64))) else (((((b0 &&& (127 : Int32)).toInt64) ||| (((b1 &&& (127 : Int32)).toInt64) <<< ((7 : Int32) &&& 0x3f).toInt64)) ||| (((b2 &&& (127 : Int32)).toInt64) <<< ((14 : Int32) &&& 0x3f).toInt64)) ||| ((b3.toInt64) <<< ((21 : Int32) &&& 0x3f).toInt64))) else ((((b0 &&& (127 : Int32)).toInt64) ||| (((b1 &&& (127 : Int32)).toInt64) <<< ((7 : Int32) &&& 0x3f).toInt64)) ||| ((b2.toInt64) <<< ((14 : Int32) &&& 0x3f).toInt64))) else (((b0 &&& (127 : Int32)).toInt64) ||| ((b1.toInt64) <<< ((7 : Int32) &&& 0x3f).toInt64))) else (b0.toInt64)
def own_ln (b0 b1 b2 b3 b4 : Int32) : Int32 := if b0 = (-1000 : Int32) then (0 : Int32) else if b0 < (0 : Int32) then (if b1 = (-1000 : Int32) then (0 : Int32) else if b1 < (0 : Int32) then (if b2 = (-1000 : Int32) then (0 : Int32) else if b2 < (0 : Int32) then (if b3 = (-1000 : Int32) then (0 : Int32) else if b3 < (0 : Int32) then (if b4 = (-1000 : Int32) then (0 : Int32) else if b4 < (0 : Int32) then (0 : Int32) else if (15 : Int32) < b4 then (0 : Int32) else (5 : Int32)) else (4 : Int32)) else (3 : Int32)) else (2 : Int32)) else (1 : Int32)
def own_b (w : Int64) (i : Int32) : Int32 := if i < (8 : Int32) then (((((w.toUInt64 >>> (((8 : Int32) * i) &&& 0x3f).toInt64.toUInt64).toInt64)).toInt32).toInt8.toInt32) else (-1000 : Int32)
def own_byte (w : Int64) (i : Nat) : Int32 := (((((w.toUInt64 >>> (((8 : Int32) * Int32.ofNat i) &&& 0x3f).toInt64.toUInt64).toInt64)).toInt32).toInt8.toInt32)
def own_bk (by_ : Nat → Int32) (pn k : Nat) : Int32 := if pn + k < 8 then by_ (pn + k) else (-1000 : Int32)
theorem own_bb (x : Int32) : nar .byte (x.toInt8.toInt32) = x.toInt8.toInt32 := by
  show x.toInt8.toInt32.toInt8.toInt32 = x.toInt8.toInt32
  have h1 := c_i2b x
  have h2 := c_i2b x.toInt8.toInt32
  apply Int32.toInt_inj.mp
  omega
theorem own_b0 (w : Int64) : own_byte w 0 = ((w.toInt32).toInt8.toInt32) := by
  unfold own_byte
  have h : (w.toUInt64 >>> (((8 : Int32) * Int32.ofNat 0) &&& 0x3f).toInt64.toUInt64) = w.toUInt64 := by
    show w.toUInt64 >>> (0 : UInt64) = w.toUInt64
    exact UInt64.shiftRight_zero
  rw [h]
  rfl
theorem own_brng (w : Int64) (i : Nat) : -128 ≤ (own_byte w i).toInt ∧ (own_byte w i).toInt ≤ 127 := by
  have := c_i2b ((((w.toUInt64 >>> (((8 : Int32) * Int32.ofNat i) &&& 0x3f).toInt64.toUInt64).toInt64)).toInt32)
  unfold own_byte
  omega
theorem own_ix {x : Nat} (h : x < 2 ^ 31) : ¬ Int32.ofNat x < 0 ∧ (Int32.ofNat x).toNatClampNeg = x := by
  have h1 : (Int32.ofNat x).toInt = x := Int32.toInt_ofNat_of_lt h
  have h2 : ¬ Int32.ofNat x < 0 := fun q => by
    have := Int32.lt_iff_toInt_lt.mp q
    rw [h1, show (0 : Int32).toInt = 0 from rfl] at this
    omega
  refine ⟨h2, ?_⟩
  have := nat_of h2
  omega
theorem own_lt8 {i : Nat} (hi : i < 2 ^ 31) : Int32.ofNat i < (8 : Int32) ↔ i < 8 := by
  rw [Int32.lt_iff_toInt_lt, Int32.toInt_ofNat_of_lt hi, show (8 : Int32).toInt = 8 from rfl]
  omega
theorem own_bbk (w : Int64) {pn k : Nat} (h : pn + k < 2 ^ 31) : own_bk (own_byte w) pn k = own_b w (Int32.ofNat pn + Int32.ofNat k) := by
  unfold own_bk own_b own_byte
  rw [← Int32.ofNat_add]
  by_cases h8 : pn + k < 8
  · rw [if_pos h8, if_pos ((own_lt8 h).mpr h8)]
  · rw [if_neg h8, if_neg (fun q => h8 ((own_lt8 h).mp q))]
theorem own_step (pn k : Nat) : Int32.ofNat (pn + (k + 1)) = Int32.ofNat (pn + k) + (1 : Int32) := Int32.ofNat_add (pn + k) 1
theorem own_pp (a : Int32) : ∃ k : Nat, k ≤ 9 ∧ Int32.ofNat k = ((a &&& (15 : Int32)) % (10 : Int32)) := by
  have m := c_mask a (15 : Int32) 4 (by decide) (by decide)
  have r := (c_irem (a &&& (15 : Int32)) (10 : Int32) 10 rfl).1 (by omega)
  refine ⟨((a &&& (15 : Int32)) % (10 : Int32)).toInt.toNat, by omega, ?_⟩
  apply Int32.toInt_inj.mp
  rw [Int32.toInt_ofNat_of_lt (by omega)]
  omega
theorem own_m7 {b : Int32} (h : ¬ b < (0 : Int32)) (h2 : b.toInt ≤ 127) : (b &&& (127 : Int32)) = b := by
  have m := c_mask b (127 : Int32) 7 (by decide) (by decide)
  have h3 : ¬ b.toInt < 0 := fun q => h (Int32.lt_iff_toInt_lt.mpr q)
  apply Int32.toInt_inj.mp
  omega
theorem own_z (x : Int64) : ((0 : Int64) ||| (x <<< ((0 : Int32) &&& 0x3f).toInt64)) = x := by
  rw [Int64.zero_or]
  show x <<< (0 : Int64) = x
  exact Int64.shiftLeft_zero
theorem own_acc {v : Int64} {x : Int32} {q : Int32} {k : Nat} {P : Int} (hk : q.toBitVec.toNat % 64 = k) (hk2 : k ≤ 28) (hP : P = (2 ^ k : Nat)) (hP2 : P ≤ 268435456) (h0 : 0 ≤ v.toInt) (h1 : v.toInt < P) : (v ||| (((x &&& (127 : Int32)).toInt64) <<< (q &&& 0x3f).toInt64)).toInt = v.toInt + (x.toInt % 128) * P := by
  have m := c_mask x (127 : Int32) 7 (by decide) (by decide)
  have e1 := c_i2l (x &&& (127 : Int32))
  have s := c_lshl ((x &&& (127 : Int32)).toInt64) q k hk
  rw [← hP, e1, m] at s
  have r1 := rng64 (((x &&& (127 : Int32)).toInt64) <<< (q &&& 0x3f).toInt64)
  have hm : 0 ≤ x.toInt % ((2 ^ 7 : Nat) : Int) ∧ x.toInt % ((2 ^ 7 : Nat) : Int) ≤ 127 := by omega
  have hPp : 0 < P := by omega
  have u1 : 0 ≤ (x.toInt % ((2 ^ 7 : Nat) : Int)) * P := Int.mul_nonneg hm.1 (by omega)
  have u2 : (x.toInt % ((2 ^ 7 : Nat) : Int)) * P ≤ 127 * 268435456 := Int.mul_le_mul hm.2 hP2 (by omega) (by decide)
  have e2 : (((x &&& (127 : Int32)).toInt64) <<< (q &&& 0x3f).toInt64).toInt = (x.toInt % ((2 ^ 7 : Nat) : Int)) * P := by
    generalize (x.toInt % ((2 ^ 7 : Nat) : Int)) * P = t at *
    omega
  have o := c_orL' v (((x &&& (127 : Int32)).toInt64) <<< (q &&& 0x3f).toInt64) k (by omega) P hP (by rw [e2]; exact Int.mul_emod_left _ _) h0 h1
  have r2 := rng64 (v ||| (((x &&& (127 : Int32)).toInt64) <<< (q &&& 0x3f).toInt64))
  rw [e2] at o
  rw [show ((2 ^ 7 : Nat) : Int) = 128 from rfl] at *
  generalize (x.toInt % 128) * P = t at *
  omega
theorem own_absent {b : Int32} (h : -128 ≤ b.toInt) : ¬ b = (-1000 : Int32) := fun q => by
  rw [q] at h
  exact absurd h (by decide)
theorem own_d1_0 : decode method_2_code 0 = .ok (.iload_n 2, 1) := by decide +kernel
theorem own_d1_1 : decode method_2_code 1 = .ok (.bipush 8, 2) := by decide +kernel
theorem own_d1_3 : decode method_2_code 3 = .ok (.if_icmp .ge 12, 3) := by decide +kernel
theorem own_d1_6 : decode method_2_code 6 = .ok (.lload_n 0, 1) := by decide +kernel
theorem own_d1_7 : decode method_2_code 7 = .ok (.bipush 8, 2) := by decide +kernel
theorem own_d1_9 : decode method_2_code 9 = .ok (.iload_n 2, 1) := by decide +kernel
theorem own_d1_10 : decode method_2_code 10 = .ok (.imul, 1) := by decide +kernel
theorem own_d1_11 : decode method_2_code 11 = .ok (.lushr, 1) := by decide +kernel
theorem own_d1_12 : decode method_2_code 12 = .ok (.l2i, 1) := by decide +kernel
theorem own_d1_13 : decode method_2_code 13 = .ok (.i2b, 1) := by decide +kernel
theorem own_d1_14 : decode method_2_code 14 = .ok (.ireturn, 1) := by decide +kernel
theorem own_d1_15 : decode method_2_code 15 = .ok (.sipush (-1000), 3) := by decide +kernel
theorem own_d1_18 : decode method_2_code 18 = .ok (.ireturn, 1) := by decide +kernel
theorem own_pn0 : plainName "com/example/ulebb/ulebb/dex/CursorUleb128PinLaw" = true := by first | (simp [plainName, overriddenIn]; done) | decide +kernel
theorem own_ef1 (m : MethodId) (x0 : Int64) (x1 : Int32) : entryFrame m #[(.long x0), (.int x1)] 3 = mkF m 0 #[.val (.long x0), .second, .val (.int x1)] [] := by first | (simp [entryFrame, mkF, argsToLocals, Value.category]; done) | rfl
def own_Q1 (Z : State) (w1 : Int64) (i1 : Int32) (h0 : Heap) (n0 : Nat) (v : Option Value) (h : Heap) (L : List Loc) : Prop := v = some (.int (own_b w1 i1)) ∧ Fr n0 L ∧ h = h0
set_option maxRecDepth 65536 in
set_option maxHeartbeats 40000000 in
theorem own_rm1 (l : Launch) (Z : State) (a0 : Array Value) (hw : ∀ d ∈ tables_1, d.before a0 Z = true) (ws : List Jvm.Cond) (w1 : Int64) (i1 : Int32) (h0 : Heap) (n0 : Nat) (Z0 : n0 ≤ h0.size) :
    MetFree l (⟨"com/example/ulebb/ulebb/dex/CursorUleb128PinLaw", "b", "(JI)I"⟩ : MethodName) (head1 (Jvm.Cond.code (⟨"com/example/ulebb/ulebb/dex/CursorUleb128PinLaw", "b", "(JI)I"⟩ : MethodName) method_2_code 3 (some .int) :: ws) ({ frames := 0, cells := 0, slots := 0, locals := 0 } : Room)) (fun a U => a = #[(.long w1), (.int i1)] ∧ Z.Warmed39 U.vm ∧ U.heap = h0) (fun _ _ _ _ _ => True) (fun _ U o U' => ∃ v L, o = .returned v ∧ own_Q1 Z w1 i1 h0 n0 v U'.heap L ∧ FrameEnd U o U' L ({ frames := 0, cells := 0, slots := 0, locals := 0 } : Room).cells ({ frames := 0, cells := 0, slots := 0, locals := 0 } : Room).slots) := by
  refine MetFree.of_bodySF (plainFor_of_name own_pn0) hisR ?_
  intro p e s m args below meth c s₁ Bd hml0 hP hK
  obtain ⟨rfl, hZ, hh⟩ := hP
  have hx := Bd.exec
  have hby := Bd.bytes
  have hml : c.maxLocals = 3 := hml0
  have hown : s.vm.findClass "com/example/ulebb/ulebb/dex/CursorUleb128PinLaw" = some m.cls := findClass_of_methodNamed Bd.named
  have hnm := (name_of_methodNamed Bd.named Bd.method).1
  have X0 : Stand p l e ({ frames := 0, cells := 0, slots := 0, locals := 0 } : Room) s m #[(.long w1), (.int i1)] below meth c s₁ [] 0 0 := Stand.of_body Bd
  have e0 : s₁.heap = h0 := by rw [← hh, Bd.state]; rfl
  have N0 := Fr.nil n0
  have K0 := Keep.refl h0 []
  have pre0 : ∀ t, Steps p.tables e below (s₁.setTop (mkF m 0 #[.val (.long w1), .second, .val (.int i1)] [])) t → Steps p.tables e below (s₁.setTop (entryFrame m #[(.long w1), (.int i1)] 3)) t := fun t kt0 => castTop (own_ef1 m (w1) (i1)) kt0
  have pre1 : ∀ t, Steps p.tables e below (s₁.setTop (mkF m 3 #[.val (.long w1), .second, .val (.int i1)] [(.int (8 : Int32)), (.int i1)])) t → Steps p.tables e below (s₁.setTop (entryFrame m #[(.long w1), (.int i1)] 3)) t := by
    intro t kt
    refine pre0 t ?_
    show Steps p.tables e below (s₁.setTop (mkF m 0 #[.val (.long w1), .second, .val (.int i1)] [])) _
    refine XS.iloadN X0.here hx rfl (hb hby own_d1_0) rfl ?_
    show Steps p.tables e below (s₁.setTop (mkF m 1 #[.val (.long w1), .second, .val (.int i1)] [(.int i1)])) _
    refine XS.bipush X0.here hx rfl (hb hby own_d1_1) ?_
    exact kt
  by_cases hc3 : i1 < (8 : Int32)
  case pos =>
    obtain ⟨fs, hr, hrun, hended, hW, hsame⟩ := X0.leave (v := some (.int ((((w1.toUInt64 >>> (((8 : Int32) * i1) &&& 0x3f).toInt64.toUInt64).toInt64).toInt32).toInt8.toInt32))) (fun h => by rw [Bd.returns] at h; cases h) (BodyLoose.notSynchronized Bd)
    refine ⟨_, _, pre1 _ ?_, hrun, hended, _, _, rfl, ?_, ⟨_, rfl⟩, hW, hsame.mono (by decide) (by decide)⟩
    · skip
      show Steps p.tables e below (s₁.setTop (mkF m 3 #[.val (.long w1), .second, .val (.int i1)] [(.int (8 : Int32)), (.int i1)])) _
      refine XS.icmpNo X0.here hx rfl (hb hby own_d1_3) rfl (tlt hc3).2.1 ?_
      show Steps p.tables e below (s₁.setTop (mkF m 6 #[.val (.long w1), .second, .val (.int i1)] [])) _
      refine XS.lloadN X0.here hx rfl (hb hby own_d1_6) rfl ?_
      show Steps p.tables e below (s₁.setTop (mkF m 7 #[.val (.long w1), .second, .val (.int i1)] [(.long w1)])) _
      refine XS.bipush X0.here hx rfl (hb hby own_d1_7) ?_
      show Steps p.tables e below (s₁.setTop (mkF m 9 #[.val (.long w1), .second, .val (.int i1)] [(.int (8 : Int32)), (.long w1)])) _
      refine XS.iloadN X0.here hx rfl (hb hby own_d1_9) rfl ?_
      show Steps p.tables e below (s₁.setTop (mkF m 10 #[.val (.long w1), .second, .val (.int i1)] [(.int i1), (.int (8 : Int32)), (.long w1)])) _
      refine XS.imul X0.here hx rfl (hb hby own_d1_10) rfl ?_
      show Steps p.tables e below (s₁.setTop (mkF m 11 #[.val (.long w1), .second, .val (.int i1)] [(.int ((8 : Int32) * i1)), (.long w1)])) _
      refine XS.lushr X0.here hx rfl (hb hby own_d1_11) rfl ?_
      show Steps p.tables e below (s₁.setTop (mkF m 12 #[.val (.long w1), .second, .val (.int i1)] [(.long ((w1.toUInt64 >>> (((8 : Int32) * i1) &&& 0x3f).toInt64.toUInt64).toInt64))])) _
      refine XS.l2i X0.here hx rfl (hb hby own_d1_12) rfl ?_
      show Steps p.tables e below (s₁.setTop (mkF m 13 #[.val (.long w1), .second, .val (.int i1)] [(.int (((w1.toUInt64 >>> (((8 : Int32) * i1) &&& 0x3f).toInt64.toUInt64).toInt64).toInt32))])) _
      refine XS.i2b X0.here hx rfl (hb hby own_d1_13) rfl ?_
      show Steps p.tables e below (s₁.setTop (mkF m 14 #[.val (.long w1), .second, .val (.int i1)] [(.int ((((w1.toUInt64 >>> (((8 : Int32) * i1) &&& 0x3f).toInt64.toUInt64).toInt64).toInt32).toInt8.toInt32))])) _
      exact retI X0 hx Bd.returns (hb hby own_d1_14) hr
    · show own_Q1 Z w1 i1 h0 n0 _ s₁.heap _
      rw [e0]
      refine ⟨?_, N0, rfl⟩
      simp [own_b, hc3]
  case neg =>
    obtain ⟨fs, hr, hrun, hended, hW, hsame⟩ := X0.leave (v := some (.int (-1000 : Int32))) (fun h => by rw [Bd.returns] at h; cases h) (BodyLoose.notSynchronized Bd)
    refine ⟨_, _, pre1 _ ?_, hrun, hended, _, _, rfl, ?_, ⟨_, rfl⟩, hW, hsame.mono (by decide) (by decide)⟩
    · skip
      show Steps p.tables e below (s₁.setTop (mkF m 3 #[.val (.long w1), .second, .val (.int i1)] [(.int (8 : Int32)), (.int i1)])) _
      refine XS.icmpYes X0.here hx rfl (pc0 := 3) (pc' := 15) rfl (hb hby own_d1_3) rfl (flt hc3).2.1 (by decide) (by decide) ?_
      show Steps p.tables e below (s₁.setTop (mkF m 15 #[.val (.long w1), .second, .val (.int i1)] [])) _
      refine XS.sipush X0.here hx rfl (hb hby own_d1_15) ?_
      show Steps p.tables e below (s₁.setTop (mkF m 18 #[.val (.long w1), .second, .val (.int i1)] [(.int (-1000 : Int32))])) _
      exact retI X0 hx Bd.returns (hb hby own_d1_18) hr
    · show own_Q1 Z w1 i1 h0 n0 _ s₁.heap _
      rw [e0]
      refine ⟨?_, N0, rfl⟩
      simp [own_b, hc3]
theorem own_d2_0 : decode prog_37_method_1_code 0 = .ok (.aload_n 0, 1) := by decide +kernel
theorem own_d2_1 : decode prog_37_method_1_code 1 = .ok (.invokespecial 1, 3) := by decide +kernel
theorem own_d2_4 : decode prog_37_method_1_code 4 = .ok (.aload_n 0, 1) := by decide +kernel
theorem own_d2_5 : decode prog_37_method_1_code 5 = .ok (.aload_n 1, 1) := by decide +kernel
theorem own_d2_6 : decode prog_37_method_1_code 6 = .ok (.putfield 7, 3) := by decide +kernel
theorem own_d2_9 : decode prog_37_method_1_code 9 = .ok (.return_, 1) := by decide +kernel
theorem own_pn1 : plainName "com/example/ulebb/ulebb/dex/Cursor" = true := by first | (simp [plainName, overriddenIn]; done) | decide +kernel
theorem own_ef2 (m : MethodId) (x0 : Addr) (x1 : Addr) : entryFrame m #[(.ref x0), (.ref x1)] 2 = mkF m 0 #[.val (.ref x0), .val (.ref x1)] [] := by first | (simp [entryFrame, mkF, argsToLocals, Value.category]; done) | rfl
def own_Q2 (Z : State) (a1 : Addr) (bw : Addr) (h0 : Heap) (n0 : Nat) (v : Option Value) (h : Heap) (L : List Loc) : Prop := v = none ∧ Fr n0 L ∧ Keep h0 h [a1] ∧ Exa Z h a1 "com/example/ulebb/ulebb/dex/Cursor" ∧ Fld Z h a1 "com/example/ulebb/ulebb/dex/Cursor" "bytes" "[B" (.ref bw) ∧ Fld Z h a1 "com/example/ulebb/ulebb/dex/Cursor" "position" "I" (.int (0 : Int32))
set_option maxRecDepth 65536 in
set_option maxHeartbeats 40000000 in
theorem own_rm2 (l : Launch) (Z : State) (a0 : Array Value) (hw : ∀ d ∈ tables_1, d.before a0 Z = true) (ws : List Jvm.Cond) (a1 : Addr) (bw : Addr) (h0 : Heap) (n0 : Nat) (Z0 : n0 ≤ h0.size) (E_a1 : Exa Z h0 a1 "com/example/ulebb/ulebb/dex/Cursor") (F_bytes : Fld Z h0 a1 "com/example/ulebb/ulebb/dex/Cursor" "bytes" "[B" .null) (F_position : Fld Z h0 a1 "com/example/ulebb/ulebb/dex/Cursor" "position" "I" (.int (0 : Int32))) (g_a1 : n0 ≤ a1) :
    MetFree l (⟨"com/example/ulebb/ulebb/dex/Cursor", "<init>", "([B)V"⟩ : MethodName) (head1 (Jvm.Cond.code (⟨"com/example/ulebb/ulebb/dex/Cursor", "<init>", "([B)V"⟩ : MethodName) prog_37_method_1_code 2 none :: ws) ({ frames := 1, cells := 0, slots := 0, locals := 12 } : Room)) (fun a U => a = #[(.ref a1), (.ref bw)] ∧ Z.Warmed39 U.vm ∧ U.heap = h0) (fun _ _ _ _ _ => True) (fun _ U o U' => ∃ v L, o = .returned v ∧ own_Q2 Z a1 bw h0 n0 v U'.heap L ∧ FrameEnd U o U' L ({ frames := 1, cells := 0, slots := 0, locals := 12 } : Room).cells ({ frames := 1, cells := 0, slots := 0, locals := 12 } : Room).slots) := by
  refine MetFree.of_bodySF (plainFor_of_name own_pn1) hisR ?_
  intro p e s m args below meth c s₁ Bd hml0 hP hK
  obtain ⟨rfl, hZ, hh⟩ := hP
  have hx := Bd.exec
  have hby := Bd.bytes
  have hml : c.maxLocals = 2 := hml0
  have hown : s.vm.findClass "com/example/ulebb/ulebb/dex/Cursor" = some m.cls := findClass_of_methodNamed Bd.named
  have hnm := (name_of_methodNamed Bd.named Bd.method).1
  have X0 : Stand p l e ({ frames := 1, cells := 0, slots := 0, locals := 12 } : Room) s m #[(.ref a1), (.ref bw)] below meth c s₁ [] 0 0 := Stand.of_body Bd
  have e0 : s₁.heap = h0 := by rw [← hh, Bd.state]; rfl
  have N0 := Fr.nil n0
  have K0 := Keep.refl h0 [a1]
  have pre0 : ∀ t, Steps p.tables e below (s₁.setTop (mkF m 0 #[.val (.ref a1), .val (.ref bw)] [])) t → Steps p.tables e below (s₁.setTop (entryFrame m #[(.ref a1), (.ref bw)] 2)) t := fun t kt0 => castTop (own_ef2 m (a1) (bw)) kt0
  obtain ⟨T1, X1, e1, st1⟩ := initO X0 hx hZ hown (hw _ (List.mem_of_getElem? (i := 12) rfl)) (hw _ (List.mem_of_getElem? (i := 13) rfl)) (hw _ (List.mem_of_getElem? (i := 14) rfl)) e0 (g := (mkF m 1 #[.val (.ref a1), .val (.ref bw)] [(.ref a1)])) rfl (by rw [hml]; rfl) rfl (hb hby own_d2_1) (by decide) (W := 0) (by show 2 * 0 + _ ≤ _; exact Nat.le_of_eq rfl) (by decide)
  obtain ⟨T2, h2, X2, e2, W2, st2⟩ := putF X1 hx hZ hown (host := "") (Or.inl (hw _ (List.mem_of_getElem? (i := 15) rfl))) Via.refl e1 F_bytes E_a1 (Or.inr ⟨(hw _ (List.mem_of_getElem? (i := 16) rfl)), rfl, hnm⟩) (hw _ (List.mem_of_getElem? (i := 7) rfl)) (ty := (.array .byte)) (by decide) rfl rfl (g := (mkF m 6 #[.val (.ref a1), .val (.ref bw)] [(.ref bw), (.ref a1)])) rfl rfl (hb hby own_d2_6)
  have E_a1 := E_a1.wr W2
  have F_bytes := F_bytes.same W2
  have F_position := F_position.other W2 (Or.inr (slot_ne (Or.inl (hw _ (List.mem_of_getElem? (i := 23) rfl))) (Or.inr (hw _ (List.mem_of_getElem? (i := 16) rfl))) (by decide) (t := .int) (t' := (.array .byte)) (by decide) (by decide)))
  have K3 := K0.wr W2 (Or.inl (List.mem_of_getElem? (i := 0) rfl))
  have Z4 := Nat.le_trans Z0 (Keep.of_wr W2).1
  have N5 := Fr.snoc X2 N0 g_a1
  obtain ⟨fs, hr, hrun, hended, hW, hsame⟩ := X2.leave (v := none) (fun _ => rfl) (BodyLoose.notSynchronized Bd)
  refine ⟨_, _, pre0 _ ?_, hrun, hended, _, _, rfl, ?_, ⟨_, rfl⟩, hW, hsame.mono (by decide) (by decide)⟩
  · skip
    show Steps p.tables e below (s₁.setTop (mkF m 0 #[.val (.ref a1), .val (.ref bw)] [])) _
    refine XS.aloadN X0.here hx rfl (hb hby own_d2_0) rfl rfl ?_
    show Steps p.tables e below (s₁.setTop (mkF m 1 #[.val (.ref a1), .val (.ref bw)] [(.ref a1)])) _
    refine st1 _ ?_
    show Steps p.tables e below (T1.setTop (mkF m 4 #[.val (.ref a1), .val (.ref bw)] [])) _
    refine XS.aloadN X1.here hx rfl (hb hby own_d2_4) rfl rfl ?_
    show Steps p.tables e below (T1.setTop (mkF m 5 #[.val (.ref a1), .val (.ref bw)] [(.ref a1)])) _
    refine XS.aloadN X1.here hx rfl (hb hby own_d2_5) rfl rfl ?_
    show Steps p.tables e below (T1.setTop (mkF m 6 #[.val (.ref a1), .val (.ref bw)] [(.ref bw), (.ref a1)])) _
    refine st2 _ ?_
    show Steps p.tables e below (T2.setTop (mkF m 9 #[.val (.ref a1), .val (.ref bw)] [])) _
    exact X2.returnOut hx Bd.returns (hb hby own_d2_9) hr
  · show own_Q2 Z a1 bw h0 n0 _ T2.heap _
    rw [e2]
    exact ⟨rfl, N5, K3, E_a1, F_bytes, F_position⟩
theorem own_d4_0 : decode prog_37_method_7_code 0 = .ok (.aload_n 0, 1) := by decide +kernel
theorem own_d4_1 : decode prog_37_method_7_code 1 = .ok (.iload_n 1, 1) := by decide +kernel
theorem own_d4_2 : decode prog_37_method_7_code 2 = .ok (.putfield 45, 3) := by decide +kernel
theorem own_d4_5 : decode prog_37_method_7_code 5 = .ok (.aload_n 0, 1) := by decide +kernel
theorem own_d4_6 : decode prog_37_method_7_code 6 = .ok (.areturn, 1) := by decide +kernel
theorem own_ef4 (m : MethodId) (x0 : Addr) (x1 : Int32) : entryFrame m #[(.ref x0), (.int x1)] 2 = mkF m 0 #[.val (.ref x0), .val (.int x1)] [] := by first | (simp [entryFrame, mkF, argsToLocals, Value.category]; done) | rfl
def own_Q4 (Z : State) (a1 : Addr) (p2 : Int32) (bw : Addr) (p0 : Int32) (h0 : Heap) (n0 : Nat) (v : Option Value) (h : Heap) (L : List Loc) : Prop := v = some (.ref a1) ∧ Fr n0 L ∧ Keep h0 h [a1] ∧ Exa Z h a1 "com/example/ulebb/ulebb/dex/Cursor" ∧ Fld Z h a1 "com/example/ulebb/ulebb/dex/Cursor" "bytes" "[B" (.ref bw) ∧ Fld Z h a1 "com/example/ulebb/ulebb/dex/Cursor" "position" "I" (.int p2)
set_option maxRecDepth 65536 in
set_option maxHeartbeats 40000000 in
theorem own_rm4 (l : Launch) (Z : State) (a0 : Array Value) (hw : ∀ d ∈ tables_1, d.before a0 Z = true) (ws : List Jvm.Cond) (a1 : Addr) (p2 : Int32) (bw : Addr) (p0 : Int32) (h0 : Heap) (n0 : Nat) (Z0 : n0 ≤ h0.size) (E_a1 : Exa Z h0 a1 "com/example/ulebb/ulebb/dex/Cursor") (F_bytes : Fld Z h0 a1 "com/example/ulebb/ulebb/dex/Cursor" "bytes" "[B" (.ref bw)) (F_position : Fld Z h0 a1 "com/example/ulebb/ulebb/dex/Cursor" "position" "I" (.int p0)) (g_a1 : n0 ≤ a1) :
    MetFree l (⟨"com/example/ulebb/ulebb/dex/Cursor", "position", "(I)Lcom/example/ulebb/ulebb/dex/Cursor;"⟩ : MethodName) (head1 (Jvm.Cond.code (⟨"com/example/ulebb/ulebb/dex/Cursor", "position", "(I)Lcom/example/ulebb/ulebb/dex/Cursor;"⟩ : MethodName) prog_37_method_7_code 2 (some (.object "com/example/ulebb/ulebb/dex/Cursor")) :: ws) ({ frames := 0, cells := 0, slots := 0, locals := 0 } : Room)) (fun a U => a = #[(.ref a1), (.int p2)] ∧ Z.Warmed39 U.vm ∧ U.heap = h0) (fun _ _ _ _ _ => True) (fun _ U o U' => ∃ v L, o = .returned v ∧ own_Q4 Z a1 p2 bw p0 h0 n0 v U'.heap L ∧ FrameEnd U o U' L ({ frames := 0, cells := 0, slots := 0, locals := 0 } : Room).cells ({ frames := 0, cells := 0, slots := 0, locals := 0 } : Room).slots) := by
  refine MetFree.of_bodySF (plainFor_of_name own_pn1) hisR ?_
  intro p e s m args below meth c s₁ Bd hml0 hP hK
  obtain ⟨rfl, hZ, hh⟩ := hP
  have hx := Bd.exec
  have hby := Bd.bytes
  have hml : c.maxLocals = 2 := hml0
  have hown : s.vm.findClass "com/example/ulebb/ulebb/dex/Cursor" = some m.cls := findClass_of_methodNamed Bd.named
  have hnm := (name_of_methodNamed Bd.named Bd.method).1
  have X0 : Stand p l e ({ frames := 0, cells := 0, slots := 0, locals := 0 } : Room) s m #[(.ref a1), (.int p2)] below meth c s₁ [] 0 0 := Stand.of_body Bd
  have e0 : s₁.heap = h0 := by rw [← hh, Bd.state]; rfl
  have N0 := Fr.nil n0
  have K0 := Keep.refl h0 [a1]
  have pre0 : ∀ t, Steps p.tables e below (s₁.setTop (mkF m 0 #[.val (.ref a1), .val (.int p2)] [])) t → Steps p.tables e below (s₁.setTop (entryFrame m #[(.ref a1), (.int p2)] 2)) t := fun t kt0 => castTop (own_ef4 m (a1) (p2)) kt0
  obtain ⟨T1, h1, X1, e1, W1, st1⟩ := putF X0 hx hZ hown (host := "") (Or.inl (hw _ (List.mem_of_getElem? (i := 22) rfl))) Via.refl e0 F_position E_a1 (Or.inl (hw _ (List.mem_of_getElem? (i := 23) rfl))) (hw _ (List.mem_of_getElem? (i := 7) rfl)) (ty := .int) (by decide) rfl rfl (g := (mkF m 2 #[.val (.ref a1), .val (.int p2)] [(.int p2), (.ref a1)])) rfl rfl (hb hby own_d4_2)
  have E_a1 := E_a1.wr W1
  have F_bytes := F_bytes.other W1 (Or.inr (slot_ne (Or.inr (hw _ (List.mem_of_getElem? (i := 16) rfl))) (Or.inl (hw _ (List.mem_of_getElem? (i := 23) rfl))) (by decide) (t := (.array .byte)) (t' := .int) (by decide) (by decide)))
  have F_position := F_position.same W1
  have K2 := K0.wr W1 (Or.inl (List.mem_of_getElem? (i := 0) rfl))
  have Z3 := Nat.le_trans Z0 (Keep.of_wr W1).1
  have N4 := Fr.snoc X1 N0 g_a1
  obtain ⟨fs, hr, hrun, hended, hW, hsame⟩ := X1.leave (v := some (.ref a1)) (fun h => by rw [Bd.returns] at h; cases h) (BodyLoose.notSynchronized Bd)
  refine ⟨_, _, pre0 _ ?_, hrun, hended, _, _, rfl, ?_, ⟨_, rfl⟩, hW, hsame.mono (by decide) (by decide)⟩
  · skip
    show Steps p.tables e below (s₁.setTop (mkF m 0 #[.val (.ref a1), .val (.int p2)] [])) _
    refine XS.aloadN X0.here hx rfl (hb hby own_d4_0) rfl rfl ?_
    show Steps p.tables e below (s₁.setTop (mkF m 1 #[.val (.ref a1), .val (.int p2)] [(.ref a1)])) _
    refine XS.iloadN X0.here hx rfl (hb hby own_d4_1) rfl ?_
    show Steps p.tables e below (s₁.setTop (mkF m 2 #[.val (.ref a1), .val (.int p2)] [(.int p2), (.ref a1)])) _
    refine st1 _ ?_
    show Steps p.tables e below (T1.setTop (mkF m 5 #[.val (.ref a1), .val (.int p2)] [])) _
    refine XS.aloadN X1.here hx rfl (hb hby own_d4_5) rfl rfl ?_
    show Steps p.tables e below (T1.setTop (mkF m 6 #[.val (.ref a1), .val (.int p2)] [(.ref a1)])) _
    jvm_step X1.here [X1.here.top, hx, (hb hby own_d4_6), X1.method', Bd.returns, Value.isRef, FieldType.isReference]
    first | (intro acts; rw [hr _ acts rfl rfl rfl]) | rw [hr _ _ rfl rfl rfl]
    exact Steps.refl _
  · show own_Q4 Z a1 p2 bw p0 h0 n0 _ T1.heap _
    rw [e1]
    exact ⟨rfl, N4, K2, E_a1, F_bytes, F_position⟩
theorem own_d6_0 : decode prog_37_method_6_code 0 = .ok (.aload_n 0, 1) := by decide +kernel
theorem own_d6_1 : decode prog_37_method_6_code 1 = .ok (.getfield 45, 3) := by decide +kernel
theorem own_d6_4 : decode prog_37_method_6_code 4 = .ok (.ireturn, 1) := by decide +kernel
theorem own_ef6 (m : MethodId) (x0 : Addr) : entryFrame m #[(.ref x0)] 1 = mkF m 0 #[.val (.ref x0)] [] := by first | (simp [entryFrame, mkF, argsToLocals, Value.category]; done) | rfl
def own_Q6 (Z : State) (a1 : Addr) (p0 : Int32) (h0 : Heap) (n0 : Nat) (v : Option Value) (h : Heap) (L : List Loc) : Prop := v = some (.int p0) ∧ Fr n0 L ∧ h = h0
set_option maxRecDepth 65536 in
set_option maxHeartbeats 40000000 in
theorem own_rm6 (l : Launch) (Z : State) (a0 : Array Value) (hw : ∀ d ∈ tables_1, d.before a0 Z = true) (ws : List Jvm.Cond) (a1 : Addr) (p0 : Int32) (h0 : Heap) (n0 : Nat) (Z0 : n0 ≤ h0.size) (F_position : Fld Z h0 a1 "com/example/ulebb/ulebb/dex/Cursor" "position" "I" (.int p0)) :
    MetFree l (⟨"com/example/ulebb/ulebb/dex/Cursor", "position", "()I"⟩ : MethodName) (head1 (Jvm.Cond.code (⟨"com/example/ulebb/ulebb/dex/Cursor", "position", "()I"⟩ : MethodName) prog_37_method_6_code 1 (some .int) :: ws) ({ frames := 0, cells := 0, slots := 0, locals := 0 } : Room)) (fun a U => a = #[(.ref a1)] ∧ Z.Warmed39 U.vm ∧ U.heap = h0) (fun _ _ _ _ _ => True) (fun _ U o U' => ∃ v L, o = .returned v ∧ own_Q6 Z a1 p0 h0 n0 v U'.heap L ∧ FrameEnd U o U' L ({ frames := 0, cells := 0, slots := 0, locals := 0 } : Room).cells ({ frames := 0, cells := 0, slots := 0, locals := 0 } : Room).slots) := by
  refine MetFree.of_bodySF (plainFor_of_name own_pn1) hisR ?_
  intro p e s m args below meth c s₁ Bd hml0 hP hK
  obtain ⟨rfl, hZ, hh⟩ := hP
  have hx := Bd.exec
  have hby := Bd.bytes
  have hml : c.maxLocals = 1 := hml0
  have hown : s.vm.findClass "com/example/ulebb/ulebb/dex/Cursor" = some m.cls := findClass_of_methodNamed Bd.named
  have hnm := (name_of_methodNamed Bd.named Bd.method).1
  have X0 : Stand p l e ({ frames := 0, cells := 0, slots := 0, locals := 0 } : Room) s m #[(.ref a1)] below meth c s₁ [] 0 0 := Stand.of_body Bd
  have e0 : s₁.heap = h0 := by rw [← hh, Bd.state]; rfl
  have N0 := Fr.nil n0
  have K0 := Keep.refl h0 []
  have pre0 : ∀ t, Steps p.tables e below (s₁.setTop (mkF m 0 #[.val (.ref a1)] [])) t → Steps p.tables e below (s₁.setTop (entryFrame m #[(.ref a1)] 1)) t := fun t kt0 => castTop (own_ef6 m (a1)) kt0
  obtain ⟨T1, X1, e1, st1⟩ := getF X0 hx hZ hown (host := "") (Or.inl (hw _ (List.mem_of_getElem? (i := 22) rfl))) Via.refl e0 F_position (g := (mkF m 1 #[.val (.ref a1)] [(.ref a1)])) rfl rfl (hb hby own_d6_1)
  obtain ⟨fs, hr, hrun, hended, hW, hsame⟩ := X1.leave (v := some (.int p0)) (fun h => by rw [Bd.returns] at h; cases h) (BodyLoose.notSynchronized Bd)
  refine ⟨_, _, pre0 _ ?_, hrun, hended, _, _, rfl, ?_, ⟨_, rfl⟩, hW, hsame.mono (by decide) (by decide)⟩
  · skip
    show Steps p.tables e below (s₁.setTop (mkF m 0 #[.val (.ref a1)] [])) _
    refine XS.aloadN X0.here hx rfl (hb hby own_d6_0) rfl rfl ?_
    show Steps p.tables e below (s₁.setTop (mkF m 1 #[.val (.ref a1)] [(.ref a1)])) _
    refine st1 _ ?_
    show Steps p.tables e below (T1.setTop (mkF m 4 #[.val (.ref a1)] [(.int p0)])) _
    exact retI X1 hx Bd.returns (hb hby own_d6_4) hr
  · show own_Q6 Z a1 p0 h0 n0 _ T1.heap _
    rw [e1]
    exact ⟨rfl, N0, rfl⟩
theorem own_d5_0 : decode prog_37_method_13_code 0 = .ok (.aload_n 0, 1) := by decide +kernel
theorem own_d5_1 : decode prog_37_method_13_code 1 = .ok (.getfield 45, 3) := by decide +kernel
theorem own_d5_4 : decode prog_37_method_13_code 4 = .ok (.istore_n 1, 1) := by decide +kernel
theorem own_d5_5 : decode prog_37_method_13_code 5 = .ok (.lconst 0, 1) := by decide +kernel
theorem own_d5_6 : decode prog_37_method_13_code 6 = .ok (.lstore_n 2, 1) := by decide +kernel
theorem own_d5_7 : decode prog_37_method_13_code 7 = .ok (.iconst (-1), 1) := by decide +kernel
theorem own_d5_8 : decode prog_37_method_13_code 8 = .ok (.istore 4, 2) := by decide +kernel
theorem own_d5_10 : decode prog_37_method_13_code 10 = .ok (.iconst 0, 1) := by decide +kernel
theorem own_d5_11 : decode prog_37_method_13_code 11 = .ok (.istore 5, 2) := by decide +kernel
theorem own_d5_13 : decode prog_37_method_13_code 13 = .ok (.iload 4, 2) := by decide +kernel
theorem own_d5_15 : decode prog_37_method_13_code 15 = .ok (.ifCond .ge 48, 3) := by decide +kernel
theorem own_d5_18 : decode prog_37_method_13_code 18 = .ok (.iload 5, 2) := by decide +kernel
theorem own_d5_20 : decode prog_37_method_13_code 20 = .ok (.bipush 35, 2) := by decide +kernel
theorem own_d5_22 : decode prog_37_method_13_code 22 = .ok (.if_icmp .ge 41, 3) := by decide +kernel
theorem own_d5_25 : decode prog_37_method_13_code 25 = .ok (.iload_n 1, 1) := by decide +kernel
theorem own_d5_26 : decode prog_37_method_13_code 26 = .ok (.aload_n 0, 1) := by decide +kernel
theorem own_d5_27 : decode prog_37_method_13_code 27 = .ok (.getfield 7, 3) := by decide +kernel
theorem own_d5_30 : decode prog_37_method_13_code 30 = .ok (.arraylength, 1) := by decide +kernel
theorem own_d5_31 : decode prog_37_method_13_code 31 = .ok (.if_icmp .ge 32, 3) := by decide +kernel
theorem own_d5_34 : decode prog_37_method_13_code 34 = .ok (.aload_n 0, 1) := by decide +kernel
theorem own_d5_35 : decode prog_37_method_13_code 35 = .ok (.getfield 7, 3) := by decide +kernel
theorem own_d5_38 : decode prog_37_method_13_code 38 = .ok (.iload_n 1, 1) := by decide +kernel
theorem own_d5_39 : decode prog_37_method_13_code 39 = .ok (.iinc 1 1, 3) := by decide +kernel
theorem own_d5_42 : decode prog_37_method_13_code 42 = .ok (.baload, 1) := by decide +kernel
theorem own_d5_43 : decode prog_37_method_13_code 43 = .ok (.istore 4, 2) := by decide +kernel
theorem own_d5_45 : decode prog_37_method_13_code 45 = .ok (.lload_n 2, 1) := by decide +kernel
theorem own_d5_46 : decode prog_37_method_13_code 46 = .ok (.iload 4, 2) := by decide +kernel
theorem own_d5_48 : decode prog_37_method_13_code 48 = .ok (.bipush 127, 2) := by decide +kernel
theorem own_d5_50 : decode prog_37_method_13_code 50 = .ok (.iand, 1) := by decide +kernel
theorem own_d5_51 : decode prog_37_method_13_code 51 = .ok (.i2l, 1) := by decide +kernel
theorem own_d5_52 : decode prog_37_method_13_code 52 = .ok (.iload 5, 2) := by decide +kernel
theorem own_d5_54 : decode prog_37_method_13_code 54 = .ok (.lshl, 1) := by decide +kernel
theorem own_d5_55 : decode prog_37_method_13_code 55 = .ok (.lor, 1) := by decide +kernel
theorem own_d5_56 : decode prog_37_method_13_code 56 = .ok (.lstore_n 2, 1) := by decide +kernel
theorem own_d5_57 : decode prog_37_method_13_code 57 = .ok (.iinc 5 7, 3) := by decide +kernel
theorem own_d5_60 : decode prog_37_method_13_code 60 = .ok (.goto (-47), 3) := by decide +kernel
theorem own_d5_63 : decode prog_37_method_13_code 63 = .ok (.iload 4, 2) := by decide +kernel
theorem own_d5_65 : decode prog_37_method_13_code 65 = .ok (.ifCond .lt 15, 3) := by decide +kernel
theorem own_d5_68 : decode prog_37_method_13_code 68 = .ok (.lload_n 2, 1) := by decide +kernel
theorem own_d5_69 : decode prog_37_method_13_code 69 = .ok (.ldc2_w 58, 3) := by decide +kernel
theorem own_d5_72 : decode prog_37_method_13_code 72 = .ok (.lcmp, 1) := by decide +kernel
theorem own_d5_73 : decode prog_37_method_13_code 73 = .ok (.ifCond .gt 7, 3) := by decide +kernel
theorem own_d5_76 : decode prog_37_method_13_code 76 = .ok (.iconst 1, 1) := by decide +kernel
theorem own_d5_77 : decode prog_37_method_13_code 77 = .ok (.goto 4, 3) := by decide +kernel
theorem own_d5_80 : decode prog_37_method_13_code 80 = .ok (.iconst 0, 1) := by decide +kernel
theorem own_d5_81 : decode prog_37_method_13_code 81 = .ok (.istore 5, 2) := by decide +kernel
theorem own_d5_83 : decode prog_37_method_13_code 83 = .ok (.iload 5, 2) := by decide +kernel
theorem own_d5_85 : decode prog_37_method_13_code 85 = .ok (.ifCond .eq 8, 3) := by decide +kernel
theorem own_d5_88 : decode prog_37_method_13_code 88 = .ok (.aload_n 0, 1) := by decide +kernel
theorem own_d5_89 : decode prog_37_method_13_code 89 = .ok (.iload_n 1, 1) := by decide +kernel
theorem own_d5_90 : decode prog_37_method_13_code 90 = .ok (.putfield 45, 3) := by decide +kernel
theorem own_d5_93 : decode prog_37_method_13_code 93 = .ok (.iload 5, 2) := by decide +kernel
theorem own_d5_95 : decode prog_37_method_13_code 95 = .ok (.ifCond .eq 7, 3) := by decide +kernel
theorem own_d5_98 : decode prog_37_method_13_code 98 = .ok (.lload_n 2, 1) := by decide +kernel
theorem own_d5_99 : decode prog_37_method_13_code 99 = .ok (.goto 6, 3) := by decide +kernel
theorem own_d5_102 : decode prog_37_method_13_code 102 = .ok (.ldc2_w 60, 3) := by decide +kernel
theorem own_d5_105 : decode prog_37_method_13_code 105 = .ok (.lreturn, 1) := by decide +kernel
theorem own_ef5 (m : MethodId) (x0 : Addr) : entryFrame m #[(.ref x0)] 6 = mkF m 0 #[.val (.ref x0), .unset, .unset, .unset, .unset, .unset] [] := by first | (simp [entryFrame, mkF, argsToLocals, Value.category]; done) | rfl
def own_Q5 (Z : State) (a1 : Addr) (bw : Addr) (pn : Nat) (by_ : Nat → Int32) (h0 : Heap) (n0 : Nat) (v : Option Value) (h : Heap) (L : List Loc) : Prop := v = some (.long (own_val (own_bk by_ pn 0) (own_bk by_ pn 1) (own_bk by_ pn 2) (own_bk by_ pn 3) (own_bk by_ pn 4))) ∧ Fr n0 L ∧ Keep h0 h [a1] ∧ Exa Z h a1 "com/example/ulebb/ulebb/dex/Cursor" ∧ Fld Z h a1 "com/example/ulebb/ulebb/dex/Cursor" "bytes" "[B" (.ref bw) ∧ Fld Z h a1 "com/example/ulebb/ulebb/dex/Cursor" "position" "I" (.int ((Int32.ofNat pn) + (own_ln (own_bk by_ pn 0) (own_bk by_ pn 1) (own_bk by_ pn 2) (own_bk by_ pn 3) (own_bk by_ pn 4))))
set_option maxRecDepth 65536 in
set_option maxHeartbeats 40000000 in
theorem own_rm5 (l : Launch) (Z : State) (a0 : Array Value) (hw : ∀ d ∈ tables_1, d.before a0 Z = true) (ws : List Jvm.Cond) (a1 : Addr) (bw : Addr) (pn : Nat) (by_ : Nat → Int32) (h0 : Heap) (n0 : Nat) (Z0 : n0 ≤ h0.size) (E_a1 : Exa Z h0 a1 "com/example/ulebb/ulebb/dex/Cursor") (F_bytes : Fld Z h0 a1 "com/example/ulebb/ulebb/dex/Cursor" "bytes" "[B" (.ref bw)) (F_position : Fld Z h0 a1 "com/example/ulebb/ulebb/dex/Cursor" "position" "I" (.int (Int32.ofNat pn))) (g_a1 : n0 ≤ a1) (V_bw : own_AF Z h0 bw .byte 8 (fun i => .int (by_ i))) (neab : a1 ≠ bw) (hpn : pn ≤ 9) (hrg : ∀ i, i < 8 → -128 ≤ (by_ i).toInt ∧ (by_ i).toInt ≤ 127) :
    MetFree l (⟨"com/example/ulebb/ulebb/dex/Cursor", "uleb128", "()J"⟩ : MethodName) (head1 (Jvm.Cond.code (⟨"com/example/ulebb/ulebb/dex/Cursor", "uleb128", "()J"⟩ : MethodName) prog_37_method_13_code 6 (some .long) :: ws) ({ frames := 0, cells := 0, slots := 0, locals := 0 } : Room)) (fun a U => a = #[(.ref a1)] ∧ Z.Warmed39 U.vm ∧ U.heap = h0) (fun _ _ _ _ _ => True) (fun _ U o U' => ∃ v L, o = .returned v ∧ own_Q5 Z a1 bw pn by_ h0 n0 v U'.heap L ∧ FrameEnd U o U' L ({ frames := 0, cells := 0, slots := 0, locals := 0 } : Room).cells ({ frames := 0, cells := 0, slots := 0, locals := 0 } : Room).slots) := by
  refine MetFree.of_bodySF (plainFor_of_name own_pn1) hisR ?_
  intro p e s m args below meth c s₁ Bd hml0 hP hK
  obtain ⟨rfl, hZ, hh⟩ := hP
  have hx := Bd.exec
  have hby := Bd.bytes
  have hml : c.maxLocals = 6 := hml0
  have hown : s.vm.findClass "com/example/ulebb/ulebb/dex/Cursor" = some m.cls := findClass_of_methodNamed Bd.named
  have hnm := (name_of_methodNamed Bd.named Bd.method).1
  have X0 : Stand p l e ({ frames := 0, cells := 0, slots := 0, locals := 0 } : Room) s m #[(.ref a1)] below meth c s₁ [] 0 0 := Stand.of_body Bd
  have e0 : s₁.heap = h0 := by rw [← hh, Bd.state]; rfl
  have N0 := Fr.nil n0
  have K0 := Keep.refl h0 [a1]
  have pre0 : ∀ t, Steps p.tables e below (s₁.setTop (mkF m 0 #[.val (.ref a1), .unset, .unset, .unset, .unset, .unset] [])) t → Steps p.tables e below (s₁.setTop (entryFrame m #[(.ref a1)] 6)) t := fun t kt0 => castTop (own_ef5 m (a1)) kt0
  obtain ⟨T1, X1, e1, st1⟩ := getF X0 hx hZ hown (host := "") (Or.inl (hw _ (List.mem_of_getElem? (i := 22) rfl))) Via.refl e0 F_position (g := (mkF m 1 #[.val (.ref a1), .unset, .unset, .unset, .unset, .unset] [(.ref a1)])) rfl rfl (hb hby own_d5_1)
  have pre2 : ∀ t, Steps p.tables e below (T1.setTop (mkF m 13 #[.val (.ref a1), .val (.int (Int32.ofNat pn)), .val (.long (0 : Int64)), .second, .val (.int (-1 : Int32)), .val (.int (0 : Int32))] [])) t → Steps p.tables e below (s₁.setTop (entryFrame m #[(.ref a1)] 6)) t := by
    intro t kt
    refine pre0 t ?_
    show Steps p.tables e below (s₁.setTop (mkF m 0 #[.val (.ref a1), .unset, .unset, .unset, .unset, .unset] [])) _
    refine XS.aloadN X0.here hx rfl (hb hby own_d5_0) rfl rfl ?_
    show Steps p.tables e below (s₁.setTop (mkF m 1 #[.val (.ref a1), .unset, .unset, .unset, .unset, .unset] [(.ref a1)])) _
    refine st1 _ ?_
    show Steps p.tables e below (T1.setTop (mkF m 4 #[.val (.ref a1), .unset, .unset, .unset, .unset, .unset] [(.int (Int32.ofNat pn))])) _
    refine XS.istoreN X1.here hx rfl (hb hby own_d5_4) rfl (l' := #[.val (.ref a1), .val (.int (Int32.ofNat pn)), .unset, .unset, .unset, .unset]) rfl ?_
    show Steps p.tables e below (T1.setTop (mkF m 5 #[.val (.ref a1), .val (.int (Int32.ofNat pn)), .unset, .unset, .unset, .unset] [])) _
    refine XS.lconst X1.here hx rfl (hb hby own_d5_5) ?_
    show Steps p.tables e below (T1.setTop (mkF m 6 #[.val (.ref a1), .val (.int (Int32.ofNat pn)), .unset, .unset, .unset, .unset] [(.long (0 : Int64))])) _
    refine XS.lstoreN X1.here hx rfl (hb hby own_d5_6) rfl (l' := #[.val (.ref a1), .val (.int (Int32.ofNat pn)), .val (.long (0 : Int64)), .second, .unset, .unset]) rfl ?_
    show Steps p.tables e below (T1.setTop (mkF m 7 #[.val (.ref a1), .val (.int (Int32.ofNat pn)), .val (.long (0 : Int64)), .second, .unset, .unset] [])) _
    refine XS.iconst X1.here hx rfl (hb hby own_d5_7) ?_
    show Steps p.tables e below (T1.setTop (mkF m 8 #[.val (.ref a1), .val (.int (Int32.ofNat pn)), .val (.long (0 : Int64)), .second, .unset, .unset] [(.int (-1 : Int32))])) _
    refine XS.istore X1.here hx rfl (hb hby own_d5_8) rfl (l' := #[.val (.ref a1), .val (.int (Int32.ofNat pn)), .val (.long (0 : Int64)), .second, .val (.int (-1 : Int32)), .unset]) rfl ?_
    show Steps p.tables e below (T1.setTop (mkF m 10 #[.val (.ref a1), .val (.int (Int32.ofNat pn)), .val (.long (0 : Int64)), .second, .val (.int (-1 : Int32)), .unset] [])) _
    refine XS.iconst X1.here hx rfl (hb hby own_d5_10) ?_
    show Steps p.tables e below (T1.setTop (mkF m 11 #[.val (.ref a1), .val (.int (Int32.ofNat pn)), .val (.long (0 : Int64)), .second, .val (.int (-1 : Int32)), .unset] [(.int (0 : Int32))])) _
    refine XS.istore X1.here hx rfl (hb hby own_d5_11) rfl (l' := #[.val (.ref a1), .val (.int (Int32.ofNat pn)), .val (.long (0 : Int64)), .second, .val (.int (-1 : Int32)), .val (.int (0 : Int32))]) rfl ?_
    exact kt
  have pre3 : ∀ t, Steps p.tables e below (T1.setTop (mkF m 13 #[.val (.ref a1), .val (.int (Int32.ofNat (pn + 0))), .val (.long (0 : Int64)), .second, .val (.int (-1 : Int32)), .val (.int (0 : Int32))] [])) t → Steps p.tables e below (s₁.setTop (entryFrame m #[(.ref a1)] 6)) t := by rw [(rfl : (Int32.ofNat (pn + 0)) = (Int32.ofNat pn))]; exact pre2
  obtain ⟨T4, X4, e4, st4⟩ := getF X1 hx hZ hown (host := "") (Or.inl (hw _ (List.mem_of_getElem? (i := 15) rfl))) Via.refl e1 F_bytes (g := (mkF m 27 #[.val (.ref a1), .val (.int (Int32.ofNat (pn + 0))), .val (.long (0 : Int64)), .second, .val (.int (-1 : Int32)), .val (.int (0 : Int32))] [(.ref a1), (.int (Int32.ofNat (pn + 0)))])) rfl rfl (hb hby own_d5_27)
  have ld5 := (own_len X4 hx hZ e4 V_bw (z := (8 : Int32)) rfl (g := (mkF m 30 #[.val (.ref a1), .val (.int (Int32.ofNat (pn + 0))), .val (.long (0 : Int64)), .second, .val (.int (-1 : Int32)), .val (.int (0 : Int32))] [(.ref bw), (.int (Int32.ofNat (pn + 0)))])) rfl rfl (hb hby own_d5_30))
  have pre6 : ∀ t, Steps p.tables e below (T4.setTop (mkF m 31 #[.val (.ref a1), .val (.int (Int32.ofNat (pn + 0))), .val (.long (0 : Int64)), .second, .val (.int (-1 : Int32)), .val (.int (0 : Int32))] [(.int (8 : Int32)), (.int (Int32.ofNat (pn + 0)))])) t → Steps p.tables e below (s₁.setTop (entryFrame m #[(.ref a1)] 6)) t := by
    intro t kt
    refine pre3 t ?_
    show Steps p.tables e below (T1.setTop (mkF m 13 #[.val (.ref a1), .val (.int (Int32.ofNat (pn + 0))), .val (.long (0 : Int64)), .second, .val (.int (-1 : Int32)), .val (.int (0 : Int32))] [])) _
    refine XS.iload X1.here hx rfl (hb hby own_d5_13) rfl ?_
    show Steps p.tables e below (T1.setTop (mkF m 15 #[.val (.ref a1), .val (.int (Int32.ofNat (pn + 0))), .val (.long (0 : Int64)), .second, .val (.int (-1 : Int32)), .val (.int (0 : Int32))] [(.int (-1 : Int32))])) _
    refine XS.ifNo X1.here hx rfl (hb hby own_d5_15) rfl ((if0 _ _).trans (tlt (by decide)).2.1) ?_
    show Steps p.tables e below (T1.setTop (mkF m 18 #[.val (.ref a1), .val (.int (Int32.ofNat (pn + 0))), .val (.long (0 : Int64)), .second, .val (.int (-1 : Int32)), .val (.int (0 : Int32))] [])) _
    refine XS.iload X1.here hx rfl (hb hby own_d5_18) rfl ?_
    show Steps p.tables e below (T1.setTop (mkF m 20 #[.val (.ref a1), .val (.int (Int32.ofNat (pn + 0))), .val (.long (0 : Int64)), .second, .val (.int (-1 : Int32)), .val (.int (0 : Int32))] [(.int (0 : Int32))])) _
    refine XS.bipush X1.here hx rfl (hb hby own_d5_20) ?_
    show Steps p.tables e below (T1.setTop (mkF m 22 #[.val (.ref a1), .val (.int (Int32.ofNat (pn + 0))), .val (.long (0 : Int64)), .second, .val (.int (-1 : Int32)), .val (.int (0 : Int32))] [(.int (35 : Int32)), (.int (0 : Int32))])) _
    refine XS.icmpNo X1.here hx rfl (hb hby own_d5_22) rfl (tlt (by decide)).2.1 ?_
    show Steps p.tables e below (T1.setTop (mkF m 25 #[.val (.ref a1), .val (.int (Int32.ofNat (pn + 0))), .val (.long (0 : Int64)), .second, .val (.int (-1 : Int32)), .val (.int (0 : Int32))] [])) _
    refine XS.iloadN X1.here hx rfl (hb hby own_d5_25) rfl ?_
    show Steps p.tables e below (T1.setTop (mkF m 26 #[.val (.ref a1), .val (.int (Int32.ofNat (pn + 0))), .val (.long (0 : Int64)), .second, .val (.int (-1 : Int32)), .val (.int (0 : Int32))] [(.int (Int32.ofNat (pn + 0)))])) _
    refine XS.aloadN X1.here hx rfl (hb hby own_d5_26) rfl rfl ?_
    show Steps p.tables e below (T1.setTop (mkF m 27 #[.val (.ref a1), .val (.int (Int32.ofNat (pn + 0))), .val (.long (0 : Int64)), .second, .val (.int (-1 : Int32)), .val (.int (0 : Int32))] [(.ref a1), (.int (Int32.ofNat (pn + 0)))])) _
    refine st4 _ ?_
    show Steps p.tables e below (T4.setTop (mkF m 30 #[.val (.ref a1), .val (.int (Int32.ofNat (pn + 0))), .val (.long (0 : Int64)), .second, .val (.int (-1 : Int32)), .val (.int (0 : Int32))] [(.ref bw), (.int (Int32.ofNat (pn + 0)))])) _
    refine ld5 _ ?_
    exact kt
  by_cases hc31 : (Int32.ofNat (pn + 0)) < (8 : Int32)
  case pos =>
    have hp0 : pn + 0 < 8 := (own_lt8 (by omega)).mp hc31
    obtain ⟨T7, X7, e7, st7⟩ := getF X4 hx hZ hown (host := "") (Or.inl (hw _ (List.mem_of_getElem? (i := 15) rfl))) Via.refl e4 F_bytes (g := (mkF m 35 #[.val (.ref a1), .val (.int (Int32.ofNat (pn + 0))), .val (.long (0 : Int64)), .second, .val (.int (-1 : Int32)), .val (.int (0 : Int32))] [(.ref a1)])) rfl rfl (hb hby own_d5_35)
    have ld8 := (own_ldB X7 hx hZ e7 V_bw (j := (Int32.ofNat (pn + 0))) (own_ix (by omega)).1 (k := (pn + 0)) (own_ix (by omega)).2 hp0 (v := (.int (by_ (pn + 0)))) rfl (g := (mkF m 42 #[.val (.ref a1), .val (.int ((Int32.ofNat (pn + 0)) + (1 : Int32))), .val (.long (0 : Int64)), .second, .val (.int (-1 : Int32)), .val (.int (0 : Int32))] [(.int (Int32.ofNat (pn + 0))), (.ref bw)])) rfl rfl (hb hby own_d5_42))
    have pre9 : ∀ t, Steps p.tables e below (T7.setTop (mkF m 13 #[.val (.ref a1), .val (.int ((Int32.ofNat (pn + 0)) + (1 : Int32))), .val (.long ((0 : Int64) ||| ((((by_ (pn + 0)) &&& (127 : Int32)).toInt64) <<< ((0 : Int32) &&& 0x3f).toInt64))), .second, .val (.int (by_ (pn + 0))), .val (.int (7 : Int32))] [])) t → Steps p.tables e below (s₁.setTop (entryFrame m #[(.ref a1)] 6)) t := by
      intro t kt
      refine pre6 t ?_
      show Steps p.tables e below (T4.setTop (mkF m 31 #[.val (.ref a1), .val (.int (Int32.ofNat (pn + 0))), .val (.long (0 : Int64)), .second, .val (.int (-1 : Int32)), .val (.int (0 : Int32))] [(.int (8 : Int32)), (.int (Int32.ofNat (pn + 0)))])) _
      refine XS.icmpNo X4.here hx rfl (hb hby own_d5_31) rfl (tlt hc31).2.1 ?_
      show Steps p.tables e below (T4.setTop (mkF m 34 #[.val (.ref a1), .val (.int (Int32.ofNat (pn + 0))), .val (.long (0 : Int64)), .second, .val (.int (-1 : Int32)), .val (.int (0 : Int32))] [])) _
      refine XS.aloadN X4.here hx rfl (hb hby own_d5_34) rfl rfl ?_
      show Steps p.tables e below (T4.setTop (mkF m 35 #[.val (.ref a1), .val (.int (Int32.ofNat (pn + 0))), .val (.long (0 : Int64)), .second, .val (.int (-1 : Int32)), .val (.int (0 : Int32))] [(.ref a1)])) _
      refine st7 _ ?_
      show Steps p.tables e below (T7.setTop (mkF m 38 #[.val (.ref a1), .val (.int (Int32.ofNat (pn + 0))), .val (.long (0 : Int64)), .second, .val (.int (-1 : Int32)), .val (.int (0 : Int32))] [(.ref bw)])) _
      refine XS.iloadN X7.here hx rfl (hb hby own_d5_38) rfl ?_
      show Steps p.tables e below (T7.setTop (mkF m 39 #[.val (.ref a1), .val (.int (Int32.ofNat (pn + 0))), .val (.long (0 : Int64)), .second, .val (.int (-1 : Int32)), .val (.int (0 : Int32))] [(.int (Int32.ofNat (pn + 0))), (.ref bw)])) _
      refine XS.iinc X7.here hx rfl (hb hby own_d5_39) rfl (l' := #[.val (.ref a1), .val (.int ((Int32.ofNat (pn + 0)) + (1 : Int32))), .val (.long (0 : Int64)), .second, .val (.int (-1 : Int32)), .val (.int (0 : Int32))]) rfl ?_
      show Steps p.tables e below (T7.setTop (mkF m 42 #[.val (.ref a1), .val (.int ((Int32.ofNat (pn + 0)) + (1 : Int32))), .val (.long (0 : Int64)), .second, .val (.int (-1 : Int32)), .val (.int (0 : Int32))] [(.int (Int32.ofNat (pn + 0))), (.ref bw)])) _
      refine ld8 _ ?_
      show Steps p.tables e below (T7.setTop (mkF m 43 #[.val (.ref a1), .val (.int ((Int32.ofNat (pn + 0)) + (1 : Int32))), .val (.long (0 : Int64)), .second, .val (.int (-1 : Int32)), .val (.int (0 : Int32))] [(.int (by_ (pn + 0)))])) _
      refine XS.istore X7.here hx rfl (hb hby own_d5_43) rfl (l' := #[.val (.ref a1), .val (.int ((Int32.ofNat (pn + 0)) + (1 : Int32))), .val (.long (0 : Int64)), .second, .val (.int (by_ (pn + 0))), .val (.int (0 : Int32))]) rfl ?_
      show Steps p.tables e below (T7.setTop (mkF m 45 #[.val (.ref a1), .val (.int ((Int32.ofNat (pn + 0)) + (1 : Int32))), .val (.long (0 : Int64)), .second, .val (.int (by_ (pn + 0))), .val (.int (0 : Int32))] [])) _
      refine XS.lloadN X7.here hx rfl (hb hby own_d5_45) rfl ?_
      show Steps p.tables e below (T7.setTop (mkF m 46 #[.val (.ref a1), .val (.int ((Int32.ofNat (pn + 0)) + (1 : Int32))), .val (.long (0 : Int64)), .second, .val (.int (by_ (pn + 0))), .val (.int (0 : Int32))] [(.long (0 : Int64))])) _
      refine XS.iload X7.here hx rfl (hb hby own_d5_46) rfl ?_
      show Steps p.tables e below (T7.setTop (mkF m 48 #[.val (.ref a1), .val (.int ((Int32.ofNat (pn + 0)) + (1 : Int32))), .val (.long (0 : Int64)), .second, .val (.int (by_ (pn + 0))), .val (.int (0 : Int32))] [(.int (by_ (pn + 0))), (.long (0 : Int64))])) _
      refine XS.bipush X7.here hx rfl (hb hby own_d5_48) ?_
      show Steps p.tables e below (T7.setTop (mkF m 50 #[.val (.ref a1), .val (.int ((Int32.ofNat (pn + 0)) + (1 : Int32))), .val (.long (0 : Int64)), .second, .val (.int (by_ (pn + 0))), .val (.int (0 : Int32))] [(.int (127 : Int32)), (.int (by_ (pn + 0))), (.long (0 : Int64))])) _
      refine XS.iand X7.here hx rfl (hb hby own_d5_50) rfl ?_
      show Steps p.tables e below (T7.setTop (mkF m 51 #[.val (.ref a1), .val (.int ((Int32.ofNat (pn + 0)) + (1 : Int32))), .val (.long (0 : Int64)), .second, .val (.int (by_ (pn + 0))), .val (.int (0 : Int32))] [(.int ((by_ (pn + 0)) &&& (127 : Int32))), (.long (0 : Int64))])) _
      refine XS.i2l X7.here hx rfl (hb hby own_d5_51) rfl ?_
      show Steps p.tables e below (T7.setTop (mkF m 52 #[.val (.ref a1), .val (.int ((Int32.ofNat (pn + 0)) + (1 : Int32))), .val (.long (0 : Int64)), .second, .val (.int (by_ (pn + 0))), .val (.int (0 : Int32))] [(.long (((by_ (pn + 0)) &&& (127 : Int32)).toInt64)), (.long (0 : Int64))])) _
      refine XS.iload X7.here hx rfl (hb hby own_d5_52) rfl ?_
      show Steps p.tables e below (T7.setTop (mkF m 54 #[.val (.ref a1), .val (.int ((Int32.ofNat (pn + 0)) + (1 : Int32))), .val (.long (0 : Int64)), .second, .val (.int (by_ (pn + 0))), .val (.int (0 : Int32))] [(.int (0 : Int32)), (.long (((by_ (pn + 0)) &&& (127 : Int32)).toInt64)), (.long (0 : Int64))])) _
      refine XS.lshl X7.here hx rfl (hb hby own_d5_54) rfl ?_
      show Steps p.tables e below (T7.setTop (mkF m 55 #[.val (.ref a1), .val (.int ((Int32.ofNat (pn + 0)) + (1 : Int32))), .val (.long (0 : Int64)), .second, .val (.int (by_ (pn + 0))), .val (.int (0 : Int32))] [(.long ((((by_ (pn + 0)) &&& (127 : Int32)).toInt64) <<< ((0 : Int32) &&& 0x3f).toInt64)), (.long (0 : Int64))])) _
      refine XS.lor X7.here hx rfl (hb hby own_d5_55) rfl ?_
      show Steps p.tables e below (T7.setTop (mkF m 56 #[.val (.ref a1), .val (.int ((Int32.ofNat (pn + 0)) + (1 : Int32))), .val (.long (0 : Int64)), .second, .val (.int (by_ (pn + 0))), .val (.int (0 : Int32))] [(.long ((0 : Int64) ||| ((((by_ (pn + 0)) &&& (127 : Int32)).toInt64) <<< ((0 : Int32) &&& 0x3f).toInt64)))])) _
      refine XS.lstoreN X7.here hx rfl (hb hby own_d5_56) rfl (l' := #[.val (.ref a1), .val (.int ((Int32.ofNat (pn + 0)) + (1 : Int32))), .val (.long ((0 : Int64) ||| ((((by_ (pn + 0)) &&& (127 : Int32)).toInt64) <<< ((0 : Int32) &&& 0x3f).toInt64))), .second, .val (.int (by_ (pn + 0))), .val (.int (0 : Int32))]) rfl ?_
      show Steps p.tables e below (T7.setTop (mkF m 57 #[.val (.ref a1), .val (.int ((Int32.ofNat (pn + 0)) + (1 : Int32))), .val (.long ((0 : Int64) ||| ((((by_ (pn + 0)) &&& (127 : Int32)).toInt64) <<< ((0 : Int32) &&& 0x3f).toInt64))), .second, .val (.int (by_ (pn + 0))), .val (.int (0 : Int32))] [])) _
      refine XS.iinc X7.here hx rfl (hb hby own_d5_57) rfl (l' := #[.val (.ref a1), .val (.int ((Int32.ofNat (pn + 0)) + (1 : Int32))), .val (.long ((0 : Int64) ||| ((((by_ (pn + 0)) &&& (127 : Int32)).toInt64) <<< ((0 : Int32) &&& 0x3f).toInt64))), .second, .val (.int (by_ (pn + 0))), .val (.int (7 : Int32))]) rfl ?_
      show Steps p.tables e below (T7.setTop (mkF m 60 #[.val (.ref a1), .val (.int ((Int32.ofNat (pn + 0)) + (1 : Int32))), .val (.long ((0 : Int64) ||| ((((by_ (pn + 0)) &&& (127 : Int32)).toInt64) <<< ((0 : Int32) &&& 0x3f).toInt64))), .second, .val (.int (by_ (pn + 0))), .val (.int (7 : Int32))] [])) _
      refine XS.goto X7.here hx rfl (pc0 := 60) (pc' := 13) rfl (hb hby own_d5_60) (by decide) (by decide) ?_
      exact kt
    have pre10 : ∀ t, Steps p.tables e below (T7.setTop (mkF m 13 #[.val (.ref a1), .val (.int (Int32.ofNat (pn + 1))), .val (.long ((0 : Int64) ||| ((((by_ (pn + 0)) &&& (127 : Int32)).toInt64) <<< ((0 : Int32) &&& 0x3f).toInt64))), .second, .val (.int (by_ (pn + 0))), .val (.int (7 : Int32))] [])) t → Steps p.tables e below (s₁.setTop (entryFrame m #[(.ref a1)] 6)) t := by rw [(own_step pn 0 : (Int32.ofNat (pn + 1)) = ((Int32.ofNat (pn + 0)) + (1 : Int32)))]; exact pre9
    obtain ⟨va1, hd_va1⟩ : ∃ z : Int64, z = ((0 : Int64) ||| ((((by_ (pn + 0)) &&& (127 : Int32)).toInt64) <<< ((0 : Int32) &&& 0x3f).toInt64)) := ⟨_, rfl⟩
    have pre11 : ∀ t, Steps p.tables e below (T7.setTop (mkF m 13 #[.val (.ref a1), .val (.int (Int32.ofNat (pn + 1))), .val (.long va1), .second, .val (.int (by_ (pn + 0))), .val (.int (7 : Int32))] [])) t → Steps p.tables e below (s₁.setTop (entryFrame m #[(.ref a1)] 6)) t := by rw [hd_va1]; exact pre10
    have hv1 : va1.toInt = (0 : Int64).toInt + ((by_ (pn + 0)).toInt % 128) * 1 := by rw [hd_va1]; exact own_acc (k := 0) (P := 1) (by decide) (by decide) (by decide) (by decide) (by decide) (by decide)
    have hr1 : 0 ≤ va1.toInt ∧ va1.toInt < 128 := by have z0 : (0 : Int64).toInt = 0 := rfl; omega
    have pre12 : ∀ t, Steps p.tables e below (T7.setTop (mkF m 15 #[.val (.ref a1), .val (.int (Int32.ofNat (pn + 1))), .val (.long va1), .second, .val (.int (by_ (pn + 0))), .val (.int (7 : Int32))] [(.int (by_ (pn + 0)))])) t → Steps p.tables e below (s₁.setTop (entryFrame m #[(.ref a1)] 6)) t := by
      intro t kt
      refine pre11 t ?_
      show Steps p.tables e below (T7.setTop (mkF m 13 #[.val (.ref a1), .val (.int (Int32.ofNat (pn + 1))), .val (.long va1), .second, .val (.int (by_ (pn + 0))), .val (.int (7 : Int32))] [])) _
      refine XS.iload X7.here hx rfl (hb hby own_d5_13) rfl ?_
      exact kt
    by_cases hc15 : (by_ (pn + 0)) < (0 : Int32)
    case pos =>
      obtain ⟨T13, X13, e13, st13⟩ := getF X7 hx hZ hown (host := "") (Or.inl (hw _ (List.mem_of_getElem? (i := 15) rfl))) Via.refl e7 F_bytes (g := (mkF m 27 #[.val (.ref a1), .val (.int (Int32.ofNat (pn + 1))), .val (.long va1), .second, .val (.int (by_ (pn + 0))), .val (.int (7 : Int32))] [(.ref a1), (.int (Int32.ofNat (pn + 1)))])) rfl rfl (hb hby own_d5_27)
      have ld14 := (own_len X13 hx hZ e13 V_bw (z := (8 : Int32)) rfl (g := (mkF m 30 #[.val (.ref a1), .val (.int (Int32.ofNat (pn + 1))), .val (.long va1), .second, .val (.int (by_ (pn + 0))), .val (.int (7 : Int32))] [(.ref bw), (.int (Int32.ofNat (pn + 1)))])) rfl rfl (hb hby own_d5_30))
      have pre15 : ∀ t, Steps p.tables e below (T13.setTop (mkF m 31 #[.val (.ref a1), .val (.int (Int32.ofNat (pn + 1))), .val (.long va1), .second, .val (.int (by_ (pn + 0))), .val (.int (7 : Int32))] [(.int (8 : Int32)), (.int (Int32.ofNat (pn + 1)))])) t → Steps p.tables e below (s₁.setTop (entryFrame m #[(.ref a1)] 6)) t := by
        intro t kt
        refine pre12 t ?_
        show Steps p.tables e below (T7.setTop (mkF m 15 #[.val (.ref a1), .val (.int (Int32.ofNat (pn + 1))), .val (.long va1), .second, .val (.int (by_ (pn + 0))), .val (.int (7 : Int32))] [(.int (by_ (pn + 0)))])) _
        refine XS.ifNo X7.here hx rfl (hb hby own_d5_15) rfl ((if0 _ _).trans (tlt hc15).2.1) ?_
        show Steps p.tables e below (T7.setTop (mkF m 18 #[.val (.ref a1), .val (.int (Int32.ofNat (pn + 1))), .val (.long va1), .second, .val (.int (by_ (pn + 0))), .val (.int (7 : Int32))] [])) _
        refine XS.iload X7.here hx rfl (hb hby own_d5_18) rfl ?_
        show Steps p.tables e below (T7.setTop (mkF m 20 #[.val (.ref a1), .val (.int (Int32.ofNat (pn + 1))), .val (.long va1), .second, .val (.int (by_ (pn + 0))), .val (.int (7 : Int32))] [(.int (7 : Int32))])) _
        refine XS.bipush X7.here hx rfl (hb hby own_d5_20) ?_
        show Steps p.tables e below (T7.setTop (mkF m 22 #[.val (.ref a1), .val (.int (Int32.ofNat (pn + 1))), .val (.long va1), .second, .val (.int (by_ (pn + 0))), .val (.int (7 : Int32))] [(.int (35 : Int32)), (.int (7 : Int32))])) _
        refine XS.icmpNo X7.here hx rfl (hb hby own_d5_22) rfl (tlt (by decide)).2.1 ?_
        show Steps p.tables e below (T7.setTop (mkF m 25 #[.val (.ref a1), .val (.int (Int32.ofNat (pn + 1))), .val (.long va1), .second, .val (.int (by_ (pn + 0))), .val (.int (7 : Int32))] [])) _
        refine XS.iloadN X7.here hx rfl (hb hby own_d5_25) rfl ?_
        show Steps p.tables e below (T7.setTop (mkF m 26 #[.val (.ref a1), .val (.int (Int32.ofNat (pn + 1))), .val (.long va1), .second, .val (.int (by_ (pn + 0))), .val (.int (7 : Int32))] [(.int (Int32.ofNat (pn + 1)))])) _
        refine XS.aloadN X7.here hx rfl (hb hby own_d5_26) rfl rfl ?_
        show Steps p.tables e below (T7.setTop (mkF m 27 #[.val (.ref a1), .val (.int (Int32.ofNat (pn + 1))), .val (.long va1), .second, .val (.int (by_ (pn + 0))), .val (.int (7 : Int32))] [(.ref a1), (.int (Int32.ofNat (pn + 1)))])) _
        refine st13 _ ?_
        show Steps p.tables e below (T13.setTop (mkF m 30 #[.val (.ref a1), .val (.int (Int32.ofNat (pn + 1))), .val (.long va1), .second, .val (.int (by_ (pn + 0))), .val (.int (7 : Int32))] [(.ref bw), (.int (Int32.ofNat (pn + 1)))])) _
        refine ld14 _ ?_
        exact kt
      by_cases hc31_2 : (Int32.ofNat (pn + 1)) < (8 : Int32)
      case pos =>
        have hp1 : pn + 1 < 8 := (own_lt8 (by omega)).mp hc31_2
        obtain ⟨T16, X16, e16, st16⟩ := getF X13 hx hZ hown (host := "") (Or.inl (hw _ (List.mem_of_getElem? (i := 15) rfl))) Via.refl e13 F_bytes (g := (mkF m 35 #[.val (.ref a1), .val (.int (Int32.ofNat (pn + 1))), .val (.long va1), .second, .val (.int (by_ (pn + 0))), .val (.int (7 : Int32))] [(.ref a1)])) rfl rfl (hb hby own_d5_35)
        have ld17 := (own_ldB X16 hx hZ e16 V_bw (j := (Int32.ofNat (pn + 1))) (own_ix (by omega)).1 (k := (pn + 1)) (own_ix (by omega)).2 hp1 (v := (.int (by_ (pn + 1)))) rfl (g := (mkF m 42 #[.val (.ref a1), .val (.int ((Int32.ofNat (pn + 1)) + (1 : Int32))), .val (.long va1), .second, .val (.int (by_ (pn + 0))), .val (.int (7 : Int32))] [(.int (Int32.ofNat (pn + 1))), (.ref bw)])) rfl rfl (hb hby own_d5_42))
        have pre18 : ∀ t, Steps p.tables e below (T16.setTop (mkF m 13 #[.val (.ref a1), .val (.int ((Int32.ofNat (pn + 1)) + (1 : Int32))), .val (.long (va1 ||| ((((by_ (pn + 1)) &&& (127 : Int32)).toInt64) <<< ((7 : Int32) &&& 0x3f).toInt64))), .second, .val (.int (by_ (pn + 1))), .val (.int (14 : Int32))] [])) t → Steps p.tables e below (s₁.setTop (entryFrame m #[(.ref a1)] 6)) t := by
          intro t kt
          refine pre15 t ?_
          show Steps p.tables e below (T13.setTop (mkF m 31 #[.val (.ref a1), .val (.int (Int32.ofNat (pn + 1))), .val (.long va1), .second, .val (.int (by_ (pn + 0))), .val (.int (7 : Int32))] [(.int (8 : Int32)), (.int (Int32.ofNat (pn + 1)))])) _
          refine XS.icmpNo X13.here hx rfl (hb hby own_d5_31) rfl (tlt hc31_2).2.1 ?_
          show Steps p.tables e below (T13.setTop (mkF m 34 #[.val (.ref a1), .val (.int (Int32.ofNat (pn + 1))), .val (.long va1), .second, .val (.int (by_ (pn + 0))), .val (.int (7 : Int32))] [])) _
          refine XS.aloadN X13.here hx rfl (hb hby own_d5_34) rfl rfl ?_
          show Steps p.tables e below (T13.setTop (mkF m 35 #[.val (.ref a1), .val (.int (Int32.ofNat (pn + 1))), .val (.long va1), .second, .val (.int (by_ (pn + 0))), .val (.int (7 : Int32))] [(.ref a1)])) _
          refine st16 _ ?_
          show Steps p.tables e below (T16.setTop (mkF m 38 #[.val (.ref a1), .val (.int (Int32.ofNat (pn + 1))), .val (.long va1), .second, .val (.int (by_ (pn + 0))), .val (.int (7 : Int32))] [(.ref bw)])) _
          refine XS.iloadN X16.here hx rfl (hb hby own_d5_38) rfl ?_
          show Steps p.tables e below (T16.setTop (mkF m 39 #[.val (.ref a1), .val (.int (Int32.ofNat (pn + 1))), .val (.long va1), .second, .val (.int (by_ (pn + 0))), .val (.int (7 : Int32))] [(.int (Int32.ofNat (pn + 1))), (.ref bw)])) _
          refine XS.iinc X16.here hx rfl (hb hby own_d5_39) rfl (l' := #[.val (.ref a1), .val (.int ((Int32.ofNat (pn + 1)) + (1 : Int32))), .val (.long va1), .second, .val (.int (by_ (pn + 0))), .val (.int (7 : Int32))]) rfl ?_
          show Steps p.tables e below (T16.setTop (mkF m 42 #[.val (.ref a1), .val (.int ((Int32.ofNat (pn + 1)) + (1 : Int32))), .val (.long va1), .second, .val (.int (by_ (pn + 0))), .val (.int (7 : Int32))] [(.int (Int32.ofNat (pn + 1))), (.ref bw)])) _
          refine ld17 _ ?_
          show Steps p.tables e below (T16.setTop (mkF m 43 #[.val (.ref a1), .val (.int ((Int32.ofNat (pn + 1)) + (1 : Int32))), .val (.long va1), .second, .val (.int (by_ (pn + 0))), .val (.int (7 : Int32))] [(.int (by_ (pn + 1)))])) _
          refine XS.istore X16.here hx rfl (hb hby own_d5_43) rfl (l' := #[.val (.ref a1), .val (.int ((Int32.ofNat (pn + 1)) + (1 : Int32))), .val (.long va1), .second, .val (.int (by_ (pn + 1))), .val (.int (7 : Int32))]) rfl ?_
          show Steps p.tables e below (T16.setTop (mkF m 45 #[.val (.ref a1), .val (.int ((Int32.ofNat (pn + 1)) + (1 : Int32))), .val (.long va1), .second, .val (.int (by_ (pn + 1))), .val (.int (7 : Int32))] [])) _
          refine XS.lloadN X16.here hx rfl (hb hby own_d5_45) rfl ?_
          show Steps p.tables e below (T16.setTop (mkF m 46 #[.val (.ref a1), .val (.int ((Int32.ofNat (pn + 1)) + (1 : Int32))), .val (.long va1), .second, .val (.int (by_ (pn + 1))), .val (.int (7 : Int32))] [(.long va1)])) _
          refine XS.iload X16.here hx rfl (hb hby own_d5_46) rfl ?_
          show Steps p.tables e below (T16.setTop (mkF m 48 #[.val (.ref a1), .val (.int ((Int32.ofNat (pn + 1)) + (1 : Int32))), .val (.long va1), .second, .val (.int (by_ (pn + 1))), .val (.int (7 : Int32))] [(.int (by_ (pn + 1))), (.long va1)])) _
          refine XS.bipush X16.here hx rfl (hb hby own_d5_48) ?_
          show Steps p.tables e below (T16.setTop (mkF m 50 #[.val (.ref a1), .val (.int ((Int32.ofNat (pn + 1)) + (1 : Int32))), .val (.long va1), .second, .val (.int (by_ (pn + 1))), .val (.int (7 : Int32))] [(.int (127 : Int32)), (.int (by_ (pn + 1))), (.long va1)])) _
          refine XS.iand X16.here hx rfl (hb hby own_d5_50) rfl ?_
          show Steps p.tables e below (T16.setTop (mkF m 51 #[.val (.ref a1), .val (.int ((Int32.ofNat (pn + 1)) + (1 : Int32))), .val (.long va1), .second, .val (.int (by_ (pn + 1))), .val (.int (7 : Int32))] [(.int ((by_ (pn + 1)) &&& (127 : Int32))), (.long va1)])) _
          refine XS.i2l X16.here hx rfl (hb hby own_d5_51) rfl ?_
          show Steps p.tables e below (T16.setTop (mkF m 52 #[.val (.ref a1), .val (.int ((Int32.ofNat (pn + 1)) + (1 : Int32))), .val (.long va1), .second, .val (.int (by_ (pn + 1))), .val (.int (7 : Int32))] [(.long (((by_ (pn + 1)) &&& (127 : Int32)).toInt64)), (.long va1)])) _
          refine XS.iload X16.here hx rfl (hb hby own_d5_52) rfl ?_
          show Steps p.tables e below (T16.setTop (mkF m 54 #[.val (.ref a1), .val (.int ((Int32.ofNat (pn + 1)) + (1 : Int32))), .val (.long va1), .second, .val (.int (by_ (pn + 1))), .val (.int (7 : Int32))] [(.int (7 : Int32)), (.long (((by_ (pn + 1)) &&& (127 : Int32)).toInt64)), (.long va1)])) _
          refine XS.lshl X16.here hx rfl (hb hby own_d5_54) rfl ?_
          show Steps p.tables e below (T16.setTop (mkF m 55 #[.val (.ref a1), .val (.int ((Int32.ofNat (pn + 1)) + (1 : Int32))), .val (.long va1), .second, .val (.int (by_ (pn + 1))), .val (.int (7 : Int32))] [(.long ((((by_ (pn + 1)) &&& (127 : Int32)).toInt64) <<< ((7 : Int32) &&& 0x3f).toInt64)), (.long va1)])) _
          refine XS.lor X16.here hx rfl (hb hby own_d5_55) rfl ?_
          show Steps p.tables e below (T16.setTop (mkF m 56 #[.val (.ref a1), .val (.int ((Int32.ofNat (pn + 1)) + (1 : Int32))), .val (.long va1), .second, .val (.int (by_ (pn + 1))), .val (.int (7 : Int32))] [(.long (va1 ||| ((((by_ (pn + 1)) &&& (127 : Int32)).toInt64) <<< ((7 : Int32) &&& 0x3f).toInt64)))])) _
          refine XS.lstoreN X16.here hx rfl (hb hby own_d5_56) rfl (l' := #[.val (.ref a1), .val (.int ((Int32.ofNat (pn + 1)) + (1 : Int32))), .val (.long (va1 ||| ((((by_ (pn + 1)) &&& (127 : Int32)).toInt64) <<< ((7 : Int32) &&& 0x3f).toInt64))), .second, .val (.int (by_ (pn + 1))), .val (.int (7 : Int32))]) rfl ?_
          show Steps p.tables e below (T16.setTop (mkF m 57 #[.val (.ref a1), .val (.int ((Int32.ofNat (pn + 1)) + (1 : Int32))), .val (.long (va1 ||| ((((by_ (pn + 1)) &&& (127 : Int32)).toInt64) <<< ((7 : Int32) &&& 0x3f).toInt64))), .second, .val (.int (by_ (pn + 1))), .val (.int (7 : Int32))] [])) _
          refine XS.iinc X16.here hx rfl (hb hby own_d5_57) rfl (l' := #[.val (.ref a1), .val (.int ((Int32.ofNat (pn + 1)) + (1 : Int32))), .val (.long (va1 ||| ((((by_ (pn + 1)) &&& (127 : Int32)).toInt64) <<< ((7 : Int32) &&& 0x3f).toInt64))), .second, .val (.int (by_ (pn + 1))), .val (.int (14 : Int32))]) rfl ?_
          show Steps p.tables e below (T16.setTop (mkF m 60 #[.val (.ref a1), .val (.int ((Int32.ofNat (pn + 1)) + (1 : Int32))), .val (.long (va1 ||| ((((by_ (pn + 1)) &&& (127 : Int32)).toInt64) <<< ((7 : Int32) &&& 0x3f).toInt64))), .second, .val (.int (by_ (pn + 1))), .val (.int (14 : Int32))] [])) _
          refine XS.goto X16.here hx rfl (pc0 := 60) (pc' := 13) rfl (hb hby own_d5_60) (by decide) (by decide) ?_
          exact kt
        have pre19 : ∀ t, Steps p.tables e below (T16.setTop (mkF m 13 #[.val (.ref a1), .val (.int (Int32.ofNat (pn + 2))), .val (.long (va1 ||| ((((by_ (pn + 1)) &&& (127 : Int32)).toInt64) <<< ((7 : Int32) &&& 0x3f).toInt64))), .second, .val (.int (by_ (pn + 1))), .val (.int (14 : Int32))] [])) t → Steps p.tables e below (s₁.setTop (entryFrame m #[(.ref a1)] 6)) t := by rw [(own_step pn 1 : (Int32.ofNat (pn + 2)) = ((Int32.ofNat (pn + 1)) + (1 : Int32)))]; exact pre18
        obtain ⟨va2, hd_va2⟩ : ∃ z : Int64, z = (va1 ||| ((((by_ (pn + 1)) &&& (127 : Int32)).toInt64) <<< ((7 : Int32) &&& 0x3f).toInt64)) := ⟨_, rfl⟩
        have pre20 : ∀ t, Steps p.tables e below (T16.setTop (mkF m 13 #[.val (.ref a1), .val (.int (Int32.ofNat (pn + 2))), .val (.long va2), .second, .val (.int (by_ (pn + 1))), .val (.int (14 : Int32))] [])) t → Steps p.tables e below (s₁.setTop (entryFrame m #[(.ref a1)] 6)) t := by rw [hd_va2]; exact pre19
        have hv2 : va2.toInt = va1.toInt + ((by_ (pn + 1)).toInt % 128) * 128 := by rw [hd_va2]; exact own_acc (k := 7) (P := 128) (by decide) (by decide) (by decide) (by decide) hr1.1 hr1.2
        have hr2 : 0 ≤ va2.toInt ∧ va2.toInt < 16384 := by have z0 : (0 : Int64).toInt = 0 := rfl; omega
        have pre21 : ∀ t, Steps p.tables e below (T16.setTop (mkF m 15 #[.val (.ref a1), .val (.int (Int32.ofNat (pn + 2))), .val (.long va2), .second, .val (.int (by_ (pn + 1))), .val (.int (14 : Int32))] [(.int (by_ (pn + 1)))])) t → Steps p.tables e below (s₁.setTop (entryFrame m #[(.ref a1)] 6)) t := by
          intro t kt
          refine pre20 t ?_
          show Steps p.tables e below (T16.setTop (mkF m 13 #[.val (.ref a1), .val (.int (Int32.ofNat (pn + 2))), .val (.long va2), .second, .val (.int (by_ (pn + 1))), .val (.int (14 : Int32))] [])) _
          refine XS.iload X16.here hx rfl (hb hby own_d5_13) rfl ?_
          exact kt
        by_cases hc15_2 : (by_ (pn + 1)) < (0 : Int32)
        case pos =>
          obtain ⟨T22, X22, e22, st22⟩ := getF X16 hx hZ hown (host := "") (Or.inl (hw _ (List.mem_of_getElem? (i := 15) rfl))) Via.refl e16 F_bytes (g := (mkF m 27 #[.val (.ref a1), .val (.int (Int32.ofNat (pn + 2))), .val (.long va2), .second, .val (.int (by_ (pn + 1))), .val (.int (14 : Int32))] [(.ref a1), (.int (Int32.ofNat (pn + 2)))])) rfl rfl (hb hby own_d5_27)
          have ld23 := (own_len X22 hx hZ e22 V_bw (z := (8 : Int32)) rfl (g := (mkF m 30 #[.val (.ref a1), .val (.int (Int32.ofNat (pn + 2))), .val (.long va2), .second, .val (.int (by_ (pn + 1))), .val (.int (14 : Int32))] [(.ref bw), (.int (Int32.ofNat (pn + 2)))])) rfl rfl (hb hby own_d5_30))
          have pre24 : ∀ t, Steps p.tables e below (T22.setTop (mkF m 31 #[.val (.ref a1), .val (.int (Int32.ofNat (pn + 2))), .val (.long va2), .second, .val (.int (by_ (pn + 1))), .val (.int (14 : Int32))] [(.int (8 : Int32)), (.int (Int32.ofNat (pn + 2)))])) t → Steps p.tables e below (s₁.setTop (entryFrame m #[(.ref a1)] 6)) t := by
            intro t kt
            refine pre21 t ?_
            show Steps p.tables e below (T16.setTop (mkF m 15 #[.val (.ref a1), .val (.int (Int32.ofNat (pn + 2))), .val (.long va2), .second, .val (.int (by_ (pn + 1))), .val (.int (14 : Int32))] [(.int (by_ (pn + 1)))])) _
            refine XS.ifNo X16.here hx rfl (hb hby own_d5_15) rfl ((if0 _ _).trans (tlt hc15_2).2.1) ?_
            show Steps p.tables e below (T16.setTop (mkF m 18 #[.val (.ref a1), .val (.int (Int32.ofNat (pn + 2))), .val (.long va2), .second, .val (.int (by_ (pn + 1))), .val (.int (14 : Int32))] [])) _
            refine XS.iload X16.here hx rfl (hb hby own_d5_18) rfl ?_
            show Steps p.tables e below (T16.setTop (mkF m 20 #[.val (.ref a1), .val (.int (Int32.ofNat (pn + 2))), .val (.long va2), .second, .val (.int (by_ (pn + 1))), .val (.int (14 : Int32))] [(.int (14 : Int32))])) _
            refine XS.bipush X16.here hx rfl (hb hby own_d5_20) ?_
            show Steps p.tables e below (T16.setTop (mkF m 22 #[.val (.ref a1), .val (.int (Int32.ofNat (pn + 2))), .val (.long va2), .second, .val (.int (by_ (pn + 1))), .val (.int (14 : Int32))] [(.int (35 : Int32)), (.int (14 : Int32))])) _
            refine XS.icmpNo X16.here hx rfl (hb hby own_d5_22) rfl (tlt (by decide)).2.1 ?_
            show Steps p.tables e below (T16.setTop (mkF m 25 #[.val (.ref a1), .val (.int (Int32.ofNat (pn + 2))), .val (.long va2), .second, .val (.int (by_ (pn + 1))), .val (.int (14 : Int32))] [])) _
            refine XS.iloadN X16.here hx rfl (hb hby own_d5_25) rfl ?_
            show Steps p.tables e below (T16.setTop (mkF m 26 #[.val (.ref a1), .val (.int (Int32.ofNat (pn + 2))), .val (.long va2), .second, .val (.int (by_ (pn + 1))), .val (.int (14 : Int32))] [(.int (Int32.ofNat (pn + 2)))])) _
            refine XS.aloadN X16.here hx rfl (hb hby own_d5_26) rfl rfl ?_
            show Steps p.tables e below (T16.setTop (mkF m 27 #[.val (.ref a1), .val (.int (Int32.ofNat (pn + 2))), .val (.long va2), .second, .val (.int (by_ (pn + 1))), .val (.int (14 : Int32))] [(.ref a1), (.int (Int32.ofNat (pn + 2)))])) _
            refine st22 _ ?_
            show Steps p.tables e below (T22.setTop (mkF m 30 #[.val (.ref a1), .val (.int (Int32.ofNat (pn + 2))), .val (.long va2), .second, .val (.int (by_ (pn + 1))), .val (.int (14 : Int32))] [(.ref bw), (.int (Int32.ofNat (pn + 2)))])) _
            refine ld23 _ ?_
            exact kt
          by_cases hc31_3 : (Int32.ofNat (pn + 2)) < (8 : Int32)
          case pos =>
            have hp2 : pn + 2 < 8 := (own_lt8 (by omega)).mp hc31_3
            obtain ⟨T25, X25, e25, st25⟩ := getF X22 hx hZ hown (host := "") (Or.inl (hw _ (List.mem_of_getElem? (i := 15) rfl))) Via.refl e22 F_bytes (g := (mkF m 35 #[.val (.ref a1), .val (.int (Int32.ofNat (pn + 2))), .val (.long va2), .second, .val (.int (by_ (pn + 1))), .val (.int (14 : Int32))] [(.ref a1)])) rfl rfl (hb hby own_d5_35)
            have ld26 := (own_ldB X25 hx hZ e25 V_bw (j := (Int32.ofNat (pn + 2))) (own_ix (by omega)).1 (k := (pn + 2)) (own_ix (by omega)).2 hp2 (v := (.int (by_ (pn + 2)))) rfl (g := (mkF m 42 #[.val (.ref a1), .val (.int ((Int32.ofNat (pn + 2)) + (1 : Int32))), .val (.long va2), .second, .val (.int (by_ (pn + 1))), .val (.int (14 : Int32))] [(.int (Int32.ofNat (pn + 2))), (.ref bw)])) rfl rfl (hb hby own_d5_42))
            have pre27 : ∀ t, Steps p.tables e below (T25.setTop (mkF m 13 #[.val (.ref a1), .val (.int ((Int32.ofNat (pn + 2)) + (1 : Int32))), .val (.long (va2 ||| ((((by_ (pn + 2)) &&& (127 : Int32)).toInt64) <<< ((14 : Int32) &&& 0x3f).toInt64))), .second, .val (.int (by_ (pn + 2))), .val (.int (21 : Int32))] [])) t → Steps p.tables e below (s₁.setTop (entryFrame m #[(.ref a1)] 6)) t := by
              intro t kt
              refine pre24 t ?_
              show Steps p.tables e below (T22.setTop (mkF m 31 #[.val (.ref a1), .val (.int (Int32.ofNat (pn + 2))), .val (.long va2), .second, .val (.int (by_ (pn + 1))), .val (.int (14 : Int32))] [(.int (8 : Int32)), (.int (Int32.ofNat (pn + 2)))])) _
              refine XS.icmpNo X22.here hx rfl (hb hby own_d5_31) rfl (tlt hc31_3).2.1 ?_
              show Steps p.tables e below (T22.setTop (mkF m 34 #[.val (.ref a1), .val (.int (Int32.ofNat (pn + 2))), .val (.long va2), .second, .val (.int (by_ (pn + 1))), .val (.int (14 : Int32))] [])) _
              refine XS.aloadN X22.here hx rfl (hb hby own_d5_34) rfl rfl ?_
              show Steps p.tables e below (T22.setTop (mkF m 35 #[.val (.ref a1), .val (.int (Int32.ofNat (pn + 2))), .val (.long va2), .second, .val (.int (by_ (pn + 1))), .val (.int (14 : Int32))] [(.ref a1)])) _
              refine st25 _ ?_
              show Steps p.tables e below (T25.setTop (mkF m 38 #[.val (.ref a1), .val (.int (Int32.ofNat (pn + 2))), .val (.long va2), .second, .val (.int (by_ (pn + 1))), .val (.int (14 : Int32))] [(.ref bw)])) _
              refine XS.iloadN X25.here hx rfl (hb hby own_d5_38) rfl ?_
              show Steps p.tables e below (T25.setTop (mkF m 39 #[.val (.ref a1), .val (.int (Int32.ofNat (pn + 2))), .val (.long va2), .second, .val (.int (by_ (pn + 1))), .val (.int (14 : Int32))] [(.int (Int32.ofNat (pn + 2))), (.ref bw)])) _
              refine XS.iinc X25.here hx rfl (hb hby own_d5_39) rfl (l' := #[.val (.ref a1), .val (.int ((Int32.ofNat (pn + 2)) + (1 : Int32))), .val (.long va2), .second, .val (.int (by_ (pn + 1))), .val (.int (14 : Int32))]) rfl ?_
              show Steps p.tables e below (T25.setTop (mkF m 42 #[.val (.ref a1), .val (.int ((Int32.ofNat (pn + 2)) + (1 : Int32))), .val (.long va2), .second, .val (.int (by_ (pn + 1))), .val (.int (14 : Int32))] [(.int (Int32.ofNat (pn + 2))), (.ref bw)])) _
              refine ld26 _ ?_
              show Steps p.tables e below (T25.setTop (mkF m 43 #[.val (.ref a1), .val (.int ((Int32.ofNat (pn + 2)) + (1 : Int32))), .val (.long va2), .second, .val (.int (by_ (pn + 1))), .val (.int (14 : Int32))] [(.int (by_ (pn + 2)))])) _
              refine XS.istore X25.here hx rfl (hb hby own_d5_43) rfl (l' := #[.val (.ref a1), .val (.int ((Int32.ofNat (pn + 2)) + (1 : Int32))), .val (.long va2), .second, .val (.int (by_ (pn + 2))), .val (.int (14 : Int32))]) rfl ?_
              show Steps p.tables e below (T25.setTop (mkF m 45 #[.val (.ref a1), .val (.int ((Int32.ofNat (pn + 2)) + (1 : Int32))), .val (.long va2), .second, .val (.int (by_ (pn + 2))), .val (.int (14 : Int32))] [])) _
              refine XS.lloadN X25.here hx rfl (hb hby own_d5_45) rfl ?_
              show Steps p.tables e below (T25.setTop (mkF m 46 #[.val (.ref a1), .val (.int ((Int32.ofNat (pn + 2)) + (1 : Int32))), .val (.long va2), .second, .val (.int (by_ (pn + 2))), .val (.int (14 : Int32))] [(.long va2)])) _
              refine XS.iload X25.here hx rfl (hb hby own_d5_46) rfl ?_
              show Steps p.tables e below (T25.setTop (mkF m 48 #[.val (.ref a1), .val (.int ((Int32.ofNat (pn + 2)) + (1 : Int32))), .val (.long va2), .second, .val (.int (by_ (pn + 2))), .val (.int (14 : Int32))] [(.int (by_ (pn + 2))), (.long va2)])) _
              refine XS.bipush X25.here hx rfl (hb hby own_d5_48) ?_
              show Steps p.tables e below (T25.setTop (mkF m 50 #[.val (.ref a1), .val (.int ((Int32.ofNat (pn + 2)) + (1 : Int32))), .val (.long va2), .second, .val (.int (by_ (pn + 2))), .val (.int (14 : Int32))] [(.int (127 : Int32)), (.int (by_ (pn + 2))), (.long va2)])) _
              refine XS.iand X25.here hx rfl (hb hby own_d5_50) rfl ?_
              show Steps p.tables e below (T25.setTop (mkF m 51 #[.val (.ref a1), .val (.int ((Int32.ofNat (pn + 2)) + (1 : Int32))), .val (.long va2), .second, .val (.int (by_ (pn + 2))), .val (.int (14 : Int32))] [(.int ((by_ (pn + 2)) &&& (127 : Int32))), (.long va2)])) _
              refine XS.i2l X25.here hx rfl (hb hby own_d5_51) rfl ?_
              show Steps p.tables e below (T25.setTop (mkF m 52 #[.val (.ref a1), .val (.int ((Int32.ofNat (pn + 2)) + (1 : Int32))), .val (.long va2), .second, .val (.int (by_ (pn + 2))), .val (.int (14 : Int32))] [(.long (((by_ (pn + 2)) &&& (127 : Int32)).toInt64)), (.long va2)])) _
              refine XS.iload X25.here hx rfl (hb hby own_d5_52) rfl ?_
              show Steps p.tables e below (T25.setTop (mkF m 54 #[.val (.ref a1), .val (.int ((Int32.ofNat (pn + 2)) + (1 : Int32))), .val (.long va2), .second, .val (.int (by_ (pn + 2))), .val (.int (14 : Int32))] [(.int (14 : Int32)), (.long (((by_ (pn + 2)) &&& (127 : Int32)).toInt64)), (.long va2)])) _
              refine XS.lshl X25.here hx rfl (hb hby own_d5_54) rfl ?_
              show Steps p.tables e below (T25.setTop (mkF m 55 #[.val (.ref a1), .val (.int ((Int32.ofNat (pn + 2)) + (1 : Int32))), .val (.long va2), .second, .val (.int (by_ (pn + 2))), .val (.int (14 : Int32))] [(.long ((((by_ (pn + 2)) &&& (127 : Int32)).toInt64) <<< ((14 : Int32) &&& 0x3f).toInt64)), (.long va2)])) _
              refine XS.lor X25.here hx rfl (hb hby own_d5_55) rfl ?_
              show Steps p.tables e below (T25.setTop (mkF m 56 #[.val (.ref a1), .val (.int ((Int32.ofNat (pn + 2)) + (1 : Int32))), .val (.long va2), .second, .val (.int (by_ (pn + 2))), .val (.int (14 : Int32))] [(.long (va2 ||| ((((by_ (pn + 2)) &&& (127 : Int32)).toInt64) <<< ((14 : Int32) &&& 0x3f).toInt64)))])) _
              refine XS.lstoreN X25.here hx rfl (hb hby own_d5_56) rfl (l' := #[.val (.ref a1), .val (.int ((Int32.ofNat (pn + 2)) + (1 : Int32))), .val (.long (va2 ||| ((((by_ (pn + 2)) &&& (127 : Int32)).toInt64) <<< ((14 : Int32) &&& 0x3f).toInt64))), .second, .val (.int (by_ (pn + 2))), .val (.int (14 : Int32))]) rfl ?_
              show Steps p.tables e below (T25.setTop (mkF m 57 #[.val (.ref a1), .val (.int ((Int32.ofNat (pn + 2)) + (1 : Int32))), .val (.long (va2 ||| ((((by_ (pn + 2)) &&& (127 : Int32)).toInt64) <<< ((14 : Int32) &&& 0x3f).toInt64))), .second, .val (.int (by_ (pn + 2))), .val (.int (14 : Int32))] [])) _
              refine XS.iinc X25.here hx rfl (hb hby own_d5_57) rfl (l' := #[.val (.ref a1), .val (.int ((Int32.ofNat (pn + 2)) + (1 : Int32))), .val (.long (va2 ||| ((((by_ (pn + 2)) &&& (127 : Int32)).toInt64) <<< ((14 : Int32) &&& 0x3f).toInt64))), .second, .val (.int (by_ (pn + 2))), .val (.int (21 : Int32))]) rfl ?_
              show Steps p.tables e below (T25.setTop (mkF m 60 #[.val (.ref a1), .val (.int ((Int32.ofNat (pn + 2)) + (1 : Int32))), .val (.long (va2 ||| ((((by_ (pn + 2)) &&& (127 : Int32)).toInt64) <<< ((14 : Int32) &&& 0x3f).toInt64))), .second, .val (.int (by_ (pn + 2))), .val (.int (21 : Int32))] [])) _
              refine XS.goto X25.here hx rfl (pc0 := 60) (pc' := 13) rfl (hb hby own_d5_60) (by decide) (by decide) ?_
              exact kt
            have pre28 : ∀ t, Steps p.tables e below (T25.setTop (mkF m 13 #[.val (.ref a1), .val (.int (Int32.ofNat (pn + 3))), .val (.long (va2 ||| ((((by_ (pn + 2)) &&& (127 : Int32)).toInt64) <<< ((14 : Int32) &&& 0x3f).toInt64))), .second, .val (.int (by_ (pn + 2))), .val (.int (21 : Int32))] [])) t → Steps p.tables e below (s₁.setTop (entryFrame m #[(.ref a1)] 6)) t := by rw [(own_step pn 2 : (Int32.ofNat (pn + 3)) = ((Int32.ofNat (pn + 2)) + (1 : Int32)))]; exact pre27
            obtain ⟨va3, hd_va3⟩ : ∃ z : Int64, z = (va2 ||| ((((by_ (pn + 2)) &&& (127 : Int32)).toInt64) <<< ((14 : Int32) &&& 0x3f).toInt64)) := ⟨_, rfl⟩
            have pre29 : ∀ t, Steps p.tables e below (T25.setTop (mkF m 13 #[.val (.ref a1), .val (.int (Int32.ofNat (pn + 3))), .val (.long va3), .second, .val (.int (by_ (pn + 2))), .val (.int (21 : Int32))] [])) t → Steps p.tables e below (s₁.setTop (entryFrame m #[(.ref a1)] 6)) t := by rw [hd_va3]; exact pre28
            have hv3 : va3.toInt = va2.toInt + ((by_ (pn + 2)).toInt % 128) * 16384 := by rw [hd_va3]; exact own_acc (k := 14) (P := 16384) (by decide) (by decide) (by decide) (by decide) hr2.1 hr2.2
            have hr3 : 0 ≤ va3.toInt ∧ va3.toInt < 2097152 := by have z0 : (0 : Int64).toInt = 0 := rfl; omega
            have pre30 : ∀ t, Steps p.tables e below (T25.setTop (mkF m 15 #[.val (.ref a1), .val (.int (Int32.ofNat (pn + 3))), .val (.long va3), .second, .val (.int (by_ (pn + 2))), .val (.int (21 : Int32))] [(.int (by_ (pn + 2)))])) t → Steps p.tables e below (s₁.setTop (entryFrame m #[(.ref a1)] 6)) t := by
              intro t kt
              refine pre29 t ?_
              show Steps p.tables e below (T25.setTop (mkF m 13 #[.val (.ref a1), .val (.int (Int32.ofNat (pn + 3))), .val (.long va3), .second, .val (.int (by_ (pn + 2))), .val (.int (21 : Int32))] [])) _
              refine XS.iload X25.here hx rfl (hb hby own_d5_13) rfl ?_
              exact kt
            by_cases hc15_3 : (by_ (pn + 2)) < (0 : Int32)
            case pos =>
              obtain ⟨T31, X31, e31, st31⟩ := getF X25 hx hZ hown (host := "") (Or.inl (hw _ (List.mem_of_getElem? (i := 15) rfl))) Via.refl e25 F_bytes (g := (mkF m 27 #[.val (.ref a1), .val (.int (Int32.ofNat (pn + 3))), .val (.long va3), .second, .val (.int (by_ (pn + 2))), .val (.int (21 : Int32))] [(.ref a1), (.int (Int32.ofNat (pn + 3)))])) rfl rfl (hb hby own_d5_27)
              have ld32 := (own_len X31 hx hZ e31 V_bw (z := (8 : Int32)) rfl (g := (mkF m 30 #[.val (.ref a1), .val (.int (Int32.ofNat (pn + 3))), .val (.long va3), .second, .val (.int (by_ (pn + 2))), .val (.int (21 : Int32))] [(.ref bw), (.int (Int32.ofNat (pn + 3)))])) rfl rfl (hb hby own_d5_30))
              have pre33 : ∀ t, Steps p.tables e below (T31.setTop (mkF m 31 #[.val (.ref a1), .val (.int (Int32.ofNat (pn + 3))), .val (.long va3), .second, .val (.int (by_ (pn + 2))), .val (.int (21 : Int32))] [(.int (8 : Int32)), (.int (Int32.ofNat (pn + 3)))])) t → Steps p.tables e below (s₁.setTop (entryFrame m #[(.ref a1)] 6)) t := by
                intro t kt
                refine pre30 t ?_
                show Steps p.tables e below (T25.setTop (mkF m 15 #[.val (.ref a1), .val (.int (Int32.ofNat (pn + 3))), .val (.long va3), .second, .val (.int (by_ (pn + 2))), .val (.int (21 : Int32))] [(.int (by_ (pn + 2)))])) _
                refine XS.ifNo X25.here hx rfl (hb hby own_d5_15) rfl ((if0 _ _).trans (tlt hc15_3).2.1) ?_
                show Steps p.tables e below (T25.setTop (mkF m 18 #[.val (.ref a1), .val (.int (Int32.ofNat (pn + 3))), .val (.long va3), .second, .val (.int (by_ (pn + 2))), .val (.int (21 : Int32))] [])) _
                refine XS.iload X25.here hx rfl (hb hby own_d5_18) rfl ?_
                show Steps p.tables e below (T25.setTop (mkF m 20 #[.val (.ref a1), .val (.int (Int32.ofNat (pn + 3))), .val (.long va3), .second, .val (.int (by_ (pn + 2))), .val (.int (21 : Int32))] [(.int (21 : Int32))])) _
                refine XS.bipush X25.here hx rfl (hb hby own_d5_20) ?_
                show Steps p.tables e below (T25.setTop (mkF m 22 #[.val (.ref a1), .val (.int (Int32.ofNat (pn + 3))), .val (.long va3), .second, .val (.int (by_ (pn + 2))), .val (.int (21 : Int32))] [(.int (35 : Int32)), (.int (21 : Int32))])) _
                refine XS.icmpNo X25.here hx rfl (hb hby own_d5_22) rfl (tlt (by decide)).2.1 ?_
                show Steps p.tables e below (T25.setTop (mkF m 25 #[.val (.ref a1), .val (.int (Int32.ofNat (pn + 3))), .val (.long va3), .second, .val (.int (by_ (pn + 2))), .val (.int (21 : Int32))] [])) _
                refine XS.iloadN X25.here hx rfl (hb hby own_d5_25) rfl ?_
                show Steps p.tables e below (T25.setTop (mkF m 26 #[.val (.ref a1), .val (.int (Int32.ofNat (pn + 3))), .val (.long va3), .second, .val (.int (by_ (pn + 2))), .val (.int (21 : Int32))] [(.int (Int32.ofNat (pn + 3)))])) _
                refine XS.aloadN X25.here hx rfl (hb hby own_d5_26) rfl rfl ?_
                show Steps p.tables e below (T25.setTop (mkF m 27 #[.val (.ref a1), .val (.int (Int32.ofNat (pn + 3))), .val (.long va3), .second, .val (.int (by_ (pn + 2))), .val (.int (21 : Int32))] [(.ref a1), (.int (Int32.ofNat (pn + 3)))])) _
                refine st31 _ ?_
                show Steps p.tables e below (T31.setTop (mkF m 30 #[.val (.ref a1), .val (.int (Int32.ofNat (pn + 3))), .val (.long va3), .second, .val (.int (by_ (pn + 2))), .val (.int (21 : Int32))] [(.ref bw), (.int (Int32.ofNat (pn + 3)))])) _
                refine ld32 _ ?_
                exact kt
              by_cases hc31_4 : (Int32.ofNat (pn + 3)) < (8 : Int32)
              case pos =>
                have hp3 : pn + 3 < 8 := (own_lt8 (by omega)).mp hc31_4
                obtain ⟨T34, X34, e34, st34⟩ := getF X31 hx hZ hown (host := "") (Or.inl (hw _ (List.mem_of_getElem? (i := 15) rfl))) Via.refl e31 F_bytes (g := (mkF m 35 #[.val (.ref a1), .val (.int (Int32.ofNat (pn + 3))), .val (.long va3), .second, .val (.int (by_ (pn + 2))), .val (.int (21 : Int32))] [(.ref a1)])) rfl rfl (hb hby own_d5_35)
                have ld35 := (own_ldB X34 hx hZ e34 V_bw (j := (Int32.ofNat (pn + 3))) (own_ix (by omega)).1 (k := (pn + 3)) (own_ix (by omega)).2 hp3 (v := (.int (by_ (pn + 3)))) rfl (g := (mkF m 42 #[.val (.ref a1), .val (.int ((Int32.ofNat (pn + 3)) + (1 : Int32))), .val (.long va3), .second, .val (.int (by_ (pn + 2))), .val (.int (21 : Int32))] [(.int (Int32.ofNat (pn + 3))), (.ref bw)])) rfl rfl (hb hby own_d5_42))
                have pre36 : ∀ t, Steps p.tables e below (T34.setTop (mkF m 13 #[.val (.ref a1), .val (.int ((Int32.ofNat (pn + 3)) + (1 : Int32))), .val (.long (va3 ||| ((((by_ (pn + 3)) &&& (127 : Int32)).toInt64) <<< ((21 : Int32) &&& 0x3f).toInt64))), .second, .val (.int (by_ (pn + 3))), .val (.int (28 : Int32))] [])) t → Steps p.tables e below (s₁.setTop (entryFrame m #[(.ref a1)] 6)) t := by
                  intro t kt
                  refine pre33 t ?_
                  show Steps p.tables e below (T31.setTop (mkF m 31 #[.val (.ref a1), .val (.int (Int32.ofNat (pn + 3))), .val (.long va3), .second, .val (.int (by_ (pn + 2))), .val (.int (21 : Int32))] [(.int (8 : Int32)), (.int (Int32.ofNat (pn + 3)))])) _
                  refine XS.icmpNo X31.here hx rfl (hb hby own_d5_31) rfl (tlt hc31_4).2.1 ?_
                  show Steps p.tables e below (T31.setTop (mkF m 34 #[.val (.ref a1), .val (.int (Int32.ofNat (pn + 3))), .val (.long va3), .second, .val (.int (by_ (pn + 2))), .val (.int (21 : Int32))] [])) _
                  refine XS.aloadN X31.here hx rfl (hb hby own_d5_34) rfl rfl ?_
                  show Steps p.tables e below (T31.setTop (mkF m 35 #[.val (.ref a1), .val (.int (Int32.ofNat (pn + 3))), .val (.long va3), .second, .val (.int (by_ (pn + 2))), .val (.int (21 : Int32))] [(.ref a1)])) _
                  refine st34 _ ?_
                  show Steps p.tables e below (T34.setTop (mkF m 38 #[.val (.ref a1), .val (.int (Int32.ofNat (pn + 3))), .val (.long va3), .second, .val (.int (by_ (pn + 2))), .val (.int (21 : Int32))] [(.ref bw)])) _
                  refine XS.iloadN X34.here hx rfl (hb hby own_d5_38) rfl ?_
                  show Steps p.tables e below (T34.setTop (mkF m 39 #[.val (.ref a1), .val (.int (Int32.ofNat (pn + 3))), .val (.long va3), .second, .val (.int (by_ (pn + 2))), .val (.int (21 : Int32))] [(.int (Int32.ofNat (pn + 3))), (.ref bw)])) _
                  refine XS.iinc X34.here hx rfl (hb hby own_d5_39) rfl (l' := #[.val (.ref a1), .val (.int ((Int32.ofNat (pn + 3)) + (1 : Int32))), .val (.long va3), .second, .val (.int (by_ (pn + 2))), .val (.int (21 : Int32))]) rfl ?_
                  show Steps p.tables e below (T34.setTop (mkF m 42 #[.val (.ref a1), .val (.int ((Int32.ofNat (pn + 3)) + (1 : Int32))), .val (.long va3), .second, .val (.int (by_ (pn + 2))), .val (.int (21 : Int32))] [(.int (Int32.ofNat (pn + 3))), (.ref bw)])) _
                  refine ld35 _ ?_
                  show Steps p.tables e below (T34.setTop (mkF m 43 #[.val (.ref a1), .val (.int ((Int32.ofNat (pn + 3)) + (1 : Int32))), .val (.long va3), .second, .val (.int (by_ (pn + 2))), .val (.int (21 : Int32))] [(.int (by_ (pn + 3)))])) _
                  refine XS.istore X34.here hx rfl (hb hby own_d5_43) rfl (l' := #[.val (.ref a1), .val (.int ((Int32.ofNat (pn + 3)) + (1 : Int32))), .val (.long va3), .second, .val (.int (by_ (pn + 3))), .val (.int (21 : Int32))]) rfl ?_
                  show Steps p.tables e below (T34.setTop (mkF m 45 #[.val (.ref a1), .val (.int ((Int32.ofNat (pn + 3)) + (1 : Int32))), .val (.long va3), .second, .val (.int (by_ (pn + 3))), .val (.int (21 : Int32))] [])) _
                  refine XS.lloadN X34.here hx rfl (hb hby own_d5_45) rfl ?_
                  show Steps p.tables e below (T34.setTop (mkF m 46 #[.val (.ref a1), .val (.int ((Int32.ofNat (pn + 3)) + (1 : Int32))), .val (.long va3), .second, .val (.int (by_ (pn + 3))), .val (.int (21 : Int32))] [(.long va3)])) _
                  refine XS.iload X34.here hx rfl (hb hby own_d5_46) rfl ?_
                  show Steps p.tables e below (T34.setTop (mkF m 48 #[.val (.ref a1), .val (.int ((Int32.ofNat (pn + 3)) + (1 : Int32))), .val (.long va3), .second, .val (.int (by_ (pn + 3))), .val (.int (21 : Int32))] [(.int (by_ (pn + 3))), (.long va3)])) _
                  refine XS.bipush X34.here hx rfl (hb hby own_d5_48) ?_
                  show Steps p.tables e below (T34.setTop (mkF m 50 #[.val (.ref a1), .val (.int ((Int32.ofNat (pn + 3)) + (1 : Int32))), .val (.long va3), .second, .val (.int (by_ (pn + 3))), .val (.int (21 : Int32))] [(.int (127 : Int32)), (.int (by_ (pn + 3))), (.long va3)])) _
                  refine XS.iand X34.here hx rfl (hb hby own_d5_50) rfl ?_
                  show Steps p.tables e below (T34.setTop (mkF m 51 #[.val (.ref a1), .val (.int ((Int32.ofNat (pn + 3)) + (1 : Int32))), .val (.long va3), .second, .val (.int (by_ (pn + 3))), .val (.int (21 : Int32))] [(.int ((by_ (pn + 3)) &&& (127 : Int32))), (.long va3)])) _
                  refine XS.i2l X34.here hx rfl (hb hby own_d5_51) rfl ?_
                  show Steps p.tables e below (T34.setTop (mkF m 52 #[.val (.ref a1), .val (.int ((Int32.ofNat (pn + 3)) + (1 : Int32))), .val (.long va3), .second, .val (.int (by_ (pn + 3))), .val (.int (21 : Int32))] [(.long (((by_ (pn + 3)) &&& (127 : Int32)).toInt64)), (.long va3)])) _
                  refine XS.iload X34.here hx rfl (hb hby own_d5_52) rfl ?_
                  show Steps p.tables e below (T34.setTop (mkF m 54 #[.val (.ref a1), .val (.int ((Int32.ofNat (pn + 3)) + (1 : Int32))), .val (.long va3), .second, .val (.int (by_ (pn + 3))), .val (.int (21 : Int32))] [(.int (21 : Int32)), (.long (((by_ (pn + 3)) &&& (127 : Int32)).toInt64)), (.long va3)])) _
                  refine XS.lshl X34.here hx rfl (hb hby own_d5_54) rfl ?_
                  show Steps p.tables e below (T34.setTop (mkF m 55 #[.val (.ref a1), .val (.int ((Int32.ofNat (pn + 3)) + (1 : Int32))), .val (.long va3), .second, .val (.int (by_ (pn + 3))), .val (.int (21 : Int32))] [(.long ((((by_ (pn + 3)) &&& (127 : Int32)).toInt64) <<< ((21 : Int32) &&& 0x3f).toInt64)), (.long va3)])) _
                  refine XS.lor X34.here hx rfl (hb hby own_d5_55) rfl ?_
                  show Steps p.tables e below (T34.setTop (mkF m 56 #[.val (.ref a1), .val (.int ((Int32.ofNat (pn + 3)) + (1 : Int32))), .val (.long va3), .second, .val (.int (by_ (pn + 3))), .val (.int (21 : Int32))] [(.long (va3 ||| ((((by_ (pn + 3)) &&& (127 : Int32)).toInt64) <<< ((21 : Int32) &&& 0x3f).toInt64)))])) _
                  refine XS.lstoreN X34.here hx rfl (hb hby own_d5_56) rfl (l' := #[.val (.ref a1), .val (.int ((Int32.ofNat (pn + 3)) + (1 : Int32))), .val (.long (va3 ||| ((((by_ (pn + 3)) &&& (127 : Int32)).toInt64) <<< ((21 : Int32) &&& 0x3f).toInt64))), .second, .val (.int (by_ (pn + 3))), .val (.int (21 : Int32))]) rfl ?_
                  show Steps p.tables e below (T34.setTop (mkF m 57 #[.val (.ref a1), .val (.int ((Int32.ofNat (pn + 3)) + (1 : Int32))), .val (.long (va3 ||| ((((by_ (pn + 3)) &&& (127 : Int32)).toInt64) <<< ((21 : Int32) &&& 0x3f).toInt64))), .second, .val (.int (by_ (pn + 3))), .val (.int (21 : Int32))] [])) _
                  refine XS.iinc X34.here hx rfl (hb hby own_d5_57) rfl (l' := #[.val (.ref a1), .val (.int ((Int32.ofNat (pn + 3)) + (1 : Int32))), .val (.long (va3 ||| ((((by_ (pn + 3)) &&& (127 : Int32)).toInt64) <<< ((21 : Int32) &&& 0x3f).toInt64))), .second, .val (.int (by_ (pn + 3))), .val (.int (28 : Int32))]) rfl ?_
                  show Steps p.tables e below (T34.setTop (mkF m 60 #[.val (.ref a1), .val (.int ((Int32.ofNat (pn + 3)) + (1 : Int32))), .val (.long (va3 ||| ((((by_ (pn + 3)) &&& (127 : Int32)).toInt64) <<< ((21 : Int32) &&& 0x3f).toInt64))), .second, .val (.int (by_ (pn + 3))), .val (.int (28 : Int32))] [])) _
                  refine XS.goto X34.here hx rfl (pc0 := 60) (pc' := 13) rfl (hb hby own_d5_60) (by decide) (by decide) ?_
                  exact kt
                have pre37 : ∀ t, Steps p.tables e below (T34.setTop (mkF m 13 #[.val (.ref a1), .val (.int (Int32.ofNat (pn + 4))), .val (.long (va3 ||| ((((by_ (pn + 3)) &&& (127 : Int32)).toInt64) <<< ((21 : Int32) &&& 0x3f).toInt64))), .second, .val (.int (by_ (pn + 3))), .val (.int (28 : Int32))] [])) t → Steps p.tables e below (s₁.setTop (entryFrame m #[(.ref a1)] 6)) t := by rw [(own_step pn 3 : (Int32.ofNat (pn + 4)) = ((Int32.ofNat (pn + 3)) + (1 : Int32)))]; exact pre36
                obtain ⟨va4, hd_va4⟩ : ∃ z : Int64, z = (va3 ||| ((((by_ (pn + 3)) &&& (127 : Int32)).toInt64) <<< ((21 : Int32) &&& 0x3f).toInt64)) := ⟨_, rfl⟩
                have pre38 : ∀ t, Steps p.tables e below (T34.setTop (mkF m 13 #[.val (.ref a1), .val (.int (Int32.ofNat (pn + 4))), .val (.long va4), .second, .val (.int (by_ (pn + 3))), .val (.int (28 : Int32))] [])) t → Steps p.tables e below (s₁.setTop (entryFrame m #[(.ref a1)] 6)) t := by rw [hd_va4]; exact pre37
                have hv4 : va4.toInt = va3.toInt + ((by_ (pn + 3)).toInt % 128) * 2097152 := by rw [hd_va4]; exact own_acc (k := 21) (P := 2097152) (by decide) (by decide) (by decide) (by decide) hr3.1 hr3.2
                have hr4 : 0 ≤ va4.toInt ∧ va4.toInt < 268435456 := by have z0 : (0 : Int64).toInt = 0 := rfl; omega
                have pre39 : ∀ t, Steps p.tables e below (T34.setTop (mkF m 15 #[.val (.ref a1), .val (.int (Int32.ofNat (pn + 4))), .val (.long va4), .second, .val (.int (by_ (pn + 3))), .val (.int (28 : Int32))] [(.int (by_ (pn + 3)))])) t → Steps p.tables e below (s₁.setTop (entryFrame m #[(.ref a1)] 6)) t := by
                  intro t kt
                  refine pre38 t ?_
                  show Steps p.tables e below (T34.setTop (mkF m 13 #[.val (.ref a1), .val (.int (Int32.ofNat (pn + 4))), .val (.long va4), .second, .val (.int (by_ (pn + 3))), .val (.int (28 : Int32))] [])) _
                  refine XS.iload X34.here hx rfl (hb hby own_d5_13) rfl ?_
                  exact kt
                by_cases hc15_4 : (by_ (pn + 3)) < (0 : Int32)
                case pos =>
                  obtain ⟨T40, X40, e40, st40⟩ := getF X34 hx hZ hown (host := "") (Or.inl (hw _ (List.mem_of_getElem? (i := 15) rfl))) Via.refl e34 F_bytes (g := (mkF m 27 #[.val (.ref a1), .val (.int (Int32.ofNat (pn + 4))), .val (.long va4), .second, .val (.int (by_ (pn + 3))), .val (.int (28 : Int32))] [(.ref a1), (.int (Int32.ofNat (pn + 4)))])) rfl rfl (hb hby own_d5_27)
                  have ld41 := (own_len X40 hx hZ e40 V_bw (z := (8 : Int32)) rfl (g := (mkF m 30 #[.val (.ref a1), .val (.int (Int32.ofNat (pn + 4))), .val (.long va4), .second, .val (.int (by_ (pn + 3))), .val (.int (28 : Int32))] [(.ref bw), (.int (Int32.ofNat (pn + 4)))])) rfl rfl (hb hby own_d5_30))
                  have pre42 : ∀ t, Steps p.tables e below (T40.setTop (mkF m 31 #[.val (.ref a1), .val (.int (Int32.ofNat (pn + 4))), .val (.long va4), .second, .val (.int (by_ (pn + 3))), .val (.int (28 : Int32))] [(.int (8 : Int32)), (.int (Int32.ofNat (pn + 4)))])) t → Steps p.tables e below (s₁.setTop (entryFrame m #[(.ref a1)] 6)) t := by
                    intro t kt
                    refine pre39 t ?_
                    show Steps p.tables e below (T34.setTop (mkF m 15 #[.val (.ref a1), .val (.int (Int32.ofNat (pn + 4))), .val (.long va4), .second, .val (.int (by_ (pn + 3))), .val (.int (28 : Int32))] [(.int (by_ (pn + 3)))])) _
                    refine XS.ifNo X34.here hx rfl (hb hby own_d5_15) rfl ((if0 _ _).trans (tlt hc15_4).2.1) ?_
                    show Steps p.tables e below (T34.setTop (mkF m 18 #[.val (.ref a1), .val (.int (Int32.ofNat (pn + 4))), .val (.long va4), .second, .val (.int (by_ (pn + 3))), .val (.int (28 : Int32))] [])) _
                    refine XS.iload X34.here hx rfl (hb hby own_d5_18) rfl ?_
                    show Steps p.tables e below (T34.setTop (mkF m 20 #[.val (.ref a1), .val (.int (Int32.ofNat (pn + 4))), .val (.long va4), .second, .val (.int (by_ (pn + 3))), .val (.int (28 : Int32))] [(.int (28 : Int32))])) _
                    refine XS.bipush X34.here hx rfl (hb hby own_d5_20) ?_
                    show Steps p.tables e below (T34.setTop (mkF m 22 #[.val (.ref a1), .val (.int (Int32.ofNat (pn + 4))), .val (.long va4), .second, .val (.int (by_ (pn + 3))), .val (.int (28 : Int32))] [(.int (35 : Int32)), (.int (28 : Int32))])) _
                    refine XS.icmpNo X34.here hx rfl (hb hby own_d5_22) rfl (tlt (by decide)).2.1 ?_
                    show Steps p.tables e below (T34.setTop (mkF m 25 #[.val (.ref a1), .val (.int (Int32.ofNat (pn + 4))), .val (.long va4), .second, .val (.int (by_ (pn + 3))), .val (.int (28 : Int32))] [])) _
                    refine XS.iloadN X34.here hx rfl (hb hby own_d5_25) rfl ?_
                    show Steps p.tables e below (T34.setTop (mkF m 26 #[.val (.ref a1), .val (.int (Int32.ofNat (pn + 4))), .val (.long va4), .second, .val (.int (by_ (pn + 3))), .val (.int (28 : Int32))] [(.int (Int32.ofNat (pn + 4)))])) _
                    refine XS.aloadN X34.here hx rfl (hb hby own_d5_26) rfl rfl ?_
                    show Steps p.tables e below (T34.setTop (mkF m 27 #[.val (.ref a1), .val (.int (Int32.ofNat (pn + 4))), .val (.long va4), .second, .val (.int (by_ (pn + 3))), .val (.int (28 : Int32))] [(.ref a1), (.int (Int32.ofNat (pn + 4)))])) _
                    refine st40 _ ?_
                    show Steps p.tables e below (T40.setTop (mkF m 30 #[.val (.ref a1), .val (.int (Int32.ofNat (pn + 4))), .val (.long va4), .second, .val (.int (by_ (pn + 3))), .val (.int (28 : Int32))] [(.ref bw), (.int (Int32.ofNat (pn + 4)))])) _
                    refine ld41 _ ?_
                    exact kt
                  by_cases hc31_5 : (Int32.ofNat (pn + 4)) < (8 : Int32)
                  case pos =>
                    have hp4 : pn + 4 < 8 := (own_lt8 (by omega)).mp hc31_5
                    obtain ⟨T43, X43, e43, st43⟩ := getF X40 hx hZ hown (host := "") (Or.inl (hw _ (List.mem_of_getElem? (i := 15) rfl))) Via.refl e40 F_bytes (g := (mkF m 35 #[.val (.ref a1), .val (.int (Int32.ofNat (pn + 4))), .val (.long va4), .second, .val (.int (by_ (pn + 3))), .val (.int (28 : Int32))] [(.ref a1)])) rfl rfl (hb hby own_d5_35)
                    have ld44 := (own_ldB X43 hx hZ e43 V_bw (j := (Int32.ofNat (pn + 4))) (own_ix (by omega)).1 (k := (pn + 4)) (own_ix (by omega)).2 hp4 (v := (.int (by_ (pn + 4)))) rfl (g := (mkF m 42 #[.val (.ref a1), .val (.int ((Int32.ofNat (pn + 4)) + (1 : Int32))), .val (.long va4), .second, .val (.int (by_ (pn + 3))), .val (.int (28 : Int32))] [(.int (Int32.ofNat (pn + 4))), (.ref bw)])) rfl rfl (hb hby own_d5_42))
                    have pre45 : ∀ t, Steps p.tables e below (T43.setTop (mkF m 13 #[.val (.ref a1), .val (.int ((Int32.ofNat (pn + 4)) + (1 : Int32))), .val (.long (va4 ||| ((((by_ (pn + 4)) &&& (127 : Int32)).toInt64) <<< ((28 : Int32) &&& 0x3f).toInt64))), .second, .val (.int (by_ (pn + 4))), .val (.int (35 : Int32))] [])) t → Steps p.tables e below (s₁.setTop (entryFrame m #[(.ref a1)] 6)) t := by
                      intro t kt
                      refine pre42 t ?_
                      show Steps p.tables e below (T40.setTop (mkF m 31 #[.val (.ref a1), .val (.int (Int32.ofNat (pn + 4))), .val (.long va4), .second, .val (.int (by_ (pn + 3))), .val (.int (28 : Int32))] [(.int (8 : Int32)), (.int (Int32.ofNat (pn + 4)))])) _
                      refine XS.icmpNo X40.here hx rfl (hb hby own_d5_31) rfl (tlt hc31_5).2.1 ?_
                      show Steps p.tables e below (T40.setTop (mkF m 34 #[.val (.ref a1), .val (.int (Int32.ofNat (pn + 4))), .val (.long va4), .second, .val (.int (by_ (pn + 3))), .val (.int (28 : Int32))] [])) _
                      refine XS.aloadN X40.here hx rfl (hb hby own_d5_34) rfl rfl ?_
                      show Steps p.tables e below (T40.setTop (mkF m 35 #[.val (.ref a1), .val (.int (Int32.ofNat (pn + 4))), .val (.long va4), .second, .val (.int (by_ (pn + 3))), .val (.int (28 : Int32))] [(.ref a1)])) _
                      refine st43 _ ?_
                      show Steps p.tables e below (T43.setTop (mkF m 38 #[.val (.ref a1), .val (.int (Int32.ofNat (pn + 4))), .val (.long va4), .second, .val (.int (by_ (pn + 3))), .val (.int (28 : Int32))] [(.ref bw)])) _
                      refine XS.iloadN X43.here hx rfl (hb hby own_d5_38) rfl ?_
                      show Steps p.tables e below (T43.setTop (mkF m 39 #[.val (.ref a1), .val (.int (Int32.ofNat (pn + 4))), .val (.long va4), .second, .val (.int (by_ (pn + 3))), .val (.int (28 : Int32))] [(.int (Int32.ofNat (pn + 4))), (.ref bw)])) _
                      refine XS.iinc X43.here hx rfl (hb hby own_d5_39) rfl (l' := #[.val (.ref a1), .val (.int ((Int32.ofNat (pn + 4)) + (1 : Int32))), .val (.long va4), .second, .val (.int (by_ (pn + 3))), .val (.int (28 : Int32))]) rfl ?_
                      show Steps p.tables e below (T43.setTop (mkF m 42 #[.val (.ref a1), .val (.int ((Int32.ofNat (pn + 4)) + (1 : Int32))), .val (.long va4), .second, .val (.int (by_ (pn + 3))), .val (.int (28 : Int32))] [(.int (Int32.ofNat (pn + 4))), (.ref bw)])) _
                      refine ld44 _ ?_
                      show Steps p.tables e below (T43.setTop (mkF m 43 #[.val (.ref a1), .val (.int ((Int32.ofNat (pn + 4)) + (1 : Int32))), .val (.long va4), .second, .val (.int (by_ (pn + 3))), .val (.int (28 : Int32))] [(.int (by_ (pn + 4)))])) _
                      refine XS.istore X43.here hx rfl (hb hby own_d5_43) rfl (l' := #[.val (.ref a1), .val (.int ((Int32.ofNat (pn + 4)) + (1 : Int32))), .val (.long va4), .second, .val (.int (by_ (pn + 4))), .val (.int (28 : Int32))]) rfl ?_
                      show Steps p.tables e below (T43.setTop (mkF m 45 #[.val (.ref a1), .val (.int ((Int32.ofNat (pn + 4)) + (1 : Int32))), .val (.long va4), .second, .val (.int (by_ (pn + 4))), .val (.int (28 : Int32))] [])) _
                      refine XS.lloadN X43.here hx rfl (hb hby own_d5_45) rfl ?_
                      show Steps p.tables e below (T43.setTop (mkF m 46 #[.val (.ref a1), .val (.int ((Int32.ofNat (pn + 4)) + (1 : Int32))), .val (.long va4), .second, .val (.int (by_ (pn + 4))), .val (.int (28 : Int32))] [(.long va4)])) _
                      refine XS.iload X43.here hx rfl (hb hby own_d5_46) rfl ?_
                      show Steps p.tables e below (T43.setTop (mkF m 48 #[.val (.ref a1), .val (.int ((Int32.ofNat (pn + 4)) + (1 : Int32))), .val (.long va4), .second, .val (.int (by_ (pn + 4))), .val (.int (28 : Int32))] [(.int (by_ (pn + 4))), (.long va4)])) _
                      refine XS.bipush X43.here hx rfl (hb hby own_d5_48) ?_
                      show Steps p.tables e below (T43.setTop (mkF m 50 #[.val (.ref a1), .val (.int ((Int32.ofNat (pn + 4)) + (1 : Int32))), .val (.long va4), .second, .val (.int (by_ (pn + 4))), .val (.int (28 : Int32))] [(.int (127 : Int32)), (.int (by_ (pn + 4))), (.long va4)])) _
                      refine XS.iand X43.here hx rfl (hb hby own_d5_50) rfl ?_
                      show Steps p.tables e below (T43.setTop (mkF m 51 #[.val (.ref a1), .val (.int ((Int32.ofNat (pn + 4)) + (1 : Int32))), .val (.long va4), .second, .val (.int (by_ (pn + 4))), .val (.int (28 : Int32))] [(.int ((by_ (pn + 4)) &&& (127 : Int32))), (.long va4)])) _
                      refine XS.i2l X43.here hx rfl (hb hby own_d5_51) rfl ?_
                      show Steps p.tables e below (T43.setTop (mkF m 52 #[.val (.ref a1), .val (.int ((Int32.ofNat (pn + 4)) + (1 : Int32))), .val (.long va4), .second, .val (.int (by_ (pn + 4))), .val (.int (28 : Int32))] [(.long (((by_ (pn + 4)) &&& (127 : Int32)).toInt64)), (.long va4)])) _
                      refine XS.iload X43.here hx rfl (hb hby own_d5_52) rfl ?_
                      show Steps p.tables e below (T43.setTop (mkF m 54 #[.val (.ref a1), .val (.int ((Int32.ofNat (pn + 4)) + (1 : Int32))), .val (.long va4), .second, .val (.int (by_ (pn + 4))), .val (.int (28 : Int32))] [(.int (28 : Int32)), (.long (((by_ (pn + 4)) &&& (127 : Int32)).toInt64)), (.long va4)])) _
                      refine XS.lshl X43.here hx rfl (hb hby own_d5_54) rfl ?_
                      show Steps p.tables e below (T43.setTop (mkF m 55 #[.val (.ref a1), .val (.int ((Int32.ofNat (pn + 4)) + (1 : Int32))), .val (.long va4), .second, .val (.int (by_ (pn + 4))), .val (.int (28 : Int32))] [(.long ((((by_ (pn + 4)) &&& (127 : Int32)).toInt64) <<< ((28 : Int32) &&& 0x3f).toInt64)), (.long va4)])) _
                      refine XS.lor X43.here hx rfl (hb hby own_d5_55) rfl ?_
                      show Steps p.tables e below (T43.setTop (mkF m 56 #[.val (.ref a1), .val (.int ((Int32.ofNat (pn + 4)) + (1 : Int32))), .val (.long va4), .second, .val (.int (by_ (pn + 4))), .val (.int (28 : Int32))] [(.long (va4 ||| ((((by_ (pn + 4)) &&& (127 : Int32)).toInt64) <<< ((28 : Int32) &&& 0x3f).toInt64)))])) _
                      refine XS.lstoreN X43.here hx rfl (hb hby own_d5_56) rfl (l' := #[.val (.ref a1), .val (.int ((Int32.ofNat (pn + 4)) + (1 : Int32))), .val (.long (va4 ||| ((((by_ (pn + 4)) &&& (127 : Int32)).toInt64) <<< ((28 : Int32) &&& 0x3f).toInt64))), .second, .val (.int (by_ (pn + 4))), .val (.int (28 : Int32))]) rfl ?_
                      show Steps p.tables e below (T43.setTop (mkF m 57 #[.val (.ref a1), .val (.int ((Int32.ofNat (pn + 4)) + (1 : Int32))), .val (.long (va4 ||| ((((by_ (pn + 4)) &&& (127 : Int32)).toInt64) <<< ((28 : Int32) &&& 0x3f).toInt64))), .second, .val (.int (by_ (pn + 4))), .val (.int (28 : Int32))] [])) _
                      refine XS.iinc X43.here hx rfl (hb hby own_d5_57) rfl (l' := #[.val (.ref a1), .val (.int ((Int32.ofNat (pn + 4)) + (1 : Int32))), .val (.long (va4 ||| ((((by_ (pn + 4)) &&& (127 : Int32)).toInt64) <<< ((28 : Int32) &&& 0x3f).toInt64))), .second, .val (.int (by_ (pn + 4))), .val (.int (35 : Int32))]) rfl ?_
                      show Steps p.tables e below (T43.setTop (mkF m 60 #[.val (.ref a1), .val (.int ((Int32.ofNat (pn + 4)) + (1 : Int32))), .val (.long (va4 ||| ((((by_ (pn + 4)) &&& (127 : Int32)).toInt64) <<< ((28 : Int32) &&& 0x3f).toInt64))), .second, .val (.int (by_ (pn + 4))), .val (.int (35 : Int32))] [])) _
                      refine XS.goto X43.here hx rfl (pc0 := 60) (pc' := 13) rfl (hb hby own_d5_60) (by decide) (by decide) ?_
                      exact kt
                    have pre46 : ∀ t, Steps p.tables e below (T43.setTop (mkF m 13 #[.val (.ref a1), .val (.int (Int32.ofNat (pn + 5))), .val (.long (va4 ||| ((((by_ (pn + 4)) &&& (127 : Int32)).toInt64) <<< ((28 : Int32) &&& 0x3f).toInt64))), .second, .val (.int (by_ (pn + 4))), .val (.int (35 : Int32))] [])) t → Steps p.tables e below (s₁.setTop (entryFrame m #[(.ref a1)] 6)) t := by rw [(own_step pn 4 : (Int32.ofNat (pn + 5)) = ((Int32.ofNat (pn + 4)) + (1 : Int32)))]; exact pre45
                    obtain ⟨va5, hd_va5⟩ : ∃ z : Int64, z = (va4 ||| ((((by_ (pn + 4)) &&& (127 : Int32)).toInt64) <<< ((28 : Int32) &&& 0x3f).toInt64)) := ⟨_, rfl⟩
                    have pre47 : ∀ t, Steps p.tables e below (T43.setTop (mkF m 13 #[.val (.ref a1), .val (.int (Int32.ofNat (pn + 5))), .val (.long va5), .second, .val (.int (by_ (pn + 4))), .val (.int (35 : Int32))] [])) t → Steps p.tables e below (s₁.setTop (entryFrame m #[(.ref a1)] 6)) t := by rw [hd_va5]; exact pre46
                    have hv5 : va5.toInt = va4.toInt + ((by_ (pn + 4)).toInt % 128) * 268435456 := by rw [hd_va5]; exact own_acc (k := 28) (P := 268435456) (by decide) (by decide) (by decide) (by decide) hr4.1 hr4.2
                    have hr5 : 0 ≤ va5.toInt ∧ va5.toInt < 34359738368 := by have z0 : (0 : Int64).toInt = 0 := rfl; omega
                    have pre48 : ∀ t, Steps p.tables e below (T43.setTop (mkF m 15 #[.val (.ref a1), .val (.int (Int32.ofNat (pn + 5))), .val (.long va5), .second, .val (.int (by_ (pn + 4))), .val (.int (35 : Int32))] [(.int (by_ (pn + 4)))])) t → Steps p.tables e below (s₁.setTop (entryFrame m #[(.ref a1)] 6)) t := by
                      intro t kt
                      refine pre47 t ?_
                      show Steps p.tables e below (T43.setTop (mkF m 13 #[.val (.ref a1), .val (.int (Int32.ofNat (pn + 5))), .val (.long va5), .second, .val (.int (by_ (pn + 4))), .val (.int (35 : Int32))] [])) _
                      refine XS.iload X43.here hx rfl (hb hby own_d5_13) rfl ?_
                      exact kt
                    by_cases hc15_5 : (by_ (pn + 4)) < (0 : Int32)
                    case pos =>
                      obtain ⟨fs, hr, hrun, hended, hW, hsame⟩ := X43.leave (v := some (.long (-1 : Int64))) (fun h => by rw [Bd.returns] at h; cases h) (BodyLoose.notSynchronized Bd)
                      refine ⟨_, _, pre48 _ ?_, hrun, hended, _, _, rfl, ?_, ⟨_, rfl⟩, hW, hsame.mono (by decide) (by decide)⟩
                      · skip
                        show Steps p.tables e below (T43.setTop (mkF m 15 #[.val (.ref a1), .val (.int (Int32.ofNat (pn + 5))), .val (.long va5), .second, .val (.int (by_ (pn + 4))), .val (.int (35 : Int32))] [(.int (by_ (pn + 4)))])) _
                        refine XS.ifNo X43.here hx rfl (hb hby own_d5_15) rfl ((if0 _ _).trans (tlt hc15_5).2.1) ?_
                        show Steps p.tables e below (T43.setTop (mkF m 18 #[.val (.ref a1), .val (.int (Int32.ofNat (pn + 5))), .val (.long va5), .second, .val (.int (by_ (pn + 4))), .val (.int (35 : Int32))] [])) _
                        refine XS.iload X43.here hx rfl (hb hby own_d5_18) rfl ?_
                        show Steps p.tables e below (T43.setTop (mkF m 20 #[.val (.ref a1), .val (.int (Int32.ofNat (pn + 5))), .val (.long va5), .second, .val (.int (by_ (pn + 4))), .val (.int (35 : Int32))] [(.int (35 : Int32))])) _
                        refine XS.bipush X43.here hx rfl (hb hby own_d5_20) ?_
                        show Steps p.tables e below (T43.setTop (mkF m 22 #[.val (.ref a1), .val (.int (Int32.ofNat (pn + 5))), .val (.long va5), .second, .val (.int (by_ (pn + 4))), .val (.int (35 : Int32))] [(.int (35 : Int32)), (.int (35 : Int32))])) _
                        refine XS.icmpYes X43.here hx rfl (pc0 := 22) (pc' := 63) rfl (hb hby own_d5_22) rfl (flt (by decide)).2.1 (by decide) (by decide) ?_
                        show Steps p.tables e below (T43.setTop (mkF m 63 #[.val (.ref a1), .val (.int (Int32.ofNat (pn + 5))), .val (.long va5), .second, .val (.int (by_ (pn + 4))), .val (.int (35 : Int32))] [])) _
                        refine XS.iload X43.here hx rfl (hb hby own_d5_63) rfl ?_
                        show Steps p.tables e below (T43.setTop (mkF m 65 #[.val (.ref a1), .val (.int (Int32.ofNat (pn + 5))), .val (.long va5), .second, .val (.int (by_ (pn + 4))), .val (.int (35 : Int32))] [(.int (by_ (pn + 4)))])) _
                        refine XS.ifYes X43.here hx rfl (pc0 := 65) (pc' := 80) rfl (hb hby own_d5_65) rfl ((if0 _ _).trans (tlt hc15_5).1) (by decide) (by decide) ?_
                        show Steps p.tables e below (T43.setTop (mkF m 80 #[.val (.ref a1), .val (.int (Int32.ofNat (pn + 5))), .val (.long va5), .second, .val (.int (by_ (pn + 4))), .val (.int (35 : Int32))] [])) _
                        refine XS.iconst X43.here hx rfl (hb hby own_d5_80) ?_
                        show Steps p.tables e below (T43.setTop (mkF m 81 #[.val (.ref a1), .val (.int (Int32.ofNat (pn + 5))), .val (.long va5), .second, .val (.int (by_ (pn + 4))), .val (.int (35 : Int32))] [(.int (0 : Int32))])) _
                        refine XS.istore X43.here hx rfl (hb hby own_d5_81) rfl (l' := #[.val (.ref a1), .val (.int (Int32.ofNat (pn + 5))), .val (.long va5), .second, .val (.int (by_ (pn + 4))), .val (.int (0 : Int32))]) rfl ?_
                        show Steps p.tables e below (T43.setTop (mkF m 83 #[.val (.ref a1), .val (.int (Int32.ofNat (pn + 5))), .val (.long va5), .second, .val (.int (by_ (pn + 4))), .val (.int (0 : Int32))] [])) _
                        refine XS.iload X43.here hx rfl (hb hby own_d5_83) rfl ?_
                        show Steps p.tables e below (T43.setTop (mkF m 85 #[.val (.ref a1), .val (.int (Int32.ofNat (pn + 5))), .val (.long va5), .second, .val (.int (by_ (pn + 4))), .val (.int (0 : Int32))] [(.int (0 : Int32))])) _
                        refine XS.ifYes X43.here hx rfl (pc0 := 85) (pc' := 93) rfl (hb hby own_d5_85) rfl ((if0 _ _).trans (teq rfl).1) (by decide) (by decide) ?_
                        show Steps p.tables e below (T43.setTop (mkF m 93 #[.val (.ref a1), .val (.int (Int32.ofNat (pn + 5))), .val (.long va5), .second, .val (.int (by_ (pn + 4))), .val (.int (0 : Int32))] [])) _
                        refine XS.iload X43.here hx rfl (hb hby own_d5_93) rfl ?_
                        show Steps p.tables e below (T43.setTop (mkF m 95 #[.val (.ref a1), .val (.int (Int32.ofNat (pn + 5))), .val (.long va5), .second, .val (.int (by_ (pn + 4))), .val (.int (0 : Int32))] [(.int (0 : Int32))])) _
                        refine XS.ifYes X43.here hx rfl (pc0 := 95) (pc' := 102) rfl (hb hby own_d5_95) rfl ((if0 _ _).trans (teq rfl).1) (by decide) (by decide) ?_
                        show Steps p.tables e below (T43.setTop (mkF m 102 #[.val (.ref a1), .val (.int (Int32.ofNat (pn + 5))), .val (.long va5), .second, .val (.int (by_ (pn + 4))), .val (.int (0 : Int32))] [])) _
                        refine X43.ldc2Long hx hown (mvT hZ (hw _ (List.mem_of_getElem? (i := 35) rfl))) (g := (mkF m 102 #[.val (.ref a1), .val (.int (Int32.ofNat (pn + 5))), .val (.long va5), .second, .val (.int (by_ (pn + 4))), .val (.int (0 : Int32))] [])) rfl (hb hby own_d5_102) _ ?_
                        show Steps p.tables e below (T43.setTop (mkF m 105 #[.val (.ref a1), .val (.int (Int32.ofNat (pn + 5))), .val (.long va5), .second, .val (.int (by_ (pn + 4))), .val (.int (0 : Int32))] [(.long (-1 : Int64))])) _
                        exact X43.lreturnOut hx Bd.returns (hb hby own_d5_105) hr
                      · show own_Q5 Z a1 bw pn by_ h0 n0 _ T43.heap _
                        rw [e43]
                        have e0_ : own_bk by_ pn 0 = by_ pn := if_pos hp0
                        have n0_ : ¬ by_ pn = (-1000 : Int32) := own_absent (hrg _ hp0).1
                        have e1_ : own_bk by_ pn 1 = by_ (pn + 1) := if_pos hp1
                        have n1_ : ¬ by_ (pn + 1) = (-1000 : Int32) := own_absent (hrg _ hp1).1
                        have e2_ : own_bk by_ pn 2 = by_ (pn + 2) := if_pos hp2
                        have n2_ : ¬ by_ (pn + 2) = (-1000 : Int32) := own_absent (hrg _ hp2).1
                        have e3_ : own_bk by_ pn 3 = by_ (pn + 3) := if_pos hp3
                        have n3_ : ¬ by_ (pn + 3) = (-1000 : Int32) := own_absent (hrg _ hp3).1
                        have e4_ : own_bk by_ pn 4 = by_ (pn + 4) := if_pos hp4
                        have n4_ : ¬ by_ (pn + 4) = (-1000 : Int32) := own_absent (hrg _ hp4).1
                        have z0_ : by_ pn < (0 : Int32) := hc15
                        refine ⟨?_, N0, K0, E_a1, F_bytes, ?_⟩
                        · simp [own_val, own_ln, e0_, e1_, e2_, e3_, e4_, n0_, n1_, n2_, n3_, n4_, z0_, hc15_2, hc15_3, hc15_4, hc15_5]
                        · have q : own_ln (own_bk by_ pn 0) (own_bk by_ pn 1) (own_bk by_ pn 2) (own_bk by_ pn 3) (own_bk by_ pn 4) = 0 := by simp [own_val, own_ln, e0_, e1_, e2_, e3_, e4_, n0_, n1_, n2_, n3_, n4_, z0_, hc15_2, hc15_3, hc15_4, hc15_5]
                          rw [q, Int32.add_zero]; exact F_position
                    case neg =>
                      have pre49 : ∀ t, Steps p.tables e below (T43.setTop (mkF m 73 #[.val (.ref a1), .val (.int (Int32.ofNat (pn + 5))), .val (.long va5), .second, .val (.int (by_ (pn + 4))), .val (.int (35 : Int32))] [(.int (lcmpW va5 (4294967295 : Int64)))])) t → Steps p.tables e below (s₁.setTop (entryFrame m #[(.ref a1)] 6)) t := by
                        intro t kt
                        refine pre48 t ?_
                        show Steps p.tables e below (T43.setTop (mkF m 15 #[.val (.ref a1), .val (.int (Int32.ofNat (pn + 5))), .val (.long va5), .second, .val (.int (by_ (pn + 4))), .val (.int (35 : Int32))] [(.int (by_ (pn + 4)))])) _
                        refine XS.ifYes X43.here hx rfl (pc0 := 15) (pc' := 63) rfl (hb hby own_d5_15) rfl ((if0 _ _).trans (flt hc15_5).2.1) (by decide) (by decide) ?_
                        show Steps p.tables e below (T43.setTop (mkF m 63 #[.val (.ref a1), .val (.int (Int32.ofNat (pn + 5))), .val (.long va5), .second, .val (.int (by_ (pn + 4))), .val (.int (35 : Int32))] [])) _
                        refine XS.iload X43.here hx rfl (hb hby own_d5_63) rfl ?_
                        show Steps p.tables e below (T43.setTop (mkF m 65 #[.val (.ref a1), .val (.int (Int32.ofNat (pn + 5))), .val (.long va5), .second, .val (.int (by_ (pn + 4))), .val (.int (35 : Int32))] [(.int (by_ (pn + 4)))])) _
                        refine XS.ifNo X43.here hx rfl (hb hby own_d5_65) rfl ((if0 _ _).trans (flt hc15_5).1) ?_
                        show Steps p.tables e below (T43.setTop (mkF m 68 #[.val (.ref a1), .val (.int (Int32.ofNat (pn + 5))), .val (.long va5), .second, .val (.int (by_ (pn + 4))), .val (.int (35 : Int32))] [])) _
                        refine XS.lloadN X43.here hx rfl (hb hby own_d5_68) rfl ?_
                        show Steps p.tables e below (T43.setTop (mkF m 69 #[.val (.ref a1), .val (.int (Int32.ofNat (pn + 5))), .val (.long va5), .second, .val (.int (by_ (pn + 4))), .val (.int (35 : Int32))] [(.long va5)])) _
                        refine X43.ldc2Long hx hown (mvT hZ (hw _ (List.mem_of_getElem? (i := 29) rfl))) (g := (mkF m 69 #[.val (.ref a1), .val (.int (Int32.ofNat (pn + 5))), .val (.long va5), .second, .val (.int (by_ (pn + 4))), .val (.int (35 : Int32))] [(.long va5)])) rfl (hb hby own_d5_69) _ ?_
                        show Steps p.tables e below (T43.setTop (mkF m 72 #[.val (.ref a1), .val (.int (Int32.ofNat (pn + 5))), .val (.long va5), .second, .val (.int (by_ (pn + 4))), .val (.int (35 : Int32))] [(.long (4294967295 : Int64)), (.long va5)])) _
                        refine XS.lcmp X43.here hx rfl (hb hby own_d5_72) rfl ?_
                        exact kt
                      by_cases hc73 : (4294967295 : Int64) < va5
                      case pos =>
                        obtain ⟨fs, hr, hrun, hended, hW, hsame⟩ := X43.leave (v := some (.long (-1 : Int64))) (fun h => by rw [Bd.returns] at h; cases h) (BodyLoose.notSynchronized Bd)
                        refine ⟨_, _, pre49 _ ?_, hrun, hended, _, _, rfl, ?_, ⟨_, rfl⟩, hW, hsame.mono (by decide) (by decide)⟩
                        · skip
                          show Steps p.tables e below (T43.setTop (mkF m 73 #[.val (.ref a1), .val (.int (Int32.ofNat (pn + 5))), .val (.long va5), .second, .val (.int (by_ (pn + 4))), .val (.int (35 : Int32))] [(.int (lcmpW va5 (4294967295 : Int64)))])) _
                          refine XS.ifYes X43.here hx rfl (pc0 := 73) (pc' := 80) rfl (hb hby own_d5_73) rfl ((if0 _ _).trans (tlt ((lw_gt va5 (4294967295 : Int64)).mpr hc73)).2.2.1) (by decide) (by decide) ?_
                          show Steps p.tables e below (T43.setTop (mkF m 80 #[.val (.ref a1), .val (.int (Int32.ofNat (pn + 5))), .val (.long va5), .second, .val (.int (by_ (pn + 4))), .val (.int (35 : Int32))] [])) _
                          refine XS.iconst X43.here hx rfl (hb hby own_d5_80) ?_
                          show Steps p.tables e below (T43.setTop (mkF m 81 #[.val (.ref a1), .val (.int (Int32.ofNat (pn + 5))), .val (.long va5), .second, .val (.int (by_ (pn + 4))), .val (.int (35 : Int32))] [(.int (0 : Int32))])) _
                          refine XS.istore X43.here hx rfl (hb hby own_d5_81) rfl (l' := #[.val (.ref a1), .val (.int (Int32.ofNat (pn + 5))), .val (.long va5), .second, .val (.int (by_ (pn + 4))), .val (.int (0 : Int32))]) rfl ?_
                          show Steps p.tables e below (T43.setTop (mkF m 83 #[.val (.ref a1), .val (.int (Int32.ofNat (pn + 5))), .val (.long va5), .second, .val (.int (by_ (pn + 4))), .val (.int (0 : Int32))] [])) _
                          refine XS.iload X43.here hx rfl (hb hby own_d5_83) rfl ?_
                          show Steps p.tables e below (T43.setTop (mkF m 85 #[.val (.ref a1), .val (.int (Int32.ofNat (pn + 5))), .val (.long va5), .second, .val (.int (by_ (pn + 4))), .val (.int (0 : Int32))] [(.int (0 : Int32))])) _
                          refine XS.ifYes X43.here hx rfl (pc0 := 85) (pc' := 93) rfl (hb hby own_d5_85) rfl ((if0 _ _).trans (teq rfl).1) (by decide) (by decide) ?_
                          show Steps p.tables e below (T43.setTop (mkF m 93 #[.val (.ref a1), .val (.int (Int32.ofNat (pn + 5))), .val (.long va5), .second, .val (.int (by_ (pn + 4))), .val (.int (0 : Int32))] [])) _
                          refine XS.iload X43.here hx rfl (hb hby own_d5_93) rfl ?_
                          show Steps p.tables e below (T43.setTop (mkF m 95 #[.val (.ref a1), .val (.int (Int32.ofNat (pn + 5))), .val (.long va5), .second, .val (.int (by_ (pn + 4))), .val (.int (0 : Int32))] [(.int (0 : Int32))])) _
                          refine XS.ifYes X43.here hx rfl (pc0 := 95) (pc' := 102) rfl (hb hby own_d5_95) rfl ((if0 _ _).trans (teq rfl).1) (by decide) (by decide) ?_
                          show Steps p.tables e below (T43.setTop (mkF m 102 #[.val (.ref a1), .val (.int (Int32.ofNat (pn + 5))), .val (.long va5), .second, .val (.int (by_ (pn + 4))), .val (.int (0 : Int32))] [])) _
                          refine X43.ldc2Long hx hown (mvT hZ (hw _ (List.mem_of_getElem? (i := 35) rfl))) (g := (mkF m 102 #[.val (.ref a1), .val (.int (Int32.ofNat (pn + 5))), .val (.long va5), .second, .val (.int (by_ (pn + 4))), .val (.int (0 : Int32))] [])) rfl (hb hby own_d5_102) _ ?_
                          show Steps p.tables e below (T43.setTop (mkF m 105 #[.val (.ref a1), .val (.int (Int32.ofNat (pn + 5))), .val (.long va5), .second, .val (.int (by_ (pn + 4))), .val (.int (0 : Int32))] [(.long (-1 : Int64))])) _
                          exact X43.lreturnOut hx Bd.returns (hb hby own_d5_105) hr
                        · show own_Q5 Z a1 bw pn by_ h0 n0 _ T43.heap _
                          rw [e43]
                          have e0_ : own_bk by_ pn 0 = by_ pn := if_pos hp0
                          have n0_ : ¬ by_ pn = (-1000 : Int32) := own_absent (hrg _ hp0).1
                          have e1_ : own_bk by_ pn 1 = by_ (pn + 1) := if_pos hp1
                          have n1_ : ¬ by_ (pn + 1) = (-1000 : Int32) := own_absent (hrg _ hp1).1
                          have e2_ : own_bk by_ pn 2 = by_ (pn + 2) := if_pos hp2
                          have n2_ : ¬ by_ (pn + 2) = (-1000 : Int32) := own_absent (hrg _ hp2).1
                          have e3_ : own_bk by_ pn 3 = by_ (pn + 3) := if_pos hp3
                          have n3_ : ¬ by_ (pn + 3) = (-1000 : Int32) := own_absent (hrg _ hp3).1
                          have e4_ : own_bk by_ pn 4 = by_ (pn + 4) := if_pos hp4
                          have n4_ : ¬ by_ (pn + 4) = (-1000 : Int32) := own_absent (hrg _ hp4).1
                          have z0_ : by_ pn < (0 : Int32) := hc15
                          have hm4 : (by_ (pn + 4)).toInt % 128 = (by_ (pn + 4)).toInt := by have w := hrg _ hp4; have w2 : ¬ (by_ (pn + 4)).toInt < 0 := fun q => hc15_5 (Int32.lt_iff_toInt_lt.mpr q); omega
                          have o15 : (15 : Int32).toInt = 15 := rfl
                          have oM : (4294967295 : Int64).toInt = 4294967295 := rfl
                          have hb : (15 : Int32) < by_ (pn + 4) := Int32.lt_iff_toInt_lt.mpr (by have w := Int64.lt_iff_toInt_lt.mp hc73; omega)
                          refine ⟨?_, N0, K0, E_a1, F_bytes, ?_⟩
                          · simp [own_val, own_ln, e0_, e1_, e2_, e3_, e4_, n0_, n1_, n2_, n3_, n4_, z0_, hc15_2, hc15_3, hc15_4, hc15_5, hb]
                          · have q : own_ln (own_bk by_ pn 0) (own_bk by_ pn 1) (own_bk by_ pn 2) (own_bk by_ pn 3) (own_bk by_ pn 4) = 0 := by simp [own_val, own_ln, e0_, e1_, e2_, e3_, e4_, n0_, n1_, n2_, n3_, n4_, z0_, hc15_2, hc15_3, hc15_4, hc15_5, hb]
                            rw [q, Int32.add_zero]; exact F_position
                      case neg =>
                        obtain ⟨T50, h50, X50, e50, W50, st50⟩ := putF X43 hx hZ hown (host := "") (Or.inl (hw _ (List.mem_of_getElem? (i := 22) rfl))) Via.refl e43 F_position E_a1 (Or.inl (hw _ (List.mem_of_getElem? (i := 23) rfl))) (hw _ (List.mem_of_getElem? (i := 7) rfl)) (ty := .int) (by decide) rfl rfl (g := (mkF m 90 #[.val (.ref a1), .val (.int (Int32.ofNat (pn + 5))), .val (.long va5), .second, .val (.int (by_ (pn + 4))), .val (.int (1 : Int32))] [(.int (Int32.ofNat (pn + 5))), (.ref a1)])) rfl rfl (hb hby own_d5_90)
                        have E_a1 := E_a1.wr W50
                        have F_bytes := F_bytes.other W50 (Or.inr (slot_ne (Or.inr (hw _ (List.mem_of_getElem? (i := 16) rfl))) (Or.inl (hw _ (List.mem_of_getElem? (i := 23) rfl))) (by decide) (t := (.array .byte)) (t' := .int) (by decide) (by decide)))
                        have F_position := F_position.same W50
                        have V_bw := V_bw.other W50 (Ne.symm neab)
                        have K51 := K0.wr W50 (Or.inl (List.mem_of_getElem? (i := 0) rfl))
                        have Z52 := Nat.le_trans Z0 (Keep.of_wr W50).1
                        have N53 := Fr.snoc X50 N0 g_a1
                        obtain ⟨fs, hr, hrun, hended, hW, hsame⟩ := X50.leave (v := some (.long va5)) (fun h => by rw [Bd.returns] at h; cases h) (BodyLoose.notSynchronized Bd)
                        refine ⟨_, _, pre49 _ ?_, hrun, hended, _, _, rfl, ?_, ⟨_, rfl⟩, hW, hsame.mono (by decide) (by decide)⟩
                        · skip
                          show Steps p.tables e below (T43.setTop (mkF m 73 #[.val (.ref a1), .val (.int (Int32.ofNat (pn + 5))), .val (.long va5), .second, .val (.int (by_ (pn + 4))), .val (.int (35 : Int32))] [(.int (lcmpW va5 (4294967295 : Int64)))])) _
                          refine XS.ifNo X43.here hx rfl (hb hby own_d5_73) rfl ((if0 _ _).trans (flt (fun q => hc73 ((lw_gt va5 (4294967295 : Int64)).mp q))).2.2.1) ?_
                          show Steps p.tables e below (T43.setTop (mkF m 76 #[.val (.ref a1), .val (.int (Int32.ofNat (pn + 5))), .val (.long va5), .second, .val (.int (by_ (pn + 4))), .val (.int (35 : Int32))] [])) _
                          refine XS.iconst X43.here hx rfl (hb hby own_d5_76) ?_
                          show Steps p.tables e below (T43.setTop (mkF m 77 #[.val (.ref a1), .val (.int (Int32.ofNat (pn + 5))), .val (.long va5), .second, .val (.int (by_ (pn + 4))), .val (.int (35 : Int32))] [(.int (1 : Int32))])) _
                          refine XS.goto X43.here hx rfl (pc0 := 77) (pc' := 81) rfl (hb hby own_d5_77) (by decide) (by decide) ?_
                          show Steps p.tables e below (T43.setTop (mkF m 81 #[.val (.ref a1), .val (.int (Int32.ofNat (pn + 5))), .val (.long va5), .second, .val (.int (by_ (pn + 4))), .val (.int (35 : Int32))] [(.int (1 : Int32))])) _
                          refine XS.istore X43.here hx rfl (hb hby own_d5_81) rfl (l' := #[.val (.ref a1), .val (.int (Int32.ofNat (pn + 5))), .val (.long va5), .second, .val (.int (by_ (pn + 4))), .val (.int (1 : Int32))]) rfl ?_
                          show Steps p.tables e below (T43.setTop (mkF m 83 #[.val (.ref a1), .val (.int (Int32.ofNat (pn + 5))), .val (.long va5), .second, .val (.int (by_ (pn + 4))), .val (.int (1 : Int32))] [])) _
                          refine XS.iload X43.here hx rfl (hb hby own_d5_83) rfl ?_
                          show Steps p.tables e below (T43.setTop (mkF m 85 #[.val (.ref a1), .val (.int (Int32.ofNat (pn + 5))), .val (.long va5), .second, .val (.int (by_ (pn + 4))), .val (.int (1 : Int32))] [(.int (1 : Int32))])) _
                          refine XS.ifNo X43.here hx rfl (hb hby own_d5_85) rfl ((if0 _ _).trans (feq (by decide)).1) ?_
                          show Steps p.tables e below (T43.setTop (mkF m 88 #[.val (.ref a1), .val (.int (Int32.ofNat (pn + 5))), .val (.long va5), .second, .val (.int (by_ (pn + 4))), .val (.int (1 : Int32))] [])) _
                          refine XS.aloadN X43.here hx rfl (hb hby own_d5_88) rfl rfl ?_
                          show Steps p.tables e below (T43.setTop (mkF m 89 #[.val (.ref a1), .val (.int (Int32.ofNat (pn + 5))), .val (.long va5), .second, .val (.int (by_ (pn + 4))), .val (.int (1 : Int32))] [(.ref a1)])) _
                          refine XS.iloadN X43.here hx rfl (hb hby own_d5_89) rfl ?_
                          show Steps p.tables e below (T43.setTop (mkF m 90 #[.val (.ref a1), .val (.int (Int32.ofNat (pn + 5))), .val (.long va5), .second, .val (.int (by_ (pn + 4))), .val (.int (1 : Int32))] [(.int (Int32.ofNat (pn + 5))), (.ref a1)])) _
                          refine st50 _ ?_
                          show Steps p.tables e below (T50.setTop (mkF m 93 #[.val (.ref a1), .val (.int (Int32.ofNat (pn + 5))), .val (.long va5), .second, .val (.int (by_ (pn + 4))), .val (.int (1 : Int32))] [])) _
                          refine XS.iload X50.here hx rfl (hb hby own_d5_93) rfl ?_
                          show Steps p.tables e below (T50.setTop (mkF m 95 #[.val (.ref a1), .val (.int (Int32.ofNat (pn + 5))), .val (.long va5), .second, .val (.int (by_ (pn + 4))), .val (.int (1 : Int32))] [(.int (1 : Int32))])) _
                          refine XS.ifNo X50.here hx rfl (hb hby own_d5_95) rfl ((if0 _ _).trans (feq (by decide)).1) ?_
                          show Steps p.tables e below (T50.setTop (mkF m 98 #[.val (.ref a1), .val (.int (Int32.ofNat (pn + 5))), .val (.long va5), .second, .val (.int (by_ (pn + 4))), .val (.int (1 : Int32))] [])) _
                          refine XS.lloadN X50.here hx rfl (hb hby own_d5_98) rfl ?_
                          show Steps p.tables e below (T50.setTop (mkF m 99 #[.val (.ref a1), .val (.int (Int32.ofNat (pn + 5))), .val (.long va5), .second, .val (.int (by_ (pn + 4))), .val (.int (1 : Int32))] [(.long va5)])) _
                          refine XS.goto X50.here hx rfl (pc0 := 99) (pc' := 105) rfl (hb hby own_d5_99) (by decide) (by decide) ?_
                          show Steps p.tables e below (T50.setTop (mkF m 105 #[.val (.ref a1), .val (.int (Int32.ofNat (pn + 5))), .val (.long va5), .second, .val (.int (by_ (pn + 4))), .val (.int (1 : Int32))] [(.long va5)])) _
                          exact X50.lreturnOut hx Bd.returns (hb hby own_d5_105) hr
                        · show own_Q5 Z a1 bw pn by_ h0 n0 _ T50.heap _
                          rw [e50]
                          have e0_ : own_bk by_ pn 0 = by_ pn := if_pos hp0
                          have n0_ : ¬ by_ pn = (-1000 : Int32) := own_absent (hrg _ hp0).1
                          have e1_ : own_bk by_ pn 1 = by_ (pn + 1) := if_pos hp1
                          have n1_ : ¬ by_ (pn + 1) = (-1000 : Int32) := own_absent (hrg _ hp1).1
                          have e2_ : own_bk by_ pn 2 = by_ (pn + 2) := if_pos hp2
                          have n2_ : ¬ by_ (pn + 2) = (-1000 : Int32) := own_absent (hrg _ hp2).1
                          have e3_ : own_bk by_ pn 3 = by_ (pn + 3) := if_pos hp3
                          have n3_ : ¬ by_ (pn + 3) = (-1000 : Int32) := own_absent (hrg _ hp3).1
                          have e4_ : own_bk by_ pn 4 = by_ (pn + 4) := if_pos hp4
                          have n4_ : ¬ by_ (pn + 4) = (-1000 : Int32) := own_absent (hrg _ hp4).1
                          have z0_ : by_ pn < (0 : Int32) := hc15
                          have hm4 : (by_ (pn + 4)).toInt % 128 = (by_ (pn + 4)).toInt := by have w := hrg _ hp4; have w2 : ¬ (by_ (pn + 4)).toInt < 0 := fun q => hc15_5 (Int32.lt_iff_toInt_lt.mpr q); omega
                          have o15 : (15 : Int32).toInt = 15 := rfl
                          have oM : (4294967295 : Int64).toInt = 4294967295 := rfl
                          have hb : ¬ (15 : Int32) < by_ (pn + 4) := fun q => hc73 (Int64.lt_iff_toInt_lt.mpr (by have w := Int32.lt_iff_toInt_lt.mp q; omega))
                          have hv : own_val (own_bk by_ pn 0) (own_bk by_ pn 1) (own_bk by_ pn 2) (own_bk by_ pn 3) (own_bk by_ pn 4) = va5 := by
                            have hm := own_m7 hc15_5 (hrg _ hp4).2
                            have hx : own_val (own_bk by_ pn 0) (own_bk by_ pn 1) (own_bk by_ pn 2) (own_bk by_ pn 3) (own_bk by_ pn 4) = (((((((by_ pn) &&& (127 : Int32)).toInt64) ||| ((((by_ (pn + 1)) &&& (127 : Int32)).toInt64) <<< ((7 : Int32) &&& 0x3f).toInt64)) ||| ((((by_ (pn + 2)) &&& (127 : Int32)).toInt64) <<< ((14 : Int32) &&& 0x3f).toInt64)) ||| ((((by_ (pn + 3)) &&& (127 : Int32)).toInt64) <<< ((21 : Int32) &&& 0x3f).toInt64)) ||| (((by_ (pn + 4)).toInt64) <<< ((28 : Int32) &&& 0x3f).toInt64)) := by simp [own_val, own_ln, e0_, e1_, e2_, e3_, e4_, n0_, n1_, n2_, n3_, n4_, z0_, hc15_2, hc15_3, hc15_4, hc15_5, hb]
                            refine hx.trans (show (((((((by_ (pn + 0)) &&& (127 : Int32)).toInt64) ||| ((((by_ (pn + 1)) &&& (127 : Int32)).toInt64) <<< ((7 : Int32) &&& 0x3f).toInt64)) ||| ((((by_ (pn + 2)) &&& (127 : Int32)).toInt64) <<< ((14 : Int32) &&& 0x3f).toInt64)) ||| ((((by_ (pn + 3)) &&& (127 : Int32)).toInt64) <<< ((21 : Int32) &&& 0x3f).toInt64)) ||| (((by_ (pn + 4)).toInt64) <<< ((28 : Int32) &&& 0x3f).toInt64)) = va5 from ?_)
                            rw [hd_va5, hd_va4, hd_va3, hd_va2, hd_va1, own_z, hm]
                          have hl : own_ln (own_bk by_ pn 0) (own_bk by_ pn 1) (own_bk by_ pn 2) (own_bk by_ pn 3) (own_bk by_ pn 4) = (5 : Int32) := by simp [own_val, own_ln, e0_, e1_, e2_, e3_, e4_, n0_, n1_, n2_, n3_, n4_, z0_, hc15_2, hc15_3, hc15_4, hc15_5, hb]
                          refine ⟨?_, N53, K51, E_a1, F_bytes, ?_⟩
                          · rw [hv]
                          · rw [hl, ← (show Int32.ofNat (pn + 5) = Int32.ofNat pn + (5 : Int32) from Int32.ofNat_add pn 5)]; exact F_position
                  case neg =>
                    obtain ⟨fs, hr, hrun, hended, hW, hsame⟩ := X40.leave (v := some (.long (-1 : Int64))) (fun h => by rw [Bd.returns] at h; cases h) (BodyLoose.notSynchronized Bd)
                    refine ⟨_, _, pre42 _ ?_, hrun, hended, _, _, rfl, ?_, ⟨_, rfl⟩, hW, hsame.mono (by decide) (by decide)⟩
                    · skip
                      show Steps p.tables e below (T40.setTop (mkF m 31 #[.val (.ref a1), .val (.int (Int32.ofNat (pn + 4))), .val (.long va4), .second, .val (.int (by_ (pn + 3))), .val (.int (28 : Int32))] [(.int (8 : Int32)), (.int (Int32.ofNat (pn + 4)))])) _
                      refine XS.icmpYes X40.here hx rfl (pc0 := 31) (pc' := 63) rfl (hb hby own_d5_31) rfl (flt hc31_5).2.1 (by decide) (by decide) ?_
                      show Steps p.tables e below (T40.setTop (mkF m 63 #[.val (.ref a1), .val (.int (Int32.ofNat (pn + 4))), .val (.long va4), .second, .val (.int (by_ (pn + 3))), .val (.int (28 : Int32))] [])) _
                      refine XS.iload X40.here hx rfl (hb hby own_d5_63) rfl ?_
                      show Steps p.tables e below (T40.setTop (mkF m 65 #[.val (.ref a1), .val (.int (Int32.ofNat (pn + 4))), .val (.long va4), .second, .val (.int (by_ (pn + 3))), .val (.int (28 : Int32))] [(.int (by_ (pn + 3)))])) _
                      refine XS.ifYes X40.here hx rfl (pc0 := 65) (pc' := 80) rfl (hb hby own_d5_65) rfl ((if0 _ _).trans (tlt hc15_4).1) (by decide) (by decide) ?_
                      show Steps p.tables e below (T40.setTop (mkF m 80 #[.val (.ref a1), .val (.int (Int32.ofNat (pn + 4))), .val (.long va4), .second, .val (.int (by_ (pn + 3))), .val (.int (28 : Int32))] [])) _
                      refine XS.iconst X40.here hx rfl (hb hby own_d5_80) ?_
                      show Steps p.tables e below (T40.setTop (mkF m 81 #[.val (.ref a1), .val (.int (Int32.ofNat (pn + 4))), .val (.long va4), .second, .val (.int (by_ (pn + 3))), .val (.int (28 : Int32))] [(.int (0 : Int32))])) _
                      refine XS.istore X40.here hx rfl (hb hby own_d5_81) rfl (l' := #[.val (.ref a1), .val (.int (Int32.ofNat (pn + 4))), .val (.long va4), .second, .val (.int (by_ (pn + 3))), .val (.int (0 : Int32))]) rfl ?_
                      show Steps p.tables e below (T40.setTop (mkF m 83 #[.val (.ref a1), .val (.int (Int32.ofNat (pn + 4))), .val (.long va4), .second, .val (.int (by_ (pn + 3))), .val (.int (0 : Int32))] [])) _
                      refine XS.iload X40.here hx rfl (hb hby own_d5_83) rfl ?_
                      show Steps p.tables e below (T40.setTop (mkF m 85 #[.val (.ref a1), .val (.int (Int32.ofNat (pn + 4))), .val (.long va4), .second, .val (.int (by_ (pn + 3))), .val (.int (0 : Int32))] [(.int (0 : Int32))])) _
                      refine XS.ifYes X40.here hx rfl (pc0 := 85) (pc' := 93) rfl (hb hby own_d5_85) rfl ((if0 _ _).trans (teq rfl).1) (by decide) (by decide) ?_
                      show Steps p.tables e below (T40.setTop (mkF m 93 #[.val (.ref a1), .val (.int (Int32.ofNat (pn + 4))), .val (.long va4), .second, .val (.int (by_ (pn + 3))), .val (.int (0 : Int32))] [])) _
                      refine XS.iload X40.here hx rfl (hb hby own_d5_93) rfl ?_
                      show Steps p.tables e below (T40.setTop (mkF m 95 #[.val (.ref a1), .val (.int (Int32.ofNat (pn + 4))), .val (.long va4), .second, .val (.int (by_ (pn + 3))), .val (.int (0 : Int32))] [(.int (0 : Int32))])) _
                      refine XS.ifYes X40.here hx rfl (pc0 := 95) (pc' := 102) rfl (hb hby own_d5_95) rfl ((if0 _ _).trans (teq rfl).1) (by decide) (by decide) ?_
                      show Steps p.tables e below (T40.setTop (mkF m 102 #[.val (.ref a1), .val (.int (Int32.ofNat (pn + 4))), .val (.long va4), .second, .val (.int (by_ (pn + 3))), .val (.int (0 : Int32))] [])) _
                      refine X40.ldc2Long hx hown (mvT hZ (hw _ (List.mem_of_getElem? (i := 35) rfl))) (g := (mkF m 102 #[.val (.ref a1), .val (.int (Int32.ofNat (pn + 4))), .val (.long va4), .second, .val (.int (by_ (pn + 3))), .val (.int (0 : Int32))] [])) rfl (hb hby own_d5_102) _ ?_
                      show Steps p.tables e below (T40.setTop (mkF m 105 #[.val (.ref a1), .val (.int (Int32.ofNat (pn + 4))), .val (.long va4), .second, .val (.int (by_ (pn + 3))), .val (.int (0 : Int32))] [(.long (-1 : Int64))])) _
                      exact X40.lreturnOut hx Bd.returns (hb hby own_d5_105) hr
                    · show own_Q5 Z a1 bw pn by_ h0 n0 _ T40.heap _
                      rw [e40]
                      have e0_ : own_bk by_ pn 0 = by_ pn := if_pos hp0
                      have n0_ : ¬ by_ pn = (-1000 : Int32) := own_absent (hrg _ hp0).1
                      have e1_ : own_bk by_ pn 1 = by_ (pn + 1) := if_pos hp1
                      have n1_ : ¬ by_ (pn + 1) = (-1000 : Int32) := own_absent (hrg _ hp1).1
                      have e2_ : own_bk by_ pn 2 = by_ (pn + 2) := if_pos hp2
                      have n2_ : ¬ by_ (pn + 2) = (-1000 : Int32) := own_absent (hrg _ hp2).1
                      have e3_ : own_bk by_ pn 3 = by_ (pn + 3) := if_pos hp3
                      have n3_ : ¬ by_ (pn + 3) = (-1000 : Int32) := own_absent (hrg _ hp3).1
                      have z0_ : by_ pn < (0 : Int32) := hc15
                      have x4_ : own_bk by_ pn 4 = (-1000 : Int32) := if_neg (fun w => hc31_5 ((own_lt8 (by omega)).mpr w))
                      refine ⟨?_, N0, K0, E_a1, F_bytes, ?_⟩
                      · simp [own_val, own_ln, e0_, e1_, e2_, e3_, n0_, n1_, n2_, n3_, z0_, hc15_2, hc15_3, hc15_4, x4_]
                      · have q : own_ln (own_bk by_ pn 0) (own_bk by_ pn 1) (own_bk by_ pn 2) (own_bk by_ pn 3) (own_bk by_ pn 4) = 0 := by simp [own_val, own_ln, e0_, e1_, e2_, e3_, n0_, n1_, n2_, n3_, z0_, hc15_2, hc15_3, hc15_4, x4_]
                        rw [q, Int32.add_zero]; exact F_position
                case neg =>
                  obtain ⟨T54, h54, X54, e54, W54, st54⟩ := putF X34 hx hZ hown (host := "") (Or.inl (hw _ (List.mem_of_getElem? (i := 22) rfl))) Via.refl e34 F_position E_a1 (Or.inl (hw _ (List.mem_of_getElem? (i := 23) rfl))) (hw _ (List.mem_of_getElem? (i := 7) rfl)) (ty := .int) (by decide) rfl rfl (g := (mkF m 90 #[.val (.ref a1), .val (.int (Int32.ofNat (pn + 4))), .val (.long va4), .second, .val (.int (by_ (pn + 3))), .val (.int (1 : Int32))] [(.int (Int32.ofNat (pn + 4))), (.ref a1)])) rfl rfl (hb hby own_d5_90)
                  have E_a1 := E_a1.wr W54
                  have F_bytes := F_bytes.other W54 (Or.inr (slot_ne (Or.inr (hw _ (List.mem_of_getElem? (i := 16) rfl))) (Or.inl (hw _ (List.mem_of_getElem? (i := 23) rfl))) (by decide) (t := (.array .byte)) (t' := .int) (by decide) (by decide)))
                  have F_position := F_position.same W54
                  have V_bw := V_bw.other W54 (Ne.symm neab)
                  have K55 := K0.wr W54 (Or.inl (List.mem_of_getElem? (i := 0) rfl))
                  have Z56 := Nat.le_trans Z0 (Keep.of_wr W54).1
                  have N57 := Fr.snoc X54 N0 g_a1
                  obtain ⟨fs, hr, hrun, hended, hW, hsame⟩ := X54.leave (v := some (.long va4)) (fun h => by rw [Bd.returns] at h; cases h) (BodyLoose.notSynchronized Bd)
                  refine ⟨_, _, pre39 _ ?_, hrun, hended, _, _, rfl, ?_, ⟨_, rfl⟩, hW, hsame.mono (by decide) (by decide)⟩
                  · skip
                    show Steps p.tables e below (T34.setTop (mkF m 15 #[.val (.ref a1), .val (.int (Int32.ofNat (pn + 4))), .val (.long va4), .second, .val (.int (by_ (pn + 3))), .val (.int (28 : Int32))] [(.int (by_ (pn + 3)))])) _
                    refine XS.ifYes X34.here hx rfl (pc0 := 15) (pc' := 63) rfl (hb hby own_d5_15) rfl ((if0 _ _).trans (flt hc15_4).2.1) (by decide) (by decide) ?_
                    show Steps p.tables e below (T34.setTop (mkF m 63 #[.val (.ref a1), .val (.int (Int32.ofNat (pn + 4))), .val (.long va4), .second, .val (.int (by_ (pn + 3))), .val (.int (28 : Int32))] [])) _
                    refine XS.iload X34.here hx rfl (hb hby own_d5_63) rfl ?_
                    show Steps p.tables e below (T34.setTop (mkF m 65 #[.val (.ref a1), .val (.int (Int32.ofNat (pn + 4))), .val (.long va4), .second, .val (.int (by_ (pn + 3))), .val (.int (28 : Int32))] [(.int (by_ (pn + 3)))])) _
                    refine XS.ifNo X34.here hx rfl (hb hby own_d5_65) rfl ((if0 _ _).trans (flt hc15_4).1) ?_
                    show Steps p.tables e below (T34.setTop (mkF m 68 #[.val (.ref a1), .val (.int (Int32.ofNat (pn + 4))), .val (.long va4), .second, .val (.int (by_ (pn + 3))), .val (.int (28 : Int32))] [])) _
                    refine XS.lloadN X34.here hx rfl (hb hby own_d5_68) rfl ?_
                    show Steps p.tables e below (T34.setTop (mkF m 69 #[.val (.ref a1), .val (.int (Int32.ofNat (pn + 4))), .val (.long va4), .second, .val (.int (by_ (pn + 3))), .val (.int (28 : Int32))] [(.long va4)])) _
                    refine X34.ldc2Long hx hown (mvT hZ (hw _ (List.mem_of_getElem? (i := 29) rfl))) (g := (mkF m 69 #[.val (.ref a1), .val (.int (Int32.ofNat (pn + 4))), .val (.long va4), .second, .val (.int (by_ (pn + 3))), .val (.int (28 : Int32))] [(.long va4)])) rfl (hb hby own_d5_69) _ ?_
                    show Steps p.tables e below (T34.setTop (mkF m 72 #[.val (.ref a1), .val (.int (Int32.ofNat (pn + 4))), .val (.long va4), .second, .val (.int (by_ (pn + 3))), .val (.int (28 : Int32))] [(.long (4294967295 : Int64)), (.long va4)])) _
                    refine XS.lcmp X34.here hx rfl (hb hby own_d5_72) rfl ?_
                    show Steps p.tables e below (T34.setTop (mkF m 73 #[.val (.ref a1), .val (.int (Int32.ofNat (pn + 4))), .val (.long va4), .second, .val (.int (by_ (pn + 3))), .val (.int (28 : Int32))] [(.int (lcmpW va4 (4294967295 : Int64)))])) _
                    refine XS.ifNo X34.here hx rfl (hb hby own_d5_73) rfl ((if0 _ _).trans (flt (fun q => (fun q => by have w := Int64.lt_iff_toInt_lt.mp q; rw [show (4294967295 : Int64).toInt = 4294967295 from rfl] at w; omega) ((lw_gt va4 (4294967295 : Int64)).mp q))).2.2.1) ?_
                    show Steps p.tables e below (T34.setTop (mkF m 76 #[.val (.ref a1), .val (.int (Int32.ofNat (pn + 4))), .val (.long va4), .second, .val (.int (by_ (pn + 3))), .val (.int (28 : Int32))] [])) _
                    refine XS.iconst X34.here hx rfl (hb hby own_d5_76) ?_
                    show Steps p.tables e below (T34.setTop (mkF m 77 #[.val (.ref a1), .val (.int (Int32.ofNat (pn + 4))), .val (.long va4), .second, .val (.int (by_ (pn + 3))), .val (.int (28 : Int32))] [(.int (1 : Int32))])) _
                    refine XS.goto X34.here hx rfl (pc0 := 77) (pc' := 81) rfl (hb hby own_d5_77) (by decide) (by decide) ?_
                    show Steps p.tables e below (T34.setTop (mkF m 81 #[.val (.ref a1), .val (.int (Int32.ofNat (pn + 4))), .val (.long va4), .second, .val (.int (by_ (pn + 3))), .val (.int (28 : Int32))] [(.int (1 : Int32))])) _
                    refine XS.istore X34.here hx rfl (hb hby own_d5_81) rfl (l' := #[.val (.ref a1), .val (.int (Int32.ofNat (pn + 4))), .val (.long va4), .second, .val (.int (by_ (pn + 3))), .val (.int (1 : Int32))]) rfl ?_
                    show Steps p.tables e below (T34.setTop (mkF m 83 #[.val (.ref a1), .val (.int (Int32.ofNat (pn + 4))), .val (.long va4), .second, .val (.int (by_ (pn + 3))), .val (.int (1 : Int32))] [])) _
                    refine XS.iload X34.here hx rfl (hb hby own_d5_83) rfl ?_
                    show Steps p.tables e below (T34.setTop (mkF m 85 #[.val (.ref a1), .val (.int (Int32.ofNat (pn + 4))), .val (.long va4), .second, .val (.int (by_ (pn + 3))), .val (.int (1 : Int32))] [(.int (1 : Int32))])) _
                    refine XS.ifNo X34.here hx rfl (hb hby own_d5_85) rfl ((if0 _ _).trans (feq (by decide)).1) ?_
                    show Steps p.tables e below (T34.setTop (mkF m 88 #[.val (.ref a1), .val (.int (Int32.ofNat (pn + 4))), .val (.long va4), .second, .val (.int (by_ (pn + 3))), .val (.int (1 : Int32))] [])) _
                    refine XS.aloadN X34.here hx rfl (hb hby own_d5_88) rfl rfl ?_
                    show Steps p.tables e below (T34.setTop (mkF m 89 #[.val (.ref a1), .val (.int (Int32.ofNat (pn + 4))), .val (.long va4), .second, .val (.int (by_ (pn + 3))), .val (.int (1 : Int32))] [(.ref a1)])) _
                    refine XS.iloadN X34.here hx rfl (hb hby own_d5_89) rfl ?_
                    show Steps p.tables e below (T34.setTop (mkF m 90 #[.val (.ref a1), .val (.int (Int32.ofNat (pn + 4))), .val (.long va4), .second, .val (.int (by_ (pn + 3))), .val (.int (1 : Int32))] [(.int (Int32.ofNat (pn + 4))), (.ref a1)])) _
                    refine st54 _ ?_
                    show Steps p.tables e below (T54.setTop (mkF m 93 #[.val (.ref a1), .val (.int (Int32.ofNat (pn + 4))), .val (.long va4), .second, .val (.int (by_ (pn + 3))), .val (.int (1 : Int32))] [])) _
                    refine XS.iload X54.here hx rfl (hb hby own_d5_93) rfl ?_
                    show Steps p.tables e below (T54.setTop (mkF m 95 #[.val (.ref a1), .val (.int (Int32.ofNat (pn + 4))), .val (.long va4), .second, .val (.int (by_ (pn + 3))), .val (.int (1 : Int32))] [(.int (1 : Int32))])) _
                    refine XS.ifNo X54.here hx rfl (hb hby own_d5_95) rfl ((if0 _ _).trans (feq (by decide)).1) ?_
                    show Steps p.tables e below (T54.setTop (mkF m 98 #[.val (.ref a1), .val (.int (Int32.ofNat (pn + 4))), .val (.long va4), .second, .val (.int (by_ (pn + 3))), .val (.int (1 : Int32))] [])) _
                    refine XS.lloadN X54.here hx rfl (hb hby own_d5_98) rfl ?_
                    show Steps p.tables e below (T54.setTop (mkF m 99 #[.val (.ref a1), .val (.int (Int32.ofNat (pn + 4))), .val (.long va4), .second, .val (.int (by_ (pn + 3))), .val (.int (1 : Int32))] [(.long va4)])) _
                    refine XS.goto X54.here hx rfl (pc0 := 99) (pc' := 105) rfl (hb hby own_d5_99) (by decide) (by decide) ?_
                    show Steps p.tables e below (T54.setTop (mkF m 105 #[.val (.ref a1), .val (.int (Int32.ofNat (pn + 4))), .val (.long va4), .second, .val (.int (by_ (pn + 3))), .val (.int (1 : Int32))] [(.long va4)])) _
                    exact X54.lreturnOut hx Bd.returns (hb hby own_d5_105) hr
                  · show own_Q5 Z a1 bw pn by_ h0 n0 _ T54.heap _
                    rw [e54]
                    have e0_ : own_bk by_ pn 0 = by_ pn := if_pos hp0
                    have n0_ : ¬ by_ pn = (-1000 : Int32) := own_absent (hrg _ hp0).1
                    have e1_ : own_bk by_ pn 1 = by_ (pn + 1) := if_pos hp1
                    have n1_ : ¬ by_ (pn + 1) = (-1000 : Int32) := own_absent (hrg _ hp1).1
                    have e2_ : own_bk by_ pn 2 = by_ (pn + 2) := if_pos hp2
                    have n2_ : ¬ by_ (pn + 2) = (-1000 : Int32) := own_absent (hrg _ hp2).1
                    have e3_ : own_bk by_ pn 3 = by_ (pn + 3) := if_pos hp3
                    have n3_ : ¬ by_ (pn + 3) = (-1000 : Int32) := own_absent (hrg _ hp3).1
                    have z0_ : by_ pn < (0 : Int32) := hc15
                    have hv : own_val (own_bk by_ pn 0) (own_bk by_ pn 1) (own_bk by_ pn 2) (own_bk by_ pn 3) (own_bk by_ pn 4) = va4 := by
                      have hm := own_m7 hc15_4 (hrg _ hp3).2
                      have hx : own_val (own_bk by_ pn 0) (own_bk by_ pn 1) (own_bk by_ pn 2) (own_bk by_ pn 3) (own_bk by_ pn 4) = ((((((by_ pn) &&& (127 : Int32)).toInt64) ||| ((((by_ (pn + 1)) &&& (127 : Int32)).toInt64) <<< ((7 : Int32) &&& 0x3f).toInt64)) ||| ((((by_ (pn + 2)) &&& (127 : Int32)).toInt64) <<< ((14 : Int32) &&& 0x3f).toInt64)) ||| (((by_ (pn + 3)).toInt64) <<< ((21 : Int32) &&& 0x3f).toInt64)) := by simp [own_val, own_ln, e0_, e1_, e2_, e3_, n0_, n1_, n2_, n3_, z0_, hc15_2, hc15_3, hc15_4]
                      refine hx.trans (show ((((((by_ (pn + 0)) &&& (127 : Int32)).toInt64) ||| ((((by_ (pn + 1)) &&& (127 : Int32)).toInt64) <<< ((7 : Int32) &&& 0x3f).toInt64)) ||| ((((by_ (pn + 2)) &&& (127 : Int32)).toInt64) <<< ((14 : Int32) &&& 0x3f).toInt64)) ||| (((by_ (pn + 3)).toInt64) <<< ((21 : Int32) &&& 0x3f).toInt64)) = va4 from ?_)
                      rw [hd_va4, hd_va3, hd_va2, hd_va1, own_z, hm]
                    have hl : own_ln (own_bk by_ pn 0) (own_bk by_ pn 1) (own_bk by_ pn 2) (own_bk by_ pn 3) (own_bk by_ pn 4) = (4 : Int32) := by simp [own_val, own_ln, e0_, e1_, e2_, e3_, n0_, n1_, n2_, n3_, z0_, hc15_2, hc15_3, hc15_4]
                    refine ⟨?_, N57, K55, E_a1, F_bytes, ?_⟩
                    · rw [hv]
                    · rw [hl, ← (show Int32.ofNat (pn + 4) = Int32.ofNat pn + (4 : Int32) from Int32.ofNat_add pn 4)]; exact F_position
              case neg =>
                obtain ⟨fs, hr, hrun, hended, hW, hsame⟩ := X31.leave (v := some (.long (-1 : Int64))) (fun h => by rw [Bd.returns] at h; cases h) (BodyLoose.notSynchronized Bd)
                refine ⟨_, _, pre33 _ ?_, hrun, hended, _, _, rfl, ?_, ⟨_, rfl⟩, hW, hsame.mono (by decide) (by decide)⟩
                · skip
                  show Steps p.tables e below (T31.setTop (mkF m 31 #[.val (.ref a1), .val (.int (Int32.ofNat (pn + 3))), .val (.long va3), .second, .val (.int (by_ (pn + 2))), .val (.int (21 : Int32))] [(.int (8 : Int32)), (.int (Int32.ofNat (pn + 3)))])) _
                  refine XS.icmpYes X31.here hx rfl (pc0 := 31) (pc' := 63) rfl (hb hby own_d5_31) rfl (flt hc31_4).2.1 (by decide) (by decide) ?_
                  show Steps p.tables e below (T31.setTop (mkF m 63 #[.val (.ref a1), .val (.int (Int32.ofNat (pn + 3))), .val (.long va3), .second, .val (.int (by_ (pn + 2))), .val (.int (21 : Int32))] [])) _
                  refine XS.iload X31.here hx rfl (hb hby own_d5_63) rfl ?_
                  show Steps p.tables e below (T31.setTop (mkF m 65 #[.val (.ref a1), .val (.int (Int32.ofNat (pn + 3))), .val (.long va3), .second, .val (.int (by_ (pn + 2))), .val (.int (21 : Int32))] [(.int (by_ (pn + 2)))])) _
                  refine XS.ifYes X31.here hx rfl (pc0 := 65) (pc' := 80) rfl (hb hby own_d5_65) rfl ((if0 _ _).trans (tlt hc15_3).1) (by decide) (by decide) ?_
                  show Steps p.tables e below (T31.setTop (mkF m 80 #[.val (.ref a1), .val (.int (Int32.ofNat (pn + 3))), .val (.long va3), .second, .val (.int (by_ (pn + 2))), .val (.int (21 : Int32))] [])) _
                  refine XS.iconst X31.here hx rfl (hb hby own_d5_80) ?_
                  show Steps p.tables e below (T31.setTop (mkF m 81 #[.val (.ref a1), .val (.int (Int32.ofNat (pn + 3))), .val (.long va3), .second, .val (.int (by_ (pn + 2))), .val (.int (21 : Int32))] [(.int (0 : Int32))])) _
                  refine XS.istore X31.here hx rfl (hb hby own_d5_81) rfl (l' := #[.val (.ref a1), .val (.int (Int32.ofNat (pn + 3))), .val (.long va3), .second, .val (.int (by_ (pn + 2))), .val (.int (0 : Int32))]) rfl ?_
                  show Steps p.tables e below (T31.setTop (mkF m 83 #[.val (.ref a1), .val (.int (Int32.ofNat (pn + 3))), .val (.long va3), .second, .val (.int (by_ (pn + 2))), .val (.int (0 : Int32))] [])) _
                  refine XS.iload X31.here hx rfl (hb hby own_d5_83) rfl ?_
                  show Steps p.tables e below (T31.setTop (mkF m 85 #[.val (.ref a1), .val (.int (Int32.ofNat (pn + 3))), .val (.long va3), .second, .val (.int (by_ (pn + 2))), .val (.int (0 : Int32))] [(.int (0 : Int32))])) _
                  refine XS.ifYes X31.here hx rfl (pc0 := 85) (pc' := 93) rfl (hb hby own_d5_85) rfl ((if0 _ _).trans (teq rfl).1) (by decide) (by decide) ?_
                  show Steps p.tables e below (T31.setTop (mkF m 93 #[.val (.ref a1), .val (.int (Int32.ofNat (pn + 3))), .val (.long va3), .second, .val (.int (by_ (pn + 2))), .val (.int (0 : Int32))] [])) _
                  refine XS.iload X31.here hx rfl (hb hby own_d5_93) rfl ?_
                  show Steps p.tables e below (T31.setTop (mkF m 95 #[.val (.ref a1), .val (.int (Int32.ofNat (pn + 3))), .val (.long va3), .second, .val (.int (by_ (pn + 2))), .val (.int (0 : Int32))] [(.int (0 : Int32))])) _
                  refine XS.ifYes X31.here hx rfl (pc0 := 95) (pc' := 102) rfl (hb hby own_d5_95) rfl ((if0 _ _).trans (teq rfl).1) (by decide) (by decide) ?_
                  show Steps p.tables e below (T31.setTop (mkF m 102 #[.val (.ref a1), .val (.int (Int32.ofNat (pn + 3))), .val (.long va3), .second, .val (.int (by_ (pn + 2))), .val (.int (0 : Int32))] [])) _
                  refine X31.ldc2Long hx hown (mvT hZ (hw _ (List.mem_of_getElem? (i := 35) rfl))) (g := (mkF m 102 #[.val (.ref a1), .val (.int (Int32.ofNat (pn + 3))), .val (.long va3), .second, .val (.int (by_ (pn + 2))), .val (.int (0 : Int32))] [])) rfl (hb hby own_d5_102) _ ?_
                  show Steps p.tables e below (T31.setTop (mkF m 105 #[.val (.ref a1), .val (.int (Int32.ofNat (pn + 3))), .val (.long va3), .second, .val (.int (by_ (pn + 2))), .val (.int (0 : Int32))] [(.long (-1 : Int64))])) _
                  exact X31.lreturnOut hx Bd.returns (hb hby own_d5_105) hr
                · show own_Q5 Z a1 bw pn by_ h0 n0 _ T31.heap _
                  rw [e31]
                  have e0_ : own_bk by_ pn 0 = by_ pn := if_pos hp0
                  have n0_ : ¬ by_ pn = (-1000 : Int32) := own_absent (hrg _ hp0).1
                  have e1_ : own_bk by_ pn 1 = by_ (pn + 1) := if_pos hp1
                  have n1_ : ¬ by_ (pn + 1) = (-1000 : Int32) := own_absent (hrg _ hp1).1
                  have e2_ : own_bk by_ pn 2 = by_ (pn + 2) := if_pos hp2
                  have n2_ : ¬ by_ (pn + 2) = (-1000 : Int32) := own_absent (hrg _ hp2).1
                  have z0_ : by_ pn < (0 : Int32) := hc15
                  have x3_ : own_bk by_ pn 3 = (-1000 : Int32) := if_neg (fun w => hc31_4 ((own_lt8 (by omega)).mpr w))
                  refine ⟨?_, N0, K0, E_a1, F_bytes, ?_⟩
                  · simp [own_val, own_ln, e0_, e1_, e2_, n0_, n1_, n2_, z0_, hc15_2, hc15_3, x3_]
                  · have q : own_ln (own_bk by_ pn 0) (own_bk by_ pn 1) (own_bk by_ pn 2) (own_bk by_ pn 3) (own_bk by_ pn 4) = 0 := by simp [own_val, own_ln, e0_, e1_, e2_, n0_, n1_, n2_, z0_, hc15_2, hc15_3, x3_]
                    rw [q, Int32.add_zero]; exact F_position
            case neg =>
              obtain ⟨T58, h58, X58, e58, W58, st58⟩ := putF X25 hx hZ hown (host := "") (Or.inl (hw _ (List.mem_of_getElem? (i := 22) rfl))) Via.refl e25 F_position E_a1 (Or.inl (hw _ (List.mem_of_getElem? (i := 23) rfl))) (hw _ (List.mem_of_getElem? (i := 7) rfl)) (ty := .int) (by decide) rfl rfl (g := (mkF m 90 #[.val (.ref a1), .val (.int (Int32.ofNat (pn + 3))), .val (.long va3), .second, .val (.int (by_ (pn + 2))), .val (.int (1 : Int32))] [(.int (Int32.ofNat (pn + 3))), (.ref a1)])) rfl rfl (hb hby own_d5_90)
              have E_a1 := E_a1.wr W58
              have F_bytes := F_bytes.other W58 (Or.inr (slot_ne (Or.inr (hw _ (List.mem_of_getElem? (i := 16) rfl))) (Or.inl (hw _ (List.mem_of_getElem? (i := 23) rfl))) (by decide) (t := (.array .byte)) (t' := .int) (by decide) (by decide)))
              have F_position := F_position.same W58
              have V_bw := V_bw.other W58 (Ne.symm neab)
              have K59 := K0.wr W58 (Or.inl (List.mem_of_getElem? (i := 0) rfl))
              have Z60 := Nat.le_trans Z0 (Keep.of_wr W58).1
              have N61 := Fr.snoc X58 N0 g_a1
              obtain ⟨fs, hr, hrun, hended, hW, hsame⟩ := X58.leave (v := some (.long va3)) (fun h => by rw [Bd.returns] at h; cases h) (BodyLoose.notSynchronized Bd)
              refine ⟨_, _, pre30 _ ?_, hrun, hended, _, _, rfl, ?_, ⟨_, rfl⟩, hW, hsame.mono (by decide) (by decide)⟩
              · skip
                show Steps p.tables e below (T25.setTop (mkF m 15 #[.val (.ref a1), .val (.int (Int32.ofNat (pn + 3))), .val (.long va3), .second, .val (.int (by_ (pn + 2))), .val (.int (21 : Int32))] [(.int (by_ (pn + 2)))])) _
                refine XS.ifYes X25.here hx rfl (pc0 := 15) (pc' := 63) rfl (hb hby own_d5_15) rfl ((if0 _ _).trans (flt hc15_3).2.1) (by decide) (by decide) ?_
                show Steps p.tables e below (T25.setTop (mkF m 63 #[.val (.ref a1), .val (.int (Int32.ofNat (pn + 3))), .val (.long va3), .second, .val (.int (by_ (pn + 2))), .val (.int (21 : Int32))] [])) _
                refine XS.iload X25.here hx rfl (hb hby own_d5_63) rfl ?_
                show Steps p.tables e below (T25.setTop (mkF m 65 #[.val (.ref a1), .val (.int (Int32.ofNat (pn + 3))), .val (.long va3), .second, .val (.int (by_ (pn + 2))), .val (.int (21 : Int32))] [(.int (by_ (pn + 2)))])) _
                refine XS.ifNo X25.here hx rfl (hb hby own_d5_65) rfl ((if0 _ _).trans (flt hc15_3).1) ?_
                show Steps p.tables e below (T25.setTop (mkF m 68 #[.val (.ref a1), .val (.int (Int32.ofNat (pn + 3))), .val (.long va3), .second, .val (.int (by_ (pn + 2))), .val (.int (21 : Int32))] [])) _
                refine XS.lloadN X25.here hx rfl (hb hby own_d5_68) rfl ?_
                show Steps p.tables e below (T25.setTop (mkF m 69 #[.val (.ref a1), .val (.int (Int32.ofNat (pn + 3))), .val (.long va3), .second, .val (.int (by_ (pn + 2))), .val (.int (21 : Int32))] [(.long va3)])) _
                refine X25.ldc2Long hx hown (mvT hZ (hw _ (List.mem_of_getElem? (i := 29) rfl))) (g := (mkF m 69 #[.val (.ref a1), .val (.int (Int32.ofNat (pn + 3))), .val (.long va3), .second, .val (.int (by_ (pn + 2))), .val (.int (21 : Int32))] [(.long va3)])) rfl (hb hby own_d5_69) _ ?_
                show Steps p.tables e below (T25.setTop (mkF m 72 #[.val (.ref a1), .val (.int (Int32.ofNat (pn + 3))), .val (.long va3), .second, .val (.int (by_ (pn + 2))), .val (.int (21 : Int32))] [(.long (4294967295 : Int64)), (.long va3)])) _
                refine XS.lcmp X25.here hx rfl (hb hby own_d5_72) rfl ?_
                show Steps p.tables e below (T25.setTop (mkF m 73 #[.val (.ref a1), .val (.int (Int32.ofNat (pn + 3))), .val (.long va3), .second, .val (.int (by_ (pn + 2))), .val (.int (21 : Int32))] [(.int (lcmpW va3 (4294967295 : Int64)))])) _
                refine XS.ifNo X25.here hx rfl (hb hby own_d5_73) rfl ((if0 _ _).trans (flt (fun q => (fun q => by have w := Int64.lt_iff_toInt_lt.mp q; rw [show (4294967295 : Int64).toInt = 4294967295 from rfl] at w; omega) ((lw_gt va3 (4294967295 : Int64)).mp q))).2.2.1) ?_
                show Steps p.tables e below (T25.setTop (mkF m 76 #[.val (.ref a1), .val (.int (Int32.ofNat (pn + 3))), .val (.long va3), .second, .val (.int (by_ (pn + 2))), .val (.int (21 : Int32))] [])) _
                refine XS.iconst X25.here hx rfl (hb hby own_d5_76) ?_
                show Steps p.tables e below (T25.setTop (mkF m 77 #[.val (.ref a1), .val (.int (Int32.ofNat (pn + 3))), .val (.long va3), .second, .val (.int (by_ (pn + 2))), .val (.int (21 : Int32))] [(.int (1 : Int32))])) _
                refine XS.goto X25.here hx rfl (pc0 := 77) (pc' := 81) rfl (hb hby own_d5_77) (by decide) (by decide) ?_
                show Steps p.tables e below (T25.setTop (mkF m 81 #[.val (.ref a1), .val (.int (Int32.ofNat (pn + 3))), .val (.long va3), .second, .val (.int (by_ (pn + 2))), .val (.int (21 : Int32))] [(.int (1 : Int32))])) _
                refine XS.istore X25.here hx rfl (hb hby own_d5_81) rfl (l' := #[.val (.ref a1), .val (.int (Int32.ofNat (pn + 3))), .val (.long va3), .second, .val (.int (by_ (pn + 2))), .val (.int (1 : Int32))]) rfl ?_
                show Steps p.tables e below (T25.setTop (mkF m 83 #[.val (.ref a1), .val (.int (Int32.ofNat (pn + 3))), .val (.long va3), .second, .val (.int (by_ (pn + 2))), .val (.int (1 : Int32))] [])) _
                refine XS.iload X25.here hx rfl (hb hby own_d5_83) rfl ?_
                show Steps p.tables e below (T25.setTop (mkF m 85 #[.val (.ref a1), .val (.int (Int32.ofNat (pn + 3))), .val (.long va3), .second, .val (.int (by_ (pn + 2))), .val (.int (1 : Int32))] [(.int (1 : Int32))])) _
                refine XS.ifNo X25.here hx rfl (hb hby own_d5_85) rfl ((if0 _ _).trans (feq (by decide)).1) ?_
                show Steps p.tables e below (T25.setTop (mkF m 88 #[.val (.ref a1), .val (.int (Int32.ofNat (pn + 3))), .val (.long va3), .second, .val (.int (by_ (pn + 2))), .val (.int (1 : Int32))] [])) _
                refine XS.aloadN X25.here hx rfl (hb hby own_d5_88) rfl rfl ?_
                show Steps p.tables e below (T25.setTop (mkF m 89 #[.val (.ref a1), .val (.int (Int32.ofNat (pn + 3))), .val (.long va3), .second, .val (.int (by_ (pn + 2))), .val (.int (1 : Int32))] [(.ref a1)])) _
                refine XS.iloadN X25.here hx rfl (hb hby own_d5_89) rfl ?_
                show Steps p.tables e below (T25.setTop (mkF m 90 #[.val (.ref a1), .val (.int (Int32.ofNat (pn + 3))), .val (.long va3), .second, .val (.int (by_ (pn + 2))), .val (.int (1 : Int32))] [(.int (Int32.ofNat (pn + 3))), (.ref a1)])) _
                refine st58 _ ?_
                show Steps p.tables e below (T58.setTop (mkF m 93 #[.val (.ref a1), .val (.int (Int32.ofNat (pn + 3))), .val (.long va3), .second, .val (.int (by_ (pn + 2))), .val (.int (1 : Int32))] [])) _
                refine XS.iload X58.here hx rfl (hb hby own_d5_93) rfl ?_
                show Steps p.tables e below (T58.setTop (mkF m 95 #[.val (.ref a1), .val (.int (Int32.ofNat (pn + 3))), .val (.long va3), .second, .val (.int (by_ (pn + 2))), .val (.int (1 : Int32))] [(.int (1 : Int32))])) _
                refine XS.ifNo X58.here hx rfl (hb hby own_d5_95) rfl ((if0 _ _).trans (feq (by decide)).1) ?_
                show Steps p.tables e below (T58.setTop (mkF m 98 #[.val (.ref a1), .val (.int (Int32.ofNat (pn + 3))), .val (.long va3), .second, .val (.int (by_ (pn + 2))), .val (.int (1 : Int32))] [])) _
                refine XS.lloadN X58.here hx rfl (hb hby own_d5_98) rfl ?_
                show Steps p.tables e below (T58.setTop (mkF m 99 #[.val (.ref a1), .val (.int (Int32.ofNat (pn + 3))), .val (.long va3), .second, .val (.int (by_ (pn + 2))), .val (.int (1 : Int32))] [(.long va3)])) _
                refine XS.goto X58.here hx rfl (pc0 := 99) (pc' := 105) rfl (hb hby own_d5_99) (by decide) (by decide) ?_
                show Steps p.tables e below (T58.setTop (mkF m 105 #[.val (.ref a1), .val (.int (Int32.ofNat (pn + 3))), .val (.long va3), .second, .val (.int (by_ (pn + 2))), .val (.int (1 : Int32))] [(.long va3)])) _
                exact X58.lreturnOut hx Bd.returns (hb hby own_d5_105) hr
              · show own_Q5 Z a1 bw pn by_ h0 n0 _ T58.heap _
                rw [e58]
                have e0_ : own_bk by_ pn 0 = by_ pn := if_pos hp0
                have n0_ : ¬ by_ pn = (-1000 : Int32) := own_absent (hrg _ hp0).1
                have e1_ : own_bk by_ pn 1 = by_ (pn + 1) := if_pos hp1
                have n1_ : ¬ by_ (pn + 1) = (-1000 : Int32) := own_absent (hrg _ hp1).1
                have e2_ : own_bk by_ pn 2 = by_ (pn + 2) := if_pos hp2
                have n2_ : ¬ by_ (pn + 2) = (-1000 : Int32) := own_absent (hrg _ hp2).1
                have z0_ : by_ pn < (0 : Int32) := hc15
                have hv : own_val (own_bk by_ pn 0) (own_bk by_ pn 1) (own_bk by_ pn 2) (own_bk by_ pn 3) (own_bk by_ pn 4) = va3 := by
                  have hm := own_m7 hc15_3 (hrg _ hp2).2
                  have hx : own_val (own_bk by_ pn 0) (own_bk by_ pn 1) (own_bk by_ pn 2) (own_bk by_ pn 3) (own_bk by_ pn 4) = (((((by_ pn) &&& (127 : Int32)).toInt64) ||| ((((by_ (pn + 1)) &&& (127 : Int32)).toInt64) <<< ((7 : Int32) &&& 0x3f).toInt64)) ||| (((by_ (pn + 2)).toInt64) <<< ((14 : Int32) &&& 0x3f).toInt64)) := by simp [own_val, own_ln, e0_, e1_, e2_, n0_, n1_, n2_, z0_, hc15_2, hc15_3]
                  refine hx.trans (show (((((by_ (pn + 0)) &&& (127 : Int32)).toInt64) ||| ((((by_ (pn + 1)) &&& (127 : Int32)).toInt64) <<< ((7 : Int32) &&& 0x3f).toInt64)) ||| (((by_ (pn + 2)).toInt64) <<< ((14 : Int32) &&& 0x3f).toInt64)) = va3 from ?_)
                  rw [hd_va3, hd_va2, hd_va1, own_z, hm]
                have hl : own_ln (own_bk by_ pn 0) (own_bk by_ pn 1) (own_bk by_ pn 2) (own_bk by_ pn 3) (own_bk by_ pn 4) = (3 : Int32) := by simp [own_val, own_ln, e0_, e1_, e2_, n0_, n1_, n2_, z0_, hc15_2, hc15_3]
                refine ⟨?_, N61, K59, E_a1, F_bytes, ?_⟩
                · rw [hv]
                · rw [hl, ← (show Int32.ofNat (pn + 3) = Int32.ofNat pn + (3 : Int32) from Int32.ofNat_add pn 3)]; exact F_position
          case neg =>
            obtain ⟨fs, hr, hrun, hended, hW, hsame⟩ := X22.leave (v := some (.long (-1 : Int64))) (fun h => by rw [Bd.returns] at h; cases h) (BodyLoose.notSynchronized Bd)
            refine ⟨_, _, pre24 _ ?_, hrun, hended, _, _, rfl, ?_, ⟨_, rfl⟩, hW, hsame.mono (by decide) (by decide)⟩
            · skip
              show Steps p.tables e below (T22.setTop (mkF m 31 #[.val (.ref a1), .val (.int (Int32.ofNat (pn + 2))), .val (.long va2), .second, .val (.int (by_ (pn + 1))), .val (.int (14 : Int32))] [(.int (8 : Int32)), (.int (Int32.ofNat (pn + 2)))])) _
              refine XS.icmpYes X22.here hx rfl (pc0 := 31) (pc' := 63) rfl (hb hby own_d5_31) rfl (flt hc31_3).2.1 (by decide) (by decide) ?_
              show Steps p.tables e below (T22.setTop (mkF m 63 #[.val (.ref a1), .val (.int (Int32.ofNat (pn + 2))), .val (.long va2), .second, .val (.int (by_ (pn + 1))), .val (.int (14 : Int32))] [])) _
              refine XS.iload X22.here hx rfl (hb hby own_d5_63) rfl ?_
              show Steps p.tables e below (T22.setTop (mkF m 65 #[.val (.ref a1), .val (.int (Int32.ofNat (pn + 2))), .val (.long va2), .second, .val (.int (by_ (pn + 1))), .val (.int (14 : Int32))] [(.int (by_ (pn + 1)))])) _
              refine XS.ifYes X22.here hx rfl (pc0 := 65) (pc' := 80) rfl (hb hby own_d5_65) rfl ((if0 _ _).trans (tlt hc15_2).1) (by decide) (by decide) ?_
              show Steps p.tables e below (T22.setTop (mkF m 80 #[.val (.ref a1), .val (.int (Int32.ofNat (pn + 2))), .val (.long va2), .second, .val (.int (by_ (pn + 1))), .val (.int (14 : Int32))] [])) _
              refine XS.iconst X22.here hx rfl (hb hby own_d5_80) ?_
              show Steps p.tables e below (T22.setTop (mkF m 81 #[.val (.ref a1), .val (.int (Int32.ofNat (pn + 2))), .val (.long va2), .second, .val (.int (by_ (pn + 1))), .val (.int (14 : Int32))] [(.int (0 : Int32))])) _
              refine XS.istore X22.here hx rfl (hb hby own_d5_81) rfl (l' := #[.val (.ref a1), .val (.int (Int32.ofNat (pn + 2))), .val (.long va2), .second, .val (.int (by_ (pn + 1))), .val (.int (0 : Int32))]) rfl ?_
              show Steps p.tables e below (T22.setTop (mkF m 83 #[.val (.ref a1), .val (.int (Int32.ofNat (pn + 2))), .val (.long va2), .second, .val (.int (by_ (pn + 1))), .val (.int (0 : Int32))] [])) _
              refine XS.iload X22.here hx rfl (hb hby own_d5_83) rfl ?_
              show Steps p.tables e below (T22.setTop (mkF m 85 #[.val (.ref a1), .val (.int (Int32.ofNat (pn + 2))), .val (.long va2), .second, .val (.int (by_ (pn + 1))), .val (.int (0 : Int32))] [(.int (0 : Int32))])) _
              refine XS.ifYes X22.here hx rfl (pc0 := 85) (pc' := 93) rfl (hb hby own_d5_85) rfl ((if0 _ _).trans (teq rfl).1) (by decide) (by decide) ?_
              show Steps p.tables e below (T22.setTop (mkF m 93 #[.val (.ref a1), .val (.int (Int32.ofNat (pn + 2))), .val (.long va2), .second, .val (.int (by_ (pn + 1))), .val (.int (0 : Int32))] [])) _
              refine XS.iload X22.here hx rfl (hb hby own_d5_93) rfl ?_
              show Steps p.tables e below (T22.setTop (mkF m 95 #[.val (.ref a1), .val (.int (Int32.ofNat (pn + 2))), .val (.long va2), .second, .val (.int (by_ (pn + 1))), .val (.int (0 : Int32))] [(.int (0 : Int32))])) _
              refine XS.ifYes X22.here hx rfl (pc0 := 95) (pc' := 102) rfl (hb hby own_d5_95) rfl ((if0 _ _).trans (teq rfl).1) (by decide) (by decide) ?_
              show Steps p.tables e below (T22.setTop (mkF m 102 #[.val (.ref a1), .val (.int (Int32.ofNat (pn + 2))), .val (.long va2), .second, .val (.int (by_ (pn + 1))), .val (.int (0 : Int32))] [])) _
              refine X22.ldc2Long hx hown (mvT hZ (hw _ (List.mem_of_getElem? (i := 35) rfl))) (g := (mkF m 102 #[.val (.ref a1), .val (.int (Int32.ofNat (pn + 2))), .val (.long va2), .second, .val (.int (by_ (pn + 1))), .val (.int (0 : Int32))] [])) rfl (hb hby own_d5_102) _ ?_
              show Steps p.tables e below (T22.setTop (mkF m 105 #[.val (.ref a1), .val (.int (Int32.ofNat (pn + 2))), .val (.long va2), .second, .val (.int (by_ (pn + 1))), .val (.int (0 : Int32))] [(.long (-1 : Int64))])) _
              exact X22.lreturnOut hx Bd.returns (hb hby own_d5_105) hr
            · show own_Q5 Z a1 bw pn by_ h0 n0 _ T22.heap _
              rw [e22]
              have e0_ : own_bk by_ pn 0 = by_ pn := if_pos hp0
              have n0_ : ¬ by_ pn = (-1000 : Int32) := own_absent (hrg _ hp0).1
              have e1_ : own_bk by_ pn 1 = by_ (pn + 1) := if_pos hp1
              have n1_ : ¬ by_ (pn + 1) = (-1000 : Int32) := own_absent (hrg _ hp1).1
              have z0_ : by_ pn < (0 : Int32) := hc15
              have x2_ : own_bk by_ pn 2 = (-1000 : Int32) := if_neg (fun w => hc31_3 ((own_lt8 (by omega)).mpr w))
              refine ⟨?_, N0, K0, E_a1, F_bytes, ?_⟩
              · simp [own_val, own_ln, e0_, e1_, n0_, n1_, z0_, hc15_2, x2_]
              · have q : own_ln (own_bk by_ pn 0) (own_bk by_ pn 1) (own_bk by_ pn 2) (own_bk by_ pn 3) (own_bk by_ pn 4) = 0 := by simp [own_val, own_ln, e0_, e1_, n0_, n1_, z0_, hc15_2, x2_]
                rw [q, Int32.add_zero]; exact F_position
        case neg =>
          obtain ⟨T62, h62, X62, e62, W62, st62⟩ := putF X16 hx hZ hown (host := "") (Or.inl (hw _ (List.mem_of_getElem? (i := 22) rfl))) Via.refl e16 F_position E_a1 (Or.inl (hw _ (List.mem_of_getElem? (i := 23) rfl))) (hw _ (List.mem_of_getElem? (i := 7) rfl)) (ty := .int) (by decide) rfl rfl (g := (mkF m 90 #[.val (.ref a1), .val (.int (Int32.ofNat (pn + 2))), .val (.long va2), .second, .val (.int (by_ (pn + 1))), .val (.int (1 : Int32))] [(.int (Int32.ofNat (pn + 2))), (.ref a1)])) rfl rfl (hb hby own_d5_90)
          have E_a1 := E_a1.wr W62
          have F_bytes := F_bytes.other W62 (Or.inr (slot_ne (Or.inr (hw _ (List.mem_of_getElem? (i := 16) rfl))) (Or.inl (hw _ (List.mem_of_getElem? (i := 23) rfl))) (by decide) (t := (.array .byte)) (t' := .int) (by decide) (by decide)))
          have F_position := F_position.same W62
          have V_bw := V_bw.other W62 (Ne.symm neab)
          have K63 := K0.wr W62 (Or.inl (List.mem_of_getElem? (i := 0) rfl))
          have Z64 := Nat.le_trans Z0 (Keep.of_wr W62).1
          have N65 := Fr.snoc X62 N0 g_a1
          obtain ⟨fs, hr, hrun, hended, hW, hsame⟩ := X62.leave (v := some (.long va2)) (fun h => by rw [Bd.returns] at h; cases h) (BodyLoose.notSynchronized Bd)
          refine ⟨_, _, pre21 _ ?_, hrun, hended, _, _, rfl, ?_, ⟨_, rfl⟩, hW, hsame.mono (by decide) (by decide)⟩
          · skip
            show Steps p.tables e below (T16.setTop (mkF m 15 #[.val (.ref a1), .val (.int (Int32.ofNat (pn + 2))), .val (.long va2), .second, .val (.int (by_ (pn + 1))), .val (.int (14 : Int32))] [(.int (by_ (pn + 1)))])) _
            refine XS.ifYes X16.here hx rfl (pc0 := 15) (pc' := 63) rfl (hb hby own_d5_15) rfl ((if0 _ _).trans (flt hc15_2).2.1) (by decide) (by decide) ?_
            show Steps p.tables e below (T16.setTop (mkF m 63 #[.val (.ref a1), .val (.int (Int32.ofNat (pn + 2))), .val (.long va2), .second, .val (.int (by_ (pn + 1))), .val (.int (14 : Int32))] [])) _
            refine XS.iload X16.here hx rfl (hb hby own_d5_63) rfl ?_
            show Steps p.tables e below (T16.setTop (mkF m 65 #[.val (.ref a1), .val (.int (Int32.ofNat (pn + 2))), .val (.long va2), .second, .val (.int (by_ (pn + 1))), .val (.int (14 : Int32))] [(.int (by_ (pn + 1)))])) _
            refine XS.ifNo X16.here hx rfl (hb hby own_d5_65) rfl ((if0 _ _).trans (flt hc15_2).1) ?_
            show Steps p.tables e below (T16.setTop (mkF m 68 #[.val (.ref a1), .val (.int (Int32.ofNat (pn + 2))), .val (.long va2), .second, .val (.int (by_ (pn + 1))), .val (.int (14 : Int32))] [])) _
            refine XS.lloadN X16.here hx rfl (hb hby own_d5_68) rfl ?_
            show Steps p.tables e below (T16.setTop (mkF m 69 #[.val (.ref a1), .val (.int (Int32.ofNat (pn + 2))), .val (.long va2), .second, .val (.int (by_ (pn + 1))), .val (.int (14 : Int32))] [(.long va2)])) _
            refine X16.ldc2Long hx hown (mvT hZ (hw _ (List.mem_of_getElem? (i := 29) rfl))) (g := (mkF m 69 #[.val (.ref a1), .val (.int (Int32.ofNat (pn + 2))), .val (.long va2), .second, .val (.int (by_ (pn + 1))), .val (.int (14 : Int32))] [(.long va2)])) rfl (hb hby own_d5_69) _ ?_
            show Steps p.tables e below (T16.setTop (mkF m 72 #[.val (.ref a1), .val (.int (Int32.ofNat (pn + 2))), .val (.long va2), .second, .val (.int (by_ (pn + 1))), .val (.int (14 : Int32))] [(.long (4294967295 : Int64)), (.long va2)])) _
            refine XS.lcmp X16.here hx rfl (hb hby own_d5_72) rfl ?_
            show Steps p.tables e below (T16.setTop (mkF m 73 #[.val (.ref a1), .val (.int (Int32.ofNat (pn + 2))), .val (.long va2), .second, .val (.int (by_ (pn + 1))), .val (.int (14 : Int32))] [(.int (lcmpW va2 (4294967295 : Int64)))])) _
            refine XS.ifNo X16.here hx rfl (hb hby own_d5_73) rfl ((if0 _ _).trans (flt (fun q => (fun q => by have w := Int64.lt_iff_toInt_lt.mp q; rw [show (4294967295 : Int64).toInt = 4294967295 from rfl] at w; omega) ((lw_gt va2 (4294967295 : Int64)).mp q))).2.2.1) ?_
            show Steps p.tables e below (T16.setTop (mkF m 76 #[.val (.ref a1), .val (.int (Int32.ofNat (pn + 2))), .val (.long va2), .second, .val (.int (by_ (pn + 1))), .val (.int (14 : Int32))] [])) _
            refine XS.iconst X16.here hx rfl (hb hby own_d5_76) ?_
            show Steps p.tables e below (T16.setTop (mkF m 77 #[.val (.ref a1), .val (.int (Int32.ofNat (pn + 2))), .val (.long va2), .second, .val (.int (by_ (pn + 1))), .val (.int (14 : Int32))] [(.int (1 : Int32))])) _
            refine XS.goto X16.here hx rfl (pc0 := 77) (pc' := 81) rfl (hb hby own_d5_77) (by decide) (by decide) ?_
            show Steps p.tables e below (T16.setTop (mkF m 81 #[.val (.ref a1), .val (.int (Int32.ofNat (pn + 2))), .val (.long va2), .second, .val (.int (by_ (pn + 1))), .val (.int (14 : Int32))] [(.int (1 : Int32))])) _
            refine XS.istore X16.here hx rfl (hb hby own_d5_81) rfl (l' := #[.val (.ref a1), .val (.int (Int32.ofNat (pn + 2))), .val (.long va2), .second, .val (.int (by_ (pn + 1))), .val (.int (1 : Int32))]) rfl ?_
            show Steps p.tables e below (T16.setTop (mkF m 83 #[.val (.ref a1), .val (.int (Int32.ofNat (pn + 2))), .val (.long va2), .second, .val (.int (by_ (pn + 1))), .val (.int (1 : Int32))] [])) _
            refine XS.iload X16.here hx rfl (hb hby own_d5_83) rfl ?_
            show Steps p.tables e below (T16.setTop (mkF m 85 #[.val (.ref a1), .val (.int (Int32.ofNat (pn + 2))), .val (.long va2), .second, .val (.int (by_ (pn + 1))), .val (.int (1 : Int32))] [(.int (1 : Int32))])) _
            refine XS.ifNo X16.here hx rfl (hb hby own_d5_85) rfl ((if0 _ _).trans (feq (by decide)).1) ?_
            show Steps p.tables e below (T16.setTop (mkF m 88 #[.val (.ref a1), .val (.int (Int32.ofNat (pn + 2))), .val (.long va2), .second, .val (.int (by_ (pn + 1))), .val (.int (1 : Int32))] [])) _
            refine XS.aloadN X16.here hx rfl (hb hby own_d5_88) rfl rfl ?_
            show Steps p.tables e below (T16.setTop (mkF m 89 #[.val (.ref a1), .val (.int (Int32.ofNat (pn + 2))), .val (.long va2), .second, .val (.int (by_ (pn + 1))), .val (.int (1 : Int32))] [(.ref a1)])) _
            refine XS.iloadN X16.here hx rfl (hb hby own_d5_89) rfl ?_
            show Steps p.tables e below (T16.setTop (mkF m 90 #[.val (.ref a1), .val (.int (Int32.ofNat (pn + 2))), .val (.long va2), .second, .val (.int (by_ (pn + 1))), .val (.int (1 : Int32))] [(.int (Int32.ofNat (pn + 2))), (.ref a1)])) _
            refine st62 _ ?_
            show Steps p.tables e below (T62.setTop (mkF m 93 #[.val (.ref a1), .val (.int (Int32.ofNat (pn + 2))), .val (.long va2), .second, .val (.int (by_ (pn + 1))), .val (.int (1 : Int32))] [])) _
            refine XS.iload X62.here hx rfl (hb hby own_d5_93) rfl ?_
            show Steps p.tables e below (T62.setTop (mkF m 95 #[.val (.ref a1), .val (.int (Int32.ofNat (pn + 2))), .val (.long va2), .second, .val (.int (by_ (pn + 1))), .val (.int (1 : Int32))] [(.int (1 : Int32))])) _
            refine XS.ifNo X62.here hx rfl (hb hby own_d5_95) rfl ((if0 _ _).trans (feq (by decide)).1) ?_
            show Steps p.tables e below (T62.setTop (mkF m 98 #[.val (.ref a1), .val (.int (Int32.ofNat (pn + 2))), .val (.long va2), .second, .val (.int (by_ (pn + 1))), .val (.int (1 : Int32))] [])) _
            refine XS.lloadN X62.here hx rfl (hb hby own_d5_98) rfl ?_
            show Steps p.tables e below (T62.setTop (mkF m 99 #[.val (.ref a1), .val (.int (Int32.ofNat (pn + 2))), .val (.long va2), .second, .val (.int (by_ (pn + 1))), .val (.int (1 : Int32))] [(.long va2)])) _
            refine XS.goto X62.here hx rfl (pc0 := 99) (pc' := 105) rfl (hb hby own_d5_99) (by decide) (by decide) ?_
            show Steps p.tables e below (T62.setTop (mkF m 105 #[.val (.ref a1), .val (.int (Int32.ofNat (pn + 2))), .val (.long va2), .second, .val (.int (by_ (pn + 1))), .val (.int (1 : Int32))] [(.long va2)])) _
            exact X62.lreturnOut hx Bd.returns (hb hby own_d5_105) hr
          · show own_Q5 Z a1 bw pn by_ h0 n0 _ T62.heap _
            rw [e62]
            have e0_ : own_bk by_ pn 0 = by_ pn := if_pos hp0
            have n0_ : ¬ by_ pn = (-1000 : Int32) := own_absent (hrg _ hp0).1
            have e1_ : own_bk by_ pn 1 = by_ (pn + 1) := if_pos hp1
            have n1_ : ¬ by_ (pn + 1) = (-1000 : Int32) := own_absent (hrg _ hp1).1
            have z0_ : by_ pn < (0 : Int32) := hc15
            have hv : own_val (own_bk by_ pn 0) (own_bk by_ pn 1) (own_bk by_ pn 2) (own_bk by_ pn 3) (own_bk by_ pn 4) = va2 := by
              have hm := own_m7 hc15_2 (hrg _ hp1).2
              have hx : own_val (own_bk by_ pn 0) (own_bk by_ pn 1) (own_bk by_ pn 2) (own_bk by_ pn 3) (own_bk by_ pn 4) = ((((by_ pn) &&& (127 : Int32)).toInt64) ||| (((by_ (pn + 1)).toInt64) <<< ((7 : Int32) &&& 0x3f).toInt64)) := by simp [own_val, own_ln, e0_, e1_, n0_, n1_, z0_, hc15_2]
              refine hx.trans (show ((((by_ (pn + 0)) &&& (127 : Int32)).toInt64) ||| (((by_ (pn + 1)).toInt64) <<< ((7 : Int32) &&& 0x3f).toInt64)) = va2 from ?_)
              rw [hd_va2, hd_va1, own_z, hm]
            have hl : own_ln (own_bk by_ pn 0) (own_bk by_ pn 1) (own_bk by_ pn 2) (own_bk by_ pn 3) (own_bk by_ pn 4) = (2 : Int32) := by simp [own_val, own_ln, e0_, e1_, n0_, n1_, z0_, hc15_2]
            refine ⟨?_, N65, K63, E_a1, F_bytes, ?_⟩
            · rw [hv]
            · rw [hl, ← (show Int32.ofNat (pn + 2) = Int32.ofNat pn + (2 : Int32) from Int32.ofNat_add pn 2)]; exact F_position
      case neg =>
        obtain ⟨fs, hr, hrun, hended, hW, hsame⟩ := X13.leave (v := some (.long (-1 : Int64))) (fun h => by rw [Bd.returns] at h; cases h) (BodyLoose.notSynchronized Bd)
        refine ⟨_, _, pre15 _ ?_, hrun, hended, _, _, rfl, ?_, ⟨_, rfl⟩, hW, hsame.mono (by decide) (by decide)⟩
        · skip
          show Steps p.tables e below (T13.setTop (mkF m 31 #[.val (.ref a1), .val (.int (Int32.ofNat (pn + 1))), .val (.long va1), .second, .val (.int (by_ (pn + 0))), .val (.int (7 : Int32))] [(.int (8 : Int32)), (.int (Int32.ofNat (pn + 1)))])) _
          refine XS.icmpYes X13.here hx rfl (pc0 := 31) (pc' := 63) rfl (hb hby own_d5_31) rfl (flt hc31_2).2.1 (by decide) (by decide) ?_
          show Steps p.tables e below (T13.setTop (mkF m 63 #[.val (.ref a1), .val (.int (Int32.ofNat (pn + 1))), .val (.long va1), .second, .val (.int (by_ (pn + 0))), .val (.int (7 : Int32))] [])) _
          refine XS.iload X13.here hx rfl (hb hby own_d5_63) rfl ?_
          show Steps p.tables e below (T13.setTop (mkF m 65 #[.val (.ref a1), .val (.int (Int32.ofNat (pn + 1))), .val (.long va1), .second, .val (.int (by_ (pn + 0))), .val (.int (7 : Int32))] [(.int (by_ (pn + 0)))])) _
          refine XS.ifYes X13.here hx rfl (pc0 := 65) (pc' := 80) rfl (hb hby own_d5_65) rfl ((if0 _ _).trans (tlt hc15).1) (by decide) (by decide) ?_
          show Steps p.tables e below (T13.setTop (mkF m 80 #[.val (.ref a1), .val (.int (Int32.ofNat (pn + 1))), .val (.long va1), .second, .val (.int (by_ (pn + 0))), .val (.int (7 : Int32))] [])) _
          refine XS.iconst X13.here hx rfl (hb hby own_d5_80) ?_
          show Steps p.tables e below (T13.setTop (mkF m 81 #[.val (.ref a1), .val (.int (Int32.ofNat (pn + 1))), .val (.long va1), .second, .val (.int (by_ (pn + 0))), .val (.int (7 : Int32))] [(.int (0 : Int32))])) _
          refine XS.istore X13.here hx rfl (hb hby own_d5_81) rfl (l' := #[.val (.ref a1), .val (.int (Int32.ofNat (pn + 1))), .val (.long va1), .second, .val (.int (by_ (pn + 0))), .val (.int (0 : Int32))]) rfl ?_
          show Steps p.tables e below (T13.setTop (mkF m 83 #[.val (.ref a1), .val (.int (Int32.ofNat (pn + 1))), .val (.long va1), .second, .val (.int (by_ (pn + 0))), .val (.int (0 : Int32))] [])) _
          refine XS.iload X13.here hx rfl (hb hby own_d5_83) rfl ?_
          show Steps p.tables e below (T13.setTop (mkF m 85 #[.val (.ref a1), .val (.int (Int32.ofNat (pn + 1))), .val (.long va1), .second, .val (.int (by_ (pn + 0))), .val (.int (0 : Int32))] [(.int (0 : Int32))])) _
          refine XS.ifYes X13.here hx rfl (pc0 := 85) (pc' := 93) rfl (hb hby own_d5_85) rfl ((if0 _ _).trans (teq rfl).1) (by decide) (by decide) ?_
          show Steps p.tables e below (T13.setTop (mkF m 93 #[.val (.ref a1), .val (.int (Int32.ofNat (pn + 1))), .val (.long va1), .second, .val (.int (by_ (pn + 0))), .val (.int (0 : Int32))] [])) _
          refine XS.iload X13.here hx rfl (hb hby own_d5_93) rfl ?_
          show Steps p.tables e below (T13.setTop (mkF m 95 #[.val (.ref a1), .val (.int (Int32.ofNat (pn + 1))), .val (.long va1), .second, .val (.int (by_ (pn + 0))), .val (.int (0 : Int32))] [(.int (0 : Int32))])) _
          refine XS.ifYes X13.here hx rfl (pc0 := 95) (pc' := 102) rfl (hb hby own_d5_95) rfl ((if0 _ _).trans (teq rfl).1) (by decide) (by decide) ?_
          show Steps p.tables e below (T13.setTop (mkF m 102 #[.val (.ref a1), .val (.int (Int32.ofNat (pn + 1))), .val (.long va1), .second, .val (.int (by_ (pn + 0))), .val (.int (0 : Int32))] [])) _
          refine X13.ldc2Long hx hown (mvT hZ (hw _ (List.mem_of_getElem? (i := 35) rfl))) (g := (mkF m 102 #[.val (.ref a1), .val (.int (Int32.ofNat (pn + 1))), .val (.long va1), .second, .val (.int (by_ (pn + 0))), .val (.int (0 : Int32))] [])) rfl (hb hby own_d5_102) _ ?_
          show Steps p.tables e below (T13.setTop (mkF m 105 #[.val (.ref a1), .val (.int (Int32.ofNat (pn + 1))), .val (.long va1), .second, .val (.int (by_ (pn + 0))), .val (.int (0 : Int32))] [(.long (-1 : Int64))])) _
          exact X13.lreturnOut hx Bd.returns (hb hby own_d5_105) hr
        · show own_Q5 Z a1 bw pn by_ h0 n0 _ T13.heap _
          rw [e13]
          have e0_ : own_bk by_ pn 0 = by_ pn := if_pos hp0
          have n0_ : ¬ by_ pn = (-1000 : Int32) := own_absent (hrg _ hp0).1
          have z0_ : by_ pn < (0 : Int32) := hc15
          have x1_ : own_bk by_ pn 1 = (-1000 : Int32) := if_neg (fun w => hc31_2 ((own_lt8 (by omega)).mpr w))
          refine ⟨?_, N0, K0, E_a1, F_bytes, ?_⟩
          · simp [own_val, own_ln, e0_, n0_, z0_, x1_]
          · have q : own_ln (own_bk by_ pn 0) (own_bk by_ pn 1) (own_bk by_ pn 2) (own_bk by_ pn 3) (own_bk by_ pn 4) = 0 := by simp [own_val, own_ln, e0_, n0_, z0_, x1_]
            rw [q, Int32.add_zero]; exact F_position
    case neg =>
      obtain ⟨T66, h66, X66, e66, W66, st66⟩ := putF X7 hx hZ hown (host := "") (Or.inl (hw _ (List.mem_of_getElem? (i := 22) rfl))) Via.refl e7 F_position E_a1 (Or.inl (hw _ (List.mem_of_getElem? (i := 23) rfl))) (hw _ (List.mem_of_getElem? (i := 7) rfl)) (ty := .int) (by decide) rfl rfl (g := (mkF m 90 #[.val (.ref a1), .val (.int (Int32.ofNat (pn + 1))), .val (.long va1), .second, .val (.int (by_ (pn + 0))), .val (.int (1 : Int32))] [(.int (Int32.ofNat (pn + 1))), (.ref a1)])) rfl rfl (hb hby own_d5_90)
      have E_a1 := E_a1.wr W66
      have F_bytes := F_bytes.other W66 (Or.inr (slot_ne (Or.inr (hw _ (List.mem_of_getElem? (i := 16) rfl))) (Or.inl (hw _ (List.mem_of_getElem? (i := 23) rfl))) (by decide) (t := (.array .byte)) (t' := .int) (by decide) (by decide)))
      have F_position := F_position.same W66
      have V_bw := V_bw.other W66 (Ne.symm neab)
      have K67 := K0.wr W66 (Or.inl (List.mem_of_getElem? (i := 0) rfl))
      have Z68 := Nat.le_trans Z0 (Keep.of_wr W66).1
      have N69 := Fr.snoc X66 N0 g_a1
      obtain ⟨fs, hr, hrun, hended, hW, hsame⟩ := X66.leave (v := some (.long va1)) (fun h => by rw [Bd.returns] at h; cases h) (BodyLoose.notSynchronized Bd)
      refine ⟨_, _, pre12 _ ?_, hrun, hended, _, _, rfl, ?_, ⟨_, rfl⟩, hW, hsame.mono (by decide) (by decide)⟩
      · skip
        show Steps p.tables e below (T7.setTop (mkF m 15 #[.val (.ref a1), .val (.int (Int32.ofNat (pn + 1))), .val (.long va1), .second, .val (.int (by_ (pn + 0))), .val (.int (7 : Int32))] [(.int (by_ (pn + 0)))])) _
        refine XS.ifYes X7.here hx rfl (pc0 := 15) (pc' := 63) rfl (hb hby own_d5_15) rfl ((if0 _ _).trans (flt hc15).2.1) (by decide) (by decide) ?_
        show Steps p.tables e below (T7.setTop (mkF m 63 #[.val (.ref a1), .val (.int (Int32.ofNat (pn + 1))), .val (.long va1), .second, .val (.int (by_ (pn + 0))), .val (.int (7 : Int32))] [])) _
        refine XS.iload X7.here hx rfl (hb hby own_d5_63) rfl ?_
        show Steps p.tables e below (T7.setTop (mkF m 65 #[.val (.ref a1), .val (.int (Int32.ofNat (pn + 1))), .val (.long va1), .second, .val (.int (by_ (pn + 0))), .val (.int (7 : Int32))] [(.int (by_ (pn + 0)))])) _
        refine XS.ifNo X7.here hx rfl (hb hby own_d5_65) rfl ((if0 _ _).trans (flt hc15).1) ?_
        show Steps p.tables e below (T7.setTop (mkF m 68 #[.val (.ref a1), .val (.int (Int32.ofNat (pn + 1))), .val (.long va1), .second, .val (.int (by_ (pn + 0))), .val (.int (7 : Int32))] [])) _
        refine XS.lloadN X7.here hx rfl (hb hby own_d5_68) rfl ?_
        show Steps p.tables e below (T7.setTop (mkF m 69 #[.val (.ref a1), .val (.int (Int32.ofNat (pn + 1))), .val (.long va1), .second, .val (.int (by_ (pn + 0))), .val (.int (7 : Int32))] [(.long va1)])) _
        refine X7.ldc2Long hx hown (mvT hZ (hw _ (List.mem_of_getElem? (i := 29) rfl))) (g := (mkF m 69 #[.val (.ref a1), .val (.int (Int32.ofNat (pn + 1))), .val (.long va1), .second, .val (.int (by_ (pn + 0))), .val (.int (7 : Int32))] [(.long va1)])) rfl (hb hby own_d5_69) _ ?_
        show Steps p.tables e below (T7.setTop (mkF m 72 #[.val (.ref a1), .val (.int (Int32.ofNat (pn + 1))), .val (.long va1), .second, .val (.int (by_ (pn + 0))), .val (.int (7 : Int32))] [(.long (4294967295 : Int64)), (.long va1)])) _
        refine XS.lcmp X7.here hx rfl (hb hby own_d5_72) rfl ?_
        show Steps p.tables e below (T7.setTop (mkF m 73 #[.val (.ref a1), .val (.int (Int32.ofNat (pn + 1))), .val (.long va1), .second, .val (.int (by_ (pn + 0))), .val (.int (7 : Int32))] [(.int (lcmpW va1 (4294967295 : Int64)))])) _
        refine XS.ifNo X7.here hx rfl (hb hby own_d5_73) rfl ((if0 _ _).trans (flt (fun q => (fun q => by have w := Int64.lt_iff_toInt_lt.mp q; rw [show (4294967295 : Int64).toInt = 4294967295 from rfl] at w; omega) ((lw_gt va1 (4294967295 : Int64)).mp q))).2.2.1) ?_
        show Steps p.tables e below (T7.setTop (mkF m 76 #[.val (.ref a1), .val (.int (Int32.ofNat (pn + 1))), .val (.long va1), .second, .val (.int (by_ (pn + 0))), .val (.int (7 : Int32))] [])) _
        refine XS.iconst X7.here hx rfl (hb hby own_d5_76) ?_
        show Steps p.tables e below (T7.setTop (mkF m 77 #[.val (.ref a1), .val (.int (Int32.ofNat (pn + 1))), .val (.long va1), .second, .val (.int (by_ (pn + 0))), .val (.int (7 : Int32))] [(.int (1 : Int32))])) _
        refine XS.goto X7.here hx rfl (pc0 := 77) (pc' := 81) rfl (hb hby own_d5_77) (by decide) (by decide) ?_
        show Steps p.tables e below (T7.setTop (mkF m 81 #[.val (.ref a1), .val (.int (Int32.ofNat (pn + 1))), .val (.long va1), .second, .val (.int (by_ (pn + 0))), .val (.int (7 : Int32))] [(.int (1 : Int32))])) _
        refine XS.istore X7.here hx rfl (hb hby own_d5_81) rfl (l' := #[.val (.ref a1), .val (.int (Int32.ofNat (pn + 1))), .val (.long va1), .second, .val (.int (by_ (pn + 0))), .val (.int (1 : Int32))]) rfl ?_
        show Steps p.tables e below (T7.setTop (mkF m 83 #[.val (.ref a1), .val (.int (Int32.ofNat (pn + 1))), .val (.long va1), .second, .val (.int (by_ (pn + 0))), .val (.int (1 : Int32))] [])) _
        refine XS.iload X7.here hx rfl (hb hby own_d5_83) rfl ?_
        show Steps p.tables e below (T7.setTop (mkF m 85 #[.val (.ref a1), .val (.int (Int32.ofNat (pn + 1))), .val (.long va1), .second, .val (.int (by_ (pn + 0))), .val (.int (1 : Int32))] [(.int (1 : Int32))])) _
        refine XS.ifNo X7.here hx rfl (hb hby own_d5_85) rfl ((if0 _ _).trans (feq (by decide)).1) ?_
        show Steps p.tables e below (T7.setTop (mkF m 88 #[.val (.ref a1), .val (.int (Int32.ofNat (pn + 1))), .val (.long va1), .second, .val (.int (by_ (pn + 0))), .val (.int (1 : Int32))] [])) _
        refine XS.aloadN X7.here hx rfl (hb hby own_d5_88) rfl rfl ?_
        show Steps p.tables e below (T7.setTop (mkF m 89 #[.val (.ref a1), .val (.int (Int32.ofNat (pn + 1))), .val (.long va1), .second, .val (.int (by_ (pn + 0))), .val (.int (1 : Int32))] [(.ref a1)])) _
        refine XS.iloadN X7.here hx rfl (hb hby own_d5_89) rfl ?_
        show Steps p.tables e below (T7.setTop (mkF m 90 #[.val (.ref a1), .val (.int (Int32.ofNat (pn + 1))), .val (.long va1), .second, .val (.int (by_ (pn + 0))), .val (.int (1 : Int32))] [(.int (Int32.ofNat (pn + 1))), (.ref a1)])) _
        refine st66 _ ?_
        show Steps p.tables e below (T66.setTop (mkF m 93 #[.val (.ref a1), .val (.int (Int32.ofNat (pn + 1))), .val (.long va1), .second, .val (.int (by_ (pn + 0))), .val (.int (1 : Int32))] [])) _
        refine XS.iload X66.here hx rfl (hb hby own_d5_93) rfl ?_
        show Steps p.tables e below (T66.setTop (mkF m 95 #[.val (.ref a1), .val (.int (Int32.ofNat (pn + 1))), .val (.long va1), .second, .val (.int (by_ (pn + 0))), .val (.int (1 : Int32))] [(.int (1 : Int32))])) _
        refine XS.ifNo X66.here hx rfl (hb hby own_d5_95) rfl ((if0 _ _).trans (feq (by decide)).1) ?_
        show Steps p.tables e below (T66.setTop (mkF m 98 #[.val (.ref a1), .val (.int (Int32.ofNat (pn + 1))), .val (.long va1), .second, .val (.int (by_ (pn + 0))), .val (.int (1 : Int32))] [])) _
        refine XS.lloadN X66.here hx rfl (hb hby own_d5_98) rfl ?_
        show Steps p.tables e below (T66.setTop (mkF m 99 #[.val (.ref a1), .val (.int (Int32.ofNat (pn + 1))), .val (.long va1), .second, .val (.int (by_ (pn + 0))), .val (.int (1 : Int32))] [(.long va1)])) _
        refine XS.goto X66.here hx rfl (pc0 := 99) (pc' := 105) rfl (hb hby own_d5_99) (by decide) (by decide) ?_
        show Steps p.tables e below (T66.setTop (mkF m 105 #[.val (.ref a1), .val (.int (Int32.ofNat (pn + 1))), .val (.long va1), .second, .val (.int (by_ (pn + 0))), .val (.int (1 : Int32))] [(.long va1)])) _
        exact X66.lreturnOut hx Bd.returns (hb hby own_d5_105) hr
      · show own_Q5 Z a1 bw pn by_ h0 n0 _ T66.heap _
        rw [e66]
        have e0_ : own_bk by_ pn 0 = by_ pn := if_pos hp0
        have n0_ : ¬ by_ pn = (-1000 : Int32) := own_absent (hrg _ hp0).1
        have z0_ : ¬ by_ pn < (0 : Int32) := hc15
        have hv : own_val (own_bk by_ pn 0) (own_bk by_ pn 1) (own_bk by_ pn 2) (own_bk by_ pn 3) (own_bk by_ pn 4) = va1 := by
          have hm := own_m7 hc15 (hrg _ hp0).2
          have hx : own_val (own_bk by_ pn 0) (own_bk by_ pn 1) (own_bk by_ pn 2) (own_bk by_ pn 3) (own_bk by_ pn 4) = ((by_ pn).toInt64) := by simp [own_val, own_ln, e0_, n0_, z0_]
          refine hx.trans (show ((by_ (pn + 0)).toInt64) = va1 from ?_)
          rw [hd_va1, own_z, hm]
        have hl : own_ln (own_bk by_ pn 0) (own_bk by_ pn 1) (own_bk by_ pn 2) (own_bk by_ pn 3) (own_bk by_ pn 4) = (1 : Int32) := by simp [own_val, own_ln, e0_, n0_, z0_]
        refine ⟨?_, N69, K67, E_a1, F_bytes, ?_⟩
        · rw [hv]
        · rw [hl, ← (show Int32.ofNat (pn + 1) = Int32.ofNat pn + (1 : Int32) from Int32.ofNat_add pn 1)]; exact F_position
  case neg =>
    obtain ⟨fs, hr, hrun, hended, hW, hsame⟩ := X4.leave (v := some (.long (-1 : Int64))) (fun h => by rw [Bd.returns] at h; cases h) (BodyLoose.notSynchronized Bd)
    refine ⟨_, _, pre6 _ ?_, hrun, hended, _, _, rfl, ?_, ⟨_, rfl⟩, hW, hsame.mono (by decide) (by decide)⟩
    · skip
      show Steps p.tables e below (T4.setTop (mkF m 31 #[.val (.ref a1), .val (.int (Int32.ofNat (pn + 0))), .val (.long (0 : Int64)), .second, .val (.int (-1 : Int32)), .val (.int (0 : Int32))] [(.int (8 : Int32)), (.int (Int32.ofNat (pn + 0)))])) _
      refine XS.icmpYes X4.here hx rfl (pc0 := 31) (pc' := 63) rfl (hb hby own_d5_31) rfl (flt hc31).2.1 (by decide) (by decide) ?_
      show Steps p.tables e below (T4.setTop (mkF m 63 #[.val (.ref a1), .val (.int (Int32.ofNat (pn + 0))), .val (.long (0 : Int64)), .second, .val (.int (-1 : Int32)), .val (.int (0 : Int32))] [])) _
      refine XS.iload X4.here hx rfl (hb hby own_d5_63) rfl ?_
      show Steps p.tables e below (T4.setTop (mkF m 65 #[.val (.ref a1), .val (.int (Int32.ofNat (pn + 0))), .val (.long (0 : Int64)), .second, .val (.int (-1 : Int32)), .val (.int (0 : Int32))] [(.int (-1 : Int32))])) _
      refine XS.ifYes X4.here hx rfl (pc0 := 65) (pc' := 80) rfl (hb hby own_d5_65) rfl ((if0 _ _).trans (tlt (by decide)).1) (by decide) (by decide) ?_
      show Steps p.tables e below (T4.setTop (mkF m 80 #[.val (.ref a1), .val (.int (Int32.ofNat (pn + 0))), .val (.long (0 : Int64)), .second, .val (.int (-1 : Int32)), .val (.int (0 : Int32))] [])) _
      refine XS.iconst X4.here hx rfl (hb hby own_d5_80) ?_
      show Steps p.tables e below (T4.setTop (mkF m 81 #[.val (.ref a1), .val (.int (Int32.ofNat (pn + 0))), .val (.long (0 : Int64)), .second, .val (.int (-1 : Int32)), .val (.int (0 : Int32))] [(.int (0 : Int32))])) _
      refine XS.istore X4.here hx rfl (hb hby own_d5_81) rfl (l' := #[.val (.ref a1), .val (.int (Int32.ofNat (pn + 0))), .val (.long (0 : Int64)), .second, .val (.int (-1 : Int32)), .val (.int (0 : Int32))]) rfl ?_
      show Steps p.tables e below (T4.setTop (mkF m 83 #[.val (.ref a1), .val (.int (Int32.ofNat (pn + 0))), .val (.long (0 : Int64)), .second, .val (.int (-1 : Int32)), .val (.int (0 : Int32))] [])) _
      refine XS.iload X4.here hx rfl (hb hby own_d5_83) rfl ?_
      show Steps p.tables e below (T4.setTop (mkF m 85 #[.val (.ref a1), .val (.int (Int32.ofNat (pn + 0))), .val (.long (0 : Int64)), .second, .val (.int (-1 : Int32)), .val (.int (0 : Int32))] [(.int (0 : Int32))])) _
      refine XS.ifYes X4.here hx rfl (pc0 := 85) (pc' := 93) rfl (hb hby own_d5_85) rfl ((if0 _ _).trans (teq rfl).1) (by decide) (by decide) ?_
      show Steps p.tables e below (T4.setTop (mkF m 93 #[.val (.ref a1), .val (.int (Int32.ofNat (pn + 0))), .val (.long (0 : Int64)), .second, .val (.int (-1 : Int32)), .val (.int (0 : Int32))] [])) _
      refine XS.iload X4.here hx rfl (hb hby own_d5_93) rfl ?_
      show Steps p.tables e below (T4.setTop (mkF m 95 #[.val (.ref a1), .val (.int (Int32.ofNat (pn + 0))), .val (.long (0 : Int64)), .second, .val (.int (-1 : Int32)), .val (.int (0 : Int32))] [(.int (0 : Int32))])) _
      refine XS.ifYes X4.here hx rfl (pc0 := 95) (pc' := 102) rfl (hb hby own_d5_95) rfl ((if0 _ _).trans (teq rfl).1) (by decide) (by decide) ?_
      show Steps p.tables e below (T4.setTop (mkF m 102 #[.val (.ref a1), .val (.int (Int32.ofNat (pn + 0))), .val (.long (0 : Int64)), .second, .val (.int (-1 : Int32)), .val (.int (0 : Int32))] [])) _
      refine X4.ldc2Long hx hown (mvT hZ (hw _ (List.mem_of_getElem? (i := 35) rfl))) (g := (mkF m 102 #[.val (.ref a1), .val (.int (Int32.ofNat (pn + 0))), .val (.long (0 : Int64)), .second, .val (.int (-1 : Int32)), .val (.int (0 : Int32))] [])) rfl (hb hby own_d5_102) _ ?_
      show Steps p.tables e below (T4.setTop (mkF m 105 #[.val (.ref a1), .val (.int (Int32.ofNat (pn + 0))), .val (.long (0 : Int64)), .second, .val (.int (-1 : Int32)), .val (.int (0 : Int32))] [(.long (-1 : Int64))])) _
      exact X4.lreturnOut hx Bd.returns (hb hby own_d5_105) hr
    · show own_Q5 Z a1 bw pn by_ h0 n0 _ T4.heap _
      rw [e4]
      have x0_ : own_bk by_ pn 0 = (-1000 : Int32) := if_neg (fun w => hc31 ((own_lt8 (by omega)).mpr w))
      refine ⟨?_, N0, K0, E_a1, F_bytes, ?_⟩
      · simp [own_val, own_ln, x0_]
      · have q : own_ln (own_bk by_ pn 0) (own_bk by_ pn 1) (own_bk by_ pn 2) (own_bk by_ pn 3) (own_bk by_ pn 4) = 0 := by simp [own_val, own_ln, x0_]
        rw [q, Int32.add_zero]; exact F_position
theorem own_pd0 : parseMethodDescriptor "(JI)I" = some ⟨[.long, .int], some .int⟩ := by decide +kernel
theorem own_pd1 : parseMethodDescriptor "([B)V" = some ⟨[(.array .byte)], none⟩ := by decide +kernel
theorem own_pd2 : parseMethodDescriptor "(I)Lcom/example/ulebb/ulebb/dex/Cursor;" = some ⟨[.int], some (.object "com/example/ulebb/ulebb/dex/Cursor")⟩ := by decide +kernel
theorem own_pd3 : parseMethodDescriptor "()J" = some ⟨[], some .long⟩ := by decide +kernel
theorem own_pd4 : parseMethodDescriptor "()I" = some ⟨[], some .int⟩ := by decide +kernel
theorem own_ef0 (m : MethodId) (x0 : Int64) (x1 : Int32) : entryFrame m #[(.long x0), (.int x1)] maxLocals = mkF m 0 #[.val (.long x0), .second, .val (.int x1), .unset, .unset, .unset, .unset, .unset, .unset, .unset, .unset, .unset, .unset, .unset, .unset, .unset] [] := by first | (simp [entryFrame, mkF, argsToLocals, Value.category, maxLocals]; done) | rfl
def own_Q0 (Z : State) (a1 : Int64) (a2 : Int32) (h0 : Heap) (n0 : Nat) (v : Option Value) (h : Heap) (L : List Loc) : Prop := v = some (.int 1) ∧ Fr n0 L
set_option maxRecDepth 65536 in
set_option maxHeartbeats 40000000 in
theorem own_rm0 (l : Launch) (Z : State) (a0 : Array Value) (hw : ∀ d ∈ tables_1, d.before a0 Z = true) (ws : List Jvm.Cond) (a1 : Int64) (a2 : Int32) (h0 : Heap) (n0 : Nat) (Z0 : n0 ≤ h0.size) :
    MetFree l x (head1 (Jvm.Cond.code x code maxLocals ret :: ws) room_1) (fun a U => a = #[(.long a1), (.int a2)] ∧ Z.Warmed39 U.vm ∧ U.heap = h0) (fun _ _ _ _ _ => True) (fun _ U o U' => ∃ v L, o = .returned v ∧ own_Q0 Z a1 a2 h0 n0 v U'.heap L ∧ FrameEnd U o U' L room_1.cells room_1.slots) := by
  refine MetFree.of_bodySF (plainFor_of_name own_pn0) hisR ?_
  intro p e s m args below meth c s₁ Bd hml0 hP hK
  obtain ⟨rfl, hZ, hh⟩ := hP
  have hx := Bd.exec
  have hby := Bd.bytes
  have hml : c.maxLocals = 16 := hml0
  have hown : s.vm.findClass "com/example/ulebb/ulebb/dex/CursorUleb128PinLaw" = some m.cls := findClass_of_methodNamed Bd.named
  have hnm := (name_of_methodNamed Bd.named Bd.method).1
  have X0 : Stand p l e room_1 s m #[(.long a1), (.int a2)] below meth c s₁ [] 0 0 := Stand.of_body Bd
  have e0 : s₁.heap = h0 := by rw [← hh, Bd.state]; rfl
  have N0 := Fr.nil n0
  have K0 := Keep.refl h0 []
  have pre0 : ∀ t, Steps p.tables e below (s₁.setTop (mkF m 0 #[.val (.long a1), .second, .val (.int a2), .unset, .unset, .unset, .unset, .unset, .unset, .unset, .unset, .unset, .unset, .unset, .unset, .unset] [])) t → Steps p.tables e below (s₁.setTop (entryFrame m #[(.long a1), (.int a2)] maxLocals)) t := fun t kt0 => castTop (own_ef0 m (a1) (a2)) kt0
  obtain ⟨pn, hpn, hpe⟩ := own_pp a2
  have pre1 : ∀ t, Steps p.tables e below (s₁.setTop (mkF m 8 #[.val (.long a1), .second, .val (.int a2), .val (.int ((a2 &&& (15 : Int32)) % (10 : Int32))), .unset, .unset, .unset, .unset, .unset, .unset, .unset, .unset, .unset, .unset, .unset, .unset] [])) t → Steps p.tables e below (s₁.setTop (entryFrame m #[(.long a1), (.int a2)] maxLocals)) t := by
    intro t kt
    refine pre0 t ?_
    show Steps p.tables e below (s₁.setTop (mkF m 0 #[.val (.long a1), .second, .val (.int a2), .unset, .unset, .unset, .unset, .unset, .unset, .unset, .unset, .unset, .unset, .unset, .unset, .unset] [])) _
    refine XS.iloadN X0.here hx rfl (hb hby at_0) rfl ?_
    show Steps p.tables e below (s₁.setTop (mkF m 1 #[.val (.long a1), .second, .val (.int a2), .unset, .unset, .unset, .unset, .unset, .unset, .unset, .unset, .unset, .unset, .unset, .unset, .unset] [(.int a2)])) _
    refine XS.bipush X0.here hx rfl (hb hby at_1) ?_
    show Steps p.tables e below (s₁.setTop (mkF m 3 #[.val (.long a1), .second, .val (.int a2), .unset, .unset, .unset, .unset, .unset, .unset, .unset, .unset, .unset, .unset, .unset, .unset, .unset] [(.int (15 : Int32)), (.int a2)])) _
    refine XS.iand X0.here hx rfl (hb hby at_3) rfl ?_
    show Steps p.tables e below (s₁.setTop (mkF m 4 #[.val (.long a1), .second, .val (.int a2), .unset, .unset, .unset, .unset, .unset, .unset, .unset, .unset, .unset, .unset, .unset, .unset, .unset] [(.int (a2 &&& (15 : Int32)))])) _
    refine XS.bipush X0.here hx rfl (hb hby at_4) ?_
    show Steps p.tables e below (s₁.setTop (mkF m 6 #[.val (.long a1), .second, .val (.int a2), .unset, .unset, .unset, .unset, .unset, .unset, .unset, .unset, .unset, .unset, .unset, .unset, .unset] [(.int (10 : Int32)), (.int (a2 &&& (15 : Int32)))])) _
    refine iremM X0 hx rfl (hb hby at_6) rfl (by decide) ?_
    show Steps p.tables e below (s₁.setTop (mkF m 7 #[.val (.long a1), .second, .val (.int a2), .unset, .unset, .unset, .unset, .unset, .unset, .unset, .unset, .unset, .unset, .unset, .unset, .unset] [(.int ((a2 &&& (15 : Int32)) % (10 : Int32)))])) _
    refine XS.istoreN X0.here hx rfl (hb hby at_7) rfl (l' := #[.val (.long a1), .second, .val (.int a2), .val (.int ((a2 &&& (15 : Int32)) % (10 : Int32))), .unset, .unset, .unset, .unset, .unset, .unset, .unset, .unset, .unset, .unset, .unset, .unset]) rfl ?_
    exact kt
  have pre2 : ∀ t, Steps p.tables e below (s₁.setTop (mkF m 8 #[.val (.long a1), .second, .val (.int a2), .val (.int (Int32.ofNat pn)), .unset, .unset, .unset, .unset, .unset, .unset, .unset, .unset, .unset, .unset, .unset, .unset] [])) t → Steps p.tables e below (s₁.setTop (entryFrame m #[(.long a1), (.int a2)] maxLocals)) t := by rw [(hpe : (Int32.ofNat pn) = ((a2 &&& (15 : Int32)) % (10 : Int32)))]; exact pre1
  obtain ⟨T3, h3, k3, X3, e3, E3, A3, st3⟩ := newP X0 hx hZ (hw _ (List.mem_of_getElem? (i := 0) rfl)) e0 (g := (mkF m 10 #[.val (.long a1), .second, .val (.int a2), .val (.int (Int32.ofNat pn)), .unset, .unset, .unset, .unset, .unset, .unset, .unset, .unset, .unset, .unset, .unset, .unset] [(.int (8 : Int32))])) rfl (hb hby at_10) rfl (by decide) (cap := 8) (by decide) (by decide) (by decide) (by decide)
  obtain ⟨ar, g3⟩ : ∃ z, z = h0.size := ⟨_, rfl⟩
  rw [← g3] at A3 st3
  have g_ar : n0 ≤ ar := by rw [g3]; exact Z0
  have Z4 := Nat.le_trans Z0 E3.1
  have V_ar : own_AF Z h3 ar .byte 8 (fun _ => .int (0 : Int32)) := own_AF.new A3 (by decide) (by decide)
  obtain ⟨T5, h5, X5, e5, W5, V5, st5⟩ := own_stB X3 hx hZ e3 V_ar (j := (0 : Int32)) (by decide) (k := 0) rfl (by decide) (g := (mkF m 20 #[.val (.long a1), .second, .val (.int a2), .val (.int (Int32.ofNat pn)), .val (.ref ar), .unset, .unset, .unset, .unset, .unset, .unset, .unset, .unset, .unset, .unset, .unset] [(.int ((a1.toInt32).toInt8.toInt32)), (.int (0 : Int32)), (.ref ar)])) rfl rfl (hb hby at_20)
  have Z6 := Nat.le_trans Z4 (Keep.of_wr W5).1
  have N7 := Fr.snoc X5 N0 g_ar
  have V_ar := V5
  obtain ⟨T8, h8, X8, e8, W8, V8, st8⟩ := own_stB X5 hx hZ e5 V_ar (j := (1 : Int32)) (by decide) (k := 1) rfl (by decide) (g := (mkF m 30 #[.val (.long a1), .second, .val (.int a2), .val (.int (Int32.ofNat pn)), .val (.ref ar), .unset, .unset, .unset, .unset, .unset, .unset, .unset, .unset, .unset, .unset, .unset] [(.int ((((a1.toUInt64 >>> ((8 : Int32) &&& 0x3f).toInt64.toUInt64).toInt64).toInt32).toInt8.toInt32)), (.int (1 : Int32)), (.ref ar)])) rfl rfl (hb hby at_30)
  have Z9 := Nat.le_trans Z6 (Keep.of_wr W8).1
  have N10 := Fr.snoc X8 N7 g_ar
  have V_ar := V8
  obtain ⟨T11, h11, X11, e11, W11, V11, st11⟩ := own_stB X8 hx hZ e8 V_ar (j := (2 : Int32)) (by decide) (k := 2) rfl (by decide) (g := (mkF m 40 #[.val (.long a1), .second, .val (.int a2), .val (.int (Int32.ofNat pn)), .val (.ref ar), .unset, .unset, .unset, .unset, .unset, .unset, .unset, .unset, .unset, .unset, .unset] [(.int ((((a1.toUInt64 >>> ((16 : Int32) &&& 0x3f).toInt64.toUInt64).toInt64).toInt32).toInt8.toInt32)), (.int (2 : Int32)), (.ref ar)])) rfl rfl (hb hby at_40)
  have Z12 := Nat.le_trans Z9 (Keep.of_wr W11).1
  have N13 := Fr.snoc X11 N10 g_ar
  have V_ar := V11
  obtain ⟨T14, h14, X14, e14, W14, V14, st14⟩ := own_stB X11 hx hZ e11 V_ar (j := (3 : Int32)) (by decide) (k := 3) rfl (by decide) (g := (mkF m 50 #[.val (.long a1), .second, .val (.int a2), .val (.int (Int32.ofNat pn)), .val (.ref ar), .unset, .unset, .unset, .unset, .unset, .unset, .unset, .unset, .unset, .unset, .unset] [(.int ((((a1.toUInt64 >>> ((24 : Int32) &&& 0x3f).toInt64.toUInt64).toInt64).toInt32).toInt8.toInt32)), (.int (3 : Int32)), (.ref ar)])) rfl rfl (hb hby at_50)
  have Z15 := Nat.le_trans Z12 (Keep.of_wr W14).1
  have N16 := Fr.snoc X14 N13 g_ar
  have V_ar := V14
  obtain ⟨T17, h17, X17, e17, W17, V17, st17⟩ := own_stB X14 hx hZ e14 V_ar (j := (4 : Int32)) (by decide) (k := 4) rfl (by decide) (g := (mkF m 60 #[.val (.long a1), .second, .val (.int a2), .val (.int (Int32.ofNat pn)), .val (.ref ar), .unset, .unset, .unset, .unset, .unset, .unset, .unset, .unset, .unset, .unset, .unset] [(.int ((((a1.toUInt64 >>> ((32 : Int32) &&& 0x3f).toInt64.toUInt64).toInt64).toInt32).toInt8.toInt32)), (.int (4 : Int32)), (.ref ar)])) rfl rfl (hb hby at_60)
  have Z18 := Nat.le_trans Z15 (Keep.of_wr W17).1
  have N19 := Fr.snoc X17 N16 g_ar
  have V_ar := V17
  obtain ⟨T20, h20, X20, e20, W20, V20, st20⟩ := own_stB X17 hx hZ e17 V_ar (j := (5 : Int32)) (by decide) (k := 5) rfl (by decide) (g := (mkF m 70 #[.val (.long a1), .second, .val (.int a2), .val (.int (Int32.ofNat pn)), .val (.ref ar), .unset, .unset, .unset, .unset, .unset, .unset, .unset, .unset, .unset, .unset, .unset] [(.int ((((a1.toUInt64 >>> ((40 : Int32) &&& 0x3f).toInt64.toUInt64).toInt64).toInt32).toInt8.toInt32)), (.int (5 : Int32)), (.ref ar)])) rfl rfl (hb hby at_70)
  have Z21 := Nat.le_trans Z18 (Keep.of_wr W20).1
  have N22 := Fr.snoc X20 N19 g_ar
  have V_ar := V20
  obtain ⟨T23, h23, X23, e23, W23, V23, st23⟩ := own_stB X20 hx hZ e20 V_ar (j := (6 : Int32)) (by decide) (k := 6) rfl (by decide) (g := (mkF m 81 #[.val (.long a1), .second, .val (.int a2), .val (.int (Int32.ofNat pn)), .val (.ref ar), .unset, .unset, .unset, .unset, .unset, .unset, .unset, .unset, .unset, .unset, .unset] [(.int ((((a1.toUInt64 >>> ((48 : Int32) &&& 0x3f).toInt64.toUInt64).toInt64).toInt32).toInt8.toInt32)), (.int (6 : Int32)), (.ref ar)])) rfl rfl (hb hby at_81)
  have Z24 := Nat.le_trans Z21 (Keep.of_wr W23).1
  have N25 := Fr.snoc X23 N22 g_ar
  have V_ar := V23
  obtain ⟨T26, h26, X26, e26, W26, V26, st26⟩ := own_stB X23 hx hZ e23 V_ar (j := (7 : Int32)) (by decide) (k := 7) rfl (by decide) (g := (mkF m 92 #[.val (.long a1), .second, .val (.int a2), .val (.int (Int32.ofNat pn)), .val (.ref ar), .unset, .unset, .unset, .unset, .unset, .unset, .unset, .unset, .unset, .unset, .unset] [(.int ((((a1.toUInt64 >>> ((56 : Int32) &&& 0x3f).toInt64.toUInt64).toInt64).toInt32).toInt8.toInt32)), (.int (7 : Int32)), (.ref ar)])) rfl rfl (hb hby at_92)
  have Z27 := Nat.le_trans Z24 (Keep.of_wr W26).1
  have N28 := Fr.snoc X26 N25 g_ar
  have V_ar := V26
  have V_ar : own_AF Z h26 ar .byte 8 (fun i => .int ((own_byte a1) i)) := V_ar.congr (fun i hi => by
    rcases i with _ | _ | _ | _ | _ | _ | _ | _ | i
    · exact congrArg Value.int ((own_bb _).trans (own_b0 a1).symm)
    · exact congrArg Value.int (own_bb _)
    · exact congrArg Value.int (own_bb _)
    · exact congrArg Value.int (own_bb _)
    · exact congrArg Value.int (own_bb _)
    · exact congrArg Value.int (own_bb _)
    · exact congrArg Value.int (own_bb _)
    · exact congrArg Value.int (own_bb _)
    · omega)
  obtain ⟨_, _, ⟨T29, L29, k29, n29⟩, -, X29, ⟨Lc29, hQ29, l29, y29, z29⟩, st29⟩ := Jvm.LawKit.callS X26 hx (y := (⟨"com/example/ulebb/ulebb/dex/CursorUleb128PinLaw", "b", "(JI)I"⟩ : MethodName)) hown (mvT hZ (hw _ (List.mem_of_getElem? (i := 1) rfl))) (mvT hZ (hw _ (List.mem_of_getElem? (i := 2) rfl))) (mvT hZ (hw _ (List.mem_of_getElem? (i := 3) rfl))) (mvT hZ (hw _ (List.mem_of_getElem? (i := 4) rfl))) (by decide) (backOf (W := 0) (own_rm1 l Z a0 hw [] a1 (Int32.ofNat pn) h26 n0 Z27 ) hZ (hw _ (List.mem_of_getElem? (i := 4) rfl)) (hw _ (List.mem_of_getElem? (i := 3) rfl)) (by decide) (by decide)) (g := (mkF m 95 #[.val (.long a1), .second, .val (.int a2), .val (.int (Int32.ofNat pn)), .val (.ref ar), .unset, .unset, .unset, .unset, .unset, .unset, .unset, .unset, .unset, .unset, .unset] [(.int (Int32.ofNat pn)), (.long a1)])) rfl (by rw [hml]; rfl) (argsL := [(.long a1), (.int (Int32.ofNat pn))]) (rest := []) (lenOf own_pd0 rfl) rfl (by show 2 * 0 + _ ≤ _; exact Nat.le_of_eq rfl) (hb hby at_95) (fun _ _ => ⟨rfl, e26, (by decide : 1 + 0 ≤ _), (by decide : 8 + 0 ≤ _)⟩)
  dsimp only [Pt.U, Pt.locs, Pt.cells, Pt.slots] at X29 l29 y29 z29 st29 hQ29
  subst l29 y29 z29
  obtain ⟨rfl, Nq29, eq29⟩ := hQ29
  have N29 := Fr.app N28 Nq29
  have pre30 : ∀ t, Steps p.tables e below (T29.setTop (mkF m 98 #[.val (.long a1), .second, .val (.int a2), .val (.int (Int32.ofNat pn)), .val (.ref ar), .unset, .unset, .unset, .unset, .unset, .unset, .unset, .unset, .unset, .unset, .unset] [(.int (own_b a1 (Int32.ofNat pn)))])) t → Steps p.tables e below (s₁.setTop (entryFrame m #[(.long a1), (.int a2)] maxLocals)) t := by
    intro t kt
    refine pre2 t ?_
    show Steps p.tables e below (s₁.setTop (mkF m 8 #[.val (.long a1), .second, .val (.int a2), .val (.int (Int32.ofNat pn)), .unset, .unset, .unset, .unset, .unset, .unset, .unset, .unset, .unset, .unset, .unset, .unset] [])) _
    refine XS.bipush X0.here hx rfl (hb hby at_8) ?_
    show Steps p.tables e below (s₁.setTop (mkF m 10 #[.val (.long a1), .second, .val (.int a2), .val (.int (Int32.ofNat pn)), .unset, .unset, .unset, .unset, .unset, .unset, .unset, .unset, .unset, .unset, .unset, .unset] [(.int (8 : Int32))])) _
    refine st3 _ ?_
    show Steps p.tables e below (T3.setTop (mkF m 12 #[.val (.long a1), .second, .val (.int a2), .val (.int (Int32.ofNat pn)), .unset, .unset, .unset, .unset, .unset, .unset, .unset, .unset, .unset, .unset, .unset, .unset] [(.ref ar)])) _
    refine XS.astore X3.here hx rfl (hb hby at_12) rfl rfl (l' := #[.val (.long a1), .second, .val (.int a2), .val (.int (Int32.ofNat pn)), .val (.ref ar), .unset, .unset, .unset, .unset, .unset, .unset, .unset, .unset, .unset, .unset, .unset]) rfl ?_
    show Steps p.tables e below (T3.setTop (mkF m 14 #[.val (.long a1), .second, .val (.int a2), .val (.int (Int32.ofNat pn)), .val (.ref ar), .unset, .unset, .unset, .unset, .unset, .unset, .unset, .unset, .unset, .unset, .unset] [])) _
    refine XS.aload X3.here hx rfl (hb hby at_14) rfl rfl ?_
    show Steps p.tables e below (T3.setTop (mkF m 16 #[.val (.long a1), .second, .val (.int a2), .val (.int (Int32.ofNat pn)), .val (.ref ar), .unset, .unset, .unset, .unset, .unset, .unset, .unset, .unset, .unset, .unset, .unset] [(.ref ar)])) _
    refine XS.iconst X3.here hx rfl (hb hby at_16) ?_
    show Steps p.tables e below (T3.setTop (mkF m 17 #[.val (.long a1), .second, .val (.int a2), .val (.int (Int32.ofNat pn)), .val (.ref ar), .unset, .unset, .unset, .unset, .unset, .unset, .unset, .unset, .unset, .unset, .unset] [(.int (0 : Int32)), (.ref ar)])) _
    refine XS.lloadN X3.here hx rfl (hb hby at_17) rfl ?_
    show Steps p.tables e below (T3.setTop (mkF m 18 #[.val (.long a1), .second, .val (.int a2), .val (.int (Int32.ofNat pn)), .val (.ref ar), .unset, .unset, .unset, .unset, .unset, .unset, .unset, .unset, .unset, .unset, .unset] [(.long a1), (.int (0 : Int32)), (.ref ar)])) _
    refine XS.l2i X3.here hx rfl (hb hby at_18) rfl ?_
    show Steps p.tables e below (T3.setTop (mkF m 19 #[.val (.long a1), .second, .val (.int a2), .val (.int (Int32.ofNat pn)), .val (.ref ar), .unset, .unset, .unset, .unset, .unset, .unset, .unset, .unset, .unset, .unset, .unset] [(.int (a1.toInt32)), (.int (0 : Int32)), (.ref ar)])) _
    refine XS.i2b X3.here hx rfl (hb hby at_19) rfl ?_
    show Steps p.tables e below (T3.setTop (mkF m 20 #[.val (.long a1), .second, .val (.int a2), .val (.int (Int32.ofNat pn)), .val (.ref ar), .unset, .unset, .unset, .unset, .unset, .unset, .unset, .unset, .unset, .unset, .unset] [(.int ((a1.toInt32).toInt8.toInt32)), (.int (0 : Int32)), (.ref ar)])) _
    refine st5 _ ?_
    show Steps p.tables e below (T5.setTop (mkF m 21 #[.val (.long a1), .second, .val (.int a2), .val (.int (Int32.ofNat pn)), .val (.ref ar), .unset, .unset, .unset, .unset, .unset, .unset, .unset, .unset, .unset, .unset, .unset] [])) _
    refine XS.aload X5.here hx rfl (hb hby at_21) rfl rfl ?_
    show Steps p.tables e below (T5.setTop (mkF m 23 #[.val (.long a1), .second, .val (.int a2), .val (.int (Int32.ofNat pn)), .val (.ref ar), .unset, .unset, .unset, .unset, .unset, .unset, .unset, .unset, .unset, .unset, .unset] [(.ref ar)])) _
    refine XS.iconst X5.here hx rfl (hb hby at_23) ?_
    show Steps p.tables e below (T5.setTop (mkF m 24 #[.val (.long a1), .second, .val (.int a2), .val (.int (Int32.ofNat pn)), .val (.ref ar), .unset, .unset, .unset, .unset, .unset, .unset, .unset, .unset, .unset, .unset, .unset] [(.int (1 : Int32)), (.ref ar)])) _
    refine XS.lloadN X5.here hx rfl (hb hby at_24) rfl ?_
    show Steps p.tables e below (T5.setTop (mkF m 25 #[.val (.long a1), .second, .val (.int a2), .val (.int (Int32.ofNat pn)), .val (.ref ar), .unset, .unset, .unset, .unset, .unset, .unset, .unset, .unset, .unset, .unset, .unset] [(.long a1), (.int (1 : Int32)), (.ref ar)])) _
    refine XS.bipush X5.here hx rfl (hb hby at_25) ?_
    show Steps p.tables e below (T5.setTop (mkF m 27 #[.val (.long a1), .second, .val (.int a2), .val (.int (Int32.ofNat pn)), .val (.ref ar), .unset, .unset, .unset, .unset, .unset, .unset, .unset, .unset, .unset, .unset, .unset] [(.int (8 : Int32)), (.long a1), (.int (1 : Int32)), (.ref ar)])) _
    refine XS.lushr X5.here hx rfl (hb hby at_27) rfl ?_
    show Steps p.tables e below (T5.setTop (mkF m 28 #[.val (.long a1), .second, .val (.int a2), .val (.int (Int32.ofNat pn)), .val (.ref ar), .unset, .unset, .unset, .unset, .unset, .unset, .unset, .unset, .unset, .unset, .unset] [(.long ((a1.toUInt64 >>> ((8 : Int32) &&& 0x3f).toInt64.toUInt64).toInt64)), (.int (1 : Int32)), (.ref ar)])) _
    refine XS.l2i X5.here hx rfl (hb hby at_28) rfl ?_
    show Steps p.tables e below (T5.setTop (mkF m 29 #[.val (.long a1), .second, .val (.int a2), .val (.int (Int32.ofNat pn)), .val (.ref ar), .unset, .unset, .unset, .unset, .unset, .unset, .unset, .unset, .unset, .unset, .unset] [(.int (((a1.toUInt64 >>> ((8 : Int32) &&& 0x3f).toInt64.toUInt64).toInt64).toInt32)), (.int (1 : Int32)), (.ref ar)])) _
    refine XS.i2b X5.here hx rfl (hb hby at_29) rfl ?_
    show Steps p.tables e below (T5.setTop (mkF m 30 #[.val (.long a1), .second, .val (.int a2), .val (.int (Int32.ofNat pn)), .val (.ref ar), .unset, .unset, .unset, .unset, .unset, .unset, .unset, .unset, .unset, .unset, .unset] [(.int ((((a1.toUInt64 >>> ((8 : Int32) &&& 0x3f).toInt64.toUInt64).toInt64).toInt32).toInt8.toInt32)), (.int (1 : Int32)), (.ref ar)])) _
    refine st8 _ ?_
    show Steps p.tables e below (T8.setTop (mkF m 31 #[.val (.long a1), .second, .val (.int a2), .val (.int (Int32.ofNat pn)), .val (.ref ar), .unset, .unset, .unset, .unset, .unset, .unset, .unset, .unset, .unset, .unset, .unset] [])) _
    refine XS.aload X8.here hx rfl (hb hby at_31) rfl rfl ?_
    show Steps p.tables e below (T8.setTop (mkF m 33 #[.val (.long a1), .second, .val (.int a2), .val (.int (Int32.ofNat pn)), .val (.ref ar), .unset, .unset, .unset, .unset, .unset, .unset, .unset, .unset, .unset, .unset, .unset] [(.ref ar)])) _
    refine XS.iconst X8.here hx rfl (hb hby at_33) ?_
    show Steps p.tables e below (T8.setTop (mkF m 34 #[.val (.long a1), .second, .val (.int a2), .val (.int (Int32.ofNat pn)), .val (.ref ar), .unset, .unset, .unset, .unset, .unset, .unset, .unset, .unset, .unset, .unset, .unset] [(.int (2 : Int32)), (.ref ar)])) _
    refine XS.lloadN X8.here hx rfl (hb hby at_34) rfl ?_
    show Steps p.tables e below (T8.setTop (mkF m 35 #[.val (.long a1), .second, .val (.int a2), .val (.int (Int32.ofNat pn)), .val (.ref ar), .unset, .unset, .unset, .unset, .unset, .unset, .unset, .unset, .unset, .unset, .unset] [(.long a1), (.int (2 : Int32)), (.ref ar)])) _
    refine XS.bipush X8.here hx rfl (hb hby at_35) ?_
    show Steps p.tables e below (T8.setTop (mkF m 37 #[.val (.long a1), .second, .val (.int a2), .val (.int (Int32.ofNat pn)), .val (.ref ar), .unset, .unset, .unset, .unset, .unset, .unset, .unset, .unset, .unset, .unset, .unset] [(.int (16 : Int32)), (.long a1), (.int (2 : Int32)), (.ref ar)])) _
    refine XS.lushr X8.here hx rfl (hb hby at_37) rfl ?_
    show Steps p.tables e below (T8.setTop (mkF m 38 #[.val (.long a1), .second, .val (.int a2), .val (.int (Int32.ofNat pn)), .val (.ref ar), .unset, .unset, .unset, .unset, .unset, .unset, .unset, .unset, .unset, .unset, .unset] [(.long ((a1.toUInt64 >>> ((16 : Int32) &&& 0x3f).toInt64.toUInt64).toInt64)), (.int (2 : Int32)), (.ref ar)])) _
    refine XS.l2i X8.here hx rfl (hb hby at_38) rfl ?_
    show Steps p.tables e below (T8.setTop (mkF m 39 #[.val (.long a1), .second, .val (.int a2), .val (.int (Int32.ofNat pn)), .val (.ref ar), .unset, .unset, .unset, .unset, .unset, .unset, .unset, .unset, .unset, .unset, .unset] [(.int (((a1.toUInt64 >>> ((16 : Int32) &&& 0x3f).toInt64.toUInt64).toInt64).toInt32)), (.int (2 : Int32)), (.ref ar)])) _
    refine XS.i2b X8.here hx rfl (hb hby at_39) rfl ?_
    show Steps p.tables e below (T8.setTop (mkF m 40 #[.val (.long a1), .second, .val (.int a2), .val (.int (Int32.ofNat pn)), .val (.ref ar), .unset, .unset, .unset, .unset, .unset, .unset, .unset, .unset, .unset, .unset, .unset] [(.int ((((a1.toUInt64 >>> ((16 : Int32) &&& 0x3f).toInt64.toUInt64).toInt64).toInt32).toInt8.toInt32)), (.int (2 : Int32)), (.ref ar)])) _
    refine st11 _ ?_
    show Steps p.tables e below (T11.setTop (mkF m 41 #[.val (.long a1), .second, .val (.int a2), .val (.int (Int32.ofNat pn)), .val (.ref ar), .unset, .unset, .unset, .unset, .unset, .unset, .unset, .unset, .unset, .unset, .unset] [])) _
    refine XS.aload X11.here hx rfl (hb hby at_41) rfl rfl ?_
    show Steps p.tables e below (T11.setTop (mkF m 43 #[.val (.long a1), .second, .val (.int a2), .val (.int (Int32.ofNat pn)), .val (.ref ar), .unset, .unset, .unset, .unset, .unset, .unset, .unset, .unset, .unset, .unset, .unset] [(.ref ar)])) _
    refine XS.iconst X11.here hx rfl (hb hby at_43) ?_
    show Steps p.tables e below (T11.setTop (mkF m 44 #[.val (.long a1), .second, .val (.int a2), .val (.int (Int32.ofNat pn)), .val (.ref ar), .unset, .unset, .unset, .unset, .unset, .unset, .unset, .unset, .unset, .unset, .unset] [(.int (3 : Int32)), (.ref ar)])) _
    refine XS.lloadN X11.here hx rfl (hb hby at_44) rfl ?_
    show Steps p.tables e below (T11.setTop (mkF m 45 #[.val (.long a1), .second, .val (.int a2), .val (.int (Int32.ofNat pn)), .val (.ref ar), .unset, .unset, .unset, .unset, .unset, .unset, .unset, .unset, .unset, .unset, .unset] [(.long a1), (.int (3 : Int32)), (.ref ar)])) _
    refine XS.bipush X11.here hx rfl (hb hby at_45) ?_
    show Steps p.tables e below (T11.setTop (mkF m 47 #[.val (.long a1), .second, .val (.int a2), .val (.int (Int32.ofNat pn)), .val (.ref ar), .unset, .unset, .unset, .unset, .unset, .unset, .unset, .unset, .unset, .unset, .unset] [(.int (24 : Int32)), (.long a1), (.int (3 : Int32)), (.ref ar)])) _
    refine XS.lushr X11.here hx rfl (hb hby at_47) rfl ?_
    show Steps p.tables e below (T11.setTop (mkF m 48 #[.val (.long a1), .second, .val (.int a2), .val (.int (Int32.ofNat pn)), .val (.ref ar), .unset, .unset, .unset, .unset, .unset, .unset, .unset, .unset, .unset, .unset, .unset] [(.long ((a1.toUInt64 >>> ((24 : Int32) &&& 0x3f).toInt64.toUInt64).toInt64)), (.int (3 : Int32)), (.ref ar)])) _
    refine XS.l2i X11.here hx rfl (hb hby at_48) rfl ?_
    show Steps p.tables e below (T11.setTop (mkF m 49 #[.val (.long a1), .second, .val (.int a2), .val (.int (Int32.ofNat pn)), .val (.ref ar), .unset, .unset, .unset, .unset, .unset, .unset, .unset, .unset, .unset, .unset, .unset] [(.int (((a1.toUInt64 >>> ((24 : Int32) &&& 0x3f).toInt64.toUInt64).toInt64).toInt32)), (.int (3 : Int32)), (.ref ar)])) _
    refine XS.i2b X11.here hx rfl (hb hby at_49) rfl ?_
    show Steps p.tables e below (T11.setTop (mkF m 50 #[.val (.long a1), .second, .val (.int a2), .val (.int (Int32.ofNat pn)), .val (.ref ar), .unset, .unset, .unset, .unset, .unset, .unset, .unset, .unset, .unset, .unset, .unset] [(.int ((((a1.toUInt64 >>> ((24 : Int32) &&& 0x3f).toInt64.toUInt64).toInt64).toInt32).toInt8.toInt32)), (.int (3 : Int32)), (.ref ar)])) _
    refine st14 _ ?_
    show Steps p.tables e below (T14.setTop (mkF m 51 #[.val (.long a1), .second, .val (.int a2), .val (.int (Int32.ofNat pn)), .val (.ref ar), .unset, .unset, .unset, .unset, .unset, .unset, .unset, .unset, .unset, .unset, .unset] [])) _
    refine XS.aload X14.here hx rfl (hb hby at_51) rfl rfl ?_
    show Steps p.tables e below (T14.setTop (mkF m 53 #[.val (.long a1), .second, .val (.int a2), .val (.int (Int32.ofNat pn)), .val (.ref ar), .unset, .unset, .unset, .unset, .unset, .unset, .unset, .unset, .unset, .unset, .unset] [(.ref ar)])) _
    refine XS.iconst X14.here hx rfl (hb hby at_53) ?_
    show Steps p.tables e below (T14.setTop (mkF m 54 #[.val (.long a1), .second, .val (.int a2), .val (.int (Int32.ofNat pn)), .val (.ref ar), .unset, .unset, .unset, .unset, .unset, .unset, .unset, .unset, .unset, .unset, .unset] [(.int (4 : Int32)), (.ref ar)])) _
    refine XS.lloadN X14.here hx rfl (hb hby at_54) rfl ?_
    show Steps p.tables e below (T14.setTop (mkF m 55 #[.val (.long a1), .second, .val (.int a2), .val (.int (Int32.ofNat pn)), .val (.ref ar), .unset, .unset, .unset, .unset, .unset, .unset, .unset, .unset, .unset, .unset, .unset] [(.long a1), (.int (4 : Int32)), (.ref ar)])) _
    refine XS.bipush X14.here hx rfl (hb hby at_55) ?_
    show Steps p.tables e below (T14.setTop (mkF m 57 #[.val (.long a1), .second, .val (.int a2), .val (.int (Int32.ofNat pn)), .val (.ref ar), .unset, .unset, .unset, .unset, .unset, .unset, .unset, .unset, .unset, .unset, .unset] [(.int (32 : Int32)), (.long a1), (.int (4 : Int32)), (.ref ar)])) _
    refine XS.lushr X14.here hx rfl (hb hby at_57) rfl ?_
    show Steps p.tables e below (T14.setTop (mkF m 58 #[.val (.long a1), .second, .val (.int a2), .val (.int (Int32.ofNat pn)), .val (.ref ar), .unset, .unset, .unset, .unset, .unset, .unset, .unset, .unset, .unset, .unset, .unset] [(.long ((a1.toUInt64 >>> ((32 : Int32) &&& 0x3f).toInt64.toUInt64).toInt64)), (.int (4 : Int32)), (.ref ar)])) _
    refine XS.l2i X14.here hx rfl (hb hby at_58) rfl ?_
    show Steps p.tables e below (T14.setTop (mkF m 59 #[.val (.long a1), .second, .val (.int a2), .val (.int (Int32.ofNat pn)), .val (.ref ar), .unset, .unset, .unset, .unset, .unset, .unset, .unset, .unset, .unset, .unset, .unset] [(.int (((a1.toUInt64 >>> ((32 : Int32) &&& 0x3f).toInt64.toUInt64).toInt64).toInt32)), (.int (4 : Int32)), (.ref ar)])) _
    refine XS.i2b X14.here hx rfl (hb hby at_59) rfl ?_
    show Steps p.tables e below (T14.setTop (mkF m 60 #[.val (.long a1), .second, .val (.int a2), .val (.int (Int32.ofNat pn)), .val (.ref ar), .unset, .unset, .unset, .unset, .unset, .unset, .unset, .unset, .unset, .unset, .unset] [(.int ((((a1.toUInt64 >>> ((32 : Int32) &&& 0x3f).toInt64.toUInt64).toInt64).toInt32).toInt8.toInt32)), (.int (4 : Int32)), (.ref ar)])) _
    refine st17 _ ?_
    show Steps p.tables e below (T17.setTop (mkF m 61 #[.val (.long a1), .second, .val (.int a2), .val (.int (Int32.ofNat pn)), .val (.ref ar), .unset, .unset, .unset, .unset, .unset, .unset, .unset, .unset, .unset, .unset, .unset] [])) _
    refine XS.aload X17.here hx rfl (hb hby at_61) rfl rfl ?_
    show Steps p.tables e below (T17.setTop (mkF m 63 #[.val (.long a1), .second, .val (.int a2), .val (.int (Int32.ofNat pn)), .val (.ref ar), .unset, .unset, .unset, .unset, .unset, .unset, .unset, .unset, .unset, .unset, .unset] [(.ref ar)])) _
    refine XS.iconst X17.here hx rfl (hb hby at_63) ?_
    show Steps p.tables e below (T17.setTop (mkF m 64 #[.val (.long a1), .second, .val (.int a2), .val (.int (Int32.ofNat pn)), .val (.ref ar), .unset, .unset, .unset, .unset, .unset, .unset, .unset, .unset, .unset, .unset, .unset] [(.int (5 : Int32)), (.ref ar)])) _
    refine XS.lloadN X17.here hx rfl (hb hby at_64) rfl ?_
    show Steps p.tables e below (T17.setTop (mkF m 65 #[.val (.long a1), .second, .val (.int a2), .val (.int (Int32.ofNat pn)), .val (.ref ar), .unset, .unset, .unset, .unset, .unset, .unset, .unset, .unset, .unset, .unset, .unset] [(.long a1), (.int (5 : Int32)), (.ref ar)])) _
    refine XS.bipush X17.here hx rfl (hb hby at_65) ?_
    show Steps p.tables e below (T17.setTop (mkF m 67 #[.val (.long a1), .second, .val (.int a2), .val (.int (Int32.ofNat pn)), .val (.ref ar), .unset, .unset, .unset, .unset, .unset, .unset, .unset, .unset, .unset, .unset, .unset] [(.int (40 : Int32)), (.long a1), (.int (5 : Int32)), (.ref ar)])) _
    refine XS.lushr X17.here hx rfl (hb hby at_67) rfl ?_
    show Steps p.tables e below (T17.setTop (mkF m 68 #[.val (.long a1), .second, .val (.int a2), .val (.int (Int32.ofNat pn)), .val (.ref ar), .unset, .unset, .unset, .unset, .unset, .unset, .unset, .unset, .unset, .unset, .unset] [(.long ((a1.toUInt64 >>> ((40 : Int32) &&& 0x3f).toInt64.toUInt64).toInt64)), (.int (5 : Int32)), (.ref ar)])) _
    refine XS.l2i X17.here hx rfl (hb hby at_68) rfl ?_
    show Steps p.tables e below (T17.setTop (mkF m 69 #[.val (.long a1), .second, .val (.int a2), .val (.int (Int32.ofNat pn)), .val (.ref ar), .unset, .unset, .unset, .unset, .unset, .unset, .unset, .unset, .unset, .unset, .unset] [(.int (((a1.toUInt64 >>> ((40 : Int32) &&& 0x3f).toInt64.toUInt64).toInt64).toInt32)), (.int (5 : Int32)), (.ref ar)])) _
    refine XS.i2b X17.here hx rfl (hb hby at_69) rfl ?_
    show Steps p.tables e below (T17.setTop (mkF m 70 #[.val (.long a1), .second, .val (.int a2), .val (.int (Int32.ofNat pn)), .val (.ref ar), .unset, .unset, .unset, .unset, .unset, .unset, .unset, .unset, .unset, .unset, .unset] [(.int ((((a1.toUInt64 >>> ((40 : Int32) &&& 0x3f).toInt64.toUInt64).toInt64).toInt32).toInt8.toInt32)), (.int (5 : Int32)), (.ref ar)])) _
    refine st20 _ ?_
    show Steps p.tables e below (T20.setTop (mkF m 71 #[.val (.long a1), .second, .val (.int a2), .val (.int (Int32.ofNat pn)), .val (.ref ar), .unset, .unset, .unset, .unset, .unset, .unset, .unset, .unset, .unset, .unset, .unset] [])) _
    refine XS.aload X20.here hx rfl (hb hby at_71) rfl rfl ?_
    show Steps p.tables e below (T20.setTop (mkF m 73 #[.val (.long a1), .second, .val (.int a2), .val (.int (Int32.ofNat pn)), .val (.ref ar), .unset, .unset, .unset, .unset, .unset, .unset, .unset, .unset, .unset, .unset, .unset] [(.ref ar)])) _
    refine XS.bipush X20.here hx rfl (hb hby at_73) ?_
    show Steps p.tables e below (T20.setTop (mkF m 75 #[.val (.long a1), .second, .val (.int a2), .val (.int (Int32.ofNat pn)), .val (.ref ar), .unset, .unset, .unset, .unset, .unset, .unset, .unset, .unset, .unset, .unset, .unset] [(.int (6 : Int32)), (.ref ar)])) _
    refine XS.lloadN X20.here hx rfl (hb hby at_75) rfl ?_
    show Steps p.tables e below (T20.setTop (mkF m 76 #[.val (.long a1), .second, .val (.int a2), .val (.int (Int32.ofNat pn)), .val (.ref ar), .unset, .unset, .unset, .unset, .unset, .unset, .unset, .unset, .unset, .unset, .unset] [(.long a1), (.int (6 : Int32)), (.ref ar)])) _
    refine XS.bipush X20.here hx rfl (hb hby at_76) ?_
    show Steps p.tables e below (T20.setTop (mkF m 78 #[.val (.long a1), .second, .val (.int a2), .val (.int (Int32.ofNat pn)), .val (.ref ar), .unset, .unset, .unset, .unset, .unset, .unset, .unset, .unset, .unset, .unset, .unset] [(.int (48 : Int32)), (.long a1), (.int (6 : Int32)), (.ref ar)])) _
    refine XS.lushr X20.here hx rfl (hb hby at_78) rfl ?_
    show Steps p.tables e below (T20.setTop (mkF m 79 #[.val (.long a1), .second, .val (.int a2), .val (.int (Int32.ofNat pn)), .val (.ref ar), .unset, .unset, .unset, .unset, .unset, .unset, .unset, .unset, .unset, .unset, .unset] [(.long ((a1.toUInt64 >>> ((48 : Int32) &&& 0x3f).toInt64.toUInt64).toInt64)), (.int (6 : Int32)), (.ref ar)])) _
    refine XS.l2i X20.here hx rfl (hb hby at_79) rfl ?_
    show Steps p.tables e below (T20.setTop (mkF m 80 #[.val (.long a1), .second, .val (.int a2), .val (.int (Int32.ofNat pn)), .val (.ref ar), .unset, .unset, .unset, .unset, .unset, .unset, .unset, .unset, .unset, .unset, .unset] [(.int (((a1.toUInt64 >>> ((48 : Int32) &&& 0x3f).toInt64.toUInt64).toInt64).toInt32)), (.int (6 : Int32)), (.ref ar)])) _
    refine XS.i2b X20.here hx rfl (hb hby at_80) rfl ?_
    show Steps p.tables e below (T20.setTop (mkF m 81 #[.val (.long a1), .second, .val (.int a2), .val (.int (Int32.ofNat pn)), .val (.ref ar), .unset, .unset, .unset, .unset, .unset, .unset, .unset, .unset, .unset, .unset, .unset] [(.int ((((a1.toUInt64 >>> ((48 : Int32) &&& 0x3f).toInt64.toUInt64).toInt64).toInt32).toInt8.toInt32)), (.int (6 : Int32)), (.ref ar)])) _
    refine st23 _ ?_
    show Steps p.tables e below (T23.setTop (mkF m 82 #[.val (.long a1), .second, .val (.int a2), .val (.int (Int32.ofNat pn)), .val (.ref ar), .unset, .unset, .unset, .unset, .unset, .unset, .unset, .unset, .unset, .unset, .unset] [])) _
    refine XS.aload X23.here hx rfl (hb hby at_82) rfl rfl ?_
    show Steps p.tables e below (T23.setTop (mkF m 84 #[.val (.long a1), .second, .val (.int a2), .val (.int (Int32.ofNat pn)), .val (.ref ar), .unset, .unset, .unset, .unset, .unset, .unset, .unset, .unset, .unset, .unset, .unset] [(.ref ar)])) _
    refine XS.bipush X23.here hx rfl (hb hby at_84) ?_
    show Steps p.tables e below (T23.setTop (mkF m 86 #[.val (.long a1), .second, .val (.int a2), .val (.int (Int32.ofNat pn)), .val (.ref ar), .unset, .unset, .unset, .unset, .unset, .unset, .unset, .unset, .unset, .unset, .unset] [(.int (7 : Int32)), (.ref ar)])) _
    refine XS.lloadN X23.here hx rfl (hb hby at_86) rfl ?_
    show Steps p.tables e below (T23.setTop (mkF m 87 #[.val (.long a1), .second, .val (.int a2), .val (.int (Int32.ofNat pn)), .val (.ref ar), .unset, .unset, .unset, .unset, .unset, .unset, .unset, .unset, .unset, .unset, .unset] [(.long a1), (.int (7 : Int32)), (.ref ar)])) _
    refine XS.bipush X23.here hx rfl (hb hby at_87) ?_
    show Steps p.tables e below (T23.setTop (mkF m 89 #[.val (.long a1), .second, .val (.int a2), .val (.int (Int32.ofNat pn)), .val (.ref ar), .unset, .unset, .unset, .unset, .unset, .unset, .unset, .unset, .unset, .unset, .unset] [(.int (56 : Int32)), (.long a1), (.int (7 : Int32)), (.ref ar)])) _
    refine XS.lushr X23.here hx rfl (hb hby at_89) rfl ?_
    show Steps p.tables e below (T23.setTop (mkF m 90 #[.val (.long a1), .second, .val (.int a2), .val (.int (Int32.ofNat pn)), .val (.ref ar), .unset, .unset, .unset, .unset, .unset, .unset, .unset, .unset, .unset, .unset, .unset] [(.long ((a1.toUInt64 >>> ((56 : Int32) &&& 0x3f).toInt64.toUInt64).toInt64)), (.int (7 : Int32)), (.ref ar)])) _
    refine XS.l2i X23.here hx rfl (hb hby at_90) rfl ?_
    show Steps p.tables e below (T23.setTop (mkF m 91 #[.val (.long a1), .second, .val (.int a2), .val (.int (Int32.ofNat pn)), .val (.ref ar), .unset, .unset, .unset, .unset, .unset, .unset, .unset, .unset, .unset, .unset, .unset] [(.int (((a1.toUInt64 >>> ((56 : Int32) &&& 0x3f).toInt64.toUInt64).toInt64).toInt32)), (.int (7 : Int32)), (.ref ar)])) _
    refine XS.i2b X23.here hx rfl (hb hby at_91) rfl ?_
    show Steps p.tables e below (T23.setTop (mkF m 92 #[.val (.long a1), .second, .val (.int a2), .val (.int (Int32.ofNat pn)), .val (.ref ar), .unset, .unset, .unset, .unset, .unset, .unset, .unset, .unset, .unset, .unset, .unset] [(.int ((((a1.toUInt64 >>> ((56 : Int32) &&& 0x3f).toInt64.toUInt64).toInt64).toInt32).toInt8.toInt32)), (.int (7 : Int32)), (.ref ar)])) _
    refine st26 _ ?_
    show Steps p.tables e below (T26.setTop (mkF m 93 #[.val (.long a1), .second, .val (.int a2), .val (.int (Int32.ofNat pn)), .val (.ref ar), .unset, .unset, .unset, .unset, .unset, .unset, .unset, .unset, .unset, .unset, .unset] [])) _
    refine XS.lloadN X26.here hx rfl (hb hby at_93) rfl ?_
    show Steps p.tables e below (T26.setTop (mkF m 94 #[.val (.long a1), .second, .val (.int a2), .val (.int (Int32.ofNat pn)), .val (.ref ar), .unset, .unset, .unset, .unset, .unset, .unset, .unset, .unset, .unset, .unset, .unset] [(.long a1)])) _
    refine XS.iloadN X26.here hx rfl (hb hby at_94) rfl ?_
    show Steps p.tables e below (T26.setTop (mkF m 95 #[.val (.long a1), .second, .val (.int a2), .val (.int (Int32.ofNat pn)), .val (.ref ar), .unset, .unset, .unset, .unset, .unset, .unset, .unset, .unset, .unset, .unset, .unset] [(.int (Int32.ofNat pn)), (.long a1)])) _
    refine st29 _ ?_
    exact kt
  have pre31 : ∀ t, Steps p.tables e below (T29.setTop (mkF m 98 #[.val (.long a1), .second, .val (.int a2), .val (.int (Int32.ofNat pn)), .val (.ref ar), .unset, .unset, .unset, .unset, .unset, .unset, .unset, .unset, .unset, .unset, .unset] [(.int (own_bk (own_byte a1) pn 0))])) t → Steps p.tables e below (s₁.setTop (entryFrame m #[(.long a1), (.int a2)] maxLocals)) t := by rw [((own_bbk a1 (by omega)).trans (by rw [show Int32.ofNat pn + Int32.ofNat 0 = Int32.ofNat pn from Int32.add_zero _]) : (own_bk (own_byte a1) pn 0) = (own_b a1 (Int32.ofNat pn)))]; exact pre30
  obtain ⟨c0, hd_c0⟩ : ∃ z : Int32, z = (own_bk (own_byte a1) pn 0) := ⟨_, rfl⟩
  have pre32 : ∀ t, Steps p.tables e below (T29.setTop (mkF m 98 #[.val (.long a1), .second, .val (.int a2), .val (.int (Int32.ofNat pn)), .val (.ref ar), .unset, .unset, .unset, .unset, .unset, .unset, .unset, .unset, .unset, .unset, .unset] [(.int c0)])) t → Steps p.tables e below (s₁.setTop (entryFrame m #[(.long a1), (.int a2)] maxLocals)) t := by rw [hd_c0]; exact pre31
  obtain ⟨_, _, ⟨T33, L33, k33, n33⟩, -, X33, ⟨Lc33, hQ33, l33, y33, z33⟩, st33⟩ := Jvm.LawKit.callS X29 hx (y := (⟨"com/example/ulebb/ulebb/dex/CursorUleb128PinLaw", "b", "(JI)I"⟩ : MethodName)) hown (mvT hZ (hw _ (List.mem_of_getElem? (i := 1) rfl))) (mvT hZ (hw _ (List.mem_of_getElem? (i := 2) rfl))) (mvT hZ (hw _ (List.mem_of_getElem? (i := 3) rfl))) (mvT hZ (hw _ (List.mem_of_getElem? (i := 4) rfl))) (by decide) (backOf (W := 0) (own_rm1 l Z a0 hw [] a1 ((Int32.ofNat pn) + (1 : Int32)) h26 n0 Z27 ) hZ (hw _ (List.mem_of_getElem? (i := 4) rfl)) (hw _ (List.mem_of_getElem? (i := 3) rfl)) (by decide) (by decide)) (g := (mkF m 104 #[.val (.long a1), .second, .val (.int a2), .val (.int (Int32.ofNat pn)), .val (.ref ar), .val (.int c0), .unset, .unset, .unset, .unset, .unset, .unset, .unset, .unset, .unset, .unset] [(.int ((Int32.ofNat pn) + (1 : Int32))), (.long a1)])) rfl (by rw [hml]; rfl) (argsL := [(.long a1), (.int ((Int32.ofNat pn) + (1 : Int32)))]) (rest := []) (lenOf own_pd0 rfl) rfl (by show 2 * 0 + _ ≤ _; exact Nat.le_of_eq rfl) (hb hby at_104) (fun _ _ => ⟨rfl, eq29, (by decide : 1 + 0 ≤ _), (by decide : 8 + 0 ≤ _)⟩)
  dsimp only [Pt.U, Pt.locs, Pt.cells, Pt.slots] at X33 l33 y33 z33 st33 hQ33
  subst l33 y33 z33
  obtain ⟨rfl, Nq33, eq33⟩ := hQ33
  have N33 := Fr.app N29 Nq33
  have pre34 : ∀ t, Steps p.tables e below (T33.setTop (mkF m 107 #[.val (.long a1), .second, .val (.int a2), .val (.int (Int32.ofNat pn)), .val (.ref ar), .val (.int c0), .unset, .unset, .unset, .unset, .unset, .unset, .unset, .unset, .unset, .unset] [(.int (own_b a1 ((Int32.ofNat pn) + (1 : Int32))))])) t → Steps p.tables e below (s₁.setTop (entryFrame m #[(.long a1), (.int a2)] maxLocals)) t := by
    intro t kt
    refine pre32 t ?_
    show Steps p.tables e below (T29.setTop (mkF m 98 #[.val (.long a1), .second, .val (.int a2), .val (.int (Int32.ofNat pn)), .val (.ref ar), .unset, .unset, .unset, .unset, .unset, .unset, .unset, .unset, .unset, .unset, .unset] [(.int c0)])) _
    refine XS.istore X29.here hx rfl (hb hby at_98) rfl (l' := #[.val (.long a1), .second, .val (.int a2), .val (.int (Int32.ofNat pn)), .val (.ref ar), .val (.int c0), .unset, .unset, .unset, .unset, .unset, .unset, .unset, .unset, .unset, .unset]) rfl ?_
    show Steps p.tables e below (T29.setTop (mkF m 100 #[.val (.long a1), .second, .val (.int a2), .val (.int (Int32.ofNat pn)), .val (.ref ar), .val (.int c0), .unset, .unset, .unset, .unset, .unset, .unset, .unset, .unset, .unset, .unset] [])) _
    refine XS.lloadN X29.here hx rfl (hb hby at_100) rfl ?_
    show Steps p.tables e below (T29.setTop (mkF m 101 #[.val (.long a1), .second, .val (.int a2), .val (.int (Int32.ofNat pn)), .val (.ref ar), .val (.int c0), .unset, .unset, .unset, .unset, .unset, .unset, .unset, .unset, .unset, .unset] [(.long a1)])) _
    refine XS.iloadN X29.here hx rfl (hb hby at_101) rfl ?_
    show Steps p.tables e below (T29.setTop (mkF m 102 #[.val (.long a1), .second, .val (.int a2), .val (.int (Int32.ofNat pn)), .val (.ref ar), .val (.int c0), .unset, .unset, .unset, .unset, .unset, .unset, .unset, .unset, .unset, .unset] [(.int (Int32.ofNat pn)), (.long a1)])) _
    refine XS.iconst X29.here hx rfl (hb hby at_102) ?_
    show Steps p.tables e below (T29.setTop (mkF m 103 #[.val (.long a1), .second, .val (.int a2), .val (.int (Int32.ofNat pn)), .val (.ref ar), .val (.int c0), .unset, .unset, .unset, .unset, .unset, .unset, .unset, .unset, .unset, .unset] [(.int (1 : Int32)), (.int (Int32.ofNat pn)), (.long a1)])) _
    refine XS.iadd X29.here hx rfl (hb hby at_103) rfl ?_
    show Steps p.tables e below (T29.setTop (mkF m 104 #[.val (.long a1), .second, .val (.int a2), .val (.int (Int32.ofNat pn)), .val (.ref ar), .val (.int c0), .unset, .unset, .unset, .unset, .unset, .unset, .unset, .unset, .unset, .unset] [(.int ((Int32.ofNat pn) + (1 : Int32))), (.long a1)])) _
    refine st33 _ ?_
    exact kt
  have pre35 : ∀ t, Steps p.tables e below (T33.setTop (mkF m 107 #[.val (.long a1), .second, .val (.int a2), .val (.int (Int32.ofNat pn)), .val (.ref ar), .val (.int c0), .unset, .unset, .unset, .unset, .unset, .unset, .unset, .unset, .unset, .unset] [(.int (own_bk (own_byte a1) pn 1))])) t → Steps p.tables e below (s₁.setTop (entryFrame m #[(.long a1), (.int a2)] maxLocals)) t := by rw [((own_bbk a1 (by omega)).trans (by rfl) : (own_bk (own_byte a1) pn 1) = (own_b a1 ((Int32.ofNat pn) + (1 : Int32))))]; exact pre34
  obtain ⟨c1, hd_c1⟩ : ∃ z : Int32, z = (own_bk (own_byte a1) pn 1) := ⟨_, rfl⟩
  have pre36 : ∀ t, Steps p.tables e below (T33.setTop (mkF m 107 #[.val (.long a1), .second, .val (.int a2), .val (.int (Int32.ofNat pn)), .val (.ref ar), .val (.int c0), .unset, .unset, .unset, .unset, .unset, .unset, .unset, .unset, .unset, .unset] [(.int c1)])) t → Steps p.tables e below (s₁.setTop (entryFrame m #[(.long a1), (.int a2)] maxLocals)) t := by rw [hd_c1]; exact pre35
  obtain ⟨_, _, ⟨T37, L37, k37, n37⟩, -, X37, ⟨Lc37, hQ37, l37, y37, z37⟩, st37⟩ := Jvm.LawKit.callS X33 hx (y := (⟨"com/example/ulebb/ulebb/dex/CursorUleb128PinLaw", "b", "(JI)I"⟩ : MethodName)) hown (mvT hZ (hw _ (List.mem_of_getElem? (i := 1) rfl))) (mvT hZ (hw _ (List.mem_of_getElem? (i := 2) rfl))) (mvT hZ (hw _ (List.mem_of_getElem? (i := 3) rfl))) (mvT hZ (hw _ (List.mem_of_getElem? (i := 4) rfl))) (by decide) (backOf (W := 0) (own_rm1 l Z a0 hw [] a1 ((Int32.ofNat pn) + (2 : Int32)) h26 n0 Z27 ) hZ (hw _ (List.mem_of_getElem? (i := 4) rfl)) (hw _ (List.mem_of_getElem? (i := 3) rfl)) (by decide) (by decide)) (g := (mkF m 113 #[.val (.long a1), .second, .val (.int a2), .val (.int (Int32.ofNat pn)), .val (.ref ar), .val (.int c0), .val (.int c1), .unset, .unset, .unset, .unset, .unset, .unset, .unset, .unset, .unset] [(.int ((Int32.ofNat pn) + (2 : Int32))), (.long a1)])) rfl (by rw [hml]; rfl) (argsL := [(.long a1), (.int ((Int32.ofNat pn) + (2 : Int32)))]) (rest := []) (lenOf own_pd0 rfl) rfl (by show 2 * 0 + _ ≤ _; exact Nat.le_of_eq rfl) (hb hby at_113) (fun _ _ => ⟨rfl, eq33, (by decide : 1 + 0 ≤ _), (by decide : 8 + 0 ≤ _)⟩)
  dsimp only [Pt.U, Pt.locs, Pt.cells, Pt.slots] at X37 l37 y37 z37 st37 hQ37
  subst l37 y37 z37
  obtain ⟨rfl, Nq37, eq37⟩ := hQ37
  have N37 := Fr.app N33 Nq37
  have pre38 : ∀ t, Steps p.tables e below (T37.setTop (mkF m 116 #[.val (.long a1), .second, .val (.int a2), .val (.int (Int32.ofNat pn)), .val (.ref ar), .val (.int c0), .val (.int c1), .unset, .unset, .unset, .unset, .unset, .unset, .unset, .unset, .unset] [(.int (own_b a1 ((Int32.ofNat pn) + (2 : Int32))))])) t → Steps p.tables e below (s₁.setTop (entryFrame m #[(.long a1), (.int a2)] maxLocals)) t := by
    intro t kt
    refine pre36 t ?_
    show Steps p.tables e below (T33.setTop (mkF m 107 #[.val (.long a1), .second, .val (.int a2), .val (.int (Int32.ofNat pn)), .val (.ref ar), .val (.int c0), .unset, .unset, .unset, .unset, .unset, .unset, .unset, .unset, .unset, .unset] [(.int c1)])) _
    refine XS.istore X33.here hx rfl (hb hby at_107) rfl (l' := #[.val (.long a1), .second, .val (.int a2), .val (.int (Int32.ofNat pn)), .val (.ref ar), .val (.int c0), .val (.int c1), .unset, .unset, .unset, .unset, .unset, .unset, .unset, .unset, .unset]) rfl ?_
    show Steps p.tables e below (T33.setTop (mkF m 109 #[.val (.long a1), .second, .val (.int a2), .val (.int (Int32.ofNat pn)), .val (.ref ar), .val (.int c0), .val (.int c1), .unset, .unset, .unset, .unset, .unset, .unset, .unset, .unset, .unset] [])) _
    refine XS.lloadN X33.here hx rfl (hb hby at_109) rfl ?_
    show Steps p.tables e below (T33.setTop (mkF m 110 #[.val (.long a1), .second, .val (.int a2), .val (.int (Int32.ofNat pn)), .val (.ref ar), .val (.int c0), .val (.int c1), .unset, .unset, .unset, .unset, .unset, .unset, .unset, .unset, .unset] [(.long a1)])) _
    refine XS.iloadN X33.here hx rfl (hb hby at_110) rfl ?_
    show Steps p.tables e below (T33.setTop (mkF m 111 #[.val (.long a1), .second, .val (.int a2), .val (.int (Int32.ofNat pn)), .val (.ref ar), .val (.int c0), .val (.int c1), .unset, .unset, .unset, .unset, .unset, .unset, .unset, .unset, .unset] [(.int (Int32.ofNat pn)), (.long a1)])) _
    refine XS.iconst X33.here hx rfl (hb hby at_111) ?_
    show Steps p.tables e below (T33.setTop (mkF m 112 #[.val (.long a1), .second, .val (.int a2), .val (.int (Int32.ofNat pn)), .val (.ref ar), .val (.int c0), .val (.int c1), .unset, .unset, .unset, .unset, .unset, .unset, .unset, .unset, .unset] [(.int (2 : Int32)), (.int (Int32.ofNat pn)), (.long a1)])) _
    refine XS.iadd X33.here hx rfl (hb hby at_112) rfl ?_
    show Steps p.tables e below (T33.setTop (mkF m 113 #[.val (.long a1), .second, .val (.int a2), .val (.int (Int32.ofNat pn)), .val (.ref ar), .val (.int c0), .val (.int c1), .unset, .unset, .unset, .unset, .unset, .unset, .unset, .unset, .unset] [(.int ((Int32.ofNat pn) + (2 : Int32))), (.long a1)])) _
    refine st37 _ ?_
    exact kt
  have pre39 : ∀ t, Steps p.tables e below (T37.setTop (mkF m 116 #[.val (.long a1), .second, .val (.int a2), .val (.int (Int32.ofNat pn)), .val (.ref ar), .val (.int c0), .val (.int c1), .unset, .unset, .unset, .unset, .unset, .unset, .unset, .unset, .unset] [(.int (own_bk (own_byte a1) pn 2))])) t → Steps p.tables e below (s₁.setTop (entryFrame m #[(.long a1), (.int a2)] maxLocals)) t := by rw [((own_bbk a1 (by omega)).trans (by rfl) : (own_bk (own_byte a1) pn 2) = (own_b a1 ((Int32.ofNat pn) + (2 : Int32))))]; exact pre38
  obtain ⟨c2, hd_c2⟩ : ∃ z : Int32, z = (own_bk (own_byte a1) pn 2) := ⟨_, rfl⟩
  have pre40 : ∀ t, Steps p.tables e below (T37.setTop (mkF m 116 #[.val (.long a1), .second, .val (.int a2), .val (.int (Int32.ofNat pn)), .val (.ref ar), .val (.int c0), .val (.int c1), .unset, .unset, .unset, .unset, .unset, .unset, .unset, .unset, .unset] [(.int c2)])) t → Steps p.tables e below (s₁.setTop (entryFrame m #[(.long a1), (.int a2)] maxLocals)) t := by rw [hd_c2]; exact pre39
  obtain ⟨_, _, ⟨T41, L41, k41, n41⟩, -, X41, ⟨Lc41, hQ41, l41, y41, z41⟩, st41⟩ := Jvm.LawKit.callS X37 hx (y := (⟨"com/example/ulebb/ulebb/dex/CursorUleb128PinLaw", "b", "(JI)I"⟩ : MethodName)) hown (mvT hZ (hw _ (List.mem_of_getElem? (i := 1) rfl))) (mvT hZ (hw _ (List.mem_of_getElem? (i := 2) rfl))) (mvT hZ (hw _ (List.mem_of_getElem? (i := 3) rfl))) (mvT hZ (hw _ (List.mem_of_getElem? (i := 4) rfl))) (by decide) (backOf (W := 0) (own_rm1 l Z a0 hw [] a1 ((Int32.ofNat pn) + (3 : Int32)) h26 n0 Z27 ) hZ (hw _ (List.mem_of_getElem? (i := 4) rfl)) (hw _ (List.mem_of_getElem? (i := 3) rfl)) (by decide) (by decide)) (g := (mkF m 122 #[.val (.long a1), .second, .val (.int a2), .val (.int (Int32.ofNat pn)), .val (.ref ar), .val (.int c0), .val (.int c1), .val (.int c2), .unset, .unset, .unset, .unset, .unset, .unset, .unset, .unset] [(.int ((Int32.ofNat pn) + (3 : Int32))), (.long a1)])) rfl (by rw [hml]; rfl) (argsL := [(.long a1), (.int ((Int32.ofNat pn) + (3 : Int32)))]) (rest := []) (lenOf own_pd0 rfl) rfl (by show 2 * 0 + _ ≤ _; exact Nat.le_of_eq rfl) (hb hby at_122) (fun _ _ => ⟨rfl, eq37, (by decide : 1 + 0 ≤ _), (by decide : 8 + 0 ≤ _)⟩)
  dsimp only [Pt.U, Pt.locs, Pt.cells, Pt.slots] at X41 l41 y41 z41 st41 hQ41
  subst l41 y41 z41
  obtain ⟨rfl, Nq41, eq41⟩ := hQ41
  have N41 := Fr.app N37 Nq41
  have pre42 : ∀ t, Steps p.tables e below (T41.setTop (mkF m 125 #[.val (.long a1), .second, .val (.int a2), .val (.int (Int32.ofNat pn)), .val (.ref ar), .val (.int c0), .val (.int c1), .val (.int c2), .unset, .unset, .unset, .unset, .unset, .unset, .unset, .unset] [(.int (own_b a1 ((Int32.ofNat pn) + (3 : Int32))))])) t → Steps p.tables e below (s₁.setTop (entryFrame m #[(.long a1), (.int a2)] maxLocals)) t := by
    intro t kt
    refine pre40 t ?_
    show Steps p.tables e below (T37.setTop (mkF m 116 #[.val (.long a1), .second, .val (.int a2), .val (.int (Int32.ofNat pn)), .val (.ref ar), .val (.int c0), .val (.int c1), .unset, .unset, .unset, .unset, .unset, .unset, .unset, .unset, .unset] [(.int c2)])) _
    refine XS.istore X37.here hx rfl (hb hby at_116) rfl (l' := #[.val (.long a1), .second, .val (.int a2), .val (.int (Int32.ofNat pn)), .val (.ref ar), .val (.int c0), .val (.int c1), .val (.int c2), .unset, .unset, .unset, .unset, .unset, .unset, .unset, .unset]) rfl ?_
    show Steps p.tables e below (T37.setTop (mkF m 118 #[.val (.long a1), .second, .val (.int a2), .val (.int (Int32.ofNat pn)), .val (.ref ar), .val (.int c0), .val (.int c1), .val (.int c2), .unset, .unset, .unset, .unset, .unset, .unset, .unset, .unset] [])) _
    refine XS.lloadN X37.here hx rfl (hb hby at_118) rfl ?_
    show Steps p.tables e below (T37.setTop (mkF m 119 #[.val (.long a1), .second, .val (.int a2), .val (.int (Int32.ofNat pn)), .val (.ref ar), .val (.int c0), .val (.int c1), .val (.int c2), .unset, .unset, .unset, .unset, .unset, .unset, .unset, .unset] [(.long a1)])) _
    refine XS.iloadN X37.here hx rfl (hb hby at_119) rfl ?_
    show Steps p.tables e below (T37.setTop (mkF m 120 #[.val (.long a1), .second, .val (.int a2), .val (.int (Int32.ofNat pn)), .val (.ref ar), .val (.int c0), .val (.int c1), .val (.int c2), .unset, .unset, .unset, .unset, .unset, .unset, .unset, .unset] [(.int (Int32.ofNat pn)), (.long a1)])) _
    refine XS.iconst X37.here hx rfl (hb hby at_120) ?_
    show Steps p.tables e below (T37.setTop (mkF m 121 #[.val (.long a1), .second, .val (.int a2), .val (.int (Int32.ofNat pn)), .val (.ref ar), .val (.int c0), .val (.int c1), .val (.int c2), .unset, .unset, .unset, .unset, .unset, .unset, .unset, .unset] [(.int (3 : Int32)), (.int (Int32.ofNat pn)), (.long a1)])) _
    refine XS.iadd X37.here hx rfl (hb hby at_121) rfl ?_
    show Steps p.tables e below (T37.setTop (mkF m 122 #[.val (.long a1), .second, .val (.int a2), .val (.int (Int32.ofNat pn)), .val (.ref ar), .val (.int c0), .val (.int c1), .val (.int c2), .unset, .unset, .unset, .unset, .unset, .unset, .unset, .unset] [(.int ((Int32.ofNat pn) + (3 : Int32))), (.long a1)])) _
    refine st41 _ ?_
    exact kt
  have pre43 : ∀ t, Steps p.tables e below (T41.setTop (mkF m 125 #[.val (.long a1), .second, .val (.int a2), .val (.int (Int32.ofNat pn)), .val (.ref ar), .val (.int c0), .val (.int c1), .val (.int c2), .unset, .unset, .unset, .unset, .unset, .unset, .unset, .unset] [(.int (own_bk (own_byte a1) pn 3))])) t → Steps p.tables e below (s₁.setTop (entryFrame m #[(.long a1), (.int a2)] maxLocals)) t := by rw [((own_bbk a1 (by omega)).trans (by rfl) : (own_bk (own_byte a1) pn 3) = (own_b a1 ((Int32.ofNat pn) + (3 : Int32))))]; exact pre42
  obtain ⟨c3, hd_c3⟩ : ∃ z : Int32, z = (own_bk (own_byte a1) pn 3) := ⟨_, rfl⟩
  have pre44 : ∀ t, Steps p.tables e below (T41.setTop (mkF m 125 #[.val (.long a1), .second, .val (.int a2), .val (.int (Int32.ofNat pn)), .val (.ref ar), .val (.int c0), .val (.int c1), .val (.int c2), .unset, .unset, .unset, .unset, .unset, .unset, .unset, .unset] [(.int c3)])) t → Steps p.tables e below (s₁.setTop (entryFrame m #[(.long a1), (.int a2)] maxLocals)) t := by rw [hd_c3]; exact pre43
  obtain ⟨_, _, ⟨T45, L45, k45, n45⟩, -, X45, ⟨Lc45, hQ45, l45, y45, z45⟩, st45⟩ := Jvm.LawKit.callS X41 hx (y := (⟨"com/example/ulebb/ulebb/dex/CursorUleb128PinLaw", "b", "(JI)I"⟩ : MethodName)) hown (mvT hZ (hw _ (List.mem_of_getElem? (i := 1) rfl))) (mvT hZ (hw _ (List.mem_of_getElem? (i := 2) rfl))) (mvT hZ (hw _ (List.mem_of_getElem? (i := 3) rfl))) (mvT hZ (hw _ (List.mem_of_getElem? (i := 4) rfl))) (by decide) (backOf (W := 0) (own_rm1 l Z a0 hw [] a1 ((Int32.ofNat pn) + (4 : Int32)) h26 n0 Z27 ) hZ (hw _ (List.mem_of_getElem? (i := 4) rfl)) (hw _ (List.mem_of_getElem? (i := 3) rfl)) (by decide) (by decide)) (g := (mkF m 131 #[.val (.long a1), .second, .val (.int a2), .val (.int (Int32.ofNat pn)), .val (.ref ar), .val (.int c0), .val (.int c1), .val (.int c2), .val (.int c3), .unset, .unset, .unset, .unset, .unset, .unset, .unset] [(.int ((Int32.ofNat pn) + (4 : Int32))), (.long a1)])) rfl (by rw [hml]; rfl) (argsL := [(.long a1), (.int ((Int32.ofNat pn) + (4 : Int32)))]) (rest := []) (lenOf own_pd0 rfl) rfl (by show 2 * 0 + _ ≤ _; exact Nat.le_of_eq rfl) (hb hby at_131) (fun _ _ => ⟨rfl, eq41, (by decide : 1 + 0 ≤ _), (by decide : 8 + 0 ≤ _)⟩)
  dsimp only [Pt.U, Pt.locs, Pt.cells, Pt.slots] at X45 l45 y45 z45 st45 hQ45
  subst l45 y45 z45
  obtain ⟨rfl, Nq45, eq45⟩ := hQ45
  have N45 := Fr.app N41 Nq45
  have pre46 : ∀ t, Steps p.tables e below (T45.setTop (mkF m 134 #[.val (.long a1), .second, .val (.int a2), .val (.int (Int32.ofNat pn)), .val (.ref ar), .val (.int c0), .val (.int c1), .val (.int c2), .val (.int c3), .unset, .unset, .unset, .unset, .unset, .unset, .unset] [(.int (own_b a1 ((Int32.ofNat pn) + (4 : Int32))))])) t → Steps p.tables e below (s₁.setTop (entryFrame m #[(.long a1), (.int a2)] maxLocals)) t := by
    intro t kt
    refine pre44 t ?_
    show Steps p.tables e below (T41.setTop (mkF m 125 #[.val (.long a1), .second, .val (.int a2), .val (.int (Int32.ofNat pn)), .val (.ref ar), .val (.int c0), .val (.int c1), .val (.int c2), .unset, .unset, .unset, .unset, .unset, .unset, .unset, .unset] [(.int c3)])) _
    refine XS.istore X41.here hx rfl (hb hby at_125) rfl (l' := #[.val (.long a1), .second, .val (.int a2), .val (.int (Int32.ofNat pn)), .val (.ref ar), .val (.int c0), .val (.int c1), .val (.int c2), .val (.int c3), .unset, .unset, .unset, .unset, .unset, .unset, .unset]) rfl ?_
    show Steps p.tables e below (T41.setTop (mkF m 127 #[.val (.long a1), .second, .val (.int a2), .val (.int (Int32.ofNat pn)), .val (.ref ar), .val (.int c0), .val (.int c1), .val (.int c2), .val (.int c3), .unset, .unset, .unset, .unset, .unset, .unset, .unset] [])) _
    refine XS.lloadN X41.here hx rfl (hb hby at_127) rfl ?_
    show Steps p.tables e below (T41.setTop (mkF m 128 #[.val (.long a1), .second, .val (.int a2), .val (.int (Int32.ofNat pn)), .val (.ref ar), .val (.int c0), .val (.int c1), .val (.int c2), .val (.int c3), .unset, .unset, .unset, .unset, .unset, .unset, .unset] [(.long a1)])) _
    refine XS.iloadN X41.here hx rfl (hb hby at_128) rfl ?_
    show Steps p.tables e below (T41.setTop (mkF m 129 #[.val (.long a1), .second, .val (.int a2), .val (.int (Int32.ofNat pn)), .val (.ref ar), .val (.int c0), .val (.int c1), .val (.int c2), .val (.int c3), .unset, .unset, .unset, .unset, .unset, .unset, .unset] [(.int (Int32.ofNat pn)), (.long a1)])) _
    refine XS.iconst X41.here hx rfl (hb hby at_129) ?_
    show Steps p.tables e below (T41.setTop (mkF m 130 #[.val (.long a1), .second, .val (.int a2), .val (.int (Int32.ofNat pn)), .val (.ref ar), .val (.int c0), .val (.int c1), .val (.int c2), .val (.int c3), .unset, .unset, .unset, .unset, .unset, .unset, .unset] [(.int (4 : Int32)), (.int (Int32.ofNat pn)), (.long a1)])) _
    refine XS.iadd X41.here hx rfl (hb hby at_130) rfl ?_
    show Steps p.tables e below (T41.setTop (mkF m 131 #[.val (.long a1), .second, .val (.int a2), .val (.int (Int32.ofNat pn)), .val (.ref ar), .val (.int c0), .val (.int c1), .val (.int c2), .val (.int c3), .unset, .unset, .unset, .unset, .unset, .unset, .unset] [(.int ((Int32.ofNat pn) + (4 : Int32))), (.long a1)])) _
    refine st45 _ ?_
    exact kt
  have pre47 : ∀ t, Steps p.tables e below (T45.setTop (mkF m 134 #[.val (.long a1), .second, .val (.int a2), .val (.int (Int32.ofNat pn)), .val (.ref ar), .val (.int c0), .val (.int c1), .val (.int c2), .val (.int c3), .unset, .unset, .unset, .unset, .unset, .unset, .unset] [(.int (own_bk (own_byte a1) pn 4))])) t → Steps p.tables e below (s₁.setTop (entryFrame m #[(.long a1), (.int a2)] maxLocals)) t := by rw [((own_bbk a1 (by omega)).trans (by rfl) : (own_bk (own_byte a1) pn 4) = (own_b a1 ((Int32.ofNat pn) + (4 : Int32))))]; exact pre46
  obtain ⟨c4, hd_c4⟩ : ∃ z : Int32, z = (own_bk (own_byte a1) pn 4) := ⟨_, rfl⟩
  have pre48 : ∀ t, Steps p.tables e below (T45.setTop (mkF m 134 #[.val (.long a1), .second, .val (.int a2), .val (.int (Int32.ofNat pn)), .val (.ref ar), .val (.int c0), .val (.int c1), .val (.int c2), .val (.int c3), .unset, .unset, .unset, .unset, .unset, .unset, .unset] [(.int c4)])) t → Steps p.tables e below (s₁.setTop (entryFrame m #[(.long a1), (.int a2)] maxLocals)) t := by rw [hd_c4]; exact pre47
  have pre49 : ∀ t, Steps p.tables e below (T45.setTop (mkF m 149 #[.val (.long a1), .second, .val (.int a2), .val (.int (Int32.ofNat pn)), .val (.ref ar), .val (.int c0), .val (.int c1), .val (.int c2), .val (.int c3), .val (.int c4), .val (.long (-1 : Int64)), .second, .val (.int (0 : Int32)), .unset, .unset, .unset] [(.int (-1000 : Int32)), (.int c0)])) t → Steps p.tables e below (s₁.setTop (entryFrame m #[(.long a1), (.int a2)] maxLocals)) t := by
    intro t kt
    refine pre48 t ?_
    show Steps p.tables e below (T45.setTop (mkF m 134 #[.val (.long a1), .second, .val (.int a2), .val (.int (Int32.ofNat pn)), .val (.ref ar), .val (.int c0), .val (.int c1), .val (.int c2), .val (.int c3), .unset, .unset, .unset, .unset, .unset, .unset, .unset] [(.int c4)])) _
    refine XS.istore X45.here hx rfl (hb hby at_134) rfl (l' := #[.val (.long a1), .second, .val (.int a2), .val (.int (Int32.ofNat pn)), .val (.ref ar), .val (.int c0), .val (.int c1), .val (.int c2), .val (.int c3), .val (.int c4), .unset, .unset, .unset, .unset, .unset, .unset]) rfl ?_
    show Steps p.tables e below (T45.setTop (mkF m 136 #[.val (.long a1), .second, .val (.int a2), .val (.int (Int32.ofNat pn)), .val (.ref ar), .val (.int c0), .val (.int c1), .val (.int c2), .val (.int c3), .val (.int c4), .unset, .unset, .unset, .unset, .unset, .unset] [])) _
    refine X45.ldc2Long hx hown (mvT hZ (hw _ (List.mem_of_getElem? (i := 5) rfl))) (g := (mkF m 136 #[.val (.long a1), .second, .val (.int a2), .val (.int (Int32.ofNat pn)), .val (.ref ar), .val (.int c0), .val (.int c1), .val (.int c2), .val (.int c3), .val (.int c4), .unset, .unset, .unset, .unset, .unset, .unset] [])) rfl (hb hby at_136) _ ?_
    show Steps p.tables e below (T45.setTop (mkF m 139 #[.val (.long a1), .second, .val (.int a2), .val (.int (Int32.ofNat pn)), .val (.ref ar), .val (.int c0), .val (.int c1), .val (.int c2), .val (.int c3), .val (.int c4), .unset, .unset, .unset, .unset, .unset, .unset] [(.long (-1 : Int64))])) _
    refine XS.lstore X45.here hx rfl (hb hby at_139) rfl (l' := #[.val (.long a1), .second, .val (.int a2), .val (.int (Int32.ofNat pn)), .val (.ref ar), .val (.int c0), .val (.int c1), .val (.int c2), .val (.int c3), .val (.int c4), .val (.long (-1 : Int64)), .second, .unset, .unset, .unset, .unset]) rfl ?_
    show Steps p.tables e below (T45.setTop (mkF m 141 #[.val (.long a1), .second, .val (.int a2), .val (.int (Int32.ofNat pn)), .val (.ref ar), .val (.int c0), .val (.int c1), .val (.int c2), .val (.int c3), .val (.int c4), .val (.long (-1 : Int64)), .second, .unset, .unset, .unset, .unset] [])) _
    refine XS.iconst X45.here hx rfl (hb hby at_141) ?_
    show Steps p.tables e below (T45.setTop (mkF m 142 #[.val (.long a1), .second, .val (.int a2), .val (.int (Int32.ofNat pn)), .val (.ref ar), .val (.int c0), .val (.int c1), .val (.int c2), .val (.int c3), .val (.int c4), .val (.long (-1 : Int64)), .second, .unset, .unset, .unset, .unset] [(.int (0 : Int32))])) _
    refine XS.istore X45.here hx rfl (hb hby at_142) rfl (l' := #[.val (.long a1), .second, .val (.int a2), .val (.int (Int32.ofNat pn)), .val (.ref ar), .val (.int c0), .val (.int c1), .val (.int c2), .val (.int c3), .val (.int c4), .val (.long (-1 : Int64)), .second, .val (.int (0 : Int32)), .unset, .unset, .unset]) rfl ?_
    show Steps p.tables e below (T45.setTop (mkF m 144 #[.val (.long a1), .second, .val (.int a2), .val (.int (Int32.ofNat pn)), .val (.ref ar), .val (.int c0), .val (.int c1), .val (.int c2), .val (.int c3), .val (.int c4), .val (.long (-1 : Int64)), .second, .val (.int (0 : Int32)), .unset, .unset, .unset] [])) _
    refine XS.iload X45.here hx rfl (hb hby at_144) rfl ?_
    show Steps p.tables e below (T45.setTop (mkF m 146 #[.val (.long a1), .second, .val (.int a2), .val (.int (Int32.ofNat pn)), .val (.ref ar), .val (.int c0), .val (.int c1), .val (.int c2), .val (.int c3), .val (.int c4), .val (.long (-1 : Int64)), .second, .val (.int (0 : Int32)), .unset, .unset, .unset] [(.int c0)])) _
    refine XS.sipush X45.here hx rfl (hb hby at_146) ?_
    exact kt
  obtain ⟨T50, Lc50, exv, lnv, X50, e50, N50, hp50, pre50⟩ : ∃ (T50 : State) (Lc50 : List Loc) (exv : Int64) (lnv : Int32), Stand p l e room_1 s m #[(.long a1), (.int a2)] below meth c T50 Lc50 1 8 ∧ T50.heap = h26 ∧ Fr n0 Lc50 ∧ (own_val c0 c1 c2 c3 c4 = exv ∧ own_ln c0 c1 c2 c3 c4 = lnv) ∧ ∀ t, Steps p.tables e below (T50.setTop (mkF m 416 #[.val (.long a1), .second, .val (.int a2), .val (.int (Int32.ofNat pn)), .val (.ref ar), .val (.int c0), .val (.int c1), .val (.int c2), .val (.int c3), .val (.int c4), .val (.long exv), .second, .val (.int lnv), .unset, .unset, .unset] [])) t → Steps p.tables e below (s₁.setTop (entryFrame m #[(.long a1), (.int a2)] maxLocals)) t := by
    by_cases hc149 : c0 = (-1000 : Int32)
    case pos =>
      have pre51 : ∀ t, Steps p.tables e below (T45.setTop (mkF m 416 #[.val (.long a1), .second, .val (.int a2), .val (.int (Int32.ofNat pn)), .val (.ref ar), .val (.int c0), .val (.int c1), .val (.int c2), .val (.int c3), .val (.int c4), .val (.long (-1 : Int64)), .second, .val (.int (0 : Int32)), .unset, .unset, .unset] [])) t → Steps p.tables e below (s₁.setTop (entryFrame m #[(.long a1), (.int a2)] maxLocals)) t := by
        intro t kt
        refine pre49 t ?_
        show Steps p.tables e below (T45.setTop (mkF m 149 #[.val (.long a1), .second, .val (.int a2), .val (.int (Int32.ofNat pn)), .val (.ref ar), .val (.int c0), .val (.int c1), .val (.int c2), .val (.int c3), .val (.int c4), .val (.long (-1 : Int64)), .second, .val (.int (0 : Int32)), .unset, .unset, .unset] [(.int (-1000 : Int32)), (.int c0)])) _
        refine XS.icmpNo X45.here hx rfl (hb hby at_149) rfl (teq hc149).2 ?_
        show Steps p.tables e below (T45.setTop (mkF m 152 #[.val (.long a1), .second, .val (.int a2), .val (.int (Int32.ofNat pn)), .val (.ref ar), .val (.int c0), .val (.int c1), .val (.int c2), .val (.int c3), .val (.int c4), .val (.long (-1 : Int64)), .second, .val (.int (0 : Int32)), .unset, .unset, .unset] [])) _
        refine X45.ldc2Long hx hown (mvT hZ (hw _ (List.mem_of_getElem? (i := 5) rfl))) (g := (mkF m 152 #[.val (.long a1), .second, .val (.int a2), .val (.int (Int32.ofNat pn)), .val (.ref ar), .val (.int c0), .val (.int c1), .val (.int c2), .val (.int c3), .val (.int c4), .val (.long (-1 : Int64)), .second, .val (.int (0 : Int32)), .unset, .unset, .unset] [])) rfl (hb hby at_152) _ ?_
        show Steps p.tables e below (T45.setTop (mkF m 155 #[.val (.long a1), .second, .val (.int a2), .val (.int (Int32.ofNat pn)), .val (.ref ar), .val (.int c0), .val (.int c1), .val (.int c2), .val (.int c3), .val (.int c4), .val (.long (-1 : Int64)), .second, .val (.int (0 : Int32)), .unset, .unset, .unset] [(.long (-1 : Int64))])) _
        refine XS.lstore X45.here hx rfl (hb hby at_155) rfl (l' := #[.val (.long a1), .second, .val (.int a2), .val (.int (Int32.ofNat pn)), .val (.ref ar), .val (.int c0), .val (.int c1), .val (.int c2), .val (.int c3), .val (.int c4), .val (.long (-1 : Int64)), .second, .val (.int (0 : Int32)), .unset, .unset, .unset]) rfl ?_
        show Steps p.tables e below (T45.setTop (mkF m 157 #[.val (.long a1), .second, .val (.int a2), .val (.int (Int32.ofNat pn)), .val (.ref ar), .val (.int c0), .val (.int c1), .val (.int c2), .val (.int c3), .val (.int c4), .val (.long (-1 : Int64)), .second, .val (.int (0 : Int32)), .unset, .unset, .unset] [])) _
        refine XS.goto X45.here hx rfl (pc0 := 157) (pc' := 416) rfl (hb hby at_157) (by decide) (by decide) ?_
        exact kt
      exact ⟨T45, _, (-1 : Int64), (0 : Int32), X45, eq45, N45, (by simp [own_val, own_ln, hc149]), pre51⟩
    case neg =>
      have pre52 : ∀ t, Steps p.tables e below (T45.setTop (mkF m 162 #[.val (.long a1), .second, .val (.int a2), .val (.int (Int32.ofNat pn)), .val (.ref ar), .val (.int c0), .val (.int c1), .val (.int c2), .val (.int c3), .val (.int c4), .val (.long (-1 : Int64)), .second, .val (.int (0 : Int32)), .unset, .unset, .unset] [(.int c0)])) t → Steps p.tables e below (s₁.setTop (entryFrame m #[(.long a1), (.int a2)] maxLocals)) t := by
        intro t kt
        refine pre49 t ?_
        show Steps p.tables e below (T45.setTop (mkF m 149 #[.val (.long a1), .second, .val (.int a2), .val (.int (Int32.ofNat pn)), .val (.ref ar), .val (.int c0), .val (.int c1), .val (.int c2), .val (.int c3), .val (.int c4), .val (.long (-1 : Int64)), .second, .val (.int (0 : Int32)), .unset, .unset, .unset] [(.int (-1000 : Int32)), (.int c0)])) _
        refine XS.icmpYes X45.here hx rfl (pc0 := 149) (pc' := 160) rfl (hb hby at_149) rfl (feq hc149).2 (by decide) (by decide) ?_
        show Steps p.tables e below (T45.setTop (mkF m 160 #[.val (.long a1), .second, .val (.int a2), .val (.int (Int32.ofNat pn)), .val (.ref ar), .val (.int c0), .val (.int c1), .val (.int c2), .val (.int c3), .val (.int c4), .val (.long (-1 : Int64)), .second, .val (.int (0 : Int32)), .unset, .unset, .unset] [])) _
        refine XS.iload X45.here hx rfl (hb hby at_160) rfl ?_
        exact kt
      by_cases hc162 : c0 < (0 : Int32)
      case pos =>
        have pre53 : ∀ t, Steps p.tables e below (T45.setTop (mkF m 181 #[.val (.long a1), .second, .val (.int a2), .val (.int (Int32.ofNat pn)), .val (.ref ar), .val (.int c0), .val (.int c1), .val (.int c2), .val (.int c3), .val (.int c4), .val (.long (-1 : Int64)), .second, .val (.int (0 : Int32)), .unset, .unset, .unset] [(.int (-1000 : Int32)), (.int c1)])) t → Steps p.tables e below (s₁.setTop (entryFrame m #[(.long a1), (.int a2)] maxLocals)) t := by
          intro t kt
          refine pre52 t ?_
          show Steps p.tables e below (T45.setTop (mkF m 162 #[.val (.long a1), .second, .val (.int a2), .val (.int (Int32.ofNat pn)), .val (.ref ar), .val (.int c0), .val (.int c1), .val (.int c2), .val (.int c3), .val (.int c4), .val (.long (-1 : Int64)), .second, .val (.int (0 : Int32)), .unset, .unset, .unset] [(.int c0)])) _
          refine XS.ifYes X45.here hx rfl (pc0 := 162) (pc' := 176) rfl (hb hby at_162) rfl ((if0 _ _).trans (tlt hc162).1) (by decide) (by decide) ?_
          show Steps p.tables e below (T45.setTop (mkF m 176 #[.val (.long a1), .second, .val (.int a2), .val (.int (Int32.ofNat pn)), .val (.ref ar), .val (.int c0), .val (.int c1), .val (.int c2), .val (.int c3), .val (.int c4), .val (.long (-1 : Int64)), .second, .val (.int (0 : Int32)), .unset, .unset, .unset] [])) _
          refine XS.iload X45.here hx rfl (hb hby at_176) rfl ?_
          show Steps p.tables e below (T45.setTop (mkF m 178 #[.val (.long a1), .second, .val (.int a2), .val (.int (Int32.ofNat pn)), .val (.ref ar), .val (.int c0), .val (.int c1), .val (.int c2), .val (.int c3), .val (.int c4), .val (.long (-1 : Int64)), .second, .val (.int (0 : Int32)), .unset, .unset, .unset] [(.int c1)])) _
          refine XS.sipush X45.here hx rfl (hb hby at_178) ?_
          exact kt
        by_cases hc181 : c1 = (-1000 : Int32)
        case pos =>
          have pre54 : ∀ t, Steps p.tables e below (T45.setTop (mkF m 416 #[.val (.long a1), .second, .val (.int a2), .val (.int (Int32.ofNat pn)), .val (.ref ar), .val (.int c0), .val (.int c1), .val (.int c2), .val (.int c3), .val (.int c4), .val (.long (-1 : Int64)), .second, .val (.int (0 : Int32)), .unset, .unset, .unset] [])) t → Steps p.tables e below (s₁.setTop (entryFrame m #[(.long a1), (.int a2)] maxLocals)) t := by
            intro t kt
            refine pre53 t ?_
            show Steps p.tables e below (T45.setTop (mkF m 181 #[.val (.long a1), .second, .val (.int a2), .val (.int (Int32.ofNat pn)), .val (.ref ar), .val (.int c0), .val (.int c1), .val (.int c2), .val (.int c3), .val (.int c4), .val (.long (-1 : Int64)), .second, .val (.int (0 : Int32)), .unset, .unset, .unset] [(.int (-1000 : Int32)), (.int c1)])) _
            refine XS.icmpNo X45.here hx rfl (hb hby at_181) rfl (teq hc181).2 ?_
            show Steps p.tables e below (T45.setTop (mkF m 184 #[.val (.long a1), .second, .val (.int a2), .val (.int (Int32.ofNat pn)), .val (.ref ar), .val (.int c0), .val (.int c1), .val (.int c2), .val (.int c3), .val (.int c4), .val (.long (-1 : Int64)), .second, .val (.int (0 : Int32)), .unset, .unset, .unset] [])) _
            refine X45.ldc2Long hx hown (mvT hZ (hw _ (List.mem_of_getElem? (i := 5) rfl))) (g := (mkF m 184 #[.val (.long a1), .second, .val (.int a2), .val (.int (Int32.ofNat pn)), .val (.ref ar), .val (.int c0), .val (.int c1), .val (.int c2), .val (.int c3), .val (.int c4), .val (.long (-1 : Int64)), .second, .val (.int (0 : Int32)), .unset, .unset, .unset] [])) rfl (hb hby at_184) _ ?_
            show Steps p.tables e below (T45.setTop (mkF m 187 #[.val (.long a1), .second, .val (.int a2), .val (.int (Int32.ofNat pn)), .val (.ref ar), .val (.int c0), .val (.int c1), .val (.int c2), .val (.int c3), .val (.int c4), .val (.long (-1 : Int64)), .second, .val (.int (0 : Int32)), .unset, .unset, .unset] [(.long (-1 : Int64))])) _
            refine XS.lstore X45.here hx rfl (hb hby at_187) rfl (l' := #[.val (.long a1), .second, .val (.int a2), .val (.int (Int32.ofNat pn)), .val (.ref ar), .val (.int c0), .val (.int c1), .val (.int c2), .val (.int c3), .val (.int c4), .val (.long (-1 : Int64)), .second, .val (.int (0 : Int32)), .unset, .unset, .unset]) rfl ?_
            show Steps p.tables e below (T45.setTop (mkF m 189 #[.val (.long a1), .second, .val (.int a2), .val (.int (Int32.ofNat pn)), .val (.ref ar), .val (.int c0), .val (.int c1), .val (.int c2), .val (.int c3), .val (.int c4), .val (.long (-1 : Int64)), .second, .val (.int (0 : Int32)), .unset, .unset, .unset] [])) _
            refine XS.goto X45.here hx rfl (pc0 := 189) (pc' := 416) rfl (hb hby at_189) (by decide) (by decide) ?_
            exact kt
          exact ⟨T45, _, (-1 : Int64), (0 : Int32), X45, eq45, N45, (by simp [own_val, own_ln, hc149, hc162, hc181]), pre54⟩
        case neg =>
          have pre55 : ∀ t, Steps p.tables e below (T45.setTop (mkF m 194 #[.val (.long a1), .second, .val (.int a2), .val (.int (Int32.ofNat pn)), .val (.ref ar), .val (.int c0), .val (.int c1), .val (.int c2), .val (.int c3), .val (.int c4), .val (.long (-1 : Int64)), .second, .val (.int (0 : Int32)), .unset, .unset, .unset] [(.int c1)])) t → Steps p.tables e below (s₁.setTop (entryFrame m #[(.long a1), (.int a2)] maxLocals)) t := by
            intro t kt
            refine pre53 t ?_
            show Steps p.tables e below (T45.setTop (mkF m 181 #[.val (.long a1), .second, .val (.int a2), .val (.int (Int32.ofNat pn)), .val (.ref ar), .val (.int c0), .val (.int c1), .val (.int c2), .val (.int c3), .val (.int c4), .val (.long (-1 : Int64)), .second, .val (.int (0 : Int32)), .unset, .unset, .unset] [(.int (-1000 : Int32)), (.int c1)])) _
            refine XS.icmpYes X45.here hx rfl (pc0 := 181) (pc' := 192) rfl (hb hby at_181) rfl (feq hc181).2 (by decide) (by decide) ?_
            show Steps p.tables e below (T45.setTop (mkF m 192 #[.val (.long a1), .second, .val (.int a2), .val (.int (Int32.ofNat pn)), .val (.ref ar), .val (.int c0), .val (.int c1), .val (.int c2), .val (.int c3), .val (.int c4), .val (.long (-1 : Int64)), .second, .val (.int (0 : Int32)), .unset, .unset, .unset] [])) _
            refine XS.iload X45.here hx rfl (hb hby at_192) rfl ?_
            exact kt
          by_cases hc194 : c1 < (0 : Int32)
          case pos =>
            have pre56 : ∀ t, Steps p.tables e below (T45.setTop (mkF m 223 #[.val (.long a1), .second, .val (.int a2), .val (.int (Int32.ofNat pn)), .val (.ref ar), .val (.int c0), .val (.int c1), .val (.int c2), .val (.int c3), .val (.int c4), .val (.long (-1 : Int64)), .second, .val (.int (0 : Int32)), .unset, .unset, .unset] [(.int (-1000 : Int32)), (.int c2)])) t → Steps p.tables e below (s₁.setTop (entryFrame m #[(.long a1), (.int a2)] maxLocals)) t := by
              intro t kt
              refine pre55 t ?_
              show Steps p.tables e below (T45.setTop (mkF m 194 #[.val (.long a1), .second, .val (.int a2), .val (.int (Int32.ofNat pn)), .val (.ref ar), .val (.int c0), .val (.int c1), .val (.int c2), .val (.int c3), .val (.int c4), .val (.long (-1 : Int64)), .second, .val (.int (0 : Int32)), .unset, .unset, .unset] [(.int c1)])) _
              refine XS.ifYes X45.here hx rfl (pc0 := 194) (pc' := 218) rfl (hb hby at_194) rfl ((if0 _ _).trans (tlt hc194).1) (by decide) (by decide) ?_
              show Steps p.tables e below (T45.setTop (mkF m 218 #[.val (.long a1), .second, .val (.int a2), .val (.int (Int32.ofNat pn)), .val (.ref ar), .val (.int c0), .val (.int c1), .val (.int c2), .val (.int c3), .val (.int c4), .val (.long (-1 : Int64)), .second, .val (.int (0 : Int32)), .unset, .unset, .unset] [])) _
              refine XS.iload X45.here hx rfl (hb hby at_218) rfl ?_
              show Steps p.tables e below (T45.setTop (mkF m 220 #[.val (.long a1), .second, .val (.int a2), .val (.int (Int32.ofNat pn)), .val (.ref ar), .val (.int c0), .val (.int c1), .val (.int c2), .val (.int c3), .val (.int c4), .val (.long (-1 : Int64)), .second, .val (.int (0 : Int32)), .unset, .unset, .unset] [(.int c2)])) _
              refine XS.sipush X45.here hx rfl (hb hby at_220) ?_
              exact kt
            by_cases hc223 : c2 = (-1000 : Int32)
            case pos =>
              have pre57 : ∀ t, Steps p.tables e below (T45.setTop (mkF m 416 #[.val (.long a1), .second, .val (.int a2), .val (.int (Int32.ofNat pn)), .val (.ref ar), .val (.int c0), .val (.int c1), .val (.int c2), .val (.int c3), .val (.int c4), .val (.long (-1 : Int64)), .second, .val (.int (0 : Int32)), .unset, .unset, .unset] [])) t → Steps p.tables e below (s₁.setTop (entryFrame m #[(.long a1), (.int a2)] maxLocals)) t := by
                intro t kt
                refine pre56 t ?_
                show Steps p.tables e below (T45.setTop (mkF m 223 #[.val (.long a1), .second, .val (.int a2), .val (.int (Int32.ofNat pn)), .val (.ref ar), .val (.int c0), .val (.int c1), .val (.int c2), .val (.int c3), .val (.int c4), .val (.long (-1 : Int64)), .second, .val (.int (0 : Int32)), .unset, .unset, .unset] [(.int (-1000 : Int32)), (.int c2)])) _
                refine XS.icmpNo X45.here hx rfl (hb hby at_223) rfl (teq hc223).2 ?_
                show Steps p.tables e below (T45.setTop (mkF m 226 #[.val (.long a1), .second, .val (.int a2), .val (.int (Int32.ofNat pn)), .val (.ref ar), .val (.int c0), .val (.int c1), .val (.int c2), .val (.int c3), .val (.int c4), .val (.long (-1 : Int64)), .second, .val (.int (0 : Int32)), .unset, .unset, .unset] [])) _
                refine X45.ldc2Long hx hown (mvT hZ (hw _ (List.mem_of_getElem? (i := 5) rfl))) (g := (mkF m 226 #[.val (.long a1), .second, .val (.int a2), .val (.int (Int32.ofNat pn)), .val (.ref ar), .val (.int c0), .val (.int c1), .val (.int c2), .val (.int c3), .val (.int c4), .val (.long (-1 : Int64)), .second, .val (.int (0 : Int32)), .unset, .unset, .unset] [])) rfl (hb hby at_226) _ ?_
                show Steps p.tables e below (T45.setTop (mkF m 229 #[.val (.long a1), .second, .val (.int a2), .val (.int (Int32.ofNat pn)), .val (.ref ar), .val (.int c0), .val (.int c1), .val (.int c2), .val (.int c3), .val (.int c4), .val (.long (-1 : Int64)), .second, .val (.int (0 : Int32)), .unset, .unset, .unset] [(.long (-1 : Int64))])) _
                refine XS.lstore X45.here hx rfl (hb hby at_229) rfl (l' := #[.val (.long a1), .second, .val (.int a2), .val (.int (Int32.ofNat pn)), .val (.ref ar), .val (.int c0), .val (.int c1), .val (.int c2), .val (.int c3), .val (.int c4), .val (.long (-1 : Int64)), .second, .val (.int (0 : Int32)), .unset, .unset, .unset]) rfl ?_
                show Steps p.tables e below (T45.setTop (mkF m 231 #[.val (.long a1), .second, .val (.int a2), .val (.int (Int32.ofNat pn)), .val (.ref ar), .val (.int c0), .val (.int c1), .val (.int c2), .val (.int c3), .val (.int c4), .val (.long (-1 : Int64)), .second, .val (.int (0 : Int32)), .unset, .unset, .unset] [])) _
                refine XS.goto X45.here hx rfl (pc0 := 231) (pc' := 416) rfl (hb hby at_231) (by decide) (by decide) ?_
                exact kt
              exact ⟨T45, _, (-1 : Int64), (0 : Int32), X45, eq45, N45, (by simp [own_val, own_ln, hc149, hc162, hc181, hc194, hc223]), pre57⟩
            case neg =>
              have pre58 : ∀ t, Steps p.tables e below (T45.setTop (mkF m 236 #[.val (.long a1), .second, .val (.int a2), .val (.int (Int32.ofNat pn)), .val (.ref ar), .val (.int c0), .val (.int c1), .val (.int c2), .val (.int c3), .val (.int c4), .val (.long (-1 : Int64)), .second, .val (.int (0 : Int32)), .unset, .unset, .unset] [(.int c2)])) t → Steps p.tables e below (s₁.setTop (entryFrame m #[(.long a1), (.int a2)] maxLocals)) t := by
                intro t kt
                refine pre56 t ?_
                show Steps p.tables e below (T45.setTop (mkF m 223 #[.val (.long a1), .second, .val (.int a2), .val (.int (Int32.ofNat pn)), .val (.ref ar), .val (.int c0), .val (.int c1), .val (.int c2), .val (.int c3), .val (.int c4), .val (.long (-1 : Int64)), .second, .val (.int (0 : Int32)), .unset, .unset, .unset] [(.int (-1000 : Int32)), (.int c2)])) _
                refine XS.icmpYes X45.here hx rfl (pc0 := 223) (pc' := 234) rfl (hb hby at_223) rfl (feq hc223).2 (by decide) (by decide) ?_
                show Steps p.tables e below (T45.setTop (mkF m 234 #[.val (.long a1), .second, .val (.int a2), .val (.int (Int32.ofNat pn)), .val (.ref ar), .val (.int c0), .val (.int c1), .val (.int c2), .val (.int c3), .val (.int c4), .val (.long (-1 : Int64)), .second, .val (.int (0 : Int32)), .unset, .unset, .unset] [])) _
                refine XS.iload X45.here hx rfl (hb hby at_234) rfl ?_
                exact kt
              by_cases hc236 : c2 < (0 : Int32)
              case pos =>
                have pre59 : ∀ t, Steps p.tables e below (T45.setTop (mkF m 275 #[.val (.long a1), .second, .val (.int a2), .val (.int (Int32.ofNat pn)), .val (.ref ar), .val (.int c0), .val (.int c1), .val (.int c2), .val (.int c3), .val (.int c4), .val (.long (-1 : Int64)), .second, .val (.int (0 : Int32)), .unset, .unset, .unset] [(.int (-1000 : Int32)), (.int c3)])) t → Steps p.tables e below (s₁.setTop (entryFrame m #[(.long a1), (.int a2)] maxLocals)) t := by
                  intro t kt
                  refine pre58 t ?_
                  show Steps p.tables e below (T45.setTop (mkF m 236 #[.val (.long a1), .second, .val (.int a2), .val (.int (Int32.ofNat pn)), .val (.ref ar), .val (.int c0), .val (.int c1), .val (.int c2), .val (.int c3), .val (.int c4), .val (.long (-1 : Int64)), .second, .val (.int (0 : Int32)), .unset, .unset, .unset] [(.int c2)])) _
                  refine XS.ifYes X45.here hx rfl (pc0 := 236) (pc' := 270) rfl (hb hby at_236) rfl ((if0 _ _).trans (tlt hc236).1) (by decide) (by decide) ?_
                  show Steps p.tables e below (T45.setTop (mkF m 270 #[.val (.long a1), .second, .val (.int a2), .val (.int (Int32.ofNat pn)), .val (.ref ar), .val (.int c0), .val (.int c1), .val (.int c2), .val (.int c3), .val (.int c4), .val (.long (-1 : Int64)), .second, .val (.int (0 : Int32)), .unset, .unset, .unset] [])) _
                  refine XS.iload X45.here hx rfl (hb hby at_270) rfl ?_
                  show Steps p.tables e below (T45.setTop (mkF m 272 #[.val (.long a1), .second, .val (.int a2), .val (.int (Int32.ofNat pn)), .val (.ref ar), .val (.int c0), .val (.int c1), .val (.int c2), .val (.int c3), .val (.int c4), .val (.long (-1 : Int64)), .second, .val (.int (0 : Int32)), .unset, .unset, .unset] [(.int c3)])) _
                  refine XS.sipush X45.here hx rfl (hb hby at_272) ?_
                  exact kt
                by_cases hc275 : c3 = (-1000 : Int32)
                case pos =>
                  have pre60 : ∀ t, Steps p.tables e below (T45.setTop (mkF m 416 #[.val (.long a1), .second, .val (.int a2), .val (.int (Int32.ofNat pn)), .val (.ref ar), .val (.int c0), .val (.int c1), .val (.int c2), .val (.int c3), .val (.int c4), .val (.long (-1 : Int64)), .second, .val (.int (0 : Int32)), .unset, .unset, .unset] [])) t → Steps p.tables e below (s₁.setTop (entryFrame m #[(.long a1), (.int a2)] maxLocals)) t := by
                    intro t kt
                    refine pre59 t ?_
                    show Steps p.tables e below (T45.setTop (mkF m 275 #[.val (.long a1), .second, .val (.int a2), .val (.int (Int32.ofNat pn)), .val (.ref ar), .val (.int c0), .val (.int c1), .val (.int c2), .val (.int c3), .val (.int c4), .val (.long (-1 : Int64)), .second, .val (.int (0 : Int32)), .unset, .unset, .unset] [(.int (-1000 : Int32)), (.int c3)])) _
                    refine XS.icmpNo X45.here hx rfl (hb hby at_275) rfl (teq hc275).2 ?_
                    show Steps p.tables e below (T45.setTop (mkF m 278 #[.val (.long a1), .second, .val (.int a2), .val (.int (Int32.ofNat pn)), .val (.ref ar), .val (.int c0), .val (.int c1), .val (.int c2), .val (.int c3), .val (.int c4), .val (.long (-1 : Int64)), .second, .val (.int (0 : Int32)), .unset, .unset, .unset] [])) _
                    refine X45.ldc2Long hx hown (mvT hZ (hw _ (List.mem_of_getElem? (i := 5) rfl))) (g := (mkF m 278 #[.val (.long a1), .second, .val (.int a2), .val (.int (Int32.ofNat pn)), .val (.ref ar), .val (.int c0), .val (.int c1), .val (.int c2), .val (.int c3), .val (.int c4), .val (.long (-1 : Int64)), .second, .val (.int (0 : Int32)), .unset, .unset, .unset] [])) rfl (hb hby at_278) _ ?_
                    show Steps p.tables e below (T45.setTop (mkF m 281 #[.val (.long a1), .second, .val (.int a2), .val (.int (Int32.ofNat pn)), .val (.ref ar), .val (.int c0), .val (.int c1), .val (.int c2), .val (.int c3), .val (.int c4), .val (.long (-1 : Int64)), .second, .val (.int (0 : Int32)), .unset, .unset, .unset] [(.long (-1 : Int64))])) _
                    refine XS.lstore X45.here hx rfl (hb hby at_281) rfl (l' := #[.val (.long a1), .second, .val (.int a2), .val (.int (Int32.ofNat pn)), .val (.ref ar), .val (.int c0), .val (.int c1), .val (.int c2), .val (.int c3), .val (.int c4), .val (.long (-1 : Int64)), .second, .val (.int (0 : Int32)), .unset, .unset, .unset]) rfl ?_
                    show Steps p.tables e below (T45.setTop (mkF m 283 #[.val (.long a1), .second, .val (.int a2), .val (.int (Int32.ofNat pn)), .val (.ref ar), .val (.int c0), .val (.int c1), .val (.int c2), .val (.int c3), .val (.int c4), .val (.long (-1 : Int64)), .second, .val (.int (0 : Int32)), .unset, .unset, .unset] [])) _
                    refine XS.goto X45.here hx rfl (pc0 := 283) (pc' := 416) rfl (hb hby at_283) (by decide) (by decide) ?_
                    exact kt
                  exact ⟨T45, _, (-1 : Int64), (0 : Int32), X45, eq45, N45, (by simp [own_val, own_ln, hc149, hc162, hc181, hc194, hc223, hc236, hc275]), pre60⟩
                case neg =>
                  have pre61 : ∀ t, Steps p.tables e below (T45.setTop (mkF m 288 #[.val (.long a1), .second, .val (.int a2), .val (.int (Int32.ofNat pn)), .val (.ref ar), .val (.int c0), .val (.int c1), .val (.int c2), .val (.int c3), .val (.int c4), .val (.long (-1 : Int64)), .second, .val (.int (0 : Int32)), .unset, .unset, .unset] [(.int c3)])) t → Steps p.tables e below (s₁.setTop (entryFrame m #[(.long a1), (.int a2)] maxLocals)) t := by
                    intro t kt
                    refine pre59 t ?_
                    show Steps p.tables e below (T45.setTop (mkF m 275 #[.val (.long a1), .second, .val (.int a2), .val (.int (Int32.ofNat pn)), .val (.ref ar), .val (.int c0), .val (.int c1), .val (.int c2), .val (.int c3), .val (.int c4), .val (.long (-1 : Int64)), .second, .val (.int (0 : Int32)), .unset, .unset, .unset] [(.int (-1000 : Int32)), (.int c3)])) _
                    refine XS.icmpYes X45.here hx rfl (pc0 := 275) (pc' := 286) rfl (hb hby at_275) rfl (feq hc275).2 (by decide) (by decide) ?_
                    show Steps p.tables e below (T45.setTop (mkF m 286 #[.val (.long a1), .second, .val (.int a2), .val (.int (Int32.ofNat pn)), .val (.ref ar), .val (.int c0), .val (.int c1), .val (.int c2), .val (.int c3), .val (.int c4), .val (.long (-1 : Int64)), .second, .val (.int (0 : Int32)), .unset, .unset, .unset] [])) _
                    refine XS.iload X45.here hx rfl (hb hby at_286) rfl ?_
                    exact kt
                  by_cases hc288 : c3 < (0 : Int32)
                  case pos =>
                    have pre62 : ∀ t, Steps p.tables e below (T45.setTop (mkF m 337 #[.val (.long a1), .second, .val (.int a2), .val (.int (Int32.ofNat pn)), .val (.ref ar), .val (.int c0), .val (.int c1), .val (.int c2), .val (.int c3), .val (.int c4), .val (.long (-1 : Int64)), .second, .val (.int (0 : Int32)), .unset, .unset, .unset] [(.int (-1000 : Int32)), (.int c4)])) t → Steps p.tables e below (s₁.setTop (entryFrame m #[(.long a1), (.int a2)] maxLocals)) t := by
                      intro t kt
                      refine pre61 t ?_
                      show Steps p.tables e below (T45.setTop (mkF m 288 #[.val (.long a1), .second, .val (.int a2), .val (.int (Int32.ofNat pn)), .val (.ref ar), .val (.int c0), .val (.int c1), .val (.int c2), .val (.int c3), .val (.int c4), .val (.long (-1 : Int64)), .second, .val (.int (0 : Int32)), .unset, .unset, .unset] [(.int c3)])) _
                      refine XS.ifYes X45.here hx rfl (pc0 := 288) (pc' := 332) rfl (hb hby at_288) rfl ((if0 _ _).trans (tlt hc288).1) (by decide) (by decide) ?_
                      show Steps p.tables e below (T45.setTop (mkF m 332 #[.val (.long a1), .second, .val (.int a2), .val (.int (Int32.ofNat pn)), .val (.ref ar), .val (.int c0), .val (.int c1), .val (.int c2), .val (.int c3), .val (.int c4), .val (.long (-1 : Int64)), .second, .val (.int (0 : Int32)), .unset, .unset, .unset] [])) _
                      refine XS.iload X45.here hx rfl (hb hby at_332) rfl ?_
                      show Steps p.tables e below (T45.setTop (mkF m 334 #[.val (.long a1), .second, .val (.int a2), .val (.int (Int32.ofNat pn)), .val (.ref ar), .val (.int c0), .val (.int c1), .val (.int c2), .val (.int c3), .val (.int c4), .val (.long (-1 : Int64)), .second, .val (.int (0 : Int32)), .unset, .unset, .unset] [(.int c4)])) _
                      refine XS.sipush X45.here hx rfl (hb hby at_334) ?_
                      exact kt
                    by_cases hc337 : c4 = (-1000 : Int32)
                    case pos =>
                      have pre63 : ∀ t, Steps p.tables e below (T45.setTop (mkF m 416 #[.val (.long a1), .second, .val (.int a2), .val (.int (Int32.ofNat pn)), .val (.ref ar), .val (.int c0), .val (.int c1), .val (.int c2), .val (.int c3), .val (.int c4), .val (.long (-1 : Int64)), .second, .val (.int (0 : Int32)), .unset, .unset, .unset] [])) t → Steps p.tables e below (s₁.setTop (entryFrame m #[(.long a1), (.int a2)] maxLocals)) t := by
                        intro t kt
                        refine pre62 t ?_
                        show Steps p.tables e below (T45.setTop (mkF m 337 #[.val (.long a1), .second, .val (.int a2), .val (.int (Int32.ofNat pn)), .val (.ref ar), .val (.int c0), .val (.int c1), .val (.int c2), .val (.int c3), .val (.int c4), .val (.long (-1 : Int64)), .second, .val (.int (0 : Int32)), .unset, .unset, .unset] [(.int (-1000 : Int32)), (.int c4)])) _
                        refine XS.icmpNo X45.here hx rfl (hb hby at_337) rfl (teq hc337).2 ?_
                        show Steps p.tables e below (T45.setTop (mkF m 340 #[.val (.long a1), .second, .val (.int a2), .val (.int (Int32.ofNat pn)), .val (.ref ar), .val (.int c0), .val (.int c1), .val (.int c2), .val (.int c3), .val (.int c4), .val (.long (-1 : Int64)), .second, .val (.int (0 : Int32)), .unset, .unset, .unset] [])) _
                        refine X45.ldc2Long hx hown (mvT hZ (hw _ (List.mem_of_getElem? (i := 5) rfl))) (g := (mkF m 340 #[.val (.long a1), .second, .val (.int a2), .val (.int (Int32.ofNat pn)), .val (.ref ar), .val (.int c0), .val (.int c1), .val (.int c2), .val (.int c3), .val (.int c4), .val (.long (-1 : Int64)), .second, .val (.int (0 : Int32)), .unset, .unset, .unset] [])) rfl (hb hby at_340) _ ?_
                        show Steps p.tables e below (T45.setTop (mkF m 343 #[.val (.long a1), .second, .val (.int a2), .val (.int (Int32.ofNat pn)), .val (.ref ar), .val (.int c0), .val (.int c1), .val (.int c2), .val (.int c3), .val (.int c4), .val (.long (-1 : Int64)), .second, .val (.int (0 : Int32)), .unset, .unset, .unset] [(.long (-1 : Int64))])) _
                        refine XS.lstore X45.here hx rfl (hb hby at_343) rfl (l' := #[.val (.long a1), .second, .val (.int a2), .val (.int (Int32.ofNat pn)), .val (.ref ar), .val (.int c0), .val (.int c1), .val (.int c2), .val (.int c3), .val (.int c4), .val (.long (-1 : Int64)), .second, .val (.int (0 : Int32)), .unset, .unset, .unset]) rfl ?_
                        show Steps p.tables e below (T45.setTop (mkF m 345 #[.val (.long a1), .second, .val (.int a2), .val (.int (Int32.ofNat pn)), .val (.ref ar), .val (.int c0), .val (.int c1), .val (.int c2), .val (.int c3), .val (.int c4), .val (.long (-1 : Int64)), .second, .val (.int (0 : Int32)), .unset, .unset, .unset] [])) _
                        refine XS.goto X45.here hx rfl (pc0 := 345) (pc' := 416) rfl (hb hby at_345) (by decide) (by decide) ?_
                        exact kt
                      exact ⟨T45, _, (-1 : Int64), (0 : Int32), X45, eq45, N45, (by simp [own_val, own_ln, hc149, hc162, hc181, hc194, hc223, hc236, hc275, hc288, hc337]), pre63⟩
                    case neg =>
                      have pre64 : ∀ t, Steps p.tables e below (T45.setTop (mkF m 350 #[.val (.long a1), .second, .val (.int a2), .val (.int (Int32.ofNat pn)), .val (.ref ar), .val (.int c0), .val (.int c1), .val (.int c2), .val (.int c3), .val (.int c4), .val (.long (-1 : Int64)), .second, .val (.int (0 : Int32)), .unset, .unset, .unset] [(.int c4)])) t → Steps p.tables e below (s₁.setTop (entryFrame m #[(.long a1), (.int a2)] maxLocals)) t := by
                        intro t kt
                        refine pre62 t ?_
                        show Steps p.tables e below (T45.setTop (mkF m 337 #[.val (.long a1), .second, .val (.int a2), .val (.int (Int32.ofNat pn)), .val (.ref ar), .val (.int c0), .val (.int c1), .val (.int c2), .val (.int c3), .val (.int c4), .val (.long (-1 : Int64)), .second, .val (.int (0 : Int32)), .unset, .unset, .unset] [(.int (-1000 : Int32)), (.int c4)])) _
                        refine XS.icmpYes X45.here hx rfl (pc0 := 337) (pc' := 348) rfl (hb hby at_337) rfl (feq hc337).2 (by decide) (by decide) ?_
                        show Steps p.tables e below (T45.setTop (mkF m 348 #[.val (.long a1), .second, .val (.int a2), .val (.int (Int32.ofNat pn)), .val (.ref ar), .val (.int c0), .val (.int c1), .val (.int c2), .val (.int c3), .val (.int c4), .val (.long (-1 : Int64)), .second, .val (.int (0 : Int32)), .unset, .unset, .unset] [])) _
                        refine XS.iload X45.here hx rfl (hb hby at_348) rfl ?_
                        exact kt
                      by_cases hc350 : c4 < (0 : Int32)
                      case pos =>
                        have pre65 : ∀ t, Steps p.tables e below (T45.setTop (mkF m 416 #[.val (.long a1), .second, .val (.int a2), .val (.int (Int32.ofNat pn)), .val (.ref ar), .val (.int c0), .val (.int c1), .val (.int c2), .val (.int c3), .val (.int c4), .val (.long (-1 : Int64)), .second, .val (.int (0 : Int32)), .unset, .unset, .unset] [])) t → Steps p.tables e below (s₁.setTop (entryFrame m #[(.long a1), (.int a2)] maxLocals)) t := by
                          intro t kt
                          refine pre64 t ?_
                          show Steps p.tables e below (T45.setTop (mkF m 350 #[.val (.long a1), .second, .val (.int a2), .val (.int (Int32.ofNat pn)), .val (.ref ar), .val (.int c0), .val (.int c1), .val (.int c2), .val (.int c3), .val (.int c4), .val (.long (-1 : Int64)), .second, .val (.int (0 : Int32)), .unset, .unset, .unset] [(.int c4)])) _
                          refine XS.ifYes X45.here hx rfl (pc0 := 350) (pc' := 411) rfl (hb hby at_350) rfl ((if0 _ _).trans (tlt hc350).1) (by decide) (by decide) ?_
                          show Steps p.tables e below (T45.setTop (mkF m 411 #[.val (.long a1), .second, .val (.int a2), .val (.int (Int32.ofNat pn)), .val (.ref ar), .val (.int c0), .val (.int c1), .val (.int c2), .val (.int c3), .val (.int c4), .val (.long (-1 : Int64)), .second, .val (.int (0 : Int32)), .unset, .unset, .unset] [])) _
                          refine X45.ldc2Long hx hown (mvT hZ (hw _ (List.mem_of_getElem? (i := 5) rfl))) (g := (mkF m 411 #[.val (.long a1), .second, .val (.int a2), .val (.int (Int32.ofNat pn)), .val (.ref ar), .val (.int c0), .val (.int c1), .val (.int c2), .val (.int c3), .val (.int c4), .val (.long (-1 : Int64)), .second, .val (.int (0 : Int32)), .unset, .unset, .unset] [])) rfl (hb hby at_411) _ ?_
                          show Steps p.tables e below (T45.setTop (mkF m 414 #[.val (.long a1), .second, .val (.int a2), .val (.int (Int32.ofNat pn)), .val (.ref ar), .val (.int c0), .val (.int c1), .val (.int c2), .val (.int c3), .val (.int c4), .val (.long (-1 : Int64)), .second, .val (.int (0 : Int32)), .unset, .unset, .unset] [(.long (-1 : Int64))])) _
                          refine XS.lstore X45.here hx rfl (hb hby at_414) rfl (l' := #[.val (.long a1), .second, .val (.int a2), .val (.int (Int32.ofNat pn)), .val (.ref ar), .val (.int c0), .val (.int c1), .val (.int c2), .val (.int c3), .val (.int c4), .val (.long (-1 : Int64)), .second, .val (.int (0 : Int32)), .unset, .unset, .unset]) rfl ?_
                          exact kt
                        exact ⟨T45, _, (-1 : Int64), (0 : Int32), X45, eq45, N45, (by simp [own_val, own_ln, hc149, hc162, hc181, hc194, hc223, hc236, hc275, hc288, hc337, hc350]), pre65⟩
                      case neg =>
                        have pre66 : ∀ t, Steps p.tables e below (T45.setTop (mkF m 357 #[.val (.long a1), .second, .val (.int a2), .val (.int (Int32.ofNat pn)), .val (.ref ar), .val (.int c0), .val (.int c1), .val (.int c2), .val (.int c3), .val (.int c4), .val (.long (-1 : Int64)), .second, .val (.int (0 : Int32)), .unset, .unset, .unset] [(.int (15 : Int32)), (.int c4)])) t → Steps p.tables e below (s₁.setTop (entryFrame m #[(.long a1), (.int a2)] maxLocals)) t := by
                          intro t kt
                          refine pre64 t ?_
                          show Steps p.tables e below (T45.setTop (mkF m 350 #[.val (.long a1), .second, .val (.int a2), .val (.int (Int32.ofNat pn)), .val (.ref ar), .val (.int c0), .val (.int c1), .val (.int c2), .val (.int c3), .val (.int c4), .val (.long (-1 : Int64)), .second, .val (.int (0 : Int32)), .unset, .unset, .unset] [(.int c4)])) _
                          refine XS.ifNo X45.here hx rfl (hb hby at_350) rfl ((if0 _ _).trans (flt hc350).1) ?_
                          show Steps p.tables e below (T45.setTop (mkF m 353 #[.val (.long a1), .second, .val (.int a2), .val (.int (Int32.ofNat pn)), .val (.ref ar), .val (.int c0), .val (.int c1), .val (.int c2), .val (.int c3), .val (.int c4), .val (.long (-1 : Int64)), .second, .val (.int (0 : Int32)), .unset, .unset, .unset] [])) _
                          refine XS.iload X45.here hx rfl (hb hby at_353) rfl ?_
                          show Steps p.tables e below (T45.setTop (mkF m 355 #[.val (.long a1), .second, .val (.int a2), .val (.int (Int32.ofNat pn)), .val (.ref ar), .val (.int c0), .val (.int c1), .val (.int c2), .val (.int c3), .val (.int c4), .val (.long (-1 : Int64)), .second, .val (.int (0 : Int32)), .unset, .unset, .unset] [(.int c4)])) _
                          refine XS.bipush X45.here hx rfl (hb hby at_355) ?_
                          exact kt
                        by_cases hc357 : (15 : Int32) < c4
                        case pos =>
                          have pre67 : ∀ t, Steps p.tables e below (T45.setTop (mkF m 416 #[.val (.long a1), .second, .val (.int a2), .val (.int (Int32.ofNat pn)), .val (.ref ar), .val (.int c0), .val (.int c1), .val (.int c2), .val (.int c3), .val (.int c4), .val (.long (-1 : Int64)), .second, .val (.int (0 : Int32)), .unset, .unset, .unset] [])) t → Steps p.tables e below (s₁.setTop (entryFrame m #[(.long a1), (.int a2)] maxLocals)) t := by
                            intro t kt
                            refine pre66 t ?_
                            show Steps p.tables e below (T45.setTop (mkF m 357 #[.val (.long a1), .second, .val (.int a2), .val (.int (Int32.ofNat pn)), .val (.ref ar), .val (.int c0), .val (.int c1), .val (.int c2), .val (.int c3), .val (.int c4), .val (.long (-1 : Int64)), .second, .val (.int (0 : Int32)), .unset, .unset, .unset] [(.int (15 : Int32)), (.int c4)])) _
                            refine XS.icmpYes X45.here hx rfl (pc0 := 357) (pc' := 411) rfl (hb hby at_357) rfl (tlt hc357).2.2.1 (by decide) (by decide) ?_
                            show Steps p.tables e below (T45.setTop (mkF m 411 #[.val (.long a1), .second, .val (.int a2), .val (.int (Int32.ofNat pn)), .val (.ref ar), .val (.int c0), .val (.int c1), .val (.int c2), .val (.int c3), .val (.int c4), .val (.long (-1 : Int64)), .second, .val (.int (0 : Int32)), .unset, .unset, .unset] [])) _
                            refine X45.ldc2Long hx hown (mvT hZ (hw _ (List.mem_of_getElem? (i := 5) rfl))) (g := (mkF m 411 #[.val (.long a1), .second, .val (.int a2), .val (.int (Int32.ofNat pn)), .val (.ref ar), .val (.int c0), .val (.int c1), .val (.int c2), .val (.int c3), .val (.int c4), .val (.long (-1 : Int64)), .second, .val (.int (0 : Int32)), .unset, .unset, .unset] [])) rfl (hb hby at_411) _ ?_
                            show Steps p.tables e below (T45.setTop (mkF m 414 #[.val (.long a1), .second, .val (.int a2), .val (.int (Int32.ofNat pn)), .val (.ref ar), .val (.int c0), .val (.int c1), .val (.int c2), .val (.int c3), .val (.int c4), .val (.long (-1 : Int64)), .second, .val (.int (0 : Int32)), .unset, .unset, .unset] [(.long (-1 : Int64))])) _
                            refine XS.lstore X45.here hx rfl (hb hby at_414) rfl (l' := #[.val (.long a1), .second, .val (.int a2), .val (.int (Int32.ofNat pn)), .val (.ref ar), .val (.int c0), .val (.int c1), .val (.int c2), .val (.int c3), .val (.int c4), .val (.long (-1 : Int64)), .second, .val (.int (0 : Int32)), .unset, .unset, .unset]) rfl ?_
                            exact kt
                          exact ⟨T45, _, (-1 : Int64), (0 : Int32), X45, eq45, N45, (by simp [own_val, own_ln, hc149, hc162, hc181, hc194, hc223, hc236, hc275, hc288, hc337, hc350, hc357]), pre67⟩
                        case neg =>
                          have pre68 : ∀ t, Steps p.tables e below (T45.setTop (mkF m 416 #[.val (.long a1), .second, .val (.int a2), .val (.int (Int32.ofNat pn)), .val (.ref ar), .val (.int c0), .val (.int c1), .val (.int c2), .val (.int c3), .val (.int c4), .val (.long ((((((c0 &&& (127 : Int32)).toInt64) ||| (((c1 &&& (127 : Int32)).toInt64) <<< ((7 : Int32) &&& 0x3f).toInt64)) ||| (((c2 &&& (127 : Int32)).toInt64) <<< ((14 : Int32) &&& 0x3f).toInt64)) ||| (((c3 &&& (127 : Int32)).toInt64) <<< ((21 : Int32) &&& 0x3f).toInt64)) ||| ((c4.toInt64) <<< ((28 : Int32) &&& 0x3f).toInt64))), .second, .val (.int (5 : Int32)), .unset, .unset, .unset] [])) t → Steps p.tables e below (s₁.setTop (entryFrame m #[(.long a1), (.int a2)] maxLocals)) t := by
                            intro t kt
                            refine pre66 t ?_
                            show Steps p.tables e below (T45.setTop (mkF m 357 #[.val (.long a1), .second, .val (.int a2), .val (.int (Int32.ofNat pn)), .val (.ref ar), .val (.int c0), .val (.int c1), .val (.int c2), .val (.int c3), .val (.int c4), .val (.long (-1 : Int64)), .second, .val (.int (0 : Int32)), .unset, .unset, .unset] [(.int (15 : Int32)), (.int c4)])) _
                            refine XS.icmpNo X45.here hx rfl (hb hby at_357) rfl (flt hc357).2.2.1 ?_
                            show Steps p.tables e below (T45.setTop (mkF m 360 #[.val (.long a1), .second, .val (.int a2), .val (.int (Int32.ofNat pn)), .val (.ref ar), .val (.int c0), .val (.int c1), .val (.int c2), .val (.int c3), .val (.int c4), .val (.long (-1 : Int64)), .second, .val (.int (0 : Int32)), .unset, .unset, .unset] [])) _
                            refine XS.iload X45.here hx rfl (hb hby at_360) rfl ?_
                            show Steps p.tables e below (T45.setTop (mkF m 362 #[.val (.long a1), .second, .val (.int a2), .val (.int (Int32.ofNat pn)), .val (.ref ar), .val (.int c0), .val (.int c1), .val (.int c2), .val (.int c3), .val (.int c4), .val (.long (-1 : Int64)), .second, .val (.int (0 : Int32)), .unset, .unset, .unset] [(.int c0)])) _
                            refine XS.bipush X45.here hx rfl (hb hby at_362) ?_
                            show Steps p.tables e below (T45.setTop (mkF m 364 #[.val (.long a1), .second, .val (.int a2), .val (.int (Int32.ofNat pn)), .val (.ref ar), .val (.int c0), .val (.int c1), .val (.int c2), .val (.int c3), .val (.int c4), .val (.long (-1 : Int64)), .second, .val (.int (0 : Int32)), .unset, .unset, .unset] [(.int (127 : Int32)), (.int c0)])) _
                            refine XS.iand X45.here hx rfl (hb hby at_364) rfl ?_
                            show Steps p.tables e below (T45.setTop (mkF m 365 #[.val (.long a1), .second, .val (.int a2), .val (.int (Int32.ofNat pn)), .val (.ref ar), .val (.int c0), .val (.int c1), .val (.int c2), .val (.int c3), .val (.int c4), .val (.long (-1 : Int64)), .second, .val (.int (0 : Int32)), .unset, .unset, .unset] [(.int (c0 &&& (127 : Int32)))])) _
                            refine XS.i2l X45.here hx rfl (hb hby at_365) rfl ?_
                            show Steps p.tables e below (T45.setTop (mkF m 366 #[.val (.long a1), .second, .val (.int a2), .val (.int (Int32.ofNat pn)), .val (.ref ar), .val (.int c0), .val (.int c1), .val (.int c2), .val (.int c3), .val (.int c4), .val (.long (-1 : Int64)), .second, .val (.int (0 : Int32)), .unset, .unset, .unset] [(.long ((c0 &&& (127 : Int32)).toInt64))])) _
                            refine XS.iload X45.here hx rfl (hb hby at_366) rfl ?_
                            show Steps p.tables e below (T45.setTop (mkF m 368 #[.val (.long a1), .second, .val (.int a2), .val (.int (Int32.ofNat pn)), .val (.ref ar), .val (.int c0), .val (.int c1), .val (.int c2), .val (.int c3), .val (.int c4), .val (.long (-1 : Int64)), .second, .val (.int (0 : Int32)), .unset, .unset, .unset] [(.int c1), (.long ((c0 &&& (127 : Int32)).toInt64))])) _
                            refine XS.bipush X45.here hx rfl (hb hby at_368) ?_
                            show Steps p.tables e below (T45.setTop (mkF m 370 #[.val (.long a1), .second, .val (.int a2), .val (.int (Int32.ofNat pn)), .val (.ref ar), .val (.int c0), .val (.int c1), .val (.int c2), .val (.int c3), .val (.int c4), .val (.long (-1 : Int64)), .second, .val (.int (0 : Int32)), .unset, .unset, .unset] [(.int (127 : Int32)), (.int c1), (.long ((c0 &&& (127 : Int32)).toInt64))])) _
                            refine XS.iand X45.here hx rfl (hb hby at_370) rfl ?_
                            show Steps p.tables e below (T45.setTop (mkF m 371 #[.val (.long a1), .second, .val (.int a2), .val (.int (Int32.ofNat pn)), .val (.ref ar), .val (.int c0), .val (.int c1), .val (.int c2), .val (.int c3), .val (.int c4), .val (.long (-1 : Int64)), .second, .val (.int (0 : Int32)), .unset, .unset, .unset] [(.int (c1 &&& (127 : Int32))), (.long ((c0 &&& (127 : Int32)).toInt64))])) _
                            refine XS.i2l X45.here hx rfl (hb hby at_371) rfl ?_
                            show Steps p.tables e below (T45.setTop (mkF m 372 #[.val (.long a1), .second, .val (.int a2), .val (.int (Int32.ofNat pn)), .val (.ref ar), .val (.int c0), .val (.int c1), .val (.int c2), .val (.int c3), .val (.int c4), .val (.long (-1 : Int64)), .second, .val (.int (0 : Int32)), .unset, .unset, .unset] [(.long ((c1 &&& (127 : Int32)).toInt64)), (.long ((c0 &&& (127 : Int32)).toInt64))])) _
                            refine XS.bipush X45.here hx rfl (hb hby at_372) ?_
                            show Steps p.tables e below (T45.setTop (mkF m 374 #[.val (.long a1), .second, .val (.int a2), .val (.int (Int32.ofNat pn)), .val (.ref ar), .val (.int c0), .val (.int c1), .val (.int c2), .val (.int c3), .val (.int c4), .val (.long (-1 : Int64)), .second, .val (.int (0 : Int32)), .unset, .unset, .unset] [(.int (7 : Int32)), (.long ((c1 &&& (127 : Int32)).toInt64)), (.long ((c0 &&& (127 : Int32)).toInt64))])) _
                            refine XS.lshl X45.here hx rfl (hb hby at_374) rfl ?_
                            show Steps p.tables e below (T45.setTop (mkF m 375 #[.val (.long a1), .second, .val (.int a2), .val (.int (Int32.ofNat pn)), .val (.ref ar), .val (.int c0), .val (.int c1), .val (.int c2), .val (.int c3), .val (.int c4), .val (.long (-1 : Int64)), .second, .val (.int (0 : Int32)), .unset, .unset, .unset] [(.long (((c1 &&& (127 : Int32)).toInt64) <<< ((7 : Int32) &&& 0x3f).toInt64)), (.long ((c0 &&& (127 : Int32)).toInt64))])) _
                            refine XS.lor X45.here hx rfl (hb hby at_375) rfl ?_
                            show Steps p.tables e below (T45.setTop (mkF m 376 #[.val (.long a1), .second, .val (.int a2), .val (.int (Int32.ofNat pn)), .val (.ref ar), .val (.int c0), .val (.int c1), .val (.int c2), .val (.int c3), .val (.int c4), .val (.long (-1 : Int64)), .second, .val (.int (0 : Int32)), .unset, .unset, .unset] [(.long (((c0 &&& (127 : Int32)).toInt64) ||| (((c1 &&& (127 : Int32)).toInt64) <<< ((7 : Int32) &&& 0x3f).toInt64)))])) _
                            refine XS.iload X45.here hx rfl (hb hby at_376) rfl ?_
                            show Steps p.tables e below (T45.setTop (mkF m 378 #[.val (.long a1), .second, .val (.int a2), .val (.int (Int32.ofNat pn)), .val (.ref ar), .val (.int c0), .val (.int c1), .val (.int c2), .val (.int c3), .val (.int c4), .val (.long (-1 : Int64)), .second, .val (.int (0 : Int32)), .unset, .unset, .unset] [(.int c2), (.long (((c0 &&& (127 : Int32)).toInt64) ||| (((c1 &&& (127 : Int32)).toInt64) <<< ((7 : Int32) &&& 0x3f).toInt64)))])) _
                            refine XS.bipush X45.here hx rfl (hb hby at_378) ?_
                            show Steps p.tables e below (T45.setTop (mkF m 380 #[.val (.long a1), .second, .val (.int a2), .val (.int (Int32.ofNat pn)), .val (.ref ar), .val (.int c0), .val (.int c1), .val (.int c2), .val (.int c3), .val (.int c4), .val (.long (-1 : Int64)), .second, .val (.int (0 : Int32)), .unset, .unset, .unset] [(.int (127 : Int32)), (.int c2), (.long (((c0 &&& (127 : Int32)).toInt64) ||| (((c1 &&& (127 : Int32)).toInt64) <<< ((7 : Int32) &&& 0x3f).toInt64)))])) _
                            refine XS.iand X45.here hx rfl (hb hby at_380) rfl ?_
                            show Steps p.tables e below (T45.setTop (mkF m 381 #[.val (.long a1), .second, .val (.int a2), .val (.int (Int32.ofNat pn)), .val (.ref ar), .val (.int c0), .val (.int c1), .val (.int c2), .val (.int c3), .val (.int c4), .val (.long (-1 : Int64)), .second, .val (.int (0 : Int32)), .unset, .unset, .unset] [(.int (c2 &&& (127 : Int32))), (.long (((c0 &&& (127 : Int32)).toInt64) ||| (((c1 &&& (127 : Int32)).toInt64) <<< ((7 : Int32) &&& 0x3f).toInt64)))])) _
                            refine XS.i2l X45.here hx rfl (hb hby at_381) rfl ?_
                            show Steps p.tables e below (T45.setTop (mkF m 382 #[.val (.long a1), .second, .val (.int a2), .val (.int (Int32.ofNat pn)), .val (.ref ar), .val (.int c0), .val (.int c1), .val (.int c2), .val (.int c3), .val (.int c4), .val (.long (-1 : Int64)), .second, .val (.int (0 : Int32)), .unset, .unset, .unset] [(.long ((c2 &&& (127 : Int32)).toInt64)), (.long (((c0 &&& (127 : Int32)).toInt64) ||| (((c1 &&& (127 : Int32)).toInt64) <<< ((7 : Int32) &&& 0x3f).toInt64)))])) _
                            refine XS.bipush X45.here hx rfl (hb hby at_382) ?_
                            show Steps p.tables e below (T45.setTop (mkF m 384 #[.val (.long a1), .second, .val (.int a2), .val (.int (Int32.ofNat pn)), .val (.ref ar), .val (.int c0), .val (.int c1), .val (.int c2), .val (.int c3), .val (.int c4), .val (.long (-1 : Int64)), .second, .val (.int (0 : Int32)), .unset, .unset, .unset] [(.int (14 : Int32)), (.long ((c2 &&& (127 : Int32)).toInt64)), (.long (((c0 &&& (127 : Int32)).toInt64) ||| (((c1 &&& (127 : Int32)).toInt64) <<< ((7 : Int32) &&& 0x3f).toInt64)))])) _
                            refine XS.lshl X45.here hx rfl (hb hby at_384) rfl ?_
                            show Steps p.tables e below (T45.setTop (mkF m 385 #[.val (.long a1), .second, .val (.int a2), .val (.int (Int32.ofNat pn)), .val (.ref ar), .val (.int c0), .val (.int c1), .val (.int c2), .val (.int c3), .val (.int c4), .val (.long (-1 : Int64)), .second, .val (.int (0 : Int32)), .unset, .unset, .unset] [(.long (((c2 &&& (127 : Int32)).toInt64) <<< ((14 : Int32) &&& 0x3f).toInt64)), (.long (((c0 &&& (127 : Int32)).toInt64) ||| (((c1 &&& (127 : Int32)).toInt64) <<< ((7 : Int32) &&& 0x3f).toInt64)))])) _
                            refine XS.lor X45.here hx rfl (hb hby at_385) rfl ?_
                            show Steps p.tables e below (T45.setTop (mkF m 386 #[.val (.long a1), .second, .val (.int a2), .val (.int (Int32.ofNat pn)), .val (.ref ar), .val (.int c0), .val (.int c1), .val (.int c2), .val (.int c3), .val (.int c4), .val (.long (-1 : Int64)), .second, .val (.int (0 : Int32)), .unset, .unset, .unset] [(.long ((((c0 &&& (127 : Int32)).toInt64) ||| (((c1 &&& (127 : Int32)).toInt64) <<< ((7 : Int32) &&& 0x3f).toInt64)) ||| (((c2 &&& (127 : Int32)).toInt64) <<< ((14 : Int32) &&& 0x3f).toInt64)))])) _
                            refine XS.iload X45.here hx rfl (hb hby at_386) rfl ?_
                            show Steps p.tables e below (T45.setTop (mkF m 388 #[.val (.long a1), .second, .val (.int a2), .val (.int (Int32.ofNat pn)), .val (.ref ar), .val (.int c0), .val (.int c1), .val (.int c2), .val (.int c3), .val (.int c4), .val (.long (-1 : Int64)), .second, .val (.int (0 : Int32)), .unset, .unset, .unset] [(.int c3), (.long ((((c0 &&& (127 : Int32)).toInt64) ||| (((c1 &&& (127 : Int32)).toInt64) <<< ((7 : Int32) &&& 0x3f).toInt64)) ||| (((c2 &&& (127 : Int32)).toInt64) <<< ((14 : Int32) &&& 0x3f).toInt64)))])) _
                            refine XS.bipush X45.here hx rfl (hb hby at_388) ?_
                            show Steps p.tables e below (T45.setTop (mkF m 390 #[.val (.long a1), .second, .val (.int a2), .val (.int (Int32.ofNat pn)), .val (.ref ar), .val (.int c0), .val (.int c1), .val (.int c2), .val (.int c3), .val (.int c4), .val (.long (-1 : Int64)), .second, .val (.int (0 : Int32)), .unset, .unset, .unset] [(.int (127 : Int32)), (.int c3), (.long ((((c0 &&& (127 : Int32)).toInt64) ||| (((c1 &&& (127 : Int32)).toInt64) <<< ((7 : Int32) &&& 0x3f).toInt64)) ||| (((c2 &&& (127 : Int32)).toInt64) <<< ((14 : Int32) &&& 0x3f).toInt64)))])) _
                            refine XS.iand X45.here hx rfl (hb hby at_390) rfl ?_
                            show Steps p.tables e below (T45.setTop (mkF m 391 #[.val (.long a1), .second, .val (.int a2), .val (.int (Int32.ofNat pn)), .val (.ref ar), .val (.int c0), .val (.int c1), .val (.int c2), .val (.int c3), .val (.int c4), .val (.long (-1 : Int64)), .second, .val (.int (0 : Int32)), .unset, .unset, .unset] [(.int (c3 &&& (127 : Int32))), (.long ((((c0 &&& (127 : Int32)).toInt64) ||| (((c1 &&& (127 : Int32)).toInt64) <<< ((7 : Int32) &&& 0x3f).toInt64)) ||| (((c2 &&& (127 : Int32)).toInt64) <<< ((14 : Int32) &&& 0x3f).toInt64)))])) _
                            refine XS.i2l X45.here hx rfl (hb hby at_391) rfl ?_
                            show Steps p.tables e below (T45.setTop (mkF m 392 #[.val (.long a1), .second, .val (.int a2), .val (.int (Int32.ofNat pn)), .val (.ref ar), .val (.int c0), .val (.int c1), .val (.int c2), .val (.int c3), .val (.int c4), .val (.long (-1 : Int64)), .second, .val (.int (0 : Int32)), .unset, .unset, .unset] [(.long ((c3 &&& (127 : Int32)).toInt64)), (.long ((((c0 &&& (127 : Int32)).toInt64) ||| (((c1 &&& (127 : Int32)).toInt64) <<< ((7 : Int32) &&& 0x3f).toInt64)) ||| (((c2 &&& (127 : Int32)).toInt64) <<< ((14 : Int32) &&& 0x3f).toInt64)))])) _
                            refine XS.bipush X45.here hx rfl (hb hby at_392) ?_
                            show Steps p.tables e below (T45.setTop (mkF m 394 #[.val (.long a1), .second, .val (.int a2), .val (.int (Int32.ofNat pn)), .val (.ref ar), .val (.int c0), .val (.int c1), .val (.int c2), .val (.int c3), .val (.int c4), .val (.long (-1 : Int64)), .second, .val (.int (0 : Int32)), .unset, .unset, .unset] [(.int (21 : Int32)), (.long ((c3 &&& (127 : Int32)).toInt64)), (.long ((((c0 &&& (127 : Int32)).toInt64) ||| (((c1 &&& (127 : Int32)).toInt64) <<< ((7 : Int32) &&& 0x3f).toInt64)) ||| (((c2 &&& (127 : Int32)).toInt64) <<< ((14 : Int32) &&& 0x3f).toInt64)))])) _
                            refine XS.lshl X45.here hx rfl (hb hby at_394) rfl ?_
                            show Steps p.tables e below (T45.setTop (mkF m 395 #[.val (.long a1), .second, .val (.int a2), .val (.int (Int32.ofNat pn)), .val (.ref ar), .val (.int c0), .val (.int c1), .val (.int c2), .val (.int c3), .val (.int c4), .val (.long (-1 : Int64)), .second, .val (.int (0 : Int32)), .unset, .unset, .unset] [(.long (((c3 &&& (127 : Int32)).toInt64) <<< ((21 : Int32) &&& 0x3f).toInt64)), (.long ((((c0 &&& (127 : Int32)).toInt64) ||| (((c1 &&& (127 : Int32)).toInt64) <<< ((7 : Int32) &&& 0x3f).toInt64)) ||| (((c2 &&& (127 : Int32)).toInt64) <<< ((14 : Int32) &&& 0x3f).toInt64)))])) _
                            refine XS.lor X45.here hx rfl (hb hby at_395) rfl ?_
                            show Steps p.tables e below (T45.setTop (mkF m 396 #[.val (.long a1), .second, .val (.int a2), .val (.int (Int32.ofNat pn)), .val (.ref ar), .val (.int c0), .val (.int c1), .val (.int c2), .val (.int c3), .val (.int c4), .val (.long (-1 : Int64)), .second, .val (.int (0 : Int32)), .unset, .unset, .unset] [(.long (((((c0 &&& (127 : Int32)).toInt64) ||| (((c1 &&& (127 : Int32)).toInt64) <<< ((7 : Int32) &&& 0x3f).toInt64)) ||| (((c2 &&& (127 : Int32)).toInt64) <<< ((14 : Int32) &&& 0x3f).toInt64)) ||| (((c3 &&& (127 : Int32)).toInt64) <<< ((21 : Int32) &&& 0x3f).toInt64)))])) _
                            refine XS.iload X45.here hx rfl (hb hby at_396) rfl ?_
                            show Steps p.tables e below (T45.setTop (mkF m 398 #[.val (.long a1), .second, .val (.int a2), .val (.int (Int32.ofNat pn)), .val (.ref ar), .val (.int c0), .val (.int c1), .val (.int c2), .val (.int c3), .val (.int c4), .val (.long (-1 : Int64)), .second, .val (.int (0 : Int32)), .unset, .unset, .unset] [(.int c4), (.long (((((c0 &&& (127 : Int32)).toInt64) ||| (((c1 &&& (127 : Int32)).toInt64) <<< ((7 : Int32) &&& 0x3f).toInt64)) ||| (((c2 &&& (127 : Int32)).toInt64) <<< ((14 : Int32) &&& 0x3f).toInt64)) ||| (((c3 &&& (127 : Int32)).toInt64) <<< ((21 : Int32) &&& 0x3f).toInt64)))])) _
                            refine XS.i2l X45.here hx rfl (hb hby at_398) rfl ?_
                            show Steps p.tables e below (T45.setTop (mkF m 399 #[.val (.long a1), .second, .val (.int a2), .val (.int (Int32.ofNat pn)), .val (.ref ar), .val (.int c0), .val (.int c1), .val (.int c2), .val (.int c3), .val (.int c4), .val (.long (-1 : Int64)), .second, .val (.int (0 : Int32)), .unset, .unset, .unset] [(.long (c4.toInt64)), (.long (((((c0 &&& (127 : Int32)).toInt64) ||| (((c1 &&& (127 : Int32)).toInt64) <<< ((7 : Int32) &&& 0x3f).toInt64)) ||| (((c2 &&& (127 : Int32)).toInt64) <<< ((14 : Int32) &&& 0x3f).toInt64)) ||| (((c3 &&& (127 : Int32)).toInt64) <<< ((21 : Int32) &&& 0x3f).toInt64)))])) _
                            refine XS.bipush X45.here hx rfl (hb hby at_399) ?_
                            show Steps p.tables e below (T45.setTop (mkF m 401 #[.val (.long a1), .second, .val (.int a2), .val (.int (Int32.ofNat pn)), .val (.ref ar), .val (.int c0), .val (.int c1), .val (.int c2), .val (.int c3), .val (.int c4), .val (.long (-1 : Int64)), .second, .val (.int (0 : Int32)), .unset, .unset, .unset] [(.int (28 : Int32)), (.long (c4.toInt64)), (.long (((((c0 &&& (127 : Int32)).toInt64) ||| (((c1 &&& (127 : Int32)).toInt64) <<< ((7 : Int32) &&& 0x3f).toInt64)) ||| (((c2 &&& (127 : Int32)).toInt64) <<< ((14 : Int32) &&& 0x3f).toInt64)) ||| (((c3 &&& (127 : Int32)).toInt64) <<< ((21 : Int32) &&& 0x3f).toInt64)))])) _
                            refine XS.lshl X45.here hx rfl (hb hby at_401) rfl ?_
                            show Steps p.tables e below (T45.setTop (mkF m 402 #[.val (.long a1), .second, .val (.int a2), .val (.int (Int32.ofNat pn)), .val (.ref ar), .val (.int c0), .val (.int c1), .val (.int c2), .val (.int c3), .val (.int c4), .val (.long (-1 : Int64)), .second, .val (.int (0 : Int32)), .unset, .unset, .unset] [(.long ((c4.toInt64) <<< ((28 : Int32) &&& 0x3f).toInt64)), (.long (((((c0 &&& (127 : Int32)).toInt64) ||| (((c1 &&& (127 : Int32)).toInt64) <<< ((7 : Int32) &&& 0x3f).toInt64)) ||| (((c2 &&& (127 : Int32)).toInt64) <<< ((14 : Int32) &&& 0x3f).toInt64)) ||| (((c3 &&& (127 : Int32)).toInt64) <<< ((21 : Int32) &&& 0x3f).toInt64)))])) _
                            refine XS.lor X45.here hx rfl (hb hby at_402) rfl ?_
                            show Steps p.tables e below (T45.setTop (mkF m 403 #[.val (.long a1), .second, .val (.int a2), .val (.int (Int32.ofNat pn)), .val (.ref ar), .val (.int c0), .val (.int c1), .val (.int c2), .val (.int c3), .val (.int c4), .val (.long (-1 : Int64)), .second, .val (.int (0 : Int32)), .unset, .unset, .unset] [(.long ((((((c0 &&& (127 : Int32)).toInt64) ||| (((c1 &&& (127 : Int32)).toInt64) <<< ((7 : Int32) &&& 0x3f).toInt64)) ||| (((c2 &&& (127 : Int32)).toInt64) <<< ((14 : Int32) &&& 0x3f).toInt64)) ||| (((c3 &&& (127 : Int32)).toInt64) <<< ((21 : Int32) &&& 0x3f).toInt64)) ||| ((c4.toInt64) <<< ((28 : Int32) &&& 0x3f).toInt64)))])) _
                            refine XS.lstore X45.here hx rfl (hb hby at_403) rfl (l' := #[.val (.long a1), .second, .val (.int a2), .val (.int (Int32.ofNat pn)), .val (.ref ar), .val (.int c0), .val (.int c1), .val (.int c2), .val (.int c3), .val (.int c4), .val (.long ((((((c0 &&& (127 : Int32)).toInt64) ||| (((c1 &&& (127 : Int32)).toInt64) <<< ((7 : Int32) &&& 0x3f).toInt64)) ||| (((c2 &&& (127 : Int32)).toInt64) <<< ((14 : Int32) &&& 0x3f).toInt64)) ||| (((c3 &&& (127 : Int32)).toInt64) <<< ((21 : Int32) &&& 0x3f).toInt64)) ||| ((c4.toInt64) <<< ((28 : Int32) &&& 0x3f).toInt64))), .second, .val (.int (0 : Int32)), .unset, .unset, .unset]) rfl ?_
                            show Steps p.tables e below (T45.setTop (mkF m 405 #[.val (.long a1), .second, .val (.int a2), .val (.int (Int32.ofNat pn)), .val (.ref ar), .val (.int c0), .val (.int c1), .val (.int c2), .val (.int c3), .val (.int c4), .val (.long ((((((c0 &&& (127 : Int32)).toInt64) ||| (((c1 &&& (127 : Int32)).toInt64) <<< ((7 : Int32) &&& 0x3f).toInt64)) ||| (((c2 &&& (127 : Int32)).toInt64) <<< ((14 : Int32) &&& 0x3f).toInt64)) ||| (((c3 &&& (127 : Int32)).toInt64) <<< ((21 : Int32) &&& 0x3f).toInt64)) ||| ((c4.toInt64) <<< ((28 : Int32) &&& 0x3f).toInt64))), .second, .val (.int (0 : Int32)), .unset, .unset, .unset] [])) _
                            refine XS.iconst X45.here hx rfl (hb hby at_405) ?_
                            show Steps p.tables e below (T45.setTop (mkF m 406 #[.val (.long a1), .second, .val (.int a2), .val (.int (Int32.ofNat pn)), .val (.ref ar), .val (.int c0), .val (.int c1), .val (.int c2), .val (.int c3), .val (.int c4), .val (.long ((((((c0 &&& (127 : Int32)).toInt64) ||| (((c1 &&& (127 : Int32)).toInt64) <<< ((7 : Int32) &&& 0x3f).toInt64)) ||| (((c2 &&& (127 : Int32)).toInt64) <<< ((14 : Int32) &&& 0x3f).toInt64)) ||| (((c3 &&& (127 : Int32)).toInt64) <<< ((21 : Int32) &&& 0x3f).toInt64)) ||| ((c4.toInt64) <<< ((28 : Int32) &&& 0x3f).toInt64))), .second, .val (.int (0 : Int32)), .unset, .unset, .unset] [(.int (5 : Int32))])) _
                            refine XS.istore X45.here hx rfl (hb hby at_406) rfl (l' := #[.val (.long a1), .second, .val (.int a2), .val (.int (Int32.ofNat pn)), .val (.ref ar), .val (.int c0), .val (.int c1), .val (.int c2), .val (.int c3), .val (.int c4), .val (.long ((((((c0 &&& (127 : Int32)).toInt64) ||| (((c1 &&& (127 : Int32)).toInt64) <<< ((7 : Int32) &&& 0x3f).toInt64)) ||| (((c2 &&& (127 : Int32)).toInt64) <<< ((14 : Int32) &&& 0x3f).toInt64)) ||| (((c3 &&& (127 : Int32)).toInt64) <<< ((21 : Int32) &&& 0x3f).toInt64)) ||| ((c4.toInt64) <<< ((28 : Int32) &&& 0x3f).toInt64))), .second, .val (.int (5 : Int32)), .unset, .unset, .unset]) rfl ?_
                            show Steps p.tables e below (T45.setTop (mkF m 408 #[.val (.long a1), .second, .val (.int a2), .val (.int (Int32.ofNat pn)), .val (.ref ar), .val (.int c0), .val (.int c1), .val (.int c2), .val (.int c3), .val (.int c4), .val (.long ((((((c0 &&& (127 : Int32)).toInt64) ||| (((c1 &&& (127 : Int32)).toInt64) <<< ((7 : Int32) &&& 0x3f).toInt64)) ||| (((c2 &&& (127 : Int32)).toInt64) <<< ((14 : Int32) &&& 0x3f).toInt64)) ||| (((c3 &&& (127 : Int32)).toInt64) <<< ((21 : Int32) &&& 0x3f).toInt64)) ||| ((c4.toInt64) <<< ((28 : Int32) &&& 0x3f).toInt64))), .second, .val (.int (5 : Int32)), .unset, .unset, .unset] [])) _
                            refine XS.goto X45.here hx rfl (pc0 := 408) (pc' := 416) rfl (hb hby at_408) (by decide) (by decide) ?_
                            exact kt
                          exact ⟨T45, _, ((((((c0 &&& (127 : Int32)).toInt64) ||| (((c1 &&& (127 : Int32)).toInt64) <<< ((7 : Int32) &&& 0x3f).toInt64)) ||| (((c2 &&& (127 : Int32)).toInt64) <<< ((14 : Int32) &&& 0x3f).toInt64)) ||| (((c3 &&& (127 : Int32)).toInt64) <<< ((21 : Int32) &&& 0x3f).toInt64)) ||| ((c4.toInt64) <<< ((28 : Int32) &&& 0x3f).toInt64)), (5 : Int32), X45, eq45, N45, (by simp [own_val, own_ln, hc149, hc162, hc181, hc194, hc223, hc236, hc275, hc288, hc337, hc350, hc357]), pre68⟩
                  case neg =>
                    have pre69 : ∀ t, Steps p.tables e below (T45.setTop (mkF m 416 #[.val (.long a1), .second, .val (.int a2), .val (.int (Int32.ofNat pn)), .val (.ref ar), .val (.int c0), .val (.int c1), .val (.int c2), .val (.int c3), .val (.int c4), .val (.long (((((c0 &&& (127 : Int32)).toInt64) ||| (((c1 &&& (127 : Int32)).toInt64) <<< ((7 : Int32) &&& 0x3f).toInt64)) ||| (((c2 &&& (127 : Int32)).toInt64) <<< ((14 : Int32) &&& 0x3f).toInt64)) ||| ((c3.toInt64) <<< ((21 : Int32) &&& 0x3f).toInt64))), .second, .val (.int (4 : Int32)), .unset, .unset, .unset] [])) t → Steps p.tables e below (s₁.setTop (entryFrame m #[(.long a1), (.int a2)] maxLocals)) t := by
                      intro t kt
                      refine pre61 t ?_
                      show Steps p.tables e below (T45.setTop (mkF m 288 #[.val (.long a1), .second, .val (.int a2), .val (.int (Int32.ofNat pn)), .val (.ref ar), .val (.int c0), .val (.int c1), .val (.int c2), .val (.int c3), .val (.int c4), .val (.long (-1 : Int64)), .second, .val (.int (0 : Int32)), .unset, .unset, .unset] [(.int c3)])) _
                      refine XS.ifNo X45.here hx rfl (hb hby at_288) rfl ((if0 _ _).trans (flt hc288).1) ?_
                      show Steps p.tables e below (T45.setTop (mkF m 291 #[.val (.long a1), .second, .val (.int a2), .val (.int (Int32.ofNat pn)), .val (.ref ar), .val (.int c0), .val (.int c1), .val (.int c2), .val (.int c3), .val (.int c4), .val (.long (-1 : Int64)), .second, .val (.int (0 : Int32)), .unset, .unset, .unset] [])) _
                      refine XS.iload X45.here hx rfl (hb hby at_291) rfl ?_
                      show Steps p.tables e below (T45.setTop (mkF m 293 #[.val (.long a1), .second, .val (.int a2), .val (.int (Int32.ofNat pn)), .val (.ref ar), .val (.int c0), .val (.int c1), .val (.int c2), .val (.int c3), .val (.int c4), .val (.long (-1 : Int64)), .second, .val (.int (0 : Int32)), .unset, .unset, .unset] [(.int c0)])) _
                      refine XS.bipush X45.here hx rfl (hb hby at_293) ?_
                      show Steps p.tables e below (T45.setTop (mkF m 295 #[.val (.long a1), .second, .val (.int a2), .val (.int (Int32.ofNat pn)), .val (.ref ar), .val (.int c0), .val (.int c1), .val (.int c2), .val (.int c3), .val (.int c4), .val (.long (-1 : Int64)), .second, .val (.int (0 : Int32)), .unset, .unset, .unset] [(.int (127 : Int32)), (.int c0)])) _
                      refine XS.iand X45.here hx rfl (hb hby at_295) rfl ?_
                      show Steps p.tables e below (T45.setTop (mkF m 296 #[.val (.long a1), .second, .val (.int a2), .val (.int (Int32.ofNat pn)), .val (.ref ar), .val (.int c0), .val (.int c1), .val (.int c2), .val (.int c3), .val (.int c4), .val (.long (-1 : Int64)), .second, .val (.int (0 : Int32)), .unset, .unset, .unset] [(.int (c0 &&& (127 : Int32)))])) _
                      refine XS.i2l X45.here hx rfl (hb hby at_296) rfl ?_
                      show Steps p.tables e below (T45.setTop (mkF m 297 #[.val (.long a1), .second, .val (.int a2), .val (.int (Int32.ofNat pn)), .val (.ref ar), .val (.int c0), .val (.int c1), .val (.int c2), .val (.int c3), .val (.int c4), .val (.long (-1 : Int64)), .second, .val (.int (0 : Int32)), .unset, .unset, .unset] [(.long ((c0 &&& (127 : Int32)).toInt64))])) _
                      refine XS.iload X45.here hx rfl (hb hby at_297) rfl ?_
                      show Steps p.tables e below (T45.setTop (mkF m 299 #[.val (.long a1), .second, .val (.int a2), .val (.int (Int32.ofNat pn)), .val (.ref ar), .val (.int c0), .val (.int c1), .val (.int c2), .val (.int c3), .val (.int c4), .val (.long (-1 : Int64)), .second, .val (.int (0 : Int32)), .unset, .unset, .unset] [(.int c1), (.long ((c0 &&& (127 : Int32)).toInt64))])) _
                      refine XS.bipush X45.here hx rfl (hb hby at_299) ?_
                      show Steps p.tables e below (T45.setTop (mkF m 301 #[.val (.long a1), .second, .val (.int a2), .val (.int (Int32.ofNat pn)), .val (.ref ar), .val (.int c0), .val (.int c1), .val (.int c2), .val (.int c3), .val (.int c4), .val (.long (-1 : Int64)), .second, .val (.int (0 : Int32)), .unset, .unset, .unset] [(.int (127 : Int32)), (.int c1), (.long ((c0 &&& (127 : Int32)).toInt64))])) _
                      refine XS.iand X45.here hx rfl (hb hby at_301) rfl ?_
                      show Steps p.tables e below (T45.setTop (mkF m 302 #[.val (.long a1), .second, .val (.int a2), .val (.int (Int32.ofNat pn)), .val (.ref ar), .val (.int c0), .val (.int c1), .val (.int c2), .val (.int c3), .val (.int c4), .val (.long (-1 : Int64)), .second, .val (.int (0 : Int32)), .unset, .unset, .unset] [(.int (c1 &&& (127 : Int32))), (.long ((c0 &&& (127 : Int32)).toInt64))])) _
                      refine XS.i2l X45.here hx rfl (hb hby at_302) rfl ?_
                      show Steps p.tables e below (T45.setTop (mkF m 303 #[.val (.long a1), .second, .val (.int a2), .val (.int (Int32.ofNat pn)), .val (.ref ar), .val (.int c0), .val (.int c1), .val (.int c2), .val (.int c3), .val (.int c4), .val (.long (-1 : Int64)), .second, .val (.int (0 : Int32)), .unset, .unset, .unset] [(.long ((c1 &&& (127 : Int32)).toInt64)), (.long ((c0 &&& (127 : Int32)).toInt64))])) _
                      refine XS.bipush X45.here hx rfl (hb hby at_303) ?_
                      show Steps p.tables e below (T45.setTop (mkF m 305 #[.val (.long a1), .second, .val (.int a2), .val (.int (Int32.ofNat pn)), .val (.ref ar), .val (.int c0), .val (.int c1), .val (.int c2), .val (.int c3), .val (.int c4), .val (.long (-1 : Int64)), .second, .val (.int (0 : Int32)), .unset, .unset, .unset] [(.int (7 : Int32)), (.long ((c1 &&& (127 : Int32)).toInt64)), (.long ((c0 &&& (127 : Int32)).toInt64))])) _
                      refine XS.lshl X45.here hx rfl (hb hby at_305) rfl ?_
                      show Steps p.tables e below (T45.setTop (mkF m 306 #[.val (.long a1), .second, .val (.int a2), .val (.int (Int32.ofNat pn)), .val (.ref ar), .val (.int c0), .val (.int c1), .val (.int c2), .val (.int c3), .val (.int c4), .val (.long (-1 : Int64)), .second, .val (.int (0 : Int32)), .unset, .unset, .unset] [(.long (((c1 &&& (127 : Int32)).toInt64) <<< ((7 : Int32) &&& 0x3f).toInt64)), (.long ((c0 &&& (127 : Int32)).toInt64))])) _
                      refine XS.lor X45.here hx rfl (hb hby at_306) rfl ?_
                      show Steps p.tables e below (T45.setTop (mkF m 307 #[.val (.long a1), .second, .val (.int a2), .val (.int (Int32.ofNat pn)), .val (.ref ar), .val (.int c0), .val (.int c1), .val (.int c2), .val (.int c3), .val (.int c4), .val (.long (-1 : Int64)), .second, .val (.int (0 : Int32)), .unset, .unset, .unset] [(.long (((c0 &&& (127 : Int32)).toInt64) ||| (((c1 &&& (127 : Int32)).toInt64) <<< ((7 : Int32) &&& 0x3f).toInt64)))])) _
                      refine XS.iload X45.here hx rfl (hb hby at_307) rfl ?_
                      show Steps p.tables e below (T45.setTop (mkF m 309 #[.val (.long a1), .second, .val (.int a2), .val (.int (Int32.ofNat pn)), .val (.ref ar), .val (.int c0), .val (.int c1), .val (.int c2), .val (.int c3), .val (.int c4), .val (.long (-1 : Int64)), .second, .val (.int (0 : Int32)), .unset, .unset, .unset] [(.int c2), (.long (((c0 &&& (127 : Int32)).toInt64) ||| (((c1 &&& (127 : Int32)).toInt64) <<< ((7 : Int32) &&& 0x3f).toInt64)))])) _
                      refine XS.bipush X45.here hx rfl (hb hby at_309) ?_
                      show Steps p.tables e below (T45.setTop (mkF m 311 #[.val (.long a1), .second, .val (.int a2), .val (.int (Int32.ofNat pn)), .val (.ref ar), .val (.int c0), .val (.int c1), .val (.int c2), .val (.int c3), .val (.int c4), .val (.long (-1 : Int64)), .second, .val (.int (0 : Int32)), .unset, .unset, .unset] [(.int (127 : Int32)), (.int c2), (.long (((c0 &&& (127 : Int32)).toInt64) ||| (((c1 &&& (127 : Int32)).toInt64) <<< ((7 : Int32) &&& 0x3f).toInt64)))])) _
                      refine XS.iand X45.here hx rfl (hb hby at_311) rfl ?_
                      show Steps p.tables e below (T45.setTop (mkF m 312 #[.val (.long a1), .second, .val (.int a2), .val (.int (Int32.ofNat pn)), .val (.ref ar), .val (.int c0), .val (.int c1), .val (.int c2), .val (.int c3), .val (.int c4), .val (.long (-1 : Int64)), .second, .val (.int (0 : Int32)), .unset, .unset, .unset] [(.int (c2 &&& (127 : Int32))), (.long (((c0 &&& (127 : Int32)).toInt64) ||| (((c1 &&& (127 : Int32)).toInt64) <<< ((7 : Int32) &&& 0x3f).toInt64)))])) _
                      refine XS.i2l X45.here hx rfl (hb hby at_312) rfl ?_
                      show Steps p.tables e below (T45.setTop (mkF m 313 #[.val (.long a1), .second, .val (.int a2), .val (.int (Int32.ofNat pn)), .val (.ref ar), .val (.int c0), .val (.int c1), .val (.int c2), .val (.int c3), .val (.int c4), .val (.long (-1 : Int64)), .second, .val (.int (0 : Int32)), .unset, .unset, .unset] [(.long ((c2 &&& (127 : Int32)).toInt64)), (.long (((c0 &&& (127 : Int32)).toInt64) ||| (((c1 &&& (127 : Int32)).toInt64) <<< ((7 : Int32) &&& 0x3f).toInt64)))])) _
                      refine XS.bipush X45.here hx rfl (hb hby at_313) ?_
                      show Steps p.tables e below (T45.setTop (mkF m 315 #[.val (.long a1), .second, .val (.int a2), .val (.int (Int32.ofNat pn)), .val (.ref ar), .val (.int c0), .val (.int c1), .val (.int c2), .val (.int c3), .val (.int c4), .val (.long (-1 : Int64)), .second, .val (.int (0 : Int32)), .unset, .unset, .unset] [(.int (14 : Int32)), (.long ((c2 &&& (127 : Int32)).toInt64)), (.long (((c0 &&& (127 : Int32)).toInt64) ||| (((c1 &&& (127 : Int32)).toInt64) <<< ((7 : Int32) &&& 0x3f).toInt64)))])) _
                      refine XS.lshl X45.here hx rfl (hb hby at_315) rfl ?_
                      show Steps p.tables e below (T45.setTop (mkF m 316 #[.val (.long a1), .second, .val (.int a2), .val (.int (Int32.ofNat pn)), .val (.ref ar), .val (.int c0), .val (.int c1), .val (.int c2), .val (.int c3), .val (.int c4), .val (.long (-1 : Int64)), .second, .val (.int (0 : Int32)), .unset, .unset, .unset] [(.long (((c2 &&& (127 : Int32)).toInt64) <<< ((14 : Int32) &&& 0x3f).toInt64)), (.long (((c0 &&& (127 : Int32)).toInt64) ||| (((c1 &&& (127 : Int32)).toInt64) <<< ((7 : Int32) &&& 0x3f).toInt64)))])) _
                      refine XS.lor X45.here hx rfl (hb hby at_316) rfl ?_
                      show Steps p.tables e below (T45.setTop (mkF m 317 #[.val (.long a1), .second, .val (.int a2), .val (.int (Int32.ofNat pn)), .val (.ref ar), .val (.int c0), .val (.int c1), .val (.int c2), .val (.int c3), .val (.int c4), .val (.long (-1 : Int64)), .second, .val (.int (0 : Int32)), .unset, .unset, .unset] [(.long ((((c0 &&& (127 : Int32)).toInt64) ||| (((c1 &&& (127 : Int32)).toInt64) <<< ((7 : Int32) &&& 0x3f).toInt64)) ||| (((c2 &&& (127 : Int32)).toInt64) <<< ((14 : Int32) &&& 0x3f).toInt64)))])) _
                      refine XS.iload X45.here hx rfl (hb hby at_317) rfl ?_
                      show Steps p.tables e below (T45.setTop (mkF m 319 #[.val (.long a1), .second, .val (.int a2), .val (.int (Int32.ofNat pn)), .val (.ref ar), .val (.int c0), .val (.int c1), .val (.int c2), .val (.int c3), .val (.int c4), .val (.long (-1 : Int64)), .second, .val (.int (0 : Int32)), .unset, .unset, .unset] [(.int c3), (.long ((((c0 &&& (127 : Int32)).toInt64) ||| (((c1 &&& (127 : Int32)).toInt64) <<< ((7 : Int32) &&& 0x3f).toInt64)) ||| (((c2 &&& (127 : Int32)).toInt64) <<< ((14 : Int32) &&& 0x3f).toInt64)))])) _
                      refine XS.i2l X45.here hx rfl (hb hby at_319) rfl ?_
                      show Steps p.tables e below (T45.setTop (mkF m 320 #[.val (.long a1), .second, .val (.int a2), .val (.int (Int32.ofNat pn)), .val (.ref ar), .val (.int c0), .val (.int c1), .val (.int c2), .val (.int c3), .val (.int c4), .val (.long (-1 : Int64)), .second, .val (.int (0 : Int32)), .unset, .unset, .unset] [(.long (c3.toInt64)), (.long ((((c0 &&& (127 : Int32)).toInt64) ||| (((c1 &&& (127 : Int32)).toInt64) <<< ((7 : Int32) &&& 0x3f).toInt64)) ||| (((c2 &&& (127 : Int32)).toInt64) <<< ((14 : Int32) &&& 0x3f).toInt64)))])) _
                      refine XS.bipush X45.here hx rfl (hb hby at_320) ?_
                      show Steps p.tables e below (T45.setTop (mkF m 322 #[.val (.long a1), .second, .val (.int a2), .val (.int (Int32.ofNat pn)), .val (.ref ar), .val (.int c0), .val (.int c1), .val (.int c2), .val (.int c3), .val (.int c4), .val (.long (-1 : Int64)), .second, .val (.int (0 : Int32)), .unset, .unset, .unset] [(.int (21 : Int32)), (.long (c3.toInt64)), (.long ((((c0 &&& (127 : Int32)).toInt64) ||| (((c1 &&& (127 : Int32)).toInt64) <<< ((7 : Int32) &&& 0x3f).toInt64)) ||| (((c2 &&& (127 : Int32)).toInt64) <<< ((14 : Int32) &&& 0x3f).toInt64)))])) _
                      refine XS.lshl X45.here hx rfl (hb hby at_322) rfl ?_
                      show Steps p.tables e below (T45.setTop (mkF m 323 #[.val (.long a1), .second, .val (.int a2), .val (.int (Int32.ofNat pn)), .val (.ref ar), .val (.int c0), .val (.int c1), .val (.int c2), .val (.int c3), .val (.int c4), .val (.long (-1 : Int64)), .second, .val (.int (0 : Int32)), .unset, .unset, .unset] [(.long ((c3.toInt64) <<< ((21 : Int32) &&& 0x3f).toInt64)), (.long ((((c0 &&& (127 : Int32)).toInt64) ||| (((c1 &&& (127 : Int32)).toInt64) <<< ((7 : Int32) &&& 0x3f).toInt64)) ||| (((c2 &&& (127 : Int32)).toInt64) <<< ((14 : Int32) &&& 0x3f).toInt64)))])) _
                      refine XS.lor X45.here hx rfl (hb hby at_323) rfl ?_
                      show Steps p.tables e below (T45.setTop (mkF m 324 #[.val (.long a1), .second, .val (.int a2), .val (.int (Int32.ofNat pn)), .val (.ref ar), .val (.int c0), .val (.int c1), .val (.int c2), .val (.int c3), .val (.int c4), .val (.long (-1 : Int64)), .second, .val (.int (0 : Int32)), .unset, .unset, .unset] [(.long (((((c0 &&& (127 : Int32)).toInt64) ||| (((c1 &&& (127 : Int32)).toInt64) <<< ((7 : Int32) &&& 0x3f).toInt64)) ||| (((c2 &&& (127 : Int32)).toInt64) <<< ((14 : Int32) &&& 0x3f).toInt64)) ||| ((c3.toInt64) <<< ((21 : Int32) &&& 0x3f).toInt64)))])) _
                      refine XS.lstore X45.here hx rfl (hb hby at_324) rfl (l' := #[.val (.long a1), .second, .val (.int a2), .val (.int (Int32.ofNat pn)), .val (.ref ar), .val (.int c0), .val (.int c1), .val (.int c2), .val (.int c3), .val (.int c4), .val (.long (((((c0 &&& (127 : Int32)).toInt64) ||| (((c1 &&& (127 : Int32)).toInt64) <<< ((7 : Int32) &&& 0x3f).toInt64)) ||| (((c2 &&& (127 : Int32)).toInt64) <<< ((14 : Int32) &&& 0x3f).toInt64)) ||| ((c3.toInt64) <<< ((21 : Int32) &&& 0x3f).toInt64))), .second, .val (.int (0 : Int32)), .unset, .unset, .unset]) rfl ?_
                      show Steps p.tables e below (T45.setTop (mkF m 326 #[.val (.long a1), .second, .val (.int a2), .val (.int (Int32.ofNat pn)), .val (.ref ar), .val (.int c0), .val (.int c1), .val (.int c2), .val (.int c3), .val (.int c4), .val (.long (((((c0 &&& (127 : Int32)).toInt64) ||| (((c1 &&& (127 : Int32)).toInt64) <<< ((7 : Int32) &&& 0x3f).toInt64)) ||| (((c2 &&& (127 : Int32)).toInt64) <<< ((14 : Int32) &&& 0x3f).toInt64)) ||| ((c3.toInt64) <<< ((21 : Int32) &&& 0x3f).toInt64))), .second, .val (.int (0 : Int32)), .unset, .unset, .unset] [])) _
                      refine XS.iconst X45.here hx rfl (hb hby at_326) ?_
                      show Steps p.tables e below (T45.setTop (mkF m 327 #[.val (.long a1), .second, .val (.int a2), .val (.int (Int32.ofNat pn)), .val (.ref ar), .val (.int c0), .val (.int c1), .val (.int c2), .val (.int c3), .val (.int c4), .val (.long (((((c0 &&& (127 : Int32)).toInt64) ||| (((c1 &&& (127 : Int32)).toInt64) <<< ((7 : Int32) &&& 0x3f).toInt64)) ||| (((c2 &&& (127 : Int32)).toInt64) <<< ((14 : Int32) &&& 0x3f).toInt64)) ||| ((c3.toInt64) <<< ((21 : Int32) &&& 0x3f).toInt64))), .second, .val (.int (0 : Int32)), .unset, .unset, .unset] [(.int (4 : Int32))])) _
                      refine XS.istore X45.here hx rfl (hb hby at_327) rfl (l' := #[.val (.long a1), .second, .val (.int a2), .val (.int (Int32.ofNat pn)), .val (.ref ar), .val (.int c0), .val (.int c1), .val (.int c2), .val (.int c3), .val (.int c4), .val (.long (((((c0 &&& (127 : Int32)).toInt64) ||| (((c1 &&& (127 : Int32)).toInt64) <<< ((7 : Int32) &&& 0x3f).toInt64)) ||| (((c2 &&& (127 : Int32)).toInt64) <<< ((14 : Int32) &&& 0x3f).toInt64)) ||| ((c3.toInt64) <<< ((21 : Int32) &&& 0x3f).toInt64))), .second, .val (.int (4 : Int32)), .unset, .unset, .unset]) rfl ?_
                      show Steps p.tables e below (T45.setTop (mkF m 329 #[.val (.long a1), .second, .val (.int a2), .val (.int (Int32.ofNat pn)), .val (.ref ar), .val (.int c0), .val (.int c1), .val (.int c2), .val (.int c3), .val (.int c4), .val (.long (((((c0 &&& (127 : Int32)).toInt64) ||| (((c1 &&& (127 : Int32)).toInt64) <<< ((7 : Int32) &&& 0x3f).toInt64)) ||| (((c2 &&& (127 : Int32)).toInt64) <<< ((14 : Int32) &&& 0x3f).toInt64)) ||| ((c3.toInt64) <<< ((21 : Int32) &&& 0x3f).toInt64))), .second, .val (.int (4 : Int32)), .unset, .unset, .unset] [])) _
                      refine XS.goto X45.here hx rfl (pc0 := 329) (pc' := 416) rfl (hb hby at_329) (by decide) (by decide) ?_
                      exact kt
                    exact ⟨T45, _, (((((c0 &&& (127 : Int32)).toInt64) ||| (((c1 &&& (127 : Int32)).toInt64) <<< ((7 : Int32) &&& 0x3f).toInt64)) ||| (((c2 &&& (127 : Int32)).toInt64) <<< ((14 : Int32) &&& 0x3f).toInt64)) ||| ((c3.toInt64) <<< ((21 : Int32) &&& 0x3f).toInt64)), (4 : Int32), X45, eq45, N45, (by simp [own_val, own_ln, hc149, hc162, hc181, hc194, hc223, hc236, hc275, hc288]), pre69⟩
              case neg =>
                have pre70 : ∀ t, Steps p.tables e below (T45.setTop (mkF m 416 #[.val (.long a1), .second, .val (.int a2), .val (.int (Int32.ofNat pn)), .val (.ref ar), .val (.int c0), .val (.int c1), .val (.int c2), .val (.int c3), .val (.int c4), .val (.long ((((c0 &&& (127 : Int32)).toInt64) ||| (((c1 &&& (127 : Int32)).toInt64) <<< ((7 : Int32) &&& 0x3f).toInt64)) ||| ((c2.toInt64) <<< ((14 : Int32) &&& 0x3f).toInt64))), .second, .val (.int (3 : Int32)), .unset, .unset, .unset] [])) t → Steps p.tables e below (s₁.setTop (entryFrame m #[(.long a1), (.int a2)] maxLocals)) t := by
                  intro t kt
                  refine pre58 t ?_
                  show Steps p.tables e below (T45.setTop (mkF m 236 #[.val (.long a1), .second, .val (.int a2), .val (.int (Int32.ofNat pn)), .val (.ref ar), .val (.int c0), .val (.int c1), .val (.int c2), .val (.int c3), .val (.int c4), .val (.long (-1 : Int64)), .second, .val (.int (0 : Int32)), .unset, .unset, .unset] [(.int c2)])) _
                  refine XS.ifNo X45.here hx rfl (hb hby at_236) rfl ((if0 _ _).trans (flt hc236).1) ?_
                  show Steps p.tables e below (T45.setTop (mkF m 239 #[.val (.long a1), .second, .val (.int a2), .val (.int (Int32.ofNat pn)), .val (.ref ar), .val (.int c0), .val (.int c1), .val (.int c2), .val (.int c3), .val (.int c4), .val (.long (-1 : Int64)), .second, .val (.int (0 : Int32)), .unset, .unset, .unset] [])) _
                  refine XS.iload X45.here hx rfl (hb hby at_239) rfl ?_
                  show Steps p.tables e below (T45.setTop (mkF m 241 #[.val (.long a1), .second, .val (.int a2), .val (.int (Int32.ofNat pn)), .val (.ref ar), .val (.int c0), .val (.int c1), .val (.int c2), .val (.int c3), .val (.int c4), .val (.long (-1 : Int64)), .second, .val (.int (0 : Int32)), .unset, .unset, .unset] [(.int c0)])) _
                  refine XS.bipush X45.here hx rfl (hb hby at_241) ?_
                  show Steps p.tables e below (T45.setTop (mkF m 243 #[.val (.long a1), .second, .val (.int a2), .val (.int (Int32.ofNat pn)), .val (.ref ar), .val (.int c0), .val (.int c1), .val (.int c2), .val (.int c3), .val (.int c4), .val (.long (-1 : Int64)), .second, .val (.int (0 : Int32)), .unset, .unset, .unset] [(.int (127 : Int32)), (.int c0)])) _
                  refine XS.iand X45.here hx rfl (hb hby at_243) rfl ?_
                  show Steps p.tables e below (T45.setTop (mkF m 244 #[.val (.long a1), .second, .val (.int a2), .val (.int (Int32.ofNat pn)), .val (.ref ar), .val (.int c0), .val (.int c1), .val (.int c2), .val (.int c3), .val (.int c4), .val (.long (-1 : Int64)), .second, .val (.int (0 : Int32)), .unset, .unset, .unset] [(.int (c0 &&& (127 : Int32)))])) _
                  refine XS.i2l X45.here hx rfl (hb hby at_244) rfl ?_
                  show Steps p.tables e below (T45.setTop (mkF m 245 #[.val (.long a1), .second, .val (.int a2), .val (.int (Int32.ofNat pn)), .val (.ref ar), .val (.int c0), .val (.int c1), .val (.int c2), .val (.int c3), .val (.int c4), .val (.long (-1 : Int64)), .second, .val (.int (0 : Int32)), .unset, .unset, .unset] [(.long ((c0 &&& (127 : Int32)).toInt64))])) _
                  refine XS.iload X45.here hx rfl (hb hby at_245) rfl ?_
                  show Steps p.tables e below (T45.setTop (mkF m 247 #[.val (.long a1), .second, .val (.int a2), .val (.int (Int32.ofNat pn)), .val (.ref ar), .val (.int c0), .val (.int c1), .val (.int c2), .val (.int c3), .val (.int c4), .val (.long (-1 : Int64)), .second, .val (.int (0 : Int32)), .unset, .unset, .unset] [(.int c1), (.long ((c0 &&& (127 : Int32)).toInt64))])) _
                  refine XS.bipush X45.here hx rfl (hb hby at_247) ?_
                  show Steps p.tables e below (T45.setTop (mkF m 249 #[.val (.long a1), .second, .val (.int a2), .val (.int (Int32.ofNat pn)), .val (.ref ar), .val (.int c0), .val (.int c1), .val (.int c2), .val (.int c3), .val (.int c4), .val (.long (-1 : Int64)), .second, .val (.int (0 : Int32)), .unset, .unset, .unset] [(.int (127 : Int32)), (.int c1), (.long ((c0 &&& (127 : Int32)).toInt64))])) _
                  refine XS.iand X45.here hx rfl (hb hby at_249) rfl ?_
                  show Steps p.tables e below (T45.setTop (mkF m 250 #[.val (.long a1), .second, .val (.int a2), .val (.int (Int32.ofNat pn)), .val (.ref ar), .val (.int c0), .val (.int c1), .val (.int c2), .val (.int c3), .val (.int c4), .val (.long (-1 : Int64)), .second, .val (.int (0 : Int32)), .unset, .unset, .unset] [(.int (c1 &&& (127 : Int32))), (.long ((c0 &&& (127 : Int32)).toInt64))])) _
                  refine XS.i2l X45.here hx rfl (hb hby at_250) rfl ?_
                  show Steps p.tables e below (T45.setTop (mkF m 251 #[.val (.long a1), .second, .val (.int a2), .val (.int (Int32.ofNat pn)), .val (.ref ar), .val (.int c0), .val (.int c1), .val (.int c2), .val (.int c3), .val (.int c4), .val (.long (-1 : Int64)), .second, .val (.int (0 : Int32)), .unset, .unset, .unset] [(.long ((c1 &&& (127 : Int32)).toInt64)), (.long ((c0 &&& (127 : Int32)).toInt64))])) _
                  refine XS.bipush X45.here hx rfl (hb hby at_251) ?_
                  show Steps p.tables e below (T45.setTop (mkF m 253 #[.val (.long a1), .second, .val (.int a2), .val (.int (Int32.ofNat pn)), .val (.ref ar), .val (.int c0), .val (.int c1), .val (.int c2), .val (.int c3), .val (.int c4), .val (.long (-1 : Int64)), .second, .val (.int (0 : Int32)), .unset, .unset, .unset] [(.int (7 : Int32)), (.long ((c1 &&& (127 : Int32)).toInt64)), (.long ((c0 &&& (127 : Int32)).toInt64))])) _
                  refine XS.lshl X45.here hx rfl (hb hby at_253) rfl ?_
                  show Steps p.tables e below (T45.setTop (mkF m 254 #[.val (.long a1), .second, .val (.int a2), .val (.int (Int32.ofNat pn)), .val (.ref ar), .val (.int c0), .val (.int c1), .val (.int c2), .val (.int c3), .val (.int c4), .val (.long (-1 : Int64)), .second, .val (.int (0 : Int32)), .unset, .unset, .unset] [(.long (((c1 &&& (127 : Int32)).toInt64) <<< ((7 : Int32) &&& 0x3f).toInt64)), (.long ((c0 &&& (127 : Int32)).toInt64))])) _
                  refine XS.lor X45.here hx rfl (hb hby at_254) rfl ?_
                  show Steps p.tables e below (T45.setTop (mkF m 255 #[.val (.long a1), .second, .val (.int a2), .val (.int (Int32.ofNat pn)), .val (.ref ar), .val (.int c0), .val (.int c1), .val (.int c2), .val (.int c3), .val (.int c4), .val (.long (-1 : Int64)), .second, .val (.int (0 : Int32)), .unset, .unset, .unset] [(.long (((c0 &&& (127 : Int32)).toInt64) ||| (((c1 &&& (127 : Int32)).toInt64) <<< ((7 : Int32) &&& 0x3f).toInt64)))])) _
                  refine XS.iload X45.here hx rfl (hb hby at_255) rfl ?_
                  show Steps p.tables e below (T45.setTop (mkF m 257 #[.val (.long a1), .second, .val (.int a2), .val (.int (Int32.ofNat pn)), .val (.ref ar), .val (.int c0), .val (.int c1), .val (.int c2), .val (.int c3), .val (.int c4), .val (.long (-1 : Int64)), .second, .val (.int (0 : Int32)), .unset, .unset, .unset] [(.int c2), (.long (((c0 &&& (127 : Int32)).toInt64) ||| (((c1 &&& (127 : Int32)).toInt64) <<< ((7 : Int32) &&& 0x3f).toInt64)))])) _
                  refine XS.i2l X45.here hx rfl (hb hby at_257) rfl ?_
                  show Steps p.tables e below (T45.setTop (mkF m 258 #[.val (.long a1), .second, .val (.int a2), .val (.int (Int32.ofNat pn)), .val (.ref ar), .val (.int c0), .val (.int c1), .val (.int c2), .val (.int c3), .val (.int c4), .val (.long (-1 : Int64)), .second, .val (.int (0 : Int32)), .unset, .unset, .unset] [(.long (c2.toInt64)), (.long (((c0 &&& (127 : Int32)).toInt64) ||| (((c1 &&& (127 : Int32)).toInt64) <<< ((7 : Int32) &&& 0x3f).toInt64)))])) _
                  refine XS.bipush X45.here hx rfl (hb hby at_258) ?_
                  show Steps p.tables e below (T45.setTop (mkF m 260 #[.val (.long a1), .second, .val (.int a2), .val (.int (Int32.ofNat pn)), .val (.ref ar), .val (.int c0), .val (.int c1), .val (.int c2), .val (.int c3), .val (.int c4), .val (.long (-1 : Int64)), .second, .val (.int (0 : Int32)), .unset, .unset, .unset] [(.int (14 : Int32)), (.long (c2.toInt64)), (.long (((c0 &&& (127 : Int32)).toInt64) ||| (((c1 &&& (127 : Int32)).toInt64) <<< ((7 : Int32) &&& 0x3f).toInt64)))])) _
                  refine XS.lshl X45.here hx rfl (hb hby at_260) rfl ?_
                  show Steps p.tables e below (T45.setTop (mkF m 261 #[.val (.long a1), .second, .val (.int a2), .val (.int (Int32.ofNat pn)), .val (.ref ar), .val (.int c0), .val (.int c1), .val (.int c2), .val (.int c3), .val (.int c4), .val (.long (-1 : Int64)), .second, .val (.int (0 : Int32)), .unset, .unset, .unset] [(.long ((c2.toInt64) <<< ((14 : Int32) &&& 0x3f).toInt64)), (.long (((c0 &&& (127 : Int32)).toInt64) ||| (((c1 &&& (127 : Int32)).toInt64) <<< ((7 : Int32) &&& 0x3f).toInt64)))])) _
                  refine XS.lor X45.here hx rfl (hb hby at_261) rfl ?_
                  show Steps p.tables e below (T45.setTop (mkF m 262 #[.val (.long a1), .second, .val (.int a2), .val (.int (Int32.ofNat pn)), .val (.ref ar), .val (.int c0), .val (.int c1), .val (.int c2), .val (.int c3), .val (.int c4), .val (.long (-1 : Int64)), .second, .val (.int (0 : Int32)), .unset, .unset, .unset] [(.long ((((c0 &&& (127 : Int32)).toInt64) ||| (((c1 &&& (127 : Int32)).toInt64) <<< ((7 : Int32) &&& 0x3f).toInt64)) ||| ((c2.toInt64) <<< ((14 : Int32) &&& 0x3f).toInt64)))])) _
                  refine XS.lstore X45.here hx rfl (hb hby at_262) rfl (l' := #[.val (.long a1), .second, .val (.int a2), .val (.int (Int32.ofNat pn)), .val (.ref ar), .val (.int c0), .val (.int c1), .val (.int c2), .val (.int c3), .val (.int c4), .val (.long ((((c0 &&& (127 : Int32)).toInt64) ||| (((c1 &&& (127 : Int32)).toInt64) <<< ((7 : Int32) &&& 0x3f).toInt64)) ||| ((c2.toInt64) <<< ((14 : Int32) &&& 0x3f).toInt64))), .second, .val (.int (0 : Int32)), .unset, .unset, .unset]) rfl ?_
                  show Steps p.tables e below (T45.setTop (mkF m 264 #[.val (.long a1), .second, .val (.int a2), .val (.int (Int32.ofNat pn)), .val (.ref ar), .val (.int c0), .val (.int c1), .val (.int c2), .val (.int c3), .val (.int c4), .val (.long ((((c0 &&& (127 : Int32)).toInt64) ||| (((c1 &&& (127 : Int32)).toInt64) <<< ((7 : Int32) &&& 0x3f).toInt64)) ||| ((c2.toInt64) <<< ((14 : Int32) &&& 0x3f).toInt64))), .second, .val (.int (0 : Int32)), .unset, .unset, .unset] [])) _
                  refine XS.iconst X45.here hx rfl (hb hby at_264) ?_
                  show Steps p.tables e below (T45.setTop (mkF m 265 #[.val (.long a1), .second, .val (.int a2), .val (.int (Int32.ofNat pn)), .val (.ref ar), .val (.int c0), .val (.int c1), .val (.int c2), .val (.int c3), .val (.int c4), .val (.long ((((c0 &&& (127 : Int32)).toInt64) ||| (((c1 &&& (127 : Int32)).toInt64) <<< ((7 : Int32) &&& 0x3f).toInt64)) ||| ((c2.toInt64) <<< ((14 : Int32) &&& 0x3f).toInt64))), .second, .val (.int (0 : Int32)), .unset, .unset, .unset] [(.int (3 : Int32))])) _
                  refine XS.istore X45.here hx rfl (hb hby at_265) rfl (l' := #[.val (.long a1), .second, .val (.int a2), .val (.int (Int32.ofNat pn)), .val (.ref ar), .val (.int c0), .val (.int c1), .val (.int c2), .val (.int c3), .val (.int c4), .val (.long ((((c0 &&& (127 : Int32)).toInt64) ||| (((c1 &&& (127 : Int32)).toInt64) <<< ((7 : Int32) &&& 0x3f).toInt64)) ||| ((c2.toInt64) <<< ((14 : Int32) &&& 0x3f).toInt64))), .second, .val (.int (3 : Int32)), .unset, .unset, .unset]) rfl ?_
                  show Steps p.tables e below (T45.setTop (mkF m 267 #[.val (.long a1), .second, .val (.int a2), .val (.int (Int32.ofNat pn)), .val (.ref ar), .val (.int c0), .val (.int c1), .val (.int c2), .val (.int c3), .val (.int c4), .val (.long ((((c0 &&& (127 : Int32)).toInt64) ||| (((c1 &&& (127 : Int32)).toInt64) <<< ((7 : Int32) &&& 0x3f).toInt64)) ||| ((c2.toInt64) <<< ((14 : Int32) &&& 0x3f).toInt64))), .second, .val (.int (3 : Int32)), .unset, .unset, .unset] [])) _
                  refine XS.goto X45.here hx rfl (pc0 := 267) (pc' := 416) rfl (hb hby at_267) (by decide) (by decide) ?_
                  exact kt
                exact ⟨T45, _, ((((c0 &&& (127 : Int32)).toInt64) ||| (((c1 &&& (127 : Int32)).toInt64) <<< ((7 : Int32) &&& 0x3f).toInt64)) ||| ((c2.toInt64) <<< ((14 : Int32) &&& 0x3f).toInt64)), (3 : Int32), X45, eq45, N45, (by simp [own_val, own_ln, hc149, hc162, hc181, hc194, hc223, hc236]), pre70⟩
          case neg =>
            have pre71 : ∀ t, Steps p.tables e below (T45.setTop (mkF m 416 #[.val (.long a1), .second, .val (.int a2), .val (.int (Int32.ofNat pn)), .val (.ref ar), .val (.int c0), .val (.int c1), .val (.int c2), .val (.int c3), .val (.int c4), .val (.long (((c0 &&& (127 : Int32)).toInt64) ||| ((c1.toInt64) <<< ((7 : Int32) &&& 0x3f).toInt64))), .second, .val (.int (2 : Int32)), .unset, .unset, .unset] [])) t → Steps p.tables e below (s₁.setTop (entryFrame m #[(.long a1), (.int a2)] maxLocals)) t := by
              intro t kt
              refine pre55 t ?_
              show Steps p.tables e below (T45.setTop (mkF m 194 #[.val (.long a1), .second, .val (.int a2), .val (.int (Int32.ofNat pn)), .val (.ref ar), .val (.int c0), .val (.int c1), .val (.int c2), .val (.int c3), .val (.int c4), .val (.long (-1 : Int64)), .second, .val (.int (0 : Int32)), .unset, .unset, .unset] [(.int c1)])) _
              refine XS.ifNo X45.here hx rfl (hb hby at_194) rfl ((if0 _ _).trans (flt hc194).1) ?_
              show Steps p.tables e below (T45.setTop (mkF m 197 #[.val (.long a1), .second, .val (.int a2), .val (.int (Int32.ofNat pn)), .val (.ref ar), .val (.int c0), .val (.int c1), .val (.int c2), .val (.int c3), .val (.int c4), .val (.long (-1 : Int64)), .second, .val (.int (0 : Int32)), .unset, .unset, .unset] [])) _
              refine XS.iload X45.here hx rfl (hb hby at_197) rfl ?_
              show Steps p.tables e below (T45.setTop (mkF m 199 #[.val (.long a1), .second, .val (.int a2), .val (.int (Int32.ofNat pn)), .val (.ref ar), .val (.int c0), .val (.int c1), .val (.int c2), .val (.int c3), .val (.int c4), .val (.long (-1 : Int64)), .second, .val (.int (0 : Int32)), .unset, .unset, .unset] [(.int c0)])) _
              refine XS.bipush X45.here hx rfl (hb hby at_199) ?_
              show Steps p.tables e below (T45.setTop (mkF m 201 #[.val (.long a1), .second, .val (.int a2), .val (.int (Int32.ofNat pn)), .val (.ref ar), .val (.int c0), .val (.int c1), .val (.int c2), .val (.int c3), .val (.int c4), .val (.long (-1 : Int64)), .second, .val (.int (0 : Int32)), .unset, .unset, .unset] [(.int (127 : Int32)), (.int c0)])) _
              refine XS.iand X45.here hx rfl (hb hby at_201) rfl ?_
              show Steps p.tables e below (T45.setTop (mkF m 202 #[.val (.long a1), .second, .val (.int a2), .val (.int (Int32.ofNat pn)), .val (.ref ar), .val (.int c0), .val (.int c1), .val (.int c2), .val (.int c3), .val (.int c4), .val (.long (-1 : Int64)), .second, .val (.int (0 : Int32)), .unset, .unset, .unset] [(.int (c0 &&& (127 : Int32)))])) _
              refine XS.i2l X45.here hx rfl (hb hby at_202) rfl ?_
              show Steps p.tables e below (T45.setTop (mkF m 203 #[.val (.long a1), .second, .val (.int a2), .val (.int (Int32.ofNat pn)), .val (.ref ar), .val (.int c0), .val (.int c1), .val (.int c2), .val (.int c3), .val (.int c4), .val (.long (-1 : Int64)), .second, .val (.int (0 : Int32)), .unset, .unset, .unset] [(.long ((c0 &&& (127 : Int32)).toInt64))])) _
              refine XS.iload X45.here hx rfl (hb hby at_203) rfl ?_
              show Steps p.tables e below (T45.setTop (mkF m 205 #[.val (.long a1), .second, .val (.int a2), .val (.int (Int32.ofNat pn)), .val (.ref ar), .val (.int c0), .val (.int c1), .val (.int c2), .val (.int c3), .val (.int c4), .val (.long (-1 : Int64)), .second, .val (.int (0 : Int32)), .unset, .unset, .unset] [(.int c1), (.long ((c0 &&& (127 : Int32)).toInt64))])) _
              refine XS.i2l X45.here hx rfl (hb hby at_205) rfl ?_
              show Steps p.tables e below (T45.setTop (mkF m 206 #[.val (.long a1), .second, .val (.int a2), .val (.int (Int32.ofNat pn)), .val (.ref ar), .val (.int c0), .val (.int c1), .val (.int c2), .val (.int c3), .val (.int c4), .val (.long (-1 : Int64)), .second, .val (.int (0 : Int32)), .unset, .unset, .unset] [(.long (c1.toInt64)), (.long ((c0 &&& (127 : Int32)).toInt64))])) _
              refine XS.bipush X45.here hx rfl (hb hby at_206) ?_
              show Steps p.tables e below (T45.setTop (mkF m 208 #[.val (.long a1), .second, .val (.int a2), .val (.int (Int32.ofNat pn)), .val (.ref ar), .val (.int c0), .val (.int c1), .val (.int c2), .val (.int c3), .val (.int c4), .val (.long (-1 : Int64)), .second, .val (.int (0 : Int32)), .unset, .unset, .unset] [(.int (7 : Int32)), (.long (c1.toInt64)), (.long ((c0 &&& (127 : Int32)).toInt64))])) _
              refine XS.lshl X45.here hx rfl (hb hby at_208) rfl ?_
              show Steps p.tables e below (T45.setTop (mkF m 209 #[.val (.long a1), .second, .val (.int a2), .val (.int (Int32.ofNat pn)), .val (.ref ar), .val (.int c0), .val (.int c1), .val (.int c2), .val (.int c3), .val (.int c4), .val (.long (-1 : Int64)), .second, .val (.int (0 : Int32)), .unset, .unset, .unset] [(.long ((c1.toInt64) <<< ((7 : Int32) &&& 0x3f).toInt64)), (.long ((c0 &&& (127 : Int32)).toInt64))])) _
              refine XS.lor X45.here hx rfl (hb hby at_209) rfl ?_
              show Steps p.tables e below (T45.setTop (mkF m 210 #[.val (.long a1), .second, .val (.int a2), .val (.int (Int32.ofNat pn)), .val (.ref ar), .val (.int c0), .val (.int c1), .val (.int c2), .val (.int c3), .val (.int c4), .val (.long (-1 : Int64)), .second, .val (.int (0 : Int32)), .unset, .unset, .unset] [(.long (((c0 &&& (127 : Int32)).toInt64) ||| ((c1.toInt64) <<< ((7 : Int32) &&& 0x3f).toInt64)))])) _
              refine XS.lstore X45.here hx rfl (hb hby at_210) rfl (l' := #[.val (.long a1), .second, .val (.int a2), .val (.int (Int32.ofNat pn)), .val (.ref ar), .val (.int c0), .val (.int c1), .val (.int c2), .val (.int c3), .val (.int c4), .val (.long (((c0 &&& (127 : Int32)).toInt64) ||| ((c1.toInt64) <<< ((7 : Int32) &&& 0x3f).toInt64))), .second, .val (.int (0 : Int32)), .unset, .unset, .unset]) rfl ?_
              show Steps p.tables e below (T45.setTop (mkF m 212 #[.val (.long a1), .second, .val (.int a2), .val (.int (Int32.ofNat pn)), .val (.ref ar), .val (.int c0), .val (.int c1), .val (.int c2), .val (.int c3), .val (.int c4), .val (.long (((c0 &&& (127 : Int32)).toInt64) ||| ((c1.toInt64) <<< ((7 : Int32) &&& 0x3f).toInt64))), .second, .val (.int (0 : Int32)), .unset, .unset, .unset] [])) _
              refine XS.iconst X45.here hx rfl (hb hby at_212) ?_
              show Steps p.tables e below (T45.setTop (mkF m 213 #[.val (.long a1), .second, .val (.int a2), .val (.int (Int32.ofNat pn)), .val (.ref ar), .val (.int c0), .val (.int c1), .val (.int c2), .val (.int c3), .val (.int c4), .val (.long (((c0 &&& (127 : Int32)).toInt64) ||| ((c1.toInt64) <<< ((7 : Int32) &&& 0x3f).toInt64))), .second, .val (.int (0 : Int32)), .unset, .unset, .unset] [(.int (2 : Int32))])) _
              refine XS.istore X45.here hx rfl (hb hby at_213) rfl (l' := #[.val (.long a1), .second, .val (.int a2), .val (.int (Int32.ofNat pn)), .val (.ref ar), .val (.int c0), .val (.int c1), .val (.int c2), .val (.int c3), .val (.int c4), .val (.long (((c0 &&& (127 : Int32)).toInt64) ||| ((c1.toInt64) <<< ((7 : Int32) &&& 0x3f).toInt64))), .second, .val (.int (2 : Int32)), .unset, .unset, .unset]) rfl ?_
              show Steps p.tables e below (T45.setTop (mkF m 215 #[.val (.long a1), .second, .val (.int a2), .val (.int (Int32.ofNat pn)), .val (.ref ar), .val (.int c0), .val (.int c1), .val (.int c2), .val (.int c3), .val (.int c4), .val (.long (((c0 &&& (127 : Int32)).toInt64) ||| ((c1.toInt64) <<< ((7 : Int32) &&& 0x3f).toInt64))), .second, .val (.int (2 : Int32)), .unset, .unset, .unset] [])) _
              refine XS.goto X45.here hx rfl (pc0 := 215) (pc' := 416) rfl (hb hby at_215) (by decide) (by decide) ?_
              exact kt
            exact ⟨T45, _, (((c0 &&& (127 : Int32)).toInt64) ||| ((c1.toInt64) <<< ((7 : Int32) &&& 0x3f).toInt64)), (2 : Int32), X45, eq45, N45, (by simp [own_val, own_ln, hc149, hc162, hc181, hc194]), pre71⟩
      case neg =>
        have pre72 : ∀ t, Steps p.tables e below (T45.setTop (mkF m 416 #[.val (.long a1), .second, .val (.int a2), .val (.int (Int32.ofNat pn)), .val (.ref ar), .val (.int c0), .val (.int c1), .val (.int c2), .val (.int c3), .val (.int c4), .val (.long (c0.toInt64)), .second, .val (.int (1 : Int32)), .unset, .unset, .unset] [])) t → Steps p.tables e below (s₁.setTop (entryFrame m #[(.long a1), (.int a2)] maxLocals)) t := by
          intro t kt
          refine pre52 t ?_
          show Steps p.tables e below (T45.setTop (mkF m 162 #[.val (.long a1), .second, .val (.int a2), .val (.int (Int32.ofNat pn)), .val (.ref ar), .val (.int c0), .val (.int c1), .val (.int c2), .val (.int c3), .val (.int c4), .val (.long (-1 : Int64)), .second, .val (.int (0 : Int32)), .unset, .unset, .unset] [(.int c0)])) _
          refine XS.ifNo X45.here hx rfl (hb hby at_162) rfl ((if0 _ _).trans (flt hc162).1) ?_
          show Steps p.tables e below (T45.setTop (mkF m 165 #[.val (.long a1), .second, .val (.int a2), .val (.int (Int32.ofNat pn)), .val (.ref ar), .val (.int c0), .val (.int c1), .val (.int c2), .val (.int c3), .val (.int c4), .val (.long (-1 : Int64)), .second, .val (.int (0 : Int32)), .unset, .unset, .unset] [])) _
          refine XS.iload X45.here hx rfl (hb hby at_165) rfl ?_
          show Steps p.tables e below (T45.setTop (mkF m 167 #[.val (.long a1), .second, .val (.int a2), .val (.int (Int32.ofNat pn)), .val (.ref ar), .val (.int c0), .val (.int c1), .val (.int c2), .val (.int c3), .val (.int c4), .val (.long (-1 : Int64)), .second, .val (.int (0 : Int32)), .unset, .unset, .unset] [(.int c0)])) _
          refine XS.i2l X45.here hx rfl (hb hby at_167) rfl ?_
          show Steps p.tables e below (T45.setTop (mkF m 168 #[.val (.long a1), .second, .val (.int a2), .val (.int (Int32.ofNat pn)), .val (.ref ar), .val (.int c0), .val (.int c1), .val (.int c2), .val (.int c3), .val (.int c4), .val (.long (-1 : Int64)), .second, .val (.int (0 : Int32)), .unset, .unset, .unset] [(.long (c0.toInt64))])) _
          refine XS.lstore X45.here hx rfl (hb hby at_168) rfl (l' := #[.val (.long a1), .second, .val (.int a2), .val (.int (Int32.ofNat pn)), .val (.ref ar), .val (.int c0), .val (.int c1), .val (.int c2), .val (.int c3), .val (.int c4), .val (.long (c0.toInt64)), .second, .val (.int (0 : Int32)), .unset, .unset, .unset]) rfl ?_
          show Steps p.tables e below (T45.setTop (mkF m 170 #[.val (.long a1), .second, .val (.int a2), .val (.int (Int32.ofNat pn)), .val (.ref ar), .val (.int c0), .val (.int c1), .val (.int c2), .val (.int c3), .val (.int c4), .val (.long (c0.toInt64)), .second, .val (.int (0 : Int32)), .unset, .unset, .unset] [])) _
          refine XS.iconst X45.here hx rfl (hb hby at_170) ?_
          show Steps p.tables e below (T45.setTop (mkF m 171 #[.val (.long a1), .second, .val (.int a2), .val (.int (Int32.ofNat pn)), .val (.ref ar), .val (.int c0), .val (.int c1), .val (.int c2), .val (.int c3), .val (.int c4), .val (.long (c0.toInt64)), .second, .val (.int (0 : Int32)), .unset, .unset, .unset] [(.int (1 : Int32))])) _
          refine XS.istore X45.here hx rfl (hb hby at_171) rfl (l' := #[.val (.long a1), .second, .val (.int a2), .val (.int (Int32.ofNat pn)), .val (.ref ar), .val (.int c0), .val (.int c1), .val (.int c2), .val (.int c3), .val (.int c4), .val (.long (c0.toInt64)), .second, .val (.int (1 : Int32)), .unset, .unset, .unset]) rfl ?_
          show Steps p.tables e below (T45.setTop (mkF m 173 #[.val (.long a1), .second, .val (.int a2), .val (.int (Int32.ofNat pn)), .val (.ref ar), .val (.int c0), .val (.int c1), .val (.int c2), .val (.int c3), .val (.int c4), .val (.long (c0.toInt64)), .second, .val (.int (1 : Int32)), .unset, .unset, .unset] [])) _
          refine XS.goto X45.here hx rfl (pc0 := 173) (pc' := 416) rfl (hb hby at_173) (by decide) (by decide) ?_
          exact kt
        exact ⟨T45, _, (c0.toInt64), (1 : Int32), X45, eq45, N45, (by simp [own_val, own_ln, hc149, hc162]), pre72⟩
  obtain ⟨hexv, hlnv⟩ := hp50
  obtain ⟨T73, h73, X73, e73, E73, A73, D73, -, st73⟩ := newO X50 hx hZ hown (hw _ (List.mem_of_getElem? (i := 6) rfl)) (hw _ (List.mem_of_getElem? (i := 7) rfl)) (hw _ (List.mem_of_getElem? (i := 8) rfl)) e50 (g := (mkF m 416 #[.val (.long a1), .second, .val (.int a2), .val (.int (Int32.ofNat pn)), .val (.ref ar), .val (.int c0), .val (.int c1), .val (.int c2), .val (.int c3), .val (.int c4), .val (.long exv), .second, .val (.int lnv), .unset, .unset, .unset] [])) rfl (hb hby at_416) (by decide) (by decide)
  obtain ⟨ob, g73⟩ : ∃ z, z = h26.size := ⟨_, rfl⟩
  rw [← g73] at A73 D73 st73
  have lt_ar_ob : ar < ob := by rw [g73]; exact V_ar.lt
  have ne_ar_ob : ar ≠ ob := Nat.ne_of_lt lt_ar_ob
  have g_ob : n0 ≤ ob := by rw [g73]; exact Z27
  have V_ar := V_ar.ext E73
  have Z74 := Nat.le_trans Z27 E73.1
  have E_ob := A73
  have F_bytes_ob : Fld Z h73 ob "com/example/ulebb/ulebb/dex/Cursor" "bytes" "[B" .null := D73 (Or.inr (hw _ (List.mem_of_getElem? (i := 16) rfl))) (ty := (.array .byte)) (by decide)
  have F_position_ob : Fld Z h73 ob "com/example/ulebb/ulebb/dex/Cursor" "position" "I" (.int (0 : Int32)) := D73 (Or.inl (hw _ (List.mem_of_getElem? (i := 23) rfl))) (ty := .int) (by decide)
  obtain ⟨_, _, ⟨T75, L75, k75, n75⟩, -, X75, ⟨Lc75, hQ75, l75, y75, z75⟩, st75⟩ := X73.specialBack hx (y := (⟨"com/example/ulebb/ulebb/dex/Cursor", "<init>", "([B)V"⟩ : MethodName)) rfl hown (mvT hZ (hw _ (List.mem_of_getElem? (i := 9) rfl))) (mvT hZ (hw _ (List.mem_of_getElem? (i := 10) rfl))) (mvT hZ (hw _ (List.mem_of_getElem? (i := 11) rfl))) (by decide) (backOf (W := 1) (own_rm2 l Z a0 hw [] ob ar h73 n0 Z74 E_ob F_bytes_ob F_position_ob g_ob) hZ (hw _ (List.mem_of_getElem? (i := 11) rfl)) (hw _ (List.mem_of_getElem? (i := 8) rfl)) (by decide) (by decide)) (g := (mkF m 422 #[.val (.long a1), .second, .val (.int a2), .val (.int (Int32.ofNat pn)), .val (.ref ar), .val (.int c0), .val (.int c1), .val (.int c2), .val (.int c3), .val (.int c4), .val (.long exv), .second, .val (.int lnv), .unset, .unset, .unset] [(.ref ar), (.ref ob), (.ref ob)])) rfl (by rw [hml]; rfl) (Steps.refl _) (a := ob) (argsL := [(.ref ar)]) (rest := [(.ref ob)]) (lenOf own_pd1 rfl) rfl (by show 2 * 0 + _ ≤ _; exact Nat.le_of_eq rfl) (hb hby at_422) (fun _ _ => ⟨rfl, e73, (by decide : 2 + 0 ≤ _), (by decide : 10 + 0 ≤ _)⟩)
  dsimp only [Pt.U, Pt.locs, Pt.cells, Pt.slots] at X75 l75 y75 z75 st75 hQ75
  subst l75 y75 z75
  obtain ⟨rfl, Nq75, Kq75, E_ob, F_bytes_ob, F_position_ob⟩ := hQ75
  have N75 := Fr.app N50 Nq75
  have V_ar := V_ar.keep Kq75 (ninS ne_ar_ob nin0)
  have Z75 := Nat.le_trans Z74 Kq75.1
  obtain ⟨cq76, kq76, q76a, q76b, q76c⟩ := isOf hZ rfl E_ob
  obtain ⟨_, _, ⟨T76, L76, k76, n76⟩, -, X76, ⟨Lc76, hQ76, l76, y76, z76⟩, st76⟩ := X75.virtualBack hx (y := (⟨"com/example/ulebb/ulebb/dex/Cursor", "position", "(I)Lcom/example/ulebb/ulebb/dex/Cursor;"⟩ : MethodName)) (z := (⟨"com/example/ulebb/ulebb/dex/Cursor", "position", "(I)Lcom/example/ulebb/ulebb/dex/Cursor;"⟩ : MethodName)) hown (mvT hZ (hw _ (List.mem_of_getElem? (i := 17) rfl))) (mvT hZ (hw _ (List.mem_of_getElem? (i := 18) rfl))) (notFace_of_selects (args := #[]) (mvT hZ (hw _ (List.mem_of_getElem? (i := 20) rfl)))) (mvT hZ (hw _ (List.mem_of_getElem? (i := 20) rfl))) (mvT hZ (hw _ (List.mem_of_getElem? (i := 19) rfl))) (by decide) (backOf (W := 0) (own_rm4 l Z a0 hw [] ob (Int32.ofNat pn) ar (0 : Int32) T75.heap n0 Z75 E_ob F_bytes_ob F_position_ob g_ob) hZ (hw _ (List.mem_of_getElem? (i := 21) rfl)) (hw _ (List.mem_of_getElem? (i := 8) rfl)) (by decide) (by decide)) q76a q76c (g := (mkF m 430 #[.val (.long a1), .second, .val (.int a2), .val (.int (Int32.ofNat pn)), .val (.ref ar), .val (.int c0), .val (.int c1), .val (.int c2), .val (.int c3), .val (.int c4), .val (.long exv), .second, .val (.int lnv), .val (.ref ob), .unset, .unset] [(.int (Int32.ofNat pn)), (.ref ob)])) rfl (by rw [hml]; rfl) (Steps.refl _) (argsL := [(.int (Int32.ofNat pn))]) (rest := []) (lenOf own_pd2 rfl) rfl (by show 2 * 0 + _ ≤ _; exact Nat.le_of_eq rfl) (hb hby at_430) (fun _ _ => ⟨rfl, rfl, (by decide : 2 + 0 ≤ _), (by decide : 10 + 0 ≤ _)⟩)
  dsimp only [Pt.U, Pt.locs, Pt.cells, Pt.slots] at X76 l76 y76 z76 st76 hQ76
  subst l76 y76 z76
  obtain ⟨rfl, Nq76, Kq76, E_ob, F_bytes_ob, F_position_ob⟩ := hQ76
  have N76 := Fr.app N75 Nq76
  have V_ar := V_ar.keep Kq76 (ninS ne_ar_ob nin0)
  have Z76 := Nat.le_trans Z75 Kq76.1
  obtain ⟨cq77, kq77, q77a, q77b, q77c⟩ := isOf hZ rfl E_ob
  obtain ⟨_, _, ⟨T77, L77, k77, n77⟩, -, X77, ⟨Lc77, hQ77, l77, y77, z77⟩, st77⟩ := X76.virtualBack hx (y := (⟨"com/example/ulebb/ulebb/dex/Cursor", "uleb128", "()J"⟩ : MethodName)) (z := (⟨"com/example/ulebb/ulebb/dex/Cursor", "uleb128", "()J"⟩ : MethodName)) hown (mvT hZ (hw _ (List.mem_of_getElem? (i := 24) rfl))) (mvT hZ (hw _ (List.mem_of_getElem? (i := 25) rfl))) (notFace_of_selects (args := #[]) (mvT hZ (hw _ (List.mem_of_getElem? (i := 27) rfl)))) (mvT hZ (hw _ (List.mem_of_getElem? (i := 27) rfl))) (mvT hZ (hw _ (List.mem_of_getElem? (i := 26) rfl))) (by decide) (backOf (W := 0) (own_rm5 l Z a0 hw [] ob ar pn (own_byte a1) T76.heap n0 Z76 E_ob F_bytes_ob F_position_ob g_ob V_ar (Ne.symm ne_ar_ob) hpn (fun i _ => own_brng a1 i)) hZ (hw _ (List.mem_of_getElem? (i := 28) rfl)) (hw _ (List.mem_of_getElem? (i := 8) rfl)) (by decide) (by decide)) q77a q77c (g := (mkF m 436 #[.val (.long a1), .second, .val (.int a2), .val (.int (Int32.ofNat pn)), .val (.ref ar), .val (.int c0), .val (.int c1), .val (.int c2), .val (.int c3), .val (.int c4), .val (.long exv), .second, .val (.int lnv), .val (.ref ob), .unset, .unset] [(.ref ob)])) rfl (by rw [hml]; rfl) (Steps.refl _) (argsL := []) (rest := []) (lenOf own_pd3 rfl) rfl (by show 2 * 0 + _ ≤ _; exact Nat.le_of_eq rfl) (hb hby at_436) (fun _ _ => ⟨rfl, rfl, (by decide : 2 + 0 ≤ _), (by decide : 10 + 0 ≤ _)⟩)
  dsimp only [Pt.U, Pt.locs, Pt.cells, Pt.slots] at X77 l77 y77 z77 st77 hQ77
  subst l77 y77 z77
  obtain ⟨rfl, Nq77, Kq77, E_ob, F_bytes_ob, F_position_ob⟩ := hQ77
  have N77 := Fr.app N76 Nq77
  have V_ar := V_ar.keep Kq77 (ninS ne_ar_ob nin0)
  have Z77 := Nat.le_trans Z76 Kq77.1
  obtain ⟨cq78, kq78, q78a, q78b, q78c⟩ := isOf hZ rfl E_ob
  obtain ⟨_, _, ⟨T78, L78, k78, n78⟩, -, X78, ⟨Lc78, hQ78, l78, y78, z78⟩, st78⟩ := X77.virtualBack hx (y := (⟨"com/example/ulebb/ulebb/dex/Cursor", "position", "()I"⟩ : MethodName)) (z := (⟨"com/example/ulebb/ulebb/dex/Cursor", "position", "()I"⟩ : MethodName)) hown (mvT hZ (hw _ (List.mem_of_getElem? (i := 30) rfl))) (mvT hZ (hw _ (List.mem_of_getElem? (i := 31) rfl))) (notFace_of_selects (args := #[]) (mvT hZ (hw _ (List.mem_of_getElem? (i := 33) rfl)))) (mvT hZ (hw _ (List.mem_of_getElem? (i := 33) rfl))) (mvT hZ (hw _ (List.mem_of_getElem? (i := 32) rfl))) (by decide) (backOf (W := 0) (own_rm6 l Z a0 hw [] ob ((Int32.ofNat pn) + (own_ln (own_bk (own_byte a1) pn 0) (own_bk (own_byte a1) pn 1) (own_bk (own_byte a1) pn 2) (own_bk (own_byte a1) pn 3) (own_bk (own_byte a1) pn 4))) T77.heap n0 Z77 F_position_ob) hZ (hw _ (List.mem_of_getElem? (i := 34) rfl)) (hw _ (List.mem_of_getElem? (i := 8) rfl)) (by decide) (by decide)) q78a q78c (g := (mkF m 451 #[.val (.long a1), .second, .val (.int a2), .val (.int (Int32.ofNat pn)), .val (.ref ar), .val (.int c0), .val (.int c1), .val (.int c2), .val (.int c3), .val (.int c4), .val (.long exv), .second, .val (.int lnv), .val (.ref ob), .val (.long (own_val (own_bk (own_byte a1) pn 0) (own_bk (own_byte a1) pn 1) (own_bk (own_byte a1) pn 2) (own_bk (own_byte a1) pn 3) (own_bk (own_byte a1) pn 4))), .second] [(.ref ob)])) rfl (by rw [hml]; rfl) (Steps.refl _) (argsL := []) (rest := []) (lenOf own_pd4 rfl) rfl (by show 2 * 0 + _ ≤ _; exact Nat.le_of_eq rfl) (hb hby at_451) (fun _ _ => ⟨rfl, rfl, (by decide : 2 + 0 ≤ _), (by decide : 10 + 0 ≤ _)⟩)
  dsimp only [Pt.U, Pt.locs, Pt.cells, Pt.slots] at X78 l78 y78 z78 st78 hQ78
  subst l78 y78 z78
  obtain ⟨rfl, Nq78, eq78⟩ := hQ78
  have N78 := Fr.app N77 Nq78
  obtain ⟨fs, hr, hrun, hended, hW, hsame⟩ := X78.leave (v := some (.int (1 : Int32))) (fun h => by rw [Bd.returns] at h; cases h) (BodyLoose.notSynchronized Bd)
  refine ⟨_, _, pre50 _ ?_, hrun, hended, _, _, rfl, ?_, ⟨_, rfl⟩, hW, hsame.mono (by decide) (by decide)⟩
  · skip
    show Steps p.tables e below (T50.setTop (mkF m 416 #[.val (.long a1), .second, .val (.int a2), .val (.int (Int32.ofNat pn)), .val (.ref ar), .val (.int c0), .val (.int c1), .val (.int c2), .val (.int c3), .val (.int c4), .val (.long exv), .second, .val (.int lnv), .unset, .unset, .unset] [])) _
    refine st73 _ ?_
    show Steps p.tables e below (T73.setTop (mkF m 419 #[.val (.long a1), .second, .val (.int a2), .val (.int (Int32.ofNat pn)), .val (.ref ar), .val (.int c0), .val (.int c1), .val (.int c2), .val (.int c3), .val (.int c4), .val (.long exv), .second, .val (.int lnv), .unset, .unset, .unset] [(.ref ob)])) _
    refine XS.dup X73.here hx rfl (hb hby at_419) rfl rfl ?_
    show Steps p.tables e below (T73.setTop (mkF m 420 #[.val (.long a1), .second, .val (.int a2), .val (.int (Int32.ofNat pn)), .val (.ref ar), .val (.int c0), .val (.int c1), .val (.int c2), .val (.int c3), .val (.int c4), .val (.long exv), .second, .val (.int lnv), .unset, .unset, .unset] [(.ref ob), (.ref ob)])) _
    refine XS.aload X73.here hx rfl (hb hby at_420) rfl rfl ?_
    show Steps p.tables e below (T73.setTop (mkF m 422 #[.val (.long a1), .second, .val (.int a2), .val (.int (Int32.ofNat pn)), .val (.ref ar), .val (.int c0), .val (.int c1), .val (.int c2), .val (.int c3), .val (.int c4), .val (.long exv), .second, .val (.int lnv), .unset, .unset, .unset] [(.ref ar), (.ref ob), (.ref ob)])) _
    refine st75.trans ?_
    show Steps p.tables e below (T75.setTop (mkF m 425 #[.val (.long a1), .second, .val (.int a2), .val (.int (Int32.ofNat pn)), .val (.ref ar), .val (.int c0), .val (.int c1), .val (.int c2), .val (.int c3), .val (.int c4), .val (.long exv), .second, .val (.int lnv), .unset, .unset, .unset] [(.ref ob)])) _
    refine XS.astore X75.here hx rfl (hb hby at_425) rfl rfl (l' := #[.val (.long a1), .second, .val (.int a2), .val (.int (Int32.ofNat pn)), .val (.ref ar), .val (.int c0), .val (.int c1), .val (.int c2), .val (.int c3), .val (.int c4), .val (.long exv), .second, .val (.int lnv), .val (.ref ob), .unset, .unset]) rfl ?_
    show Steps p.tables e below (T75.setTop (mkF m 427 #[.val (.long a1), .second, .val (.int a2), .val (.int (Int32.ofNat pn)), .val (.ref ar), .val (.int c0), .val (.int c1), .val (.int c2), .val (.int c3), .val (.int c4), .val (.long exv), .second, .val (.int lnv), .val (.ref ob), .unset, .unset] [])) _
    refine XS.aload X75.here hx rfl (hb hby at_427) rfl rfl ?_
    show Steps p.tables e below (T75.setTop (mkF m 429 #[.val (.long a1), .second, .val (.int a2), .val (.int (Int32.ofNat pn)), .val (.ref ar), .val (.int c0), .val (.int c1), .val (.int c2), .val (.int c3), .val (.int c4), .val (.long exv), .second, .val (.int lnv), .val (.ref ob), .unset, .unset] [(.ref ob)])) _
    refine XS.iloadN X75.here hx rfl (hb hby at_429) rfl ?_
    show Steps p.tables e below (T75.setTop (mkF m 430 #[.val (.long a1), .second, .val (.int a2), .val (.int (Int32.ofNat pn)), .val (.ref ar), .val (.int c0), .val (.int c1), .val (.int c2), .val (.int c3), .val (.int c4), .val (.long exv), .second, .val (.int lnv), .val (.ref ob), .unset, .unset] [(.int (Int32.ofNat pn)), (.ref ob)])) _
    refine st76.trans ?_
    show Steps p.tables e below (T76.setTop (mkF m 433 #[.val (.long a1), .second, .val (.int a2), .val (.int (Int32.ofNat pn)), .val (.ref ar), .val (.int c0), .val (.int c1), .val (.int c2), .val (.int c3), .val (.int c4), .val (.long exv), .second, .val (.int lnv), .val (.ref ob), .unset, .unset] [(.ref ob)])) _
    refine XS.pop X76.here hx rfl (hb hby at_433) rfl rfl ?_
    show Steps p.tables e below (T76.setTop (mkF m 434 #[.val (.long a1), .second, .val (.int a2), .val (.int (Int32.ofNat pn)), .val (.ref ar), .val (.int c0), .val (.int c1), .val (.int c2), .val (.int c3), .val (.int c4), .val (.long exv), .second, .val (.int lnv), .val (.ref ob), .unset, .unset] [])) _
    refine XS.aload X76.here hx rfl (hb hby at_434) rfl rfl ?_
    show Steps p.tables e below (T76.setTop (mkF m 436 #[.val (.long a1), .second, .val (.int a2), .val (.int (Int32.ofNat pn)), .val (.ref ar), .val (.int c0), .val (.int c1), .val (.int c2), .val (.int c3), .val (.int c4), .val (.long exv), .second, .val (.int lnv), .val (.ref ob), .unset, .unset] [(.ref ob)])) _
    refine st77.trans ?_
    show Steps p.tables e below (T77.setTop (mkF m 439 #[.val (.long a1), .second, .val (.int a2), .val (.int (Int32.ofNat pn)), .val (.ref ar), .val (.int c0), .val (.int c1), .val (.int c2), .val (.int c3), .val (.int c4), .val (.long exv), .second, .val (.int lnv), .val (.ref ob), .unset, .unset] [(.long (own_val (own_bk (own_byte a1) pn 0) (own_bk (own_byte a1) pn 1) (own_bk (own_byte a1) pn 2) (own_bk (own_byte a1) pn 3) (own_bk (own_byte a1) pn 4)))])) _
    refine XS.lstore X77.here hx rfl (hb hby at_439) rfl (l' := #[.val (.long a1), .second, .val (.int a2), .val (.int (Int32.ofNat pn)), .val (.ref ar), .val (.int c0), .val (.int c1), .val (.int c2), .val (.int c3), .val (.int c4), .val (.long exv), .second, .val (.int lnv), .val (.ref ob), .val (.long (own_val (own_bk (own_byte a1) pn 0) (own_bk (own_byte a1) pn 1) (own_bk (own_byte a1) pn 2) (own_bk (own_byte a1) pn 3) (own_bk (own_byte a1) pn 4))), .second]) rfl ?_
    show Steps p.tables e below (T77.setTop (mkF m 441 #[.val (.long a1), .second, .val (.int a2), .val (.int (Int32.ofNat pn)), .val (.ref ar), .val (.int c0), .val (.int c1), .val (.int c2), .val (.int c3), .val (.int c4), .val (.long exv), .second, .val (.int lnv), .val (.ref ob), .val (.long (own_val (own_bk (own_byte a1) pn 0) (own_bk (own_byte a1) pn 1) (own_bk (own_byte a1) pn 2) (own_bk (own_byte a1) pn 3) (own_bk (own_byte a1) pn 4))), .second] [])) _
    refine XS.lload X77.here hx rfl (hb hby at_441) rfl ?_
    show Steps p.tables e below (T77.setTop (mkF m 443 #[.val (.long a1), .second, .val (.int a2), .val (.int (Int32.ofNat pn)), .val (.ref ar), .val (.int c0), .val (.int c1), .val (.int c2), .val (.int c3), .val (.int c4), .val (.long exv), .second, .val (.int lnv), .val (.ref ob), .val (.long (own_val (own_bk (own_byte a1) pn 0) (own_bk (own_byte a1) pn 1) (own_bk (own_byte a1) pn 2) (own_bk (own_byte a1) pn 3) (own_bk (own_byte a1) pn 4))), .second] [(.long (own_val (own_bk (own_byte a1) pn 0) (own_bk (own_byte a1) pn 1) (own_bk (own_byte a1) pn 2) (own_bk (own_byte a1) pn 3) (own_bk (own_byte a1) pn 4)))])) _
    refine XS.lload X77.here hx rfl (hb hby at_443) rfl ?_
    show Steps p.tables e below (T77.setTop (mkF m 445 #[.val (.long a1), .second, .val (.int a2), .val (.int (Int32.ofNat pn)), .val (.ref ar), .val (.int c0), .val (.int c1), .val (.int c2), .val (.int c3), .val (.int c4), .val (.long exv), .second, .val (.int lnv), .val (.ref ob), .val (.long (own_val (own_bk (own_byte a1) pn 0) (own_bk (own_byte a1) pn 1) (own_bk (own_byte a1) pn 2) (own_bk (own_byte a1) pn 3) (own_bk (own_byte a1) pn 4))), .second] [(.long exv), (.long (own_val (own_bk (own_byte a1) pn 0) (own_bk (own_byte a1) pn 1) (own_bk (own_byte a1) pn 2) (own_bk (own_byte a1) pn 3) (own_bk (own_byte a1) pn 4)))])) _
    refine XS.lcmp X77.here hx rfl (hb hby at_445) rfl ?_
    show Steps p.tables e below (T77.setTop (mkF m 446 #[.val (.long a1), .second, .val (.int a2), .val (.int (Int32.ofNat pn)), .val (.ref ar), .val (.int c0), .val (.int c1), .val (.int c2), .val (.int c3), .val (.int c4), .val (.long exv), .second, .val (.int lnv), .val (.ref ob), .val (.long (own_val (own_bk (own_byte a1) pn 0) (own_bk (own_byte a1) pn 1) (own_bk (own_byte a1) pn 2) (own_bk (own_byte a1) pn 3) (own_bk (own_byte a1) pn 4))), .second] [(.int (lcmpW (own_val (own_bk (own_byte a1) pn 0) (own_bk (own_byte a1) pn 1) (own_bk (own_byte a1) pn 2) (own_bk (own_byte a1) pn 3) (own_bk (own_byte a1) pn 4)) exv))])) _
    refine XS.ifNo X77.here hx rfl (hb hby at_446) rfl ((if0 _ _).trans (teq ((lw_eq (own_val (own_bk (own_byte a1) pn 0) (own_bk (own_byte a1) pn 1) (own_bk (own_byte a1) pn 2) (own_bk (own_byte a1) pn 3) (own_bk (own_byte a1) pn 4)) exv).mpr (by rw [← hd_c0, ← hd_c1, ← hd_c2, ← hd_c3, ← hd_c4]; exact hexv))).2) ?_
    show Steps p.tables e below (T77.setTop (mkF m 449 #[.val (.long a1), .second, .val (.int a2), .val (.int (Int32.ofNat pn)), .val (.ref ar), .val (.int c0), .val (.int c1), .val (.int c2), .val (.int c3), .val (.int c4), .val (.long exv), .second, .val (.int lnv), .val (.ref ob), .val (.long (own_val (own_bk (own_byte a1) pn 0) (own_bk (own_byte a1) pn 1) (own_bk (own_byte a1) pn 2) (own_bk (own_byte a1) pn 3) (own_bk (own_byte a1) pn 4))), .second] [])) _
    refine XS.aload X77.here hx rfl (hb hby at_449) rfl rfl ?_
    show Steps p.tables e below (T77.setTop (mkF m 451 #[.val (.long a1), .second, .val (.int a2), .val (.int (Int32.ofNat pn)), .val (.ref ar), .val (.int c0), .val (.int c1), .val (.int c2), .val (.int c3), .val (.int c4), .val (.long exv), .second, .val (.int lnv), .val (.ref ob), .val (.long (own_val (own_bk (own_byte a1) pn 0) (own_bk (own_byte a1) pn 1) (own_bk (own_byte a1) pn 2) (own_bk (own_byte a1) pn 3) (own_bk (own_byte a1) pn 4))), .second] [(.ref ob)])) _
    refine st78.trans ?_
    show Steps p.tables e below (T78.setTop (mkF m 454 #[.val (.long a1), .second, .val (.int a2), .val (.int (Int32.ofNat pn)), .val (.ref ar), .val (.int c0), .val (.int c1), .val (.int c2), .val (.int c3), .val (.int c4), .val (.long exv), .second, .val (.int lnv), .val (.ref ob), .val (.long (own_val (own_bk (own_byte a1) pn 0) (own_bk (own_byte a1) pn 1) (own_bk (own_byte a1) pn 2) (own_bk (own_byte a1) pn 3) (own_bk (own_byte a1) pn 4))), .second] [(.int ((Int32.ofNat pn) + (own_ln (own_bk (own_byte a1) pn 0) (own_bk (own_byte a1) pn 1) (own_bk (own_byte a1) pn 2) (own_bk (own_byte a1) pn 3) (own_bk (own_byte a1) pn 4))))])) _
    refine XS.iloadN X78.here hx rfl (hb hby at_454) rfl ?_
    show Steps p.tables e below (T78.setTop (mkF m 455 #[.val (.long a1), .second, .val (.int a2), .val (.int (Int32.ofNat pn)), .val (.ref ar), .val (.int c0), .val (.int c1), .val (.int c2), .val (.int c3), .val (.int c4), .val (.long exv), .second, .val (.int lnv), .val (.ref ob), .val (.long (own_val (own_bk (own_byte a1) pn 0) (own_bk (own_byte a1) pn 1) (own_bk (own_byte a1) pn 2) (own_bk (own_byte a1) pn 3) (own_bk (own_byte a1) pn 4))), .second] [(.int (Int32.ofNat pn)), (.int ((Int32.ofNat pn) + (own_ln (own_bk (own_byte a1) pn 0) (own_bk (own_byte a1) pn 1) (own_bk (own_byte a1) pn 2) (own_bk (own_byte a1) pn 3) (own_bk (own_byte a1) pn 4))))])) _
    refine XS.iload X78.here hx rfl (hb hby at_455) rfl ?_
    show Steps p.tables e below (T78.setTop (mkF m 457 #[.val (.long a1), .second, .val (.int a2), .val (.int (Int32.ofNat pn)), .val (.ref ar), .val (.int c0), .val (.int c1), .val (.int c2), .val (.int c3), .val (.int c4), .val (.long exv), .second, .val (.int lnv), .val (.ref ob), .val (.long (own_val (own_bk (own_byte a1) pn 0) (own_bk (own_byte a1) pn 1) (own_bk (own_byte a1) pn 2) (own_bk (own_byte a1) pn 3) (own_bk (own_byte a1) pn 4))), .second] [(.int lnv), (.int (Int32.ofNat pn)), (.int ((Int32.ofNat pn) + (own_ln (own_bk (own_byte a1) pn 0) (own_bk (own_byte a1) pn 1) (own_bk (own_byte a1) pn 2) (own_bk (own_byte a1) pn 3) (own_bk (own_byte a1) pn 4))))])) _
    refine XS.iadd X78.here hx rfl (hb hby at_457) rfl ?_
    show Steps p.tables e below (T78.setTop (mkF m 458 #[.val (.long a1), .second, .val (.int a2), .val (.int (Int32.ofNat pn)), .val (.ref ar), .val (.int c0), .val (.int c1), .val (.int c2), .val (.int c3), .val (.int c4), .val (.long exv), .second, .val (.int lnv), .val (.ref ob), .val (.long (own_val (own_bk (own_byte a1) pn 0) (own_bk (own_byte a1) pn 1) (own_bk (own_byte a1) pn 2) (own_bk (own_byte a1) pn 3) (own_bk (own_byte a1) pn 4))), .second] [(.int ((Int32.ofNat pn) + lnv)), (.int ((Int32.ofNat pn) + (own_ln (own_bk (own_byte a1) pn 0) (own_bk (own_byte a1) pn 1) (own_bk (own_byte a1) pn 2) (own_bk (own_byte a1) pn 3) (own_bk (own_byte a1) pn 4))))])) _
    refine XS.icmpNo X78.here hx rfl (hb hby at_458) rfl (teq (by rw [← hd_c0, ← hd_c1, ← hd_c2, ← hd_c3, ← hd_c4, hlnv])).2 ?_
    show Steps p.tables e below (T78.setTop (mkF m 461 #[.val (.long a1), .second, .val (.int a2), .val (.int (Int32.ofNat pn)), .val (.ref ar), .val (.int c0), .val (.int c1), .val (.int c2), .val (.int c3), .val (.int c4), .val (.long exv), .second, .val (.int lnv), .val (.ref ob), .val (.long (own_val (own_bk (own_byte a1) pn 0) (own_bk (own_byte a1) pn 1) (own_bk (own_byte a1) pn 2) (own_bk (own_byte a1) pn 3) (own_bk (own_byte a1) pn 4))), .second] [])) _
    refine XS.iconst X78.here hx rfl (hb hby at_461) ?_
    show Steps p.tables e below (T78.setTop (mkF m 462 #[.val (.long a1), .second, .val (.int a2), .val (.int (Int32.ofNat pn)), .val (.ref ar), .val (.int c0), .val (.int c1), .val (.int c2), .val (.int c3), .val (.int c4), .val (.long exv), .second, .val (.int lnv), .val (.ref ob), .val (.long (own_val (own_bk (own_byte a1) pn 0) (own_bk (own_byte a1) pn 1) (own_bk (own_byte a1) pn 2) (own_bk (own_byte a1) pn 3) (own_bk (own_byte a1) pn 4))), .second] [(.int (1 : Int32))])) _
    refine XS.goto X78.here hx rfl (pc0 := 462) (pc' := 466) rfl (hb hby at_462) (by decide) (by decide) ?_
    show Steps p.tables e below (T78.setTop (mkF m 466 #[.val (.long a1), .second, .val (.int a2), .val (.int (Int32.ofNat pn)), .val (.ref ar), .val (.int c0), .val (.int c1), .val (.int c2), .val (.int c3), .val (.int c4), .val (.long exv), .second, .val (.int lnv), .val (.ref ob), .val (.long (own_val (own_bk (own_byte a1) pn 0) (own_bk (own_byte a1) pn 1) (own_bk (own_byte a1) pn 2) (own_bk (own_byte a1) pn 3) (own_bk (own_byte a1) pn 4))), .second] [(.int (1 : Int32))])) _
    exact retN X78 hx (t := .boolean) Bd.returns (by simp) (hb hby at_466) hr
  · show own_Q0 Z a1 a2 h0 n0 _ T78.heap _
    rw [eq78]
    exact ⟨rfl, N78⟩
set_option maxRecDepth 65536 in
set_option maxHeartbeats 40000000 in
theorem own_comes {Post : Tables → Env → Array Value → State → Outcome → State → Prop} (hpost : ∀ tb e args s v u, (limb_1_1.after args s (.returned v) u = true ∧ limb_1_2.after args s (.returned v) u = true ∧ True) → FrameEnd s (.returned v) u (Jvm.fieldLocs frame_1_writes args s ++ Jvm.arrayLocs frame_1_arrays args s ++ Jvm.staticLocs frame_1_statics s) 16 128 → Post tb e args s (.returned v) u) :
    ArmFor flags0 classFile x code maxLocals ret World_1 tables_1 room_1 Calls_1 rest_1 Pre_1 Post := by
  intro l hfl _ _ p e ha hc hk s m args below hf hA hF happ hP
  obtain ⟨hcalls, hrest, hpre⟩ := hP
  obtain ⟨-, -, -, hnamed, -, -, -, hat⟩ := (Spec.applies_iff hf).mp happ
  obtain ⟨hg, hn⟩ := and_e (Cond.before_iff.mp (show (Jvm.Cond.and given_1 narrow_1).before args s = true from hpre))
  obtain ⟨gc, ga0⟩ := and_e hg
  obtain ⟨gv0, ga1⟩ := and_e ga0
  obtain ⟨w0, w1, rfl⟩ : ∃ w0 w1 : Value, args = #[w0, w1] := by
    have hs : args.size = 2 := by simpa [Cond.value, given_1] using gc
    obtain ⟨L⟩ := args
    match L, hs with
    | [w0, w1], _ => exact ⟨w0, w1, rfl⟩
  have hw := fun d (hd : d ∈ tables_1) => atoms_spec (ws := Jvm.Cond.code x code maxLocals ret :: tables_1) hat d (List.mem_cons_of_mem _ hd)
  obtain ⟨i0, ei0⟩ := isL_v gv0
  obtain rfl : w0 = (.long i0) := Option.some.inj ei0
  obtain ⟨i1, ei1⟩ := is_v ga1
  obtain rfl : w1 = (.int i1) := Option.some.inj ei1
  obtain ⟨n, o, h1, h2, h3, _, L, rfl, ⟨rfl, N⟩, hq⟩ := own_rm0 l s _ hw tables_1 i0 i1 s.heap s.heap.size (Nat.le_refl _) p e ha hc hk s m _ below hf ((Spec.applies_iff_loose hf).mp happ).1 ⟨rfl, State.Warmed39.refl s, rfl⟩ trivial
  refine ⟨n, _, h1, h2, h3, hpost _ _ _ _ _ _ ⟨Cond.after_iff.mpr rfl, Cond.after_iff.mpr (eq_i res_at (Term.int_eval (1)) rfl), trivial⟩ ⟨hq.1, hq.2.1, (hq.2.2.sift fun y hy => Or.inr (N y hy)).mono (by decide) (by decide)⟩⟩
theorem main_1_1 : Claimed_1_1 := own_comes fun _ _ _ _ _ _ h hF => ⟨h.1, hF⟩
theorem main_1_2 : Claimed_1_2 := own_comes fun _ _ _ _ _ _ h hF => ⟨h.2.1, hF⟩
end Jvm.Pilot.@@N@@
namespace Jvm.Pilot.@@N@@
open Jvm Jvm.ClassFile Sem Op Lib Jvm.Free Jvm.Stand Jvm.Pilot.@@N@@.Jvm.D
/-! MADE BY PROGRAM (witnessworld.py) out of the Statement's table words and the real class files: 9 classes; the members and pool entries that the words name. The judged class is class 1, her method 2. -/
namespace start1
open Jvm.ClassFile
def u (s : String) : CpInfo := .utf8 (stringToUtf16 s)
/-- a pool by its gaps: so many unusable entries, then the entry; so many at the end -/
def gap : Nat → List CpInfo → List CpInfo
  | 0, r => r
  | n + 1, r => .unusable :: gap n r
def poolList (es : List (Nat × CpInfo)) (last : Nat) : List CpInfo := es.foldr (fun e r => gap e.1 (e.2 :: r)) (gap last [])
def pool (es : List (Nat × CpInfo)) (last : Nat) : Array CpInfo := ⟨poolList es last⟩
def fileOf (pool : Array CpInfo) (this : Nat) (attrs : Array Attribute := #[]) (ms : Array MethodInfo := #[]) (fl : Nat := 33) (sup : Nat := 0) (ifs : Array Nat := #[]) (fds : Array FieldInfo := #[]) : ClassFile where
  minorVersion := 0
  majorVersion := 65
  constantPool := pool
  accessFlags := fl
  thisClass := this
  superClass := sup
  interfaces := ifs
  fields := fds
  methods := ms
  attributes := attrs
def plain (name : String) (sup : Option ClassId) : Class where
  name := name
  kind := .ordinary
  loader := none
  accessFlags := 33
  super := sup
  interfaces := #[]
  cf := none
  fields := #[]
  methods := #[]
  instanceTypes := #[]
  staticTypes := #[]
  resolved := #[]
  callSites := []
  init := .initialized
  statics := none
  mirror := none

def pool0 : Array CpInfo := pool [(5, u "<init>"), (0, u "()V"), (1, .class_ 10), (1, u "java/lang/Object")] 113

def k0c0 : Code := { maxStack := 0, maxLocals := 1, code := object_method_1_code, exceptionTable := #[], attributes := #[] }
def k0m0 : Method := { name := "<init>", desc := "()V", sig := { parameters := [], returnType := none }, accessFlags := 1, code := some k0c0 }
/-- java/lang/Object -/
def k0 : Class := { plain "java/lang/Object" none with
  accessFlags := 33
  interfaces := #[]
  cf := some (fileOf pool0 8 #[] #[{ accessFlags := 1, nameIndex := 5, descriptorIndex := 6, attributes := #[] }] 33 0 #[] #[])
  fields := #[]
  methods := #[k0m0]
  instanceTypes := #[]
  staticTypes := #[]
  resolved := Array.replicate 124 none
  statics := none }

def pool1 : Array CpInfo := pool [(2, .class_ 4), (1, u "java/lang/Object"), (0, u "<init>"), (0, u "()V"), (0, .class_ 8), (0, u "com/example/ulebb/ulebb/dex/CursorUleb128PinLaw"), (0, .methodref 7 10), (0, .nameAndType 11 12), (0, u "b"), (0, u "(JI)I"), (0, .long 18446744073709551615), (1, .class_ 16), (0, u "com/example/ulebb/ulebb/dex/Cursor"), (0, .methodref 15 18), (0, .nameAndType 5 19), (0, u "([B)V"), (0, .methodref 15 21), (0, .nameAndType 22 23), (0, u "position"), (0, u "(I)Lcom/example/ulebb/ulebb/dex/Cursor;"), (0, .methodref 15 25), (0, .nameAndType 26 27), (0, u "uleb128"), (0, u "()J"), (0, .methodref 15 29), (0, .nameAndType 22 30), (0, u "()I"), (0, u "ABSENT"), (0, u "I"), (5, u "law"), (0, u "(JI)Z")] 4

def k1m0 : Method := { name := "<init>", desc := "()V", sig := { parameters := [], returnType := none }, accessFlags := 1, code := none }
def k1c1 : Code := { maxStack := 4, maxLocals := 3, code := method_2_code, exceptionTable := #[], attributes := #[] }
def k1m1 : Method := { name := "b", desc := "(JI)I", sig := { parameters := [.long, .int], returnType := some .int }, accessFlags := 10, code := some k1c1 }
def k1c2 : Code := { maxStack := 5, maxLocals := 16, code := code, exceptionTable := #[], attributes := #[] }
def k1m2 : Method := { name := "law", desc := "(JI)Z", sig := { parameters := [.long, .int], returnType := some .boolean }, accessFlags := 9, code := some k1c2 }
/-- com/example/ulebb/ulebb/dex/CursorUleb128PinLaw -/
def k1 : Class := { plain "com/example/ulebb/ulebb/dex/CursorUleb128PinLaw" (some 0) with
  accessFlags := 49
  interfaces := #[]
  cf := some (fileOf pool1 7 #[] #[{ accessFlags := 1, nameIndex := 5, descriptorIndex := 6, attributes := #[] }, { accessFlags := 10, nameIndex := 11, descriptorIndex := 12, attributes := #[] }, { accessFlags := 9, nameIndex := 38, descriptorIndex := 39, attributes := #[] }] 49 2 #[] #[{ accessFlags := 26, nameIndex := 31, descriptorIndex := 32, attributes := #[] }])
  fields := #[{ name := "ABSENT", type := .int, accessFlags := 26, slot := 0, constantValue := 0 }]
  methods := #[k1m0, k1m1, k1m2]
  instanceTypes := #[]
  staticTypes := #[.int]
  resolved := Array.replicate 44 none
  statics := none }

def pool2 : Array CpInfo := pool [(1, .methodref 2 3), (0, .class_ 4), (0, .nameAndType 5 6), (0, u "java/lang/Object"), (0, u "<init>"), (0, u "()V"), (0, .fieldref 8 9), (0, .class_ 10), (0, .nameAndType 11 12), (0, u "com/example/ulebb/ulebb/dex/Cursor"), (0, u "bytes"), (0, u "[B"), (5, u "()I"), (6, u "([B)V"), (17, u "position"), (0, u "(I)Lcom/example/ulebb/ulebb/dex/Cursor;"), (0, .fieldref 8 46), (0, .nameAndType 43 47), (0, u "I"), (10, .long 4294967295), (1, .long 18446744073709551615), (20, u "()J"), (0, u "uleb128")] 8

def k2c0 : Code := { maxStack := 2, maxLocals := 2, code := prog_37_method_1_code, exceptionTable := #[], attributes := #[] }
def k2m0 : Method := { name := "<init>", desc := "([B)V", sig := { parameters := [(.array .byte)], returnType := none }, accessFlags := 0, code := some k2c0 }
def k2c1 : Code := { maxStack := 1, maxLocals := 1, code := prog_37_method_6_code, exceptionTable := #[], attributes := #[] }
def k2m1 : Method := { name := "position", desc := "()I", sig := { parameters := [], returnType := some .int }, accessFlags := 0, code := some k2c1 }
def k2c2 : Code := { maxStack := 2, maxLocals := 2, code := prog_37_method_7_code, exceptionTable := #[], attributes := #[] }
def k2m2 : Method := { name := "position", desc := "(I)Lcom/example/ulebb/ulebb/dex/Cursor;", sig := { parameters := [.int], returnType := some (.object "com/example/ulebb/ulebb/dex/Cursor") }, accessFlags := 0, code := some k2c2 }
def k2c3 : Code := { maxStack := 5, maxLocals := 6, code := prog_37_method_13_code, exceptionTable := #[], attributes := #[] }
def k2m3 : Method := { name := "uleb128", desc := "()J", sig := { parameters := [], returnType := some .long }, accessFlags := 0, code := some k2c3 }
/-- com/example/ulebb/ulebb/dex/Cursor -/
def k2 : Class := { plain "com/example/ulebb/ulebb/dex/Cursor" (some 0) with
  accessFlags := 32
  interfaces := #[]
  cf := some (fileOf pool2 8 #[] #[{ accessFlags := 0, nameIndex := 5, descriptorIndex := 25, attributes := #[] }, { accessFlags := 0, nameIndex := 43, descriptorIndex := 18, attributes := #[] }, { accessFlags := 0, nameIndex := 43, descriptorIndex := 44, attributes := #[] }, { accessFlags := 0, nameIndex := 82, descriptorIndex := 81, attributes := #[] }] 32 2 #[] #[{ accessFlags := 18, nameIndex := 11, descriptorIndex := 12, attributes := #[] }, { accessFlags := 2, nameIndex := 43, descriptorIndex := 47, attributes := #[] }])
  fields := #[{ name := "bytes", type := (.array .byte), accessFlags := 18, slot := 0, constantValue := 0 }, { name := "position", type := .int, accessFlags := 2, slot := 1, constantValue := 0 }]
  methods := #[k2m0, k2m1, k2m2, k2m3]
  instanceTypes := #[(.array .byte), .int]
  staticTypes := #[]
  resolved := Array.replicate 91 none
  statics := none }

def pool3 : Array CpInfo := pool [(1, u "java/lang/Cloneable"), (0, .class_ 1), (0, u "java/lang/Object"), (0, .class_ 3)] 3

/-- java/lang/Cloneable -/
def k3 : Class := { plain "java/lang/Cloneable" (some 0) with
  accessFlags := 1537
  interfaces := #[]
  cf := some (fileOf pool3 2 #[] #[] 1537 4 #[] #[])
  fields := #[]
  methods := #[]
  instanceTypes := #[]
  staticTypes := #[]
  resolved := Array.replicate 8 none
  statics := none }

def pool4 : Array CpInfo := pool [(1, u "java/io/Serializable"), (0, .class_ 1), (0, u "java/lang/Object"), (0, .class_ 3)] 3

/-- java/io/Serializable -/
def k4 : Class := { plain "java/io/Serializable" (some 0) with
  accessFlags := 1537
  interfaces := #[]
  cf := some (fileOf pool4 2 #[] #[] 1537 4 #[] #[])
  fields := #[]
  methods := #[]
  instanceTypes := #[]
  staticTypes := #[]
  resolved := Array.replicate 8 none
  statics := none }

/-- the primitive byte -/
def k5 : Class := { plain "byte" none with kind := .primitive 'B', accessFlags := 0x411 }
/-- [B -/
def k6 : Class := { plain "[B" (some 0) with kind := .array 5 .byte, interfaces := #[3, 4], accessFlags := 1041 }

/-- the primitive int -/
def k7 : Class := { plain "int" none with kind := .primitive 'I', accessFlags := 0x411 }
/-- [I -/
def k8 : Class := { plain "[I" (some 0) with kind := .array 7 .int, interfaces := #[3, 4], accessFlags := 1041 }

def heap : Heap := #[]
def classes : Array Class := #[k0, k1, k2, k3, k4, k5, k6, k7, k8]
def interned : List (Array UInt16 × Addr) := []
def slotsUsed : Nat := 0
def theMethod : MethodId := ⟨1, 2⟩
def args0 : Array Value := #[.long 5, .int 6]
def aboutOver (below : List Frame) : State where
  vm := { classes := classes, interned := interned.toArray }
  heap := heap
  slotsUsed := slotsUsed
  threads := #[{ frames := .invoking theMethod args0 :: below }]
def below0 : List Frame := [.native { method := ⟨0, 0⟩, args := #[] }]
def about1 : State := aboutOver below0
def p0 : Program := .bare "" "" ""
def e0 : Env := launch0.env 0 0 0
theorem w_frames : about1.frames = Frame.invoking theMethod args0 :: below0 := rfl
set_option maxRecDepth 65536 in
theorem w_args : argsFit about1.vm theMethod args0 = true := by decide +kernel
set_option maxRecDepth 65536 in
theorem w_heap : heapFits about1 = true := by decide +kernel
set_option maxRecDepth 65536 in
theorem w_runnable : about1.curStatus? = some .runnable := by decide +kernel
set_option maxRecDepth 65536 in
theorem w_alone : about1.alone = true := by decide +kernel
set_option maxRecDepth 65536 in
theorem w_named : about1.methodNamed? x = some theMethod := by decide +kernel
set_option maxRecDepth 65536 in
theorem w_hears : about1.hears theMethod below0 = true := by decide +kernel
set_option maxRecDepth 65536 in
theorem w_ripe : about1.ripe theMethod args0 below0 = true := by decide +kernel
theorem w_running : about1.status = .running := rfl
set_option maxRecDepth 65536 in
theorem w_room : about1.hasRoom e0.platform room_1 = true :=
  launch0.hasRoom_least _ room_1 (by decide +kernel) (by decide +kernel) (by decide +kernel) (by decide +kernel) (by decide +kernel) (by decide +kernel)
theorem allAtoms_all (ts : List Jvm.Cond) (a : Array Jvm.Value) (st : Jvm.State) : (allAtoms ts).before a st = ts.all (fun c => c.before a st) := by
  induction ts with
  | nil => rfl
  | cons c t ih =>
    show (Jvm.Cond.and c (allAtoms t)).before a st = _
    rw [Jvm.Cond.before_and, ih, List.all_cons]
def words1 : List Jvm.Cond := Jvm.Cond.code x code maxLocals ret :: tables_1
/-- a 'code' word, met by the world's own term for the bytes: nothing is compared byte by byte -/
theorem code_word {y : MethodName} {bytes : ByteArray} {mx : Nat} {rt : Option FieldType} {a : Array Value} {s : State} {m : MethodId} {meth : Method} {c : Code} (h1 : s.methodNamed? y = some m) (h2 : s.vm.method? m = some meth) (h3 : meth.code = some c) (h4 : c.code = bytes)
    (h5 : (c.maxLocals == mx && c.exceptionTable.isEmpty && decide (c.maxStack ≤ mostOperands) && decide (meth.sig.returnType = rt) && !meth.locks && decide (parseMethodDescriptor y.desc = some meth.sig)) = true) : (Jvm.Cond.code y bytes mx rt).before a s = true := by
  simp only [Bool.and_eq_true, beq_iff_eq, Bool.not_eq_true', decide_eq_true_eq] at h5
  obtain ⟨⟨⟨⟨⟨g1, g2⟩, g3⟩, g4⟩, g5⟩, g6⟩ := h5
  simp [Cond.before, Cond.holds, Cond.value, h1, h2, h3, h4, g1, g2, g3, g4, g5, g6]
def isCode : Jvm.Cond → Bool
  | .code _ _ _ _ => true
  | _ => false
theorem all_split {L : List Jvm.Cond} {P : Jvm.Cond → Bool} (h1 : L.all (fun c => isCode c || P c) = true) (h2 : ∀ c ∈ L.filter isCode, P c = true) : L.all P = true := by
  refine List.all_eq_true.mpr fun c hc => ?_
  have h := List.all_eq_true.mp h1 c hc
  rcases Bool.eq_false_or_eq_true (isCode c) with hi | hi
  · exact h2 c (List.mem_filter.mpr ⟨hc, hi⟩)
  · simpa [hi] using h
set_option maxRecDepth 65536 in
theorem w_c0 : (Jvm.Cond.code x code maxLocals ret).before args0 about1 = true := code_word (m := ⟨1, 2⟩) (meth := k1m2) (c := k1c2) (by decide +kernel) rfl rfl rfl (by decide +kernel)
set_option maxRecDepth 65536 in
theorem w_c1 : (Jvm.Cond.code ({ cls := "com/example/ulebb/ulebb/dex/CursorUleb128PinLaw", name := "b", desc := "(JI)I" } : Jvm.MethodName) method_2_code (3 : Nat) (Option.some Jvm.ClassFile.FieldType.int)).before args0 about1 = true := code_word (m := ⟨1, 1⟩) (meth := k1m1) (c := k1c1) (by decide +kernel) rfl rfl rfl (by decide +kernel)
set_option maxRecDepth 65536 in
theorem w_c2 : (Jvm.Cond.code ({ cls := "com/example/ulebb/ulebb/dex/Cursor", name := "<init>", desc := "([B)V" } : Jvm.MethodName) prog_37_method_1_code (2 : Nat) (Option.none : Option Jvm.ClassFile.FieldType)).before args0 about1 = true := code_word (m := ⟨2, 0⟩) (meth := k2m0) (c := k2c0) (by decide +kernel) rfl rfl rfl (by decide +kernel)
set_option maxRecDepth 65536 in
theorem w_c3 : (Jvm.Cond.code ({ cls := "java/lang/Object", name := "<init>", desc := "()V" } : Jvm.MethodName) object_method_1_code (1 : Nat) (Option.none : Option Jvm.ClassFile.FieldType)).before args0 about1 = true := code_word (m := ⟨0, 0⟩) (meth := k0m0) (c := k0c0) (by decide +kernel) rfl rfl rfl (by decide +kernel)
set_option maxRecDepth 65536 in
theorem w_c4 : (Jvm.Cond.code ({ cls := "com/example/ulebb/ulebb/dex/Cursor", name := "position", desc := "(I)Lcom/example/ulebb/ulebb/dex/Cursor;" } : Jvm.MethodName) prog_37_method_7_code (2 : Nat) (Option.some (Jvm.ClassFile.FieldType.object "com/example/ulebb/ulebb/dex/Cursor"))).before args0 about1 = true := code_word (m := ⟨2, 2⟩) (meth := k2m2) (c := k2c2) (by decide +kernel) rfl rfl rfl (by decide +kernel)
set_option maxRecDepth 65536 in
theorem w_c5 : (Jvm.Cond.code ({ cls := "com/example/ulebb/ulebb/dex/Cursor", name := "uleb128", desc := "()J" } : Jvm.MethodName) prog_37_method_13_code (6 : Nat) (Option.some Jvm.ClassFile.FieldType.long)).before args0 about1 = true := code_word (m := ⟨2, 3⟩) (meth := k2m3) (c := k2c3) (by decide +kernel) rfl rfl rfl (by decide +kernel)
set_option maxRecDepth 65536 in
theorem w_c6 : (Jvm.Cond.code ({ cls := "com/example/ulebb/ulebb/dex/Cursor", name := "position", desc := "()I" } : Jvm.MethodName) prog_37_method_6_code (1 : Nat) (Option.some Jvm.ClassFile.FieldType.int)).before args0 about1 = true := code_word (m := ⟨2, 1⟩) (meth := k2m1) (c := k2c1) (by decide +kernel) rfl rfl rfl (by decide +kernel)
def codes1 : List Jvm.Cond := [Jvm.Cond.code x code maxLocals ret, Jvm.Cond.code ({ cls := "com/example/ulebb/ulebb/dex/CursorUleb128PinLaw", name := "b", desc := "(JI)I" } : Jvm.MethodName) method_2_code (3 : Nat) (Option.some Jvm.ClassFile.FieldType.int), Jvm.Cond.code ({ cls := "com/example/ulebb/ulebb/dex/Cursor", name := "<init>", desc := "([B)V" } : Jvm.MethodName) prog_37_method_1_code (2 : Nat) (Option.none : Option Jvm.ClassFile.FieldType), Jvm.Cond.code ({ cls := "java/lang/Object", name := "<init>", desc := "()V" } : Jvm.MethodName) object_method_1_code (1 : Nat) (Option.none : Option Jvm.ClassFile.FieldType), Jvm.Cond.code ({ cls := "com/example/ulebb/ulebb/dex/Cursor", name := "position", desc := "(I)Lcom/example/ulebb/ulebb/dex/Cursor;" } : Jvm.MethodName) prog_37_method_7_code (2 : Nat) (Option.some (Jvm.ClassFile.FieldType.object "com/example/ulebb/ulebb/dex/Cursor")), Jvm.Cond.code ({ cls := "com/example/ulebb/ulebb/dex/Cursor", name := "uleb128", desc := "()J" } : Jvm.MethodName) prog_37_method_13_code (6 : Nat) (Option.some Jvm.ClassFile.FieldType.long), Jvm.Cond.code ({ cls := "com/example/ulebb/ulebb/dex/Cursor", name := "position", desc := "()I" } : Jvm.MethodName) prog_37_method_6_code (1 : Nat) (Option.some Jvm.ClassFile.FieldType.int)]
set_option maxRecDepth 65536 in
theorem codes_eq : words1.filter isCode = codes1 := rfl
theorem w_codes : ∀ c ∈ words1.filter isCode, c.before args0 about1 = true := by
  rw [codes_eq]
  intro c hc
  simp only [codes1, List.mem_cons, List.not_mem_nil, or_false] at hc
  rcases hc with rfl | rfl | rfl | rfl | rfl | rfl | rfl
  · exact w_c0
  · exact w_c1
  · exact w_c2
  · exact w_c3
  · exact w_c4
  · exact w_c5
  · exact w_c6
set_option maxRecDepth 65536 in
theorem w_t1 : (words1.take 24).all (fun c => isCode c || c.before args0 about1) = true := by decide +kernel
set_option maxRecDepth 65536 in
theorem w_t2 : (words1.drop 24).all (fun c => isCode c || c.before args0 about1) = true := by decide +kernel
theorem w_tables : (allAtoms (Jvm.Cond.code x code maxLocals ret :: tables_1)).before args0 about1 = true := by
  rw [allAtoms_all]
  show words1.all (fun c => c.before args0 about1) = true
  refine all_split ?_ w_codes
  rw [← List.take_append_drop 24 words1, List.all_append, w_t1, w_t2]
  rfl
set_option maxRecDepth 65536 in
theorem w_case : (Jvm.Cond.and given_1 narrow_1).before args0 about1 = true := by decide +kernel
theorem w_applies : (headSpec (Jvm.Cond.code x code maxLocals ret :: tables_1) room_1).applies x e0.platform about1 = true :=
  (Spec.applies_iff w_frames).mpr ⟨w_running, w_runnable, w_alone, w_named, w_hears, w_ripe, w_room, w_tables⟩
theorem atStart : AtStart classFile x code maxLocals ret World_1 tables_1 room_1 Calls_1 rest_1 Pre_1 launch0 p0 e0 about1 theMethod args0 below0 :=
  ⟨lists_1, trivial, launch0.admits_env _ _ _, launch0.least_env, fairChoices_fair.cas, fairChoices_fair.clock, w_frames, w_args, w_heap, w_applies, trivial, trivial, w_case⟩
end start1
theorem witness_1 : WitnessClaimed_1 := ⟨start1.p0, start1.e0, start1.about1, start1.theMethod, start1.args0, start1.below0, start1.atStart⟩
end Jvm.Pilot.@@N@@
