import JvmDerived
import JvmDerived.Pilot.@@N@@Statement
import JvmDerived.Pilot.@@N@@Code
set_option linter.unusedVariables false
set_option linter.unusedSimpArgs false
namespace Jvm.RoadKit
open Sem ClassFile Op Lib Jvm.Stand Jvm.Free Jvm.LawKit
section New
variable {p : Program} {l : Launch} {e : Env} {R : Room} {s : State} {m : MethodId} {args : Array Value} {below : List Frame} {meth : Method} {c : Code} {T : State} {locs : List Loc} {cells slots : Nat}
theorem retI (X : Stand p l e R s m args below meth c T locs cells slots) (hx : p.tables.exec = Jvm.exec) {pc : Nat} {Ls : Array Slot} {z : Int32} {rest : List Value} (hret : meth.sig.returnType = some .int) (hd : decode c.code pc = .ok (.ireturn, 1)) {fs : List Frame}
    (hl : ∀ (f : JFrame) (acts : List Action), f.method = m → f.locked = none → f.entered = [] → (doReturn e (T.setTop f) acts (some (.int z))).1 = T.setFrames fs) : Steps p.tables e below (T.setTop (mkF m pc Ls (.int z :: rest))) (T.setFrames fs) := by
  have hm' : T.vm.method? m = some meth := X.method'
  have hn : narrow .int (.int z) = .int z := rfl
  show Steps p.tables e below (T.setTop { method := m, pc := pc, locals := Ls, stack := _ :: rest, locked := none }) _
  jvm_step X.here [X.here.top, hx, hd, hm', hret, hn]
  first | (intro acts; rw [hl _ acts rfl rfl rfl]) | rw [hl _ _ rfl rfl rfl]
  exact Steps.refl _
end New
end Jvm.RoadKit
namespace Jvm.Pilot.@@N@@
open Jvm Jvm.ClassFile Sem Op Lib Jvm.Free Jvm.Stand Jvm.LawKit Jvm.RoadKit Bundle Jvm.Pilot.@@N@@.Jvm.D
section OwnKit
variable {p : Program} {l : Launch} {e : Env} {R : Room} {s : State} {m : MethodId} {args : Array Value} {below : List Frame} {meth : Method} {c : Code} {T : State} {locs : List Loc} {cells slots : Nat} {Z : State} {h h' : Heap} {a b : Addr} {ty : FieldType} {n : Nat} {f : Nat → Value}
/-- an array by its length and the value at each place -/
def own_AF (Z : State) (h : Heap) (a : Addr) (ty : FieldType) (n : Nat) (f : Nat → Value) : Prop := ∃ c : Cell, Arr Z h a c ty ∧ c.slots.size = n ∧ n < 2 ^ 31 ∧ ∀ i, i < n → c.slots[i]? = some (f i)
theorem own_AF.lt (F : own_AF Z h a ty n f) : a < h.size := by obtain ⟨c, A, -⟩ := F; exact A.lt
theorem own_AF.ext (F : own_AF Z h a ty n f) (E : Ext h h') : own_AF Z h' a ty n f := by obtain ⟨c, A, r⟩ := F; exact ⟨c, A.ext E, r⟩
theorem own_AF.other {sl : Nat} {v : Value} (F : own_AF Z h b ty n f) (W : Wr h h' a sl v) (q : b ≠ a) : own_AF Z h' b ty n f := by obtain ⟨c, A, r⟩ := F; exact ⟨c, A.other W q, r⟩
theorem own_AF.keep {ws : List Addr} (F : own_AF Z h a ty n f) (K : Keep h h' ws) (q : a ∉ ws) : own_AF Z h' a ty n f := by obtain ⟨c, A, r⟩ := F; exact ⟨c, ⟨K.2.1 a c A.1 q, A.2⟩, r⟩
theorem own_AF.congr {g : Nat → Value} (F : own_AF Z h a ty n f) (q : ∀ i, i < n → f i = g i) : own_AF Z h a ty n g := by
  obtain ⟨c, A, r1, r2, r3⟩ := F; exact ⟨c, A, r1, r2, fun i hi => by rw [r3 i hi, q i hi]⟩
theorem own_AF.set {j : Nat} {v : Value} (F : own_AF Z h a ty n f) (W : Wr h h' a j v) : own_AF Z h' a ty n (fun i => if i = j then v else f i) := by
  obtain ⟨c, A, r1, r2, r3⟩ := F
  obtain ⟨cb', q1, q2, q3, q4, -, q6, q7⟩ := wr_at W A.1
  obtain ⟨e1, e2, -⟩ := q7 rfl
  refine ⟨_, A.same W, ?_, r2, fun i hi => ?_⟩
  · rw [sz_set]; exact r1
  · rw [← e1]
    by_cases hij : i = j
    · subst hij; simp only [if_true]; exact e2
    · rw [q6 i hij, r3 i hi]; simp only [hij, if_false]
theorem own_AF.new {k : ClassId} {z : Int32} {d : Value} (A : Arr Z h a (newA k ty z) ty) (q : ¬ z < 0) (hn : z.toNatClampNeg = n) (hd : defaultValue ty = d := by rfl) : own_AF Z h a ty n (fun _ => d) := by
  subst hn
  refine ⟨_, A, sz_new _ _ _, (back32 q).2, fun i hi => ?_⟩
  simp [newA, hi, hd]
theorem own_AF.inb {c : Cell} {j : Int32} {k : Nat} (S : c.slots.size = n) (h1 : ¬ j < 0) (hk : j.toNatClampNeg = k) (h2 : k < n) : ¬ (j < 0 ∨ c.slots.size ≤ j.toNatClampNeg) := by
  rw [S, hk]; exact fun q => q.elim h1 fun q => by omega
theorem own_ldI (X : Stand p l e R s m args below meth c T locs cells slots) (hx : p.tables.exec = Jvm.exec) (hZ : Z.Warmed39 s.vm) (eT : T.heap = h) (A : own_AF Z h a .int n f) {j : Int32} (h1 : ¬ j < 0) {k : Nat} (hk : j.toNatClampNeg = k) (h2 : k < n) {v : Value} (hv : f k = v)
    {g : JFrame} (hg : g.method = m) {rest : List Value} (hs : g.stack = .int j :: .ref a :: rest) (hd : decode c.code g.pc = .ok (.iaload, 1)) (target : State)
    (hr : Steps p.tables e below (T.setTop { g with pc := g.pc + 1, stack := v :: rest }) target) : Steps p.tables e below (T.setTop g) target := by
  obtain ⟨cl, A, r1, r2, r3⟩ := A
  exact X.iaload hx (by rw [eT]; exact A.1) (State.isArrayOf_alike hZ.alike A.2.1) A.2.2 (own_AF.inb r1 h1 hk h2) (by rw [hk, ← hv]; exact r3 k h2) hg hs hd _ hr
theorem own_ldJ (X : Stand p l e R s m args below meth c T locs cells slots) (hx : p.tables.exec = Jvm.exec) (hZ : Z.Warmed39 s.vm) (eT : T.heap = h) (A : own_AF Z h a .long n f) {j : Int32} (h1 : ¬ j < 0) {k : Nat} (hk : j.toNatClampNeg = k) (h2 : k < n) {v : Value} (hv : f k = v)
    {g : JFrame} (hg : g.method = m) {rest : List Value} (hs : g.stack = .int j :: .ref a :: rest) (hd : decode c.code g.pc = .ok (.laload, 1)) (target : State)
    (hr : Steps p.tables e below (T.setTop { g with pc := g.pc + 1, stack := v :: rest }) target) : Steps p.tables e below (T.setTop g) target := by
  obtain ⟨cl, A, r1, r2, r3⟩ := A
  exact X.laload hx (by rw [eT]; exact A.1) (State.isArrayOf_alike hZ.alike A.2.1) A.2.2 (own_AF.inb r1 h1 hk h2) (by rw [hk, ← hv]; exact r3 k h2) hg hs hd _ hr
theorem own_ldB (X : Stand p l e R s m args below meth c T locs cells slots) (hx : p.tables.exec = Jvm.exec) (hZ : Z.Warmed39 s.vm) (eT : T.heap = h) (A : own_AF Z h a .byte n f) {j : Int32} (h1 : ¬ j < 0) {k : Nat} (hk : j.toNatClampNeg = k) (h2 : k < n) {v : Value} (hv : f k = v)
    {g : JFrame} (hg : g.method = m) {rest : List Value} (hs : g.stack = .int j :: .ref a :: rest) (hd : decode c.code g.pc = .ok (.baload, 1)) (target : State)
    (hr : Steps p.tables e below (T.setTop { g with pc := g.pc + 1, stack := v :: rest }) target) : Steps p.tables e below (T.setTop g) target := by
  obtain ⟨cl, A, r1, r2, r3⟩ := A
  exact X.baloadBytes hx (by rw [eT]; exact A.1) (State.isArrayOf_alike hZ.alike A.2.1) A.2.2 (own_AF.inb r1 h1 hk h2) (by rw [hk, ← hv]; exact r3 k h2) hg hs hd _ hr
theorem own_ldZ (X : Stand p l e R s m args below meth c T locs cells slots) (hx : p.tables.exec = Jvm.exec) (hZ : Z.Warmed39 s.vm) (eT : T.heap = h) (A : own_AF Z h a .boolean n f) {j : Int32} (h1 : ¬ j < 0) {k : Nat} (hk : j.toNatClampNeg = k) (h2 : k < n) {v : Value} (hv : f k = v)
    {g : JFrame} (hg : g.method = m) {rest : List Value} (hs : g.stack = .int j :: .ref a :: rest) (hd : decode c.code g.pc = .ok (.baload, 1)) (target : State)
    (hr : Steps p.tables e below (T.setTop { g with pc := g.pc + 1, stack := v :: rest }) target) : Steps p.tables e below (T.setTop g) target := by
  obtain ⟨cl, A, r1, r2, r3⟩ := A
  exact X.baloadBooleans hx (by rw [eT]; exact A.1) (State.isArrayOf_alike hZ.alike A.2.1) A.2.2 (own_AF.inb r1 h1 hk h2) (by rw [hk, ← hv]; exact r3 k h2) hg hs hd _ hr
theorem own_len (X : Stand p l e R s m args below meth c T locs cells slots) (hx : p.tables.exec = Jvm.exec) (hZ : Z.Warmed39 s.vm) (eT : T.heap = h) (A : own_AF Z h a ty n f) {z : Int32} (hz : n.toInt32 = z)
    {g : JFrame} (hg : g.method = m) {rest : List Value} (hs : g.stack = .ref a :: rest) (hd : decode c.code g.pc = .ok (.arraylength, 1)) (target : State)
    (hr : Steps p.tables e below (T.setTop { g with pc := g.pc + 1, stack := .int z :: rest }) target) : Steps p.tables e below (T.setTop g) target := by
  obtain ⟨cl, A, r1, r2, r3⟩ := A
  exact X.arraylength hx (by rw [eT]; exact A.1) (State.isArrayOf_alike hZ.alike A.2.1) hg hs hd _ (by rw [r1, hz]; exact hr)
theorem own_stI (X : Stand p l e R s m args below meth c T locs cells slots) (hx : p.tables.exec = Jvm.exec) (hZ : Z.Warmed39 s.vm) (eT : T.heap = h) (A : own_AF Z h a .int n f) {j x : Int32} (h1 : ¬ j < 0) {k : Nat} (hk : j.toNatClampNeg = k) (h2 : k < n)
    {g : JFrame} (hg : g.method = m) {rest : List Value} (hs : g.stack = .int x :: .int j :: .ref a :: rest) (hd : decode c.code g.pc = .ok (.iastore, 1)) :
    ∃ T' h', Stand p l e R s m args below meth c T' (locs ++ [⟨a, k⟩]) cells slots ∧ T'.heap = h' ∧ Wr h h' a k (.int x) ∧ own_AF Z h' a .int n (fun i => if i = k then .int x else f i) ∧ ∀ target, Steps p.tables e below (T'.setTop { g with pc := g.pc + 1, stack := rest }) target → Steps p.tables e below (T.setTop g) target := by
  obtain ⟨cl, A', r1, r2, r3⟩ := id A
  obtain ⟨T', h', X', e', W', st⟩ := stI X hx hZ eT A' (own_AF.inb r1 h1 hk h2) hg hs hd
  subst hk
  exact ⟨T', h', X', e', W', A.set W', st⟩
theorem own_stJ (X : Stand p l e R s m args below meth c T locs cells slots) (hx : p.tables.exec = Jvm.exec) (hZ : Z.Warmed39 s.vm) (eT : T.heap = h) (A : own_AF Z h a .long n f) {j : Int32} {x : Int64} (h1 : ¬ j < 0) {k : Nat} (hk : j.toNatClampNeg = k) (h2 : k < n)
    {g : JFrame} (hg : g.method = m) {rest : List Value} (hs : g.stack = .long x :: .int j :: .ref a :: rest) (hd : decode c.code g.pc = .ok (.lastore, 1)) :
    ∃ T' h', Stand p l e R s m args below meth c T' (locs ++ [⟨a, k⟩]) cells slots ∧ T'.heap = h' ∧ Wr h h' a k (.long x) ∧ own_AF Z h' a .long n (fun i => if i = k then .long x else f i) ∧ ∀ target, Steps p.tables e below (T'.setTop { g with pc := g.pc + 1, stack := rest }) target → Steps p.tables e below (T.setTop g) target := by
  obtain ⟨cl, A', r1, r2, r3⟩ := id A
  obtain ⟨T', h', X', e', W', st⟩ := stJ X hx hZ eT A' (own_AF.inb r1 h1 hk h2) hg hs hd
  subst hk
  exact ⟨T', h', X', e', W', A.set W', st⟩
theorem own_stB (X : Stand p l e R s m args below meth c T locs cells slots) (hx : p.tables.exec = Jvm.exec) (hZ : Z.Warmed39 s.vm) (eT : T.heap = h) (A : own_AF Z h a .byte n f) {j x : Int32} (h1 : ¬ j < 0) {k : Nat} (hk : j.toNatClampNeg = k) (h2 : k < n)
    {g : JFrame} (hg : g.method = m) {rest : List Value} (hs : g.stack = .int x :: .int j :: .ref a :: rest) (hd : decode c.code g.pc = .ok (.bastore, 1)) :
    ∃ T' h', Stand p l e R s m args below meth c T' (locs ++ [⟨a, k⟩]) cells slots ∧ T'.heap = h' ∧ Wr h h' a k (.int (nar .byte x)) ∧ own_AF Z h' a .byte n (fun i => if i = k then .int (nar .byte x) else f i) ∧ ∀ target, Steps p.tables e below (T'.setTop { g with pc := g.pc + 1, stack := rest }) target → Steps p.tables e below (T.setTop g) target := by
  obtain ⟨cl, A', r1, r2, r3⟩ := id A
  obtain ⟨T', h', X', e', W', st⟩ := stB X hx hZ eT A' (own_AF.inb r1 h1 hk h2) hg hs hd
  subst hk
  exact ⟨T', h', X', e', W', A.set W', st⟩
theorem own_stZ (X : Stand p l e R s m args below meth c T locs cells slots) (hx : p.tables.exec = Jvm.exec) (hZ : Z.Warmed39 s.vm) (eT : T.heap = h) (A : own_AF Z h a .boolean n f) {j x : Int32} (h1 : ¬ j < 0) {k : Nat} (hk : j.toNatClampNeg = k) (h2 : k < n)
    {g : JFrame} (hg : g.method = m) {rest : List Value} (hs : g.stack = .int x :: .int j :: .ref a :: rest) (hd : decode c.code g.pc = .ok (.bastore, 1)) :
    ∃ T' h', Stand p l e R s m args below meth c T' (locs ++ [⟨a, k⟩]) cells slots ∧ T'.heap = h' ∧ Wr h h' a k (.int (nar .boolean x)) ∧ own_AF Z h' a .boolean n (fun i => if i = k then .int (nar .boolean x) else f i) ∧ ∀ target, Steps p.tables e below (T'.setTop { g with pc := g.pc + 1, stack := rest }) target → Steps p.tables e below (T.setTop g) target := by
  obtain ⟨cl, A', r1, r2, r3⟩ := id A
  obtain ⟨T', h', X', e', W', st⟩ := stZ X hx hZ eT A' (own_AF.inb r1 h1 hk h2) hg hs hd
  subst hk
  exact ⟨T', h', X', e', W', A.set W', st⟩
theorem own_lremM {g : JFrame} {target : State} (X : Stand p l e R s m args below meth c T locs cells slots) (hx : p.tables.exec = Jvm.exec) (hg : g.method = m) {x y : Int64} {rest : List Value} (hd : decode c.code g.pc = .ok (.lrem, 1)) (hs : g.stack = .long y :: .long x :: rest) (hy : y ≠ 0)
    (hr : Steps p.tables e below (T.setTop { g with pc := g.pc + 1, stack := .long (x % y) :: rest }) target) : Steps p.tables e below (T.setTop g) target :=
  XS.lrem X.here hx hg hd hs hy (by rw [lrem_mod x y]; exact hr)
theorem own_cloneI {a0 : Array Value} (X : Stand p l e R s m args below meth c T locs cells slots) (hx : p.tables.exec = Jvm.exec) (hZ : Z.Warmed39 s.vm) {own : String} {index : Nat} (hown : s.vm.findClass own = some m.cls)
    (w1 : (Cond.methodLink own index ⟨"[I", "clone", "()Ljava/lang/Object;"⟩).before a0 Z = true) (w2 : (Cond.sameMethod "[I" "java/lang/Object" "clone" "()Ljava/lang/Object;").before a0 Z = true) (w3 : (Cond.native ⟨"java/lang/Object", "clone", "()Ljava/lang/Object;"⟩).before a0 Z = true)
    (w4 : (Cond.instanceMethod ⟨"java/lang/Object", "clone", "()Ljava/lang/Object;"⟩).before a0 Z = true) (w5 : (Cond.selects "[I" ⟨"[I", "clone", "()Ljava/lang/Object;"⟩ ⟨"java/lang/Object", "clone", "()Ljava/lang/Object;"⟩).before a0 Z = true) (w6 : (Cond.castable "[I" "java/lang/Cloneable").before a0 Z = true)
    (eT : T.heap = h) (F : own_AF Z h a .int n f) (E : Exa Z h a "[I") (hfit : ∀ i, i < n → fits .int (f i) = true) {g : JFrame} (hg : g.method = m) (hsize : g.locals.size = c.maxLocals) {rest : List Value} (hs : g.stack = .ref a :: rest) (hd : decode c.code g.pc = .ok (.invokevirtual index, 3))
    (hf : 1 ≤ R.frames) {W cap : Nat} (hW : 2 * g.monitorRoom + (rest.map fun v => v.category).sum ≤ W) (hl : W + 14 ≤ R.locals) (hcap : n ≤ cap) (hc : cells + 1 ≤ R.cells) (hsl : slots + cap ≤ R.slots) :
    ∃ T' h', Stand p l e R s m args below meth c T' locs (cells + 1) (slots + cap) ∧ T'.heap = h' ∧ Ext h h' ∧ own_AF Z h' h.size .int n f ∧ Exa Z h' h.size "[I" ∧
      ∀ target, Steps p.tables e below (T'.setTop { g with pc := g.pc + 3, stack := .ref h.size :: rest }) target → Steps p.tables e below (T.setTop g) target := by
  obtain ⟨cl, A, r1, r2, r3⟩ := F
  have FC : FitC Z cl := fitC_of A fun i hi v hv => by rw [r3 i (by omega)] at hv; cases hv; exact hfit i (by omega)
  obtain ⟨T', h', X', e', ex, A', E', st⟩ := cloneA X hx hZ hown w1 w2 w3 w4 w5 w6 eT A E FC hg hsize hs hd hf hW hl (by rw [r1]; exact hcap) hc hsl
  exact ⟨T', h', X', e', ex, ⟨cloneOf cl, A', r1, r2, r3⟩, E', st⟩
end OwnKit
def own_add (x y : Int64) : Int64 := if x = (-9223372036854775808 : Int64) ∨ y = (-9223372036854775808 : Int64) ∨ ((x ^^^ (x + y)) &&& (y ^^^ (x + y))) < (0 : Int64) then (-9223372036854775808 : Int64) else x + y
def own_exp (x y : Int64) : Int64 := if x = (-9223372036854775808 : Int64) ∨ y = (-9223372036854775808 : Int64) then (-9223372036854775808 : Int64) else if (0 : Int64) < y ∧ ((9223372036854775807 : Int64) - y) < x then (-9223372036854775808 : Int64) else if y < (0 : Int64) ∧ x < ((-9223372036854775808 : Int64) - y) then (-9223372036854775808 : Int64) else x + y
theorem own_add_exp (x y : Int64) : own_add x y = own_exp x y := by
  have hs := c_ladd x y
  have rx := rng64 x
  have ry := rng64 y
  have rs := rng64 (x + y)
  have a1 := c_xorSL x (x + y)
  have a2 := c_xorSL y (x + y)
  have a3 := c_andSL (x ^^^ (x + y)) (y ^^^ (x + y))
  have b1 := c_lsub (9223372036854775807 : Int64) y
  have b2 := c_lsub (-9223372036854775808 : Int64) y
  have r1 := rng64 ((9223372036854775807 : Int64) - y)
  have r2 := rng64 ((-9223372036854775808 : Int64) - y)
  have m1 : (-9223372036854775808 : Int64).toInt = -9223372036854775808 := rfl
  have m2 : (9223372036854775807 : Int64).toInt = 9223372036854775807 := rfl
  have m3 : (0 : Int64).toInt = 0 := rfl
  have k1 : x = (-9223372036854775808 : Int64) ↔ x.toInt = -9223372036854775808 := by rw [← Int64.toInt_inj, m1]
  have k2 : y = (-9223372036854775808 : Int64) ↔ y.toInt = -9223372036854775808 := by rw [← Int64.toInt_inj, m1]
  have k3 : ((x ^^^ (x + y)) &&& (y ^^^ (x + y))) < (0 : Int64) ↔ ((x ^^^ (x + y)) &&& (y ^^^ (x + y))).toInt < 0 := by rw [Int64.lt_iff_toInt_lt, m3]
  have k4 : (0 : Int64) < y ↔ 0 < y.toInt := by rw [Int64.lt_iff_toInt_lt, m3]
  have k5 : y < (0 : Int64) ↔ y.toInt < 0 := by rw [Int64.lt_iff_toInt_lt, m3]
  have k6 : ((9223372036854775807 : Int64) - y) < x ↔ ((9223372036854775807 : Int64) - y).toInt < x.toInt := Int64.lt_iff_toInt_lt
  have k7 : x < ((-9223372036854775808 : Int64) - y) ↔ x.toInt < ((-9223372036854775808 : Int64) - y).toInt := Int64.lt_iff_toInt_lt
  rw [m2] at b1
  rw [m1] at b2
  unfold own_add own_exp
  simp only [k1, k2, k3, k4, k5, k6, k7]
  generalize ((x ^^^ (x + y)) &&& (y ^^^ (x + y))).toInt = u at *
  generalize (x ^^^ (x + y)).toInt = u1 at *
  generalize (y ^^^ (x + y)).toInt = u2 at *
  generalize ((9223372036854775807 : Int64) - y).toInt = d1 at *
  generalize ((-9223372036854775808 : Int64) - y).toInt = d2 at *
  by_cases h1 : x.toInt = -9223372036854775808
  · rw [if_pos (Or.inl h1), if_pos (Or.inl h1)]
  by_cases h2 : y.toInt = -9223372036854775808
  · rw [if_pos (Or.inr (Or.inl h2)), if_pos (Or.inr h2)]
  rw [if_neg (show ¬ (x.toInt = -9223372036854775808 ∨ y.toInt = -9223372036854775808) from fun q => q.elim h1 h2)]
  by_cases h3 : u < 0
  · rw [if_pos (Or.inr (Or.inr h3))]
    by_cases h4 : 0 < y.toInt ∧ d1 < x.toInt
    · rw [if_pos h4]
    · rw [if_neg h4]
      by_cases h5 : y.toInt < 0 ∧ x.toInt < d2
      · rw [if_pos h5]
      · omega
  · rw [if_neg (show ¬ (x.toInt = -9223372036854775808 ∨ y.toInt = -9223372036854775808 ∨ u < 0) from fun q => q.elim h1 (fun q => q.elim h2 h3))]
    by_cases h4 : 0 < y.toInt ∧ d1 < x.toInt
    · omega
    · rw [if_neg h4]
      by_cases h5 : y.toInt < 0 ∧ x.toInt < d2
      · omega
      · rw [if_neg h5]
theorem own_d1_0 : decode prog_50_method_51_code 0 = .ok (.lload_n 0, 1) := by decide +kernel
theorem own_d1_1 : decode prog_50_method_51_code 1 = .ok (.lload_n 2, 1) := by decide +kernel
theorem own_d1_2 : decode prog_50_method_51_code 2 = .ok (.ladd, 1) := by decide +kernel
theorem own_d1_3 : decode prog_50_method_51_code 3 = .ok (.lstore 4, 2) := by decide +kernel
theorem own_d1_5 : decode prog_50_method_51_code 5 = .ok (.lload_n 0, 1) := by decide +kernel
theorem own_d1_6 : decode prog_50_method_51_code 6 = .ok (.ldc2_w 25, 3) := by decide +kernel
theorem own_d1_9 : decode prog_50_method_51_code 9 = .ok (.lcmp, 1) := by decide +kernel
theorem own_d1_10 : decode prog_50_method_51_code 10 = .ok (.ifCond .eq 29, 3) := by decide +kernel
theorem own_d1_13 : decode prog_50_method_51_code 13 = .ok (.lload_n 2, 1) := by decide +kernel
theorem own_d1_14 : decode prog_50_method_51_code 14 = .ok (.ldc2_w 25, 3) := by decide +kernel
theorem own_d1_17 : decode prog_50_method_51_code 17 = .ok (.lcmp, 1) := by decide +kernel
theorem own_d1_18 : decode prog_50_method_51_code 18 = .ok (.ifCond .eq 21, 3) := by decide +kernel
theorem own_d1_21 : decode prog_50_method_51_code 21 = .ok (.lload_n 0, 1) := by decide +kernel
theorem own_d1_22 : decode prog_50_method_51_code 22 = .ok (.lload 4, 2) := by decide +kernel
theorem own_d1_24 : decode prog_50_method_51_code 24 = .ok (.lxor, 1) := by decide +kernel
theorem own_d1_25 : decode prog_50_method_51_code 25 = .ok (.lload_n 2, 1) := by decide +kernel
theorem own_d1_26 : decode prog_50_method_51_code 26 = .ok (.lload 4, 2) := by decide +kernel
theorem own_d1_28 : decode prog_50_method_51_code 28 = .ok (.lxor, 1) := by decide +kernel
theorem own_d1_29 : decode prog_50_method_51_code 29 = .ok (.land, 1) := by decide +kernel
theorem own_d1_30 : decode prog_50_method_51_code 30 = .ok (.lconst 0, 1) := by decide +kernel
theorem own_d1_31 : decode prog_50_method_51_code 31 = .ok (.lcmp, 1) := by decide +kernel
theorem own_d1_32 : decode prog_50_method_51_code 32 = .ok (.ifCond .lt 7, 3) := by decide +kernel
theorem own_d1_35 : decode prog_50_method_51_code 35 = .ok (.iconst 1, 1) := by decide +kernel
theorem own_d1_36 : decode prog_50_method_51_code 36 = .ok (.goto 4, 3) := by decide +kernel
theorem own_d1_39 : decode prog_50_method_51_code 39 = .ok (.iconst 0, 1) := by decide +kernel
theorem own_d1_40 : decode prog_50_method_51_code 40 = .ok (.istore 6, 2) := by decide +kernel
theorem own_d1_42 : decode prog_50_method_51_code 42 = .ok (.iload 6, 2) := by decide +kernel
theorem own_d1_44 : decode prog_50_method_51_code 44 = .ok (.ifCond .eq 8, 3) := by decide +kernel
theorem own_d1_47 : decode prog_50_method_51_code 47 = .ok (.lload 4, 2) := by decide +kernel
theorem own_d1_49 : decode prog_50_method_51_code 49 = .ok (.goto 6, 3) := by decide +kernel
theorem own_d1_52 : decode prog_50_method_51_code 52 = .ok (.ldc2_w 25, 3) := by decide +kernel
theorem own_d1_55 : decode prog_50_method_51_code 55 = .ok (.lreturn, 1) := by decide +kernel
theorem own_pn0 : plainName "com/example/firmwatt/firmwatt/Fraction" = true := by first | (simp [plainName, overriddenIn]; done) | decide +kernel
theorem own_ef1 (m : MethodId) (x0 : Int64) (x1 : Int64) : entryFrame m #[(.long x0), (.long x1)] 7 = mkF m 0 #[.val (.long x0), .second, .val (.long x1), .second, .unset, .unset, .unset] [] := by first | (simp [entryFrame, mkF, argsToLocals, Value.category]; done) | rfl
def own_Q1 (Z : State) (x1 : Int64) (y1 : Int64) (h0 : Heap) (n0 : Nat) (v : Option Value) (h : Heap) (L : List Loc) : Prop := v = some (.long (own_add x1 y1)) ∧ Fr n0 L ∧ h = h0
set_option maxRecDepth 65536 in
set_option maxHeartbeats 40000000 in
theorem own_rm1 (l : Launch) (Z : State) (a0 : Array Value) (hw : ∀ d ∈ tables_1, d.before a0 Z = true) (ws : List Jvm.Cond) (x1 : Int64) (y1 : Int64) (h0 : Heap) (n0 : Nat) (Z0 : n0 ≤ h0.size) :
    MetFree l (⟨"com/example/firmwatt/firmwatt/Fraction", "add", "(JJ)J"⟩ : MethodName) (head1 (Jvm.Cond.code (⟨"com/example/firmwatt/firmwatt/Fraction", "add", "(JJ)J"⟩ : MethodName) prog_50_method_51_code 7 (some .long) :: ws) ({ frames := 0, cells := 0, slots := 0, locals := 0 } : Room)) (fun a U => a = #[(.long x1), (.long y1)] ∧ Z.Warmed39 U.vm ∧ U.heap = h0) (fun _ _ _ _ _ => True) (fun _ U o U' => ∃ v L, o = .returned v ∧ own_Q1 Z x1 y1 h0 n0 v U'.heap L ∧ FrameEnd U o U' L ({ frames := 0, cells := 0, slots := 0, locals := 0 } : Room).cells ({ frames := 0, cells := 0, slots := 0, locals := 0 } : Room).slots) := by
  refine MetFree.of_bodySF (plainFor_of_name own_pn0) hisR ?_
  intro p e s m args below meth c s₁ Bd hml0 hP hK
  obtain ⟨rfl, hZ, hh⟩ := hP
  have hx := Bd.exec
  have hby := Bd.bytes
  have hml : c.maxLocals = 7 := hml0
  have hown : s.vm.findClass "com/example/firmwatt/firmwatt/Fraction" = some m.cls := findClass_of_methodNamed Bd.named
  have hnm := (name_of_methodNamed Bd.named Bd.method).1
  have X0 : Stand p l e ({ frames := 0, cells := 0, slots := 0, locals := 0 } : Room) s m #[(.long x1), (.long y1)] below meth c s₁ [] 0 0 := Stand.of_body Bd
  have e0 : s₁.heap = h0 := by rw [← hh, Bd.state]; rfl
  have N0 := Fr.nil n0
  have K0 := Keep.refl h0 []
  have pre0 : ∀ t, Steps p.tables e below (s₁.setTop (mkF m 0 #[.val (.long x1), .second, .val (.long y1), .second, .unset, .unset, .unset] [])) t → Steps p.tables e below (s₁.setTop (entryFrame m #[(.long x1), (.long y1)] 7)) t := fun t kt0 => castTop (own_ef1 m (x1) (y1)) kt0
  have pre1 : ∀ t, Steps p.tables e below (s₁.setTop (mkF m 10 #[.val (.long x1), .second, .val (.long y1), .second, .val (.long (x1 + y1)), .second, .unset] [(.int (lcmpW x1 (-9223372036854775808 : Int64)))])) t → Steps p.tables e below (s₁.setTop (entryFrame m #[(.long x1), (.long y1)] 7)) t := by
    intro t kt
    refine pre0 t ?_
    show Steps p.tables e below (s₁.setTop (mkF m 0 #[.val (.long x1), .second, .val (.long y1), .second, .unset, .unset, .unset] [])) _
    refine XS.lloadN X0.here hx rfl (hb hby own_d1_0) rfl ?_
    show Steps p.tables e below (s₁.setTop (mkF m 1 #[.val (.long x1), .second, .val (.long y1), .second, .unset, .unset, .unset] [(.long x1)])) _
    refine XS.lloadN X0.here hx rfl (hb hby own_d1_1) rfl ?_
    show Steps p.tables e below (s₁.setTop (mkF m 2 #[.val (.long x1), .second, .val (.long y1), .second, .unset, .unset, .unset] [(.long y1), (.long x1)])) _
    refine XS.ladd X0.here hx rfl (hb hby own_d1_2) rfl ?_
    show Steps p.tables e below (s₁.setTop (mkF m 3 #[.val (.long x1), .second, .val (.long y1), .second, .unset, .unset, .unset] [(.long (x1 + y1))])) _
    refine XS.lstore X0.here hx rfl (hb hby own_d1_3) rfl (l' := #[.val (.long x1), .second, .val (.long y1), .second, .val (.long (x1 + y1)), .second, .unset]) rfl ?_
    show Steps p.tables e below (s₁.setTop (mkF m 5 #[.val (.long x1), .second, .val (.long y1), .second, .val (.long (x1 + y1)), .second, .unset] [])) _
    refine XS.lloadN X0.here hx rfl (hb hby own_d1_5) rfl ?_
    show Steps p.tables e below (s₁.setTop (mkF m 6 #[.val (.long x1), .second, .val (.long y1), .second, .val (.long (x1 + y1)), .second, .unset] [(.long x1)])) _
    refine X0.ldc2Long hx hown (mvT hZ (hw _ (List.mem_of_getElem? (i := 4) rfl))) (g := (mkF m 6 #[.val (.long x1), .second, .val (.long y1), .second, .val (.long (x1 + y1)), .second, .unset] [(.long x1)])) rfl (hb hby own_d1_6) _ ?_
    show Steps p.tables e below (s₁.setTop (mkF m 9 #[.val (.long x1), .second, .val (.long y1), .second, .val (.long (x1 + y1)), .second, .unset] [(.long (-9223372036854775808 : Int64)), (.long x1)])) _
    refine XS.lcmp X0.here hx rfl (hb hby own_d1_9) rfl ?_
    exact kt
  by_cases hc10 : x1 = (-9223372036854775808 : Int64)
  case pos =>
    obtain ⟨fs, hr, hrun, hended, hW, hsame⟩ := X0.leave (v := some (.long (-9223372036854775808 : Int64))) (fun h => by rw [Bd.returns] at h; cases h) (BodyLoose.notSynchronized Bd)
    refine ⟨_, _, pre1 _ ?_, hrun, hended, _, _, rfl, ?_, ⟨_, rfl⟩, hW, hsame.mono (by decide) (by decide)⟩
    · skip
      show Steps p.tables e below (s₁.setTop (mkF m 10 #[.val (.long x1), .second, .val (.long y1), .second, .val (.long (x1 + y1)), .second, .unset] [(.int (lcmpW x1 (-9223372036854775808 : Int64)))])) _
      refine XS.ifYes X0.here hx rfl (pc0 := 10) (pc' := 39) rfl (hb hby own_d1_10) rfl ((if0 _ _).trans (teq ((lw_eq x1 (-9223372036854775808 : Int64)).mpr hc10)).1) (by decide) (by decide) ?_
      show Steps p.tables e below (s₁.setTop (mkF m 39 #[.val (.long x1), .second, .val (.long y1), .second, .val (.long (x1 + y1)), .second, .unset] [])) _
      refine XS.iconst X0.here hx rfl (hb hby own_d1_39) ?_
      show Steps p.tables e below (s₁.setTop (mkF m 40 #[.val (.long x1), .second, .val (.long y1), .second, .val (.long (x1 + y1)), .second, .unset] [(.int (0 : Int32))])) _
      refine XS.istore X0.here hx rfl (hb hby own_d1_40) rfl (l' := #[.val (.long x1), .second, .val (.long y1), .second, .val (.long (x1 + y1)), .second, .val (.int (0 : Int32))]) rfl ?_
      show Steps p.tables e below (s₁.setTop (mkF m 42 #[.val (.long x1), .second, .val (.long y1), .second, .val (.long (x1 + y1)), .second, .val (.int (0 : Int32))] [])) _
      refine XS.iload X0.here hx rfl (hb hby own_d1_42) rfl ?_
      show Steps p.tables e below (s₁.setTop (mkF m 44 #[.val (.long x1), .second, .val (.long y1), .second, .val (.long (x1 + y1)), .second, .val (.int (0 : Int32))] [(.int (0 : Int32))])) _
      refine XS.ifYes X0.here hx rfl (pc0 := 44) (pc' := 52) rfl (hb hby own_d1_44) rfl ((if0 _ _).trans (teq rfl).1) (by decide) (by decide) ?_
      show Steps p.tables e below (s₁.setTop (mkF m 52 #[.val (.long x1), .second, .val (.long y1), .second, .val (.long (x1 + y1)), .second, .val (.int (0 : Int32))] [])) _
      refine X0.ldc2Long hx hown (mvT hZ (hw _ (List.mem_of_getElem? (i := 4) rfl))) (g := (mkF m 52 #[.val (.long x1), .second, .val (.long y1), .second, .val (.long (x1 + y1)), .second, .val (.int (0 : Int32))] [])) rfl (hb hby own_d1_52) _ ?_
      show Steps p.tables e below (s₁.setTop (mkF m 55 #[.val (.long x1), .second, .val (.long y1), .second, .val (.long (x1 + y1)), .second, .val (.int (0 : Int32))] [(.long (-9223372036854775808 : Int64))])) _
      exact X0.lreturnOut hx Bd.returns (hb hby own_d1_55) hr
    · show own_Q1 Z x1 y1 h0 n0 _ s₁.heap _
      rw [e0]
      refine ⟨?_, N0, rfl⟩
      simp [own_add, hc10]
  case neg =>
    have pre2 : ∀ t, Steps p.tables e below (s₁.setTop (mkF m 18 #[.val (.long x1), .second, .val (.long y1), .second, .val (.long (x1 + y1)), .second, .unset] [(.int (lcmpW y1 (-9223372036854775808 : Int64)))])) t → Steps p.tables e below (s₁.setTop (entryFrame m #[(.long x1), (.long y1)] 7)) t := by
      intro t kt
      refine pre1 t ?_
      show Steps p.tables e below (s₁.setTop (mkF m 10 #[.val (.long x1), .second, .val (.long y1), .second, .val (.long (x1 + y1)), .second, .unset] [(.int (lcmpW x1 (-9223372036854775808 : Int64)))])) _
      refine XS.ifNo X0.here hx rfl (hb hby own_d1_10) rfl ((if0 _ _).trans (feq (fun q => hc10 ((lw_eq x1 (-9223372036854775808 : Int64)).mp q))).1) ?_
      show Steps p.tables e below (s₁.setTop (mkF m 13 #[.val (.long x1), .second, .val (.long y1), .second, .val (.long (x1 + y1)), .second, .unset] [])) _
      refine XS.lloadN X0.here hx rfl (hb hby own_d1_13) rfl ?_
      show Steps p.tables e below (s₁.setTop (mkF m 14 #[.val (.long x1), .second, .val (.long y1), .second, .val (.long (x1 + y1)), .second, .unset] [(.long y1)])) _
      refine X0.ldc2Long hx hown (mvT hZ (hw _ (List.mem_of_getElem? (i := 4) rfl))) (g := (mkF m 14 #[.val (.long x1), .second, .val (.long y1), .second, .val (.long (x1 + y1)), .second, .unset] [(.long y1)])) rfl (hb hby own_d1_14) _ ?_
      show Steps p.tables e below (s₁.setTop (mkF m 17 #[.val (.long x1), .second, .val (.long y1), .second, .val (.long (x1 + y1)), .second, .unset] [(.long (-9223372036854775808 : Int64)), (.long y1)])) _
      refine XS.lcmp X0.here hx rfl (hb hby own_d1_17) rfl ?_
      exact kt
    by_cases hc18 : y1 = (-9223372036854775808 : Int64)
    case pos =>
      obtain ⟨fs, hr, hrun, hended, hW, hsame⟩ := X0.leave (v := some (.long (-9223372036854775808 : Int64))) (fun h => by rw [Bd.returns] at h; cases h) (BodyLoose.notSynchronized Bd)
      refine ⟨_, _, pre2 _ ?_, hrun, hended, _, _, rfl, ?_, ⟨_, rfl⟩, hW, hsame.mono (by decide) (by decide)⟩
      · skip
        show Steps p.tables e below (s₁.setTop (mkF m 18 #[.val (.long x1), .second, .val (.long y1), .second, .val (.long (x1 + y1)), .second, .unset] [(.int (lcmpW y1 (-9223372036854775808 : Int64)))])) _
        refine XS.ifYes X0.here hx rfl (pc0 := 18) (pc' := 39) rfl (hb hby own_d1_18) rfl ((if0 _ _).trans (teq ((lw_eq y1 (-9223372036854775808 : Int64)).mpr hc18)).1) (by decide) (by decide) ?_
        show Steps p.tables e below (s₁.setTop (mkF m 39 #[.val (.long x1), .second, .val (.long y1), .second, .val (.long (x1 + y1)), .second, .unset] [])) _
        refine XS.iconst X0.here hx rfl (hb hby own_d1_39) ?_
        show Steps p.tables e below (s₁.setTop (mkF m 40 #[.val (.long x1), .second, .val (.long y1), .second, .val (.long (x1 + y1)), .second, .unset] [(.int (0 : Int32))])) _
        refine XS.istore X0.here hx rfl (hb hby own_d1_40) rfl (l' := #[.val (.long x1), .second, .val (.long y1), .second, .val (.long (x1 + y1)), .second, .val (.int (0 : Int32))]) rfl ?_
        show Steps p.tables e below (s₁.setTop (mkF m 42 #[.val (.long x1), .second, .val (.long y1), .second, .val (.long (x1 + y1)), .second, .val (.int (0 : Int32))] [])) _
        refine XS.iload X0.here hx rfl (hb hby own_d1_42) rfl ?_
        show Steps p.tables e below (s₁.setTop (mkF m 44 #[.val (.long x1), .second, .val (.long y1), .second, .val (.long (x1 + y1)), .second, .val (.int (0 : Int32))] [(.int (0 : Int32))])) _
        refine XS.ifYes X0.here hx rfl (pc0 := 44) (pc' := 52) rfl (hb hby own_d1_44) rfl ((if0 _ _).trans (teq rfl).1) (by decide) (by decide) ?_
        show Steps p.tables e below (s₁.setTop (mkF m 52 #[.val (.long x1), .second, .val (.long y1), .second, .val (.long (x1 + y1)), .second, .val (.int (0 : Int32))] [])) _
        refine X0.ldc2Long hx hown (mvT hZ (hw _ (List.mem_of_getElem? (i := 4) rfl))) (g := (mkF m 52 #[.val (.long x1), .second, .val (.long y1), .second, .val (.long (x1 + y1)), .second, .val (.int (0 : Int32))] [])) rfl (hb hby own_d1_52) _ ?_
        show Steps p.tables e below (s₁.setTop (mkF m 55 #[.val (.long x1), .second, .val (.long y1), .second, .val (.long (x1 + y1)), .second, .val (.int (0 : Int32))] [(.long (-9223372036854775808 : Int64))])) _
        exact X0.lreturnOut hx Bd.returns (hb hby own_d1_55) hr
      · show own_Q1 Z x1 y1 h0 n0 _ s₁.heap _
        rw [e0]
        refine ⟨?_, N0, rfl⟩
        simp [own_add, hc10, hc18]
    case neg =>
      have pre3 : ∀ t, Steps p.tables e below (s₁.setTop (mkF m 32 #[.val (.long x1), .second, .val (.long y1), .second, .val (.long (x1 + y1)), .second, .unset] [(.int (lcmpW ((x1 ^^^ (x1 + y1)) &&& (y1 ^^^ (x1 + y1))) (0 : Int64)))])) t → Steps p.tables e below (s₁.setTop (entryFrame m #[(.long x1), (.long y1)] 7)) t := by
        intro t kt
        refine pre2 t ?_
        show Steps p.tables e below (s₁.setTop (mkF m 18 #[.val (.long x1), .second, .val (.long y1), .second, .val (.long (x1 + y1)), .second, .unset] [(.int (lcmpW y1 (-9223372036854775808 : Int64)))])) _
        refine XS.ifNo X0.here hx rfl (hb hby own_d1_18) rfl ((if0 _ _).trans (feq (fun q => hc18 ((lw_eq y1 (-9223372036854775808 : Int64)).mp q))).1) ?_
        show Steps p.tables e below (s₁.setTop (mkF m 21 #[.val (.long x1), .second, .val (.long y1), .second, .val (.long (x1 + y1)), .second, .unset] [])) _
        refine XS.lloadN X0.here hx rfl (hb hby own_d1_21) rfl ?_
        show Steps p.tables e below (s₁.setTop (mkF m 22 #[.val (.long x1), .second, .val (.long y1), .second, .val (.long (x1 + y1)), .second, .unset] [(.long x1)])) _
        refine XS.lload X0.here hx rfl (hb hby own_d1_22) rfl ?_
        show Steps p.tables e below (s₁.setTop (mkF m 24 #[.val (.long x1), .second, .val (.long y1), .second, .val (.long (x1 + y1)), .second, .unset] [(.long (x1 + y1)), (.long x1)])) _
        refine XS.lxor X0.here hx rfl (hb hby own_d1_24) rfl ?_
        show Steps p.tables e below (s₁.setTop (mkF m 25 #[.val (.long x1), .second, .val (.long y1), .second, .val (.long (x1 + y1)), .second, .unset] [(.long (x1 ^^^ (x1 + y1)))])) _
        refine XS.lloadN X0.here hx rfl (hb hby own_d1_25) rfl ?_
        show Steps p.tables e below (s₁.setTop (mkF m 26 #[.val (.long x1), .second, .val (.long y1), .second, .val (.long (x1 + y1)), .second, .unset] [(.long y1), (.long (x1 ^^^ (x1 + y1)))])) _
        refine XS.lload X0.here hx rfl (hb hby own_d1_26) rfl ?_
        show Steps p.tables e below (s₁.setTop (mkF m 28 #[.val (.long x1), .second, .val (.long y1), .second, .val (.long (x1 + y1)), .second, .unset] [(.long (x1 + y1)), (.long y1), (.long (x1 ^^^ (x1 + y1)))])) _
        refine XS.lxor X0.here hx rfl (hb hby own_d1_28) rfl ?_
        show Steps p.tables e below (s₁.setTop (mkF m 29 #[.val (.long x1), .second, .val (.long y1), .second, .val (.long (x1 + y1)), .second, .unset] [(.long (y1 ^^^ (x1 + y1))), (.long (x1 ^^^ (x1 + y1)))])) _
        refine XS.land X0.here hx rfl (hb hby own_d1_29) rfl ?_
        show Steps p.tables e below (s₁.setTop (mkF m 30 #[.val (.long x1), .second, .val (.long y1), .second, .val (.long (x1 + y1)), .second, .unset] [(.long ((x1 ^^^ (x1 + y1)) &&& (y1 ^^^ (x1 + y1))))])) _
        refine XS.lconst X0.here hx rfl (hb hby own_d1_30) ?_
        show Steps p.tables e below (s₁.setTop (mkF m 31 #[.val (.long x1), .second, .val (.long y1), .second, .val (.long (x1 + y1)), .second, .unset] [(.long (0 : Int64)), (.long ((x1 ^^^ (x1 + y1)) &&& (y1 ^^^ (x1 + y1))))])) _
        refine XS.lcmp X0.here hx rfl (hb hby own_d1_31) rfl ?_
        exact kt
      by_cases hc32 : ((x1 ^^^ (x1 + y1)) &&& (y1 ^^^ (x1 + y1))) < (0 : Int64)
      case pos =>
        obtain ⟨fs, hr, hrun, hended, hW, hsame⟩ := X0.leave (v := some (.long (-9223372036854775808 : Int64))) (fun h => by rw [Bd.returns] at h; cases h) (BodyLoose.notSynchronized Bd)
        refine ⟨_, _, pre3 _ ?_, hrun, hended, _, _, rfl, ?_, ⟨_, rfl⟩, hW, hsame.mono (by decide) (by decide)⟩
        · skip
          show Steps p.tables e below (s₁.setTop (mkF m 32 #[.val (.long x1), .second, .val (.long y1), .second, .val (.long (x1 + y1)), .second, .unset] [(.int (lcmpW ((x1 ^^^ (x1 + y1)) &&& (y1 ^^^ (x1 + y1))) (0 : Int64)))])) _
          refine XS.ifYes X0.here hx rfl (pc0 := 32) (pc' := 39) rfl (hb hby own_d1_32) rfl ((if0 _ _).trans (tlt ((lw_lt ((x1 ^^^ (x1 + y1)) &&& (y1 ^^^ (x1 + y1))) (0 : Int64)).mpr hc32)).1) (by decide) (by decide) ?_
          show Steps p.tables e below (s₁.setTop (mkF m 39 #[.val (.long x1), .second, .val (.long y1), .second, .val (.long (x1 + y1)), .second, .unset] [])) _
          refine XS.iconst X0.here hx rfl (hb hby own_d1_39) ?_
          show Steps p.tables e below (s₁.setTop (mkF m 40 #[.val (.long x1), .second, .val (.long y1), .second, .val (.long (x1 + y1)), .second, .unset] [(.int (0 : Int32))])) _
          refine XS.istore X0.here hx rfl (hb hby own_d1_40) rfl (l' := #[.val (.long x1), .second, .val (.long y1), .second, .val (.long (x1 + y1)), .second, .val (.int (0 : Int32))]) rfl ?_
          show Steps p.tables e below (s₁.setTop (mkF m 42 #[.val (.long x1), .second, .val (.long y1), .second, .val (.long (x1 + y1)), .second, .val (.int (0 : Int32))] [])) _
          refine XS.iload X0.here hx rfl (hb hby own_d1_42) rfl ?_
          show Steps p.tables e below (s₁.setTop (mkF m 44 #[.val (.long x1), .second, .val (.long y1), .second, .val (.long (x1 + y1)), .second, .val (.int (0 : Int32))] [(.int (0 : Int32))])) _
          refine XS.ifYes X0.here hx rfl (pc0 := 44) (pc' := 52) rfl (hb hby own_d1_44) rfl ((if0 _ _).trans (teq rfl).1) (by decide) (by decide) ?_
          show Steps p.tables e below (s₁.setTop (mkF m 52 #[.val (.long x1), .second, .val (.long y1), .second, .val (.long (x1 + y1)), .second, .val (.int (0 : Int32))] [])) _
          refine X0.ldc2Long hx hown (mvT hZ (hw _ (List.mem_of_getElem? (i := 4) rfl))) (g := (mkF m 52 #[.val (.long x1), .second, .val (.long y1), .second, .val (.long (x1 + y1)), .second, .val (.int (0 : Int32))] [])) rfl (hb hby own_d1_52) _ ?_
          show Steps p.tables e below (s₁.setTop (mkF m 55 #[.val (.long x1), .second, .val (.long y1), .second, .val (.long (x1 + y1)), .second, .val (.int (0 : Int32))] [(.long (-9223372036854775808 : Int64))])) _
          exact X0.lreturnOut hx Bd.returns (hb hby own_d1_55) hr
        · show own_Q1 Z x1 y1 h0 n0 _ s₁.heap _
          rw [e0]
          refine ⟨?_, N0, rfl⟩
          simp [own_add, hc10, hc18, hc32]
      case neg =>
        obtain ⟨fs, hr, hrun, hended, hW, hsame⟩ := X0.leave (v := some (.long (x1 + y1))) (fun h => by rw [Bd.returns] at h; cases h) (BodyLoose.notSynchronized Bd)
        refine ⟨_, _, pre3 _ ?_, hrun, hended, _, _, rfl, ?_, ⟨_, rfl⟩, hW, hsame.mono (by decide) (by decide)⟩
        · skip
          show Steps p.tables e below (s₁.setTop (mkF m 32 #[.val (.long x1), .second, .val (.long y1), .second, .val (.long (x1 + y1)), .second, .unset] [(.int (lcmpW ((x1 ^^^ (x1 + y1)) &&& (y1 ^^^ (x1 + y1))) (0 : Int64)))])) _
          refine XS.ifNo X0.here hx rfl (hb hby own_d1_32) rfl ((if0 _ _).trans (flt (fun q => hc32 ((lw_lt ((x1 ^^^ (x1 + y1)) &&& (y1 ^^^ (x1 + y1))) (0 : Int64)).mp q))).1) ?_
          show Steps p.tables e below (s₁.setTop (mkF m 35 #[.val (.long x1), .second, .val (.long y1), .second, .val (.long (x1 + y1)), .second, .unset] [])) _
          refine XS.iconst X0.here hx rfl (hb hby own_d1_35) ?_
          show Steps p.tables e below (s₁.setTop (mkF m 36 #[.val (.long x1), .second, .val (.long y1), .second, .val (.long (x1 + y1)), .second, .unset] [(.int (1 : Int32))])) _
          refine XS.goto X0.here hx rfl (pc0 := 36) (pc' := 40) rfl (hb hby own_d1_36) (by decide) (by decide) ?_
          show Steps p.tables e below (s₁.setTop (mkF m 40 #[.val (.long x1), .second, .val (.long y1), .second, .val (.long (x1 + y1)), .second, .unset] [(.int (1 : Int32))])) _
          refine XS.istore X0.here hx rfl (hb hby own_d1_40) rfl (l' := #[.val (.long x1), .second, .val (.long y1), .second, .val (.long (x1 + y1)), .second, .val (.int (1 : Int32))]) rfl ?_
          show Steps p.tables e below (s₁.setTop (mkF m 42 #[.val (.long x1), .second, .val (.long y1), .second, .val (.long (x1 + y1)), .second, .val (.int (1 : Int32))] [])) _
          refine XS.iload X0.here hx rfl (hb hby own_d1_42) rfl ?_
          show Steps p.tables e below (s₁.setTop (mkF m 44 #[.val (.long x1), .second, .val (.long y1), .second, .val (.long (x1 + y1)), .second, .val (.int (1 : Int32))] [(.int (1 : Int32))])) _
          refine XS.ifNo X0.here hx rfl (hb hby own_d1_44) rfl ((if0 _ _).trans (feq (by decide)).1) ?_
          show Steps p.tables e below (s₁.setTop (mkF m 47 #[.val (.long x1), .second, .val (.long y1), .second, .val (.long (x1 + y1)), .second, .val (.int (1 : Int32))] [])) _
          refine XS.lload X0.here hx rfl (hb hby own_d1_47) rfl ?_
          show Steps p.tables e below (s₁.setTop (mkF m 49 #[.val (.long x1), .second, .val (.long y1), .second, .val (.long (x1 + y1)), .second, .val (.int (1 : Int32))] [(.long (x1 + y1))])) _
          refine XS.goto X0.here hx rfl (pc0 := 49) (pc' := 55) rfl (hb hby own_d1_49) (by decide) (by decide) ?_
          show Steps p.tables e below (s₁.setTop (mkF m 55 #[.val (.long x1), .second, .val (.long y1), .second, .val (.long (x1 + y1)), .second, .val (.int (1 : Int32))] [(.long (x1 + y1))])) _
          exact X0.lreturnOut hx Bd.returns (hb hby own_d1_55) hr
        · show own_Q1 Z x1 y1 h0 n0 _ s₁.heap _
          rw [e0]
          refine ⟨?_, N0, rfl⟩
          simp [own_add, hc10, hc18, hc32]
theorem own_d2_0 : decode method_2_code 0 = .ok (.lload_n 0, 1) := by decide +kernel
theorem own_d2_1 : decode method_2_code 1 = .ok (.ldc2_w 9, 3) := by decide +kernel
theorem own_d2_4 : decode method_2_code 4 = .ok (.lcmp, 1) := by decide +kernel
theorem own_d2_5 : decode method_2_code 5 = .ok (.ifCond .eq 11, 3) := by decide +kernel
theorem own_d2_8 : decode method_2_code 8 = .ok (.lload_n 2, 1) := by decide +kernel
theorem own_d2_9 : decode method_2_code 9 = .ok (.ldc2_w 9, 3) := by decide +kernel
theorem own_d2_12 : decode method_2_code 12 = .ok (.lcmp, 1) := by decide +kernel
theorem own_d2_13 : decode method_2_code 13 = .ok (.ifCond .ne 7, 3) := by decide +kernel
theorem own_d2_16 : decode method_2_code 16 = .ok (.ldc2_w 9, 3) := by decide +kernel
theorem own_d2_19 : decode method_2_code 19 = .ok (.lreturn, 1) := by decide +kernel
theorem own_d2_20 : decode method_2_code 20 = .ok (.lload_n 2, 1) := by decide +kernel
theorem own_d2_21 : decode method_2_code 21 = .ok (.lconst 0, 1) := by decide +kernel
theorem own_d2_22 : decode method_2_code 22 = .ok (.lcmp, 1) := by decide +kernel
theorem own_d2_23 : decode method_2_code 23 = .ok (.ifCond .le 17, 3) := by decide +kernel
theorem own_d2_26 : decode method_2_code 26 = .ok (.lload_n 0, 1) := by decide +kernel
theorem own_d2_27 : decode method_2_code 27 = .ok (.ldc2_w 11, 3) := by decide +kernel
theorem own_d2_30 : decode method_2_code 30 = .ok (.lload_n 2, 1) := by decide +kernel
theorem own_d2_31 : decode method_2_code 31 = .ok (.lsub, 1) := by decide +kernel
theorem own_d2_32 : decode method_2_code 32 = .ok (.lcmp, 1) := by decide +kernel
theorem own_d2_33 : decode method_2_code 33 = .ok (.ifCond .le 7, 3) := by decide +kernel
theorem own_d2_36 : decode method_2_code 36 = .ok (.ldc2_w 9, 3) := by decide +kernel
theorem own_d2_39 : decode method_2_code 39 = .ok (.lreturn, 1) := by decide +kernel
theorem own_d2_40 : decode method_2_code 40 = .ok (.lload_n 2, 1) := by decide +kernel
theorem own_d2_41 : decode method_2_code 41 = .ok (.lconst 0, 1) := by decide +kernel
theorem own_d2_42 : decode method_2_code 42 = .ok (.lcmp, 1) := by decide +kernel
theorem own_d2_43 : decode method_2_code 43 = .ok (.ifCond .ge 17, 3) := by decide +kernel
theorem own_d2_46 : decode method_2_code 46 = .ok (.lload_n 0, 1) := by decide +kernel
theorem own_d2_47 : decode method_2_code 47 = .ok (.ldc2_w 9, 3) := by decide +kernel
theorem own_d2_50 : decode method_2_code 50 = .ok (.lload_n 2, 1) := by decide +kernel
theorem own_d2_51 : decode method_2_code 51 = .ok (.lsub, 1) := by decide +kernel
theorem own_d2_52 : decode method_2_code 52 = .ok (.lcmp, 1) := by decide +kernel
theorem own_d2_53 : decode method_2_code 53 = .ok (.ifCond .ge 7, 3) := by decide +kernel
theorem own_d2_56 : decode method_2_code 56 = .ok (.ldc2_w 9, 3) := by decide +kernel
theorem own_d2_59 : decode method_2_code 59 = .ok (.lreturn, 1) := by decide +kernel
theorem own_d2_60 : decode method_2_code 60 = .ok (.lload_n 0, 1) := by decide +kernel
theorem own_d2_61 : decode method_2_code 61 = .ok (.lload_n 2, 1) := by decide +kernel
theorem own_d2_62 : decode method_2_code 62 = .ok (.ladd, 1) := by decide +kernel
theorem own_d2_63 : decode method_2_code 63 = .ok (.lreturn, 1) := by decide +kernel
theorem own_pn1 : plainName "com/example/firmwatt/firmwatt/FractionAddPinLaw" = true := by first | (simp [plainName, overriddenIn]; done) | decide +kernel
theorem own_ef2 (m : MethodId) (x0 : Int64) (x1 : Int64) : entryFrame m #[(.long x0), (.long x1)] 4 = mkF m 0 #[.val (.long x0), .second, .val (.long x1), .second] [] := by first | (simp [entryFrame, mkF, argsToLocals, Value.category]; done) | rfl
def own_Q2 (Z : State) (x1 : Int64) (y1 : Int64) (h0 : Heap) (n0 : Nat) (v : Option Value) (h : Heap) (L : List Loc) : Prop := v = some (.long (own_exp x1 y1)) ∧ Fr n0 L ∧ h = h0
set_option maxRecDepth 65536 in
set_option maxHeartbeats 40000000 in
theorem own_rm2 (l : Launch) (Z : State) (a0 : Array Value) (hw : ∀ d ∈ tables_1, d.before a0 Z = true) (ws : List Jvm.Cond) (x1 : Int64) (y1 : Int64) (h0 : Heap) (n0 : Nat) (Z0 : n0 ≤ h0.size) :
    MetFree l (⟨"com/example/firmwatt/firmwatt/FractionAddPinLaw", "expected", "(JJ)J"⟩ : MethodName) (head1 (Jvm.Cond.code (⟨"com/example/firmwatt/firmwatt/FractionAddPinLaw", "expected", "(JJ)J"⟩ : MethodName) method_2_code 4 (some .long) :: ws) ({ frames := 0, cells := 0, slots := 0, locals := 0 } : Room)) (fun a U => a = #[(.long x1), (.long y1)] ∧ Z.Warmed39 U.vm ∧ U.heap = h0) (fun _ _ _ _ _ => True) (fun _ U o U' => ∃ v L, o = .returned v ∧ own_Q2 Z x1 y1 h0 n0 v U'.heap L ∧ FrameEnd U o U' L ({ frames := 0, cells := 0, slots := 0, locals := 0 } : Room).cells ({ frames := 0, cells := 0, slots := 0, locals := 0 } : Room).slots) := by
  refine MetFree.of_bodySF (plainFor_of_name own_pn1) hisR ?_
  intro p e s m args below meth c s₁ Bd hml0 hP hK
  obtain ⟨rfl, hZ, hh⟩ := hP
  have hx := Bd.exec
  have hby := Bd.bytes
  have hml : c.maxLocals = 4 := hml0
  have hown : s.vm.findClass "com/example/firmwatt/firmwatt/FractionAddPinLaw" = some m.cls := findClass_of_methodNamed Bd.named
  have hnm := (name_of_methodNamed Bd.named Bd.method).1
  have X0 : Stand p l e ({ frames := 0, cells := 0, slots := 0, locals := 0 } : Room) s m #[(.long x1), (.long y1)] below meth c s₁ [] 0 0 := Stand.of_body Bd
  have e0 : s₁.heap = h0 := by rw [← hh, Bd.state]; rfl
  have N0 := Fr.nil n0
  have K0 := Keep.refl h0 []
  have pre0 : ∀ t, Steps p.tables e below (s₁.setTop (mkF m 0 #[.val (.long x1), .second, .val (.long y1), .second] [])) t → Steps p.tables e below (s₁.setTop (entryFrame m #[(.long x1), (.long y1)] 4)) t := fun t kt0 => castTop (own_ef2 m (x1) (y1)) kt0
  have pre1 : ∀ t, Steps p.tables e below (s₁.setTop (mkF m 5 #[.val (.long x1), .second, .val (.long y1), .second] [(.int (lcmpW x1 (-9223372036854775808 : Int64)))])) t → Steps p.tables e below (s₁.setTop (entryFrame m #[(.long x1), (.long y1)] 4)) t := by
    intro t kt
    refine pre0 t ?_
    show Steps p.tables e below (s₁.setTop (mkF m 0 #[.val (.long x1), .second, .val (.long y1), .second] [])) _
    refine XS.lloadN X0.here hx rfl (hb hby own_d2_0) rfl ?_
    show Steps p.tables e below (s₁.setTop (mkF m 1 #[.val (.long x1), .second, .val (.long y1), .second] [(.long x1)])) _
    refine X0.ldc2Long hx hown (mvT hZ (hw _ (List.mem_of_getElem? (i := 9) rfl))) (g := (mkF m 1 #[.val (.long x1), .second, .val (.long y1), .second] [(.long x1)])) rfl (hb hby own_d2_1) _ ?_
    show Steps p.tables e below (s₁.setTop (mkF m 4 #[.val (.long x1), .second, .val (.long y1), .second] [(.long (-9223372036854775808 : Int64)), (.long x1)])) _
    refine XS.lcmp X0.here hx rfl (hb hby own_d2_4) rfl ?_
    exact kt
  by_cases hc5 : x1 = (-9223372036854775808 : Int64)
  case pos =>
    obtain ⟨fs, hr, hrun, hended, hW, hsame⟩ := X0.leave (v := some (.long (-9223372036854775808 : Int64))) (fun h => by rw [Bd.returns] at h; cases h) (BodyLoose.notSynchronized Bd)
    refine ⟨_, _, pre1 _ ?_, hrun, hended, _, _, rfl, ?_, ⟨_, rfl⟩, hW, hsame.mono (by decide) (by decide)⟩
    · skip
      show Steps p.tables e below (s₁.setTop (mkF m 5 #[.val (.long x1), .second, .val (.long y1), .second] [(.int (lcmpW x1 (-9223372036854775808 : Int64)))])) _
      refine XS.ifYes X0.here hx rfl (pc0 := 5) (pc' := 16) rfl (hb hby own_d2_5) rfl ((if0 _ _).trans (teq ((lw_eq x1 (-9223372036854775808 : Int64)).mpr hc5)).1) (by decide) (by decide) ?_
      show Steps p.tables e below (s₁.setTop (mkF m 16 #[.val (.long x1), .second, .val (.long y1), .second] [])) _
      refine X0.ldc2Long hx hown (mvT hZ (hw _ (List.mem_of_getElem? (i := 9) rfl))) (g := (mkF m 16 #[.val (.long x1), .second, .val (.long y1), .second] [])) rfl (hb hby own_d2_16) _ ?_
      show Steps p.tables e below (s₁.setTop (mkF m 19 #[.val (.long x1), .second, .val (.long y1), .second] [(.long (-9223372036854775808 : Int64))])) _
      exact X0.lreturnOut hx Bd.returns (hb hby own_d2_19) hr
    · show own_Q2 Z x1 y1 h0 n0 _ s₁.heap _
      rw [e0]
      refine ⟨?_, N0, rfl⟩
      simp [own_exp, hc5]
  case neg =>
    have pre2 : ∀ t, Steps p.tables e below (s₁.setTop (mkF m 13 #[.val (.long x1), .second, .val (.long y1), .second] [(.int (lcmpW y1 (-9223372036854775808 : Int64)))])) t → Steps p.tables e below (s₁.setTop (entryFrame m #[(.long x1), (.long y1)] 4)) t := by
      intro t kt
      refine pre1 t ?_
      show Steps p.tables e below (s₁.setTop (mkF m 5 #[.val (.long x1), .second, .val (.long y1), .second] [(.int (lcmpW x1 (-9223372036854775808 : Int64)))])) _
      refine XS.ifNo X0.here hx rfl (hb hby own_d2_5) rfl ((if0 _ _).trans (feq (fun q => hc5 ((lw_eq x1 (-9223372036854775808 : Int64)).mp q))).1) ?_
      show Steps p.tables e below (s₁.setTop (mkF m 8 #[.val (.long x1), .second, .val (.long y1), .second] [])) _
      refine XS.lloadN X0.here hx rfl (hb hby own_d2_8) rfl ?_
      show Steps p.tables e below (s₁.setTop (mkF m 9 #[.val (.long x1), .second, .val (.long y1), .second] [(.long y1)])) _
      refine X0.ldc2Long hx hown (mvT hZ (hw _ (List.mem_of_getElem? (i := 9) rfl))) (g := (mkF m 9 #[.val (.long x1), .second, .val (.long y1), .second] [(.long y1)])) rfl (hb hby own_d2_9) _ ?_
      show Steps p.tables e below (s₁.setTop (mkF m 12 #[.val (.long x1), .second, .val (.long y1), .second] [(.long (-9223372036854775808 : Int64)), (.long y1)])) _
      refine XS.lcmp X0.here hx rfl (hb hby own_d2_12) rfl ?_
      exact kt
    by_cases hc13 : y1 = (-9223372036854775808 : Int64)
    case pos =>
      obtain ⟨fs, hr, hrun, hended, hW, hsame⟩ := X0.leave (v := some (.long (-9223372036854775808 : Int64))) (fun h => by rw [Bd.returns] at h; cases h) (BodyLoose.notSynchronized Bd)
      refine ⟨_, _, pre2 _ ?_, hrun, hended, _, _, rfl, ?_, ⟨_, rfl⟩, hW, hsame.mono (by decide) (by decide)⟩
      · skip
        show Steps p.tables e below (s₁.setTop (mkF m 13 #[.val (.long x1), .second, .val (.long y1), .second] [(.int (lcmpW y1 (-9223372036854775808 : Int64)))])) _
        refine XS.ifNo X0.here hx rfl (hb hby own_d2_13) rfl ((if0 _ _).trans (teq ((lw_eq y1 (-9223372036854775808 : Int64)).mpr hc13)).2) ?_
        show Steps p.tables e below (s₁.setTop (mkF m 16 #[.val (.long x1), .second, .val (.long y1), .second] [])) _
        refine X0.ldc2Long hx hown (mvT hZ (hw _ (List.mem_of_getElem? (i := 9) rfl))) (g := (mkF m 16 #[.val (.long x1), .second, .val (.long y1), .second] [])) rfl (hb hby own_d2_16) _ ?_
        show Steps p.tables e below (s₁.setTop (mkF m 19 #[.val (.long x1), .second, .val (.long y1), .second] [(.long (-9223372036854775808 : Int64))])) _
        exact X0.lreturnOut hx Bd.returns (hb hby own_d2_19) hr
      · show own_Q2 Z x1 y1 h0 n0 _ s₁.heap _
        rw [e0]
        refine ⟨?_, N0, rfl⟩
        simp [own_exp, hc5, hc13]
    case neg =>
      have pre3 : ∀ t, Steps p.tables e below (s₁.setTop (mkF m 23 #[.val (.long x1), .second, .val (.long y1), .second] [(.int (lcmpW y1 (0 : Int64)))])) t → Steps p.tables e below (s₁.setTop (entryFrame m #[(.long x1), (.long y1)] 4)) t := by
        intro t kt
        refine pre2 t ?_
        show Steps p.tables e below (s₁.setTop (mkF m 13 #[.val (.long x1), .second, .val (.long y1), .second] [(.int (lcmpW y1 (-9223372036854775808 : Int64)))])) _
        refine XS.ifYes X0.here hx rfl (pc0 := 13) (pc' := 20) rfl (hb hby own_d2_13) rfl ((if0 _ _).trans (feq (fun q => hc13 ((lw_eq y1 (-9223372036854775808 : Int64)).mp q))).2) (by decide) (by decide) ?_
        show Steps p.tables e below (s₁.setTop (mkF m 20 #[.val (.long x1), .second, .val (.long y1), .second] [])) _
        refine XS.lloadN X0.here hx rfl (hb hby own_d2_20) rfl ?_
        show Steps p.tables e below (s₁.setTop (mkF m 21 #[.val (.long x1), .second, .val (.long y1), .second] [(.long y1)])) _
        refine XS.lconst X0.here hx rfl (hb hby own_d2_21) ?_
        show Steps p.tables e below (s₁.setTop (mkF m 22 #[.val (.long x1), .second, .val (.long y1), .second] [(.long (0 : Int64)), (.long y1)])) _
        refine XS.lcmp X0.here hx rfl (hb hby own_d2_22) rfl ?_
        exact kt
      by_cases hc23 : (0 : Int64) < y1
      case pos =>
        have pre4 : ∀ t, Steps p.tables e below (s₁.setTop (mkF m 33 #[.val (.long x1), .second, .val (.long y1), .second] [(.int (lcmpW x1 ((9223372036854775807 : Int64) - y1)))])) t → Steps p.tables e below (s₁.setTop (entryFrame m #[(.long x1), (.long y1)] 4)) t := by
          intro t kt
          refine pre3 t ?_
          show Steps p.tables e below (s₁.setTop (mkF m 23 #[.val (.long x1), .second, .val (.long y1), .second] [(.int (lcmpW y1 (0 : Int64)))])) _
          refine XS.ifNo X0.here hx rfl (hb hby own_d2_23) rfl ((if0 _ _).trans (tlt ((lw_gt y1 (0 : Int64)).mpr hc23)).2.2.2) ?_
          show Steps p.tables e below (s₁.setTop (mkF m 26 #[.val (.long x1), .second, .val (.long y1), .second] [])) _
          refine XS.lloadN X0.here hx rfl (hb hby own_d2_26) rfl ?_
          show Steps p.tables e below (s₁.setTop (mkF m 27 #[.val (.long x1), .second, .val (.long y1), .second] [(.long x1)])) _
          refine X0.ldc2Long hx hown (mvT hZ (hw _ (List.mem_of_getElem? (i := 10) rfl))) (g := (mkF m 27 #[.val (.long x1), .second, .val (.long y1), .second] [(.long x1)])) rfl (hb hby own_d2_27) _ ?_
          show Steps p.tables e below (s₁.setTop (mkF m 30 #[.val (.long x1), .second, .val (.long y1), .second] [(.long (9223372036854775807 : Int64)), (.long x1)])) _
          refine XS.lloadN X0.here hx rfl (hb hby own_d2_30) rfl ?_
          show Steps p.tables e below (s₁.setTop (mkF m 31 #[.val (.long x1), .second, .val (.long y1), .second] [(.long y1), (.long (9223372036854775807 : Int64)), (.long x1)])) _
          refine XS.lsub X0.here hx rfl (hb hby own_d2_31) rfl ?_
          show Steps p.tables e below (s₁.setTop (mkF m 32 #[.val (.long x1), .second, .val (.long y1), .second] [(.long ((9223372036854775807 : Int64) - y1)), (.long x1)])) _
          refine XS.lcmp X0.here hx rfl (hb hby own_d2_32) rfl ?_
          exact kt
        by_cases hc33 : ((9223372036854775807 : Int64) - y1) < x1
        case pos =>
          obtain ⟨fs, hr, hrun, hended, hW, hsame⟩ := X0.leave (v := some (.long (-9223372036854775808 : Int64))) (fun h => by rw [Bd.returns] at h; cases h) (BodyLoose.notSynchronized Bd)
          refine ⟨_, _, pre4 _ ?_, hrun, hended, _, _, rfl, ?_, ⟨_, rfl⟩, hW, hsame.mono (by decide) (by decide)⟩
          · skip
            show Steps p.tables e below (s₁.setTop (mkF m 33 #[.val (.long x1), .second, .val (.long y1), .second] [(.int (lcmpW x1 ((9223372036854775807 : Int64) - y1)))])) _
            refine XS.ifNo X0.here hx rfl (hb hby own_d2_33) rfl ((if0 _ _).trans (tlt ((lw_gt x1 ((9223372036854775807 : Int64) - y1)).mpr hc33)).2.2.2) ?_
            show Steps p.tables e below (s₁.setTop (mkF m 36 #[.val (.long x1), .second, .val (.long y1), .second] [])) _
            refine X0.ldc2Long hx hown (mvT hZ (hw _ (List.mem_of_getElem? (i := 9) rfl))) (g := (mkF m 36 #[.val (.long x1), .second, .val (.long y1), .second] [])) rfl (hb hby own_d2_36) _ ?_
            show Steps p.tables e below (s₁.setTop (mkF m 39 #[.val (.long x1), .second, .val (.long y1), .second] [(.long (-9223372036854775808 : Int64))])) _
            exact X0.lreturnOut hx Bd.returns (hb hby own_d2_39) hr
          · show own_Q2 Z x1 y1 h0 n0 _ s₁.heap _
            rw [e0]
            refine ⟨?_, N0, rfl⟩
            simp [own_exp, hc5, hc13, hc23, hc33]
        case neg =>
          have pre5 : ∀ t, Steps p.tables e below (s₁.setTop (mkF m 43 #[.val (.long x1), .second, .val (.long y1), .second] [(.int (lcmpW y1 (0 : Int64)))])) t → Steps p.tables e below (s₁.setTop (entryFrame m #[(.long x1), (.long y1)] 4)) t := by
            intro t kt
            refine pre4 t ?_
            show Steps p.tables e below (s₁.setTop (mkF m 33 #[.val (.long x1), .second, .val (.long y1), .second] [(.int (lcmpW x1 ((9223372036854775807 : Int64) - y1)))])) _
            refine XS.ifYes X0.here hx rfl (pc0 := 33) (pc' := 40) rfl (hb hby own_d2_33) rfl ((if0 _ _).trans (flt (fun q => hc33 ((lw_gt x1 ((9223372036854775807 : Int64) - y1)).mp q))).2.2.2) (by decide) (by decide) ?_
            show Steps p.tables e below (s₁.setTop (mkF m 40 #[.val (.long x1), .second, .val (.long y1), .second] [])) _
            refine XS.lloadN X0.here hx rfl (hb hby own_d2_40) rfl ?_
            show Steps p.tables e below (s₁.setTop (mkF m 41 #[.val (.long x1), .second, .val (.long y1), .second] [(.long y1)])) _
            refine XS.lconst X0.here hx rfl (hb hby own_d2_41) ?_
            show Steps p.tables e below (s₁.setTop (mkF m 42 #[.val (.long x1), .second, .val (.long y1), .second] [(.long (0 : Int64)), (.long y1)])) _
            refine XS.lcmp X0.here hx rfl (hb hby own_d2_42) rfl ?_
            exact kt
          by_cases hc43 : y1 < (0 : Int64)
          case pos =>
            have pre6 : ∀ t, Steps p.tables e below (s₁.setTop (mkF m 53 #[.val (.long x1), .second, .val (.long y1), .second] [(.int (lcmpW x1 ((-9223372036854775808 : Int64) - y1)))])) t → Steps p.tables e below (s₁.setTop (entryFrame m #[(.long x1), (.long y1)] 4)) t := by
              intro t kt
              refine pre5 t ?_
              show Steps p.tables e below (s₁.setTop (mkF m 43 #[.val (.long x1), .second, .val (.long y1), .second] [(.int (lcmpW y1 (0 : Int64)))])) _
              refine XS.ifNo X0.here hx rfl (hb hby own_d2_43) rfl ((if0 _ _).trans (tlt ((lw_lt y1 (0 : Int64)).mpr hc43)).2.1) ?_
              show Steps p.tables e below (s₁.setTop (mkF m 46 #[.val (.long x1), .second, .val (.long y1), .second] [])) _
              refine XS.lloadN X0.here hx rfl (hb hby own_d2_46) rfl ?_
              show Steps p.tables e below (s₁.setTop (mkF m 47 #[.val (.long x1), .second, .val (.long y1), .second] [(.long x1)])) _
              refine X0.ldc2Long hx hown (mvT hZ (hw _ (List.mem_of_getElem? (i := 9) rfl))) (g := (mkF m 47 #[.val (.long x1), .second, .val (.long y1), .second] [(.long x1)])) rfl (hb hby own_d2_47) _ ?_
              show Steps p.tables e below (s₁.setTop (mkF m 50 #[.val (.long x1), .second, .val (.long y1), .second] [(.long (-9223372036854775808 : Int64)), (.long x1)])) _
              refine XS.lloadN X0.here hx rfl (hb hby own_d2_50) rfl ?_
              show Steps p.tables e below (s₁.setTop (mkF m 51 #[.val (.long x1), .second, .val (.long y1), .second] [(.long y1), (.long (-9223372036854775808 : Int64)), (.long x1)])) _
              refine XS.lsub X0.here hx rfl (hb hby own_d2_51) rfl ?_
              show Steps p.tables e below (s₁.setTop (mkF m 52 #[.val (.long x1), .second, .val (.long y1), .second] [(.long ((-9223372036854775808 : Int64) - y1)), (.long x1)])) _
              refine XS.lcmp X0.here hx rfl (hb hby own_d2_52) rfl ?_
              exact kt
            by_cases hc53 : x1 < ((-9223372036854775808 : Int64) - y1)
            case pos =>
              obtain ⟨fs, hr, hrun, hended, hW, hsame⟩ := X0.leave (v := some (.long (-9223372036854775808 : Int64))) (fun h => by rw [Bd.returns] at h; cases h) (BodyLoose.notSynchronized Bd)
              refine ⟨_, _, pre6 _ ?_, hrun, hended, _, _, rfl, ?_, ⟨_, rfl⟩, hW, hsame.mono (by decide) (by decide)⟩
              · skip
                show Steps p.tables e below (s₁.setTop (mkF m 53 #[.val (.long x1), .second, .val (.long y1), .second] [(.int (lcmpW x1 ((-9223372036854775808 : Int64) - y1)))])) _
                refine XS.ifNo X0.here hx rfl (hb hby own_d2_53) rfl ((if0 _ _).trans (tlt ((lw_lt x1 ((-9223372036854775808 : Int64) - y1)).mpr hc53)).2.1) ?_
                show Steps p.tables e below (s₁.setTop (mkF m 56 #[.val (.long x1), .second, .val (.long y1), .second] [])) _
                refine X0.ldc2Long hx hown (mvT hZ (hw _ (List.mem_of_getElem? (i := 9) rfl))) (g := (mkF m 56 #[.val (.long x1), .second, .val (.long y1), .second] [])) rfl (hb hby own_d2_56) _ ?_
                show Steps p.tables e below (s₁.setTop (mkF m 59 #[.val (.long x1), .second, .val (.long y1), .second] [(.long (-9223372036854775808 : Int64))])) _
                exact X0.lreturnOut hx Bd.returns (hb hby own_d2_59) hr
              · show own_Q2 Z x1 y1 h0 n0 _ s₁.heap _
                rw [e0]
                refine ⟨?_, N0, rfl⟩
                simp [own_exp, hc5, hc13, hc23, hc33, hc43, hc53]
            case neg =>
              obtain ⟨fs, hr, hrun, hended, hW, hsame⟩ := X0.leave (v := some (.long (x1 + y1))) (fun h => by rw [Bd.returns] at h; cases h) (BodyLoose.notSynchronized Bd)
              refine ⟨_, _, pre6 _ ?_, hrun, hended, _, _, rfl, ?_, ⟨_, rfl⟩, hW, hsame.mono (by decide) (by decide)⟩
              · skip
                show Steps p.tables e below (s₁.setTop (mkF m 53 #[.val (.long x1), .second, .val (.long y1), .second] [(.int (lcmpW x1 ((-9223372036854775808 : Int64) - y1)))])) _
                refine XS.ifYes X0.here hx rfl (pc0 := 53) (pc' := 60) rfl (hb hby own_d2_53) rfl ((if0 _ _).trans (flt (fun q => hc53 ((lw_lt x1 ((-9223372036854775808 : Int64) - y1)).mp q))).2.1) (by decide) (by decide) ?_
                show Steps p.tables e below (s₁.setTop (mkF m 60 #[.val (.long x1), .second, .val (.long y1), .second] [])) _
                refine XS.lloadN X0.here hx rfl (hb hby own_d2_60) rfl ?_
                show Steps p.tables e below (s₁.setTop (mkF m 61 #[.val (.long x1), .second, .val (.long y1), .second] [(.long x1)])) _
                refine XS.lloadN X0.here hx rfl (hb hby own_d2_61) rfl ?_
                show Steps p.tables e below (s₁.setTop (mkF m 62 #[.val (.long x1), .second, .val (.long y1), .second] [(.long y1), (.long x1)])) _
                refine XS.ladd X0.here hx rfl (hb hby own_d2_62) rfl ?_
                show Steps p.tables e below (s₁.setTop (mkF m 63 #[.val (.long x1), .second, .val (.long y1), .second] [(.long (x1 + y1))])) _
                exact X0.lreturnOut hx Bd.returns (hb hby own_d2_63) hr
              · show own_Q2 Z x1 y1 h0 n0 _ s₁.heap _
                rw [e0]
                refine ⟨?_, N0, rfl⟩
                simp [own_exp, hc5, hc13, hc23, hc33, hc43, hc53]
          case neg =>
            obtain ⟨fs, hr, hrun, hended, hW, hsame⟩ := X0.leave (v := some (.long (x1 + y1))) (fun h => by rw [Bd.returns] at h; cases h) (BodyLoose.notSynchronized Bd)
            refine ⟨_, _, pre5 _ ?_, hrun, hended, _, _, rfl, ?_, ⟨_, rfl⟩, hW, hsame.mono (by decide) (by decide)⟩
            · skip
              show Steps p.tables e below (s₁.setTop (mkF m 43 #[.val (.long x1), .second, .val (.long y1), .second] [(.int (lcmpW y1 (0 : Int64)))])) _
              refine XS.ifYes X0.here hx rfl (pc0 := 43) (pc' := 60) rfl (hb hby own_d2_43) rfl ((if0 _ _).trans (flt (fun q => hc43 ((lw_lt y1 (0 : Int64)).mp q))).2.1) (by decide) (by decide) ?_
              show Steps p.tables e below (s₁.setTop (mkF m 60 #[.val (.long x1), .second, .val (.long y1), .second] [])) _
              refine XS.lloadN X0.here hx rfl (hb hby own_d2_60) rfl ?_
              show Steps p.tables e below (s₁.setTop (mkF m 61 #[.val (.long x1), .second, .val (.long y1), .second] [(.long x1)])) _
              refine XS.lloadN X0.here hx rfl (hb hby own_d2_61) rfl ?_
              show Steps p.tables e below (s₁.setTop (mkF m 62 #[.val (.long x1), .second, .val (.long y1), .second] [(.long y1), (.long x1)])) _
              refine XS.ladd X0.here hx rfl (hb hby own_d2_62) rfl ?_
              show Steps p.tables e below (s₁.setTop (mkF m 63 #[.val (.long x1), .second, .val (.long y1), .second] [(.long (x1 + y1))])) _
              exact X0.lreturnOut hx Bd.returns (hb hby own_d2_63) hr
            · show own_Q2 Z x1 y1 h0 n0 _ s₁.heap _
              rw [e0]
              refine ⟨?_, N0, rfl⟩
              simp [own_exp, hc5, hc13, hc23, hc33, hc43]
      case neg =>
        have pre7 : ∀ t, Steps p.tables e below (s₁.setTop (mkF m 43 #[.val (.long x1), .second, .val (.long y1), .second] [(.int (lcmpW y1 (0 : Int64)))])) t → Steps p.tables e below (s₁.setTop (entryFrame m #[(.long x1), (.long y1)] 4)) t := by
          intro t kt
          refine pre3 t ?_
          show Steps p.tables e below (s₁.setTop (mkF m 23 #[.val (.long x1), .second, .val (.long y1), .second] [(.int (lcmpW y1 (0 : Int64)))])) _
          refine XS.ifYes X0.here hx rfl (pc0 := 23) (pc' := 40) rfl (hb hby own_d2_23) rfl ((if0 _ _).trans (flt (fun q => hc23 ((lw_gt y1 (0 : Int64)).mp q))).2.2.2) (by decide) (by decide) ?_
          show Steps p.tables e below (s₁.setTop (mkF m 40 #[.val (.long x1), .second, .val (.long y1), .second] [])) _
          refine XS.lloadN X0.here hx rfl (hb hby own_d2_40) rfl ?_
          show Steps p.tables e below (s₁.setTop (mkF m 41 #[.val (.long x1), .second, .val (.long y1), .second] [(.long y1)])) _
          refine XS.lconst X0.here hx rfl (hb hby own_d2_41) ?_
          show Steps p.tables e below (s₁.setTop (mkF m 42 #[.val (.long x1), .second, .val (.long y1), .second] [(.long (0 : Int64)), (.long y1)])) _
          refine XS.lcmp X0.here hx rfl (hb hby own_d2_42) rfl ?_
          exact kt
        by_cases hc43_2 : y1 < (0 : Int64)
        case pos =>
          have pre8 : ∀ t, Steps p.tables e below (s₁.setTop (mkF m 53 #[.val (.long x1), .second, .val (.long y1), .second] [(.int (lcmpW x1 ((-9223372036854775808 : Int64) - y1)))])) t → Steps p.tables e below (s₁.setTop (entryFrame m #[(.long x1), (.long y1)] 4)) t := by
            intro t kt
            refine pre7 t ?_
            show Steps p.tables e below (s₁.setTop (mkF m 43 #[.val (.long x1), .second, .val (.long y1), .second] [(.int (lcmpW y1 (0 : Int64)))])) _
            refine XS.ifNo X0.here hx rfl (hb hby own_d2_43) rfl ((if0 _ _).trans (tlt ((lw_lt y1 (0 : Int64)).mpr hc43_2)).2.1) ?_
            show Steps p.tables e below (s₁.setTop (mkF m 46 #[.val (.long x1), .second, .val (.long y1), .second] [])) _
            refine XS.lloadN X0.here hx rfl (hb hby own_d2_46) rfl ?_
            show Steps p.tables e below (s₁.setTop (mkF m 47 #[.val (.long x1), .second, .val (.long y1), .second] [(.long x1)])) _
            refine X0.ldc2Long hx hown (mvT hZ (hw _ (List.mem_of_getElem? (i := 9) rfl))) (g := (mkF m 47 #[.val (.long x1), .second, .val (.long y1), .second] [(.long x1)])) rfl (hb hby own_d2_47) _ ?_
            show Steps p.tables e below (s₁.setTop (mkF m 50 #[.val (.long x1), .second, .val (.long y1), .second] [(.long (-9223372036854775808 : Int64)), (.long x1)])) _
            refine XS.lloadN X0.here hx rfl (hb hby own_d2_50) rfl ?_
            show Steps p.tables e below (s₁.setTop (mkF m 51 #[.val (.long x1), .second, .val (.long y1), .second] [(.long y1), (.long (-9223372036854775808 : Int64)), (.long x1)])) _
            refine XS.lsub X0.here hx rfl (hb hby own_d2_51) rfl ?_
            show Steps p.tables e below (s₁.setTop (mkF m 52 #[.val (.long x1), .second, .val (.long y1), .second] [(.long ((-9223372036854775808 : Int64) - y1)), (.long x1)])) _
            refine XS.lcmp X0.here hx rfl (hb hby own_d2_52) rfl ?_
            exact kt
          by_cases hc53_2 : x1 < ((-9223372036854775808 : Int64) - y1)
          case pos =>
            obtain ⟨fs, hr, hrun, hended, hW, hsame⟩ := X0.leave (v := some (.long (-9223372036854775808 : Int64))) (fun h => by rw [Bd.returns] at h; cases h) (BodyLoose.notSynchronized Bd)
            refine ⟨_, _, pre8 _ ?_, hrun, hended, _, _, rfl, ?_, ⟨_, rfl⟩, hW, hsame.mono (by decide) (by decide)⟩
            · skip
              show Steps p.tables e below (s₁.setTop (mkF m 53 #[.val (.long x1), .second, .val (.long y1), .second] [(.int (lcmpW x1 ((-9223372036854775808 : Int64) - y1)))])) _
              refine XS.ifNo X0.here hx rfl (hb hby own_d2_53) rfl ((if0 _ _).trans (tlt ((lw_lt x1 ((-9223372036854775808 : Int64) - y1)).mpr hc53_2)).2.1) ?_
              show Steps p.tables e below (s₁.setTop (mkF m 56 #[.val (.long x1), .second, .val (.long y1), .second] [])) _
              refine X0.ldc2Long hx hown (mvT hZ (hw _ (List.mem_of_getElem? (i := 9) rfl))) (g := (mkF m 56 #[.val (.long x1), .second, .val (.long y1), .second] [])) rfl (hb hby own_d2_56) _ ?_
              show Steps p.tables e below (s₁.setTop (mkF m 59 #[.val (.long x1), .second, .val (.long y1), .second] [(.long (-9223372036854775808 : Int64))])) _
              exact X0.lreturnOut hx Bd.returns (hb hby own_d2_59) hr
            · show own_Q2 Z x1 y1 h0 n0 _ s₁.heap _
              rw [e0]
              refine ⟨?_, N0, rfl⟩
              simp [own_exp, hc5, hc13, hc23, hc43_2, hc53_2]
          case neg =>
            obtain ⟨fs, hr, hrun, hended, hW, hsame⟩ := X0.leave (v := some (.long (x1 + y1))) (fun h => by rw [Bd.returns] at h; cases h) (BodyLoose.notSynchronized Bd)
            refine ⟨_, _, pre8 _ ?_, hrun, hended, _, _, rfl, ?_, ⟨_, rfl⟩, hW, hsame.mono (by decide) (by decide)⟩
            · skip
              show Steps p.tables e below (s₁.setTop (mkF m 53 #[.val (.long x1), .second, .val (.long y1), .second] [(.int (lcmpW x1 ((-9223372036854775808 : Int64) - y1)))])) _
              refine XS.ifYes X0.here hx rfl (pc0 := 53) (pc' := 60) rfl (hb hby own_d2_53) rfl ((if0 _ _).trans (flt (fun q => hc53_2 ((lw_lt x1 ((-9223372036854775808 : Int64) - y1)).mp q))).2.1) (by decide) (by decide) ?_
              show Steps p.tables e below (s₁.setTop (mkF m 60 #[.val (.long x1), .second, .val (.long y1), .second] [])) _
              refine XS.lloadN X0.here hx rfl (hb hby own_d2_60) rfl ?_
              show Steps p.tables e below (s₁.setTop (mkF m 61 #[.val (.long x1), .second, .val (.long y1), .second] [(.long x1)])) _
              refine XS.lloadN X0.here hx rfl (hb hby own_d2_61) rfl ?_
              show Steps p.tables e below (s₁.setTop (mkF m 62 #[.val (.long x1), .second, .val (.long y1), .second] [(.long y1), (.long x1)])) _
              refine XS.ladd X0.here hx rfl (hb hby own_d2_62) rfl ?_
              show Steps p.tables e below (s₁.setTop (mkF m 63 #[.val (.long x1), .second, .val (.long y1), .second] [(.long (x1 + y1))])) _
              exact X0.lreturnOut hx Bd.returns (hb hby own_d2_63) hr
            · show own_Q2 Z x1 y1 h0 n0 _ s₁.heap _
              rw [e0]
              refine ⟨?_, N0, rfl⟩
              simp [own_exp, hc5, hc13, hc23, hc43_2, hc53_2]
        case neg =>
          obtain ⟨fs, hr, hrun, hended, hW, hsame⟩ := X0.leave (v := some (.long (x1 + y1))) (fun h => by rw [Bd.returns] at h; cases h) (BodyLoose.notSynchronized Bd)
          refine ⟨_, _, pre7 _ ?_, hrun, hended, _, _, rfl, ?_, ⟨_, rfl⟩, hW, hsame.mono (by decide) (by decide)⟩
          · skip
            show Steps p.tables e below (s₁.setTop (mkF m 43 #[.val (.long x1), .second, .val (.long y1), .second] [(.int (lcmpW y1 (0 : Int64)))])) _
            refine XS.ifYes X0.here hx rfl (pc0 := 43) (pc' := 60) rfl (hb hby own_d2_43) rfl ((if0 _ _).trans (flt (fun q => hc43_2 ((lw_lt y1 (0 : Int64)).mp q))).2.1) (by decide) (by decide) ?_
            show Steps p.tables e below (s₁.setTop (mkF m 60 #[.val (.long x1), .second, .val (.long y1), .second] [])) _
            refine XS.lloadN X0.here hx rfl (hb hby own_d2_60) rfl ?_
            show Steps p.tables e below (s₁.setTop (mkF m 61 #[.val (.long x1), .second, .val (.long y1), .second] [(.long x1)])) _
            refine XS.lloadN X0.here hx rfl (hb hby own_d2_61) rfl ?_
            show Steps p.tables e below (s₁.setTop (mkF m 62 #[.val (.long x1), .second, .val (.long y1), .second] [(.long y1), (.long x1)])) _
            refine XS.ladd X0.here hx rfl (hb hby own_d2_62) rfl ?_
            show Steps p.tables e below (s₁.setTop (mkF m 63 #[.val (.long x1), .second, .val (.long y1), .second] [(.long (x1 + y1))])) _
            exact X0.lreturnOut hx Bd.returns (hb hby own_d2_63) hr
          · show own_Q2 Z x1 y1 h0 n0 _ s₁.heap _
            rw [e0]
            refine ⟨?_, N0, rfl⟩
            simp [own_exp, hc5, hc13, hc23, hc43_2]
theorem own_pd0 : parseMethodDescriptor "(JJ)J" = some ⟨[.long, .long], some .long⟩ := by decide +kernel
theorem own_ef0 (m : MethodId) (x0 : Int64) (x1 : Int64) (x2 : Int32) : entryFrame m #[(.long x0), (.long x1), (.int x2)] maxLocals = mkF m 0 #[.val (.long x0), .second, .val (.long x1), .second, .val (.int x2), .unset, .unset, .unset, .unset, .unset, .unset, .unset, .unset, .unset, .unset, .unset, .unset, .unset] [] := by first | (simp [entryFrame, mkF, argsToLocals, Value.category, maxLocals]; done) | rfl
def own_Q0 (Z : State) (a1 : Int64) (a2 : Int64) (a3 : Int32) (h0 : Heap) (n0 : Nat) (v : Option Value) (h : Heap) (L : List Loc) : Prop := v = some (.int 1) ∧ Fr n0 L
set_option maxRecDepth 65536 in
set_option maxHeartbeats 40000000 in
theorem own_rm0 (l : Launch) (Z : State) (a0 : Array Value) (hw : ∀ d ∈ tables_1, d.before a0 Z = true) (ws : List Jvm.Cond) (a1 : Int64) (a2 : Int64) (a3 : Int32) (h0 : Heap) (n0 : Nat) (Z0 : n0 ≤ h0.size) :
    MetFree l x (head1 (Jvm.Cond.code x code maxLocals ret :: ws) room_1) (fun a U => a = #[(.long a1), (.long a2), (.int a3)] ∧ Z.Warmed39 U.vm ∧ U.heap = h0) (fun _ _ _ _ _ => True) (fun _ U o U' => ∃ v L, o = .returned v ∧ own_Q0 Z a1 a2 a3 h0 n0 v U'.heap L ∧ FrameEnd U o U' L room_1.cells room_1.slots) := by
  refine MetFree.of_bodySF (plainFor_of_name own_pn1) hisR ?_
  intro p e s m args below meth c s₁ Bd hml0 hP hK
  obtain ⟨rfl, hZ, hh⟩ := hP
  have hx := Bd.exec
  have hby := Bd.bytes
  have hml : c.maxLocals = 18 := hml0
  have hown : s.vm.findClass "com/example/firmwatt/firmwatt/FractionAddPinLaw" = some m.cls := findClass_of_methodNamed Bd.named
  have hnm := (name_of_methodNamed Bd.named Bd.method).1
  have X0 : Stand p l e room_1 s m #[(.long a1), (.long a2), (.int a3)] below meth c s₁ [] 0 0 := Stand.of_body Bd
  have e0 : s₁.heap = h0 := by rw [← hh, Bd.state]; rfl
  have N0 := Fr.nil n0
  have K0 := Keep.refl h0 []
  have pre0 : ∀ t, Steps p.tables e below (s₁.setTop (mkF m 0 #[.val (.long a1), .second, .val (.long a2), .second, .val (.int a3), .unset, .unset, .unset, .unset, .unset, .unset, .unset, .unset, .unset, .unset, .unset, .unset, .unset] [])) t → Steps p.tables e below (s₁.setTop (entryFrame m #[(.long a1), (.long a2), (.int a3)] maxLocals)) t := fun t kt0 => castTop (own_ef0 m (a1) (a2) (a3)) kt0
  have pre1 : ∀ t, Steps p.tables e below (s₁.setTop (mkF m 7 #[.val (.long a1), .second, .val (.long a2), .second, .val (.int a3), .val (.int (a3 &&& (7 : Int32))), .unset, .unset, .unset, .unset, .unset, .unset, .unset, .unset, .unset, .unset, .unset, .unset] [])) t → Steps p.tables e below (s₁.setTop (entryFrame m #[(.long a1), (.long a2), (.int a3)] maxLocals)) t := by
    intro t kt
    refine pre0 t ?_
    show Steps p.tables e below (s₁.setTop (mkF m 0 #[.val (.long a1), .second, .val (.long a2), .second, .val (.int a3), .unset, .unset, .unset, .unset, .unset, .unset, .unset, .unset, .unset, .unset, .unset, .unset, .unset] [])) _
    refine XS.iload X0.here hx rfl (hb hby at_0) rfl ?_
    show Steps p.tables e below (s₁.setTop (mkF m 2 #[.val (.long a1), .second, .val (.long a2), .second, .val (.int a3), .unset, .unset, .unset, .unset, .unset, .unset, .unset, .unset, .unset, .unset, .unset, .unset, .unset] [(.int a3)])) _
    refine XS.bipush X0.here hx rfl (hb hby at_2) ?_
    show Steps p.tables e below (s₁.setTop (mkF m 4 #[.val (.long a1), .second, .val (.long a2), .second, .val (.int a3), .unset, .unset, .unset, .unset, .unset, .unset, .unset, .unset, .unset, .unset, .unset, .unset, .unset] [(.int (7 : Int32)), (.int a3)])) _
    refine XS.iand X0.here hx rfl (hb hby at_4) rfl ?_
    show Steps p.tables e below (s₁.setTop (mkF m 5 #[.val (.long a1), .second, .val (.long a2), .second, .val (.int a3), .unset, .unset, .unset, .unset, .unset, .unset, .unset, .unset, .unset, .unset, .unset, .unset, .unset] [(.int (a3 &&& (7 : Int32)))])) _
    refine XS.istore X0.here hx rfl (hb hby at_5) rfl (l' := #[.val (.long a1), .second, .val (.long a2), .second, .val (.int a3), .val (.int (a3 &&& (7 : Int32))), .unset, .unset, .unset, .unset, .unset, .unset, .unset, .unset, .unset, .unset, .unset, .unset]) rfl ?_
    exact kt
  obtain ⟨md, hd_md⟩ : ∃ z : Int32, z = (a3 &&& (7 : Int32)) := ⟨_, rfl⟩
  have pre2 : ∀ t, Steps p.tables e below (s₁.setTop (mkF m 7 #[.val (.long a1), .second, .val (.long a2), .second, .val (.int a3), .val (.int md), .unset, .unset, .unset, .unset, .unset, .unset, .unset, .unset, .unset, .unset, .unset, .unset] [])) t → Steps p.tables e below (s₁.setTop (entryFrame m #[(.long a1), (.long a2), (.int a3)] maxLocals)) t := by rw [hd_md]; exact pre1
  have pre3 : ∀ t, Steps p.tables e below (s₁.setTop (mkF m 18 #[.val (.long a1), .second, .val (.long a2), .second, .val (.int a3), .val (.int md), .val (.long (((((a3.toUInt32 >>> ((3 : Int32) &&& 31).toUInt32).toInt32) % (3 : Int32)) - (1 : Int32)).toInt64)), .second, .unset, .unset, .unset, .unset, .unset, .unset, .unset, .unset, .unset, .unset] [])) t → Steps p.tables e below (s₁.setTop (entryFrame m #[(.long a1), (.long a2), (.int a3)] maxLocals)) t := by
    intro t kt
    refine pre2 t ?_
    show Steps p.tables e below (s₁.setTop (mkF m 7 #[.val (.long a1), .second, .val (.long a2), .second, .val (.int a3), .val (.int md), .unset, .unset, .unset, .unset, .unset, .unset, .unset, .unset, .unset, .unset, .unset, .unset] [])) _
    refine XS.iload X0.here hx rfl (hb hby at_7) rfl ?_
    show Steps p.tables e below (s₁.setTop (mkF m 9 #[.val (.long a1), .second, .val (.long a2), .second, .val (.int a3), .val (.int md), .unset, .unset, .unset, .unset, .unset, .unset, .unset, .unset, .unset, .unset, .unset, .unset] [(.int a3)])) _
    refine XS.iconst X0.here hx rfl (hb hby at_9) ?_
    show Steps p.tables e below (s₁.setTop (mkF m 10 #[.val (.long a1), .second, .val (.long a2), .second, .val (.int a3), .val (.int md), .unset, .unset, .unset, .unset, .unset, .unset, .unset, .unset, .unset, .unset, .unset, .unset] [(.int (3 : Int32)), (.int a3)])) _
    refine XS.iushr X0.here hx rfl (hb hby at_10) rfl ?_
    show Steps p.tables e below (s₁.setTop (mkF m 11 #[.val (.long a1), .second, .val (.long a2), .second, .val (.int a3), .val (.int md), .unset, .unset, .unset, .unset, .unset, .unset, .unset, .unset, .unset, .unset, .unset, .unset] [(.int ((a3.toUInt32 >>> ((3 : Int32) &&& 31).toUInt32).toInt32))])) _
    refine XS.iconst X0.here hx rfl (hb hby at_11) ?_
    show Steps p.tables e below (s₁.setTop (mkF m 12 #[.val (.long a1), .second, .val (.long a2), .second, .val (.int a3), .val (.int md), .unset, .unset, .unset, .unset, .unset, .unset, .unset, .unset, .unset, .unset, .unset, .unset] [(.int (3 : Int32)), (.int ((a3.toUInt32 >>> ((3 : Int32) &&& 31).toUInt32).toInt32))])) _
    refine iremM X0 hx rfl (hb hby at_12) rfl (by decide) ?_
    show Steps p.tables e below (s₁.setTop (mkF m 13 #[.val (.long a1), .second, .val (.long a2), .second, .val (.int a3), .val (.int md), .unset, .unset, .unset, .unset, .unset, .unset, .unset, .unset, .unset, .unset, .unset, .unset] [(.int (((a3.toUInt32 >>> ((3 : Int32) &&& 31).toUInt32).toInt32) % (3 : Int32)))])) _
    refine XS.iconst X0.here hx rfl (hb hby at_13) ?_
    show Steps p.tables e below (s₁.setTop (mkF m 14 #[.val (.long a1), .second, .val (.long a2), .second, .val (.int a3), .val (.int md), .unset, .unset, .unset, .unset, .unset, .unset, .unset, .unset, .unset, .unset, .unset, .unset] [(.int (1 : Int32)), (.int (((a3.toUInt32 >>> ((3 : Int32) &&& 31).toUInt32).toInt32) % (3 : Int32)))])) _
    refine XS.isub X0.here hx rfl (hb hby at_14) rfl ?_
    show Steps p.tables e below (s₁.setTop (mkF m 15 #[.val (.long a1), .second, .val (.long a2), .second, .val (.int a3), .val (.int md), .unset, .unset, .unset, .unset, .unset, .unset, .unset, .unset, .unset, .unset, .unset, .unset] [(.int ((((a3.toUInt32 >>> ((3 : Int32) &&& 31).toUInt32).toInt32) % (3 : Int32)) - (1 : Int32)))])) _
    refine XS.i2l X0.here hx rfl (hb hby at_15) rfl ?_
    show Steps p.tables e below (s₁.setTop (mkF m 16 #[.val (.long a1), .second, .val (.long a2), .second, .val (.int a3), .val (.int md), .unset, .unset, .unset, .unset, .unset, .unset, .unset, .unset, .unset, .unset, .unset, .unset] [(.long (((((a3.toUInt32 >>> ((3 : Int32) &&& 31).toUInt32).toInt32) % (3 : Int32)) - (1 : Int32)).toInt64))])) _
    refine XS.lstore X0.here hx rfl (hb hby at_16) rfl (l' := #[.val (.long a1), .second, .val (.long a2), .second, .val (.int a3), .val (.int md), .val (.long (((((a3.toUInt32 >>> ((3 : Int32) &&& 31).toUInt32).toInt32) % (3 : Int32)) - (1 : Int32)).toInt64)), .second, .unset, .unset, .unset, .unset, .unset, .unset, .unset, .unset, .unset, .unset]) rfl ?_
    exact kt
  obtain ⟨dd, hd_dd⟩ : ∃ z : Int64, z = (((((a3.toUInt32 >>> ((3 : Int32) &&& 31).toUInt32).toInt32) % (3 : Int32)) - (1 : Int32)).toInt64) := ⟨_, rfl⟩
  have pre4 : ∀ t, Steps p.tables e below (s₁.setTop (mkF m 18 #[.val (.long a1), .second, .val (.long a2), .second, .val (.int a3), .val (.int md), .val (.long dd), .second, .unset, .unset, .unset, .unset, .unset, .unset, .unset, .unset, .unset, .unset] [])) t → Steps p.tables e below (s₁.setTop (entryFrame m #[(.long a1), (.long a2), (.int a3)] maxLocals)) t := by rw [hd_dd]; exact pre3
  have pre5 : ∀ t, Steps p.tables e below (s₁.setTop (mkF m 27 #[.val (.long a1), .second, .val (.long a2), .second, .val (.int a3), .val (.int md), .val (.long dd), .second, .val (.long a1), .second, .val (.long a2), .second, .unset, .unset, .unset, .unset, .unset, .unset] [(.int (1 : Int32)), (.int md)])) t → Steps p.tables e below (s₁.setTop (entryFrame m #[(.long a1), (.long a2), (.int a3)] maxLocals)) t := by
    intro t kt
    refine pre4 t ?_
    show Steps p.tables e below (s₁.setTop (mkF m 18 #[.val (.long a1), .second, .val (.long a2), .second, .val (.int a3), .val (.int md), .val (.long dd), .second, .unset, .unset, .unset, .unset, .unset, .unset, .unset, .unset, .unset, .unset] [])) _
    refine XS.lloadN X0.here hx rfl (hb hby at_18) rfl ?_
    show Steps p.tables e below (s₁.setTop (mkF m 19 #[.val (.long a1), .second, .val (.long a2), .second, .val (.int a3), .val (.int md), .val (.long dd), .second, .unset, .unset, .unset, .unset, .unset, .unset, .unset, .unset, .unset, .unset] [(.long a1)])) _
    refine XS.lstore X0.here hx rfl (hb hby at_19) rfl (l' := #[.val (.long a1), .second, .val (.long a2), .second, .val (.int a3), .val (.int md), .val (.long dd), .second, .val (.long a1), .second, .unset, .unset, .unset, .unset, .unset, .unset, .unset, .unset]) rfl ?_
    show Steps p.tables e below (s₁.setTop (mkF m 21 #[.val (.long a1), .second, .val (.long a2), .second, .val (.int a3), .val (.int md), .val (.long dd), .second, .val (.long a1), .second, .unset, .unset, .unset, .unset, .unset, .unset, .unset, .unset] [])) _
    refine XS.lloadN X0.here hx rfl (hb hby at_21) rfl ?_
    show Steps p.tables e below (s₁.setTop (mkF m 22 #[.val (.long a1), .second, .val (.long a2), .second, .val (.int a3), .val (.int md), .val (.long dd), .second, .val (.long a1), .second, .unset, .unset, .unset, .unset, .unset, .unset, .unset, .unset] [(.long a2)])) _
    refine XS.lstore X0.here hx rfl (hb hby at_22) rfl (l' := #[.val (.long a1), .second, .val (.long a2), .second, .val (.int a3), .val (.int md), .val (.long dd), .second, .val (.long a1), .second, .val (.long a2), .second, .unset, .unset, .unset, .unset, .unset, .unset]) rfl ?_
    show Steps p.tables e below (s₁.setTop (mkF m 24 #[.val (.long a1), .second, .val (.long a2), .second, .val (.int a3), .val (.int md), .val (.long dd), .second, .val (.long a1), .second, .val (.long a2), .second, .unset, .unset, .unset, .unset, .unset, .unset] [])) _
    refine XS.iload X0.here hx rfl (hb hby at_24) rfl ?_
    show Steps p.tables e below (s₁.setTop (mkF m 26 #[.val (.long a1), .second, .val (.long a2), .second, .val (.int a3), .val (.int md), .val (.long dd), .second, .val (.long a1), .second, .val (.long a2), .second, .unset, .unset, .unset, .unset, .unset, .unset] [(.int md)])) _
    refine XS.iconst X0.here hx rfl (hb hby at_26) ?_
    exact kt
  obtain ⟨T6, Lc6, xx, yy, X6, e6, N6, hp6, pre6⟩ : ∃ (T6 : State) (Lc6 : List Loc) (xx : Int64) (yy : Int64), Stand p l e room_1 s m #[(.long a1), (.long a2), (.int a3)] below meth c T6 Lc6 0 0 ∧ T6.heap = h0 ∧ Fr n0 Lc6 ∧ (True) ∧ ∀ t, Steps p.tables e below (T6.setTop (mkF m 115 #[.val (.long a1), .second, .val (.long a2), .second, .val (.int a3), .val (.int md), .val (.long dd), .second, .val (.long xx), .second, .val (.long yy), .second, .unset, .unset, .unset, .unset, .unset, .unset] [])) t → Steps p.tables e below (s₁.setTop (entryFrame m #[(.long a1), (.long a2), (.int a3)] maxLocals)) t := by
    by_cases hc27 : md = (1 : Int32)
    case pos =>
      have pre7 : ∀ t, Steps p.tables e below (s₁.setTop (mkF m 115 #[.val (.long a1), .second, .val (.long a2), .second, .val (.int a3), .val (.int md), .val (.long dd), .second, .val (.long (-9223372036854775808 : Int64)), .second, .val (.long a2), .second, .unset, .unset, .unset, .unset, .unset, .unset] [])) t → Steps p.tables e below (s₁.setTop (entryFrame m #[(.long a1), (.long a2), (.int a3)] maxLocals)) t := by
        intro t kt
        refine pre5 t ?_
        show Steps p.tables e below (s₁.setTop (mkF m 27 #[.val (.long a1), .second, .val (.long a2), .second, .val (.int a3), .val (.int md), .val (.long dd), .second, .val (.long a1), .second, .val (.long a2), .second, .unset, .unset, .unset, .unset, .unset, .unset] [(.int (1 : Int32)), (.int md)])) _
        refine XS.icmpNo X0.here hx rfl (hb hby at_27) rfl (teq hc27).2 ?_
        show Steps p.tables e below (s₁.setTop (mkF m 30 #[.val (.long a1), .second, .val (.long a2), .second, .val (.int a3), .val (.int md), .val (.long dd), .second, .val (.long a1), .second, .val (.long a2), .second, .unset, .unset, .unset, .unset, .unset, .unset] [])) _
        refine X0.ldc2Long hx hown (mvT hZ (hw _ (List.mem_of_getElem? (i := 9) rfl))) (g := (mkF m 30 #[.val (.long a1), .second, .val (.long a2), .second, .val (.int a3), .val (.int md), .val (.long dd), .second, .val (.long a1), .second, .val (.long a2), .second, .unset, .unset, .unset, .unset, .unset, .unset] [])) rfl (hb hby at_30) _ ?_
        show Steps p.tables e below (s₁.setTop (mkF m 33 #[.val (.long a1), .second, .val (.long a2), .second, .val (.int a3), .val (.int md), .val (.long dd), .second, .val (.long a1), .second, .val (.long a2), .second, .unset, .unset, .unset, .unset, .unset, .unset] [(.long (-9223372036854775808 : Int64))])) _
        refine XS.lstore X0.here hx rfl (hb hby at_33) rfl (l' := #[.val (.long a1), .second, .val (.long a2), .second, .val (.int a3), .val (.int md), .val (.long dd), .second, .val (.long (-9223372036854775808 : Int64)), .second, .val (.long a2), .second, .unset, .unset, .unset, .unset, .unset, .unset]) rfl ?_
        show Steps p.tables e below (s₁.setTop (mkF m 35 #[.val (.long a1), .second, .val (.long a2), .second, .val (.int a3), .val (.int md), .val (.long dd), .second, .val (.long (-9223372036854775808 : Int64)), .second, .val (.long a2), .second, .unset, .unset, .unset, .unset, .unset, .unset] [])) _
        refine XS.goto X0.here hx rfl (pc0 := 35) (pc' := 115) rfl (hb hby at_35) (by decide) (by decide) ?_
        exact kt
      exact ⟨s₁, _, (-9223372036854775808 : Int64), a2, X0, e0, N0, trivial, pre7⟩
    case neg =>
      have pre8 : ∀ t, Steps p.tables e below (s₁.setTop (mkF m 41 #[.val (.long a1), .second, .val (.long a2), .second, .val (.int a3), .val (.int md), .val (.long dd), .second, .val (.long a1), .second, .val (.long a2), .second, .unset, .unset, .unset, .unset, .unset, .unset] [(.int (2 : Int32)), (.int md)])) t → Steps p.tables e below (s₁.setTop (entryFrame m #[(.long a1), (.long a2), (.int a3)] maxLocals)) t := by
        intro t kt
        refine pre5 t ?_
        show Steps p.tables e below (s₁.setTop (mkF m 27 #[.val (.long a1), .second, .val (.long a2), .second, .val (.int a3), .val (.int md), .val (.long dd), .second, .val (.long a1), .second, .val (.long a2), .second, .unset, .unset, .unset, .unset, .unset, .unset] [(.int (1 : Int32)), (.int md)])) _
        refine XS.icmpYes X0.here hx rfl (pc0 := 27) (pc' := 38) rfl (hb hby at_27) rfl (feq hc27).2 (by decide) (by decide) ?_
        show Steps p.tables e below (s₁.setTop (mkF m 38 #[.val (.long a1), .second, .val (.long a2), .second, .val (.int a3), .val (.int md), .val (.long dd), .second, .val (.long a1), .second, .val (.long a2), .second, .unset, .unset, .unset, .unset, .unset, .unset] [])) _
        refine XS.iload X0.here hx rfl (hb hby at_38) rfl ?_
        show Steps p.tables e below (s₁.setTop (mkF m 40 #[.val (.long a1), .second, .val (.long a2), .second, .val (.int a3), .val (.int md), .val (.long dd), .second, .val (.long a1), .second, .val (.long a2), .second, .unset, .unset, .unset, .unset, .unset, .unset] [(.int md)])) _
        refine XS.iconst X0.here hx rfl (hb hby at_40) ?_
        exact kt
      by_cases hc41 : md = (2 : Int32)
      case pos =>
        have pre9 : ∀ t, Steps p.tables e below (s₁.setTop (mkF m 115 #[.val (.long a1), .second, .val (.long a2), .second, .val (.int a3), .val (.int md), .val (.long dd), .second, .val (.long a1), .second, .val (.long (-9223372036854775808 : Int64)), .second, .unset, .unset, .unset, .unset, .unset, .unset] [])) t → Steps p.tables e below (s₁.setTop (entryFrame m #[(.long a1), (.long a2), (.int a3)] maxLocals)) t := by
          intro t kt
          refine pre8 t ?_
          show Steps p.tables e below (s₁.setTop (mkF m 41 #[.val (.long a1), .second, .val (.long a2), .second, .val (.int a3), .val (.int md), .val (.long dd), .second, .val (.long a1), .second, .val (.long a2), .second, .unset, .unset, .unset, .unset, .unset, .unset] [(.int (2 : Int32)), (.int md)])) _
          refine XS.icmpNo X0.here hx rfl (hb hby at_41) rfl (teq hc41).2 ?_
          show Steps p.tables e below (s₁.setTop (mkF m 44 #[.val (.long a1), .second, .val (.long a2), .second, .val (.int a3), .val (.int md), .val (.long dd), .second, .val (.long a1), .second, .val (.long a2), .second, .unset, .unset, .unset, .unset, .unset, .unset] [])) _
          refine X0.ldc2Long hx hown (mvT hZ (hw _ (List.mem_of_getElem? (i := 9) rfl))) (g := (mkF m 44 #[.val (.long a1), .second, .val (.long a2), .second, .val (.int a3), .val (.int md), .val (.long dd), .second, .val (.long a1), .second, .val (.long a2), .second, .unset, .unset, .unset, .unset, .unset, .unset] [])) rfl (hb hby at_44) _ ?_
          show Steps p.tables e below (s₁.setTop (mkF m 47 #[.val (.long a1), .second, .val (.long a2), .second, .val (.int a3), .val (.int md), .val (.long dd), .second, .val (.long a1), .second, .val (.long a2), .second, .unset, .unset, .unset, .unset, .unset, .unset] [(.long (-9223372036854775808 : Int64))])) _
          refine XS.lstore X0.here hx rfl (hb hby at_47) rfl (l' := #[.val (.long a1), .second, .val (.long a2), .second, .val (.int a3), .val (.int md), .val (.long dd), .second, .val (.long a1), .second, .val (.long (-9223372036854775808 : Int64)), .second, .unset, .unset, .unset, .unset, .unset, .unset]) rfl ?_
          show Steps p.tables e below (s₁.setTop (mkF m 49 #[.val (.long a1), .second, .val (.long a2), .second, .val (.int a3), .val (.int md), .val (.long dd), .second, .val (.long a1), .second, .val (.long (-9223372036854775808 : Int64)), .second, .unset, .unset, .unset, .unset, .unset, .unset] [])) _
          refine XS.goto X0.here hx rfl (pc0 := 49) (pc' := 115) rfl (hb hby at_49) (by decide) (by decide) ?_
          exact kt
        exact ⟨s₁, _, a1, (-9223372036854775808 : Int64), X0, e0, N0, trivial, pre9⟩
      case neg =>
        have pre10 : ∀ t, Steps p.tables e below (s₁.setTop (mkF m 55 #[.val (.long a1), .second, .val (.long a2), .second, .val (.int a3), .val (.int md), .val (.long dd), .second, .val (.long a1), .second, .val (.long a2), .second, .unset, .unset, .unset, .unset, .unset, .unset] [(.int (3 : Int32)), (.int md)])) t → Steps p.tables e below (s₁.setTop (entryFrame m #[(.long a1), (.long a2), (.int a3)] maxLocals)) t := by
          intro t kt
          refine pre8 t ?_
          show Steps p.tables e below (s₁.setTop (mkF m 41 #[.val (.long a1), .second, .val (.long a2), .second, .val (.int a3), .val (.int md), .val (.long dd), .second, .val (.long a1), .second, .val (.long a2), .second, .unset, .unset, .unset, .unset, .unset, .unset] [(.int (2 : Int32)), (.int md)])) _
          refine XS.icmpYes X0.here hx rfl (pc0 := 41) (pc' := 52) rfl (hb hby at_41) rfl (feq hc41).2 (by decide) (by decide) ?_
          show Steps p.tables e below (s₁.setTop (mkF m 52 #[.val (.long a1), .second, .val (.long a2), .second, .val (.int a3), .val (.int md), .val (.long dd), .second, .val (.long a1), .second, .val (.long a2), .second, .unset, .unset, .unset, .unset, .unset, .unset] [])) _
          refine XS.iload X0.here hx rfl (hb hby at_52) rfl ?_
          show Steps p.tables e below (s₁.setTop (mkF m 54 #[.val (.long a1), .second, .val (.long a2), .second, .val (.int a3), .val (.int md), .val (.long dd), .second, .val (.long a1), .second, .val (.long a2), .second, .unset, .unset, .unset, .unset, .unset, .unset] [(.int md)])) _
          refine XS.iconst X0.here hx rfl (hb hby at_54) ?_
          exact kt
        by_cases hc55 : md = (3 : Int32)
        case pos =>
          have pre11 : ∀ t, Steps p.tables e below (s₁.setTop (mkF m 68 #[.val (.long a1), .second, .val (.long a2), .second, .val (.int a3), .val (.int md), .val (.long dd), .second, .val (.long a1), .second, .val (.long a2), .second, .unset, .unset, .unset, .unset, .unset, .unset] [(.int (lcmpW a1 (0 : Int64)))])) t → Steps p.tables e below (s₁.setTop (entryFrame m #[(.long a1), (.long a2), (.int a3)] maxLocals)) t := by
            intro t kt
            refine pre10 t ?_
            show Steps p.tables e below (s₁.setTop (mkF m 55 #[.val (.long a1), .second, .val (.long a2), .second, .val (.int a3), .val (.int md), .val (.long dd), .second, .val (.long a1), .second, .val (.long a2), .second, .unset, .unset, .unset, .unset, .unset, .unset] [(.int (3 : Int32)), (.int md)])) _
            refine XS.icmpYes X0.here hx rfl (pc0 := 55) (pc' := 64) rfl (hb hby at_55) rfl (teq hc55).1 (by decide) (by decide) ?_
            show Steps p.tables e below (s₁.setTop (mkF m 64 #[.val (.long a1), .second, .val (.long a2), .second, .val (.int a3), .val (.int md), .val (.long dd), .second, .val (.long a1), .second, .val (.long a2), .second, .unset, .unset, .unset, .unset, .unset, .unset] [])) _
            refine XS.lload X0.here hx rfl (hb hby at_64) rfl ?_
            show Steps p.tables e below (s₁.setTop (mkF m 66 #[.val (.long a1), .second, .val (.long a2), .second, .val (.int a3), .val (.int md), .val (.long dd), .second, .val (.long a1), .second, .val (.long a2), .second, .unset, .unset, .unset, .unset, .unset, .unset] [(.long a1)])) _
            refine XS.lconst X0.here hx rfl (hb hby at_66) ?_
            show Steps p.tables e below (s₁.setTop (mkF m 67 #[.val (.long a1), .second, .val (.long a2), .second, .val (.int a3), .val (.int md), .val (.long dd), .second, .val (.long a1), .second, .val (.long a2), .second, .unset, .unset, .unset, .unset, .unset, .unset] [(.long (0 : Int64)), (.long a1)])) _
            refine XS.lcmp X0.here hx rfl (hb hby at_67) rfl ?_
            exact kt
          by_cases hc68 : a1 < (0 : Int64)
          case pos =>
            have pre12 : ∀ t, Steps p.tables e below (s₁.setTop (mkF m 115 #[.val (.long a1), .second, .val (.long a2), .second, .val (.int a3), .val (.int md), .val (.long dd), .second, .val (.long a1), .second, .val (.long (((-9223372036854775808 : Int64) - a1) + dd)), .second, .unset, .unset, .unset, .unset, .unset, .unset] [])) t → Steps p.tables e below (s₁.setTop (entryFrame m #[(.long a1), (.long a2), (.int a3)] maxLocals)) t := by
              intro t kt
              refine pre11 t ?_
              show Steps p.tables e below (s₁.setTop (mkF m 68 #[.val (.long a1), .second, .val (.long a2), .second, .val (.int a3), .val (.int md), .val (.long dd), .second, .val (.long a1), .second, .val (.long a2), .second, .unset, .unset, .unset, .unset, .unset, .unset] [(.int (lcmpW a1 (0 : Int64)))])) _
              refine XS.ifYes X0.here hx rfl (pc0 := 68) (pc' := 85) rfl (hb hby at_68) rfl ((if0 _ _).trans (tlt ((lw_lt a1 (0 : Int64)).mpr hc68)).1) (by decide) (by decide) ?_
              show Steps p.tables e below (s₁.setTop (mkF m 85 #[.val (.long a1), .second, .val (.long a2), .second, .val (.int a3), .val (.int md), .val (.long dd), .second, .val (.long a1), .second, .val (.long a2), .second, .unset, .unset, .unset, .unset, .unset, .unset] [])) _
              refine X0.ldc2Long hx hown (mvT hZ (hw _ (List.mem_of_getElem? (i := 9) rfl))) (g := (mkF m 85 #[.val (.long a1), .second, .val (.long a2), .second, .val (.int a3), .val (.int md), .val (.long dd), .second, .val (.long a1), .second, .val (.long a2), .second, .unset, .unset, .unset, .unset, .unset, .unset] [])) rfl (hb hby at_85) _ ?_
              show Steps p.tables e below (s₁.setTop (mkF m 88 #[.val (.long a1), .second, .val (.long a2), .second, .val (.int a3), .val (.int md), .val (.long dd), .second, .val (.long a1), .second, .val (.long a2), .second, .unset, .unset, .unset, .unset, .unset, .unset] [(.long (-9223372036854775808 : Int64))])) _
              refine XS.lload X0.here hx rfl (hb hby at_88) rfl ?_
              show Steps p.tables e below (s₁.setTop (mkF m 90 #[.val (.long a1), .second, .val (.long a2), .second, .val (.int a3), .val (.int md), .val (.long dd), .second, .val (.long a1), .second, .val (.long a2), .second, .unset, .unset, .unset, .unset, .unset, .unset] [(.long a1), (.long (-9223372036854775808 : Int64))])) _
              refine XS.lsub X0.here hx rfl (hb hby at_90) rfl ?_
              show Steps p.tables e below (s₁.setTop (mkF m 91 #[.val (.long a1), .second, .val (.long a2), .second, .val (.int a3), .val (.int md), .val (.long dd), .second, .val (.long a1), .second, .val (.long a2), .second, .unset, .unset, .unset, .unset, .unset, .unset] [(.long ((-9223372036854775808 : Int64) - a1))])) _
              refine XS.lload X0.here hx rfl (hb hby at_91) rfl ?_
              show Steps p.tables e below (s₁.setTop (mkF m 93 #[.val (.long a1), .second, .val (.long a2), .second, .val (.int a3), .val (.int md), .val (.long dd), .second, .val (.long a1), .second, .val (.long a2), .second, .unset, .unset, .unset, .unset, .unset, .unset] [(.long dd), (.long ((-9223372036854775808 : Int64) - a1))])) _
              refine XS.ladd X0.here hx rfl (hb hby at_93) rfl ?_
              show Steps p.tables e below (s₁.setTop (mkF m 94 #[.val (.long a1), .second, .val (.long a2), .second, .val (.int a3), .val (.int md), .val (.long dd), .second, .val (.long a1), .second, .val (.long a2), .second, .unset, .unset, .unset, .unset, .unset, .unset] [(.long (((-9223372036854775808 : Int64) - a1) + dd))])) _
              refine XS.lstore X0.here hx rfl (hb hby at_94) rfl (l' := #[.val (.long a1), .second, .val (.long a2), .second, .val (.int a3), .val (.int md), .val (.long dd), .second, .val (.long a1), .second, .val (.long (((-9223372036854775808 : Int64) - a1) + dd)), .second, .unset, .unset, .unset, .unset, .unset, .unset]) rfl ?_
              show Steps p.tables e below (s₁.setTop (mkF m 96 #[.val (.long a1), .second, .val (.long a2), .second, .val (.int a3), .val (.int md), .val (.long dd), .second, .val (.long a1), .second, .val (.long (((-9223372036854775808 : Int64) - a1) + dd)), .second, .unset, .unset, .unset, .unset, .unset, .unset] [])) _
              refine XS.goto X0.here hx rfl (pc0 := 96) (pc' := 115) rfl (hb hby at_96) (by decide) (by decide) ?_
              exact kt
            exact ⟨s₁, _, a1, (((-9223372036854775808 : Int64) - a1) + dd), X0, e0, N0, trivial, pre12⟩
          case neg =>
            have pre13 : ∀ t, Steps p.tables e below (s₁.setTop (mkF m 115 #[.val (.long a1), .second, .val (.long a2), .second, .val (.int a3), .val (.int md), .val (.long dd), .second, .val (.long a1), .second, .val (.long (((9223372036854775807 : Int64) - a1) + dd)), .second, .unset, .unset, .unset, .unset, .unset, .unset] [])) t → Steps p.tables e below (s₁.setTop (entryFrame m #[(.long a1), (.long a2), (.int a3)] maxLocals)) t := by
              intro t kt
              refine pre11 t ?_
              show Steps p.tables e below (s₁.setTop (mkF m 68 #[.val (.long a1), .second, .val (.long a2), .second, .val (.int a3), .val (.int md), .val (.long dd), .second, .val (.long a1), .second, .val (.long a2), .second, .unset, .unset, .unset, .unset, .unset, .unset] [(.int (lcmpW a1 (0 : Int64)))])) _
              refine XS.ifNo X0.here hx rfl (hb hby at_68) rfl ((if0 _ _).trans (flt (fun q => hc68 ((lw_lt a1 (0 : Int64)).mp q))).1) ?_
              show Steps p.tables e below (s₁.setTop (mkF m 71 #[.val (.long a1), .second, .val (.long a2), .second, .val (.int a3), .val (.int md), .val (.long dd), .second, .val (.long a1), .second, .val (.long a2), .second, .unset, .unset, .unset, .unset, .unset, .unset] [])) _
              refine X0.ldc2Long hx hown (mvT hZ (hw _ (List.mem_of_getElem? (i := 10) rfl))) (g := (mkF m 71 #[.val (.long a1), .second, .val (.long a2), .second, .val (.int a3), .val (.int md), .val (.long dd), .second, .val (.long a1), .second, .val (.long a2), .second, .unset, .unset, .unset, .unset, .unset, .unset] [])) rfl (hb hby at_71) _ ?_
              show Steps p.tables e below (s₁.setTop (mkF m 74 #[.val (.long a1), .second, .val (.long a2), .second, .val (.int a3), .val (.int md), .val (.long dd), .second, .val (.long a1), .second, .val (.long a2), .second, .unset, .unset, .unset, .unset, .unset, .unset] [(.long (9223372036854775807 : Int64))])) _
              refine XS.lload X0.here hx rfl (hb hby at_74) rfl ?_
              show Steps p.tables e below (s₁.setTop (mkF m 76 #[.val (.long a1), .second, .val (.long a2), .second, .val (.int a3), .val (.int md), .val (.long dd), .second, .val (.long a1), .second, .val (.long a2), .second, .unset, .unset, .unset, .unset, .unset, .unset] [(.long a1), (.long (9223372036854775807 : Int64))])) _
              refine XS.lsub X0.here hx rfl (hb hby at_76) rfl ?_
              show Steps p.tables e below (s₁.setTop (mkF m 77 #[.val (.long a1), .second, .val (.long a2), .second, .val (.int a3), .val (.int md), .val (.long dd), .second, .val (.long a1), .second, .val (.long a2), .second, .unset, .unset, .unset, .unset, .unset, .unset] [(.long ((9223372036854775807 : Int64) - a1))])) _
              refine XS.lload X0.here hx rfl (hb hby at_77) rfl ?_
              show Steps p.tables e below (s₁.setTop (mkF m 79 #[.val (.long a1), .second, .val (.long a2), .second, .val (.int a3), .val (.int md), .val (.long dd), .second, .val (.long a1), .second, .val (.long a2), .second, .unset, .unset, .unset, .unset, .unset, .unset] [(.long dd), (.long ((9223372036854775807 : Int64) - a1))])) _
              refine XS.ladd X0.here hx rfl (hb hby at_79) rfl ?_
              show Steps p.tables e below (s₁.setTop (mkF m 80 #[.val (.long a1), .second, .val (.long a2), .second, .val (.int a3), .val (.int md), .val (.long dd), .second, .val (.long a1), .second, .val (.long a2), .second, .unset, .unset, .unset, .unset, .unset, .unset] [(.long (((9223372036854775807 : Int64) - a1) + dd))])) _
              refine XS.lstore X0.here hx rfl (hb hby at_80) rfl (l' := #[.val (.long a1), .second, .val (.long a2), .second, .val (.int a3), .val (.int md), .val (.long dd), .second, .val (.long a1), .second, .val (.long (((9223372036854775807 : Int64) - a1) + dd)), .second, .unset, .unset, .unset, .unset, .unset, .unset]) rfl ?_
              show Steps p.tables e below (s₁.setTop (mkF m 82 #[.val (.long a1), .second, .val (.long a2), .second, .val (.int a3), .val (.int md), .val (.long dd), .second, .val (.long a1), .second, .val (.long (((9223372036854775807 : Int64) - a1) + dd)), .second, .unset, .unset, .unset, .unset, .unset, .unset] [])) _
              refine XS.goto X0.here hx rfl (pc0 := 82) (pc' := 115) rfl (hb hby at_82) (by decide) (by decide) ?_
              exact kt
            exact ⟨s₁, _, a1, (((9223372036854775807 : Int64) - a1) + dd), X0, e0, N0, trivial, pre13⟩
        case neg =>
          have pre14 : ∀ t, Steps p.tables e below (s₁.setTop (mkF m 61 #[.val (.long a1), .second, .val (.long a2), .second, .val (.int a3), .val (.int md), .val (.long dd), .second, .val (.long a1), .second, .val (.long a2), .second, .unset, .unset, .unset, .unset, .unset, .unset] [(.int (4 : Int32)), (.int md)])) t → Steps p.tables e below (s₁.setTop (entryFrame m #[(.long a1), (.long a2), (.int a3)] maxLocals)) t := by
            intro t kt
            refine pre10 t ?_
            show Steps p.tables e below (s₁.setTop (mkF m 55 #[.val (.long a1), .second, .val (.long a2), .second, .val (.int a3), .val (.int md), .val (.long dd), .second, .val (.long a1), .second, .val (.long a2), .second, .unset, .unset, .unset, .unset, .unset, .unset] [(.int (3 : Int32)), (.int md)])) _
            refine XS.icmpNo X0.here hx rfl (hb hby at_55) rfl (feq hc55).1 ?_
            show Steps p.tables e below (s₁.setTop (mkF m 58 #[.val (.long a1), .second, .val (.long a2), .second, .val (.int a3), .val (.int md), .val (.long dd), .second, .val (.long a1), .second, .val (.long a2), .second, .unset, .unset, .unset, .unset, .unset, .unset] [])) _
            refine XS.iload X0.here hx rfl (hb hby at_58) rfl ?_
            show Steps p.tables e below (s₁.setTop (mkF m 60 #[.val (.long a1), .second, .val (.long a2), .second, .val (.int a3), .val (.int md), .val (.long dd), .second, .val (.long a1), .second, .val (.long a2), .second, .unset, .unset, .unset, .unset, .unset, .unset] [(.int md)])) _
            refine XS.iconst X0.here hx rfl (hb hby at_60) ?_
            exact kt
          by_cases hc61 : md = (4 : Int32)
          case pos =>
            have pre15 : ∀ t, Steps p.tables e below (s₁.setTop (mkF m 68 #[.val (.long a1), .second, .val (.long a2), .second, .val (.int a3), .val (.int md), .val (.long dd), .second, .val (.long a1), .second, .val (.long a2), .second, .unset, .unset, .unset, .unset, .unset, .unset] [(.int (lcmpW a1 (0 : Int64)))])) t → Steps p.tables e below (s₁.setTop (entryFrame m #[(.long a1), (.long a2), (.int a3)] maxLocals)) t := by
              intro t kt
              refine pre14 t ?_
              show Steps p.tables e below (s₁.setTop (mkF m 61 #[.val (.long a1), .second, .val (.long a2), .second, .val (.int a3), .val (.int md), .val (.long dd), .second, .val (.long a1), .second, .val (.long a2), .second, .unset, .unset, .unset, .unset, .unset, .unset] [(.int (4 : Int32)), (.int md)])) _
              refine XS.icmpNo X0.here hx rfl (hb hby at_61) rfl (teq hc61).2 ?_
              show Steps p.tables e below (s₁.setTop (mkF m 64 #[.val (.long a1), .second, .val (.long a2), .second, .val (.int a3), .val (.int md), .val (.long dd), .second, .val (.long a1), .second, .val (.long a2), .second, .unset, .unset, .unset, .unset, .unset, .unset] [])) _
              refine XS.lload X0.here hx rfl (hb hby at_64) rfl ?_
              show Steps p.tables e below (s₁.setTop (mkF m 66 #[.val (.long a1), .second, .val (.long a2), .second, .val (.int a3), .val (.int md), .val (.long dd), .second, .val (.long a1), .second, .val (.long a2), .second, .unset, .unset, .unset, .unset, .unset, .unset] [(.long a1)])) _
              refine XS.lconst X0.here hx rfl (hb hby at_66) ?_
              show Steps p.tables e below (s₁.setTop (mkF m 67 #[.val (.long a1), .second, .val (.long a2), .second, .val (.int a3), .val (.int md), .val (.long dd), .second, .val (.long a1), .second, .val (.long a2), .second, .unset, .unset, .unset, .unset, .unset, .unset] [(.long (0 : Int64)), (.long a1)])) _
              refine XS.lcmp X0.here hx rfl (hb hby at_67) rfl ?_
              exact kt
            by_cases hc68_2 : a1 < (0 : Int64)
            case pos =>
              have pre16 : ∀ t, Steps p.tables e below (s₁.setTop (mkF m 115 #[.val (.long a1), .second, .val (.long a2), .second, .val (.int a3), .val (.int md), .val (.long dd), .second, .val (.long a1), .second, .val (.long (((-9223372036854775808 : Int64) - a1) + dd)), .second, .unset, .unset, .unset, .unset, .unset, .unset] [])) t → Steps p.tables e below (s₁.setTop (entryFrame m #[(.long a1), (.long a2), (.int a3)] maxLocals)) t := by
                intro t kt
                refine pre15 t ?_
                show Steps p.tables e below (s₁.setTop (mkF m 68 #[.val (.long a1), .second, .val (.long a2), .second, .val (.int a3), .val (.int md), .val (.long dd), .second, .val (.long a1), .second, .val (.long a2), .second, .unset, .unset, .unset, .unset, .unset, .unset] [(.int (lcmpW a1 (0 : Int64)))])) _
                refine XS.ifYes X0.here hx rfl (pc0 := 68) (pc' := 85) rfl (hb hby at_68) rfl ((if0 _ _).trans (tlt ((lw_lt a1 (0 : Int64)).mpr hc68_2)).1) (by decide) (by decide) ?_
                show Steps p.tables e below (s₁.setTop (mkF m 85 #[.val (.long a1), .second, .val (.long a2), .second, .val (.int a3), .val (.int md), .val (.long dd), .second, .val (.long a1), .second, .val (.long a2), .second, .unset, .unset, .unset, .unset, .unset, .unset] [])) _
                refine X0.ldc2Long hx hown (mvT hZ (hw _ (List.mem_of_getElem? (i := 9) rfl))) (g := (mkF m 85 #[.val (.long a1), .second, .val (.long a2), .second, .val (.int a3), .val (.int md), .val (.long dd), .second, .val (.long a1), .second, .val (.long a2), .second, .unset, .unset, .unset, .unset, .unset, .unset] [])) rfl (hb hby at_85) _ ?_
                show Steps p.tables e below (s₁.setTop (mkF m 88 #[.val (.long a1), .second, .val (.long a2), .second, .val (.int a3), .val (.int md), .val (.long dd), .second, .val (.long a1), .second, .val (.long a2), .second, .unset, .unset, .unset, .unset, .unset, .unset] [(.long (-9223372036854775808 : Int64))])) _
                refine XS.lload X0.here hx rfl (hb hby at_88) rfl ?_
                show Steps p.tables e below (s₁.setTop (mkF m 90 #[.val (.long a1), .second, .val (.long a2), .second, .val (.int a3), .val (.int md), .val (.long dd), .second, .val (.long a1), .second, .val (.long a2), .second, .unset, .unset, .unset, .unset, .unset, .unset] [(.long a1), (.long (-9223372036854775808 : Int64))])) _
                refine XS.lsub X0.here hx rfl (hb hby at_90) rfl ?_
                show Steps p.tables e below (s₁.setTop (mkF m 91 #[.val (.long a1), .second, .val (.long a2), .second, .val (.int a3), .val (.int md), .val (.long dd), .second, .val (.long a1), .second, .val (.long a2), .second, .unset, .unset, .unset, .unset, .unset, .unset] [(.long ((-9223372036854775808 : Int64) - a1))])) _
                refine XS.lload X0.here hx rfl (hb hby at_91) rfl ?_
                show Steps p.tables e below (s₁.setTop (mkF m 93 #[.val (.long a1), .second, .val (.long a2), .second, .val (.int a3), .val (.int md), .val (.long dd), .second, .val (.long a1), .second, .val (.long a2), .second, .unset, .unset, .unset, .unset, .unset, .unset] [(.long dd), (.long ((-9223372036854775808 : Int64) - a1))])) _
                refine XS.ladd X0.here hx rfl (hb hby at_93) rfl ?_
                show Steps p.tables e below (s₁.setTop (mkF m 94 #[.val (.long a1), .second, .val (.long a2), .second, .val (.int a3), .val (.int md), .val (.long dd), .second, .val (.long a1), .second, .val (.long a2), .second, .unset, .unset, .unset, .unset, .unset, .unset] [(.long (((-9223372036854775808 : Int64) - a1) + dd))])) _
                refine XS.lstore X0.here hx rfl (hb hby at_94) rfl (l' := #[.val (.long a1), .second, .val (.long a2), .second, .val (.int a3), .val (.int md), .val (.long dd), .second, .val (.long a1), .second, .val (.long (((-9223372036854775808 : Int64) - a1) + dd)), .second, .unset, .unset, .unset, .unset, .unset, .unset]) rfl ?_
                show Steps p.tables e below (s₁.setTop (mkF m 96 #[.val (.long a1), .second, .val (.long a2), .second, .val (.int a3), .val (.int md), .val (.long dd), .second, .val (.long a1), .second, .val (.long (((-9223372036854775808 : Int64) - a1) + dd)), .second, .unset, .unset, .unset, .unset, .unset, .unset] [])) _
                refine XS.goto X0.here hx rfl (pc0 := 96) (pc' := 115) rfl (hb hby at_96) (by decide) (by decide) ?_
                exact kt
              exact ⟨s₁, _, a1, (((-9223372036854775808 : Int64) - a1) + dd), X0, e0, N0, trivial, pre16⟩
            case neg =>
              have pre17 : ∀ t, Steps p.tables e below (s₁.setTop (mkF m 115 #[.val (.long a1), .second, .val (.long a2), .second, .val (.int a3), .val (.int md), .val (.long dd), .second, .val (.long a1), .second, .val (.long (((9223372036854775807 : Int64) - a1) + dd)), .second, .unset, .unset, .unset, .unset, .unset, .unset] [])) t → Steps p.tables e below (s₁.setTop (entryFrame m #[(.long a1), (.long a2), (.int a3)] maxLocals)) t := by
                intro t kt
                refine pre15 t ?_
                show Steps p.tables e below (s₁.setTop (mkF m 68 #[.val (.long a1), .second, .val (.long a2), .second, .val (.int a3), .val (.int md), .val (.long dd), .second, .val (.long a1), .second, .val (.long a2), .second, .unset, .unset, .unset, .unset, .unset, .unset] [(.int (lcmpW a1 (0 : Int64)))])) _
                refine XS.ifNo X0.here hx rfl (hb hby at_68) rfl ((if0 _ _).trans (flt (fun q => hc68_2 ((lw_lt a1 (0 : Int64)).mp q))).1) ?_
                show Steps p.tables e below (s₁.setTop (mkF m 71 #[.val (.long a1), .second, .val (.long a2), .second, .val (.int a3), .val (.int md), .val (.long dd), .second, .val (.long a1), .second, .val (.long a2), .second, .unset, .unset, .unset, .unset, .unset, .unset] [])) _
                refine X0.ldc2Long hx hown (mvT hZ (hw _ (List.mem_of_getElem? (i := 10) rfl))) (g := (mkF m 71 #[.val (.long a1), .second, .val (.long a2), .second, .val (.int a3), .val (.int md), .val (.long dd), .second, .val (.long a1), .second, .val (.long a2), .second, .unset, .unset, .unset, .unset, .unset, .unset] [])) rfl (hb hby at_71) _ ?_
                show Steps p.tables e below (s₁.setTop (mkF m 74 #[.val (.long a1), .second, .val (.long a2), .second, .val (.int a3), .val (.int md), .val (.long dd), .second, .val (.long a1), .second, .val (.long a2), .second, .unset, .unset, .unset, .unset, .unset, .unset] [(.long (9223372036854775807 : Int64))])) _
                refine XS.lload X0.here hx rfl (hb hby at_74) rfl ?_
                show Steps p.tables e below (s₁.setTop (mkF m 76 #[.val (.long a1), .second, .val (.long a2), .second, .val (.int a3), .val (.int md), .val (.long dd), .second, .val (.long a1), .second, .val (.long a2), .second, .unset, .unset, .unset, .unset, .unset, .unset] [(.long a1), (.long (9223372036854775807 : Int64))])) _
                refine XS.lsub X0.here hx rfl (hb hby at_76) rfl ?_
                show Steps p.tables e below (s₁.setTop (mkF m 77 #[.val (.long a1), .second, .val (.long a2), .second, .val (.int a3), .val (.int md), .val (.long dd), .second, .val (.long a1), .second, .val (.long a2), .second, .unset, .unset, .unset, .unset, .unset, .unset] [(.long ((9223372036854775807 : Int64) - a1))])) _
                refine XS.lload X0.here hx rfl (hb hby at_77) rfl ?_
                show Steps p.tables e below (s₁.setTop (mkF m 79 #[.val (.long a1), .second, .val (.long a2), .second, .val (.int a3), .val (.int md), .val (.long dd), .second, .val (.long a1), .second, .val (.long a2), .second, .unset, .unset, .unset, .unset, .unset, .unset] [(.long dd), (.long ((9223372036854775807 : Int64) - a1))])) _
                refine XS.ladd X0.here hx rfl (hb hby at_79) rfl ?_
                show Steps p.tables e below (s₁.setTop (mkF m 80 #[.val (.long a1), .second, .val (.long a2), .second, .val (.int a3), .val (.int md), .val (.long dd), .second, .val (.long a1), .second, .val (.long a2), .second, .unset, .unset, .unset, .unset, .unset, .unset] [(.long (((9223372036854775807 : Int64) - a1) + dd))])) _
                refine XS.lstore X0.here hx rfl (hb hby at_80) rfl (l' := #[.val (.long a1), .second, .val (.long a2), .second, .val (.int a3), .val (.int md), .val (.long dd), .second, .val (.long a1), .second, .val (.long (((9223372036854775807 : Int64) - a1) + dd)), .second, .unset, .unset, .unset, .unset, .unset, .unset]) rfl ?_
                show Steps p.tables e below (s₁.setTop (mkF m 82 #[.val (.long a1), .second, .val (.long a2), .second, .val (.int a3), .val (.int md), .val (.long dd), .second, .val (.long a1), .second, .val (.long (((9223372036854775807 : Int64) - a1) + dd)), .second, .unset, .unset, .unset, .unset, .unset, .unset] [])) _
                refine XS.goto X0.here hx rfl (pc0 := 82) (pc' := 115) rfl (hb hby at_82) (by decide) (by decide) ?_
                exact kt
              exact ⟨s₁, _, a1, (((9223372036854775807 : Int64) - a1) + dd), X0, e0, N0, trivial, pre17⟩
          case neg =>
            have pre18 : ∀ t, Steps p.tables e below (s₁.setTop (mkF m 102 #[.val (.long a1), .second, .val (.long a2), .second, .val (.int a3), .val (.int md), .val (.long dd), .second, .val (.long a1), .second, .val (.long a2), .second, .unset, .unset, .unset, .unset, .unset, .unset] [(.int (5 : Int32)), (.int md)])) t → Steps p.tables e below (s₁.setTop (entryFrame m #[(.long a1), (.long a2), (.int a3)] maxLocals)) t := by
              intro t kt
              refine pre14 t ?_
              show Steps p.tables e below (s₁.setTop (mkF m 61 #[.val (.long a1), .second, .val (.long a2), .second, .val (.int a3), .val (.int md), .val (.long dd), .second, .val (.long a1), .second, .val (.long a2), .second, .unset, .unset, .unset, .unset, .unset, .unset] [(.int (4 : Int32)), (.int md)])) _
              refine XS.icmpYes X0.here hx rfl (pc0 := 61) (pc' := 99) rfl (hb hby at_61) rfl (feq hc61).2 (by decide) (by decide) ?_
              show Steps p.tables e below (s₁.setTop (mkF m 99 #[.val (.long a1), .second, .val (.long a2), .second, .val (.int a3), .val (.int md), .val (.long dd), .second, .val (.long a1), .second, .val (.long a2), .second, .unset, .unset, .unset, .unset, .unset, .unset] [])) _
              refine XS.iload X0.here hx rfl (hb hby at_99) rfl ?_
              show Steps p.tables e below (s₁.setTop (mkF m 101 #[.val (.long a1), .second, .val (.long a2), .second, .val (.int a3), .val (.int md), .val (.long dd), .second, .val (.long a1), .second, .val (.long a2), .second, .unset, .unset, .unset, .unset, .unset, .unset] [(.int md)])) _
              refine XS.iconst X0.here hx rfl (hb hby at_101) ?_
              exact kt
            by_cases hc102 : md = (5 : Int32)
            case pos =>
              have pre19 : ∀ t, Steps p.tables e below (s₁.setTop (mkF m 115 #[.val (.long a1), .second, .val (.long a2), .second, .val (.int a3), .val (.int md), .val (.long dd), .second, .val (.long (-9223372036854775808 : Int64)), .second, .val (.long (-9223372036854775808 : Int64)), .second, .unset, .unset, .unset, .unset, .unset, .unset] [])) t → Steps p.tables e below (s₁.setTop (entryFrame m #[(.long a1), (.long a2), (.int a3)] maxLocals)) t := by
                intro t kt
                refine pre18 t ?_
                show Steps p.tables e below (s₁.setTop (mkF m 102 #[.val (.long a1), .second, .val (.long a2), .second, .val (.int a3), .val (.int md), .val (.long dd), .second, .val (.long a1), .second, .val (.long a2), .second, .unset, .unset, .unset, .unset, .unset, .unset] [(.int (5 : Int32)), (.int md)])) _
                refine XS.icmpNo X0.here hx rfl (hb hby at_102) rfl (teq hc102).2 ?_
                show Steps p.tables e below (s₁.setTop (mkF m 105 #[.val (.long a1), .second, .val (.long a2), .second, .val (.int a3), .val (.int md), .val (.long dd), .second, .val (.long a1), .second, .val (.long a2), .second, .unset, .unset, .unset, .unset, .unset, .unset] [])) _
                refine X0.ldc2Long hx hown (mvT hZ (hw _ (List.mem_of_getElem? (i := 9) rfl))) (g := (mkF m 105 #[.val (.long a1), .second, .val (.long a2), .second, .val (.int a3), .val (.int md), .val (.long dd), .second, .val (.long a1), .second, .val (.long a2), .second, .unset, .unset, .unset, .unset, .unset, .unset] [])) rfl (hb hby at_105) _ ?_
                show Steps p.tables e below (s₁.setTop (mkF m 108 #[.val (.long a1), .second, .val (.long a2), .second, .val (.int a3), .val (.int md), .val (.long dd), .second, .val (.long a1), .second, .val (.long a2), .second, .unset, .unset, .unset, .unset, .unset, .unset] [(.long (-9223372036854775808 : Int64))])) _
                refine XS.lstore X0.here hx rfl (hb hby at_108) rfl (l' := #[.val (.long a1), .second, .val (.long a2), .second, .val (.int a3), .val (.int md), .val (.long dd), .second, .val (.long (-9223372036854775808 : Int64)), .second, .val (.long a2), .second, .unset, .unset, .unset, .unset, .unset, .unset]) rfl ?_
                show Steps p.tables e below (s₁.setTop (mkF m 110 #[.val (.long a1), .second, .val (.long a2), .second, .val (.int a3), .val (.int md), .val (.long dd), .second, .val (.long (-9223372036854775808 : Int64)), .second, .val (.long a2), .second, .unset, .unset, .unset, .unset, .unset, .unset] [])) _
                refine X0.ldc2Long hx hown (mvT hZ (hw _ (List.mem_of_getElem? (i := 9) rfl))) (g := (mkF m 110 #[.val (.long a1), .second, .val (.long a2), .second, .val (.int a3), .val (.int md), .val (.long dd), .second, .val (.long (-9223372036854775808 : Int64)), .second, .val (.long a2), .second, .unset, .unset, .unset, .unset, .unset, .unset] [])) rfl (hb hby at_110) _ ?_
                show Steps p.tables e below (s₁.setTop (mkF m 113 #[.val (.long a1), .second, .val (.long a2), .second, .val (.int a3), .val (.int md), .val (.long dd), .second, .val (.long (-9223372036854775808 : Int64)), .second, .val (.long a2), .second, .unset, .unset, .unset, .unset, .unset, .unset] [(.long (-9223372036854775808 : Int64))])) _
                refine XS.lstore X0.here hx rfl (hb hby at_113) rfl (l' := #[.val (.long a1), .second, .val (.long a2), .second, .val (.int a3), .val (.int md), .val (.long dd), .second, .val (.long (-9223372036854775808 : Int64)), .second, .val (.long (-9223372036854775808 : Int64)), .second, .unset, .unset, .unset, .unset, .unset, .unset]) rfl ?_
                exact kt
              exact ⟨s₁, _, (-9223372036854775808 : Int64), (-9223372036854775808 : Int64), X0, e0, N0, trivial, pre19⟩
            case neg =>
              have pre20 : ∀ t, Steps p.tables e below (s₁.setTop (mkF m 115 #[.val (.long a1), .second, .val (.long a2), .second, .val (.int a3), .val (.int md), .val (.long dd), .second, .val (.long a1), .second, .val (.long a2), .second, .unset, .unset, .unset, .unset, .unset, .unset] [])) t → Steps p.tables e below (s₁.setTop (entryFrame m #[(.long a1), (.long a2), (.int a3)] maxLocals)) t := by
                intro t kt
                refine pre18 t ?_
                show Steps p.tables e below (s₁.setTop (mkF m 102 #[.val (.long a1), .second, .val (.long a2), .second, .val (.int a3), .val (.int md), .val (.long dd), .second, .val (.long a1), .second, .val (.long a2), .second, .unset, .unset, .unset, .unset, .unset, .unset] [(.int (5 : Int32)), (.int md)])) _
                refine XS.icmpYes X0.here hx rfl (pc0 := 102) (pc' := 115) rfl (hb hby at_102) rfl (feq hc102).2 (by decide) (by decide) ?_
                exact kt
              exact ⟨s₁, _, a1, a2, X0, e0, N0, trivial, pre20⟩
  obtain ⟨_, _, ⟨T21, L21, k21, n21⟩, -, X21, ⟨Lc21, hQ21, l21, y21, z21⟩, st21⟩ := Jvm.LawKit.callS X6 hx (y := (⟨"com/example/firmwatt/firmwatt/Fraction", "add", "(JJ)J"⟩ : MethodName)) hown (mvT hZ (hw _ (List.mem_of_getElem? (i := 0) rfl))) (mvT hZ (hw _ (List.mem_of_getElem? (i := 1) rfl))) (mvT hZ (hw _ (List.mem_of_getElem? (i := 2) rfl))) (mvT hZ (hw _ (List.mem_of_getElem? (i := 3) rfl))) (by decide) (backOf (W := 0) (own_rm1 l Z a0 hw [] (xx) (yy) h0 n0 Z0 ) hZ (hw _ (List.mem_of_getElem? (i := 3) rfl)) (hw _ (List.mem_of_getElem? (i := 2) rfl)) (by decide) (by decide)) (g := (mkF m 119 #[.val (.long a1), .second, .val (.long a2), .second, .val (.int a3), .val (.int md), .val (.long dd), .second, .val (.long xx), .second, .val (.long yy), .second, .unset, .unset, .unset, .unset, .unset, .unset] [(.long yy), (.long xx)])) rfl (by rw [hml]; rfl) (argsL := [(.long xx), (.long yy)]) (rest := []) (lenOf own_pd0 rfl) rfl (by show 2 * 0 + _ ≤ _; exact Nat.le_of_eq rfl) (hb hby at_119) (fun _ _ => ⟨rfl, e6, (by decide : 0 + 0 ≤ _), (by decide : 0 + 0 ≤ _)⟩)
  dsimp only [Pt.U, Pt.locs, Pt.cells, Pt.slots] at X21 l21 y21 z21 st21 hQ21
  subst l21 y21 z21
  obtain ⟨rfl, Nq21, eq21⟩ := hQ21
  have N21 := Fr.app N6 Nq21
  obtain ⟨_, _, ⟨T22, L22, k22, n22⟩, -, X22, ⟨Lc22, hQ22, l22, y22, z22⟩, st22⟩ := Jvm.LawKit.callS X21 hx (y := (⟨"com/example/firmwatt/firmwatt/Fraction", "add", "(JJ)J"⟩ : MethodName)) hown (mvT hZ (hw _ (List.mem_of_getElem? (i := 0) rfl))) (mvT hZ (hw _ (List.mem_of_getElem? (i := 1) rfl))) (mvT hZ (hw _ (List.mem_of_getElem? (i := 2) rfl))) (mvT hZ (hw _ (List.mem_of_getElem? (i := 3) rfl))) (by decide) (backOf (W := 0) (own_rm1 l Z a0 hw [] (yy) (xx) h0 n0 Z0 ) hZ (hw _ (List.mem_of_getElem? (i := 3) rfl)) (hw _ (List.mem_of_getElem? (i := 2) rfl)) (by decide) (by decide)) (g := (mkF m 128 #[.val (.long a1), .second, .val (.long a2), .second, .val (.int a3), .val (.int md), .val (.long dd), .second, .val (.long xx), .second, .val (.long yy), .second, .val (.long (own_add xx yy)), .second, .unset, .unset, .unset, .unset] [(.long xx), (.long yy)])) rfl (by rw [hml]; rfl) (argsL := [(.long yy), (.long xx)]) (rest := []) (lenOf own_pd0 rfl) rfl (by show 2 * 0 + _ ≤ _; exact Nat.le_of_eq rfl) (hb hby at_128) (fun _ _ => ⟨rfl, eq21, (by decide : 0 + 0 ≤ _), (by decide : 0 + 0 ≤ _)⟩)
  dsimp only [Pt.U, Pt.locs, Pt.cells, Pt.slots] at X22 l22 y22 z22 st22 hQ22
  subst l22 y22 z22
  obtain ⟨rfl, Nq22, eq22⟩ := hQ22
  have N22 := Fr.app N21 Nq22
  obtain ⟨_, _, ⟨T23, L23, k23, n23⟩, -, X23, ⟨Lc23, hQ23, l23, y23, z23⟩, st23⟩ := Jvm.LawKit.callS X22 hx (y := (⟨"com/example/firmwatt/firmwatt/FractionAddPinLaw", "expected", "(JJ)J"⟩ : MethodName)) hown (mvT hZ (hw _ (List.mem_of_getElem? (i := 5) rfl))) (mvT hZ (hw _ (List.mem_of_getElem? (i := 6) rfl))) (mvT hZ (hw _ (List.mem_of_getElem? (i := 7) rfl))) (mvT hZ (hw _ (List.mem_of_getElem? (i := 8) rfl))) (by decide) (backOf (W := 0) (own_rm2 l Z a0 hw [] (xx) (yy) h0 n0 Z0 ) hZ (hw _ (List.mem_of_getElem? (i := 8) rfl)) (hw _ (List.mem_of_getElem? (i := 7) rfl)) (by decide) (by decide)) (g := (mkF m 137 #[.val (.long a1), .second, .val (.long a2), .second, .val (.int a3), .val (.int md), .val (.long dd), .second, .val (.long xx), .second, .val (.long yy), .second, .val (.long (own_add xx yy)), .second, .val (.long (own_add yy xx)), .second, .unset, .unset] [(.long yy), (.long xx)])) rfl (by rw [hml]; rfl) (argsL := [(.long xx), (.long yy)]) (rest := []) (lenOf own_pd0 rfl) rfl (by show 2 * 0 + _ ≤ _; exact Nat.le_of_eq rfl) (hb hby at_137) (fun _ _ => ⟨rfl, eq22, (by decide : 0 + 0 ≤ _), (by decide : 0 + 0 ≤ _)⟩)
  dsimp only [Pt.U, Pt.locs, Pt.cells, Pt.slots] at X23 l23 y23 z23 st23 hQ23
  subst l23 y23 z23
  obtain ⟨rfl, Nq23, eq23⟩ := hQ23
  have N23 := Fr.app N22 Nq23
  obtain ⟨_, _, ⟨T24, L24, k24, n24⟩, -, X24, ⟨Lc24, hQ24, l24, y24, z24⟩, st24⟩ := Jvm.LawKit.callS X23 hx (y := (⟨"com/example/firmwatt/firmwatt/FractionAddPinLaw", "expected", "(JJ)J"⟩ : MethodName)) hown (mvT hZ (hw _ (List.mem_of_getElem? (i := 5) rfl))) (mvT hZ (hw _ (List.mem_of_getElem? (i := 6) rfl))) (mvT hZ (hw _ (List.mem_of_getElem? (i := 7) rfl))) (mvT hZ (hw _ (List.mem_of_getElem? (i := 8) rfl))) (by decide) (backOf (W := 2) (own_rm2 l Z a0 hw [] (yy) (xx) h0 n0 Z0 ) hZ (hw _ (List.mem_of_getElem? (i := 8) rfl)) (hw _ (List.mem_of_getElem? (i := 7) rfl)) (by decide) (by decide)) (g := (mkF m 156 #[.val (.long a1), .second, .val (.long a2), .second, .val (.int a3), .val (.int md), .val (.long dd), .second, .val (.long xx), .second, .val (.long yy), .second, .val (.long (own_add xx yy)), .second, .val (.long (own_add yy xx)), .second, .val (.long (own_exp xx yy)), .second] [(.long xx), (.long yy), (.long (own_add yy xx))])) rfl (by rw [hml]; rfl) (argsL := [(.long yy), (.long xx)]) (rest := [(.long (own_add yy xx))]) (lenOf own_pd0 rfl) rfl (by show 2 * 0 + _ ≤ _; exact Nat.le_of_eq rfl) (hb hby at_156) (fun _ _ => ⟨rfl, eq23, (by decide : 0 + 0 ≤ _), (by decide : 0 + 0 ≤ _)⟩)
  dsimp only [Pt.U, Pt.locs, Pt.cells, Pt.slots] at X24 l24 y24 z24 st24 hQ24
  subst l24 y24 z24
  obtain ⟨rfl, Nq24, eq24⟩ := hQ24
  have N24 := Fr.app N23 Nq24
  obtain ⟨fs, hr, hrun, hended, hW, hsame⟩ := X24.leave (v := some (.int (1 : Int32))) (fun h => by rw [Bd.returns] at h; cases h) (BodyLoose.notSynchronized Bd)
  refine ⟨_, _, pre6 _ ?_, hrun, hended, _, _, rfl, ?_, ⟨_, rfl⟩, hW, hsame.mono (by decide) (by decide)⟩
  · skip
    show Steps p.tables e below (T6.setTop (mkF m 115 #[.val (.long a1), .second, .val (.long a2), .second, .val (.int a3), .val (.int md), .val (.long dd), .second, .val (.long xx), .second, .val (.long yy), .second, .unset, .unset, .unset, .unset, .unset, .unset] [])) _
    refine XS.lload X6.here hx rfl (hb hby at_115) rfl ?_
    show Steps p.tables e below (T6.setTop (mkF m 117 #[.val (.long a1), .second, .val (.long a2), .second, .val (.int a3), .val (.int md), .val (.long dd), .second, .val (.long xx), .second, .val (.long yy), .second, .unset, .unset, .unset, .unset, .unset, .unset] [(.long xx)])) _
    refine XS.lload X6.here hx rfl (hb hby at_117) rfl ?_
    show Steps p.tables e below (T6.setTop (mkF m 119 #[.val (.long a1), .second, .val (.long a2), .second, .val (.int a3), .val (.int md), .val (.long dd), .second, .val (.long xx), .second, .val (.long yy), .second, .unset, .unset, .unset, .unset, .unset, .unset] [(.long yy), (.long xx)])) _
    refine st21 _ ?_
    show Steps p.tables e below (T21.setTop (mkF m 122 #[.val (.long a1), .second, .val (.long a2), .second, .val (.int a3), .val (.int md), .val (.long dd), .second, .val (.long xx), .second, .val (.long yy), .second, .unset, .unset, .unset, .unset, .unset, .unset] [(.long (own_add xx yy))])) _
    refine XS.lstore X21.here hx rfl (hb hby at_122) rfl (l' := #[.val (.long a1), .second, .val (.long a2), .second, .val (.int a3), .val (.int md), .val (.long dd), .second, .val (.long xx), .second, .val (.long yy), .second, .val (.long (own_add xx yy)), .second, .unset, .unset, .unset, .unset]) rfl ?_
    show Steps p.tables e below (T21.setTop (mkF m 124 #[.val (.long a1), .second, .val (.long a2), .second, .val (.int a3), .val (.int md), .val (.long dd), .second, .val (.long xx), .second, .val (.long yy), .second, .val (.long (own_add xx yy)), .second, .unset, .unset, .unset, .unset] [])) _
    refine XS.lload X21.here hx rfl (hb hby at_124) rfl ?_
    show Steps p.tables e below (T21.setTop (mkF m 126 #[.val (.long a1), .second, .val (.long a2), .second, .val (.int a3), .val (.int md), .val (.long dd), .second, .val (.long xx), .second, .val (.long yy), .second, .val (.long (own_add xx yy)), .second, .unset, .unset, .unset, .unset] [(.long yy)])) _
    refine XS.lload X21.here hx rfl (hb hby at_126) rfl ?_
    show Steps p.tables e below (T21.setTop (mkF m 128 #[.val (.long a1), .second, .val (.long a2), .second, .val (.int a3), .val (.int md), .val (.long dd), .second, .val (.long xx), .second, .val (.long yy), .second, .val (.long (own_add xx yy)), .second, .unset, .unset, .unset, .unset] [(.long xx), (.long yy)])) _
    refine st22 _ ?_
    show Steps p.tables e below (T22.setTop (mkF m 131 #[.val (.long a1), .second, .val (.long a2), .second, .val (.int a3), .val (.int md), .val (.long dd), .second, .val (.long xx), .second, .val (.long yy), .second, .val (.long (own_add xx yy)), .second, .unset, .unset, .unset, .unset] [(.long (own_add yy xx))])) _
    refine XS.lstore X22.here hx rfl (hb hby at_131) rfl (l' := #[.val (.long a1), .second, .val (.long a2), .second, .val (.int a3), .val (.int md), .val (.long dd), .second, .val (.long xx), .second, .val (.long yy), .second, .val (.long (own_add xx yy)), .second, .val (.long (own_add yy xx)), .second, .unset, .unset]) rfl ?_
    show Steps p.tables e below (T22.setTop (mkF m 133 #[.val (.long a1), .second, .val (.long a2), .second, .val (.int a3), .val (.int md), .val (.long dd), .second, .val (.long xx), .second, .val (.long yy), .second, .val (.long (own_add xx yy)), .second, .val (.long (own_add yy xx)), .second, .unset, .unset] [])) _
    refine XS.lload X22.here hx rfl (hb hby at_133) rfl ?_
    show Steps p.tables e below (T22.setTop (mkF m 135 #[.val (.long a1), .second, .val (.long a2), .second, .val (.int a3), .val (.int md), .val (.long dd), .second, .val (.long xx), .second, .val (.long yy), .second, .val (.long (own_add xx yy)), .second, .val (.long (own_add yy xx)), .second, .unset, .unset] [(.long xx)])) _
    refine XS.lload X22.here hx rfl (hb hby at_135) rfl ?_
    show Steps p.tables e below (T22.setTop (mkF m 137 #[.val (.long a1), .second, .val (.long a2), .second, .val (.int a3), .val (.int md), .val (.long dd), .second, .val (.long xx), .second, .val (.long yy), .second, .val (.long (own_add xx yy)), .second, .val (.long (own_add yy xx)), .second, .unset, .unset] [(.long yy), (.long xx)])) _
    refine st23 _ ?_
    show Steps p.tables e below (T23.setTop (mkF m 140 #[.val (.long a1), .second, .val (.long a2), .second, .val (.int a3), .val (.int md), .val (.long dd), .second, .val (.long xx), .second, .val (.long yy), .second, .val (.long (own_add xx yy)), .second, .val (.long (own_add yy xx)), .second, .unset, .unset] [(.long (own_exp xx yy))])) _
    refine XS.lstore X23.here hx rfl (hb hby at_140) rfl (l' := #[.val (.long a1), .second, .val (.long a2), .second, .val (.int a3), .val (.int md), .val (.long dd), .second, .val (.long xx), .second, .val (.long yy), .second, .val (.long (own_add xx yy)), .second, .val (.long (own_add yy xx)), .second, .val (.long (own_exp xx yy)), .second]) rfl ?_
    show Steps p.tables e below (T23.setTop (mkF m 142 #[.val (.long a1), .second, .val (.long a2), .second, .val (.int a3), .val (.int md), .val (.long dd), .second, .val (.long xx), .second, .val (.long yy), .second, .val (.long (own_add xx yy)), .second, .val (.long (own_add yy xx)), .second, .val (.long (own_exp xx yy)), .second] [])) _
    refine XS.lload X23.here hx rfl (hb hby at_142) rfl ?_
    show Steps p.tables e below (T23.setTop (mkF m 144 #[.val (.long a1), .second, .val (.long a2), .second, .val (.int a3), .val (.int md), .val (.long dd), .second, .val (.long xx), .second, .val (.long yy), .second, .val (.long (own_add xx yy)), .second, .val (.long (own_add yy xx)), .second, .val (.long (own_exp xx yy)), .second] [(.long (own_add xx yy))])) _
    refine XS.lload X23.here hx rfl (hb hby at_144) rfl ?_
    show Steps p.tables e below (T23.setTop (mkF m 146 #[.val (.long a1), .second, .val (.long a2), .second, .val (.int a3), .val (.int md), .val (.long dd), .second, .val (.long xx), .second, .val (.long yy), .second, .val (.long (own_add xx yy)), .second, .val (.long (own_add yy xx)), .second, .val (.long (own_exp xx yy)), .second] [(.long (own_exp xx yy)), (.long (own_add xx yy))])) _
    refine XS.lcmp X23.here hx rfl (hb hby at_146) rfl ?_
    show Steps p.tables e below (T23.setTop (mkF m 147 #[.val (.long a1), .second, .val (.long a2), .second, .val (.int a3), .val (.int md), .val (.long dd), .second, .val (.long xx), .second, .val (.long yy), .second, .val (.long (own_add xx yy)), .second, .val (.long (own_add yy xx)), .second, .val (.long (own_exp xx yy)), .second] [(.int (lcmpW (own_add xx yy) (own_exp xx yy)))])) _
    refine XS.ifNo X23.here hx rfl (hb hby at_147) rfl ((if0 _ _).trans (teq ((lw_eq (own_add xx yy) (own_exp xx yy)).mpr (own_add_exp xx yy))).2) ?_
    show Steps p.tables e below (T23.setTop (mkF m 150 #[.val (.long a1), .second, .val (.long a2), .second, .val (.int a3), .val (.int md), .val (.long dd), .second, .val (.long xx), .second, .val (.long yy), .second, .val (.long (own_add xx yy)), .second, .val (.long (own_add yy xx)), .second, .val (.long (own_exp xx yy)), .second] [])) _
    refine XS.lload X23.here hx rfl (hb hby at_150) rfl ?_
    show Steps p.tables e below (T23.setTop (mkF m 152 #[.val (.long a1), .second, .val (.long a2), .second, .val (.int a3), .val (.int md), .val (.long dd), .second, .val (.long xx), .second, .val (.long yy), .second, .val (.long (own_add xx yy)), .second, .val (.long (own_add yy xx)), .second, .val (.long (own_exp xx yy)), .second] [(.long (own_add yy xx))])) _
    refine XS.lload X23.here hx rfl (hb hby at_152) rfl ?_
    show Steps p.tables e below (T23.setTop (mkF m 154 #[.val (.long a1), .second, .val (.long a2), .second, .val (.int a3), .val (.int md), .val (.long dd), .second, .val (.long xx), .second, .val (.long yy), .second, .val (.long (own_add xx yy)), .second, .val (.long (own_add yy xx)), .second, .val (.long (own_exp xx yy)), .second] [(.long yy), (.long (own_add yy xx))])) _
    refine XS.lload X23.here hx rfl (hb hby at_154) rfl ?_
    show Steps p.tables e below (T23.setTop (mkF m 156 #[.val (.long a1), .second, .val (.long a2), .second, .val (.int a3), .val (.int md), .val (.long dd), .second, .val (.long xx), .second, .val (.long yy), .second, .val (.long (own_add xx yy)), .second, .val (.long (own_add yy xx)), .second, .val (.long (own_exp xx yy)), .second] [(.long xx), (.long yy), (.long (own_add yy xx))])) _
    refine st24 _ ?_
    show Steps p.tables e below (T24.setTop (mkF m 159 #[.val (.long a1), .second, .val (.long a2), .second, .val (.int a3), .val (.int md), .val (.long dd), .second, .val (.long xx), .second, .val (.long yy), .second, .val (.long (own_add xx yy)), .second, .val (.long (own_add yy xx)), .second, .val (.long (own_exp xx yy)), .second] [(.long (own_exp yy xx)), (.long (own_add yy xx))])) _
    refine XS.lcmp X24.here hx rfl (hb hby at_159) rfl ?_
    show Steps p.tables e below (T24.setTop (mkF m 160 #[.val (.long a1), .second, .val (.long a2), .second, .val (.int a3), .val (.int md), .val (.long dd), .second, .val (.long xx), .second, .val (.long yy), .second, .val (.long (own_add xx yy)), .second, .val (.long (own_add yy xx)), .second, .val (.long (own_exp xx yy)), .second] [(.int (lcmpW (own_add yy xx) (own_exp yy xx)))])) _
    refine XS.ifNo X24.here hx rfl (hb hby at_160) rfl ((if0 _ _).trans (teq ((lw_eq (own_add yy xx) (own_exp yy xx)).mpr (own_add_exp yy xx))).2) ?_
    show Steps p.tables e below (T24.setTop (mkF m 163 #[.val (.long a1), .second, .val (.long a2), .second, .val (.int a3), .val (.int md), .val (.long dd), .second, .val (.long xx), .second, .val (.long yy), .second, .val (.long (own_add xx yy)), .second, .val (.long (own_add yy xx)), .second, .val (.long (own_exp xx yy)), .second] [])) _
    refine XS.iconst X24.here hx rfl (hb hby at_163) ?_
    show Steps p.tables e below (T24.setTop (mkF m 164 #[.val (.long a1), .second, .val (.long a2), .second, .val (.int a3), .val (.int md), .val (.long dd), .second, .val (.long xx), .second, .val (.long yy), .second, .val (.long (own_add xx yy)), .second, .val (.long (own_add yy xx)), .second, .val (.long (own_exp xx yy)), .second] [(.int (1 : Int32))])) _
    refine XS.goto X24.here hx rfl (pc0 := 164) (pc' := 168) rfl (hb hby at_164) (by decide) (by decide) ?_
    show Steps p.tables e below (T24.setTop (mkF m 168 #[.val (.long a1), .second, .val (.long a2), .second, .val (.int a3), .val (.int md), .val (.long dd), .second, .val (.long xx), .second, .val (.long yy), .second, .val (.long (own_add xx yy)), .second, .val (.long (own_add yy xx)), .second, .val (.long (own_exp xx yy)), .second] [(.int (1 : Int32))])) _
    exact retN X24 hx (t := .boolean) Bd.returns (by simp) (hb hby at_168) hr
  · show own_Q0 Z a1 a2 a3 h0 n0 _ T24.heap _
    rw [eq24]
    exact ⟨rfl, N24⟩
set_option maxRecDepth 65536 in
set_option maxHeartbeats 40000000 in
theorem own_comes {Post : Tables → Env → Array Value → State → Outcome → State → Prop} (hpost : ∀ tb e args s v u, (limb_1_1.after args s (.returned v) u = true ∧ limb_1_2.after args s (.returned v) u = true ∧ True) → FrameEnd s (.returned v) u (Jvm.fieldLocs frame_1_writes args s ++ Jvm.arrayLocs frame_1_arrays args s ++ Jvm.staticLocs frame_1_statics s) 0 0 → Post tb e args s (.returned v) u) :
    ArmFor flags0 classFile x code maxLocals ret World_1 tables_1 room_1 Calls_1 rest_1 Pre_1 Post := by
  intro l hfl _ _ p e ha hc hk s m args below hf hA hF happ hP
  obtain ⟨hcalls, hrest, hpre⟩ := hP
  obtain ⟨-, -, -, hnamed, -, -, -, hat⟩ := (Spec.applies_iff hf).mp happ
  obtain ⟨hg, hn⟩ := and_e (Cond.before_iff.mp (show (Jvm.Cond.and given_1 narrow_1).before args s = true from hpre))
  obtain ⟨gc, ga0⟩ := and_e hg
  obtain ⟨gv0, ga1⟩ := and_e ga0
  obtain ⟨gv1, ga2⟩ := and_e ga1
  obtain ⟨w0, w1, w2, rfl⟩ : ∃ w0 w1 w2 : Value, args = #[w0, w1, w2] := by
    have hs : args.size = 3 := by simpa [Cond.value, given_1] using gc
    obtain ⟨L⟩ := args
    match L, hs with
    | [w0, w1, w2], _ => exact ⟨w0, w1, w2, rfl⟩
  have hw := fun d (hd : d ∈ tables_1) => atoms_spec (ws := Jvm.Cond.code x code maxLocals ret :: tables_1) hat d (List.mem_cons_of_mem _ hd)
  obtain ⟨i0, ei0⟩ := isL_v gv0
  obtain rfl : w0 = (.long i0) := Option.some.inj ei0
  obtain ⟨i1, ei1⟩ := isL_v gv1
  obtain rfl : w1 = (.long i1) := Option.some.inj ei1
  obtain ⟨i2, ei2⟩ := is_v ga2
  obtain rfl : w2 = (.int i2) := Option.some.inj ei2
  obtain ⟨n, o, h1, h2, h3, _, L, rfl, ⟨rfl, N⟩, hq⟩ := own_rm0 l s _ hw tables_1 i0 i1 i2 s.heap s.heap.size (Nat.le_refl _) p e ha hc hk s m _ below hf ((Spec.applies_iff_loose hf).mp happ).1 ⟨rfl, State.Warmed39.refl s, rfl⟩ trivial
  refine ⟨n, _, h1, h2, h3, hpost _ _ _ _ _ _ ⟨Cond.after_iff.mpr rfl, Cond.after_iff.mpr (eq_i res_at (Term.int_eval (1)) rfl), trivial⟩ ⟨hq.1, hq.2.1, (hq.2.2.sift fun y hy => Or.inr (N y hy)).mono (by decide) (by decide)⟩⟩
theorem main_1_1 : Claimed_1_1 := own_comes fun _ _ _ _ _ _ h hF => ⟨h.1, hF⟩
theorem main_1_2 : Claimed_1_2 := own_comes fun _ _ _ _ _ _ h hF => ⟨h.2.1, hF⟩
end Jvm.Pilot.@@N@@
namespace Jvm.Pilot.@@N@@
open Jvm Jvm.ClassFile Sem Op Lib Jvm.Free Jvm.Stand Jvm.Pilot.@@N@@.Jvm.D
/-! MADE BY PROGRAM (witnessworld.py) out of the Statement's table words and the real class files: 10 classes; the members and pool entries that the words name. The judged class is class 1, her method 2. -/
namespace start1
open Jvm.ClassFile
def u (s : String) : CpInfo := .utf8 (stringToUtf16 s)
/-- a pool by its gaps: so many unusable entries, then the entry; so many at the end -/
def gap : Nat → List CpInfo → List CpInfo
  | 0, r => r
  | n + 1, r => .unusable :: gap n r
def poolList (es : List (Nat × CpInfo)) (last : Nat) : List CpInfo := es.foldr (fun e r => gap e.1 (e.2 :: r)) (gap last [])
def pool (es : List (Nat × CpInfo)) (last : Nat) : Array CpInfo := ⟨poolList es last⟩
def fileOf (pool : Array CpInfo) (this : Nat) (attrs : Array Attribute := #[]) (ms : Array MethodInfo := #[]) (fl : Nat := 33) (sup : Nat := 0) (ifs : Array Nat := #[]) (fds : Array FieldInfo := #[]) : ClassFile where
  minorVersion := 0
  majorVersion := 65
  constantPool := pool
  accessFlags := fl
  thisClass := this
  superClass := sup
  interfaces := ifs
  fields := fds
  methods := ms
  attributes := attrs
def plain (name : String) (sup : Option ClassId) : Class where
  name := name
  kind := .ordinary
  loader := none
  accessFlags := 33
  super := sup
  interfaces := #[]
  cf := none
  fields := #[]
  methods := #[]
  instanceTypes := #[]
  staticTypes := #[]
  resolved := #[]
  callSites := []
  init := .initialized
  statics := none
  mirror := none

def pool0 : Array CpInfo := pool [(5, u "<init>"), (0, u "()V"), (1, .class_ 10), (1, u "java/lang/Object")] 113

def k0m0 : Method := { name := "<init>", desc := "()V", sig := { parameters := [], returnType := none }, accessFlags := 1, code := none }
/-- java/lang/Object -/
def k0 : Class := { plain "java/lang/Object" none with
  accessFlags := 33
  interfaces := #[]
  cf := some (fileOf pool0 8 #[] #[{ accessFlags := 1, nameIndex := 5, descriptorIndex := 6, attributes := #[] }] 33 0 #[] #[])
  fields := #[]
  methods := #[k0m0]
  instanceTypes := #[]
  staticTypes := #[]
  resolved := Array.replicate 124 none
  statics := none }

def pool1 : Array CpInfo := pool [(2, .class_ 4), (1, u "java/lang/Object"), (0, u "<init>"), (0, u "()V"), (2, .long 9223372036854775808), (1, .long 9223372036854775807), (1, .methodref 14 15), (0, .class_ 16), (0, .nameAndType 17 18), (0, u "com/example/firmwatt/firmwatt/Fraction"), (0, u "add"), (0, u "(JJ)J"), (0, .methodref 20 21), (0, .class_ 22), (0, .nameAndType 23 18), (0, u "com/example/firmwatt/firmwatt/FractionAddPinLaw"), (0, u "expected"), (3, u "law"), (0, u "(JJI)Z")] 2

def k1m0 : Method := { name := "<init>", desc := "()V", sig := { parameters := [], returnType := none }, accessFlags := 2, code := none }
def k1c1 : Code := { maxStack := 6, maxLocals := 4, code := method_2_code, exceptionTable := #[], attributes := #[] }
def k1m1 : Method := { name := "expected", desc := "(JJ)J", sig := { parameters := [.long, .long], returnType := some .long }, accessFlags := 10, code := some k1c1 }
def k1c2 : Code := { maxStack := 6, maxLocals := 18, code := code, exceptionTable := #[], attributes := #[] }
def k1m2 : Method := { name := "law", desc := "(JJI)Z", sig := { parameters := [.long, .long, .int], returnType := some .boolean }, accessFlags := 9, code := some k1c2 }
/-- com/example/firmwatt/firmwatt/FractionAddPinLaw -/
def k1 : Class := { plain "com/example/firmwatt/firmwatt/FractionAddPinLaw" (some 0) with
  accessFlags := 49
  interfaces := #[]
  cf := some (fileOf pool1 20 #[] #[{ accessFlags := 2, nameIndex := 5, descriptorIndex := 6, attributes := #[] }, { accessFlags := 10, nameIndex := 23, descriptorIndex := 18, attributes := #[] }, { accessFlags := 9, nameIndex := 27, descriptorIndex := 28, attributes := #[] }] 49 2 #[] #[])
  fields := #[]
  methods := #[k1m0, k1m1, k1m2]
  instanceTypes := #[]
  staticTypes := #[]
  resolved := Array.replicate 31 none
  statics := none }

def pool2 : Array CpInfo := pool [(1, .class_ 2), (0, u "java/lang/Comparable"), (0, .class_ 4), (0, u "java/lang/Object")] 7

/-- java/lang/Comparable -/
def k2 : Class := { plain "java/lang/Comparable" (some 0) with
  accessFlags := 1537
  interfaces := #[]
  cf := some (fileOf pool2 1 #[] #[] 1537 3 #[] #[])
  fields := #[]
  methods := #[]
  instanceTypes := #[]
  staticTypes := #[]
  resolved := Array.replicate 12 none
  statics := none }

def pool3 : Array CpInfo := pool [(4, .class_ 6), (1, u "java/lang/Object"), (3, .class_ 12), (1, u "com/example/firmwatt/firmwatt/Fraction"), (0, u "numerator"), (0, u "J"), (2, u "denominator"), (2, u "bigNumerator"), (0, u "Ljava/math/BigInteger;"), (2, u "bigDenominator"), (0, .long 9223372036854775808), (9, u "ONE"), (21, u "POWERS_OF_TEN"), (0, u "[J"), (26, u "(JJ)J"), (2, u "add"), (171, u "Lcom/example/firmwatt/firmwatt/Fraction;"), (33, u "ZERO"), (42, u "LN_2"), (0, u "D"), (48, .class_ 388), (0, u "java/lang/Comparable"), (0, u "DIVISION_BY_ZERO"), (0, u "Ljava/lang/String;"), (1, u "OVERFLOW"), (0, u "LONG_DIGITS"), (0, u "I"), (1, u "SHORT_GCD_BITS"), (1, u "EUCLID_STEPS"), (1, u "LOG_BITS"), (21, .class_ 423), (0, u "com/example/firmwatt/firmwatt/Fraction$Sum")] 20

def k3c0 : Code := { maxStack := 6, maxLocals := 7, code := prog_50_method_51_code, exceptionTable := #[], attributes := #[] }
def k3m0 : Method := { name := "add", desc := "(JJ)J", sig := { parameters := [.long, .long], returnType := some .long }, accessFlags := 8, code := some k3c0 }
/-- com/example/firmwatt/firmwatt/Fraction -/
def k3 : Class := { plain "com/example/firmwatt/firmwatt/Fraction" (some 0) with
  accessFlags := 49
  interfaces := #[2]
  cf := some (fileOf pool3 10 #[.nestMembers #[422]] #[{ accessFlags := 8, nameIndex := 88, descriptorIndex := 85, attributes := #[] }] 49 4 #[387] #[{ accessFlags := 25, nameIndex := 294, descriptorIndex := 260, attributes := #[] }, { accessFlags := 25, nameIndex := 35, descriptorIndex := 260, attributes := #[] }, { accessFlags := 26, nameIndex := 389, descriptorIndex := 390, attributes := #[] }, { accessFlags := 24, nameIndex := 392, descriptorIndex := 14, attributes := #[] }, { accessFlags := 26, nameIndex := 57, descriptorIndex := 58, attributes := #[] }, { accessFlags := 26, nameIndex := 393, descriptorIndex := 394, attributes := #[] }, { accessFlags := 26, nameIndex := 396, descriptorIndex := 394, attributes := #[] }, { accessFlags := 26, nameIndex := 398, descriptorIndex := 394, attributes := #[] }, { accessFlags := 26, nameIndex := 400, descriptorIndex := 394, attributes := #[] }, { accessFlags := 26, nameIndex := 337, descriptorIndex := 338, attributes := #[] }, { accessFlags := 18, nameIndex := 13, descriptorIndex := 14, attributes := #[] }, { accessFlags := 18, nameIndex := 17, descriptorIndex := 14, attributes := #[] }, { accessFlags := 18, nameIndex := 20, descriptorIndex := 21, attributes := #[] }, { accessFlags := 18, nameIndex := 24, descriptorIndex := 21, attributes := #[] }])
  fields := #[{ name := "ZERO", type := (.object "com/example/firmwatt/firmwatt/Fraction"), accessFlags := 25, slot := 0, constantValue := 0 }, { name := "ONE", type := (.object "com/example/firmwatt/firmwatt/Fraction"), accessFlags := 25, slot := 1, constantValue := 0 }, { name := "DIVISION_BY_ZERO", type := (.object "java/lang/String"), accessFlags := 26, slot := 2, constantValue := 0 }, { name := "OVERFLOW", type := .long, accessFlags := 24, slot := 3, constantValue := 0 }, { name := "POWERS_OF_TEN", type := (.array .long), accessFlags := 26, slot := 4, constantValue := 0 }, { name := "LONG_DIGITS", type := .int, accessFlags := 26, slot := 5, constantValue := 0 }, { name := "SHORT_GCD_BITS", type := .int, accessFlags := 26, slot := 6, constantValue := 0 }, { name := "EUCLID_STEPS", type := .int, accessFlags := 26, slot := 7, constantValue := 0 }, { name := "LOG_BITS", type := .int, accessFlags := 26, slot := 8, constantValue := 0 }, { name := "LN_2", type := .double, accessFlags := 26, slot := 9, constantValue := 0 }, { name := "numerator", type := .long, accessFlags := 18, slot := 0, constantValue := 0 }, { name := "denominator", type := .long, accessFlags := 18, slot := 1, constantValue := 0 }, { name := "bigNumerator", type := (.object "java/math/BigInteger"), accessFlags := 18, slot := 2, constantValue := 0 }, { name := "bigDenominator", type := (.object "java/math/BigInteger"), accessFlags := 18, slot := 3, constantValue := 0 }]
  methods := #[k3m0]
  instanceTypes := #[.long, .long, (.object "java/math/BigInteger"), (.object "java/math/BigInteger")]
  staticTypes := #[(.object "com/example/firmwatt/firmwatt/Fraction"), (.object "com/example/firmwatt/firmwatt/Fraction"), (.object "java/lang/String"), .long, (.array .long), .int, .int, .int, .int, .double]
  resolved := Array.replicate 444 none
  statics := none }

def pool4 : Array CpInfo := pool [(1, u "java/lang/Cloneable"), (0, .class_ 1), (0, u "java/lang/Object"), (0, .class_ 3)] 3

/-- java/lang/Cloneable -/
def k4 : Class := { plain "java/lang/Cloneable" (some 0) with
  accessFlags := 1537
  interfaces := #[]
  cf := some (fileOf pool4 2 #[] #[] 1537 4 #[] #[])
  fields := #[]
  methods := #[]
  instanceTypes := #[]
  staticTypes := #[]
  resolved := Array.replicate 8 none
  statics := none }

def pool5 : Array CpInfo := pool [(1, u "java/io/Serializable"), (0, .class_ 1), (0, u "java/lang/Object"), (0, .class_ 3)] 3

/-- java/io/Serializable -/
def k5 : Class := { plain "java/io/Serializable" (some 0) with
  accessFlags := 1537
  interfaces := #[]
  cf := some (fileOf pool5 2 #[] #[] 1537 4 #[] #[])
  fields := #[]
  methods := #[]
  instanceTypes := #[]
  staticTypes := #[]
  resolved := Array.replicate 8 none
  statics := none }

/-- the primitive byte -/
def k6 : Class := { plain "byte" none with kind := .primitive 'B', accessFlags := 0x411 }
/-- [B -/
def k7 : Class := { plain "[B" (some 0) with kind := .array 6 .byte, interfaces := #[4, 5], accessFlags := 1041 }

/-- the primitive int -/
def k8 : Class := { plain "int" none with kind := .primitive 'I', accessFlags := 0x411 }
/-- [I -/
def k9 : Class := { plain "[I" (some 0) with kind := .array 8 .int, interfaces := #[4, 5], accessFlags := 1041 }

def heap : Heap := #[]
def classes : Array Class := #[k0, k1, k2, k3, k4, k5, k6, k7, k8, k9]
def interned : List (Array UInt16 × Addr) := []
def slotsUsed : Nat := 0
def theMethod : MethodId := ⟨1, 2⟩
def args0 : Array Value := #[.long 5, .long 6, .int 0]
def aboutOver (below : List Frame) : State where
  vm := { classes := classes, interned := interned.toArray }
  heap := heap
  slotsUsed := slotsUsed
  threads := #[{ frames := .invoking theMethod args0 :: below }]
def below0 : List Frame := [.native { method := ⟨0, 0⟩, args := #[] }]
def about1 : State := aboutOver below0
def p0 : Program := .bare "" "" ""
def e0 : Env := launch0.env 0 0 0
theorem w_frames : about1.frames = Frame.invoking theMethod args0 :: below0 := rfl
set_option maxRecDepth 65536 in
theorem w_args : argsFit about1.vm theMethod args0 = true := by decide +kernel
set_option maxRecDepth 65536 in
theorem w_heap : heapFits about1 = true := by decide +kernel
set_option maxRecDepth 65536 in
theorem w_runnable : about1.curStatus? = some .runnable := by decide +kernel
set_option maxRecDepth 65536 in
theorem w_alone : about1.alone = true := by decide +kernel
set_option maxRecDepth 65536 in
theorem w_named : about1.methodNamed? x = some theMethod := by decide +kernel
set_option maxRecDepth 65536 in
theorem w_hears : about1.hears theMethod below0 = true := by decide +kernel
set_option maxRecDepth 65536 in
theorem w_ripe : about1.ripe theMethod args0 below0 = true := by decide +kernel
theorem w_running : about1.status = .running := rfl
set_option maxRecDepth 65536 in
theorem w_room : about1.hasRoom e0.platform room_1 = true :=
  launch0.hasRoom_least _ room_1 (by decide +kernel) (by decide +kernel) (by decide +kernel) (by decide +kernel) (by decide +kernel) (by decide +kernel)
theorem allAtoms_all (ts : List Jvm.Cond) (a : Array Jvm.Value) (st : Jvm.State) : (allAtoms ts).before a st = ts.all (fun c => c.before a st) := by
  induction ts with
  | nil => rfl
  | cons c t ih =>
    show (Jvm.Cond.and c (allAtoms t)).before a st = _
    rw [Jvm.Cond.before_and, ih, List.all_cons]
def words1 : List Jvm.Cond := Jvm.Cond.code x code maxLocals ret :: tables_1
/-- a 'code' word, met by the world's own term for the bytes: nothing is compared byte by byte -/
theorem code_word {y : MethodName} {bytes : ByteArray} {mx : Nat} {rt : Option FieldType} {a : Array Value} {s : State} {m : MethodId} {meth : Method} {c : Code} (h1 : s.methodNamed? y = some m) (h2 : s.vm.method? m = some meth) (h3 : meth.code = some c) (h4 : c.code = bytes)
    (h5 : (c.maxLocals == mx && c.exceptionTable.isEmpty && decide (c.maxStack ≤ mostOperands) && decide (meth.sig.returnType = rt) && !meth.locks && decide (parseMethodDescriptor y.desc = some meth.sig)) = true) : (Jvm.Cond.code y bytes mx rt).before a s = true := by
  simp only [Bool.and_eq_true, beq_iff_eq, Bool.not_eq_true', decide_eq_true_eq] at h5
  obtain ⟨⟨⟨⟨⟨g1, g2⟩, g3⟩, g4⟩, g5⟩, g6⟩ := h5
  simp [Cond.before, Cond.holds, Cond.value, h1, h2, h3, h4, g1, g2, g3, g4, g5, g6]
def isCode : Jvm.Cond → Bool
  | .code _ _ _ _ => true
  | _ => false
theorem all_split {L : List Jvm.Cond} {P : Jvm.Cond → Bool} (h1 : L.all (fun c => isCode c || P c) = true) (h2 : ∀ c ∈ L.filter isCode, P c = true) : L.all P = true := by
  refine List.all_eq_true.mpr fun c hc => ?_
  have h := List.all_eq_true.mp h1 c hc
  rcases Bool.eq_false_or_eq_true (isCode c) with hi | hi
  · exact h2 c (List.mem_filter.mpr ⟨hc, hi⟩)
  · simpa [hi] using h
set_option maxRecDepth 65536 in
theorem w_c0 : (Jvm.Cond.code x code maxLocals ret).before args0 about1 = true := code_word (m := ⟨1, 2⟩) (meth := k1m2) (c := k1c2) (by decide +kernel) rfl rfl rfl (by decide +kernel)
set_option maxRecDepth 65536 in
theorem w_c1 : (Jvm.Cond.code ({ cls := "com/example/firmwatt/firmwatt/Fraction", name := "add", desc := "(JJ)J" } : Jvm.MethodName) prog_50_method_51_code (7 : Nat) (Option.some Jvm.ClassFile.FieldType.long)).before args0 about1 = true := code_word (m := ⟨3, 0⟩) (meth := k3m0) (c := k3c0) (by decide +kernel) rfl rfl rfl (by decide +kernel)
set_option maxRecDepth 65536 in
theorem w_c2 : (Jvm.Cond.code ({ cls := "com/example/firmwatt/firmwatt/FractionAddPinLaw", name := "expected", desc := "(JJ)J" } : Jvm.MethodName) method_2_code (4 : Nat) (Option.some Jvm.ClassFile.FieldType.long)).before args0 about1 = true := code_word (m := ⟨1, 1⟩) (meth := k1m1) (c := k1c1) (by decide +kernel) rfl rfl rfl (by decide +kernel)
def codes1 : List Jvm.Cond := [Jvm.Cond.code x code maxLocals ret, Jvm.Cond.code ({ cls := "com/example/firmwatt/firmwatt/Fraction", name := "add", desc := "(JJ)J" } : Jvm.MethodName) prog_50_method_51_code (7 : Nat) (Option.some Jvm.ClassFile.FieldType.long), Jvm.Cond.code ({ cls := "com/example/firmwatt/firmwatt/FractionAddPinLaw", name := "expected", desc := "(JJ)J" } : Jvm.MethodName) method_2_code (4 : Nat) (Option.some Jvm.ClassFile.FieldType.long)]
set_option maxRecDepth 65536 in
theorem codes_eq : words1.filter isCode = codes1 := rfl
theorem w_codes : ∀ c ∈ words1.filter isCode, c.before args0 about1 = true := by
  rw [codes_eq]
  intro c hc
  simp only [codes1, List.mem_cons, List.not_mem_nil, or_false] at hc
  rcases hc with rfl | rfl | rfl
  · exact w_c0
  · exact w_c1
  · exact w_c2
set_option maxRecDepth 65536 in
theorem w_t1 : words1.all (fun c => isCode c || c.before args0 about1) = true := by decide +kernel
theorem w_tables : (allAtoms (Jvm.Cond.code x code maxLocals ret :: tables_1)).before args0 about1 = true := by
  rw [allAtoms_all]
  show words1.all (fun c => c.before args0 about1) = true
  refine all_split ?_ w_codes
  rw [w_t1]
set_option maxRecDepth 65536 in
theorem w_case : (Jvm.Cond.and given_1 narrow_1).before args0 about1 = true := by decide +kernel
theorem w_applies : (headSpec (Jvm.Cond.code x code maxLocals ret :: tables_1) room_1).applies x e0.platform about1 = true :=
  (Spec.applies_iff w_frames).mpr ⟨w_running, w_runnable, w_alone, w_named, w_hears, w_ripe, w_room, w_tables⟩
theorem atStart : AtStart classFile x code maxLocals ret World_1 tables_1 room_1 Calls_1 rest_1 Pre_1 launch0 p0 e0 about1 theMethod args0 below0 :=
  ⟨lists_1, trivial, launch0.admits_env _ _ _, launch0.least_env, fairChoices_fair.cas, fairChoices_fair.clock, w_frames, w_args, w_heap, w_applies, trivial, trivial, w_case⟩
end start1
theorem witness_1 : WitnessClaimed_1 := ⟨start1.p0, start1.e0, start1.about1, start1.theMethod, start1.args0, start1.below0, start1.atStart⟩
end Jvm.Pilot.@@N@@
