import JvmDerived
import JvmDerived.Pilot.@@N@@Statement
import JvmDerived.Pilot.@@N@@Code
set_option linter.unusedVariables false
set_option linter.unusedSimpArgs false
namespace Jvm.RoadKit
open Sem ClassFile Op Lib Jvm.Stand Jvm.Free Jvm.LawKit
section New
variable {p : Program} {l : Launch} {e : Env} {R : Room} {s : State} {m : MethodId} {args : Array Value} {below : List Frame} {meth : Method} {c : Code} {T : State} {locs : List Loc} {cells slots : Nat}
theorem retI (X : Stand p l e R s m args below meth c T locs cells slots) (hx : p.tables.exec = Jvm.exec) {pc : Nat} {Ls : Array Slot} {z : Int32} {rest : List Value} (hret : meth.sig.returnType = some .int) (hd : decode c.code pc = .ok (.ireturn, 1)) {fs : List Frame}
    (hl : ∀ (f : JFrame) (acts : List Action), f.method = m → f.locked = none → f.entered = [] → (doReturn e (T.setTop f) acts (some (.int z))).1 = T.setFrames fs) : Steps p.tables e below (T.setTop (mkF m pc Ls (.int z :: rest))) (T.setFrames fs) := by
  have hm' : T.vm.method? m = some meth := X.method'
  have hn : narrow .int (.int z) = .int z := rfl
  show Steps p.tables e below (T.setTop { method := m, pc := pc, locals := Ls, stack := _ :: rest, locked := none }) _
  jvm_step X.here [X.here.top, hx, hd, hm', hret, hn]
  first | (intro acts; rw [hl _ acts rfl rfl rfl]) | rw [hl _ _ rfl rfl rfl]
  exact Steps.refl _
end New
end Jvm.RoadKit
namespace Jvm.Pilot.@@N@@
open Jvm Jvm.ClassFile Sem Op Lib Jvm.Free Jvm.Stand Jvm.LawKit Jvm.RoadKit Bundle Jvm.Pilot.@@N@@.Jvm.D
section OwnKit
variable {p : Program} {l : Launch} {e : Env} {R : Room} {s : State} {m : MethodId} {args : Array Value} {below : List Frame} {meth : Method} {c : Code} {T : State} {locs : List Loc} {cells slots : Nat} {Z : State} {h h' : Heap} {a b : Addr} {ty : FieldType} {n : Nat} {f : Nat → Value}
/-- an array by its length and the value at each place -/
def own_AF (Z : State) (h : Heap) (a : Addr) (ty : FieldType) (n : Nat) (f : Nat → Value) : Prop := ∃ c : Cell, Arr Z h a c ty ∧ c.slots.size = n ∧ n < 2 ^ 31 ∧ ∀ i, i < n → c.slots[i]? = some (f i)
theorem own_AF.lt (F : own_AF Z h a ty n f) : a < h.size := by obtain ⟨c, A, -⟩ := F; exact A.lt
theorem own_AF.ext (F : own_AF Z h a ty n f) (E : Ext h h') : own_AF Z h' a ty n f := by obtain ⟨c, A, r⟩ := F; exact ⟨c, A.ext E, r⟩
theorem own_AF.other {sl : Nat} {v : Value} (F : own_AF Z h b ty n f) (W : Wr h h' a sl v) (q : b ≠ a) : own_AF Z h' b ty n f := by obtain ⟨c, A, r⟩ := F; exact ⟨c, A.other W q, r⟩
theorem own_AF.keep {ws : List Addr} (F : own_AF Z h a ty n f) (K : Keep h h' ws) (q : a ∉ ws) : own_AF Z h' a ty n f := by obtain ⟨c, A, r⟩ := F; exact ⟨c, ⟨K.2.1 a c A.1 q, A.2⟩, r⟩
theorem own_AF.congr {g : Nat → Value} (F : own_AF Z h a ty n f) (q : ∀ i, i < n → f i = g i) : own_AF Z h a ty n g := by
  obtain ⟨c, A, r1, r2, r3⟩ := F; exact ⟨c, A, r1, r2, fun i hi => by rw [r3 i hi, q i hi]⟩
theorem own_AF.set {j : Nat} {v : Value} (F : own_AF Z h a ty n f) (W : Wr h h' a j v) : own_AF Z h' a ty n (fun i => if i = j then v else f i) := by
  obtain ⟨c, A, r1, r2, r3⟩ := F
  obtain ⟨cb', q1, q2, q3, q4, -, q6, q7⟩ := wr_at W A.1
  obtain ⟨e1, e2, -⟩ := q7 rfl
  refine ⟨_, A.same W, ?_, r2, fun i hi => ?_⟩
  · rw [sz_set]; exact r1
  · rw [← e1]
    by_cases hij : i = j
    · subst hij; simp only [if_true]; exact e2
    · rw [q6 i hij, r3 i hi]; simp only [hij, if_false]
theorem own_AF.new {k : ClassId} {z : Int32} {d : Value} (A : Arr Z h a (newA k ty z) ty) (q : ¬ z < 0) (hn : z.toNatClampNeg = n) (hd : defaultValue ty = d := by rfl) : own_AF Z h a ty n (fun _ => d) := by
  subst hn
  refine ⟨_, A, sz_new _ _ _, (back32 q).2, fun i hi => ?_⟩
  simp [newA, hi, hd]
theorem own_AF.inb {c : Cell} {j : Int32} {k : Nat} (S : c.slots.size = n) (h1 : ¬ j < 0) (hk : j.toNatClampNeg = k) (h2 : k < n) : ¬ (j < 0 ∨ c.slots.size ≤ j.toNatClampNeg) := by
  rw [S, hk]; exact fun q => q.elim h1 fun q => by omega
theorem own_ldI (X : Stand p l e R s m args below meth c T locs cells slots) (hx : p.tables.exec = Jvm.exec) (hZ : Z.Warmed39 s.vm) (eT : T.heap = h) (A : own_AF Z h a .int n f) {j : Int32} (h1 : ¬ j < 0) {k : Nat} (hk : j.toNatClampNeg = k) (h2 : k < n) {v : Value} (hv : f k = v)
    {g : JFrame} (hg : g.method = m) {rest : List Value} (hs : g.stack = .int j :: .ref a :: rest) (hd : decode c.code g.pc = .ok (.iaload, 1)) (target : State)
    (hr : Steps p.tables e below (T.setTop { g with pc := g.pc + 1, stack := v :: rest }) target) : Steps p.tables e below (T.setTop g) target := by
  obtain ⟨cl, A, r1, r2, r3⟩ := A
  exact X.iaload hx (by rw [eT]; exact A.1) (State.isArrayOf_alike hZ.alike A.2.1) A.2.2 (own_AF.inb r1 h1 hk h2) (by rw [hk, ← hv]; exact r3 k h2) hg hs hd _ hr
theorem own_ldJ (X : Stand p l e R s m args below meth c T locs cells slots) (hx : p.tables.exec = Jvm.exec) (hZ : Z.Warmed39 s.vm) (eT : T.heap = h) (A : own_AF Z h a .long n f) {j : Int32} (h1 : ¬ j < 0) {k : Nat} (hk : j.toNatClampNeg = k) (h2 : k < n) {v : Value} (hv : f k = v)
    {g : JFrame} (hg : g.method = m) {rest : List Value} (hs : g.stack = .int j :: .ref a :: rest) (hd : decode c.code g.pc = .ok (.laload, 1)) (target : State)
    (hr : Steps p.tables e below (T.setTop { g with pc := g.pc + 1, stack := v :: rest }) target) : Steps p.tables e below (T.setTop g) target := by
  obtain ⟨cl, A, r1, r2, r3⟩ := A
  exact X.laload hx (by rw [eT]; exact A.1) (State.isArrayOf_alike hZ.alike A.2.1) A.2.2 (own_AF.inb r1 h1 hk h2) (by rw [hk, ← hv]; exact r3 k h2) hg hs hd _ hr
theorem own_ldB (X : Stand p l e R s m args below meth c T locs cells slots) (hx : p.tables.exec = Jvm.exec) (hZ : Z.Warmed39 s.vm) (eT : T.heap = h) (A : own_AF Z h a .byte n f) {j : Int32} (h1 : ¬ j < 0) {k : Nat} (hk : j.toNatClampNeg = k) (h2 : k < n) {v : Value} (hv : f k = v)
    {g : JFrame} (hg : g.method = m) {rest : List Value} (hs : g.stack = .int j :: .ref a :: rest) (hd : decode c.code g.pc = .ok (.baload, 1)) (target : State)
    (hr : Steps p.tables e below (T.setTop { g with pc := g.pc + 1, stack := v :: rest }) target) : Steps p.tables e below (T.setTop g) target := by
  obtain ⟨cl, A, r1, r2, r3⟩ := A
  exact X.baloadBytes hx (by rw [eT]; exact A.1) (State.isArrayOf_alike hZ.alike A.2.1) A.2.2 (own_AF.inb r1 h1 hk h2) (by rw [hk, ← hv]; exact r3 k h2) hg hs hd _ hr
theorem own_ldZ (X : Stand p l e R s m args below meth c T locs cells slots) (hx : p.tables.exec = Jvm.exec) (hZ : Z.Warmed39 s.vm) (eT : T.heap = h) (A : own_AF Z h a .boolean n f) {j : Int32} (h1 : ¬ j < 0) {k : Nat} (hk : j.toNatClampNeg = k) (h2 : k < n) {v : Value} (hv : f k = v)
    {g : JFrame} (hg : g.method = m) {rest : List Value} (hs : g.stack = .int j :: .ref a :: rest) (hd : decode c.code g.pc = .ok (.baload, 1)) (target : State)
    (hr : Steps p.tables e below (T.setTop { g with pc := g.pc + 1, stack := v :: rest }) target) : Steps p.tables e below (T.setTop g) target := by
  obtain ⟨cl, A, r1, r2, r3⟩ := A
  exact X.baloadBooleans hx (by rw [eT]; exact A.1) (State.isArrayOf_alike hZ.alike A.2.1) A.2.2 (own_AF.inb r1 h1 hk h2) (by rw [hk, ← hv]; exact r3 k h2) hg hs hd _ hr
theorem own_len (X : Stand p l e R s m args below meth c T locs cells slots) (hx : p.tables.exec = Jvm.exec) (hZ : Z.Warmed39 s.vm) (eT : T.heap = h) (A : own_AF Z h a ty n f) {z : Int32} (hz : n.toInt32 = z)
    {g : JFrame} (hg : g.method = m) {rest : List Value} (hs : g.stack = .ref a :: rest) (hd : decode c.code g.pc = .ok (.arraylength, 1)) (target : State)
    (hr : Steps p.tables e below (T.setTop { g with pc := g.pc + 1, stack := .int z :: rest }) target) : Steps p.tables e below (T.setTop g) target := by
  obtain ⟨cl, A, r1, r2, r3⟩ := A
  exact X.arraylength hx (by rw [eT]; exact A.1) (State.isArrayOf_alike hZ.alike A.2.1) hg hs hd _ (by rw [r1, hz]; exact hr)
theorem own_stI (X : Stand p l e R s m args below meth c T locs cells slots) (hx : p.tables.exec = Jvm.exec) (hZ : Z.Warmed39 s.vm) (eT : T.heap = h) (A : own_AF Z h a .int n f) {j x : Int32} (h1 : ¬ j < 0) {k : Nat} (hk : j.toNatClampNeg = k) (h2 : k < n)
    {g : JFrame} (hg : g.method = m) {rest : List Value} (hs : g.stack = .int x :: .int j :: .ref a :: rest) (hd : decode c.code g.pc = .ok (.iastore, 1)) :
    ∃ T' h', Stand p l e R s m args below meth c T' (locs ++ [⟨a, k⟩]) cells slots ∧ T'.heap = h' ∧ Wr h h' a k (.int x) ∧ own_AF Z h' a .int n (fun i => if i = k then .int x else f i) ∧ ∀ target, Steps p.tables e below (T'.setTop { g with pc := g.pc + 1, stack := rest }) target → Steps p.tables e below (T.setTop g) target := by
  obtain ⟨cl, A', r1, r2, r3⟩ := id A
  obtain ⟨T', h', X', e', W', st⟩ := stI X hx hZ eT A' (own_AF.inb r1 h1 hk h2) hg hs hd
  subst hk
  exact ⟨T', h', X', e', W', A.set W', st⟩
theorem own_stJ (X : Stand p l e R s m args below meth c T locs cells slots) (hx : p.tables.exec = Jvm.exec) (hZ : Z.Warmed39 s.vm) (eT : T.heap = h) (A : own_AF Z h a .long n f) {j : Int32} {x : Int64} (h1 : ¬ j < 0) {k : Nat} (hk : j.toNatClampNeg = k) (h2 : k < n)
    {g : JFrame} (hg : g.method = m) {rest : List Value} (hs : g.stack = .long x :: .int j :: .ref a :: rest) (hd : decode c.code g.pc = .ok (.lastore, 1)) :
    ∃ T' h', Stand p l e R s m args below meth c T' (locs ++ [⟨a, k⟩]) cells slots ∧ T'.heap = h' ∧ Wr h h' a k (.long x) ∧ own_AF Z h' a .long n (fun i => if i = k then .long x else f i) ∧ ∀ target, Steps p.tables e below (T'.setTop { g with pc := g.pc + 1, stack := rest }) target → Steps p.tables e below (T.setTop g) target := by
  obtain ⟨cl, A', r1, r2, r3⟩ := id A
  obtain ⟨T', h', X', e', W', st⟩ := stJ X hx hZ eT A' (own_AF.inb r1 h1 hk h2) hg hs hd
  subst hk
  exact ⟨T', h', X', e', W', A.set W', st⟩
theorem own_stB (X : Stand p l e R s m args below meth c T locs cells slots) (hx : p.tables.exec = Jvm.exec) (hZ : Z.Warmed39 s.vm) (eT : T.heap = h) (A : own_AF Z h a .byte n f) {j x : Int32} (h1 : ¬ j < 0) {k : Nat} (hk : j.toNatClampNeg = k) (h2 : k < n)
    {g : JFrame} (hg : g.method = m) {rest : List Value} (hs : g.stack = .int x :: .int j :: .ref a :: rest) (hd : decode c.code g.pc = .ok (.bastore, 1)) :
    ∃ T' h', Stand p l e R s m args below meth c T' (locs ++ [⟨a, k⟩]) cells slots ∧ T'.heap = h' ∧ Wr h h' a k (.int (nar .byte x)) ∧ own_AF Z h' a .byte n (fun i => if i = k then .int (nar .byte x) else f i) ∧ ∀ target, Steps p.tables e below (T'.setTop { g with pc := g.pc + 1, stack := rest }) target → Steps p.tables e below (T.setTop g) target := by
  obtain ⟨cl, A', r1, r2, r3⟩ := id A
  obtain ⟨T', h', X', e', W', st⟩ := stB X hx hZ eT A' (own_AF.inb r1 h1 hk h2) hg hs hd
  subst hk
  exact ⟨T', h', X', e', W', A.set W', st⟩
theorem own_stZ (X : Stand p l e R s m args below meth c T locs cells slots) (hx : p.tables.exec = Jvm.exec) (hZ : Z.Warmed39 s.vm) (eT : T.heap = h) (A : own_AF Z h a .boolean n f) {j x : Int32} (h1 : ¬ j < 0) {k : Nat} (hk : j.toNatClampNeg = k) (h2 : k < n)
    {g : JFrame} (hg : g.method = m) {rest : List Value} (hs : g.stack = .int x :: .int j :: .ref a :: rest) (hd : decode c.code g.pc = .ok (.bastore, 1)) :
    ∃ T' h', Stand p l e R s m args below meth c T' (locs ++ [⟨a, k⟩]) cells slots ∧ T'.heap = h' ∧ Wr h h' a k (.int (nar .boolean x)) ∧ own_AF Z h' a .boolean n (fun i => if i = k then .int (nar .boolean x) else f i) ∧ ∀ target, Steps p.tables e below (T'.setTop { g with pc := g.pc + 1, stack := rest }) target → Steps p.tables e below (T.setTop g) target := by
  obtain ⟨cl, A', r1, r2, r3⟩ := id A
  obtain ⟨T', h', X', e', W', st⟩ := stZ X hx hZ eT A' (own_AF.inb r1 h1 hk h2) hg hs hd
  subst hk
  exact ⟨T', h', X', e', W', A.set W', st⟩
theorem own_lremM {g : JFrame} {target : State} (X : Stand p l e R s m args below meth c T locs cells slots) (hx : p.tables.exec = Jvm.exec) (hg : g.method = m) {x y : Int64} {rest : List Value} (hd : decode c.code g.pc = .ok (.lrem, 1)) (hs : g.stack = .long y :: .long x :: rest) (hy : y ≠ 0)
    (hr : Steps p.tables e below (T.setTop { g with pc := g.pc + 1, stack := .long (x % y) :: rest }) target) : Steps p.tables e below (T.setTop g) target :=
  XS.lrem X.here hx hg hd hs hy (by rw [lrem_mod x y]; exact hr)
theorem own_cloneI {a0 : Array Value} (X : Stand p l e R s m args below meth c T locs cells slots) (hx : p.tables.exec = Jvm.exec) (hZ : Z.Warmed39 s.vm) {own : String} {index : Nat} (hown : s.vm.findClass own = some m.cls)
    (w1 : (Cond.methodLink own index ⟨"[I", "clone", "()Ljava/lang/Object;"⟩).before a0 Z = true) (w2 : (Cond.sameMethod "[I" "java/lang/Object" "clone" "()Ljava/lang/Object;").before a0 Z = true) (w3 : (Cond.native ⟨"java/lang/Object", "clone", "()Ljava/lang/Object;"⟩).before a0 Z = true)
    (w4 : (Cond.instanceMethod ⟨"java/lang/Object", "clone", "()Ljava/lang/Object;"⟩).before a0 Z = true) (w5 : (Cond.selects "[I" ⟨"[I", "clone", "()Ljava/lang/Object;"⟩ ⟨"java/lang/Object", "clone", "()Ljava/lang/Object;"⟩).before a0 Z = true) (w6 : (Cond.castable "[I" "java/lang/Cloneable").before a0 Z = true)
    (eT : T.heap = h) (F : own_AF Z h a .int n f) (E : Exa Z h a "[I") (hfit : ∀ i, i < n → fits .int (f i) = true) {g : JFrame} (hg : g.method = m) (hsize : g.locals.size = c.maxLocals) {rest : List Value} (hs : g.stack = .ref a :: rest) (hd : decode c.code g.pc = .ok (.invokevirtual index, 3))
    (hf : 1 ≤ R.frames) {W cap : Nat} (hW : 2 * g.monitorRoom + (rest.map fun v => v.category).sum ≤ W) (hl : W + 14 ≤ R.locals) (hcap : n ≤ cap) (hc : cells + 1 ≤ R.cells) (hsl : slots + cap ≤ R.slots) :
    ∃ T' h', Stand p l e R s m args below meth c T' locs (cells + 1) (slots + cap) ∧ T'.heap = h' ∧ Ext h h' ∧ own_AF Z h' h.size .int n f ∧ Exa Z h' h.size "[I" ∧
      ∀ target, Steps p.tables e below (T'.setTop { g with pc := g.pc + 3, stack := .ref h.size :: rest }) target → Steps p.tables e below (T.setTop g) target := by
  obtain ⟨cl, A, r1, r2, r3⟩ := F
  have FC : FitC Z cl := fitC_of A fun i hi v hv => by rw [r3 i (by omega)] at hv; cases hv; exact hfit i (by omega)
  obtain ⟨T', h', X', e', ex, A', E', st⟩ := cloneA X hx hZ hown w1 w2 w3 w4 w5 w6 eT A E FC hg hsize hs hd hf hW hl (by rw [r1]; exact hcap) hc hsl
  exact ⟨T', h', X', e', ex, ⟨cloneOf cl, A', r1, r2, r3⟩, E', st⟩
end OwnKit
def own_one (m : Nat) (i : Nat) : Int32 := if i = 0 then Int32.ofNat m else 0
def own_P (Z : State) (a1 sa pa ba fa na ma ta : Addr) (q : List Nat × List Nat × Nat × Nat) (h : Heap) : Prop := Exa Z h a1 "com/example/wary_observer/waryobserver/equivalence/Partition" ∧ Fld Z h a1 "com/example/wary_observer/waryobserver/equivalence/Partition" "states" "[I" (.ref sa) ∧ Fld Z h a1 "com/example/wary_observer/waryobserver/equivalence/Partition" "positions" "[I" (.ref pa) ∧ Fld Z h a1 "com/example/wary_observer/waryobserver/equivalence/Partition" "blockOf" "[I" (.ref ba) ∧ Fld Z h a1 "com/example/wary_observer/waryobserver/equivalence/Partition" "firsts" "[I" (.ref fa) ∧ Fld Z h a1 "com/example/wary_observer/waryobserver/equivalence/Partition" "ends" "[I" (.ref na) ∧ Fld Z h a1 "com/example/wary_observer/waryobserver/equivalence/Partition" "marks" "[I" (.ref ma) ∧ Fld Z h a1 "com/example/wary_observer/waryobserver/equivalence/Partition" "touched" "[I" (.ref ta) ∧ Fld Z h a1 "com/example/wary_observer/waryobserver/equivalence/Partition" "touchedCount" "I" (.int (Int32.ofNat q.2.2.2)) ∧ ∃ tf : Nat → Value, own_AF Z h sa .int 4 (fun i => .int (Int32.ofNat (q.1.getD i 0))) ∧ own_AF Z h pa .int 4 (fun i => .int (Int32.ofNat (q.2.1.getD i 0))) ∧ own_AF Z h ba .int 4 (fun _ => .int (0 : Int32)) ∧ own_AF Z h fa .int 4 (fun _ => .int (0 : Int32)) ∧ own_AF Z h na .int 4 (fun i => .int (own_one 4 i)) ∧ own_AF Z h ma .int 4 (fun i => .int (own_one q.2.2.1 i)) ∧ own_AF Z h ta .int 4 tf
def own_ord (a1 sa pa ba fa na ma ta : Nat) : Prop := a1 < sa ∧ sa < pa ∧ pa < ba ∧ ba < fa ∧ fa < na ∧ na < ma ∧ ma < ta
def own_q0 : List Nat × List Nat × Nat × Nat := ([0, 1, 2, 3], [0, 1, 2, 3], 0, 0)
def own_mark (q : List Nat × List Nat × Nat × Nat) (x : Nat) : List Nat × List Nat × Nat × Nat :=
  if q.2.1.getD x 0 < q.2.2.1 then q else ((q.1.set q.2.2.1 x).set (q.2.1.getD x 0) (q.1.getD q.2.2.1 0), (q.2.1.set x q.2.2.1).set (q.1.getD q.2.2.1 0) (q.2.1.getD x 0), q.2.2.1 + 1, if q.2.2.1 = 0 then q.2.2.2 + 1 else q.2.2.2)
def own_ok (q : List Nat × List Nat × Nat × Nat) (x : Nat) : Prop := x < 4 ∧ q.2.1.getD x 0 < 4 ∧ q.2.2.1 ≤ 4 ∧ q.2.2.2 < 4 ∧ q.1.length = 4 ∧ q.2.1.length = 4 ∧ (¬ q.2.1.getD x 0 < q.2.2.1 → q.2.2.1 < 4 ∧ q.1.getD q.2.2.1 0 < 4)
def own_S (a b c d : Nat) : List Nat × List Nat × Nat × Nat := own_mark (own_mark (own_mark (own_mark own_q0 a) b) c) d
def own_push (e : List Nat × Nat) (x : Nat) : List Nat × Nat := (e.1.set e.2 x, e.2 + 1)
def own_enum (a b c d : Nat) : List Nat × Nat :=
  let e1 := ([a, 0, 0, 0], 1)
  let e2 := if b = a then e1 else own_push e1 b
  let e3 := if c = a then e2 else if c = b then e2 else own_push e2 c
  if d = a then e3 else if d = b then e3 else if d = c then e3 else own_push e3 d
def own_seen (l : List Nat) : Int32 := (((((1 : Int32) <<< ((Int32.ofNat (l.getD 0 0)) &&& 31)) ||| ((1 : Int32) <<< ((Int32.ofNat (l.getD 1 0)) &&& 31))) ||| ((1 : Int32) <<< ((Int32.ofNat (l.getD 2 0)) &&& 31))) ||| ((1 : Int32) <<< ((Int32.ofNat (l.getD 3 0)) &&& 31)))
def own_okD (q : List Nat × List Nat × Nat × Nat) (x : Nat) : Decidable (own_ok q x) := by unfold own_ok; infer_instance
def own_okB (q : List Nat × List Nat × Nat × Nat) (x : Nat) : Bool := @decide (own_ok q x) (own_okD q x)
theorem own_okI {q : List Nat × List Nat × Nat × Nat} {x : Nat} (h : own_okB q x = true) : own_ok q x := @of_decide_eq_true _ (own_okD q x) h
theorem own_oksB : ∀ a b c d : Fin 4, own_okB own_q0 a.1 = true ∧ own_okB (own_mark own_q0 a.1) b.1 = true ∧ own_okB (own_mark (own_mark own_q0 a.1) b.1) c.1 = true ∧ own_okB (own_mark (own_mark (own_mark own_q0 a.1) b.1) c.1) d.1 = true := by decide +kernel
theorem own_oks : ∀ a b c d : Fin 4, own_ok own_q0 a.1 ∧ own_ok (own_mark own_q0 a.1) b.1 ∧ own_ok (own_mark (own_mark own_q0 a.1) b.1) c.1 ∧ own_ok (own_mark (own_mark (own_mark own_q0 a.1) b.1) c.1) d.1 := fun a b c d => ⟨own_okI (own_oksB a b c d).1, own_okI (own_oksB a b c d).2.1, own_okI (own_oksB a b c d).2.2.1, own_okI (own_oksB a b c d).2.2.2⟩
theorem own_fins : ∀ a b c d : Fin 4, ((own_S a.1 b.1 c.1 d.1).1.getD 0 0 < 4 ∧ (own_S a.1 b.1 c.1 d.1).1.getD 1 0 < 4 ∧ (own_S a.1 b.1 c.1 d.1).1.getD 2 0 < 4 ∧ (own_S a.1 b.1 c.1 d.1).1.getD 3 0 < 4) ∧ own_seen (own_S a.1 b.1 c.1 d.1).1 = 15 ∧ (¬ (own_enum a.1 b.1 c.1 d.1).2 < 1 ∧ (own_enum a.1 b.1 c.1 d.1).2 < 5) ∧ (own_S a.1 b.1 c.1 d.1).1.getD 0 0 = (own_enum a.1 b.1 c.1 d.1).1.getD 0 0 ∧ ((own_enum a.1 b.1 c.1 d.1).2 < 2 ∨ (own_S a.1 b.1 c.1 d.1).1.getD 1 0 = (own_enum a.1 b.1 c.1 d.1).1.getD 1 0) ∧ ((own_enum a.1 b.1 c.1 d.1).2 < 3 ∨ (own_S a.1 b.1 c.1 d.1).1.getD 2 0 = (own_enum a.1 b.1 c.1 d.1).1.getD 2 0) ∧ ((own_enum a.1 b.1 c.1 d.1).2 < 4 ∨ (own_S a.1 b.1 c.1 d.1).1.getD 3 0 = (own_enum a.1 b.1 c.1 d.1).1.getD 3 0) := by decide +kernel
theorem own_ix {x : Nat} (h : x < 2 ^ 31) : ¬ Int32.ofNat x < 0 ∧ (Int32.ofNat x).toNatClampNeg = x := by
  have h1 : (Int32.ofNat x).toInt = x := Int32.toInt_ofNat_of_lt h
  have h2 : ¬ Int32.ofNat x < 0 := fun q => by
    have := Int32.lt_iff_toInt_lt.mp q
    rw [h1, show (0 : Int32).toInt = 0 from rfl] at this
    omega
  refine ⟨h2, ?_⟩
  have := nat_of h2
  omega
theorem own_eqn {i j : Nat} (hi : i < 2 ^ 31) (hj : j < 2 ^ 31) : Int32.ofNat i = Int32.ofNat j ↔ i = j := by
  rw [← Int32.toInt_inj, Int32.toInt_ofNat_of_lt hi, Int32.toInt_ofNat_of_lt hj]
  omega
theorem own_ltn {i j : Nat} (hi : i < 2 ^ 31) (hj : j < 2 ^ 31) : Int32.ofNat i < Int32.ofNat j ↔ i < j := by
  rw [Int32.lt_iff_toInt_lt, Int32.toInt_ofNat_of_lt hi, Int32.toInt_ofNat_of_lt hj]
  omega
theorem own_setg (l : List Nat) {j : Nat} (v i : Nat) (hj : j < l.length) : (l.set j v).getD i 0 = if i = j then v else l.getD i 0 := by
  rw [List.getD_eq_getElem?_getD, List.getElem?_set, List.getD_eq_getElem?_getD]
  by_cases h : j = i
  · subst h; simp [hj]
  · have h' : ¬ i = j := fun q => h q.symm
    simp [h, h']
theorem own_and3 (a : Int32) : ∃ k : Fin 4, Int32.ofNat k.1 = (a &&& (3 : Int32)) := by
  have m := c_mask a (3 : Int32) 2 (by decide) (by decide)
  refine ⟨⟨(a.toInt % 4).toNat, by omega⟩, ?_⟩
  apply Int32.toInt_inj.mp
  rw [Int32.toInt_ofNat_of_lt (by show (a.toInt % 4).toNat < 2 ^ 31; omega), m]
  show (((a.toInt % 4).toNat : Nat) : Int) = _
  omega
theorem own_d1_0 : decode prog_46_method_1_code 0 = .ok (.aload_n 0, 1) := by decide +kernel
theorem own_d1_1 : decode prog_46_method_1_code 1 = .ok (.invokespecial 1, 3) := by decide +kernel
theorem own_d1_4 : decode prog_46_method_1_code 4 = .ok (.aload_n 0, 1) := by decide +kernel
theorem own_d1_5 : decode prog_46_method_1_code 5 = .ok (.iload_n 1, 1) := by decide +kernel
theorem own_d1_6 : decode prog_46_method_1_code 6 = .ok (.newarray .int, 2) := by decide +kernel
theorem own_d1_8 : decode prog_46_method_1_code 8 = .ok (.putfield 7, 3) := by decide +kernel
theorem own_d1_11 : decode prog_46_method_1_code 11 = .ok (.aload_n 0, 1) := by decide +kernel
theorem own_d1_12 : decode prog_46_method_1_code 12 = .ok (.iload_n 1, 1) := by decide +kernel
theorem own_d1_13 : decode prog_46_method_1_code 13 = .ok (.newarray .int, 2) := by decide +kernel
theorem own_d1_15 : decode prog_46_method_1_code 15 = .ok (.putfield 13, 3) := by decide +kernel
theorem own_d1_18 : decode prog_46_method_1_code 18 = .ok (.aload_n 0, 1) := by decide +kernel
theorem own_d1_19 : decode prog_46_method_1_code 19 = .ok (.iload_n 1, 1) := by decide +kernel
theorem own_d1_20 : decode prog_46_method_1_code 20 = .ok (.newarray .int, 2) := by decide +kernel
theorem own_d1_22 : decode prog_46_method_1_code 22 = .ok (.putfield 16, 3) := by decide +kernel
theorem own_d1_25 : decode prog_46_method_1_code 25 = .ok (.iconst 0, 1) := by decide +kernel
theorem own_d1_26 : decode prog_46_method_1_code 26 = .ok (.istore_n 2, 1) := by decide +kernel
theorem own_d1_27 : decode prog_46_method_1_code 27 = .ok (.iload_n 2, 1) := by decide +kernel
theorem own_d1_28 : decode prog_46_method_1_code 28 = .ok (.iload_n 1, 1) := by decide +kernel
theorem own_d1_29 : decode prog_46_method_1_code 29 = .ok (.if_icmp .ge 23, 3) := by decide +kernel
theorem own_d1_32 : decode prog_46_method_1_code 32 = .ok (.aload_n 0, 1) := by decide +kernel
theorem own_d1_33 : decode prog_46_method_1_code 33 = .ok (.getfield 7, 3) := by decide +kernel
theorem own_d1_36 : decode prog_46_method_1_code 36 = .ok (.iload_n 2, 1) := by decide +kernel
theorem own_d1_37 : decode prog_46_method_1_code 37 = .ok (.iload_n 2, 1) := by decide +kernel
theorem own_d1_38 : decode prog_46_method_1_code 38 = .ok (.iastore, 1) := by decide +kernel
theorem own_d1_39 : decode prog_46_method_1_code 39 = .ok (.aload_n 0, 1) := by decide +kernel
theorem own_d1_40 : decode prog_46_method_1_code 40 = .ok (.getfield 13, 3) := by decide +kernel
theorem own_d1_43 : decode prog_46_method_1_code 43 = .ok (.iload_n 2, 1) := by decide +kernel
theorem own_d1_44 : decode prog_46_method_1_code 44 = .ok (.iload_n 2, 1) := by decide +kernel
theorem own_d1_45 : decode prog_46_method_1_code 45 = .ok (.iastore, 1) := by decide +kernel
theorem own_d1_46 : decode prog_46_method_1_code 46 = .ok (.iinc 2 1, 3) := by decide +kernel
theorem own_d1_49 : decode prog_46_method_1_code 49 = .ok (.goto (-22), 3) := by decide +kernel
theorem own_d1_52 : decode prog_46_method_1_code 52 = .ok (.aload_n 0, 1) := by decide +kernel
theorem own_d1_53 : decode prog_46_method_1_code 53 = .ok (.iload_n 1, 1) := by decide +kernel
theorem own_d1_54 : decode prog_46_method_1_code 54 = .ok (.newarray .int, 2) := by decide +kernel
theorem own_d1_56 : decode prog_46_method_1_code 56 = .ok (.putfield 19, 3) := by decide +kernel
theorem own_d1_59 : decode prog_46_method_1_code 59 = .ok (.aload_n 0, 1) := by decide +kernel
theorem own_d1_60 : decode prog_46_method_1_code 60 = .ok (.iload_n 1, 1) := by decide +kernel
theorem own_d1_61 : decode prog_46_method_1_code 61 = .ok (.newarray .int, 2) := by decide +kernel
theorem own_d1_63 : decode prog_46_method_1_code 63 = .ok (.putfield 22, 3) := by decide +kernel
theorem own_d1_66 : decode prog_46_method_1_code 66 = .ok (.aload_n 0, 1) := by decide +kernel
theorem own_d1_67 : decode prog_46_method_1_code 67 = .ok (.iload_n 1, 1) := by decide +kernel
theorem own_d1_68 : decode prog_46_method_1_code 68 = .ok (.newarray .int, 2) := by decide +kernel
theorem own_d1_70 : decode prog_46_method_1_code 70 = .ok (.putfield 25, 3) := by decide +kernel
theorem own_d1_73 : decode prog_46_method_1_code 73 = .ok (.aload_n 0, 1) := by decide +kernel
theorem own_d1_74 : decode prog_46_method_1_code 74 = .ok (.iload_n 1, 1) := by decide +kernel
theorem own_d1_75 : decode prog_46_method_1_code 75 = .ok (.newarray .int, 2) := by decide +kernel
theorem own_d1_77 : decode prog_46_method_1_code 77 = .ok (.putfield 28, 3) := by decide +kernel
theorem own_d1_80 : decode prog_46_method_1_code 80 = .ok (.aload_n 0, 1) := by decide +kernel
theorem own_d1_81 : decode prog_46_method_1_code 81 = .ok (.getfield 22, 3) := by decide +kernel
theorem own_d1_84 : decode prog_46_method_1_code 84 = .ok (.iconst 0, 1) := by decide +kernel
theorem own_d1_85 : decode prog_46_method_1_code 85 = .ok (.iload_n 1, 1) := by decide +kernel
theorem own_d1_86 : decode prog_46_method_1_code 86 = .ok (.iastore, 1) := by decide +kernel
theorem own_d1_87 : decode prog_46_method_1_code 87 = .ok (.aload_n 0, 1) := by decide +kernel
theorem own_d1_88 : decode prog_46_method_1_code 88 = .ok (.iconst 1, 1) := by decide +kernel
theorem own_d1_89 : decode prog_46_method_1_code 89 = .ok (.putfield 31, 3) := by decide +kernel
theorem own_d1_92 : decode prog_46_method_1_code 92 = .ok (.return_, 1) := by decide +kernel
theorem own_pn0 : plainName "com/example/wary_observer/waryobserver/equivalence/Partition" = true := by first | (simp [plainName, overriddenIn]; done) | decide +kernel
theorem own_ef1 (m : MethodId) (x0 : Addr) (x1 : Int32) : entryFrame m #[(.ref x0), (.int x1)] 3 = mkF m 0 #[.val (.ref x0), .val (.int x1), .unset] [] := by first | (simp [entryFrame, mkF, argsToLocals, Value.category]; done) | rfl
def own_Q1 (Z : State) (a1 : Addr) (h0 : Heap) (n0 : Nat) (v : Option Value) (h : Heap) (L : List Loc) : Prop := v = none ∧ Fr n0 L ∧ Keep h0 h [a1] ∧ ∃ sa pa ba fa na ma ta : Addr, own_ord a1 sa pa ba fa na ma ta ∧ h0.size ≤ sa ∧ own_P Z a1 sa pa ba fa na ma ta own_q0 h
set_option maxRecDepth 65536 in
set_option maxHeartbeats 40000000 in
theorem own_rm1 (l : Launch) (Z : State) (a0 : Array Value) (hw : ∀ d ∈ tables_1, d.before a0 Z = true) (ws : List Jvm.Cond) (a1 : Addr) (h0 : Heap) (n0 : Nat) (Z0 : n0 ≤ h0.size) (E_a1 : Exa Z h0 a1 "com/example/wary_observer/waryobserver/equivalence/Partition") (F_states : Fld Z h0 a1 "com/example/wary_observer/waryobserver/equivalence/Partition" "states" "[I" .null) (F_positions : Fld Z h0 a1 "com/example/wary_observer/waryobserver/equivalence/Partition" "positions" "[I" .null) (F_blockOf : Fld Z h0 a1 "com/example/wary_observer/waryobserver/equivalence/Partition" "blockOf" "[I" .null) (F_firsts : Fld Z h0 a1 "com/example/wary_observer/waryobserver/equivalence/Partition" "firsts" "[I" .null) (F_ends : Fld Z h0 a1 "com/example/wary_observer/waryobserver/equivalence/Partition" "ends" "[I" .null) (F_marks : Fld Z h0 a1 "com/example/wary_observer/waryobserver/equivalence/Partition" "marks" "[I" .null) (F_touched : Fld Z h0 a1 "com/example/wary_observer/waryobserver/equivalence/Partition" "touched" "[I" .null) (F_blocks : Fld Z h0 a1 "com/example/wary_observer/waryobserver/equivalence/Partition" "blocks" "I" (.int (0 : Int32))) (F_touchedCount : Fld Z h0 a1 "com/example/wary_observer/waryobserver/equivalence/Partition" "touchedCount" "I" (.int (0 : Int32))) (g_a1 : n0 ≤ a1) :
    MetFree l (⟨"com/example/wary_observer/waryobserver/equivalence/Partition", "<init>", "(I)V"⟩ : MethodName) (head1 (Jvm.Cond.code (⟨"com/example/wary_observer/waryobserver/equivalence/Partition", "<init>", "(I)V"⟩ : MethodName) prog_46_method_1_code 3 none :: ws) ({ frames := 1, cells := 7, slots := 28, locals := 12 } : Room)) (fun a U => a = #[(.ref a1), (.int (4 : Int32))] ∧ Z.Warmed39 U.vm ∧ U.heap = h0) (fun _ _ _ _ _ => True) (fun _ U o U' => ∃ v L, o = .returned v ∧ own_Q1 Z a1 h0 n0 v U'.heap L ∧ FrameEnd U o U' L ({ frames := 1, cells := 7, slots := 28, locals := 12 } : Room).cells ({ frames := 1, cells := 7, slots := 28, locals := 12 } : Room).slots) := by
  refine MetFree.of_bodySF (plainFor_of_name own_pn0) hisR ?_
  intro p e s m args below meth c s₁ Bd hml0 hP hK
  obtain ⟨rfl, hZ, hh⟩ := hP
  have hx := Bd.exec
  have hby := Bd.bytes
  have hml : c.maxLocals = 3 := hml0
  have hown : s.vm.findClass "com/example/wary_observer/waryobserver/equivalence/Partition" = some m.cls := findClass_of_methodNamed Bd.named
  have hnm := (name_of_methodNamed Bd.named Bd.method).1
  have X0 : Stand p l e ({ frames := 1, cells := 7, slots := 28, locals := 12 } : Room) s m #[(.ref a1), (.int (4 : Int32))] below meth c s₁ [] 0 0 := Stand.of_body Bd
  have e0 : s₁.heap = h0 := by rw [← hh, Bd.state]; rfl
  have N0 := Fr.nil n0
  have K0 := Keep.refl h0 [a1]
  have pre0 : ∀ t, Steps p.tables e below (s₁.setTop (mkF m 0 #[.val (.ref a1), .val (.int (4 : Int32)), .unset] [])) t → Steps p.tables e below (s₁.setTop (entryFrame m #[(.ref a1), (.int (4 : Int32))] 3)) t := fun t kt0 => castTop (own_ef1 m (a1) ((4 : Int32))) kt0
  obtain ⟨T1, X1, e1, st1⟩ := initO X0 hx hZ hown (hw _ (List.mem_of_getElem? (i := 6) rfl)) (hw _ (List.mem_of_getElem? (i := 7) rfl)) (hw _ (List.mem_of_getElem? (i := 8) rfl)) e0 (g := (mkF m 1 #[.val (.ref a1), .val (.int (4 : Int32)), .unset] [(.ref a1)])) rfl (by rw [hml]; rfl) rfl (hb hby own_d1_1) (by decide) (W := 0) (by show 2 * 0 + _ ≤ _; exact Nat.le_of_eq rfl) (by decide)
  obtain ⟨T2, h2, k2, X2, e2, E2, A2, st2⟩ := newP X1 hx hZ (hw _ (List.mem_of_getElem? (i := 9) rfl)) e1 (g := (mkF m 6 #[.val (.ref a1), .val (.int (4 : Int32)), .unset] [(.int (4 : Int32)), (.ref a1)])) rfl (hb hby own_d1_6) rfl (by decide) (cap := 4) (by decide) (by decide) (by decide) (by decide)
  obtain ⟨sa, g2⟩ : ∃ z, z = h0.size := ⟨_, rfl⟩
  rw [← g2] at A2 st2
  have lt_a1_sa : a1 < sa := by rw [g2]; exact E_a1.lt
  have ne_a1_sa : a1 ≠ sa := Nat.ne_of_lt lt_a1_sa
  have g_sa : n0 ≤ sa := by rw [g2]; exact Z0
  have sz_sa : h0.size ≤ sa := by rw [g2]; exact K0.1
  have E_a1 := E_a1.ext E2
  have F_blocks := F_blocks.ext E2
  have F_touchedCount := F_touchedCount.ext E2
  have F_states := F_states.ext E2
  have F_positions := F_positions.ext E2
  have F_blockOf := F_blockOf.ext E2
  have F_firsts := F_firsts.ext E2
  have F_ends := F_ends.ext E2
  have F_marks := F_marks.ext E2
  have F_touched := F_touched.ext E2
  have K3 := K0.ext E2
  have Z4 := Nat.le_trans Z0 E2.1
  have V_sa : own_AF Z h2 sa .int 4 (fun _ => .int (0 : Int32)) := own_AF.new A2 (by decide) (by decide)
  obtain ⟨T5, h5, X5, e5, W5, st5⟩ := putF X2 hx hZ hown (host := "") (Or.inl (hw _ (List.mem_of_getElem? (i := 10) rfl))) Via.refl e2 F_states E_a1 (Or.inr ⟨(hw _ (List.mem_of_getElem? (i := 11) rfl)), rfl, hnm⟩) (hw _ (List.mem_of_getElem? (i := 1) rfl)) (ty := (.array .int)) (by decide) rfl rfl (g := (mkF m 8 #[.val (.ref a1), .val (.int (4 : Int32)), .unset] [(.ref sa), (.ref a1)])) rfl rfl (hb hby own_d1_8)
  have E_a1 := E_a1.wr W5
  have F_blocks := F_blocks.other W5 (Or.inr (slot_ne (Or.inl (hw _ (List.mem_of_getElem? (i := 25) rfl))) (Or.inr (hw _ (List.mem_of_getElem? (i := 11) rfl))) (by decide) (t := .int) (t' := (.array .int)) (by decide) (by decide)))
  have F_touchedCount := F_touchedCount.other W5 (Or.inr (slot_ne (Or.inl (hw _ (List.mem_of_getElem? (i := 32) rfl))) (Or.inr (hw _ (List.mem_of_getElem? (i := 11) rfl))) (by decide) (t := .int) (t' := (.array .int)) (by decide) (by decide)))
  have F_states := F_states.same W5
  have F_positions := F_positions.other W5 (Or.inr (slot_ne (Or.inr (hw _ (List.mem_of_getElem? (i := 13) rfl))) (Or.inr (hw _ (List.mem_of_getElem? (i := 11) rfl))) (by decide) (t := (.array .int)) (t' := (.array .int)) (by decide) (by decide)))
  have F_blockOf := F_blockOf.other W5 (Or.inr (slot_ne (Or.inr (hw _ (List.mem_of_getElem? (i := 15) rfl))) (Or.inr (hw _ (List.mem_of_getElem? (i := 11) rfl))) (by decide) (t := (.array .int)) (t' := (.array .int)) (by decide) (by decide)))
  have F_firsts := F_firsts.other W5 (Or.inr (slot_ne (Or.inr (hw _ (List.mem_of_getElem? (i := 17) rfl))) (Or.inr (hw _ (List.mem_of_getElem? (i := 11) rfl))) (by decide) (t := (.array .int)) (t' := (.array .int)) (by decide) (by decide)))
  have F_ends := F_ends.other W5 (Or.inr (slot_ne (Or.inr (hw _ (List.mem_of_getElem? (i := 19) rfl))) (Or.inr (hw _ (List.mem_of_getElem? (i := 11) rfl))) (by decide) (t := (.array .int)) (t' := (.array .int)) (by decide) (by decide)))
  have F_marks := F_marks.other W5 (Or.inr (slot_ne (Or.inr (hw _ (List.mem_of_getElem? (i := 21) rfl))) (Or.inr (hw _ (List.mem_of_getElem? (i := 11) rfl))) (by decide) (t := (.array .int)) (t' := (.array .int)) (by decide) (by decide)))
  have F_touched := F_touched.other W5 (Or.inr (slot_ne (Or.inr (hw _ (List.mem_of_getElem? (i := 23) rfl))) (Or.inr (hw _ (List.mem_of_getElem? (i := 11) rfl))) (by decide) (t := (.array .int)) (t' := (.array .int)) (by decide) (by decide)))
  have V_sa := V_sa.other W5 (Ne.symm ne_a1_sa)
  have K6 := K3.wr W5 (Or.inl (List.mem_of_getElem? (i := 0) rfl))
  have Z7 := Nat.le_trans Z4 (Keep.of_wr W5).1
  have N8 := Fr.snoc X5 N0 g_a1
  obtain ⟨T9, h9, k9, X9, e9, E9, A9, st9⟩ := newP X5 hx hZ (hw _ (List.mem_of_getElem? (i := 9) rfl)) e5 (g := (mkF m 13 #[.val (.ref a1), .val (.int (4 : Int32)), .unset] [(.int (4 : Int32)), (.ref a1)])) rfl (hb hby own_d1_13) rfl (by decide) (cap := 4) (by decide) (by decide) (by decide) (by decide)
  obtain ⟨pa, g9⟩ : ∃ z, z = h5.size := ⟨_, rfl⟩
  rw [← g9] at A9 st9
  have lt_a1_pa : a1 < pa := by rw [g9]; exact E_a1.lt
  have ne_a1_pa : a1 ≠ pa := Nat.ne_of_lt lt_a1_pa
  have lt_sa_pa : sa < pa := by rw [g9]; exact V_sa.lt
  have ne_sa_pa : sa ≠ pa := Nat.ne_of_lt lt_sa_pa
  have g_pa : n0 ≤ pa := by rw [g9]; exact Z7
  have sz_pa : h0.size ≤ pa := by rw [g9]; exact K6.1
  have E_a1 := E_a1.ext E9
  have F_blocks := F_blocks.ext E9
  have F_touchedCount := F_touchedCount.ext E9
  have F_states := F_states.ext E9
  have F_positions := F_positions.ext E9
  have F_blockOf := F_blockOf.ext E9
  have F_firsts := F_firsts.ext E9
  have F_ends := F_ends.ext E9
  have F_marks := F_marks.ext E9
  have F_touched := F_touched.ext E9
  have V_sa := V_sa.ext E9
  have K10 := K6.ext E9
  have Z11 := Nat.le_trans Z7 E9.1
  have V_pa : own_AF Z h9 pa .int 4 (fun _ => .int (0 : Int32)) := own_AF.new A9 (by decide) (by decide)
  obtain ⟨T12, h12, X12, e12, W12, st12⟩ := putF X9 hx hZ hown (host := "") (Or.inl (hw _ (List.mem_of_getElem? (i := 12) rfl))) Via.refl e9 F_positions E_a1 (Or.inr ⟨(hw _ (List.mem_of_getElem? (i := 13) rfl)), rfl, hnm⟩) (hw _ (List.mem_of_getElem? (i := 1) rfl)) (ty := (.array .int)) (by decide) rfl rfl (g := (mkF m 15 #[.val (.ref a1), .val (.int (4 : Int32)), .unset] [(.ref pa), (.ref a1)])) rfl rfl (hb hby own_d1_15)
  have E_a1 := E_a1.wr W12
  have F_blocks := F_blocks.other W12 (Or.inr (slot_ne (Or.inl (hw _ (List.mem_of_getElem? (i := 25) rfl))) (Or.inr (hw _ (List.mem_of_getElem? (i := 13) rfl))) (by decide) (t := .int) (t' := (.array .int)) (by decide) (by decide)))
  have F_touchedCount := F_touchedCount.other W12 (Or.inr (slot_ne (Or.inl (hw _ (List.mem_of_getElem? (i := 32) rfl))) (Or.inr (hw _ (List.mem_of_getElem? (i := 13) rfl))) (by decide) (t := .int) (t' := (.array .int)) (by decide) (by decide)))
  have F_states := F_states.other W12 (Or.inr (slot_ne (Or.inr (hw _ (List.mem_of_getElem? (i := 11) rfl))) (Or.inr (hw _ (List.mem_of_getElem? (i := 13) rfl))) (by decide) (t := (.array .int)) (t' := (.array .int)) (by decide) (by decide)))
  have F_positions := F_positions.same W12
  have F_blockOf := F_blockOf.other W12 (Or.inr (slot_ne (Or.inr (hw _ (List.mem_of_getElem? (i := 15) rfl))) (Or.inr (hw _ (List.mem_of_getElem? (i := 13) rfl))) (by decide) (t := (.array .int)) (t' := (.array .int)) (by decide) (by decide)))
  have F_firsts := F_firsts.other W12 (Or.inr (slot_ne (Or.inr (hw _ (List.mem_of_getElem? (i := 17) rfl))) (Or.inr (hw _ (List.mem_of_getElem? (i := 13) rfl))) (by decide) (t := (.array .int)) (t' := (.array .int)) (by decide) (by decide)))
  have F_ends := F_ends.other W12 (Or.inr (slot_ne (Or.inr (hw _ (List.mem_of_getElem? (i := 19) rfl))) (Or.inr (hw _ (List.mem_of_getElem? (i := 13) rfl))) (by decide) (t := (.array .int)) (t' := (.array .int)) (by decide) (by decide)))
  have F_marks := F_marks.other W12 (Or.inr (slot_ne (Or.inr (hw _ (List.mem_of_getElem? (i := 21) rfl))) (Or.inr (hw _ (List.mem_of_getElem? (i := 13) rfl))) (by decide) (t := (.array .int)) (t' := (.array .int)) (by decide) (by decide)))
  have F_touched := F_touched.other W12 (Or.inr (slot_ne (Or.inr (hw _ (List.mem_of_getElem? (i := 23) rfl))) (Or.inr (hw _ (List.mem_of_getElem? (i := 13) rfl))) (by decide) (t := (.array .int)) (t' := (.array .int)) (by decide) (by decide)))
  have V_sa := V_sa.other W12 (Ne.symm ne_a1_sa)
  have V_pa := V_pa.other W12 (Ne.symm ne_a1_pa)
  have K13 := K10.wr W12 (Or.inl (List.mem_of_getElem? (i := 0) rfl))
  have Z14 := Nat.le_trans Z11 (Keep.of_wr W12).1
  have N15 := Fr.snoc X12 N8 g_a1
  obtain ⟨T16, h16, k16, X16, e16, E16, A16, st16⟩ := newP X12 hx hZ (hw _ (List.mem_of_getElem? (i := 9) rfl)) e12 (g := (mkF m 20 #[.val (.ref a1), .val (.int (4 : Int32)), .unset] [(.int (4 : Int32)), (.ref a1)])) rfl (hb hby own_d1_20) rfl (by decide) (cap := 4) (by decide) (by decide) (by decide) (by decide)
  obtain ⟨ba, g16⟩ : ∃ z, z = h12.size := ⟨_, rfl⟩
  rw [← g16] at A16 st16
  have lt_a1_ba : a1 < ba := by rw [g16]; exact E_a1.lt
  have ne_a1_ba : a1 ≠ ba := Nat.ne_of_lt lt_a1_ba
  have lt_pa_ba : pa < ba := by rw [g16]; exact V_pa.lt
  have ne_pa_ba : pa ≠ ba := Nat.ne_of_lt lt_pa_ba
  have lt_sa_ba : sa < ba := by rw [g16]; exact V_sa.lt
  have ne_sa_ba : sa ≠ ba := Nat.ne_of_lt lt_sa_ba
  have g_ba : n0 ≤ ba := by rw [g16]; exact Z14
  have sz_ba : h0.size ≤ ba := by rw [g16]; exact K13.1
  have E_a1 := E_a1.ext E16
  have F_blocks := F_blocks.ext E16
  have F_touchedCount := F_touchedCount.ext E16
  have F_states := F_states.ext E16
  have F_positions := F_positions.ext E16
  have F_blockOf := F_blockOf.ext E16
  have F_firsts := F_firsts.ext E16
  have F_ends := F_ends.ext E16
  have F_marks := F_marks.ext E16
  have F_touched := F_touched.ext E16
  have V_sa := V_sa.ext E16
  have V_pa := V_pa.ext E16
  have K17 := K13.ext E16
  have Z18 := Nat.le_trans Z14 E16.1
  have V_ba : own_AF Z h16 ba .int 4 (fun _ => .int (0 : Int32)) := own_AF.new A16 (by decide) (by decide)
  obtain ⟨T19, h19, X19, e19, W19, st19⟩ := putF X16 hx hZ hown (host := "") (Or.inl (hw _ (List.mem_of_getElem? (i := 14) rfl))) Via.refl e16 F_blockOf E_a1 (Or.inr ⟨(hw _ (List.mem_of_getElem? (i := 15) rfl)), rfl, hnm⟩) (hw _ (List.mem_of_getElem? (i := 1) rfl)) (ty := (.array .int)) (by decide) rfl rfl (g := (mkF m 22 #[.val (.ref a1), .val (.int (4 : Int32)), .unset] [(.ref ba), (.ref a1)])) rfl rfl (hb hby own_d1_22)
  have E_a1 := E_a1.wr W19
  have F_blocks := F_blocks.other W19 (Or.inr (slot_ne (Or.inl (hw _ (List.mem_of_getElem? (i := 25) rfl))) (Or.inr (hw _ (List.mem_of_getElem? (i := 15) rfl))) (by decide) (t := .int) (t' := (.array .int)) (by decide) (by decide)))
  have F_touchedCount := F_touchedCount.other W19 (Or.inr (slot_ne (Or.inl (hw _ (List.mem_of_getElem? (i := 32) rfl))) (Or.inr (hw _ (List.mem_of_getElem? (i := 15) rfl))) (by decide) (t := .int) (t' := (.array .int)) (by decide) (by decide)))
  have F_states := F_states.other W19 (Or.inr (slot_ne (Or.inr (hw _ (List.mem_of_getElem? (i := 11) rfl))) (Or.inr (hw _ (List.mem_of_getElem? (i := 15) rfl))) (by decide) (t := (.array .int)) (t' := (.array .int)) (by decide) (by decide)))
  have F_positions := F_positions.other W19 (Or.inr (slot_ne (Or.inr (hw _ (List.mem_of_getElem? (i := 13) rfl))) (Or.inr (hw _ (List.mem_of_getElem? (i := 15) rfl))) (by decide) (t := (.array .int)) (t' := (.array .int)) (by decide) (by decide)))
  have F_blockOf := F_blockOf.same W19
  have F_firsts := F_firsts.other W19 (Or.inr (slot_ne (Or.inr (hw _ (List.mem_of_getElem? (i := 17) rfl))) (Or.inr (hw _ (List.mem_of_getElem? (i := 15) rfl))) (by decide) (t := (.array .int)) (t' := (.array .int)) (by decide) (by decide)))
  have F_ends := F_ends.other W19 (Or.inr (slot_ne (Or.inr (hw _ (List.mem_of_getElem? (i := 19) rfl))) (Or.inr (hw _ (List.mem_of_getElem? (i := 15) rfl))) (by decide) (t := (.array .int)) (t' := (.array .int)) (by decide) (by decide)))
  have F_marks := F_marks.other W19 (Or.inr (slot_ne (Or.inr (hw _ (List.mem_of_getElem? (i := 21) rfl))) (Or.inr (hw _ (List.mem_of_getElem? (i := 15) rfl))) (by decide) (t := (.array .int)) (t' := (.array .int)) (by decide) (by decide)))
  have F_touched := F_touched.other W19 (Or.inr (slot_ne (Or.inr (hw _ (List.mem_of_getElem? (i := 23) rfl))) (Or.inr (hw _ (List.mem_of_getElem? (i := 15) rfl))) (by decide) (t := (.array .int)) (t' := (.array .int)) (by decide) (by decide)))
  have V_sa := V_sa.other W19 (Ne.symm ne_a1_sa)
  have V_pa := V_pa.other W19 (Ne.symm ne_a1_pa)
  have V_ba := V_ba.other W19 (Ne.symm ne_a1_ba)
  have K20 := K17.wr W19 (Or.inl (List.mem_of_getElem? (i := 0) rfl))
  have Z21 := Nat.le_trans Z18 (Keep.of_wr W19).1
  have N22 := Fr.snoc X19 N15 g_a1
  obtain ⟨T23, X23, e23, st23⟩ := getF X19 hx hZ hown (host := "") (Or.inl (hw _ (List.mem_of_getElem? (i := 10) rfl))) Via.refl e19 F_states (g := (mkF m 33 #[.val (.ref a1), .val (.int (4 : Int32)), .val (.int (0 : Int32))] [(.ref a1)])) rfl rfl (hb hby own_d1_33)
  obtain ⟨T24, h24, X24, e24, W24, V24, st24⟩ := own_stI X23 hx hZ e23 V_sa (j := (0 : Int32)) (by decide) (k := 0) rfl (by decide) (g := (mkF m 38 #[.val (.ref a1), .val (.int (4 : Int32)), .val (.int (0 : Int32))] [(.int (0 : Int32)), (.int (0 : Int32)), (.ref sa)])) rfl rfl (hb hby own_d1_38)
  have E_a1 := E_a1.wr W24
  have F_blocks := F_blocks.other W24 (Or.inl ne_a1_sa)
  have F_touchedCount := F_touchedCount.other W24 (Or.inl ne_a1_sa)
  have F_states := F_states.other W24 (Or.inl ne_a1_sa)
  have F_positions := F_positions.other W24 (Or.inl ne_a1_sa)
  have F_blockOf := F_blockOf.other W24 (Or.inl ne_a1_sa)
  have F_firsts := F_firsts.other W24 (Or.inl ne_a1_sa)
  have F_ends := F_ends.other W24 (Or.inl ne_a1_sa)
  have F_marks := F_marks.other W24 (Or.inl ne_a1_sa)
  have F_touched := F_touched.other W24 (Or.inl ne_a1_sa)
  have V_pa := V_pa.other W24 (Ne.symm ne_sa_pa)
  have V_ba := V_ba.other W24 (Ne.symm ne_sa_ba)
  have K25 := K20.wr W24 (Or.inr sz_sa)
  have Z26 := Nat.le_trans Z21 (Keep.of_wr W24).1
  have N27 := Fr.snoc X24 N22 g_sa
  have V_sa := V24
  obtain ⟨T28, X28, e28, st28⟩ := getF X24 hx hZ hown (host := "") (Or.inl (hw _ (List.mem_of_getElem? (i := 12) rfl))) Via.refl e24 F_positions (g := (mkF m 40 #[.val (.ref a1), .val (.int (4 : Int32)), .val (.int (0 : Int32))] [(.ref a1)])) rfl rfl (hb hby own_d1_40)
  obtain ⟨T29, h29, X29, e29, W29, V29, st29⟩ := own_stI X28 hx hZ e28 V_pa (j := (0 : Int32)) (by decide) (k := 0) rfl (by decide) (g := (mkF m 45 #[.val (.ref a1), .val (.int (4 : Int32)), .val (.int (0 : Int32))] [(.int (0 : Int32)), (.int (0 : Int32)), (.ref pa)])) rfl rfl (hb hby own_d1_45)
  have E_a1 := E_a1.wr W29
  have F_blocks := F_blocks.other W29 (Or.inl ne_a1_pa)
  have F_touchedCount := F_touchedCount.other W29 (Or.inl ne_a1_pa)
  have F_states := F_states.other W29 (Or.inl ne_a1_pa)
  have F_positions := F_positions.other W29 (Or.inl ne_a1_pa)
  have F_blockOf := F_blockOf.other W29 (Or.inl ne_a1_pa)
  have F_firsts := F_firsts.other W29 (Or.inl ne_a1_pa)
  have F_ends := F_ends.other W29 (Or.inl ne_a1_pa)
  have F_marks := F_marks.other W29 (Or.inl ne_a1_pa)
  have F_touched := F_touched.other W29 (Or.inl ne_a1_pa)
  have V_sa := V_sa.other W29 ne_sa_pa
  have V_ba := V_ba.other W29 (Ne.symm ne_pa_ba)
  have K30 := K25.wr W29 (Or.inr sz_pa)
  have Z31 := Nat.le_trans Z26 (Keep.of_wr W29).1
  have N32 := Fr.snoc X29 N27 g_pa
  have V_pa := V29
  obtain ⟨T33, X33, e33, st33⟩ := getF X29 hx hZ hown (host := "") (Or.inl (hw _ (List.mem_of_getElem? (i := 10) rfl))) Via.refl e29 F_states (g := (mkF m 33 #[.val (.ref a1), .val (.int (4 : Int32)), .val (.int (1 : Int32))] [(.ref a1)])) rfl rfl (hb hby own_d1_33)
  obtain ⟨T34, h34, X34, e34, W34, V34, st34⟩ := own_stI X33 hx hZ e33 V_sa (j := (1 : Int32)) (by decide) (k := 1) rfl (by decide) (g := (mkF m 38 #[.val (.ref a1), .val (.int (4 : Int32)), .val (.int (1 : Int32))] [(.int (1 : Int32)), (.int (1 : Int32)), (.ref sa)])) rfl rfl (hb hby own_d1_38)
  have E_a1 := E_a1.wr W34
  have F_blocks := F_blocks.other W34 (Or.inl ne_a1_sa)
  have F_touchedCount := F_touchedCount.other W34 (Or.inl ne_a1_sa)
  have F_states := F_states.other W34 (Or.inl ne_a1_sa)
  have F_positions := F_positions.other W34 (Or.inl ne_a1_sa)
  have F_blockOf := F_blockOf.other W34 (Or.inl ne_a1_sa)
  have F_firsts := F_firsts.other W34 (Or.inl ne_a1_sa)
  have F_ends := F_ends.other W34 (Or.inl ne_a1_sa)
  have F_marks := F_marks.other W34 (Or.inl ne_a1_sa)
  have F_touched := F_touched.other W34 (Or.inl ne_a1_sa)
  have V_pa := V_pa.other W34 (Ne.symm ne_sa_pa)
  have V_ba := V_ba.other W34 (Ne.symm ne_sa_ba)
  have K35 := K30.wr W34 (Or.inr sz_sa)
  have Z36 := Nat.le_trans Z31 (Keep.of_wr W34).1
  have N37 := Fr.snoc X34 N32 g_sa
  have V_sa := V34
  obtain ⟨T38, X38, e38, st38⟩ := getF X34 hx hZ hown (host := "") (Or.inl (hw _ (List.mem_of_getElem? (i := 12) rfl))) Via.refl e34 F_positions (g := (mkF m 40 #[.val (.ref a1), .val (.int (4 : Int32)), .val (.int (1 : Int32))] [(.ref a1)])) rfl rfl (hb hby own_d1_40)
  obtain ⟨T39, h39, X39, e39, W39, V39, st39⟩ := own_stI X38 hx hZ e38 V_pa (j := (1 : Int32)) (by decide) (k := 1) rfl (by decide) (g := (mkF m 45 #[.val (.ref a1), .val (.int (4 : Int32)), .val (.int (1 : Int32))] [(.int (1 : Int32)), (.int (1 : Int32)), (.ref pa)])) rfl rfl (hb hby own_d1_45)
  have E_a1 := E_a1.wr W39
  have F_blocks := F_blocks.other W39 (Or.inl ne_a1_pa)
  have F_touchedCount := F_touchedCount.other W39 (Or.inl ne_a1_pa)
  have F_states := F_states.other W39 (Or.inl ne_a1_pa)
  have F_positions := F_positions.other W39 (Or.inl ne_a1_pa)
  have F_blockOf := F_blockOf.other W39 (Or.inl ne_a1_pa)
  have F_firsts := F_firsts.other W39 (Or.inl ne_a1_pa)
  have F_ends := F_ends.other W39 (Or.inl ne_a1_pa)
  have F_marks := F_marks.other W39 (Or.inl ne_a1_pa)
  have F_touched := F_touched.other W39 (Or.inl ne_a1_pa)
  have V_sa := V_sa.other W39 ne_sa_pa
  have V_ba := V_ba.other W39 (Ne.symm ne_pa_ba)
  have K40 := K35.wr W39 (Or.inr sz_pa)
  have Z41 := Nat.le_trans Z36 (Keep.of_wr W39).1
  have N42 := Fr.snoc X39 N37 g_pa
  have V_pa := V39
  obtain ⟨T43, X43, e43, st43⟩ := getF X39 hx hZ hown (host := "") (Or.inl (hw _ (List.mem_of_getElem? (i := 10) rfl))) Via.refl e39 F_states (g := (mkF m 33 #[.val (.ref a1), .val (.int (4 : Int32)), .val (.int (2 : Int32))] [(.ref a1)])) rfl rfl (hb hby own_d1_33)
  obtain ⟨T44, h44, X44, e44, W44, V44, st44⟩ := own_stI X43 hx hZ e43 V_sa (j := (2 : Int32)) (by decide) (k := 2) rfl (by decide) (g := (mkF m 38 #[.val (.ref a1), .val (.int (4 : Int32)), .val (.int (2 : Int32))] [(.int (2 : Int32)), (.int (2 : Int32)), (.ref sa)])) rfl rfl (hb hby own_d1_38)
  have E_a1 := E_a1.wr W44
  have F_blocks := F_blocks.other W44 (Or.inl ne_a1_sa)
  have F_touchedCount := F_touchedCount.other W44 (Or.inl ne_a1_sa)
  have F_states := F_states.other W44 (Or.inl ne_a1_sa)
  have F_positions := F_positions.other W44 (Or.inl ne_a1_sa)
  have F_blockOf := F_blockOf.other W44 (Or.inl ne_a1_sa)
  have F_firsts := F_firsts.other W44 (Or.inl ne_a1_sa)
  have F_ends := F_ends.other W44 (Or.inl ne_a1_sa)
  have F_marks := F_marks.other W44 (Or.inl ne_a1_sa)
  have F_touched := F_touched.other W44 (Or.inl ne_a1_sa)
  have V_pa := V_pa.other W44 (Ne.symm ne_sa_pa)
  have V_ba := V_ba.other W44 (Ne.symm ne_sa_ba)
  have K45 := K40.wr W44 (Or.inr sz_sa)
  have Z46 := Nat.le_trans Z41 (Keep.of_wr W44).1
  have N47 := Fr.snoc X44 N42 g_sa
  have V_sa := V44
  obtain ⟨T48, X48, e48, st48⟩ := getF X44 hx hZ hown (host := "") (Or.inl (hw _ (List.mem_of_getElem? (i := 12) rfl))) Via.refl e44 F_positions (g := (mkF m 40 #[.val (.ref a1), .val (.int (4 : Int32)), .val (.int (2 : Int32))] [(.ref a1)])) rfl rfl (hb hby own_d1_40)
  obtain ⟨T49, h49, X49, e49, W49, V49, st49⟩ := own_stI X48 hx hZ e48 V_pa (j := (2 : Int32)) (by decide) (k := 2) rfl (by decide) (g := (mkF m 45 #[.val (.ref a1), .val (.int (4 : Int32)), .val (.int (2 : Int32))] [(.int (2 : Int32)), (.int (2 : Int32)), (.ref pa)])) rfl rfl (hb hby own_d1_45)
  have E_a1 := E_a1.wr W49
  have F_blocks := F_blocks.other W49 (Or.inl ne_a1_pa)
  have F_touchedCount := F_touchedCount.other W49 (Or.inl ne_a1_pa)
  have F_states := F_states.other W49 (Or.inl ne_a1_pa)
  have F_positions := F_positions.other W49 (Or.inl ne_a1_pa)
  have F_blockOf := F_blockOf.other W49 (Or.inl ne_a1_pa)
  have F_firsts := F_firsts.other W49 (Or.inl ne_a1_pa)
  have F_ends := F_ends.other W49 (Or.inl ne_a1_pa)
  have F_marks := F_marks.other W49 (Or.inl ne_a1_pa)
  have F_touched := F_touched.other W49 (Or.inl ne_a1_pa)
  have V_sa := V_sa.other W49 ne_sa_pa
  have V_ba := V_ba.other W49 (Ne.symm ne_pa_ba)
  have K50 := K45.wr W49 (Or.inr sz_pa)
  have Z51 := Nat.le_trans Z46 (Keep.of_wr W49).1
  have N52 := Fr.snoc X49 N47 g_pa
  have V_pa := V49
  obtain ⟨T53, X53, e53, st53⟩ := getF X49 hx hZ hown (host := "") (Or.inl (hw _ (List.mem_of_getElem? (i := 10) rfl))) Via.refl e49 F_states (g := (mkF m 33 #[.val (.ref a1), .val (.int (4 : Int32)), .val (.int (3 : Int32))] [(.ref a1)])) rfl rfl (hb hby own_d1_33)
  obtain ⟨T54, h54, X54, e54, W54, V54, st54⟩ := own_stI X53 hx hZ e53 V_sa (j := (3 : Int32)) (by decide) (k := 3) rfl (by decide) (g := (mkF m 38 #[.val (.ref a1), .val (.int (4 : Int32)), .val (.int (3 : Int32))] [(.int (3 : Int32)), (.int (3 : Int32)), (.ref sa)])) rfl rfl (hb hby own_d1_38)
  have E_a1 := E_a1.wr W54
  have F_blocks := F_blocks.other W54 (Or.inl ne_a1_sa)
  have F_touchedCount := F_touchedCount.other W54 (Or.inl ne_a1_sa)
  have F_states := F_states.other W54 (Or.inl ne_a1_sa)
  have F_positions := F_positions.other W54 (Or.inl ne_a1_sa)
  have F_blockOf := F_blockOf.other W54 (Or.inl ne_a1_sa)
  have F_firsts := F_firsts.other W54 (Or.inl ne_a1_sa)
  have F_ends := F_ends.other W54 (Or.inl ne_a1_sa)
  have F_marks := F_marks.other W54 (Or.inl ne_a1_sa)
  have F_touched := F_touched.other W54 (Or.inl ne_a1_sa)
  have V_pa := V_pa.other W54 (Ne.symm ne_sa_pa)
  have V_ba := V_ba.other W54 (Ne.symm ne_sa_ba)
  have K55 := K50.wr W54 (Or.inr sz_sa)
  have Z56 := Nat.le_trans Z51 (Keep.of_wr W54).1
  have N57 := Fr.snoc X54 N52 g_sa
  have V_sa := V54
  obtain ⟨T58, X58, e58, st58⟩ := getF X54 hx hZ hown (host := "") (Or.inl (hw _ (List.mem_of_getElem? (i := 12) rfl))) Via.refl e54 F_positions (g := (mkF m 40 #[.val (.ref a1), .val (.int (4 : Int32)), .val (.int (3 : Int32))] [(.ref a1)])) rfl rfl (hb hby own_d1_40)
  obtain ⟨T59, h59, X59, e59, W59, V59, st59⟩ := own_stI X58 hx hZ e58 V_pa (j := (3 : Int32)) (by decide) (k := 3) rfl (by decide) (g := (mkF m 45 #[.val (.ref a1), .val (.int (4 : Int32)), .val (.int (3 : Int32))] [(.int (3 : Int32)), (.int (3 : Int32)), (.ref pa)])) rfl rfl (hb hby own_d1_45)
  have E_a1 := E_a1.wr W59
  have F_blocks := F_blocks.other W59 (Or.inl ne_a1_pa)
  have F_touchedCount := F_touchedCount.other W59 (Or.inl ne_a1_pa)
  have F_states := F_states.other W59 (Or.inl ne_a1_pa)
  have F_positions := F_positions.other W59 (Or.inl ne_a1_pa)
  have F_blockOf := F_blockOf.other W59 (Or.inl ne_a1_pa)
  have F_firsts := F_firsts.other W59 (Or.inl ne_a1_pa)
  have F_ends := F_ends.other W59 (Or.inl ne_a1_pa)
  have F_marks := F_marks.other W59 (Or.inl ne_a1_pa)
  have F_touched := F_touched.other W59 (Or.inl ne_a1_pa)
  have V_sa := V_sa.other W59 ne_sa_pa
  have V_ba := V_ba.other W59 (Ne.symm ne_pa_ba)
  have K60 := K55.wr W59 (Or.inr sz_pa)
  have Z61 := Nat.le_trans Z56 (Keep.of_wr W59).1
  have N62 := Fr.snoc X59 N57 g_pa
  have V_pa := V59
  obtain ⟨T63, h63, k63, X63, e63, E63, A63, st63⟩ := newP X59 hx hZ (hw _ (List.mem_of_getElem? (i := 9) rfl)) e59 (g := (mkF m 54 #[.val (.ref a1), .val (.int (4 : Int32)), .val (.int (4 : Int32))] [(.int (4 : Int32)), (.ref a1)])) rfl (hb hby own_d1_54) rfl (by decide) (cap := 4) (by decide) (by decide) (by decide) (by decide)
  obtain ⟨fa, g63⟩ : ∃ z, z = h59.size := ⟨_, rfl⟩
  rw [← g63] at A63 st63
  have lt_a1_fa : a1 < fa := by rw [g63]; exact E_a1.lt
  have ne_a1_fa : a1 ≠ fa := Nat.ne_of_lt lt_a1_fa
  have lt_ba_fa : ba < fa := by rw [g63]; exact V_ba.lt
  have ne_ba_fa : ba ≠ fa := Nat.ne_of_lt lt_ba_fa
  have lt_pa_fa : pa < fa := by rw [g63]; exact V_pa.lt
  have ne_pa_fa : pa ≠ fa := Nat.ne_of_lt lt_pa_fa
  have lt_sa_fa : sa < fa := by rw [g63]; exact V_sa.lt
  have ne_sa_fa : sa ≠ fa := Nat.ne_of_lt lt_sa_fa
  have g_fa : n0 ≤ fa := by rw [g63]; exact Z61
  have sz_fa : h0.size ≤ fa := by rw [g63]; exact K60.1
  have E_a1 := E_a1.ext E63
  have F_blocks := F_blocks.ext E63
  have F_touchedCount := F_touchedCount.ext E63
  have F_states := F_states.ext E63
  have F_positions := F_positions.ext E63
  have F_blockOf := F_blockOf.ext E63
  have F_firsts := F_firsts.ext E63
  have F_ends := F_ends.ext E63
  have F_marks := F_marks.ext E63
  have F_touched := F_touched.ext E63
  have V_sa := V_sa.ext E63
  have V_pa := V_pa.ext E63
  have V_ba := V_ba.ext E63
  have K64 := K60.ext E63
  have Z65 := Nat.le_trans Z61 E63.1
  have V_fa : own_AF Z h63 fa .int 4 (fun _ => .int (0 : Int32)) := own_AF.new A63 (by decide) (by decide)
  obtain ⟨T66, h66, X66, e66, W66, st66⟩ := putF X63 hx hZ hown (host := "") (Or.inl (hw _ (List.mem_of_getElem? (i := 16) rfl))) Via.refl e63 F_firsts E_a1 (Or.inr ⟨(hw _ (List.mem_of_getElem? (i := 17) rfl)), rfl, hnm⟩) (hw _ (List.mem_of_getElem? (i := 1) rfl)) (ty := (.array .int)) (by decide) rfl rfl (g := (mkF m 56 #[.val (.ref a1), .val (.int (4 : Int32)), .val (.int (4 : Int32))] [(.ref fa), (.ref a1)])) rfl rfl (hb hby own_d1_56)
  have E_a1 := E_a1.wr W66
  have F_blocks := F_blocks.other W66 (Or.inr (slot_ne (Or.inl (hw _ (List.mem_of_getElem? (i := 25) rfl))) (Or.inr (hw _ (List.mem_of_getElem? (i := 17) rfl))) (by decide) (t := .int) (t' := (.array .int)) (by decide) (by decide)))
  have F_touchedCount := F_touchedCount.other W66 (Or.inr (slot_ne (Or.inl (hw _ (List.mem_of_getElem? (i := 32) rfl))) (Or.inr (hw _ (List.mem_of_getElem? (i := 17) rfl))) (by decide) (t := .int) (t' := (.array .int)) (by decide) (by decide)))
  have F_states := F_states.other W66 (Or.inr (slot_ne (Or.inr (hw _ (List.mem_of_getElem? (i := 11) rfl))) (Or.inr (hw _ (List.mem_of_getElem? (i := 17) rfl))) (by decide) (t := (.array .int)) (t' := (.array .int)) (by decide) (by decide)))
  have F_positions := F_positions.other W66 (Or.inr (slot_ne (Or.inr (hw _ (List.mem_of_getElem? (i := 13) rfl))) (Or.inr (hw _ (List.mem_of_getElem? (i := 17) rfl))) (by decide) (t := (.array .int)) (t' := (.array .int)) (by decide) (by decide)))
  have F_blockOf := F_blockOf.other W66 (Or.inr (slot_ne (Or.inr (hw _ (List.mem_of_getElem? (i := 15) rfl))) (Or.inr (hw _ (List.mem_of_getElem? (i := 17) rfl))) (by decide) (t := (.array .int)) (t' := (.array .int)) (by decide) (by decide)))
  have F_firsts := F_firsts.same W66
  have F_ends := F_ends.other W66 (Or.inr (slot_ne (Or.inr (hw _ (List.mem_of_getElem? (i := 19) rfl))) (Or.inr (hw _ (List.mem_of_getElem? (i := 17) rfl))) (by decide) (t := (.array .int)) (t' := (.array .int)) (by decide) (by decide)))
  have F_marks := F_marks.other W66 (Or.inr (slot_ne (Or.inr (hw _ (List.mem_of_getElem? (i := 21) rfl))) (Or.inr (hw _ (List.mem_of_getElem? (i := 17) rfl))) (by decide) (t := (.array .int)) (t' := (.array .int)) (by decide) (by decide)))
  have F_touched := F_touched.other W66 (Or.inr (slot_ne (Or.inr (hw _ (List.mem_of_getElem? (i := 23) rfl))) (Or.inr (hw _ (List.mem_of_getElem? (i := 17) rfl))) (by decide) (t := (.array .int)) (t' := (.array .int)) (by decide) (by decide)))
  have V_sa := V_sa.other W66 (Ne.symm ne_a1_sa)
  have V_pa := V_pa.other W66 (Ne.symm ne_a1_pa)
  have V_ba := V_ba.other W66 (Ne.symm ne_a1_ba)
  have V_fa := V_fa.other W66 (Ne.symm ne_a1_fa)
  have K67 := K64.wr W66 (Or.inl (List.mem_of_getElem? (i := 0) rfl))
  have Z68 := Nat.le_trans Z65 (Keep.of_wr W66).1
  have N69 := Fr.snoc X66 N62 g_a1
  obtain ⟨T70, h70, k70, X70, e70, E70, A70, st70⟩ := newP X66 hx hZ (hw _ (List.mem_of_getElem? (i := 9) rfl)) e66 (g := (mkF m 61 #[.val (.ref a1), .val (.int (4 : Int32)), .val (.int (4 : Int32))] [(.int (4 : Int32)), (.ref a1)])) rfl (hb hby own_d1_61) rfl (by decide) (cap := 4) (by decide) (by decide) (by decide) (by decide)
  obtain ⟨na, g70⟩ : ∃ z, z = h66.size := ⟨_, rfl⟩
  rw [← g70] at A70 st70
  have lt_a1_na : a1 < na := by rw [g70]; exact E_a1.lt
  have ne_a1_na : a1 ≠ na := Nat.ne_of_lt lt_a1_na
  have lt_ba_na : ba < na := by rw [g70]; exact V_ba.lt
  have ne_ba_na : ba ≠ na := Nat.ne_of_lt lt_ba_na
  have lt_fa_na : fa < na := by rw [g70]; exact V_fa.lt
  have ne_fa_na : fa ≠ na := Nat.ne_of_lt lt_fa_na
  have lt_pa_na : pa < na := by rw [g70]; exact V_pa.lt
  have ne_pa_na : pa ≠ na := Nat.ne_of_lt lt_pa_na
  have lt_sa_na : sa < na := by rw [g70]; exact V_sa.lt
  have ne_sa_na : sa ≠ na := Nat.ne_of_lt lt_sa_na
  have g_na : n0 ≤ na := by rw [g70]; exact Z68
  have sz_na : h0.size ≤ na := by rw [g70]; exact K67.1
  have E_a1 := E_a1.ext E70
  have F_blocks := F_blocks.ext E70
  have F_touchedCount := F_touchedCount.ext E70
  have F_states := F_states.ext E70
  have F_positions := F_positions.ext E70
  have F_blockOf := F_blockOf.ext E70
  have F_firsts := F_firsts.ext E70
  have F_ends := F_ends.ext E70
  have F_marks := F_marks.ext E70
  have F_touched := F_touched.ext E70
  have V_sa := V_sa.ext E70
  have V_pa := V_pa.ext E70
  have V_ba := V_ba.ext E70
  have V_fa := V_fa.ext E70
  have K71 := K67.ext E70
  have Z72 := Nat.le_trans Z68 E70.1
  have V_na : own_AF Z h70 na .int 4 (fun _ => .int (0 : Int32)) := own_AF.new A70 (by decide) (by decide)
  obtain ⟨T73, h73, X73, e73, W73, st73⟩ := putF X70 hx hZ hown (host := "") (Or.inl (hw _ (List.mem_of_getElem? (i := 18) rfl))) Via.refl e70 F_ends E_a1 (Or.inr ⟨(hw _ (List.mem_of_getElem? (i := 19) rfl)), rfl, hnm⟩) (hw _ (List.mem_of_getElem? (i := 1) rfl)) (ty := (.array .int)) (by decide) rfl rfl (g := (mkF m 63 #[.val (.ref a1), .val (.int (4 : Int32)), .val (.int (4 : Int32))] [(.ref na), (.ref a1)])) rfl rfl (hb hby own_d1_63)
  have E_a1 := E_a1.wr W73
  have F_blocks := F_blocks.other W73 (Or.inr (slot_ne (Or.inl (hw _ (List.mem_of_getElem? (i := 25) rfl))) (Or.inr (hw _ (List.mem_of_getElem? (i := 19) rfl))) (by decide) (t := .int) (t' := (.array .int)) (by decide) (by decide)))
  have F_touchedCount := F_touchedCount.other W73 (Or.inr (slot_ne (Or.inl (hw _ (List.mem_of_getElem? (i := 32) rfl))) (Or.inr (hw _ (List.mem_of_getElem? (i := 19) rfl))) (by decide) (t := .int) (t' := (.array .int)) (by decide) (by decide)))
  have F_states := F_states.other W73 (Or.inr (slot_ne (Or.inr (hw _ (List.mem_of_getElem? (i := 11) rfl))) (Or.inr (hw _ (List.mem_of_getElem? (i := 19) rfl))) (by decide) (t := (.array .int)) (t' := (.array .int)) (by decide) (by decide)))
  have F_positions := F_positions.other W73 (Or.inr (slot_ne (Or.inr (hw _ (List.mem_of_getElem? (i := 13) rfl))) (Or.inr (hw _ (List.mem_of_getElem? (i := 19) rfl))) (by decide) (t := (.array .int)) (t' := (.array .int)) (by decide) (by decide)))
  have F_blockOf := F_blockOf.other W73 (Or.inr (slot_ne (Or.inr (hw _ (List.mem_of_getElem? (i := 15) rfl))) (Or.inr (hw _ (List.mem_of_getElem? (i := 19) rfl))) (by decide) (t := (.array .int)) (t' := (.array .int)) (by decide) (by decide)))
  have F_firsts := F_firsts.other W73 (Or.inr (slot_ne (Or.inr (hw _ (List.mem_of_getElem? (i := 17) rfl))) (Or.inr (hw _ (List.mem_of_getElem? (i := 19) rfl))) (by decide) (t := (.array .int)) (t' := (.array .int)) (by decide) (by decide)))
  have F_ends := F_ends.same W73
  have F_marks := F_marks.other W73 (Or.inr (slot_ne (Or.inr (hw _ (List.mem_of_getElem? (i := 21) rfl))) (Or.inr (hw _ (List.mem_of_getElem? (i := 19) rfl))) (by decide) (t := (.array .int)) (t' := (.array .int)) (by decide) (by decide)))
  have F_touched := F_touched.other W73 (Or.inr (slot_ne (Or.inr (hw _ (List.mem_of_getElem? (i := 23) rfl))) (Or.inr (hw _ (List.mem_of_getElem? (i := 19) rfl))) (by decide) (t := (.array .int)) (t' := (.array .int)) (by decide) (by decide)))
  have V_sa := V_sa.other W73 (Ne.symm ne_a1_sa)
  have V_pa := V_pa.other W73 (Ne.symm ne_a1_pa)
  have V_ba := V_ba.other W73 (Ne.symm ne_a1_ba)
  have V_fa := V_fa.other W73 (Ne.symm ne_a1_fa)
  have V_na := V_na.other W73 (Ne.symm ne_a1_na)
  have K74 := K71.wr W73 (Or.inl (List.mem_of_getElem? (i := 0) rfl))
  have Z75 := Nat.le_trans Z72 (Keep.of_wr W73).1
  have N76 := Fr.snoc X73 N69 g_a1
  obtain ⟨T77, h77, k77, X77, e77, E77, A77, st77⟩ := newP X73 hx hZ (hw _ (List.mem_of_getElem? (i := 9) rfl)) e73 (g := (mkF m 68 #[.val (.ref a1), .val (.int (4 : Int32)), .val (.int (4 : Int32))] [(.int (4 : Int32)), (.ref a1)])) rfl (hb hby own_d1_68) rfl (by decide) (cap := 4) (by decide) (by decide) (by decide) (by decide)
  obtain ⟨ma, g77⟩ : ∃ z, z = h73.size := ⟨_, rfl⟩
  rw [← g77] at A77 st77
  have lt_a1_ma : a1 < ma := by rw [g77]; exact E_a1.lt
  have ne_a1_ma : a1 ≠ ma := Nat.ne_of_lt lt_a1_ma
  have lt_ba_ma : ba < ma := by rw [g77]; exact V_ba.lt
  have ne_ba_ma : ba ≠ ma := Nat.ne_of_lt lt_ba_ma
  have lt_fa_ma : fa < ma := by rw [g77]; exact V_fa.lt
  have ne_fa_ma : fa ≠ ma := Nat.ne_of_lt lt_fa_ma
  have lt_na_ma : na < ma := by rw [g77]; exact V_na.lt
  have ne_na_ma : na ≠ ma := Nat.ne_of_lt lt_na_ma
  have lt_pa_ma : pa < ma := by rw [g77]; exact V_pa.lt
  have ne_pa_ma : pa ≠ ma := Nat.ne_of_lt lt_pa_ma
  have lt_sa_ma : sa < ma := by rw [g77]; exact V_sa.lt
  have ne_sa_ma : sa ≠ ma := Nat.ne_of_lt lt_sa_ma
  have g_ma : n0 ≤ ma := by rw [g77]; exact Z75
  have sz_ma : h0.size ≤ ma := by rw [g77]; exact K74.1
  have E_a1 := E_a1.ext E77
  have F_blocks := F_blocks.ext E77
  have F_touchedCount := F_touchedCount.ext E77
  have F_states := F_states.ext E77
  have F_positions := F_positions.ext E77
  have F_blockOf := F_blockOf.ext E77
  have F_firsts := F_firsts.ext E77
  have F_ends := F_ends.ext E77
  have F_marks := F_marks.ext E77
  have F_touched := F_touched.ext E77
  have V_sa := V_sa.ext E77
  have V_pa := V_pa.ext E77
  have V_ba := V_ba.ext E77
  have V_fa := V_fa.ext E77
  have V_na := V_na.ext E77
  have K78 := K74.ext E77
  have Z79 := Nat.le_trans Z75 E77.1
  have V_ma : own_AF Z h77 ma .int 4 (fun _ => .int (0 : Int32)) := own_AF.new A77 (by decide) (by decide)
  obtain ⟨T80, h80, X80, e80, W80, st80⟩ := putF X77 hx hZ hown (host := "") (Or.inl (hw _ (List.mem_of_getElem? (i := 20) rfl))) Via.refl e77 F_marks E_a1 (Or.inr ⟨(hw _ (List.mem_of_getElem? (i := 21) rfl)), rfl, hnm⟩) (hw _ (List.mem_of_getElem? (i := 1) rfl)) (ty := (.array .int)) (by decide) rfl rfl (g := (mkF m 70 #[.val (.ref a1), .val (.int (4 : Int32)), .val (.int (4 : Int32))] [(.ref ma), (.ref a1)])) rfl rfl (hb hby own_d1_70)
  have E_a1 := E_a1.wr W80
  have F_blocks := F_blocks.other W80 (Or.inr (slot_ne (Or.inl (hw _ (List.mem_of_getElem? (i := 25) rfl))) (Or.inr (hw _ (List.mem_of_getElem? (i := 21) rfl))) (by decide) (t := .int) (t' := (.array .int)) (by decide) (by decide)))
  have F_touchedCount := F_touchedCount.other W80 (Or.inr (slot_ne (Or.inl (hw _ (List.mem_of_getElem? (i := 32) rfl))) (Or.inr (hw _ (List.mem_of_getElem? (i := 21) rfl))) (by decide) (t := .int) (t' := (.array .int)) (by decide) (by decide)))
  have F_states := F_states.other W80 (Or.inr (slot_ne (Or.inr (hw _ (List.mem_of_getElem? (i := 11) rfl))) (Or.inr (hw _ (List.mem_of_getElem? (i := 21) rfl))) (by decide) (t := (.array .int)) (t' := (.array .int)) (by decide) (by decide)))
  have F_positions := F_positions.other W80 (Or.inr (slot_ne (Or.inr (hw _ (List.mem_of_getElem? (i := 13) rfl))) (Or.inr (hw _ (List.mem_of_getElem? (i := 21) rfl))) (by decide) (t := (.array .int)) (t' := (.array .int)) (by decide) (by decide)))
  have F_blockOf := F_blockOf.other W80 (Or.inr (slot_ne (Or.inr (hw _ (List.mem_of_getElem? (i := 15) rfl))) (Or.inr (hw _ (List.mem_of_getElem? (i := 21) rfl))) (by decide) (t := (.array .int)) (t' := (.array .int)) (by decide) (by decide)))
  have F_firsts := F_firsts.other W80 (Or.inr (slot_ne (Or.inr (hw _ (List.mem_of_getElem? (i := 17) rfl))) (Or.inr (hw _ (List.mem_of_getElem? (i := 21) rfl))) (by decide) (t := (.array .int)) (t' := (.array .int)) (by decide) (by decide)))
  have F_ends := F_ends.other W80 (Or.inr (slot_ne (Or.inr (hw _ (List.mem_of_getElem? (i := 19) rfl))) (Or.inr (hw _ (List.mem_of_getElem? (i := 21) rfl))) (by decide) (t := (.array .int)) (t' := (.array .int)) (by decide) (by decide)))
  have F_marks := F_marks.same W80
  have F_touched := F_touched.other W80 (Or.inr (slot_ne (Or.inr (hw _ (List.mem_of_getElem? (i := 23) rfl))) (Or.inr (hw _ (List.mem_of_getElem? (i := 21) rfl))) (by decide) (t := (.array .int)) (t' := (.array .int)) (by decide) (by decide)))
  have V_sa := V_sa.other W80 (Ne.symm ne_a1_sa)
  have V_pa := V_pa.other W80 (Ne.symm ne_a1_pa)
  have V_ba := V_ba.other W80 (Ne.symm ne_a1_ba)
  have V_fa := V_fa.other W80 (Ne.symm ne_a1_fa)
  have V_na := V_na.other W80 (Ne.symm ne_a1_na)
  have V_ma := V_ma.other W80 (Ne.symm ne_a1_ma)
  have K81 := K78.wr W80 (Or.inl (List.mem_of_getElem? (i := 0) rfl))
  have Z82 := Nat.le_trans Z79 (Keep.of_wr W80).1
  have N83 := Fr.snoc X80 N76 g_a1
  obtain ⟨T84, h84, k84, X84, e84, E84, A84, st84⟩ := newP X80 hx hZ (hw _ (List.mem_of_getElem? (i := 9) rfl)) e80 (g := (mkF m 75 #[.val (.ref a1), .val (.int (4 : Int32)), .val (.int (4 : Int32))] [(.int (4 : Int32)), (.ref a1)])) rfl (hb hby own_d1_75) rfl (by decide) (cap := 4) (by decide) (by decide) (by decide) (by decide)
  obtain ⟨ta, g84⟩ : ∃ z, z = h80.size := ⟨_, rfl⟩
  rw [← g84] at A84 st84
  have lt_a1_ta : a1 < ta := by rw [g84]; exact E_a1.lt
  have ne_a1_ta : a1 ≠ ta := Nat.ne_of_lt lt_a1_ta
  have lt_ba_ta : ba < ta := by rw [g84]; exact V_ba.lt
  have ne_ba_ta : ba ≠ ta := Nat.ne_of_lt lt_ba_ta
  have lt_fa_ta : fa < ta := by rw [g84]; exact V_fa.lt
  have ne_fa_ta : fa ≠ ta := Nat.ne_of_lt lt_fa_ta
  have lt_ma_ta : ma < ta := by rw [g84]; exact V_ma.lt
  have ne_ma_ta : ma ≠ ta := Nat.ne_of_lt lt_ma_ta
  have lt_na_ta : na < ta := by rw [g84]; exact V_na.lt
  have ne_na_ta : na ≠ ta := Nat.ne_of_lt lt_na_ta
  have lt_pa_ta : pa < ta := by rw [g84]; exact V_pa.lt
  have ne_pa_ta : pa ≠ ta := Nat.ne_of_lt lt_pa_ta
  have lt_sa_ta : sa < ta := by rw [g84]; exact V_sa.lt
  have ne_sa_ta : sa ≠ ta := Nat.ne_of_lt lt_sa_ta
  have g_ta : n0 ≤ ta := by rw [g84]; exact Z82
  have sz_ta : h0.size ≤ ta := by rw [g84]; exact K81.1
  have E_a1 := E_a1.ext E84
  have F_blocks := F_blocks.ext E84
  have F_touchedCount := F_touchedCount.ext E84
  have F_states := F_states.ext E84
  have F_positions := F_positions.ext E84
  have F_blockOf := F_blockOf.ext E84
  have F_firsts := F_firsts.ext E84
  have F_ends := F_ends.ext E84
  have F_marks := F_marks.ext E84
  have F_touched := F_touched.ext E84
  have V_sa := V_sa.ext E84
  have V_pa := V_pa.ext E84
  have V_ba := V_ba.ext E84
  have V_fa := V_fa.ext E84
  have V_na := V_na.ext E84
  have V_ma := V_ma.ext E84
  have K85 := K81.ext E84
  have Z86 := Nat.le_trans Z82 E84.1
  have V_ta : own_AF Z h84 ta .int 4 (fun _ => .int (0 : Int32)) := own_AF.new A84 (by decide) (by decide)
  obtain ⟨T87, h87, X87, e87, W87, st87⟩ := putF X84 hx hZ hown (host := "") (Or.inl (hw _ (List.mem_of_getElem? (i := 22) rfl))) Via.refl e84 F_touched E_a1 (Or.inr ⟨(hw _ (List.mem_of_getElem? (i := 23) rfl)), rfl, hnm⟩) (hw _ (List.mem_of_getElem? (i := 1) rfl)) (ty := (.array .int)) (by decide) rfl rfl (g := (mkF m 77 #[.val (.ref a1), .val (.int (4 : Int32)), .val (.int (4 : Int32))] [(.ref ta), (.ref a1)])) rfl rfl (hb hby own_d1_77)
  have E_a1 := E_a1.wr W87
  have F_blocks := F_blocks.other W87 (Or.inr (slot_ne (Or.inl (hw _ (List.mem_of_getElem? (i := 25) rfl))) (Or.inr (hw _ (List.mem_of_getElem? (i := 23) rfl))) (by decide) (t := .int) (t' := (.array .int)) (by decide) (by decide)))
  have F_touchedCount := F_touchedCount.other W87 (Or.inr (slot_ne (Or.inl (hw _ (List.mem_of_getElem? (i := 32) rfl))) (Or.inr (hw _ (List.mem_of_getElem? (i := 23) rfl))) (by decide) (t := .int) (t' := (.array .int)) (by decide) (by decide)))
  have F_states := F_states.other W87 (Or.inr (slot_ne (Or.inr (hw _ (List.mem_of_getElem? (i := 11) rfl))) (Or.inr (hw _ (List.mem_of_getElem? (i := 23) rfl))) (by decide) (t := (.array .int)) (t' := (.array .int)) (by decide) (by decide)))
  have F_positions := F_positions.other W87 (Or.inr (slot_ne (Or.inr (hw _ (List.mem_of_getElem? (i := 13) rfl))) (Or.inr (hw _ (List.mem_of_getElem? (i := 23) rfl))) (by decide) (t := (.array .int)) (t' := (.array .int)) (by decide) (by decide)))
  have F_blockOf := F_blockOf.other W87 (Or.inr (slot_ne (Or.inr (hw _ (List.mem_of_getElem? (i := 15) rfl))) (Or.inr (hw _ (List.mem_of_getElem? (i := 23) rfl))) (by decide) (t := (.array .int)) (t' := (.array .int)) (by decide) (by decide)))
  have F_firsts := F_firsts.other W87 (Or.inr (slot_ne (Or.inr (hw _ (List.mem_of_getElem? (i := 17) rfl))) (Or.inr (hw _ (List.mem_of_getElem? (i := 23) rfl))) (by decide) (t := (.array .int)) (t' := (.array .int)) (by decide) (by decide)))
  have F_ends := F_ends.other W87 (Or.inr (slot_ne (Or.inr (hw _ (List.mem_of_getElem? (i := 19) rfl))) (Or.inr (hw _ (List.mem_of_getElem? (i := 23) rfl))) (by decide) (t := (.array .int)) (t' := (.array .int)) (by decide) (by decide)))
  have F_marks := F_marks.other W87 (Or.inr (slot_ne (Or.inr (hw _ (List.mem_of_getElem? (i := 21) rfl))) (Or.inr (hw _ (List.mem_of_getElem? (i := 23) rfl))) (by decide) (t := (.array .int)) (t' := (.array .int)) (by decide) (by decide)))
  have F_touched := F_touched.same W87
  have V_sa := V_sa.other W87 (Ne.symm ne_a1_sa)
  have V_pa := V_pa.other W87 (Ne.symm ne_a1_pa)
  have V_ba := V_ba.other W87 (Ne.symm ne_a1_ba)
  have V_fa := V_fa.other W87 (Ne.symm ne_a1_fa)
  have V_na := V_na.other W87 (Ne.symm ne_a1_na)
  have V_ma := V_ma.other W87 (Ne.symm ne_a1_ma)
  have V_ta := V_ta.other W87 (Ne.symm ne_a1_ta)
  have K88 := K85.wr W87 (Or.inl (List.mem_of_getElem? (i := 0) rfl))
  have Z89 := Nat.le_trans Z86 (Keep.of_wr W87).1
  have N90 := Fr.snoc X87 N83 g_a1
  obtain ⟨T91, X91, e91, st91⟩ := getF X87 hx hZ hown (host := "") (Or.inl (hw _ (List.mem_of_getElem? (i := 18) rfl))) Via.refl e87 F_ends (g := (mkF m 81 #[.val (.ref a1), .val (.int (4 : Int32)), .val (.int (4 : Int32))] [(.ref a1)])) rfl rfl (hb hby own_d1_81)
  obtain ⟨T92, h92, X92, e92, W92, V92, st92⟩ := own_stI X91 hx hZ e91 V_na (j := (0 : Int32)) (by decide) (k := 0) rfl (by decide) (g := (mkF m 86 #[.val (.ref a1), .val (.int (4 : Int32)), .val (.int (4 : Int32))] [(.int (4 : Int32)), (.int (0 : Int32)), (.ref na)])) rfl rfl (hb hby own_d1_86)
  have E_a1 := E_a1.wr W92
  have F_blocks := F_blocks.other W92 (Or.inl ne_a1_na)
  have F_touchedCount := F_touchedCount.other W92 (Or.inl ne_a1_na)
  have F_states := F_states.other W92 (Or.inl ne_a1_na)
  have F_positions := F_positions.other W92 (Or.inl ne_a1_na)
  have F_blockOf := F_blockOf.other W92 (Or.inl ne_a1_na)
  have F_firsts := F_firsts.other W92 (Or.inl ne_a1_na)
  have F_ends := F_ends.other W92 (Or.inl ne_a1_na)
  have F_marks := F_marks.other W92 (Or.inl ne_a1_na)
  have F_touched := F_touched.other W92 (Or.inl ne_a1_na)
  have V_sa := V_sa.other W92 ne_sa_na
  have V_pa := V_pa.other W92 ne_pa_na
  have V_ba := V_ba.other W92 ne_ba_na
  have V_fa := V_fa.other W92 ne_fa_na
  have V_ma := V_ma.other W92 (Ne.symm ne_na_ma)
  have V_ta := V_ta.other W92 (Ne.symm ne_na_ta)
  have K93 := K88.wr W92 (Or.inr sz_na)
  have Z94 := Nat.le_trans Z89 (Keep.of_wr W92).1
  have N95 := Fr.snoc X92 N90 g_na
  have V_na := V92
  obtain ⟨T96, h96, X96, e96, W96, st96⟩ := putF X92 hx hZ hown (host := "") (Or.inl (hw _ (List.mem_of_getElem? (i := 24) rfl))) Via.refl e92 F_blocks E_a1 (Or.inl (hw _ (List.mem_of_getElem? (i := 25) rfl))) (hw _ (List.mem_of_getElem? (i := 1) rfl)) (ty := .int) (by decide) rfl rfl (g := (mkF m 89 #[.val (.ref a1), .val (.int (4 : Int32)), .val (.int (4 : Int32))] [(.int (1 : Int32)), (.ref a1)])) rfl rfl (hb hby own_d1_89)
  have E_a1 := E_a1.wr W96
  have F_blocks := F_blocks.same W96
  have F_touchedCount := F_touchedCount.other W96 (Or.inr (slot_ne (Or.inl (hw _ (List.mem_of_getElem? (i := 32) rfl))) (Or.inl (hw _ (List.mem_of_getElem? (i := 25) rfl))) (by decide) (t := .int) (t' := .int) (by decide) (by decide)))
  have F_states := F_states.other W96 (Or.inr (slot_ne (Or.inr (hw _ (List.mem_of_getElem? (i := 11) rfl))) (Or.inl (hw _ (List.mem_of_getElem? (i := 25) rfl))) (by decide) (t := (.array .int)) (t' := .int) (by decide) (by decide)))
  have F_positions := F_positions.other W96 (Or.inr (slot_ne (Or.inr (hw _ (List.mem_of_getElem? (i := 13) rfl))) (Or.inl (hw _ (List.mem_of_getElem? (i := 25) rfl))) (by decide) (t := (.array .int)) (t' := .int) (by decide) (by decide)))
  have F_blockOf := F_blockOf.other W96 (Or.inr (slot_ne (Or.inr (hw _ (List.mem_of_getElem? (i := 15) rfl))) (Or.inl (hw _ (List.mem_of_getElem? (i := 25) rfl))) (by decide) (t := (.array .int)) (t' := .int) (by decide) (by decide)))
  have F_firsts := F_firsts.other W96 (Or.inr (slot_ne (Or.inr (hw _ (List.mem_of_getElem? (i := 17) rfl))) (Or.inl (hw _ (List.mem_of_getElem? (i := 25) rfl))) (by decide) (t := (.array .int)) (t' := .int) (by decide) (by decide)))
  have F_ends := F_ends.other W96 (Or.inr (slot_ne (Or.inr (hw _ (List.mem_of_getElem? (i := 19) rfl))) (Or.inl (hw _ (List.mem_of_getElem? (i := 25) rfl))) (by decide) (t := (.array .int)) (t' := .int) (by decide) (by decide)))
  have F_marks := F_marks.other W96 (Or.inr (slot_ne (Or.inr (hw _ (List.mem_of_getElem? (i := 21) rfl))) (Or.inl (hw _ (List.mem_of_getElem? (i := 25) rfl))) (by decide) (t := (.array .int)) (t' := .int) (by decide) (by decide)))
  have F_touched := F_touched.other W96 (Or.inr (slot_ne (Or.inr (hw _ (List.mem_of_getElem? (i := 23) rfl))) (Or.inl (hw _ (List.mem_of_getElem? (i := 25) rfl))) (by decide) (t := (.array .int)) (t' := .int) (by decide) (by decide)))
  have V_sa := V_sa.other W96 (Ne.symm ne_a1_sa)
  have V_pa := V_pa.other W96 (Ne.symm ne_a1_pa)
  have V_ba := V_ba.other W96 (Ne.symm ne_a1_ba)
  have V_fa := V_fa.other W96 (Ne.symm ne_a1_fa)
  have V_na := V_na.other W96 (Ne.symm ne_a1_na)
  have V_ma := V_ma.other W96 (Ne.symm ne_a1_ma)
  have V_ta := V_ta.other W96 (Ne.symm ne_a1_ta)
  have K97 := K93.wr W96 (Or.inl (List.mem_of_getElem? (i := 0) rfl))
  have Z98 := Nat.le_trans Z94 (Keep.of_wr W96).1
  have N99 := Fr.snoc X96 N95 g_a1
  obtain ⟨fs, hr, hrun, hended, hW, hsame⟩ := X96.leave (v := none) (fun _ => rfl) (BodyLoose.notSynchronized Bd)
  refine ⟨_, _, pre0 _ ?_, hrun, hended, _, _, rfl, ?_, ⟨_, rfl⟩, hW, hsame.mono (by decide) (by decide)⟩
  · skip
    show Steps p.tables e below (s₁.setTop (mkF m 0 #[.val (.ref a1), .val (.int (4 : Int32)), .unset] [])) _
    refine XS.aloadN X0.here hx rfl (hb hby own_d1_0) rfl rfl ?_
    show Steps p.tables e below (s₁.setTop (mkF m 1 #[.val (.ref a1), .val (.int (4 : Int32)), .unset] [(.ref a1)])) _
    refine st1 _ ?_
    show Steps p.tables e below (T1.setTop (mkF m 4 #[.val (.ref a1), .val (.int (4 : Int32)), .unset] [])) _
    refine XS.aloadN X1.here hx rfl (hb hby own_d1_4) rfl rfl ?_
    show Steps p.tables e below (T1.setTop (mkF m 5 #[.val (.ref a1), .val (.int (4 : Int32)), .unset] [(.ref a1)])) _
    refine XS.iloadN X1.here hx rfl (hb hby own_d1_5) rfl ?_
    show Steps p.tables e below (T1.setTop (mkF m 6 #[.val (.ref a1), .val (.int (4 : Int32)), .unset] [(.int (4 : Int32)), (.ref a1)])) _
    refine st2 _ ?_
    show Steps p.tables e below (T2.setTop (mkF m 8 #[.val (.ref a1), .val (.int (4 : Int32)), .unset] [(.ref sa), (.ref a1)])) _
    refine st5 _ ?_
    show Steps p.tables e below (T5.setTop (mkF m 11 #[.val (.ref a1), .val (.int (4 : Int32)), .unset] [])) _
    refine XS.aloadN X5.here hx rfl (hb hby own_d1_11) rfl rfl ?_
    show Steps p.tables e below (T5.setTop (mkF m 12 #[.val (.ref a1), .val (.int (4 : Int32)), .unset] [(.ref a1)])) _
    refine XS.iloadN X5.here hx rfl (hb hby own_d1_12) rfl ?_
    show Steps p.tables e below (T5.setTop (mkF m 13 #[.val (.ref a1), .val (.int (4 : Int32)), .unset] [(.int (4 : Int32)), (.ref a1)])) _
    refine st9 _ ?_
    show Steps p.tables e below (T9.setTop (mkF m 15 #[.val (.ref a1), .val (.int (4 : Int32)), .unset] [(.ref pa), (.ref a1)])) _
    refine st12 _ ?_
    show Steps p.tables e below (T12.setTop (mkF m 18 #[.val (.ref a1), .val (.int (4 : Int32)), .unset] [])) _
    refine XS.aloadN X12.here hx rfl (hb hby own_d1_18) rfl rfl ?_
    show Steps p.tables e below (T12.setTop (mkF m 19 #[.val (.ref a1), .val (.int (4 : Int32)), .unset] [(.ref a1)])) _
    refine XS.iloadN X12.here hx rfl (hb hby own_d1_19) rfl ?_
    show Steps p.tables e below (T12.setTop (mkF m 20 #[.val (.ref a1), .val (.int (4 : Int32)), .unset] [(.int (4 : Int32)), (.ref a1)])) _
    refine st16 _ ?_
    show Steps p.tables e below (T16.setTop (mkF m 22 #[.val (.ref a1), .val (.int (4 : Int32)), .unset] [(.ref ba), (.ref a1)])) _
    refine st19 _ ?_
    show Steps p.tables e below (T19.setTop (mkF m 25 #[.val (.ref a1), .val (.int (4 : Int32)), .unset] [])) _
    refine XS.iconst X19.here hx rfl (hb hby own_d1_25) ?_
    show Steps p.tables e below (T19.setTop (mkF m 26 #[.val (.ref a1), .val (.int (4 : Int32)), .unset] [(.int (0 : Int32))])) _
    refine XS.istoreN X19.here hx rfl (hb hby own_d1_26) rfl (l' := #[.val (.ref a1), .val (.int (4 : Int32)), .val (.int (0 : Int32))]) rfl ?_
    show Steps p.tables e below (T19.setTop (mkF m 27 #[.val (.ref a1), .val (.int (4 : Int32)), .val (.int (0 : Int32))] [])) _
    refine XS.iloadN X19.here hx rfl (hb hby own_d1_27) rfl ?_
    show Steps p.tables e below (T19.setTop (mkF m 28 #[.val (.ref a1), .val (.int (4 : Int32)), .val (.int (0 : Int32))] [(.int (0 : Int32))])) _
    refine XS.iloadN X19.here hx rfl (hb hby own_d1_28) rfl ?_
    show Steps p.tables e below (T19.setTop (mkF m 29 #[.val (.ref a1), .val (.int (4 : Int32)), .val (.int (0 : Int32))] [(.int (4 : Int32)), (.int (0 : Int32))])) _
    refine XS.icmpNo X19.here hx rfl (hb hby own_d1_29) rfl (tlt (by decide)).2.1 ?_
    show Steps p.tables e below (T19.setTop (mkF m 32 #[.val (.ref a1), .val (.int (4 : Int32)), .val (.int (0 : Int32))] [])) _
    refine XS.aloadN X19.here hx rfl (hb hby own_d1_32) rfl rfl ?_
    show Steps p.tables e below (T19.setTop (mkF m 33 #[.val (.ref a1), .val (.int (4 : Int32)), .val (.int (0 : Int32))] [(.ref a1)])) _
    refine st23 _ ?_
    show Steps p.tables e below (T23.setTop (mkF m 36 #[.val (.ref a1), .val (.int (4 : Int32)), .val (.int (0 : Int32))] [(.ref sa)])) _
    refine XS.iloadN X23.here hx rfl (hb hby own_d1_36) rfl ?_
    show Steps p.tables e below (T23.setTop (mkF m 37 #[.val (.ref a1), .val (.int (4 : Int32)), .val (.int (0 : Int32))] [(.int (0 : Int32)), (.ref sa)])) _
    refine XS.iloadN X23.here hx rfl (hb hby own_d1_37) rfl ?_
    show Steps p.tables e below (T23.setTop (mkF m 38 #[.val (.ref a1), .val (.int (4 : Int32)), .val (.int (0 : Int32))] [(.int (0 : Int32)), (.int (0 : Int32)), (.ref sa)])) _
    refine st24 _ ?_
    show Steps p.tables e below (T24.setTop (mkF m 39 #[.val (.ref a1), .val (.int (4 : Int32)), .val (.int (0 : Int32))] [])) _
    refine XS.aloadN X24.here hx rfl (hb hby own_d1_39) rfl rfl ?_
    show Steps p.tables e below (T24.setTop (mkF m 40 #[.val (.ref a1), .val (.int (4 : Int32)), .val (.int (0 : Int32))] [(.ref a1)])) _
    refine st28 _ ?_
    show Steps p.tables e below (T28.setTop (mkF m 43 #[.val (.ref a1), .val (.int (4 : Int32)), .val (.int (0 : Int32))] [(.ref pa)])) _
    refine XS.iloadN X28.here hx rfl (hb hby own_d1_43) rfl ?_
    show Steps p.tables e below (T28.setTop (mkF m 44 #[.val (.ref a1), .val (.int (4 : Int32)), .val (.int (0 : Int32))] [(.int (0 : Int32)), (.ref pa)])) _
    refine XS.iloadN X28.here hx rfl (hb hby own_d1_44) rfl ?_
    show Steps p.tables e below (T28.setTop (mkF m 45 #[.val (.ref a1), .val (.int (4 : Int32)), .val (.int (0 : Int32))] [(.int (0 : Int32)), (.int (0 : Int32)), (.ref pa)])) _
    refine st29 _ ?_
    show Steps p.tables e below (T29.setTop (mkF m 46 #[.val (.ref a1), .val (.int (4 : Int32)), .val (.int (0 : Int32))] [])) _
    refine XS.iinc X29.here hx rfl (hb hby own_d1_46) rfl (l' := #[.val (.ref a1), .val (.int (4 : Int32)), .val (.int (1 : Int32))]) rfl ?_
    show Steps p.tables e below (T29.setTop (mkF m 49 #[.val (.ref a1), .val (.int (4 : Int32)), .val (.int (1 : Int32))] [])) _
    refine XS.goto X29.here hx rfl (pc0 := 49) (pc' := 27) rfl (hb hby own_d1_49) (by decide) (by decide) ?_
    show Steps p.tables e below (T29.setTop (mkF m 27 #[.val (.ref a1), .val (.int (4 : Int32)), .val (.int (1 : Int32))] [])) _
    refine XS.iloadN X29.here hx rfl (hb hby own_d1_27) rfl ?_
    show Steps p.tables e below (T29.setTop (mkF m 28 #[.val (.ref a1), .val (.int (4 : Int32)), .val (.int (1 : Int32))] [(.int (1 : Int32))])) _
    refine XS.iloadN X29.here hx rfl (hb hby own_d1_28) rfl ?_
    show Steps p.tables e below (T29.setTop (mkF m 29 #[.val (.ref a1), .val (.int (4 : Int32)), .val (.int (1 : Int32))] [(.int (4 : Int32)), (.int (1 : Int32))])) _
    refine XS.icmpNo X29.here hx rfl (hb hby own_d1_29) rfl (tlt (by decide)).2.1 ?_
    show Steps p.tables e below (T29.setTop (mkF m 32 #[.val (.ref a1), .val (.int (4 : Int32)), .val (.int (1 : Int32))] [])) _
    refine XS.aloadN X29.here hx rfl (hb hby own_d1_32) rfl rfl ?_
    show Steps p.tables e below (T29.setTop (mkF m 33 #[.val (.ref a1), .val (.int (4 : Int32)), .val (.int (1 : Int32))] [(.ref a1)])) _
    refine st33 _ ?_
    show Steps p.tables e below (T33.setTop (mkF m 36 #[.val (.ref a1), .val (.int (4 : Int32)), .val (.int (1 : Int32))] [(.ref sa)])) _
    refine XS.iloadN X33.here hx rfl (hb hby own_d1_36) rfl ?_
    show Steps p.tables e below (T33.setTop (mkF m 37 #[.val (.ref a1), .val (.int (4 : Int32)), .val (.int (1 : Int32))] [(.int (1 : Int32)), (.ref sa)])) _
    refine XS.iloadN X33.here hx rfl (hb hby own_d1_37) rfl ?_
    show Steps p.tables e below (T33.setTop (mkF m 38 #[.val (.ref a1), .val (.int (4 : Int32)), .val (.int (1 : Int32))] [(.int (1 : Int32)), (.int (1 : Int32)), (.ref sa)])) _
    refine st34 _ ?_
    show Steps p.tables e below (T34.setTop (mkF m 39 #[.val (.ref a1), .val (.int (4 : Int32)), .val (.int (1 : Int32))] [])) _
    refine XS.aloadN X34.here hx rfl (hb hby own_d1_39) rfl rfl ?_
    show Steps p.tables e below (T34.setTop (mkF m 40 #[.val (.ref a1), .val (.int (4 : Int32)), .val (.int (1 : Int32))] [(.ref a1)])) _
    refine st38 _ ?_
    show Steps p.tables e below (T38.setTop (mkF m 43 #[.val (.ref a1), .val (.int (4 : Int32)), .val (.int (1 : Int32))] [(.ref pa)])) _
    refine XS.iloadN X38.here hx rfl (hb hby own_d1_43) rfl ?_
    show Steps p.tables e below (T38.setTop (mkF m 44 #[.val (.ref a1), .val (.int (4 : Int32)), .val (.int (1 : Int32))] [(.int (1 : Int32)), (.ref pa)])) _
    refine XS.iloadN X38.here hx rfl (hb hby own_d1_44) rfl ?_
    show Steps p.tables e below (T38.setTop (mkF m 45 #[.val (.ref a1), .val (.int (4 : Int32)), .val (.int (1 : Int32))] [(.int (1 : Int32)), (.int (1 : Int32)), (.ref pa)])) _
    refine st39 _ ?_
    show Steps p.tables e below (T39.setTop (mkF m 46 #[.val (.ref a1), .val (.int (4 : Int32)), .val (.int (1 : Int32))] [])) _
    refine XS.iinc X39.here hx rfl (hb hby own_d1_46) rfl (l' := #[.val (.ref a1), .val (.int (4 : Int32)), .val (.int (2 : Int32))]) rfl ?_
    show Steps p.tables e below (T39.setTop (mkF m 49 #[.val (.ref a1), .val (.int (4 : Int32)), .val (.int (2 : Int32))] [])) _
    refine XS.goto X39.here hx rfl (pc0 := 49) (pc' := 27) rfl (hb hby own_d1_49) (by decide) (by decide) ?_
    show Steps p.tables e below (T39.setTop (mkF m 27 #[.val (.ref a1), .val (.int (4 : Int32)), .val (.int (2 : Int32))] [])) _
    refine XS.iloadN X39.here hx rfl (hb hby own_d1_27) rfl ?_
    show Steps p.tables e below (T39.setTop (mkF m 28 #[.val (.ref a1), .val (.int (4 : Int32)), .val (.int (2 : Int32))] [(.int (2 : Int32))])) _
    refine XS.iloadN X39.here hx rfl (hb hby own_d1_28) rfl ?_
    show Steps p.tables e below (T39.setTop (mkF m 29 #[.val (.ref a1), .val (.int (4 : Int32)), .val (.int (2 : Int32))] [(.int (4 : Int32)), (.int (2 : Int32))])) _
    refine XS.icmpNo X39.here hx rfl (hb hby own_d1_29) rfl (tlt (by decide)).2.1 ?_
    show Steps p.tables e below (T39.setTop (mkF m 32 #[.val (.ref a1), .val (.int (4 : Int32)), .val (.int (2 : Int32))] [])) _
    refine XS.aloadN X39.here hx rfl (hb hby own_d1_32) rfl rfl ?_
    show Steps p.tables e below (T39.setTop (mkF m 33 #[.val (.ref a1), .val (.int (4 : Int32)), .val (.int (2 : Int32))] [(.ref a1)])) _
    refine st43 _ ?_
    show Steps p.tables e below (T43.setTop (mkF m 36 #[.val (.ref a1), .val (.int (4 : Int32)), .val (.int (2 : Int32))] [(.ref sa)])) _
    refine XS.iloadN X43.here hx rfl (hb hby own_d1_36) rfl ?_
    show Steps p.tables e below (T43.setTop (mkF m 37 #[.val (.ref a1), .val (.int (4 : Int32)), .val (.int (2 : Int32))] [(.int (2 : Int32)), (.ref sa)])) _
    refine XS.iloadN X43.here hx rfl (hb hby own_d1_37) rfl ?_
    show Steps p.tables e below (T43.setTop (mkF m 38 #[.val (.ref a1), .val (.int (4 : Int32)), .val (.int (2 : Int32))] [(.int (2 : Int32)), (.int (2 : Int32)), (.ref sa)])) _
    refine st44 _ ?_
    show Steps p.tables e below (T44.setTop (mkF m 39 #[.val (.ref a1), .val (.int (4 : Int32)), .val (.int (2 : Int32))] [])) _
    refine XS.aloadN X44.here hx rfl (hb hby own_d1_39) rfl rfl ?_
    show Steps p.tables e below (T44.setTop (mkF m 40 #[.val (.ref a1), .val (.int (4 : Int32)), .val (.int (2 : Int32))] [(.ref a1)])) _
    refine st48 _ ?_
    show Steps p.tables e below (T48.setTop (mkF m 43 #[.val (.ref a1), .val (.int (4 : Int32)), .val (.int (2 : Int32))] [(.ref pa)])) _
    refine XS.iloadN X48.here hx rfl (hb hby own_d1_43) rfl ?_
    show Steps p.tables e below (T48.setTop (mkF m 44 #[.val (.ref a1), .val (.int (4 : Int32)), .val (.int (2 : Int32))] [(.int (2 : Int32)), (.ref pa)])) _
    refine XS.iloadN X48.here hx rfl (hb hby own_d1_44) rfl ?_
    show Steps p.tables e below (T48.setTop (mkF m 45 #[.val (.ref a1), .val (.int (4 : Int32)), .val (.int (2 : Int32))] [(.int (2 : Int32)), (.int (2 : Int32)), (.ref pa)])) _
    refine st49 _ ?_
    show Steps p.tables e below (T49.setTop (mkF m 46 #[.val (.ref a1), .val (.int (4 : Int32)), .val (.int (2 : Int32))] [])) _
    refine XS.iinc X49.here hx rfl (hb hby own_d1_46) rfl (l' := #[.val (.ref a1), .val (.int (4 : Int32)), .val (.int (3 : Int32))]) rfl ?_
    show Steps p.tables e below (T49.setTop (mkF m 49 #[.val (.ref a1), .val (.int (4 : Int32)), .val (.int (3 : Int32))] [])) _
    refine XS.goto X49.here hx rfl (pc0 := 49) (pc' := 27) rfl (hb hby own_d1_49) (by decide) (by decide) ?_
    show Steps p.tables e below (T49.setTop (mkF m 27 #[.val (.ref a1), .val (.int (4 : Int32)), .val (.int (3 : Int32))] [])) _
    refine XS.iloadN X49.here hx rfl (hb hby own_d1_27) rfl ?_
    show Steps p.tables e below (T49.setTop (mkF m 28 #[.val (.ref a1), .val (.int (4 : Int32)), .val (.int (3 : Int32))] [(.int (3 : Int32))])) _
    refine XS.iloadN X49.here hx rfl (hb hby own_d1_28) rfl ?_
    show Steps p.tables e below (T49.setTop (mkF m 29 #[.val (.ref a1), .val (.int (4 : Int32)), .val (.int (3 : Int32))] [(.int (4 : Int32)), (.int (3 : Int32))])) _
    refine XS.icmpNo X49.here hx rfl (hb hby own_d1_29) rfl (tlt (by decide)).2.1 ?_
    show Steps p.tables e below (T49.setTop (mkF m 32 #[.val (.ref a1), .val (.int (4 : Int32)), .val (.int (3 : Int32))] [])) _
    refine XS.aloadN X49.here hx rfl (hb hby own_d1_32) rfl rfl ?_
    show Steps p.tables e below (T49.setTop (mkF m 33 #[.val (.ref a1), .val (.int (4 : Int32)), .val (.int (3 : Int32))] [(.ref a1)])) _
    refine st53 _ ?_
    show Steps p.tables e below (T53.setTop (mkF m 36 #[.val (.ref a1), .val (.int (4 : Int32)), .val (.int (3 : Int32))] [(.ref sa)])) _
    refine XS.iloadN X53.here hx rfl (hb hby own_d1_36) rfl ?_
    show Steps p.tables e below (T53.setTop (mkF m 37 #[.val (.ref a1), .val (.int (4 : Int32)), .val (.int (3 : Int32))] [(.int (3 : Int32)), (.ref sa)])) _
    refine XS.iloadN X53.here hx rfl (hb hby own_d1_37) rfl ?_
    show Steps p.tables e below (T53.setTop (mkF m 38 #[.val (.ref a1), .val (.int (4 : Int32)), .val (.int (3 : Int32))] [(.int (3 : Int32)), (.int (3 : Int32)), (.ref sa)])) _
    refine st54 _ ?_
    show Steps p.tables e below (T54.setTop (mkF m 39 #[.val (.ref a1), .val (.int (4 : Int32)), .val (.int (3 : Int32))] [])) _
    refine XS.aloadN X54.here hx rfl (hb hby own_d1_39) rfl rfl ?_
    show Steps p.tables e below (T54.setTop (mkF m 40 #[.val (.ref a1), .val (.int (4 : Int32)), .val (.int (3 : Int32))] [(.ref a1)])) _
    refine st58 _ ?_
    show Steps p.tables e below (T58.setTop (mkF m 43 #[.val (.ref a1), .val (.int (4 : Int32)), .val (.int (3 : Int32))] [(.ref pa)])) _
    refine XS.iloadN X58.here hx rfl (hb hby own_d1_43) rfl ?_
    show Steps p.tables e below (T58.setTop (mkF m 44 #[.val (.ref a1), .val (.int (4 : Int32)), .val (.int (3 : Int32))] [(.int (3 : Int32)), (.ref pa)])) _
    refine XS.iloadN X58.here hx rfl (hb hby own_d1_44) rfl ?_
    show Steps p.tables e below (T58.setTop (mkF m 45 #[.val (.ref a1), .val (.int (4 : Int32)), .val (.int (3 : Int32))] [(.int (3 : Int32)), (.int (3 : Int32)), (.ref pa)])) _
    refine st59 _ ?_
    show Steps p.tables e below (T59.setTop (mkF m 46 #[.val (.ref a1), .val (.int (4 : Int32)), .val (.int (3 : Int32))] [])) _
    refine XS.iinc X59.here hx rfl (hb hby own_d1_46) rfl (l' := #[.val (.ref a1), .val (.int (4 : Int32)), .val (.int (4 : Int32))]) rfl ?_
    show Steps p.tables e below (T59.setTop (mkF m 49 #[.val (.ref a1), .val (.int (4 : Int32)), .val (.int (4 : Int32))] [])) _
    refine XS.goto X59.here hx rfl (pc0 := 49) (pc' := 27) rfl (hb hby own_d1_49) (by decide) (by decide) ?_
    show Steps p.tables e below (T59.setTop (mkF m 27 #[.val (.ref a1), .val (.int (4 : Int32)), .val (.int (4 : Int32))] [])) _
    refine XS.iloadN X59.here hx rfl (hb hby own_d1_27) rfl ?_
    show Steps p.tables e below (T59.setTop (mkF m 28 #[.val (.ref a1), .val (.int (4 : Int32)), .val (.int (4 : Int32))] [(.int (4 : Int32))])) _
    refine XS.iloadN X59.here hx rfl (hb hby own_d1_28) rfl ?_
    show Steps p.tables e below (T59.setTop (mkF m 29 #[.val (.ref a1), .val (.int (4 : Int32)), .val (.int (4 : Int32))] [(.int (4 : Int32)), (.int (4 : Int32))])) _
    refine XS.icmpYes X59.here hx rfl (pc0 := 29) (pc' := 52) rfl (hb hby own_d1_29) rfl (flt (by decide)).2.1 (by decide) (by decide) ?_
    show Steps p.tables e below (T59.setTop (mkF m 52 #[.val (.ref a1), .val (.int (4 : Int32)), .val (.int (4 : Int32))] [])) _
    refine XS.aloadN X59.here hx rfl (hb hby own_d1_52) rfl rfl ?_
    show Steps p.tables e below (T59.setTop (mkF m 53 #[.val (.ref a1), .val (.int (4 : Int32)), .val (.int (4 : Int32))] [(.ref a1)])) _
    refine XS.iloadN X59.here hx rfl (hb hby own_d1_53) rfl ?_
    show Steps p.tables e below (T59.setTop (mkF m 54 #[.val (.ref a1), .val (.int (4 : Int32)), .val (.int (4 : Int32))] [(.int (4 : Int32)), (.ref a1)])) _
    refine st63 _ ?_
    show Steps p.tables e below (T63.setTop (mkF m 56 #[.val (.ref a1), .val (.int (4 : Int32)), .val (.int (4 : Int32))] [(.ref fa), (.ref a1)])) _
    refine st66 _ ?_
    show Steps p.tables e below (T66.setTop (mkF m 59 #[.val (.ref a1), .val (.int (4 : Int32)), .val (.int (4 : Int32))] [])) _
    refine XS.aloadN X66.here hx rfl (hb hby own_d1_59) rfl rfl ?_
    show Steps p.tables e below (T66.setTop (mkF m 60 #[.val (.ref a1), .val (.int (4 : Int32)), .val (.int (4 : Int32))] [(.ref a1)])) _
    refine XS.iloadN X66.here hx rfl (hb hby own_d1_60) rfl ?_
    show Steps p.tables e below (T66.setTop (mkF m 61 #[.val (.ref a1), .val (.int (4 : Int32)), .val (.int (4 : Int32))] [(.int (4 : Int32)), (.ref a1)])) _
    refine st70 _ ?_
    show Steps p.tables e below (T70.setTop (mkF m 63 #[.val (.ref a1), .val (.int (4 : Int32)), .val (.int (4 : Int32))] [(.ref na), (.ref a1)])) _
    refine st73 _ ?_
    show Steps p.tables e below (T73.setTop (mkF m 66 #[.val (.ref a1), .val (.int (4 : Int32)), .val (.int (4 : Int32))] [])) _
    refine XS.aloadN X73.here hx rfl (hb hby own_d1_66) rfl rfl ?_
    show Steps p.tables e below (T73.setTop (mkF m 67 #[.val (.ref a1), .val (.int (4 : Int32)), .val (.int (4 : Int32))] [(.ref a1)])) _
    refine XS.iloadN X73.here hx rfl (hb hby own_d1_67) rfl ?_
    show Steps p.tables e below (T73.setTop (mkF m 68 #[.val (.ref a1), .val (.int (4 : Int32)), .val (.int (4 : Int32))] [(.int (4 : Int32)), (.ref a1)])) _
    refine st77 _ ?_
    show Steps p.tables e below (T77.setTop (mkF m 70 #[.val (.ref a1), .val (.int (4 : Int32)), .val (.int (4 : Int32))] [(.ref ma), (.ref a1)])) _
    refine st80 _ ?_
    show Steps p.tables e below (T80.setTop (mkF m 73 #[.val (.ref a1), .val (.int (4 : Int32)), .val (.int (4 : Int32))] [])) _
    refine XS.aloadN X80.here hx rfl (hb hby own_d1_73) rfl rfl ?_
    show Steps p.tables e below (T80.setTop (mkF m 74 #[.val (.ref a1), .val (.int (4 : Int32)), .val (.int (4 : Int32))] [(.ref a1)])) _
    refine XS.iloadN X80.here hx rfl (hb hby own_d1_74) rfl ?_
    show Steps p.tables e below (T80.setTop (mkF m 75 #[.val (.ref a1), .val (.int (4 : Int32)), .val (.int (4 : Int32))] [(.int (4 : Int32)), (.ref a1)])) _
    refine st84 _ ?_
    show Steps p.tables e below (T84.setTop (mkF m 77 #[.val (.ref a1), .val (.int (4 : Int32)), .val (.int (4 : Int32))] [(.ref ta), (.ref a1)])) _
    refine st87 _ ?_
    show Steps p.tables e below (T87.setTop (mkF m 80 #[.val (.ref a1), .val (.int (4 : Int32)), .val (.int (4 : Int32))] [])) _
    refine XS.aloadN X87.here hx rfl (hb hby own_d1_80) rfl rfl ?_
    show Steps p.tables e below (T87.setTop (mkF m 81 #[.val (.ref a1), .val (.int (4 : Int32)), .val (.int (4 : Int32))] [(.ref a1)])) _
    refine st91 _ ?_
    show Steps p.tables e below (T91.setTop (mkF m 84 #[.val (.ref a1), .val (.int (4 : Int32)), .val (.int (4 : Int32))] [(.ref na)])) _
    refine XS.iconst X91.here hx rfl (hb hby own_d1_84) ?_
    show Steps p.tables e below (T91.setTop (mkF m 85 #[.val (.ref a1), .val (.int (4 : Int32)), .val (.int (4 : Int32))] [(.int (0 : Int32)), (.ref na)])) _
    refine XS.iloadN X91.here hx rfl (hb hby own_d1_85) rfl ?_
    show Steps p.tables e below (T91.setTop (mkF m 86 #[.val (.ref a1), .val (.int (4 : Int32)), .val (.int (4 : Int32))] [(.int (4 : Int32)), (.int (0 : Int32)), (.ref na)])) _
    refine st92 _ ?_
    show Steps p.tables e below (T92.setTop (mkF m 87 #[.val (.ref a1), .val (.int (4 : Int32)), .val (.int (4 : Int32))] [])) _
    refine XS.aloadN X92.here hx rfl (hb hby own_d1_87) rfl rfl ?_
    show Steps p.tables e below (T92.setTop (mkF m 88 #[.val (.ref a1), .val (.int (4 : Int32)), .val (.int (4 : Int32))] [(.ref a1)])) _
    refine XS.iconst X92.here hx rfl (hb hby own_d1_88) ?_
    show Steps p.tables e below (T92.setTop (mkF m 89 #[.val (.ref a1), .val (.int (4 : Int32)), .val (.int (4 : Int32))] [(.int (1 : Int32)), (.ref a1)])) _
    refine st96 _ ?_
    show Steps p.tables e below (T96.setTop (mkF m 92 #[.val (.ref a1), .val (.int (4 : Int32)), .val (.int (4 : Int32))] [])) _
    exact X96.returnOut hx Bd.returns (hb hby own_d1_92) hr
  · show own_Q1 Z a1 h0 n0 _ T96.heap _
    rw [e96]
    refine ⟨rfl, N99, K97, sa, pa, ba, fa, na, ma, ta, ⟨lt_a1_sa, lt_sa_pa, lt_pa_ba, lt_ba_fa, lt_fa_na, lt_na_ma, lt_ma_ta⟩, sz_sa, E_a1, F_states, F_positions, F_blockOf, F_firsts, F_ends, F_marks, F_touched, F_touchedCount, _, V_sa.congr (fun i hi => by
        rcases i with _ | _ | _ | _ | i <;> first | rfl | omega), V_pa.congr (fun i hi => by
        rcases i with _ | _ | _ | _ | i <;> first | rfl | omega), V_ba, V_fa, V_na.congr (fun i hi => by
        rcases i with _ | _ | _ | _ | i <;> first | rfl | omega), V_ma.congr (fun i hi => by
        rcases i with _ | _ | _ | _ | i <;> first | rfl | omega), V_ta⟩
theorem own_d3_0 : decode prog_46_method_7_code 0 = .ok (.aload_n 0, 1) := by decide +kernel
theorem own_d3_1 : decode prog_46_method_7_code 1 = .ok (.getfield 16, 3) := by decide +kernel
theorem own_d3_4 : decode prog_46_method_7_code 4 = .ok (.iload_n 1, 1) := by decide +kernel
theorem own_d3_5 : decode prog_46_method_7_code 5 = .ok (.iaload, 1) := by decide +kernel
theorem own_d3_6 : decode prog_46_method_7_code 6 = .ok (.istore_n 2, 1) := by decide +kernel
theorem own_d3_7 : decode prog_46_method_7_code 7 = .ok (.aload_n 0, 1) := by decide +kernel
theorem own_d3_8 : decode prog_46_method_7_code 8 = .ok (.getfield 19, 3) := by decide +kernel
theorem own_d3_11 : decode prog_46_method_7_code 11 = .ok (.iload_n 2, 1) := by decide +kernel
theorem own_d3_12 : decode prog_46_method_7_code 12 = .ok (.iaload, 1) := by decide +kernel
theorem own_d3_13 : decode prog_46_method_7_code 13 = .ok (.aload_n 0, 1) := by decide +kernel
theorem own_d3_14 : decode prog_46_method_7_code 14 = .ok (.getfield 25, 3) := by decide +kernel
theorem own_d3_17 : decode prog_46_method_7_code 17 = .ok (.iload_n 2, 1) := by decide +kernel
theorem own_d3_18 : decode prog_46_method_7_code 18 = .ok (.iaload, 1) := by decide +kernel
theorem own_d3_19 : decode prog_46_method_7_code 19 = .ok (.iadd, 1) := by decide +kernel
theorem own_d3_20 : decode prog_46_method_7_code 20 = .ok (.istore_n 3, 1) := by decide +kernel
theorem own_d3_21 : decode prog_46_method_7_code 21 = .ok (.aload_n 0, 1) := by decide +kernel
theorem own_d3_22 : decode prog_46_method_7_code 22 = .ok (.getfield 13, 3) := by decide +kernel
theorem own_d3_25 : decode prog_46_method_7_code 25 = .ok (.iload_n 1, 1) := by decide +kernel
theorem own_d3_26 : decode prog_46_method_7_code 26 = .ok (.iaload, 1) := by decide +kernel
theorem own_d3_27 : decode prog_46_method_7_code 27 = .ok (.istore 4, 2) := by decide +kernel
theorem own_d3_29 : decode prog_46_method_7_code 29 = .ok (.iload 4, 2) := by decide +kernel
theorem own_d3_31 : decode prog_46_method_7_code 31 = .ok (.iload_n 3, 1) := by decide +kernel
theorem own_d3_32 : decode prog_46_method_7_code 32 = .ok (.if_icmp .ge 4, 3) := by decide +kernel
theorem own_d3_35 : decode prog_46_method_7_code 35 = .ok (.return_, 1) := by decide +kernel
theorem own_d3_36 : decode prog_46_method_7_code 36 = .ok (.aload_n 0, 1) := by decide +kernel
theorem own_d3_37 : decode prog_46_method_7_code 37 = .ok (.getfield 25, 3) := by decide +kernel
theorem own_d3_40 : decode prog_46_method_7_code 40 = .ok (.iload_n 2, 1) := by decide +kernel
theorem own_d3_41 : decode prog_46_method_7_code 41 = .ok (.iaload, 1) := by decide +kernel
theorem own_d3_42 : decode prog_46_method_7_code 42 = .ok (.ifCond .ne 20, 3) := by decide +kernel
theorem own_d3_45 : decode prog_46_method_7_code 45 = .ok (.aload_n 0, 1) := by decide +kernel
theorem own_d3_46 : decode prog_46_method_7_code 46 = .ok (.getfield 28, 3) := by decide +kernel
theorem own_d3_49 : decode prog_46_method_7_code 49 = .ok (.aload_n 0, 1) := by decide +kernel
theorem own_d3_50 : decode prog_46_method_7_code 50 = .ok (.dup, 1) := by decide +kernel
theorem own_d3_51 : decode prog_46_method_7_code 51 = .ok (.getfield 35, 3) := by decide +kernel
theorem own_d3_54 : decode prog_46_method_7_code 54 = .ok (.dup_x1, 1) := by decide +kernel
theorem own_d3_55 : decode prog_46_method_7_code 55 = .ok (.iconst 1, 1) := by decide +kernel
theorem own_d3_56 : decode prog_46_method_7_code 56 = .ok (.iadd, 1) := by decide +kernel
theorem own_d3_57 : decode prog_46_method_7_code 57 = .ok (.putfield 35, 3) := by decide +kernel
theorem own_d3_60 : decode prog_46_method_7_code 60 = .ok (.iload_n 2, 1) := by decide +kernel
theorem own_d3_61 : decode prog_46_method_7_code 61 = .ok (.iastore, 1) := by decide +kernel
theorem own_d3_62 : decode prog_46_method_7_code 62 = .ok (.aload_n 0, 1) := by decide +kernel
theorem own_d3_63 : decode prog_46_method_7_code 63 = .ok (.getfield 7, 3) := by decide +kernel
theorem own_d3_66 : decode prog_46_method_7_code 66 = .ok (.iload_n 3, 1) := by decide +kernel
theorem own_d3_67 : decode prog_46_method_7_code 67 = .ok (.iaload, 1) := by decide +kernel
theorem own_d3_68 : decode prog_46_method_7_code 68 = .ok (.istore 5, 2) := by decide +kernel
theorem own_d3_70 : decode prog_46_method_7_code 70 = .ok (.aload_n 0, 1) := by decide +kernel
theorem own_d3_71 : decode prog_46_method_7_code 71 = .ok (.getfield 7, 3) := by decide +kernel
theorem own_d3_74 : decode prog_46_method_7_code 74 = .ok (.iload_n 3, 1) := by decide +kernel
theorem own_d3_75 : decode prog_46_method_7_code 75 = .ok (.iload_n 1, 1) := by decide +kernel
theorem own_d3_76 : decode prog_46_method_7_code 76 = .ok (.iastore, 1) := by decide +kernel
theorem own_d3_77 : decode prog_46_method_7_code 77 = .ok (.aload_n 0, 1) := by decide +kernel
theorem own_d3_78 : decode prog_46_method_7_code 78 = .ok (.getfield 13, 3) := by decide +kernel
theorem own_d3_81 : decode prog_46_method_7_code 81 = .ok (.iload_n 1, 1) := by decide +kernel
theorem own_d3_82 : decode prog_46_method_7_code 82 = .ok (.iload_n 3, 1) := by decide +kernel
theorem own_d3_83 : decode prog_46_method_7_code 83 = .ok (.iastore, 1) := by decide +kernel
theorem own_d3_84 : decode prog_46_method_7_code 84 = .ok (.aload_n 0, 1) := by decide +kernel
theorem own_d3_85 : decode prog_46_method_7_code 85 = .ok (.getfield 7, 3) := by decide +kernel
theorem own_d3_88 : decode prog_46_method_7_code 88 = .ok (.iload 4, 2) := by decide +kernel
theorem own_d3_90 : decode prog_46_method_7_code 90 = .ok (.iload 5, 2) := by decide +kernel
theorem own_d3_92 : decode prog_46_method_7_code 92 = .ok (.iastore, 1) := by decide +kernel
theorem own_d3_93 : decode prog_46_method_7_code 93 = .ok (.aload_n 0, 1) := by decide +kernel
theorem own_d3_94 : decode prog_46_method_7_code 94 = .ok (.getfield 13, 3) := by decide +kernel
theorem own_d3_97 : decode prog_46_method_7_code 97 = .ok (.iload 5, 2) := by decide +kernel
theorem own_d3_99 : decode prog_46_method_7_code 99 = .ok (.iload 4, 2) := by decide +kernel
theorem own_d3_101 : decode prog_46_method_7_code 101 = .ok (.iastore, 1) := by decide +kernel
theorem own_d3_102 : decode prog_46_method_7_code 102 = .ok (.aload_n 0, 1) := by decide +kernel
theorem own_d3_103 : decode prog_46_method_7_code 103 = .ok (.getfield 25, 3) := by decide +kernel
theorem own_d3_106 : decode prog_46_method_7_code 106 = .ok (.iload_n 2, 1) := by decide +kernel
theorem own_d3_107 : decode prog_46_method_7_code 107 = .ok (.dup2, 1) := by decide +kernel
theorem own_d3_108 : decode prog_46_method_7_code 108 = .ok (.iaload, 1) := by decide +kernel
theorem own_d3_109 : decode prog_46_method_7_code 109 = .ok (.iconst 1, 1) := by decide +kernel
theorem own_d3_110 : decode prog_46_method_7_code 110 = .ok (.iadd, 1) := by decide +kernel
theorem own_d3_111 : decode prog_46_method_7_code 111 = .ok (.iastore, 1) := by decide +kernel
theorem own_d3_112 : decode prog_46_method_7_code 112 = .ok (.return_, 1) := by decide +kernel
theorem own_ef3 (m : MethodId) (x0 : Addr) (x1 : Int32) : entryFrame m #[(.ref x0), (.int x1)] 6 = mkF m 0 #[.val (.ref x0), .val (.int x1), .unset, .unset, .unset, .unset] [] := by first | (simp [entryFrame, mkF, argsToLocals, Value.category]; done) | rfl
def own_Q3 (Z : State) (a1 : Addr) (x : Nat) (sa : Addr) (pa : Addr) (ba : Addr) (fa : Addr) (na : Addr) (ma : Addr) (ta : Addr) (q : List Nat × List Nat × Nat × Nat) (h0 : Heap) (n0 : Nat) (v : Option Value) (h : Heap) (L : List Loc) : Prop := v = none ∧ Fr n0 L ∧ Keep h0 h [a1, sa, pa, ma, ta] ∧ own_P Z a1 sa pa ba fa na ma ta (own_mark q x) h
set_option maxRecDepth 65536 in
set_option maxHeartbeats 40000000 in
theorem own_rm3 (l : Launch) (Z : State) (a0 : Array Value) (hw : ∀ d ∈ tables_1, d.before a0 Z = true) (ws : List Jvm.Cond) (a1 : Addr) (x : Nat) (sa : Addr) (pa : Addr) (ba : Addr) (fa : Addr) (na : Addr) (ma : Addr) (ta : Addr) (q : List Nat × List Nat × Nat × Nat) (h0 : Heap) (n0 : Nat) (Z0 : n0 ≤ h0.size) (g_a1 : n0 ≤ a1) (hord : own_ord a1 sa pa ba fa na ma ta) (hok : own_ok q x) (hP0 : own_P Z a1 sa pa ba fa na ma ta q h0) :
    MetFree l (⟨"com/example/wary_observer/waryobserver/equivalence/Partition", "mark", "(I)V"⟩ : MethodName) (head1 (Jvm.Cond.code (⟨"com/example/wary_observer/waryobserver/equivalence/Partition", "mark", "(I)V"⟩ : MethodName) prog_46_method_7_code 6 none :: ws) ({ frames := 0, cells := 0, slots := 0, locals := 0 } : Room)) (fun a U => a = #[(.ref a1), (.int (Int32.ofNat x))] ∧ Z.Warmed39 U.vm ∧ U.heap = h0) (fun _ _ _ _ _ => True) (fun _ U o U' => ∃ v L, o = .returned v ∧ own_Q3 Z a1 x sa pa ba fa na ma ta q h0 n0 v U'.heap L ∧ FrameEnd U o U' L ({ frames := 0, cells := 0, slots := 0, locals := 0 } : Room).cells ({ frames := 0, cells := 0, slots := 0, locals := 0 } : Room).slots) := by
  refine MetFree.of_bodySF (plainFor_of_name own_pn0) hisR ?_
  intro p e s m args below meth c s₁ Bd hml0 hP hK
  obtain ⟨rfl, hZ, hh⟩ := hP
  have hx := Bd.exec
  have hby := Bd.bytes
  have hml : c.maxLocals = 6 := hml0
  have hown : s.vm.findClass "com/example/wary_observer/waryobserver/equivalence/Partition" = some m.cls := findClass_of_methodNamed Bd.named
  have hnm := (name_of_methodNamed Bd.named Bd.method).1
  have X0 : Stand p l e ({ frames := 0, cells := 0, slots := 0, locals := 0 } : Room) s m #[(.ref a1), (.int (Int32.ofNat x))] below meth c s₁ [] 0 0 := Stand.of_body Bd
  have e0 : s₁.heap = h0 := by rw [← hh, Bd.state]; rfl
  have N0 := Fr.nil n0
  have K0 := Keep.refl h0 [a1, sa, pa, ma, ta]
  have pre0 : ∀ t, Steps p.tables e below (s₁.setTop (mkF m 0 #[.val (.ref a1), .val (.int (Int32.ofNat x)), .unset, .unset, .unset, .unset] [])) t → Steps p.tables e below (s₁.setTop (entryFrame m #[(.ref a1), (.int (Int32.ofNat x))] 6)) t := fun t kt0 => castTop (own_ef3 m (a1) ((Int32.ofNat x))) kt0
  obtain ⟨o1, o2, o3, o4, o5, o6, o7⟩ := hord
  obtain ⟨x4, y4, m4, t4, l4, k4, r4⟩ := hok
  obtain ⟨E_a1, F_states, F_positions, F_blockOf, F_firsts, F_ends, F_marks, F_touched, F_touchedCount, tf, V_sa, V_pa, V_ba, V_fa, V_na, V_ma, V_ta⟩ := hP0
  have ne_a1_sa : a1 ≠ sa := Nat.ne_of_lt (by omega)
  have ne_a1_pa : a1 ≠ pa := Nat.ne_of_lt (by omega)
  have ne_a1_ba : a1 ≠ ba := Nat.ne_of_lt (by omega)
  have ne_a1_fa : a1 ≠ fa := Nat.ne_of_lt (by omega)
  have ne_a1_na : a1 ≠ na := Nat.ne_of_lt (by omega)
  have ne_a1_ma : a1 ≠ ma := Nat.ne_of_lt (by omega)
  have ne_a1_ta : a1 ≠ ta := Nat.ne_of_lt (by omega)
  have ne_sa_pa : sa ≠ pa := Nat.ne_of_lt (by omega)
  have ne_sa_ba : sa ≠ ba := Nat.ne_of_lt (by omega)
  have ne_sa_fa : sa ≠ fa := Nat.ne_of_lt (by omega)
  have ne_sa_na : sa ≠ na := Nat.ne_of_lt (by omega)
  have ne_sa_ma : sa ≠ ma := Nat.ne_of_lt (by omega)
  have ne_sa_ta : sa ≠ ta := Nat.ne_of_lt (by omega)
  have ne_pa_ba : pa ≠ ba := Nat.ne_of_lt (by omega)
  have ne_pa_fa : pa ≠ fa := Nat.ne_of_lt (by omega)
  have ne_pa_na : pa ≠ na := Nat.ne_of_lt (by omega)
  have ne_pa_ma : pa ≠ ma := Nat.ne_of_lt (by omega)
  have ne_pa_ta : pa ≠ ta := Nat.ne_of_lt (by omega)
  have ne_ba_fa : ba ≠ fa := Nat.ne_of_lt (by omega)
  have ne_ba_na : ba ≠ na := Nat.ne_of_lt (by omega)
  have ne_ba_ma : ba ≠ ma := Nat.ne_of_lt (by omega)
  have ne_ba_ta : ba ≠ ta := Nat.ne_of_lt (by omega)
  have ne_fa_na : fa ≠ na := Nat.ne_of_lt (by omega)
  have ne_fa_ma : fa ≠ ma := Nat.ne_of_lt (by omega)
  have ne_fa_ta : fa ≠ ta := Nat.ne_of_lt (by omega)
  have ne_na_ma : na ≠ ma := Nat.ne_of_lt (by omega)
  have ne_na_ta : na ≠ ta := Nat.ne_of_lt (by omega)
  have ne_ma_ta : ma ≠ ta := Nat.ne_of_lt (by omega)
  have g_sa : n0 ≤ sa := by omega
  have g_pa : n0 ≤ pa := by omega
  have g_ma : n0 ≤ ma := by omega
  have g_ta : n0 ≤ ta := by omega
  obtain ⟨T1, X1, e1, st1⟩ := getF X0 hx hZ hown (host := "") (Or.inl (hw _ (List.mem_of_getElem? (i := 14) rfl))) Via.refl e0 F_blockOf (g := (mkF m 1 #[.val (.ref a1), .val (.int (Int32.ofNat x)), .unset, .unset, .unset, .unset] [(.ref a1)])) rfl rfl (hb hby own_d3_1)
  have ld2 := (own_ldI X1 hx hZ e1 V_ba (j := (Int32.ofNat x)) (own_ix (Nat.lt_trans x4 (by decide))).1 (k := x) (own_ix (Nat.lt_trans x4 (by decide))).2 x4 (v := (.int (0 : Int32))) rfl (g := (mkF m 5 #[.val (.ref a1), .val (.int (Int32.ofNat x)), .unset, .unset, .unset, .unset] [(.int (Int32.ofNat x)), (.ref ba)])) rfl rfl (hb hby own_d3_5))
  obtain ⟨T3, X3, e3, st3⟩ := getF X1 hx hZ hown (host := "") (Or.inl (hw _ (List.mem_of_getElem? (i := 16) rfl))) Via.refl e1 F_firsts (g := (mkF m 8 #[.val (.ref a1), .val (.int (Int32.ofNat x)), .val (.int (0 : Int32)), .unset, .unset, .unset] [(.ref a1)])) rfl rfl (hb hby own_d3_8)
  have ld4 := (own_ldI X3 hx hZ e3 V_fa (j := (0 : Int32)) (by decide) (k := 0) rfl (by decide) (v := (.int (0 : Int32))) rfl (g := (mkF m 12 #[.val (.ref a1), .val (.int (Int32.ofNat x)), .val (.int (0 : Int32)), .unset, .unset, .unset] [(.int (0 : Int32)), (.ref fa)])) rfl rfl (hb hby own_d3_12))
  obtain ⟨T5, X5, e5, st5⟩ := getF X3 hx hZ hown (host := "") (Or.inl (hw _ (List.mem_of_getElem? (i := 20) rfl))) Via.refl e3 F_marks (g := (mkF m 14 #[.val (.ref a1), .val (.int (Int32.ofNat x)), .val (.int (0 : Int32)), .unset, .unset, .unset] [(.ref a1), (.int (0 : Int32))])) rfl rfl (hb hby own_d3_14)
  have ld6 := (own_ldI X5 hx hZ e5 V_ma (j := (0 : Int32)) (by decide) (k := 0) rfl (by decide) (v := (.int (Int32.ofNat q.2.2.1))) rfl (g := (mkF m 18 #[.val (.ref a1), .val (.int (Int32.ofNat x)), .val (.int (0 : Int32)), .unset, .unset, .unset] [(.int (0 : Int32)), (.ref ma), (.int (0 : Int32))])) rfl rfl (hb hby own_d3_18))
  have pre7 : ∀ t, Steps p.tables e below (T5.setTop (mkF m 20 #[.val (.ref a1), .val (.int (Int32.ofNat x)), .val (.int (0 : Int32)), .unset, .unset, .unset] [(.int ((0 : Int32) + (Int32.ofNat q.2.2.1)))])) t → Steps p.tables e below (s₁.setTop (entryFrame m #[(.ref a1), (.int (Int32.ofNat x))] 6)) t := by
    intro t kt
    refine pre0 t ?_
    show Steps p.tables e below (s₁.setTop (mkF m 0 #[.val (.ref a1), .val (.int (Int32.ofNat x)), .unset, .unset, .unset, .unset] [])) _
    refine XS.aloadN X0.here hx rfl (hb hby own_d3_0) rfl rfl ?_
    show Steps p.tables e below (s₁.setTop (mkF m 1 #[.val (.ref a1), .val (.int (Int32.ofNat x)), .unset, .unset, .unset, .unset] [(.ref a1)])) _
    refine st1 _ ?_
    show Steps p.tables e below (T1.setTop (mkF m 4 #[.val (.ref a1), .val (.int (Int32.ofNat x)), .unset, .unset, .unset, .unset] [(.ref ba)])) _
    refine XS.iloadN X1.here hx rfl (hb hby own_d3_4) rfl ?_
    show Steps p.tables e below (T1.setTop (mkF m 5 #[.val (.ref a1), .val (.int (Int32.ofNat x)), .unset, .unset, .unset, .unset] [(.int (Int32.ofNat x)), (.ref ba)])) _
    refine ld2 _ ?_
    show Steps p.tables e below (T1.setTop (mkF m 6 #[.val (.ref a1), .val (.int (Int32.ofNat x)), .unset, .unset, .unset, .unset] [(.int (0 : Int32))])) _
    refine XS.istoreN X1.here hx rfl (hb hby own_d3_6) rfl (l' := #[.val (.ref a1), .val (.int (Int32.ofNat x)), .val (.int (0 : Int32)), .unset, .unset, .unset]) rfl ?_
    show Steps p.tables e below (T1.setTop (mkF m 7 #[.val (.ref a1), .val (.int (Int32.ofNat x)), .val (.int (0 : Int32)), .unset, .unset, .unset] [])) _
    refine XS.aloadN X1.here hx rfl (hb hby own_d3_7) rfl rfl ?_
    show Steps p.tables e below (T1.setTop (mkF m 8 #[.val (.ref a1), .val (.int (Int32.ofNat x)), .val (.int (0 : Int32)), .unset, .unset, .unset] [(.ref a1)])) _
    refine st3 _ ?_
    show Steps p.tables e below (T3.setTop (mkF m 11 #[.val (.ref a1), .val (.int (Int32.ofNat x)), .val (.int (0 : Int32)), .unset, .unset, .unset] [(.ref fa)])) _
    refine XS.iloadN X3.here hx rfl (hb hby own_d3_11) rfl ?_
    show Steps p.tables e below (T3.setTop (mkF m 12 #[.val (.ref a1), .val (.int (Int32.ofNat x)), .val (.int (0 : Int32)), .unset, .unset, .unset] [(.int (0 : Int32)), (.ref fa)])) _
    refine ld4 _ ?_
    show Steps p.tables e below (T3.setTop (mkF m 13 #[.val (.ref a1), .val (.int (Int32.ofNat x)), .val (.int (0 : Int32)), .unset, .unset, .unset] [(.int (0 : Int32))])) _
    refine XS.aloadN X3.here hx rfl (hb hby own_d3_13) rfl rfl ?_
    show Steps p.tables e below (T3.setTop (mkF m 14 #[.val (.ref a1), .val (.int (Int32.ofNat x)), .val (.int (0 : Int32)), .unset, .unset, .unset] [(.ref a1), (.int (0 : Int32))])) _
    refine st5 _ ?_
    show Steps p.tables e below (T5.setTop (mkF m 17 #[.val (.ref a1), .val (.int (Int32.ofNat x)), .val (.int (0 : Int32)), .unset, .unset, .unset] [(.ref ma), (.int (0 : Int32))])) _
    refine XS.iloadN X5.here hx rfl (hb hby own_d3_17) rfl ?_
    show Steps p.tables e below (T5.setTop (mkF m 18 #[.val (.ref a1), .val (.int (Int32.ofNat x)), .val (.int (0 : Int32)), .unset, .unset, .unset] [(.int (0 : Int32)), (.ref ma), (.int (0 : Int32))])) _
    refine ld6 _ ?_
    show Steps p.tables e below (T5.setTop (mkF m 19 #[.val (.ref a1), .val (.int (Int32.ofNat x)), .val (.int (0 : Int32)), .unset, .unset, .unset] [(.int (Int32.ofNat q.2.2.1)), (.int (0 : Int32))])) _
    refine XS.iadd X5.here hx rfl (hb hby own_d3_19) rfl ?_
    exact kt
  have pre8 : ∀ t, Steps p.tables e below (T5.setTop (mkF m 20 #[.val (.ref a1), .val (.int (Int32.ofNat x)), .val (.int (0 : Int32)), .unset, .unset, .unset] [(.int (Int32.ofNat q.2.2.1))])) t → Steps p.tables e below (s₁.setTop (entryFrame m #[(.ref a1), (.int (Int32.ofNat x))] 6)) t := by rw [((Int32.zero_add _).symm : (Int32.ofNat q.2.2.1) = ((0 : Int32) + (Int32.ofNat q.2.2.1)))]; exact pre7
  obtain ⟨T9, X9, e9, st9⟩ := getF X5 hx hZ hown (host := "") (Or.inl (hw _ (List.mem_of_getElem? (i := 12) rfl))) Via.refl e5 F_positions (g := (mkF m 22 #[.val (.ref a1), .val (.int (Int32.ofNat x)), .val (.int (0 : Int32)), .val (.int (Int32.ofNat q.2.2.1)), .unset, .unset] [(.ref a1)])) rfl rfl (hb hby own_d3_22)
  have ld10 := (own_ldI X9 hx hZ e9 V_pa (j := (Int32.ofNat x)) (own_ix (Nat.lt_trans x4 (by decide))).1 (k := x) (own_ix (Nat.lt_trans x4 (by decide))).2 x4 (v := (.int (Int32.ofNat (q.2.1.getD x 0)))) rfl (g := (mkF m 26 #[.val (.ref a1), .val (.int (Int32.ofNat x)), .val (.int (0 : Int32)), .val (.int (Int32.ofNat q.2.2.1)), .unset, .unset] [(.int (Int32.ofNat x)), (.ref pa)])) rfl rfl (hb hby own_d3_26))
  have pre11 : ∀ t, Steps p.tables e below (T9.setTop (mkF m 32 #[.val (.ref a1), .val (.int (Int32.ofNat x)), .val (.int (0 : Int32)), .val (.int (Int32.ofNat q.2.2.1)), .val (.int (Int32.ofNat (q.2.1.getD x 0))), .unset] [(.int (Int32.ofNat q.2.2.1)), (.int (Int32.ofNat (q.2.1.getD x 0)))])) t → Steps p.tables e below (s₁.setTop (entryFrame m #[(.ref a1), (.int (Int32.ofNat x))] 6)) t := by
    intro t kt
    refine pre8 t ?_
    show Steps p.tables e below (T5.setTop (mkF m 20 #[.val (.ref a1), .val (.int (Int32.ofNat x)), .val (.int (0 : Int32)), .unset, .unset, .unset] [(.int (Int32.ofNat q.2.2.1))])) _
    refine XS.istoreN X5.here hx rfl (hb hby own_d3_20) rfl (l' := #[.val (.ref a1), .val (.int (Int32.ofNat x)), .val (.int (0 : Int32)), .val (.int (Int32.ofNat q.2.2.1)), .unset, .unset]) rfl ?_
    show Steps p.tables e below (T5.setTop (mkF m 21 #[.val (.ref a1), .val (.int (Int32.ofNat x)), .val (.int (0 : Int32)), .val (.int (Int32.ofNat q.2.2.1)), .unset, .unset] [])) _
    refine XS.aloadN X5.here hx rfl (hb hby own_d3_21) rfl rfl ?_
    show Steps p.tables e below (T5.setTop (mkF m 22 #[.val (.ref a1), .val (.int (Int32.ofNat x)), .val (.int (0 : Int32)), .val (.int (Int32.ofNat q.2.2.1)), .unset, .unset] [(.ref a1)])) _
    refine st9 _ ?_
    show Steps p.tables e below (T9.setTop (mkF m 25 #[.val (.ref a1), .val (.int (Int32.ofNat x)), .val (.int (0 : Int32)), .val (.int (Int32.ofNat q.2.2.1)), .unset, .unset] [(.ref pa)])) _
    refine XS.iloadN X9.here hx rfl (hb hby own_d3_25) rfl ?_
    show Steps p.tables e below (T9.setTop (mkF m 26 #[.val (.ref a1), .val (.int (Int32.ofNat x)), .val (.int (0 : Int32)), .val (.int (Int32.ofNat q.2.2.1)), .unset, .unset] [(.int (Int32.ofNat x)), (.ref pa)])) _
    refine ld10 _ ?_
    show Steps p.tables e below (T9.setTop (mkF m 27 #[.val (.ref a1), .val (.int (Int32.ofNat x)), .val (.int (0 : Int32)), .val (.int (Int32.ofNat q.2.2.1)), .unset, .unset] [(.int (Int32.ofNat (q.2.1.getD x 0)))])) _
    refine XS.istore X9.here hx rfl (hb hby own_d3_27) rfl (l' := #[.val (.ref a1), .val (.int (Int32.ofNat x)), .val (.int (0 : Int32)), .val (.int (Int32.ofNat q.2.2.1)), .val (.int (Int32.ofNat (q.2.1.getD x 0))), .unset]) rfl ?_
    show Steps p.tables e below (T9.setTop (mkF m 29 #[.val (.ref a1), .val (.int (Int32.ofNat x)), .val (.int (0 : Int32)), .val (.int (Int32.ofNat q.2.2.1)), .val (.int (Int32.ofNat (q.2.1.getD x 0))), .unset] [])) _
    refine XS.iload X9.here hx rfl (hb hby own_d3_29) rfl ?_
    show Steps p.tables e below (T9.setTop (mkF m 31 #[.val (.ref a1), .val (.int (Int32.ofNat x)), .val (.int (0 : Int32)), .val (.int (Int32.ofNat q.2.2.1)), .val (.int (Int32.ofNat (q.2.1.getD x 0))), .unset] [(.int (Int32.ofNat (q.2.1.getD x 0)))])) _
    refine XS.iloadN X9.here hx rfl (hb hby own_d3_31) rfl ?_
    exact kt
  by_cases hc32 : (Int32.ofNat (q.2.1.getD x 0)) < (Int32.ofNat q.2.2.1)
  case pos =>
    obtain ⟨fs, hr, hrun, hended, hW, hsame⟩ := X9.leave (v := none) (fun _ => rfl) (BodyLoose.notSynchronized Bd)
    refine ⟨_, _, pre11 _ ?_, hrun, hended, _, _, rfl, ?_, ⟨_, rfl⟩, hW, hsame.mono (by decide) (by decide)⟩
    · skip
      show Steps p.tables e below (T9.setTop (mkF m 32 #[.val (.ref a1), .val (.int (Int32.ofNat x)), .val (.int (0 : Int32)), .val (.int (Int32.ofNat q.2.2.1)), .val (.int (Int32.ofNat (q.2.1.getD x 0))), .unset] [(.int (Int32.ofNat q.2.2.1)), (.int (Int32.ofNat (q.2.1.getD x 0)))])) _
      refine XS.icmpNo X9.here hx rfl (hb hby own_d3_32) rfl (tlt hc32).2.1 ?_
      show Steps p.tables e below (T9.setTop (mkF m 35 #[.val (.ref a1), .val (.int (Int32.ofNat x)), .val (.int (0 : Int32)), .val (.int (Int32.ofNat q.2.2.1)), .val (.int (Int32.ofNat (q.2.1.getD x 0))), .unset] [])) _
      exact X9.returnOut hx Bd.returns (hb hby own_d3_35) hr
    · show own_Q3 Z a1 x sa pa ba fa na ma ta q h0 n0 _ T9.heap _
      rw [e9]
      have q : own_mark q x = q := if_pos ((own_ltn (Nat.lt_trans y4 (by decide)) (by omega)).mp hc32)
      refine ⟨rfl, N0, K0, ?_⟩
      rw [q]
      exact ⟨E_a1, F_states, F_positions, F_blockOf, F_firsts, F_ends, F_marks, F_touched, F_touchedCount, tf, V_sa, V_pa, V_ba, V_fa, V_na, V_ma, V_ta⟩
  case neg =>
    have hpm : ¬ q.2.1.getD x 0 < q.2.2.1 := fun w => hc32 ((own_ltn (Nat.lt_trans y4 (by decide)) (by omega)).mpr w)
    obtain ⟨mk4, om4⟩ := r4 hpm
    obtain ⟨T12, X12, e12, st12⟩ := getF X9 hx hZ hown (host := "") (Or.inl (hw _ (List.mem_of_getElem? (i := 20) rfl))) Via.refl e9 F_marks (g := (mkF m 37 #[.val (.ref a1), .val (.int (Int32.ofNat x)), .val (.int (0 : Int32)), .val (.int (Int32.ofNat q.2.2.1)), .val (.int (Int32.ofNat (q.2.1.getD x 0))), .unset] [(.ref a1)])) rfl rfl (hb hby own_d3_37)
    have ld13 := (own_ldI X12 hx hZ e12 V_ma (j := (0 : Int32)) (by decide) (k := 0) rfl (by decide) (v := (.int (Int32.ofNat q.2.2.1))) rfl (g := (mkF m 41 #[.val (.ref a1), .val (.int (Int32.ofNat x)), .val (.int (0 : Int32)), .val (.int (Int32.ofNat q.2.2.1)), .val (.int (Int32.ofNat (q.2.1.getD x 0))), .unset] [(.int (0 : Int32)), (.ref ma)])) rfl rfl (hb hby own_d3_41))
    have pre14 : ∀ t, Steps p.tables e below (T12.setTop (mkF m 42 #[.val (.ref a1), .val (.int (Int32.ofNat x)), .val (.int (0 : Int32)), .val (.int (Int32.ofNat q.2.2.1)), .val (.int (Int32.ofNat (q.2.1.getD x 0))), .unset] [(.int (Int32.ofNat q.2.2.1))])) t → Steps p.tables e below (s₁.setTop (entryFrame m #[(.ref a1), (.int (Int32.ofNat x))] 6)) t := by
      intro t kt
      refine pre11 t ?_
      show Steps p.tables e below (T9.setTop (mkF m 32 #[.val (.ref a1), .val (.int (Int32.ofNat x)), .val (.int (0 : Int32)), .val (.int (Int32.ofNat q.2.2.1)), .val (.int (Int32.ofNat (q.2.1.getD x 0))), .unset] [(.int (Int32.ofNat q.2.2.1)), (.int (Int32.ofNat (q.2.1.getD x 0)))])) _
      refine XS.icmpYes X9.here hx rfl (pc0 := 32) (pc' := 36) rfl (hb hby own_d3_32) rfl (flt hc32).2.1 (by decide) (by decide) ?_
      show Steps p.tables e below (T9.setTop (mkF m 36 #[.val (.ref a1), .val (.int (Int32.ofNat x)), .val (.int (0 : Int32)), .val (.int (Int32.ofNat q.2.2.1)), .val (.int (Int32.ofNat (q.2.1.getD x 0))), .unset] [])) _
      refine XS.aloadN X9.here hx rfl (hb hby own_d3_36) rfl rfl ?_
      show Steps p.tables e below (T9.setTop (mkF m 37 #[.val (.ref a1), .val (.int (Int32.ofNat x)), .val (.int (0 : Int32)), .val (.int (Int32.ofNat q.2.2.1)), .val (.int (Int32.ofNat (q.2.1.getD x 0))), .unset] [(.ref a1)])) _
      refine st12 _ ?_
      show Steps p.tables e below (T12.setTop (mkF m 40 #[.val (.ref a1), .val (.int (Int32.ofNat x)), .val (.int (0 : Int32)), .val (.int (Int32.ofNat q.2.2.1)), .val (.int (Int32.ofNat (q.2.1.getD x 0))), .unset] [(.ref ma)])) _
      refine XS.iloadN X12.here hx rfl (hb hby own_d3_40) rfl ?_
      show Steps p.tables e below (T12.setTop (mkF m 41 #[.val (.ref a1), .val (.int (Int32.ofNat x)), .val (.int (0 : Int32)), .val (.int (Int32.ofNat q.2.2.1)), .val (.int (Int32.ofNat (q.2.1.getD x 0))), .unset] [(.int (0 : Int32)), (.ref ma)])) _
      refine ld13 _ ?_
      exact kt
    by_cases hc42 : (Int32.ofNat q.2.2.1) = (0 : Int32)
    case pos =>
      obtain ⟨T15, X15, e15, st15⟩ := getF X12 hx hZ hown (host := "") (Or.inl (hw _ (List.mem_of_getElem? (i := 22) rfl))) Via.refl e12 F_touched (g := (mkF m 46 #[.val (.ref a1), .val (.int (Int32.ofNat x)), .val (.int (0 : Int32)), .val (.int (Int32.ofNat q.2.2.1)), .val (.int (Int32.ofNat (q.2.1.getD x 0))), .unset] [(.ref a1)])) rfl rfl (hb hby own_d3_46)
      obtain ⟨T16, X16, e16, st16⟩ := getF X15 hx hZ hown (host := "") (Or.inl (hw _ (List.mem_of_getElem? (i := 31) rfl))) Via.refl e15 F_touchedCount (g := (mkF m 51 #[.val (.ref a1), .val (.int (Int32.ofNat x)), .val (.int (0 : Int32)), .val (.int (Int32.ofNat q.2.2.1)), .val (.int (Int32.ofNat (q.2.1.getD x 0))), .unset] [(.ref a1), (.ref a1), (.ref ta)])) rfl rfl (hb hby own_d3_51)
      obtain ⟨T17, h17, X17, e17, W17, st17⟩ := putF X16 hx hZ hown (host := "") (Or.inl (hw _ (List.mem_of_getElem? (i := 31) rfl))) Via.refl e16 F_touchedCount E_a1 (Or.inl (hw _ (List.mem_of_getElem? (i := 32) rfl))) (hw _ (List.mem_of_getElem? (i := 1) rfl)) (ty := .int) (by decide) rfl rfl (g := (mkF m 57 #[.val (.ref a1), .val (.int (Int32.ofNat x)), .val (.int (0 : Int32)), .val (.int (Int32.ofNat q.2.2.1)), .val (.int (Int32.ofNat (q.2.1.getD x 0))), .unset] [(.int ((Int32.ofNat q.2.2.2) + (1 : Int32))), (.ref a1), (.int (Int32.ofNat q.2.2.2)), (.ref ta)])) rfl rfl (hb hby own_d3_57)
      have E_a1 := E_a1.wr W17
      have F_touchedCount := F_touchedCount.same W17
      have F_states := F_states.other W17 (Or.inr (slot_ne (Or.inr (hw _ (List.mem_of_getElem? (i := 11) rfl))) (Or.inl (hw _ (List.mem_of_getElem? (i := 32) rfl))) (by decide) (t := (.array .int)) (t' := .int) (by decide) (by decide)))
      have V_sa := V_sa.other W17 (Ne.symm ne_a1_sa)
      have F_positions := F_positions.other W17 (Or.inr (slot_ne (Or.inr (hw _ (List.mem_of_getElem? (i := 13) rfl))) (Or.inl (hw _ (List.mem_of_getElem? (i := 32) rfl))) (by decide) (t := (.array .int)) (t' := .int) (by decide) (by decide)))
      have V_pa := V_pa.other W17 (Ne.symm ne_a1_pa)
      have F_blockOf := F_blockOf.other W17 (Or.inr (slot_ne (Or.inr (hw _ (List.mem_of_getElem? (i := 15) rfl))) (Or.inl (hw _ (List.mem_of_getElem? (i := 32) rfl))) (by decide) (t := (.array .int)) (t' := .int) (by decide) (by decide)))
      have V_ba := V_ba.other W17 (Ne.symm ne_a1_ba)
      have F_firsts := F_firsts.other W17 (Or.inr (slot_ne (Or.inr (hw _ (List.mem_of_getElem? (i := 17) rfl))) (Or.inl (hw _ (List.mem_of_getElem? (i := 32) rfl))) (by decide) (t := (.array .int)) (t' := .int) (by decide) (by decide)))
      have V_fa := V_fa.other W17 (Ne.symm ne_a1_fa)
      have F_ends := F_ends.other W17 (Or.inr (slot_ne (Or.inr (hw _ (List.mem_of_getElem? (i := 19) rfl))) (Or.inl (hw _ (List.mem_of_getElem? (i := 32) rfl))) (by decide) (t := (.array .int)) (t' := .int) (by decide) (by decide)))
      have V_na := V_na.other W17 (Ne.symm ne_a1_na)
      have F_marks := F_marks.other W17 (Or.inr (slot_ne (Or.inr (hw _ (List.mem_of_getElem? (i := 21) rfl))) (Or.inl (hw _ (List.mem_of_getElem? (i := 32) rfl))) (by decide) (t := (.array .int)) (t' := .int) (by decide) (by decide)))
      have V_ma := V_ma.other W17 (Ne.symm ne_a1_ma)
      have F_touched := F_touched.other W17 (Or.inr (slot_ne (Or.inr (hw _ (List.mem_of_getElem? (i := 23) rfl))) (Or.inl (hw _ (List.mem_of_getElem? (i := 32) rfl))) (by decide) (t := (.array .int)) (t' := .int) (by decide) (by decide)))
      have V_ta := V_ta.other W17 (Ne.symm ne_a1_ta)
      have K18 := K0.wr W17 (Or.inl (List.mem_of_getElem? (i := 0) rfl))
      have Z19 := Nat.le_trans Z0 (Keep.of_wr W17).1
      have N20 := Fr.snoc X17 N0 g_a1
      obtain ⟨T21, h21, X21, e21, W21, V21, st21⟩ := own_stI X17 hx hZ e17 V_ta (j := (Int32.ofNat q.2.2.2)) (own_ix (Nat.lt_trans t4 (by decide))).1 (k := q.2.2.2) (own_ix (Nat.lt_trans t4 (by decide))).2 t4 (g := (mkF m 61 #[.val (.ref a1), .val (.int (Int32.ofNat x)), .val (.int (0 : Int32)), .val (.int (Int32.ofNat q.2.2.1)), .val (.int (Int32.ofNat (q.2.1.getD x 0))), .unset] [(.int (0 : Int32)), (.int (Int32.ofNat q.2.2.2)), (.ref ta)])) rfl rfl (hb hby own_d3_61)
      have E_a1 := E_a1.wr W21
      have F_touchedCount := F_touchedCount.other W21 (Or.inl ne_a1_ta)
      have F_states := F_states.other W21 (Or.inl ne_a1_ta)
      have V_sa := V_sa.other W21 ne_sa_ta
      have F_positions := F_positions.other W21 (Or.inl ne_a1_ta)
      have V_pa := V_pa.other W21 ne_pa_ta
      have F_blockOf := F_blockOf.other W21 (Or.inl ne_a1_ta)
      have V_ba := V_ba.other W21 ne_ba_ta
      have F_firsts := F_firsts.other W21 (Or.inl ne_a1_ta)
      have V_fa := V_fa.other W21 ne_fa_ta
      have F_ends := F_ends.other W21 (Or.inl ne_a1_ta)
      have V_na := V_na.other W21 ne_na_ta
      have F_marks := F_marks.other W21 (Or.inl ne_a1_ta)
      have V_ma := V_ma.other W21 ne_ma_ta
      have F_touched := F_touched.other W21 (Or.inl ne_a1_ta)
      have K22 := K18.wr W21 (Or.inl (List.mem_of_getElem? (i := 4) rfl))
      have Z23 := Nat.le_trans Z19 (Keep.of_wr W21).1
      have N24 := Fr.snoc X21 N20 g_ta
      have V_ta := V21
      obtain ⟨T25, X25, e25, st25⟩ := getF X21 hx hZ hown (host := "") (Or.inl (hw _ (List.mem_of_getElem? (i := 10) rfl))) Via.refl e21 F_states (g := (mkF m 63 #[.val (.ref a1), .val (.int (Int32.ofNat x)), .val (.int (0 : Int32)), .val (.int (Int32.ofNat q.2.2.1)), .val (.int (Int32.ofNat (q.2.1.getD x 0))), .unset] [(.ref a1)])) rfl rfl (hb hby own_d3_63)
      have ld26 := (own_ldI X25 hx hZ e25 V_sa (j := (Int32.ofNat q.2.2.1)) (own_ix (Nat.lt_trans mk4 (by decide))).1 (k := q.2.2.1) (own_ix (Nat.lt_trans mk4 (by decide))).2 mk4 (v := (.int (Int32.ofNat (q.1.getD q.2.2.1 0)))) rfl (g := (mkF m 67 #[.val (.ref a1), .val (.int (Int32.ofNat x)), .val (.int (0 : Int32)), .val (.int (Int32.ofNat q.2.2.1)), .val (.int (Int32.ofNat (q.2.1.getD x 0))), .unset] [(.int (Int32.ofNat q.2.2.1)), (.ref sa)])) rfl rfl (hb hby own_d3_67))
      obtain ⟨T27, X27, e27, st27⟩ := getF X25 hx hZ hown (host := "") (Or.inl (hw _ (List.mem_of_getElem? (i := 10) rfl))) Via.refl e25 F_states (g := (mkF m 71 #[.val (.ref a1), .val (.int (Int32.ofNat x)), .val (.int (0 : Int32)), .val (.int (Int32.ofNat q.2.2.1)), .val (.int (Int32.ofNat (q.2.1.getD x 0))), .val (.int (Int32.ofNat (q.1.getD q.2.2.1 0)))] [(.ref a1)])) rfl rfl (hb hby own_d3_71)
      obtain ⟨T28, h28, X28, e28, W28, V28, st28⟩ := own_stI X27 hx hZ e27 V_sa (j := (Int32.ofNat q.2.2.1)) (own_ix (Nat.lt_trans mk4 (by decide))).1 (k := q.2.2.1) (own_ix (Nat.lt_trans mk4 (by decide))).2 mk4 (g := (mkF m 76 #[.val (.ref a1), .val (.int (Int32.ofNat x)), .val (.int (0 : Int32)), .val (.int (Int32.ofNat q.2.2.1)), .val (.int (Int32.ofNat (q.2.1.getD x 0))), .val (.int (Int32.ofNat (q.1.getD q.2.2.1 0)))] [(.int (Int32.ofNat x)), (.int (Int32.ofNat q.2.2.1)), (.ref sa)])) rfl rfl (hb hby own_d3_76)
      have E_a1 := E_a1.wr W28
      have F_touchedCount := F_touchedCount.other W28 (Or.inl ne_a1_sa)
      have F_states := F_states.other W28 (Or.inl ne_a1_sa)
      have F_positions := F_positions.other W28 (Or.inl ne_a1_sa)
      have V_pa := V_pa.other W28 (Ne.symm ne_sa_pa)
      have F_blockOf := F_blockOf.other W28 (Or.inl ne_a1_sa)
      have V_ba := V_ba.other W28 (Ne.symm ne_sa_ba)
      have F_firsts := F_firsts.other W28 (Or.inl ne_a1_sa)
      have V_fa := V_fa.other W28 (Ne.symm ne_sa_fa)
      have F_ends := F_ends.other W28 (Or.inl ne_a1_sa)
      have V_na := V_na.other W28 (Ne.symm ne_sa_na)
      have F_marks := F_marks.other W28 (Or.inl ne_a1_sa)
      have V_ma := V_ma.other W28 (Ne.symm ne_sa_ma)
      have F_touched := F_touched.other W28 (Or.inl ne_a1_sa)
      have V_ta := V_ta.other W28 (Ne.symm ne_sa_ta)
      have K29 := K22.wr W28 (Or.inl (List.mem_of_getElem? (i := 1) rfl))
      have Z30 := Nat.le_trans Z23 (Keep.of_wr W28).1
      have N31 := Fr.snoc X28 N24 g_sa
      have V_sa := V28
      obtain ⟨T32, X32, e32, st32⟩ := getF X28 hx hZ hown (host := "") (Or.inl (hw _ (List.mem_of_getElem? (i := 12) rfl))) Via.refl e28 F_positions (g := (mkF m 78 #[.val (.ref a1), .val (.int (Int32.ofNat x)), .val (.int (0 : Int32)), .val (.int (Int32.ofNat q.2.2.1)), .val (.int (Int32.ofNat (q.2.1.getD x 0))), .val (.int (Int32.ofNat (q.1.getD q.2.2.1 0)))] [(.ref a1)])) rfl rfl (hb hby own_d3_78)
      obtain ⟨T33, h33, X33, e33, W33, V33, st33⟩ := own_stI X32 hx hZ e32 V_pa (j := (Int32.ofNat x)) (own_ix (Nat.lt_trans x4 (by decide))).1 (k := x) (own_ix (Nat.lt_trans x4 (by decide))).2 x4 (g := (mkF m 83 #[.val (.ref a1), .val (.int (Int32.ofNat x)), .val (.int (0 : Int32)), .val (.int (Int32.ofNat q.2.2.1)), .val (.int (Int32.ofNat (q.2.1.getD x 0))), .val (.int (Int32.ofNat (q.1.getD q.2.2.1 0)))] [(.int (Int32.ofNat q.2.2.1)), (.int (Int32.ofNat x)), (.ref pa)])) rfl rfl (hb hby own_d3_83)
      have E_a1 := E_a1.wr W33
      have F_touchedCount := F_touchedCount.other W33 (Or.inl ne_a1_pa)
      have F_states := F_states.other W33 (Or.inl ne_a1_pa)
      have V_sa := V_sa.other W33 ne_sa_pa
      have F_positions := F_positions.other W33 (Or.inl ne_a1_pa)
      have F_blockOf := F_blockOf.other W33 (Or.inl ne_a1_pa)
      have V_ba := V_ba.other W33 (Ne.symm ne_pa_ba)
      have F_firsts := F_firsts.other W33 (Or.inl ne_a1_pa)
      have V_fa := V_fa.other W33 (Ne.symm ne_pa_fa)
      have F_ends := F_ends.other W33 (Or.inl ne_a1_pa)
      have V_na := V_na.other W33 (Ne.symm ne_pa_na)
      have F_marks := F_marks.other W33 (Or.inl ne_a1_pa)
      have V_ma := V_ma.other W33 (Ne.symm ne_pa_ma)
      have F_touched := F_touched.other W33 (Or.inl ne_a1_pa)
      have V_ta := V_ta.other W33 (Ne.symm ne_pa_ta)
      have K34 := K29.wr W33 (Or.inl (List.mem_of_getElem? (i := 2) rfl))
      have Z35 := Nat.le_trans Z30 (Keep.of_wr W33).1
      have N36 := Fr.snoc X33 N31 g_pa
      have V_pa := V33
      obtain ⟨T37, X37, e37, st37⟩ := getF X33 hx hZ hown (host := "") (Or.inl (hw _ (List.mem_of_getElem? (i := 10) rfl))) Via.refl e33 F_states (g := (mkF m 85 #[.val (.ref a1), .val (.int (Int32.ofNat x)), .val (.int (0 : Int32)), .val (.int (Int32.ofNat q.2.2.1)), .val (.int (Int32.ofNat (q.2.1.getD x 0))), .val (.int (Int32.ofNat (q.1.getD q.2.2.1 0)))] [(.ref a1)])) rfl rfl (hb hby own_d3_85)
      obtain ⟨T38, h38, X38, e38, W38, V38, st38⟩ := own_stI X37 hx hZ e37 V_sa (j := (Int32.ofNat (q.2.1.getD x 0))) (own_ix (Nat.lt_trans y4 (by decide))).1 (k := (q.2.1.getD x 0)) (own_ix (Nat.lt_trans y4 (by decide))).2 y4 (g := (mkF m 92 #[.val (.ref a1), .val (.int (Int32.ofNat x)), .val (.int (0 : Int32)), .val (.int (Int32.ofNat q.2.2.1)), .val (.int (Int32.ofNat (q.2.1.getD x 0))), .val (.int (Int32.ofNat (q.1.getD q.2.2.1 0)))] [(.int (Int32.ofNat (q.1.getD q.2.2.1 0))), (.int (Int32.ofNat (q.2.1.getD x 0))), (.ref sa)])) rfl rfl (hb hby own_d3_92)
      have E_a1 := E_a1.wr W38
      have F_touchedCount := F_touchedCount.other W38 (Or.inl ne_a1_sa)
      have F_states := F_states.other W38 (Or.inl ne_a1_sa)
      have F_positions := F_positions.other W38 (Or.inl ne_a1_sa)
      have V_pa := V_pa.other W38 (Ne.symm ne_sa_pa)
      have F_blockOf := F_blockOf.other W38 (Or.inl ne_a1_sa)
      have V_ba := V_ba.other W38 (Ne.symm ne_sa_ba)
      have F_firsts := F_firsts.other W38 (Or.inl ne_a1_sa)
      have V_fa := V_fa.other W38 (Ne.symm ne_sa_fa)
      have F_ends := F_ends.other W38 (Or.inl ne_a1_sa)
      have V_na := V_na.other W38 (Ne.symm ne_sa_na)
      have F_marks := F_marks.other W38 (Or.inl ne_a1_sa)
      have V_ma := V_ma.other W38 (Ne.symm ne_sa_ma)
      have F_touched := F_touched.other W38 (Or.inl ne_a1_sa)
      have V_ta := V_ta.other W38 (Ne.symm ne_sa_ta)
      have K39 := K34.wr W38 (Or.inl (List.mem_of_getElem? (i := 1) rfl))
      have Z40 := Nat.le_trans Z35 (Keep.of_wr W38).1
      have N41 := Fr.snoc X38 N36 g_sa
      have V_sa := V38
      obtain ⟨T42, X42, e42, st42⟩ := getF X38 hx hZ hown (host := "") (Or.inl (hw _ (List.mem_of_getElem? (i := 12) rfl))) Via.refl e38 F_positions (g := (mkF m 94 #[.val (.ref a1), .val (.int (Int32.ofNat x)), .val (.int (0 : Int32)), .val (.int (Int32.ofNat q.2.2.1)), .val (.int (Int32.ofNat (q.2.1.getD x 0))), .val (.int (Int32.ofNat (q.1.getD q.2.2.1 0)))] [(.ref a1)])) rfl rfl (hb hby own_d3_94)
      obtain ⟨T43, h43, X43, e43, W43, V43, st43⟩ := own_stI X42 hx hZ e42 V_pa (j := (Int32.ofNat (q.1.getD q.2.2.1 0))) (own_ix (Nat.lt_trans om4 (by decide))).1 (k := (q.1.getD q.2.2.1 0)) (own_ix (Nat.lt_trans om4 (by decide))).2 om4 (g := (mkF m 101 #[.val (.ref a1), .val (.int (Int32.ofNat x)), .val (.int (0 : Int32)), .val (.int (Int32.ofNat q.2.2.1)), .val (.int (Int32.ofNat (q.2.1.getD x 0))), .val (.int (Int32.ofNat (q.1.getD q.2.2.1 0)))] [(.int (Int32.ofNat (q.2.1.getD x 0))), (.int (Int32.ofNat (q.1.getD q.2.2.1 0))), (.ref pa)])) rfl rfl (hb hby own_d3_101)
      have E_a1 := E_a1.wr W43
      have F_touchedCount := F_touchedCount.other W43 (Or.inl ne_a1_pa)
      have F_states := F_states.other W43 (Or.inl ne_a1_pa)
      have V_sa := V_sa.other W43 ne_sa_pa
      have F_positions := F_positions.other W43 (Or.inl ne_a1_pa)
      have F_blockOf := F_blockOf.other W43 (Or.inl ne_a1_pa)
      have V_ba := V_ba.other W43 (Ne.symm ne_pa_ba)
      have F_firsts := F_firsts.other W43 (Or.inl ne_a1_pa)
      have V_fa := V_fa.other W43 (Ne.symm ne_pa_fa)
      have F_ends := F_ends.other W43 (Or.inl ne_a1_pa)
      have V_na := V_na.other W43 (Ne.symm ne_pa_na)
      have F_marks := F_marks.other W43 (Or.inl ne_a1_pa)
      have V_ma := V_ma.other W43 (Ne.symm ne_pa_ma)
      have F_touched := F_touched.other W43 (Or.inl ne_a1_pa)
      have V_ta := V_ta.other W43 (Ne.symm ne_pa_ta)
      have K44 := K39.wr W43 (Or.inl (List.mem_of_getElem? (i := 2) rfl))
      have Z45 := Nat.le_trans Z40 (Keep.of_wr W43).1
      have N46 := Fr.snoc X43 N41 g_pa
      have V_pa := V43
      obtain ⟨T47, X47, e47, st47⟩ := getF X43 hx hZ hown (host := "") (Or.inl (hw _ (List.mem_of_getElem? (i := 20) rfl))) Via.refl e43 F_marks (g := (mkF m 103 #[.val (.ref a1), .val (.int (Int32.ofNat x)), .val (.int (0 : Int32)), .val (.int (Int32.ofNat q.2.2.1)), .val (.int (Int32.ofNat (q.2.1.getD x 0))), .val (.int (Int32.ofNat (q.1.getD q.2.2.1 0)))] [(.ref a1)])) rfl rfl (hb hby own_d3_103)
      have ld48 := (own_ldI X47 hx hZ e47 V_ma (j := (0 : Int32)) (by decide) (k := 0) rfl (by decide) (v := (.int (Int32.ofNat q.2.2.1))) rfl (g := (mkF m 108 #[.val (.ref a1), .val (.int (Int32.ofNat x)), .val (.int (0 : Int32)), .val (.int (Int32.ofNat q.2.2.1)), .val (.int (Int32.ofNat (q.2.1.getD x 0))), .val (.int (Int32.ofNat (q.1.getD q.2.2.1 0)))] [(.int (0 : Int32)), (.ref ma), (.int (0 : Int32)), (.ref ma)])) rfl rfl (hb hby own_d3_108))
      obtain ⟨T49, h49, X49, e49, W49, V49, st49⟩ := own_stI X47 hx hZ e47 V_ma (j := (0 : Int32)) (by decide) (k := 0) rfl (by decide) (g := (mkF m 111 #[.val (.ref a1), .val (.int (Int32.ofNat x)), .val (.int (0 : Int32)), .val (.int (Int32.ofNat q.2.2.1)), .val (.int (Int32.ofNat (q.2.1.getD x 0))), .val (.int (Int32.ofNat (q.1.getD q.2.2.1 0)))] [(.int ((Int32.ofNat q.2.2.1) + (1 : Int32))), (.int (0 : Int32)), (.ref ma)])) rfl rfl (hb hby own_d3_111)
      have E_a1 := E_a1.wr W49
      have F_touchedCount := F_touchedCount.other W49 (Or.inl ne_a1_ma)
      have F_states := F_states.other W49 (Or.inl ne_a1_ma)
      have V_sa := V_sa.other W49 ne_sa_ma
      have F_positions := F_positions.other W49 (Or.inl ne_a1_ma)
      have V_pa := V_pa.other W49 ne_pa_ma
      have F_blockOf := F_blockOf.other W49 (Or.inl ne_a1_ma)
      have V_ba := V_ba.other W49 ne_ba_ma
      have F_firsts := F_firsts.other W49 (Or.inl ne_a1_ma)
      have V_fa := V_fa.other W49 ne_fa_ma
      have F_ends := F_ends.other W49 (Or.inl ne_a1_ma)
      have V_na := V_na.other W49 ne_na_ma
      have F_marks := F_marks.other W49 (Or.inl ne_a1_ma)
      have F_touched := F_touched.other W49 (Or.inl ne_a1_ma)
      have V_ta := V_ta.other W49 (Ne.symm ne_ma_ta)
      have K50 := K44.wr W49 (Or.inl (List.mem_of_getElem? (i := 3) rfl))
      have Z51 := Nat.le_trans Z45 (Keep.of_wr W49).1
      have N52 := Fr.snoc X49 N46 g_ma
      have V_ma := V49
      obtain ⟨fs, hr, hrun, hended, hW, hsame⟩ := X49.leave (v := none) (fun _ => rfl) (BodyLoose.notSynchronized Bd)
      refine ⟨_, _, pre14 _ ?_, hrun, hended, _, _, rfl, ?_, ⟨_, rfl⟩, hW, hsame.mono (by decide) (by decide)⟩
      · skip
        show Steps p.tables e below (T12.setTop (mkF m 42 #[.val (.ref a1), .val (.int (Int32.ofNat x)), .val (.int (0 : Int32)), .val (.int (Int32.ofNat q.2.2.1)), .val (.int (Int32.ofNat (q.2.1.getD x 0))), .unset] [(.int (Int32.ofNat q.2.2.1))])) _
        refine XS.ifNo X12.here hx rfl (hb hby own_d3_42) rfl ((if0 _ _).trans (teq hc42).2) ?_
        show Steps p.tables e below (T12.setTop (mkF m 45 #[.val (.ref a1), .val (.int (Int32.ofNat x)), .val (.int (0 : Int32)), .val (.int (Int32.ofNat q.2.2.1)), .val (.int (Int32.ofNat (q.2.1.getD x 0))), .unset] [])) _
        refine XS.aloadN X12.here hx rfl (hb hby own_d3_45) rfl rfl ?_
        show Steps p.tables e below (T12.setTop (mkF m 46 #[.val (.ref a1), .val (.int (Int32.ofNat x)), .val (.int (0 : Int32)), .val (.int (Int32.ofNat q.2.2.1)), .val (.int (Int32.ofNat (q.2.1.getD x 0))), .unset] [(.ref a1)])) _
        refine st15 _ ?_
        show Steps p.tables e below (T15.setTop (mkF m 49 #[.val (.ref a1), .val (.int (Int32.ofNat x)), .val (.int (0 : Int32)), .val (.int (Int32.ofNat q.2.2.1)), .val (.int (Int32.ofNat (q.2.1.getD x 0))), .unset] [(.ref ta)])) _
        refine XS.aloadN X15.here hx rfl (hb hby own_d3_49) rfl rfl ?_
        show Steps p.tables e below (T15.setTop (mkF m 50 #[.val (.ref a1), .val (.int (Int32.ofNat x)), .val (.int (0 : Int32)), .val (.int (Int32.ofNat q.2.2.1)), .val (.int (Int32.ofNat (q.2.1.getD x 0))), .unset] [(.ref a1), (.ref ta)])) _
        refine XS.dup X15.here hx rfl (hb hby own_d3_50) rfl rfl ?_
        show Steps p.tables e below (T15.setTop (mkF m 51 #[.val (.ref a1), .val (.int (Int32.ofNat x)), .val (.int (0 : Int32)), .val (.int (Int32.ofNat q.2.2.1)), .val (.int (Int32.ofNat (q.2.1.getD x 0))), .unset] [(.ref a1), (.ref a1), (.ref ta)])) _
        refine st16 _ ?_
        show Steps p.tables e below (T16.setTop (mkF m 54 #[.val (.ref a1), .val (.int (Int32.ofNat x)), .val (.int (0 : Int32)), .val (.int (Int32.ofNat q.2.2.1)), .val (.int (Int32.ofNat (q.2.1.getD x 0))), .unset] [(.int (Int32.ofNat q.2.2.2)), (.ref a1), (.ref ta)])) _
        refine XS.dupX1 X16.here hx rfl (hb hby own_d3_54) rfl rfl rfl ?_
        show Steps p.tables e below (T16.setTop (mkF m 55 #[.val (.ref a1), .val (.int (Int32.ofNat x)), .val (.int (0 : Int32)), .val (.int (Int32.ofNat q.2.2.1)), .val (.int (Int32.ofNat (q.2.1.getD x 0))), .unset] [(.int (Int32.ofNat q.2.2.2)), (.ref a1), (.int (Int32.ofNat q.2.2.2)), (.ref ta)])) _
        refine XS.iconst X16.here hx rfl (hb hby own_d3_55) ?_
        show Steps p.tables e below (T16.setTop (mkF m 56 #[.val (.ref a1), .val (.int (Int32.ofNat x)), .val (.int (0 : Int32)), .val (.int (Int32.ofNat q.2.2.1)), .val (.int (Int32.ofNat (q.2.1.getD x 0))), .unset] [(.int (1 : Int32)), (.int (Int32.ofNat q.2.2.2)), (.ref a1), (.int (Int32.ofNat q.2.2.2)), (.ref ta)])) _
        refine XS.iadd X16.here hx rfl (hb hby own_d3_56) rfl ?_
        show Steps p.tables e below (T16.setTop (mkF m 57 #[.val (.ref a1), .val (.int (Int32.ofNat x)), .val (.int (0 : Int32)), .val (.int (Int32.ofNat q.2.2.1)), .val (.int (Int32.ofNat (q.2.1.getD x 0))), .unset] [(.int ((Int32.ofNat q.2.2.2) + (1 : Int32))), (.ref a1), (.int (Int32.ofNat q.2.2.2)), (.ref ta)])) _
        refine st17 _ ?_
        show Steps p.tables e below (T17.setTop (mkF m 60 #[.val (.ref a1), .val (.int (Int32.ofNat x)), .val (.int (0 : Int32)), .val (.int (Int32.ofNat q.2.2.1)), .val (.int (Int32.ofNat (q.2.1.getD x 0))), .unset] [(.int (Int32.ofNat q.2.2.2)), (.ref ta)])) _
        refine XS.iloadN X17.here hx rfl (hb hby own_d3_60) rfl ?_
        show Steps p.tables e below (T17.setTop (mkF m 61 #[.val (.ref a1), .val (.int (Int32.ofNat x)), .val (.int (0 : Int32)), .val (.int (Int32.ofNat q.2.2.1)), .val (.int (Int32.ofNat (q.2.1.getD x 0))), .unset] [(.int (0 : Int32)), (.int (Int32.ofNat q.2.2.2)), (.ref ta)])) _
        refine st21 _ ?_
        show Steps p.tables e below (T21.setTop (mkF m 62 #[.val (.ref a1), .val (.int (Int32.ofNat x)), .val (.int (0 : Int32)), .val (.int (Int32.ofNat q.2.2.1)), .val (.int (Int32.ofNat (q.2.1.getD x 0))), .unset] [])) _
        refine XS.aloadN X21.here hx rfl (hb hby own_d3_62) rfl rfl ?_
        show Steps p.tables e below (T21.setTop (mkF m 63 #[.val (.ref a1), .val (.int (Int32.ofNat x)), .val (.int (0 : Int32)), .val (.int (Int32.ofNat q.2.2.1)), .val (.int (Int32.ofNat (q.2.1.getD x 0))), .unset] [(.ref a1)])) _
        refine st25 _ ?_
        show Steps p.tables e below (T25.setTop (mkF m 66 #[.val (.ref a1), .val (.int (Int32.ofNat x)), .val (.int (0 : Int32)), .val (.int (Int32.ofNat q.2.2.1)), .val (.int (Int32.ofNat (q.2.1.getD x 0))), .unset] [(.ref sa)])) _
        refine XS.iloadN X25.here hx rfl (hb hby own_d3_66) rfl ?_
        show Steps p.tables e below (T25.setTop (mkF m 67 #[.val (.ref a1), .val (.int (Int32.ofNat x)), .val (.int (0 : Int32)), .val (.int (Int32.ofNat q.2.2.1)), .val (.int (Int32.ofNat (q.2.1.getD x 0))), .unset] [(.int (Int32.ofNat q.2.2.1)), (.ref sa)])) _
        refine ld26 _ ?_
        show Steps p.tables e below (T25.setTop (mkF m 68 #[.val (.ref a1), .val (.int (Int32.ofNat x)), .val (.int (0 : Int32)), .val (.int (Int32.ofNat q.2.2.1)), .val (.int (Int32.ofNat (q.2.1.getD x 0))), .unset] [(.int (Int32.ofNat (q.1.getD q.2.2.1 0)))])) _
        refine XS.istore X25.here hx rfl (hb hby own_d3_68) rfl (l' := #[.val (.ref a1), .val (.int (Int32.ofNat x)), .val (.int (0 : Int32)), .val (.int (Int32.ofNat q.2.2.1)), .val (.int (Int32.ofNat (q.2.1.getD x 0))), .val (.int (Int32.ofNat (q.1.getD q.2.2.1 0)))]) rfl ?_
        show Steps p.tables e below (T25.setTop (mkF m 70 #[.val (.ref a1), .val (.int (Int32.ofNat x)), .val (.int (0 : Int32)), .val (.int (Int32.ofNat q.2.2.1)), .val (.int (Int32.ofNat (q.2.1.getD x 0))), .val (.int (Int32.ofNat (q.1.getD q.2.2.1 0)))] [])) _
        refine XS.aloadN X25.here hx rfl (hb hby own_d3_70) rfl rfl ?_
        show Steps p.tables e below (T25.setTop (mkF m 71 #[.val (.ref a1), .val (.int (Int32.ofNat x)), .val (.int (0 : Int32)), .val (.int (Int32.ofNat q.2.2.1)), .val (.int (Int32.ofNat (q.2.1.getD x 0))), .val (.int (Int32.ofNat (q.1.getD q.2.2.1 0)))] [(.ref a1)])) _
        refine st27 _ ?_
        show Steps p.tables e below (T27.setTop (mkF m 74 #[.val (.ref a1), .val (.int (Int32.ofNat x)), .val (.int (0 : Int32)), .val (.int (Int32.ofNat q.2.2.1)), .val (.int (Int32.ofNat (q.2.1.getD x 0))), .val (.int (Int32.ofNat (q.1.getD q.2.2.1 0)))] [(.ref sa)])) _
        refine XS.iloadN X27.here hx rfl (hb hby own_d3_74) rfl ?_
        show Steps p.tables e below (T27.setTop (mkF m 75 #[.val (.ref a1), .val (.int (Int32.ofNat x)), .val (.int (0 : Int32)), .val (.int (Int32.ofNat q.2.2.1)), .val (.int (Int32.ofNat (q.2.1.getD x 0))), .val (.int (Int32.ofNat (q.1.getD q.2.2.1 0)))] [(.int (Int32.ofNat q.2.2.1)), (.ref sa)])) _
        refine XS.iloadN X27.here hx rfl (hb hby own_d3_75) rfl ?_
        show Steps p.tables e below (T27.setTop (mkF m 76 #[.val (.ref a1), .val (.int (Int32.ofNat x)), .val (.int (0 : Int32)), .val (.int (Int32.ofNat q.2.2.1)), .val (.int (Int32.ofNat (q.2.1.getD x 0))), .val (.int (Int32.ofNat (q.1.getD q.2.2.1 0)))] [(.int (Int32.ofNat x)), (.int (Int32.ofNat q.2.2.1)), (.ref sa)])) _
        refine st28 _ ?_
        show Steps p.tables e below (T28.setTop (mkF m 77 #[.val (.ref a1), .val (.int (Int32.ofNat x)), .val (.int (0 : Int32)), .val (.int (Int32.ofNat q.2.2.1)), .val (.int (Int32.ofNat (q.2.1.getD x 0))), .val (.int (Int32.ofNat (q.1.getD q.2.2.1 0)))] [])) _
        refine XS.aloadN X28.here hx rfl (hb hby own_d3_77) rfl rfl ?_
        show Steps p.tables e below (T28.setTop (mkF m 78 #[.val (.ref a1), .val (.int (Int32.ofNat x)), .val (.int (0 : Int32)), .val (.int (Int32.ofNat q.2.2.1)), .val (.int (Int32.ofNat (q.2.1.getD x 0))), .val (.int (Int32.ofNat (q.1.getD q.2.2.1 0)))] [(.ref a1)])) _
        refine st32 _ ?_
        show Steps p.tables e below (T32.setTop (mkF m 81 #[.val (.ref a1), .val (.int (Int32.ofNat x)), .val (.int (0 : Int32)), .val (.int (Int32.ofNat q.2.2.1)), .val (.int (Int32.ofNat (q.2.1.getD x 0))), .val (.int (Int32.ofNat (q.1.getD q.2.2.1 0)))] [(.ref pa)])) _
        refine XS.iloadN X32.here hx rfl (hb hby own_d3_81) rfl ?_
        show Steps p.tables e below (T32.setTop (mkF m 82 #[.val (.ref a1), .val (.int (Int32.ofNat x)), .val (.int (0 : Int32)), .val (.int (Int32.ofNat q.2.2.1)), .val (.int (Int32.ofNat (q.2.1.getD x 0))), .val (.int (Int32.ofNat (q.1.getD q.2.2.1 0)))] [(.int (Int32.ofNat x)), (.ref pa)])) _
        refine XS.iloadN X32.here hx rfl (hb hby own_d3_82) rfl ?_
        show Steps p.tables e below (T32.setTop (mkF m 83 #[.val (.ref a1), .val (.int (Int32.ofNat x)), .val (.int (0 : Int32)), .val (.int (Int32.ofNat q.2.2.1)), .val (.int (Int32.ofNat (q.2.1.getD x 0))), .val (.int (Int32.ofNat (q.1.getD q.2.2.1 0)))] [(.int (Int32.ofNat q.2.2.1)), (.int (Int32.ofNat x)), (.ref pa)])) _
        refine st33 _ ?_
        show Steps p.tables e below (T33.setTop (mkF m 84 #[.val (.ref a1), .val (.int (Int32.ofNat x)), .val (.int (0 : Int32)), .val (.int (Int32.ofNat q.2.2.1)), .val (.int (Int32.ofNat (q.2.1.getD x 0))), .val (.int (Int32.ofNat (q.1.getD q.2.2.1 0)))] [])) _
        refine XS.aloadN X33.here hx rfl (hb hby own_d3_84) rfl rfl ?_
        show Steps p.tables e below (T33.setTop (mkF m 85 #[.val (.ref a1), .val (.int (Int32.ofNat x)), .val (.int (0 : Int32)), .val (.int (Int32.ofNat q.2.2.1)), .val (.int (Int32.ofNat (q.2.1.getD x 0))), .val (.int (Int32.ofNat (q.1.getD q.2.2.1 0)))] [(.ref a1)])) _
        refine st37 _ ?_
        show Steps p.tables e below (T37.setTop (mkF m 88 #[.val (.ref a1), .val (.int (Int32.ofNat x)), .val (.int (0 : Int32)), .val (.int (Int32.ofNat q.2.2.1)), .val (.int (Int32.ofNat (q.2.1.getD x 0))), .val (.int (Int32.ofNat (q.1.getD q.2.2.1 0)))] [(.ref sa)])) _
        refine XS.iload X37.here hx rfl (hb hby own_d3_88) rfl ?_
        show Steps p.tables e below (T37.setTop (mkF m 90 #[.val (.ref a1), .val (.int (Int32.ofNat x)), .val (.int (0 : Int32)), .val (.int (Int32.ofNat q.2.2.1)), .val (.int (Int32.ofNat (q.2.1.getD x 0))), .val (.int (Int32.ofNat (q.1.getD q.2.2.1 0)))] [(.int (Int32.ofNat (q.2.1.getD x 0))), (.ref sa)])) _
        refine XS.iload X37.here hx rfl (hb hby own_d3_90) rfl ?_
        show Steps p.tables e below (T37.setTop (mkF m 92 #[.val (.ref a1), .val (.int (Int32.ofNat x)), .val (.int (0 : Int32)), .val (.int (Int32.ofNat q.2.2.1)), .val (.int (Int32.ofNat (q.2.1.getD x 0))), .val (.int (Int32.ofNat (q.1.getD q.2.2.1 0)))] [(.int (Int32.ofNat (q.1.getD q.2.2.1 0))), (.int (Int32.ofNat (q.2.1.getD x 0))), (.ref sa)])) _
        refine st38 _ ?_
        show Steps p.tables e below (T38.setTop (mkF m 93 #[.val (.ref a1), .val (.int (Int32.ofNat x)), .val (.int (0 : Int32)), .val (.int (Int32.ofNat q.2.2.1)), .val (.int (Int32.ofNat (q.2.1.getD x 0))), .val (.int (Int32.ofNat (q.1.getD q.2.2.1 0)))] [])) _
        refine XS.aloadN X38.here hx rfl (hb hby own_d3_93) rfl rfl ?_
        show Steps p.tables e below (T38.setTop (mkF m 94 #[.val (.ref a1), .val (.int (Int32.ofNat x)), .val (.int (0 : Int32)), .val (.int (Int32.ofNat q.2.2.1)), .val (.int (Int32.ofNat (q.2.1.getD x 0))), .val (.int (Int32.ofNat (q.1.getD q.2.2.1 0)))] [(.ref a1)])) _
        refine st42 _ ?_
        show Steps p.tables e below (T42.setTop (mkF m 97 #[.val (.ref a1), .val (.int (Int32.ofNat x)), .val (.int (0 : Int32)), .val (.int (Int32.ofNat q.2.2.1)), .val (.int (Int32.ofNat (q.2.1.getD x 0))), .val (.int (Int32.ofNat (q.1.getD q.2.2.1 0)))] [(.ref pa)])) _
        refine XS.iload X42.here hx rfl (hb hby own_d3_97) rfl ?_
        show Steps p.tables e below (T42.setTop (mkF m 99 #[.val (.ref a1), .val (.int (Int32.ofNat x)), .val (.int (0 : Int32)), .val (.int (Int32.ofNat q.2.2.1)), .val (.int (Int32.ofNat (q.2.1.getD x 0))), .val (.int (Int32.ofNat (q.1.getD q.2.2.1 0)))] [(.int (Int32.ofNat (q.1.getD q.2.2.1 0))), (.ref pa)])) _
        refine XS.iload X42.here hx rfl (hb hby own_d3_99) rfl ?_
        show Steps p.tables e below (T42.setTop (mkF m 101 #[.val (.ref a1), .val (.int (Int32.ofNat x)), .val (.int (0 : Int32)), .val (.int (Int32.ofNat q.2.2.1)), .val (.int (Int32.ofNat (q.2.1.getD x 0))), .val (.int (Int32.ofNat (q.1.getD q.2.2.1 0)))] [(.int (Int32.ofNat (q.2.1.getD x 0))), (.int (Int32.ofNat (q.1.getD q.2.2.1 0))), (.ref pa)])) _
        refine st43 _ ?_
        show Steps p.tables e below (T43.setTop (mkF m 102 #[.val (.ref a1), .val (.int (Int32.ofNat x)), .val (.int (0 : Int32)), .val (.int (Int32.ofNat q.2.2.1)), .val (.int (Int32.ofNat (q.2.1.getD x 0))), .val (.int (Int32.ofNat (q.1.getD q.2.2.1 0)))] [])) _
        refine XS.aloadN X43.here hx rfl (hb hby own_d3_102) rfl rfl ?_
        show Steps p.tables e below (T43.setTop (mkF m 103 #[.val (.ref a1), .val (.int (Int32.ofNat x)), .val (.int (0 : Int32)), .val (.int (Int32.ofNat q.2.2.1)), .val (.int (Int32.ofNat (q.2.1.getD x 0))), .val (.int (Int32.ofNat (q.1.getD q.2.2.1 0)))] [(.ref a1)])) _
        refine st47 _ ?_
        show Steps p.tables e below (T47.setTop (mkF m 106 #[.val (.ref a1), .val (.int (Int32.ofNat x)), .val (.int (0 : Int32)), .val (.int (Int32.ofNat q.2.2.1)), .val (.int (Int32.ofNat (q.2.1.getD x 0))), .val (.int (Int32.ofNat (q.1.getD q.2.2.1 0)))] [(.ref ma)])) _
        refine XS.iloadN X47.here hx rfl (hb hby own_d3_106) rfl ?_
        show Steps p.tables e below (T47.setTop (mkF m 107 #[.val (.ref a1), .val (.int (Int32.ofNat x)), .val (.int (0 : Int32)), .val (.int (Int32.ofNat q.2.2.1)), .val (.int (Int32.ofNat (q.2.1.getD x 0))), .val (.int (Int32.ofNat (q.1.getD q.2.2.1 0)))] [(.int (0 : Int32)), (.ref ma)])) _
        refine Jvm.Free.XT.dup2 X47.here hx rfl (hb hby own_d3_107) rfl rfl rfl ?_
        show Steps p.tables e below (T47.setTop (mkF m 108 #[.val (.ref a1), .val (.int (Int32.ofNat x)), .val (.int (0 : Int32)), .val (.int (Int32.ofNat q.2.2.1)), .val (.int (Int32.ofNat (q.2.1.getD x 0))), .val (.int (Int32.ofNat (q.1.getD q.2.2.1 0)))] [(.int (0 : Int32)), (.ref ma), (.int (0 : Int32)), (.ref ma)])) _
        refine ld48 _ ?_
        show Steps p.tables e below (T47.setTop (mkF m 109 #[.val (.ref a1), .val (.int (Int32.ofNat x)), .val (.int (0 : Int32)), .val (.int (Int32.ofNat q.2.2.1)), .val (.int (Int32.ofNat (q.2.1.getD x 0))), .val (.int (Int32.ofNat (q.1.getD q.2.2.1 0)))] [(.int (Int32.ofNat q.2.2.1)), (.int (0 : Int32)), (.ref ma)])) _
        refine XS.iconst X47.here hx rfl (hb hby own_d3_109) ?_
        show Steps p.tables e below (T47.setTop (mkF m 110 #[.val (.ref a1), .val (.int (Int32.ofNat x)), .val (.int (0 : Int32)), .val (.int (Int32.ofNat q.2.2.1)), .val (.int (Int32.ofNat (q.2.1.getD x 0))), .val (.int (Int32.ofNat (q.1.getD q.2.2.1 0)))] [(.int (1 : Int32)), (.int (Int32.ofNat q.2.2.1)), (.int (0 : Int32)), (.ref ma)])) _
        refine XS.iadd X47.here hx rfl (hb hby own_d3_110) rfl ?_
        show Steps p.tables e below (T47.setTop (mkF m 111 #[.val (.ref a1), .val (.int (Int32.ofNat x)), .val (.int (0 : Int32)), .val (.int (Int32.ofNat q.2.2.1)), .val (.int (Int32.ofNat (q.2.1.getD x 0))), .val (.int (Int32.ofNat (q.1.getD q.2.2.1 0)))] [(.int ((Int32.ofNat q.2.2.1) + (1 : Int32))), (.int (0 : Int32)), (.ref ma)])) _
        refine st49 _ ?_
        show Steps p.tables e below (T49.setTop (mkF m 112 #[.val (.ref a1), .val (.int (Int32.ofNat x)), .val (.int (0 : Int32)), .val (.int (Int32.ofNat q.2.2.1)), .val (.int (Int32.ofNat (q.2.1.getD x 0))), .val (.int (Int32.ofNat (q.1.getD q.2.2.1 0)))] [])) _
        exact X49.returnOut hx Bd.returns (hb hby own_d3_112) hr
      · show own_Q3 Z a1 x sa pa ba fa na ma ta q h0 n0 _ T49.heap _
        rw [e49]
        have hz : q.2.2.1 = 0 := (own_eqn (by omega) (by decide)).mp hc42
        have q5 : own_mark q x = _ := if_neg hpm
        refine ⟨rfl, N52, K50, ?_⟩
        rw [q5]
        exact ⟨E_a1, F_states, F_positions, F_blockOf, F_firsts, F_ends, F_marks, F_touched, (by rw [show (if q.2.2.1 = 0 then q.2.2.2 + 1 else q.2.2.2) = q.2.2.2 + 1 from if_pos hz]; rw [Int32.ofNat_add]; exact F_touchedCount), _, V_sa.congr (fun i hi => by
            show _ = Value.int (Int32.ofNat (((q.1.set q.2.2.1 x).set (q.2.1.getD x 0) (q.1.getD q.2.2.1 0)).getD i 0))
            rw [own_setg _ _ _ (by rw [List.length_set, l4]; exact y4), own_setg _ _ _ (by rw [l4]; exact mk4)]
            by_cases h1 : i = q.2.1.getD x 0
            · simp only [if_pos h1]
            · simp only [if_neg h1]
              by_cases h2 : i = q.2.2.1
              · simp only [if_pos h2]
              · simp only [if_neg h2]), V_pa.congr (fun i hi => by
            show _ = Value.int (Int32.ofNat (((q.2.1.set x q.2.2.1).set (q.1.getD q.2.2.1 0) (q.2.1.getD x 0)).getD i 0))
            rw [own_setg _ _ _ (by rw [List.length_set, k4]; exact om4), own_setg _ _ _ (by rw [k4]; exact x4)]
            by_cases h1 : i = q.1.getD q.2.2.1 0
            · simp only [if_pos h1]
            · simp only [if_neg h1]
              by_cases h2 : i = x
              · simp only [if_pos h2]
              · simp only [if_neg h2]), V_ba, V_fa, V_na, V_ma.congr (fun i hi => by
            show _ = Value.int (own_one (q.2.2.1 + 1) i)
            by_cases h1 : i = 0
            · simp only [h1, own_one, if_true]; exact congrArg Value.int (Int32.ofNat_add q.2.2.1 1).symm
            · simp [h1, own_one]), V_ta⟩
    case neg =>
      obtain ⟨T53, X53, e53, st53⟩ := getF X12 hx hZ hown (host := "") (Or.inl (hw _ (List.mem_of_getElem? (i := 10) rfl))) Via.refl e12 F_states (g := (mkF m 63 #[.val (.ref a1), .val (.int (Int32.ofNat x)), .val (.int (0 : Int32)), .val (.int (Int32.ofNat q.2.2.1)), .val (.int (Int32.ofNat (q.2.1.getD x 0))), .unset] [(.ref a1)])) rfl rfl (hb hby own_d3_63)
      have ld54 := (own_ldI X53 hx hZ e53 V_sa (j := (Int32.ofNat q.2.2.1)) (own_ix (Nat.lt_trans mk4 (by decide))).1 (k := q.2.2.1) (own_ix (Nat.lt_trans mk4 (by decide))).2 mk4 (v := (.int (Int32.ofNat (q.1.getD q.2.2.1 0)))) rfl (g := (mkF m 67 #[.val (.ref a1), .val (.int (Int32.ofNat x)), .val (.int (0 : Int32)), .val (.int (Int32.ofNat q.2.2.1)), .val (.int (Int32.ofNat (q.2.1.getD x 0))), .unset] [(.int (Int32.ofNat q.2.2.1)), (.ref sa)])) rfl rfl (hb hby own_d3_67))
      obtain ⟨T55, X55, e55, st55⟩ := getF X53 hx hZ hown (host := "") (Or.inl (hw _ (List.mem_of_getElem? (i := 10) rfl))) Via.refl e53 F_states (g := (mkF m 71 #[.val (.ref a1), .val (.int (Int32.ofNat x)), .val (.int (0 : Int32)), .val (.int (Int32.ofNat q.2.2.1)), .val (.int (Int32.ofNat (q.2.1.getD x 0))), .val (.int (Int32.ofNat (q.1.getD q.2.2.1 0)))] [(.ref a1)])) rfl rfl (hb hby own_d3_71)
      obtain ⟨T56, h56, X56, e56, W56, V56, st56⟩ := own_stI X55 hx hZ e55 V_sa (j := (Int32.ofNat q.2.2.1)) (own_ix (Nat.lt_trans mk4 (by decide))).1 (k := q.2.2.1) (own_ix (Nat.lt_trans mk4 (by decide))).2 mk4 (g := (mkF m 76 #[.val (.ref a1), .val (.int (Int32.ofNat x)), .val (.int (0 : Int32)), .val (.int (Int32.ofNat q.2.2.1)), .val (.int (Int32.ofNat (q.2.1.getD x 0))), .val (.int (Int32.ofNat (q.1.getD q.2.2.1 0)))] [(.int (Int32.ofNat x)), (.int (Int32.ofNat q.2.2.1)), (.ref sa)])) rfl rfl (hb hby own_d3_76)
      have E_a1 := E_a1.wr W56
      have F_touchedCount := F_touchedCount.other W56 (Or.inl ne_a1_sa)
      have F_states := F_states.other W56 (Or.inl ne_a1_sa)
      have F_positions := F_positions.other W56 (Or.inl ne_a1_sa)
      have V_pa := V_pa.other W56 (Ne.symm ne_sa_pa)
      have F_blockOf := F_blockOf.other W56 (Or.inl ne_a1_sa)
      have V_ba := V_ba.other W56 (Ne.symm ne_sa_ba)
      have F_firsts := F_firsts.other W56 (Or.inl ne_a1_sa)
      have V_fa := V_fa.other W56 (Ne.symm ne_sa_fa)
      have F_ends := F_ends.other W56 (Or.inl ne_a1_sa)
      have V_na := V_na.other W56 (Ne.symm ne_sa_na)
      have F_marks := F_marks.other W56 (Or.inl ne_a1_sa)
      have V_ma := V_ma.other W56 (Ne.symm ne_sa_ma)
      have F_touched := F_touched.other W56 (Or.inl ne_a1_sa)
      have V_ta := V_ta.other W56 (Ne.symm ne_sa_ta)
      have K57 := K0.wr W56 (Or.inl (List.mem_of_getElem? (i := 1) rfl))
      have Z58 := Nat.le_trans Z0 (Keep.of_wr W56).1
      have N59 := Fr.snoc X56 N0 g_sa
      have V_sa := V56
      obtain ⟨T60, X60, e60, st60⟩ := getF X56 hx hZ hown (host := "") (Or.inl (hw _ (List.mem_of_getElem? (i := 12) rfl))) Via.refl e56 F_positions (g := (mkF m 78 #[.val (.ref a1), .val (.int (Int32.ofNat x)), .val (.int (0 : Int32)), .val (.int (Int32.ofNat q.2.2.1)), .val (.int (Int32.ofNat (q.2.1.getD x 0))), .val (.int (Int32.ofNat (q.1.getD q.2.2.1 0)))] [(.ref a1)])) rfl rfl (hb hby own_d3_78)
      obtain ⟨T61, h61, X61, e61, W61, V61, st61⟩ := own_stI X60 hx hZ e60 V_pa (j := (Int32.ofNat x)) (own_ix (Nat.lt_trans x4 (by decide))).1 (k := x) (own_ix (Nat.lt_trans x4 (by decide))).2 x4 (g := (mkF m 83 #[.val (.ref a1), .val (.int (Int32.ofNat x)), .val (.int (0 : Int32)), .val (.int (Int32.ofNat q.2.2.1)), .val (.int (Int32.ofNat (q.2.1.getD x 0))), .val (.int (Int32.ofNat (q.1.getD q.2.2.1 0)))] [(.int (Int32.ofNat q.2.2.1)), (.int (Int32.ofNat x)), (.ref pa)])) rfl rfl (hb hby own_d3_83)
      have E_a1 := E_a1.wr W61
      have F_touchedCount := F_touchedCount.other W61 (Or.inl ne_a1_pa)
      have F_states := F_states.other W61 (Or.inl ne_a1_pa)
      have V_sa := V_sa.other W61 ne_sa_pa
      have F_positions := F_positions.other W61 (Or.inl ne_a1_pa)
      have F_blockOf := F_blockOf.other W61 (Or.inl ne_a1_pa)
      have V_ba := V_ba.other W61 (Ne.symm ne_pa_ba)
      have F_firsts := F_firsts.other W61 (Or.inl ne_a1_pa)
      have V_fa := V_fa.other W61 (Ne.symm ne_pa_fa)
      have F_ends := F_ends.other W61 (Or.inl ne_a1_pa)
      have V_na := V_na.other W61 (Ne.symm ne_pa_na)
      have F_marks := F_marks.other W61 (Or.inl ne_a1_pa)
      have V_ma := V_ma.other W61 (Ne.symm ne_pa_ma)
      have F_touched := F_touched.other W61 (Or.inl ne_a1_pa)
      have V_ta := V_ta.other W61 (Ne.symm ne_pa_ta)
      have K62 := K57.wr W61 (Or.inl (List.mem_of_getElem? (i := 2) rfl))
      have Z63 := Nat.le_trans Z58 (Keep.of_wr W61).1
      have N64 := Fr.snoc X61 N59 g_pa
      have V_pa := V61
      obtain ⟨T65, X65, e65, st65⟩ := getF X61 hx hZ hown (host := "") (Or.inl (hw _ (List.mem_of_getElem? (i := 10) rfl))) Via.refl e61 F_states (g := (mkF m 85 #[.val (.ref a1), .val (.int (Int32.ofNat x)), .val (.int (0 : Int32)), .val (.int (Int32.ofNat q.2.2.1)), .val (.int (Int32.ofNat (q.2.1.getD x 0))), .val (.int (Int32.ofNat (q.1.getD q.2.2.1 0)))] [(.ref a1)])) rfl rfl (hb hby own_d3_85)
      obtain ⟨T66, h66, X66, e66, W66, V66, st66⟩ := own_stI X65 hx hZ e65 V_sa (j := (Int32.ofNat (q.2.1.getD x 0))) (own_ix (Nat.lt_trans y4 (by decide))).1 (k := (q.2.1.getD x 0)) (own_ix (Nat.lt_trans y4 (by decide))).2 y4 (g := (mkF m 92 #[.val (.ref a1), .val (.int (Int32.ofNat x)), .val (.int (0 : Int32)), .val (.int (Int32.ofNat q.2.2.1)), .val (.int (Int32.ofNat (q.2.1.getD x 0))), .val (.int (Int32.ofNat (q.1.getD q.2.2.1 0)))] [(.int (Int32.ofNat (q.1.getD q.2.2.1 0))), (.int (Int32.ofNat (q.2.1.getD x 0))), (.ref sa)])) rfl rfl (hb hby own_d3_92)
      have E_a1 := E_a1.wr W66
      have F_touchedCount := F_touchedCount.other W66 (Or.inl ne_a1_sa)
      have F_states := F_states.other W66 (Or.inl ne_a1_sa)
      have F_positions := F_positions.other W66 (Or.inl ne_a1_sa)
      have V_pa := V_pa.other W66 (Ne.symm ne_sa_pa)
      have F_blockOf := F_blockOf.other W66 (Or.inl ne_a1_sa)
      have V_ba := V_ba.other W66 (Ne.symm ne_sa_ba)
      have F_firsts := F_firsts.other W66 (Or.inl ne_a1_sa)
      have V_fa := V_fa.other W66 (Ne.symm ne_sa_fa)
      have F_ends := F_ends.other W66 (Or.inl ne_a1_sa)
      have V_na := V_na.other W66 (Ne.symm ne_sa_na)
      have F_marks := F_marks.other W66 (Or.inl ne_a1_sa)
      have V_ma := V_ma.other W66 (Ne.symm ne_sa_ma)
      have F_touched := F_touched.other W66 (Or.inl ne_a1_sa)
      have V_ta := V_ta.other W66 (Ne.symm ne_sa_ta)
      have K67 := K62.wr W66 (Or.inl (List.mem_of_getElem? (i := 1) rfl))
      have Z68 := Nat.le_trans Z63 (Keep.of_wr W66).1
      have N69 := Fr.snoc X66 N64 g_sa
      have V_sa := V66
      obtain ⟨T70, X70, e70, st70⟩ := getF X66 hx hZ hown (host := "") (Or.inl (hw _ (List.mem_of_getElem? (i := 12) rfl))) Via.refl e66 F_positions (g := (mkF m 94 #[.val (.ref a1), .val (.int (Int32.ofNat x)), .val (.int (0 : Int32)), .val (.int (Int32.ofNat q.2.2.1)), .val (.int (Int32.ofNat (q.2.1.getD x 0))), .val (.int (Int32.ofNat (q.1.getD q.2.2.1 0)))] [(.ref a1)])) rfl rfl (hb hby own_d3_94)
      obtain ⟨T71, h71, X71, e71, W71, V71, st71⟩ := own_stI X70 hx hZ e70 V_pa (j := (Int32.ofNat (q.1.getD q.2.2.1 0))) (own_ix (Nat.lt_trans om4 (by decide))).1 (k := (q.1.getD q.2.2.1 0)) (own_ix (Nat.lt_trans om4 (by decide))).2 om4 (g := (mkF m 101 #[.val (.ref a1), .val (.int (Int32.ofNat x)), .val (.int (0 : Int32)), .val (.int (Int32.ofNat q.2.2.1)), .val (.int (Int32.ofNat (q.2.1.getD x 0))), .val (.int (Int32.ofNat (q.1.getD q.2.2.1 0)))] [(.int (Int32.ofNat (q.2.1.getD x 0))), (.int (Int32.ofNat (q.1.getD q.2.2.1 0))), (.ref pa)])) rfl rfl (hb hby own_d3_101)
      have E_a1 := E_a1.wr W71
      have F_touchedCount := F_touchedCount.other W71 (Or.inl ne_a1_pa)
      have F_states := F_states.other W71 (Or.inl ne_a1_pa)
      have V_sa := V_sa.other W71 ne_sa_pa
      have F_positions := F_positions.other W71 (Or.inl ne_a1_pa)
      have F_blockOf := F_blockOf.other W71 (Or.inl ne_a1_pa)
      have V_ba := V_ba.other W71 (Ne.symm ne_pa_ba)
      have F_firsts := F_firsts.other W71 (Or.inl ne_a1_pa)
      have V_fa := V_fa.other W71 (Ne.symm ne_pa_fa)
      have F_ends := F_ends.other W71 (Or.inl ne_a1_pa)
      have V_na := V_na.other W71 (Ne.symm ne_pa_na)
      have F_marks := F_marks.other W71 (Or.inl ne_a1_pa)
      have V_ma := V_ma.other W71 (Ne.symm ne_pa_ma)
      have F_touched := F_touched.other W71 (Or.inl ne_a1_pa)
      have V_ta := V_ta.other W71 (Ne.symm ne_pa_ta)
      have K72 := K67.wr W71 (Or.inl (List.mem_of_getElem? (i := 2) rfl))
      have Z73 := Nat.le_trans Z68 (Keep.of_wr W71).1
      have N74 := Fr.snoc X71 N69 g_pa
      have V_pa := V71
      obtain ⟨T75, X75, e75, st75⟩ := getF X71 hx hZ hown (host := "") (Or.inl (hw _ (List.mem_of_getElem? (i := 20) rfl))) Via.refl e71 F_marks (g := (mkF m 103 #[.val (.ref a1), .val (.int (Int32.ofNat x)), .val (.int (0 : Int32)), .val (.int (Int32.ofNat q.2.2.1)), .val (.int (Int32.ofNat (q.2.1.getD x 0))), .val (.int (Int32.ofNat (q.1.getD q.2.2.1 0)))] [(.ref a1)])) rfl rfl (hb hby own_d3_103)
      have ld76 := (own_ldI X75 hx hZ e75 V_ma (j := (0 : Int32)) (by decide) (k := 0) rfl (by decide) (v := (.int (Int32.ofNat q.2.2.1))) rfl (g := (mkF m 108 #[.val (.ref a1), .val (.int (Int32.ofNat x)), .val (.int (0 : Int32)), .val (.int (Int32.ofNat q.2.2.1)), .val (.int (Int32.ofNat (q.2.1.getD x 0))), .val (.int (Int32.ofNat (q.1.getD q.2.2.1 0)))] [(.int (0 : Int32)), (.ref ma), (.int (0 : Int32)), (.ref ma)])) rfl rfl (hb hby own_d3_108))
      obtain ⟨T77, h77, X77, e77, W77, V77, st77⟩ := own_stI X75 hx hZ e75 V_ma (j := (0 : Int32)) (by decide) (k := 0) rfl (by decide) (g := (mkF m 111 #[.val (.ref a1), .val (.int (Int32.ofNat x)), .val (.int (0 : Int32)), .val (.int (Int32.ofNat q.2.2.1)), .val (.int (Int32.ofNat (q.2.1.getD x 0))), .val (.int (Int32.ofNat (q.1.getD q.2.2.1 0)))] [(.int ((Int32.ofNat q.2.2.1) + (1 : Int32))), (.int (0 : Int32)), (.ref ma)])) rfl rfl (hb hby own_d3_111)
      have E_a1 := E_a1.wr W77
      have F_touchedCount := F_touchedCount.other W77 (Or.inl ne_a1_ma)
      have F_states := F_states.other W77 (Or.inl ne_a1_ma)
      have V_sa := V_sa.other W77 ne_sa_ma
      have F_positions := F_positions.other W77 (Or.inl ne_a1_ma)
      have V_pa := V_pa.other W77 ne_pa_ma
      have F_blockOf := F_blockOf.other W77 (Or.inl ne_a1_ma)
      have V_ba := V_ba.other W77 ne_ba_ma
      have F_firsts := F_firsts.other W77 (Or.inl ne_a1_ma)
      have V_fa := V_fa.other W77 ne_fa_ma
      have F_ends := F_ends.other W77 (Or.inl ne_a1_ma)
      have V_na := V_na.other W77 ne_na_ma
      have F_marks := F_marks.other W77 (Or.inl ne_a1_ma)
      have F_touched := F_touched.other W77 (Or.inl ne_a1_ma)
      have V_ta := V_ta.other W77 (Ne.symm ne_ma_ta)
      have K78 := K72.wr W77 (Or.inl (List.mem_of_getElem? (i := 3) rfl))
      have Z79 := Nat.le_trans Z73 (Keep.of_wr W77).1
      have N80 := Fr.snoc X77 N74 g_ma
      have V_ma := V77
      obtain ⟨fs, hr, hrun, hended, hW, hsame⟩ := X77.leave (v := none) (fun _ => rfl) (BodyLoose.notSynchronized Bd)
      refine ⟨_, _, pre14 _ ?_, hrun, hended, _, _, rfl, ?_, ⟨_, rfl⟩, hW, hsame.mono (by decide) (by decide)⟩
      · skip
        show Steps p.tables e below (T12.setTop (mkF m 42 #[.val (.ref a1), .val (.int (Int32.ofNat x)), .val (.int (0 : Int32)), .val (.int (Int32.ofNat q.2.2.1)), .val (.int (Int32.ofNat (q.2.1.getD x 0))), .unset] [(.int (Int32.ofNat q.2.2.1))])) _
        refine XS.ifYes X12.here hx rfl (pc0 := 42) (pc' := 62) rfl (hb hby own_d3_42) rfl ((if0 _ _).trans (feq hc42).2) (by decide) (by decide) ?_
        show Steps p.tables e below (T12.setTop (mkF m 62 #[.val (.ref a1), .val (.int (Int32.ofNat x)), .val (.int (0 : Int32)), .val (.int (Int32.ofNat q.2.2.1)), .val (.int (Int32.ofNat (q.2.1.getD x 0))), .unset] [])) _
        refine XS.aloadN X12.here hx rfl (hb hby own_d3_62) rfl rfl ?_
        show Steps p.tables e below (T12.setTop (mkF m 63 #[.val (.ref a1), .val (.int (Int32.ofNat x)), .val (.int (0 : Int32)), .val (.int (Int32.ofNat q.2.2.1)), .val (.int (Int32.ofNat (q.2.1.getD x 0))), .unset] [(.ref a1)])) _
        refine st53 _ ?_
        show Steps p.tables e below (T53.setTop (mkF m 66 #[.val (.ref a1), .val (.int (Int32.ofNat x)), .val (.int (0 : Int32)), .val (.int (Int32.ofNat q.2.2.1)), .val (.int (Int32.ofNat (q.2.1.getD x 0))), .unset] [(.ref sa)])) _
        refine XS.iloadN X53.here hx rfl (hb hby own_d3_66) rfl ?_
        show Steps p.tables e below (T53.setTop (mkF m 67 #[.val (.ref a1), .val (.int (Int32.ofNat x)), .val (.int (0 : Int32)), .val (.int (Int32.ofNat q.2.2.1)), .val (.int (Int32.ofNat (q.2.1.getD x 0))), .unset] [(.int (Int32.ofNat q.2.2.1)), (.ref sa)])) _
        refine ld54 _ ?_
        show Steps p.tables e below (T53.setTop (mkF m 68 #[.val (.ref a1), .val (.int (Int32.ofNat x)), .val (.int (0 : Int32)), .val (.int (Int32.ofNat q.2.2.1)), .val (.int (Int32.ofNat (q.2.1.getD x 0))), .unset] [(.int (Int32.ofNat (q.1.getD q.2.2.1 0)))])) _
        refine XS.istore X53.here hx rfl (hb hby own_d3_68) rfl (l' := #[.val (.ref a1), .val (.int (Int32.ofNat x)), .val (.int (0 : Int32)), .val (.int (Int32.ofNat q.2.2.1)), .val (.int (Int32.ofNat (q.2.1.getD x 0))), .val (.int (Int32.ofNat (q.1.getD q.2.2.1 0)))]) rfl ?_
        show Steps p.tables e below (T53.setTop (mkF m 70 #[.val (.ref a1), .val (.int (Int32.ofNat x)), .val (.int (0 : Int32)), .val (.int (Int32.ofNat q.2.2.1)), .val (.int (Int32.ofNat (q.2.1.getD x 0))), .val (.int (Int32.ofNat (q.1.getD q.2.2.1 0)))] [])) _
        refine XS.aloadN X53.here hx rfl (hb hby own_d3_70) rfl rfl ?_
        show Steps p.tables e below (T53.setTop (mkF m 71 #[.val (.ref a1), .val (.int (Int32.ofNat x)), .val (.int (0 : Int32)), .val (.int (Int32.ofNat q.2.2.1)), .val (.int (Int32.ofNat (q.2.1.getD x 0))), .val (.int (Int32.ofNat (q.1.getD q.2.2.1 0)))] [(.ref a1)])) _
        refine st55 _ ?_
        show Steps p.tables e below (T55.setTop (mkF m 74 #[.val (.ref a1), .val (.int (Int32.ofNat x)), .val (.int (0 : Int32)), .val (.int (Int32.ofNat q.2.2.1)), .val (.int (Int32.ofNat (q.2.1.getD x 0))), .val (.int (Int32.ofNat (q.1.getD q.2.2.1 0)))] [(.ref sa)])) _
        refine XS.iloadN X55.here hx rfl (hb hby own_d3_74) rfl ?_
        show Steps p.tables e below (T55.setTop (mkF m 75 #[.val (.ref a1), .val (.int (Int32.ofNat x)), .val (.int (0 : Int32)), .val (.int (Int32.ofNat q.2.2.1)), .val (.int (Int32.ofNat (q.2.1.getD x 0))), .val (.int (Int32.ofNat (q.1.getD q.2.2.1 0)))] [(.int (Int32.ofNat q.2.2.1)), (.ref sa)])) _
        refine XS.iloadN X55.here hx rfl (hb hby own_d3_75) rfl ?_
        show Steps p.tables e below (T55.setTop (mkF m 76 #[.val (.ref a1), .val (.int (Int32.ofNat x)), .val (.int (0 : Int32)), .val (.int (Int32.ofNat q.2.2.1)), .val (.int (Int32.ofNat (q.2.1.getD x 0))), .val (.int (Int32.ofNat (q.1.getD q.2.2.1 0)))] [(.int (Int32.ofNat x)), (.int (Int32.ofNat q.2.2.1)), (.ref sa)])) _
        refine st56 _ ?_
        show Steps p.tables e below (T56.setTop (mkF m 77 #[.val (.ref a1), .val (.int (Int32.ofNat x)), .val (.int (0 : Int32)), .val (.int (Int32.ofNat q.2.2.1)), .val (.int (Int32.ofNat (q.2.1.getD x 0))), .val (.int (Int32.ofNat (q.1.getD q.2.2.1 0)))] [])) _
        refine XS.aloadN X56.here hx rfl (hb hby own_d3_77) rfl rfl ?_
        show Steps p.tables e below (T56.setTop (mkF m 78 #[.val (.ref a1), .val (.int (Int32.ofNat x)), .val (.int (0 : Int32)), .val (.int (Int32.ofNat q.2.2.1)), .val (.int (Int32.ofNat (q.2.1.getD x 0))), .val (.int (Int32.ofNat (q.1.getD q.2.2.1 0)))] [(.ref a1)])) _
        refine st60 _ ?_
        show Steps p.tables e below (T60.setTop (mkF m 81 #[.val (.ref a1), .val (.int (Int32.ofNat x)), .val (.int (0 : Int32)), .val (.int (Int32.ofNat q.2.2.1)), .val (.int (Int32.ofNat (q.2.1.getD x 0))), .val (.int (Int32.ofNat (q.1.getD q.2.2.1 0)))] [(.ref pa)])) _
        refine XS.iloadN X60.here hx rfl (hb hby own_d3_81) rfl ?_
        show Steps p.tables e below (T60.setTop (mkF m 82 #[.val (.ref a1), .val (.int (Int32.ofNat x)), .val (.int (0 : Int32)), .val (.int (Int32.ofNat q.2.2.1)), .val (.int (Int32.ofNat (q.2.1.getD x 0))), .val (.int (Int32.ofNat (q.1.getD q.2.2.1 0)))] [(.int (Int32.ofNat x)), (.ref pa)])) _
        refine XS.iloadN X60.here hx rfl (hb hby own_d3_82) rfl ?_
        show Steps p.tables e below (T60.setTop (mkF m 83 #[.val (.ref a1), .val (.int (Int32.ofNat x)), .val (.int (0 : Int32)), .val (.int (Int32.ofNat q.2.2.1)), .val (.int (Int32.ofNat (q.2.1.getD x 0))), .val (.int (Int32.ofNat (q.1.getD q.2.2.1 0)))] [(.int (Int32.ofNat q.2.2.1)), (.int (Int32.ofNat x)), (.ref pa)])) _
        refine st61 _ ?_
        show Steps p.tables e below (T61.setTop (mkF m 84 #[.val (.ref a1), .val (.int (Int32.ofNat x)), .val (.int (0 : Int32)), .val (.int (Int32.ofNat q.2.2.1)), .val (.int (Int32.ofNat (q.2.1.getD x 0))), .val (.int (Int32.ofNat (q.1.getD q.2.2.1 0)))] [])) _
        refine XS.aloadN X61.here hx rfl (hb hby own_d3_84) rfl rfl ?_
        show Steps p.tables e below (T61.setTop (mkF m 85 #[.val (.ref a1), .val (.int (Int32.ofNat x)), .val (.int (0 : Int32)), .val (.int (Int32.ofNat q.2.2.1)), .val (.int (Int32.ofNat (q.2.1.getD x 0))), .val (.int (Int32.ofNat (q.1.getD q.2.2.1 0)))] [(.ref a1)])) _
        refine st65 _ ?_
        show Steps p.tables e below (T65.setTop (mkF m 88 #[.val (.ref a1), .val (.int (Int32.ofNat x)), .val (.int (0 : Int32)), .val (.int (Int32.ofNat q.2.2.1)), .val (.int (Int32.ofNat (q.2.1.getD x 0))), .val (.int (Int32.ofNat (q.1.getD q.2.2.1 0)))] [(.ref sa)])) _
        refine XS.iload X65.here hx rfl (hb hby own_d3_88) rfl ?_
        show Steps p.tables e below (T65.setTop (mkF m 90 #[.val (.ref a1), .val (.int (Int32.ofNat x)), .val (.int (0 : Int32)), .val (.int (Int32.ofNat q.2.2.1)), .val (.int (Int32.ofNat (q.2.1.getD x 0))), .val (.int (Int32.ofNat (q.1.getD q.2.2.1 0)))] [(.int (Int32.ofNat (q.2.1.getD x 0))), (.ref sa)])) _
        refine XS.iload X65.here hx rfl (hb hby own_d3_90) rfl ?_
        show Steps p.tables e below (T65.setTop (mkF m 92 #[.val (.ref a1), .val (.int (Int32.ofNat x)), .val (.int (0 : Int32)), .val (.int (Int32.ofNat q.2.2.1)), .val (.int (Int32.ofNat (q.2.1.getD x 0))), .val (.int (Int32.ofNat (q.1.getD q.2.2.1 0)))] [(.int (Int32.ofNat (q.1.getD q.2.2.1 0))), (.int (Int32.ofNat (q.2.1.getD x 0))), (.ref sa)])) _
        refine st66 _ ?_
        show Steps p.tables e below (T66.setTop (mkF m 93 #[.val (.ref a1), .val (.int (Int32.ofNat x)), .val (.int (0 : Int32)), .val (.int (Int32.ofNat q.2.2.1)), .val (.int (Int32.ofNat (q.2.1.getD x 0))), .val (.int (Int32.ofNat (q.1.getD q.2.2.1 0)))] [])) _
        refine XS.aloadN X66.here hx rfl (hb hby own_d3_93) rfl rfl ?_
        show Steps p.tables e below (T66.setTop (mkF m 94 #[.val (.ref a1), .val (.int (Int32.ofNat x)), .val (.int (0 : Int32)), .val (.int (Int32.ofNat q.2.2.1)), .val (.int (Int32.ofNat (q.2.1.getD x 0))), .val (.int (Int32.ofNat (q.1.getD q.2.2.1 0)))] [(.ref a1)])) _
        refine st70 _ ?_
        show Steps p.tables e below (T70.setTop (mkF m 97 #[.val (.ref a1), .val (.int (Int32.ofNat x)), .val (.int (0 : Int32)), .val (.int (Int32.ofNat q.2.2.1)), .val (.int (Int32.ofNat (q.2.1.getD x 0))), .val (.int (Int32.ofNat (q.1.getD q.2.2.1 0)))] [(.ref pa)])) _
        refine XS.iload X70.here hx rfl (hb hby own_d3_97) rfl ?_
        show Steps p.tables e below (T70.setTop (mkF m 99 #[.val (.ref a1), .val (.int (Int32.ofNat x)), .val (.int (0 : Int32)), .val (.int (Int32.ofNat q.2.2.1)), .val (.int (Int32.ofNat (q.2.1.getD x 0))), .val (.int (Int32.ofNat (q.1.getD q.2.2.1 0)))] [(.int (Int32.ofNat (q.1.getD q.2.2.1 0))), (.ref pa)])) _
        refine XS.iload X70.here hx rfl (hb hby own_d3_99) rfl ?_
        show Steps p.tables e below (T70.setTop (mkF m 101 #[.val (.ref a1), .val (.int (Int32.ofNat x)), .val (.int (0 : Int32)), .val (.int (Int32.ofNat q.2.2.1)), .val (.int (Int32.ofNat (q.2.1.getD x 0))), .val (.int (Int32.ofNat (q.1.getD q.2.2.1 0)))] [(.int (Int32.ofNat (q.2.1.getD x 0))), (.int (Int32.ofNat (q.1.getD q.2.2.1 0))), (.ref pa)])) _
        refine st71 _ ?_
        show Steps p.tables e below (T71.setTop (mkF m 102 #[.val (.ref a1), .val (.int (Int32.ofNat x)), .val (.int (0 : Int32)), .val (.int (Int32.ofNat q.2.2.1)), .val (.int (Int32.ofNat (q.2.1.getD x 0))), .val (.int (Int32.ofNat (q.1.getD q.2.2.1 0)))] [])) _
        refine XS.aloadN X71.here hx rfl (hb hby own_d3_102) rfl rfl ?_
        show Steps p.tables e below (T71.setTop (mkF m 103 #[.val (.ref a1), .val (.int (Int32.ofNat x)), .val (.int (0 : Int32)), .val (.int (Int32.ofNat q.2.2.1)), .val (.int (Int32.ofNat (q.2.1.getD x 0))), .val (.int (Int32.ofNat (q.1.getD q.2.2.1 0)))] [(.ref a1)])) _
        refine st75 _ ?_
        show Steps p.tables e below (T75.setTop (mkF m 106 #[.val (.ref a1), .val (.int (Int32.ofNat x)), .val (.int (0 : Int32)), .val (.int (Int32.ofNat q.2.2.1)), .val (.int (Int32.ofNat (q.2.1.getD x 0))), .val (.int (Int32.ofNat (q.1.getD q.2.2.1 0)))] [(.ref ma)])) _
        refine XS.iloadN X75.here hx rfl (hb hby own_d3_106) rfl ?_
        show Steps p.tables e below (T75.setTop (mkF m 107 #[.val (.ref a1), .val (.int (Int32.ofNat x)), .val (.int (0 : Int32)), .val (.int (Int32.ofNat q.2.2.1)), .val (.int (Int32.ofNat (q.2.1.getD x 0))), .val (.int (Int32.ofNat (q.1.getD q.2.2.1 0)))] [(.int (0 : Int32)), (.ref ma)])) _
        refine Jvm.Free.XT.dup2 X75.here hx rfl (hb hby own_d3_107) rfl rfl rfl ?_
        show Steps p.tables e below (T75.setTop (mkF m 108 #[.val (.ref a1), .val (.int (Int32.ofNat x)), .val (.int (0 : Int32)), .val (.int (Int32.ofNat q.2.2.1)), .val (.int (Int32.ofNat (q.2.1.getD x 0))), .val (.int (Int32.ofNat (q.1.getD q.2.2.1 0)))] [(.int (0 : Int32)), (.ref ma), (.int (0 : Int32)), (.ref ma)])) _
        refine ld76 _ ?_
        show Steps p.tables e below (T75.setTop (mkF m 109 #[.val (.ref a1), .val (.int (Int32.ofNat x)), .val (.int (0 : Int32)), .val (.int (Int32.ofNat q.2.2.1)), .val (.int (Int32.ofNat (q.2.1.getD x 0))), .val (.int (Int32.ofNat (q.1.getD q.2.2.1 0)))] [(.int (Int32.ofNat q.2.2.1)), (.int (0 : Int32)), (.ref ma)])) _
        refine XS.iconst X75.here hx rfl (hb hby own_d3_109) ?_
        show Steps p.tables e below (T75.setTop (mkF m 110 #[.val (.ref a1), .val (.int (Int32.ofNat x)), .val (.int (0 : Int32)), .val (.int (Int32.ofNat q.2.2.1)), .val (.int (Int32.ofNat (q.2.1.getD x 0))), .val (.int (Int32.ofNat (q.1.getD q.2.2.1 0)))] [(.int (1 : Int32)), (.int (Int32.ofNat q.2.2.1)), (.int (0 : Int32)), (.ref ma)])) _
        refine XS.iadd X75.here hx rfl (hb hby own_d3_110) rfl ?_
        show Steps p.tables e below (T75.setTop (mkF m 111 #[.val (.ref a1), .val (.int (Int32.ofNat x)), .val (.int (0 : Int32)), .val (.int (Int32.ofNat q.2.2.1)), .val (.int (Int32.ofNat (q.2.1.getD x 0))), .val (.int (Int32.ofNat (q.1.getD q.2.2.1 0)))] [(.int ((Int32.ofNat q.2.2.1) + (1 : Int32))), (.int (0 : Int32)), (.ref ma)])) _
        refine st77 _ ?_
        show Steps p.tables e below (T77.setTop (mkF m 112 #[.val (.ref a1), .val (.int (Int32.ofNat x)), .val (.int (0 : Int32)), .val (.int (Int32.ofNat q.2.2.1)), .val (.int (Int32.ofNat (q.2.1.getD x 0))), .val (.int (Int32.ofNat (q.1.getD q.2.2.1 0)))] [])) _
        exact X77.returnOut hx Bd.returns (hb hby own_d3_112) hr
      · show own_Q3 Z a1 x sa pa ba fa na ma ta q h0 n0 _ T77.heap _
        rw [e77]
        have hz : ¬ q.2.2.1 = 0 := fun w => hc42 ((own_eqn (by omega) (by decide)).mpr w)
        have q5 : own_mark q x = _ := if_neg hpm
        refine ⟨rfl, N80, K78, ?_⟩
        rw [q5]
        exact ⟨E_a1, F_states, F_positions, F_blockOf, F_firsts, F_ends, F_marks, F_touched, (by rw [show (if q.2.2.1 = 0 then q.2.2.2 + 1 else q.2.2.2) = q.2.2.2 from if_neg hz]; exact F_touchedCount), _, V_sa.congr (fun i hi => by
            show _ = Value.int (Int32.ofNat (((q.1.set q.2.2.1 x).set (q.2.1.getD x 0) (q.1.getD q.2.2.1 0)).getD i 0))
            rw [own_setg _ _ _ (by rw [List.length_set, l4]; exact y4), own_setg _ _ _ (by rw [l4]; exact mk4)]
            by_cases h1 : i = q.2.1.getD x 0
            · simp only [if_pos h1]
            · simp only [if_neg h1]
              by_cases h2 : i = q.2.2.1
              · simp only [if_pos h2]
              · simp only [if_neg h2]), V_pa.congr (fun i hi => by
            show _ = Value.int (Int32.ofNat (((q.2.1.set x q.2.2.1).set (q.1.getD q.2.2.1 0) (q.2.1.getD x 0)).getD i 0))
            rw [own_setg _ _ _ (by rw [List.length_set, k4]; exact om4), own_setg _ _ _ (by rw [k4]; exact x4)]
            by_cases h1 : i = q.1.getD q.2.2.1 0
            · simp only [if_pos h1]
            · simp only [if_neg h1]
              by_cases h2 : i = x
              · simp only [if_pos h2]
              · simp only [if_neg h2]), V_ba, V_fa, V_na, V_ma.congr (fun i hi => by
            show _ = Value.int (own_one (q.2.2.1 + 1) i)
            by_cases h1 : i = 0
            · simp only [h1, own_one, if_true]; exact congrArg Value.int (Int32.ofNat_add q.2.2.1 1).symm
            · simp [h1, own_one]), V_ta⟩
theorem own_d4_0 : decode prog_46_method_6_code 0 = .ok (.aload_n 0, 1) := by decide +kernel
theorem own_d4_1 : decode prog_46_method_6_code 1 = .ok (.getfield 7, 3) := by decide +kernel
theorem own_d4_4 : decode prog_46_method_6_code 4 = .ok (.iload_n 1, 1) := by decide +kernel
theorem own_d4_5 : decode prog_46_method_6_code 5 = .ok (.iaload, 1) := by decide +kernel
theorem own_d4_6 : decode prog_46_method_6_code 6 = .ok (.ireturn, 1) := by decide +kernel
theorem own_ef4 (m : MethodId) (x0 : Addr) (x1 : Int32) : entryFrame m #[(.ref x0), (.int x1)] 2 = mkF m 0 #[.val (.ref x0), .val (.int x1)] [] := by first | (simp [entryFrame, mkF, argsToLocals, Value.category]; done) | rfl
def own_Q4 (Z : State) (a1 : Addr) (i : Nat) (sa : Addr) (ll : List Nat) (h0 : Heap) (n0 : Nat) (v : Option Value) (h : Heap) (L : List Loc) : Prop := v = some (.int (Int32.ofNat (ll.getD i 0))) ∧ Fr n0 L ∧ h = h0
set_option maxRecDepth 65536 in
set_option maxHeartbeats 40000000 in
theorem own_rm4 (l : Launch) (Z : State) (a0 : Array Value) (hw : ∀ d ∈ tables_1, d.before a0 Z = true) (ws : List Jvm.Cond) (a1 : Addr) (i : Nat) (sa : Addr) (ll : List Nat) (h0 : Heap) (n0 : Nat) (Z0 : n0 ≤ h0.size) (F_s : Fld Z h0 a1 "com/example/wary_observer/waryobserver/equivalence/Partition" "states" "[I" (.ref sa)) (V_sa : own_AF Z h0 sa .int 4 (fun i => .int (Int32.ofNat (ll.getD i 0)))) (hi : i < 4) :
    MetFree l (⟨"com/example/wary_observer/waryobserver/equivalence/Partition", "state", "(I)I"⟩ : MethodName) (head1 (Jvm.Cond.code (⟨"com/example/wary_observer/waryobserver/equivalence/Partition", "state", "(I)I"⟩ : MethodName) prog_46_method_6_code 2 (some .int) :: ws) ({ frames := 0, cells := 0, slots := 0, locals := 0 } : Room)) (fun a U => a = #[(.ref a1), (.int (Int32.ofNat i))] ∧ Z.Warmed39 U.vm ∧ U.heap = h0) (fun _ _ _ _ _ => True) (fun _ U o U' => ∃ v L, o = .returned v ∧ own_Q4 Z a1 i sa ll h0 n0 v U'.heap L ∧ FrameEnd U o U' L ({ frames := 0, cells := 0, slots := 0, locals := 0 } : Room).cells ({ frames := 0, cells := 0, slots := 0, locals := 0 } : Room).slots) := by
  refine MetFree.of_bodySF (plainFor_of_name own_pn0) hisR ?_
  intro p e s m args below meth c s₁ Bd hml0 hP hK
  obtain ⟨rfl, hZ, hh⟩ := hP
  have hx := Bd.exec
  have hby := Bd.bytes
  have hml : c.maxLocals = 2 := hml0
  have hown : s.vm.findClass "com/example/wary_observer/waryobserver/equivalence/Partition" = some m.cls := findClass_of_methodNamed Bd.named
  have hnm := (name_of_methodNamed Bd.named Bd.method).1
  have X0 : Stand p l e ({ frames := 0, cells := 0, slots := 0, locals := 0 } : Room) s m #[(.ref a1), (.int (Int32.ofNat i))] below meth c s₁ [] 0 0 := Stand.of_body Bd
  have e0 : s₁.heap = h0 := by rw [← hh, Bd.state]; rfl
  have N0 := Fr.nil n0
  have K0 := Keep.refl h0 []
  have pre0 : ∀ t, Steps p.tables e below (s₁.setTop (mkF m 0 #[.val (.ref a1), .val (.int (Int32.ofNat i))] [])) t → Steps p.tables e below (s₁.setTop (entryFrame m #[(.ref a1), (.int (Int32.ofNat i))] 2)) t := fun t kt0 => castTop (own_ef4 m (a1) ((Int32.ofNat i))) kt0
  obtain ⟨T1, X1, e1, st1⟩ := getF X0 hx hZ hown (host := "") (Or.inl (hw _ (List.mem_of_getElem? (i := 10) rfl))) Via.refl e0 F_s (g := (mkF m 1 #[.val (.ref a1), .val (.int (Int32.ofNat i))] [(.ref a1)])) rfl rfl (hb hby own_d4_1)
  have ld2 := (own_ldI X1 hx hZ e1 V_sa (j := (Int32.ofNat i)) (own_ix (Nat.lt_trans hi (by decide))).1 (k := i) (own_ix (Nat.lt_trans hi (by decide))).2 hi (v := (.int (Int32.ofNat (ll.getD i 0)))) rfl (g := (mkF m 5 #[.val (.ref a1), .val (.int (Int32.ofNat i))] [(.int (Int32.ofNat i)), (.ref sa)])) rfl rfl (hb hby own_d4_5))
  obtain ⟨fs, hr, hrun, hended, hW, hsame⟩ := X1.leave (v := some (.int (Int32.ofNat (ll.getD i 0)))) (fun h => by rw [Bd.returns] at h; cases h) (BodyLoose.notSynchronized Bd)
  refine ⟨_, _, pre0 _ ?_, hrun, hended, _, _, rfl, ?_, ⟨_, rfl⟩, hW, hsame.mono (by decide) (by decide)⟩
  · skip
    show Steps p.tables e below (s₁.setTop (mkF m 0 #[.val (.ref a1), .val (.int (Int32.ofNat i))] [])) _
    refine XS.aloadN X0.here hx rfl (hb hby own_d4_0) rfl rfl ?_
    show Steps p.tables e below (s₁.setTop (mkF m 1 #[.val (.ref a1), .val (.int (Int32.ofNat i))] [(.ref a1)])) _
    refine st1 _ ?_
    show Steps p.tables e below (T1.setTop (mkF m 4 #[.val (.ref a1), .val (.int (Int32.ofNat i))] [(.ref sa)])) _
    refine XS.iloadN X1.here hx rfl (hb hby own_d4_4) rfl ?_
    show Steps p.tables e below (T1.setTop (mkF m 5 #[.val (.ref a1), .val (.int (Int32.ofNat i))] [(.int (Int32.ofNat i)), (.ref sa)])) _
    refine ld2 _ ?_
    show Steps p.tables e below (T1.setTop (mkF m 6 #[.val (.ref a1), .val (.int (Int32.ofNat i))] [(.int (Int32.ofNat (ll.getD i 0)))])) _
    exact retI X1 hx Bd.returns (hb hby own_d4_6) hr
  · show own_Q4 Z a1 i sa ll h0 n0 _ T1.heap _
    rw [e1]
    exact ⟨rfl, N0, rfl⟩
theorem own_d5_0 : decode method_2_code 0 = .ok (.iload_n 0, 1) := by decide +kernel
theorem own_d5_1 : decode method_2_code 1 = .ok (.ifCond .lt 12, 3) := by decide +kernel
theorem own_d5_4 : decode method_2_code 4 = .ok (.iload_n 0, 1) := by decide +kernel
theorem own_d5_5 : decode method_2_code 5 = .ok (.iconst 4, 1) := by decide +kernel
theorem own_d5_6 : decode method_2_code 6 = .ok (.if_icmp .ge 7, 3) := by decide +kernel
theorem own_d5_9 : decode method_2_code 9 = .ok (.iconst 1, 1) := by decide +kernel
theorem own_d5_10 : decode method_2_code 10 = .ok (.goto 4, 3) := by decide +kernel
theorem own_d5_14 : decode method_2_code 14 = .ok (.ireturn, 1) := by decide +kernel
theorem own_pn1 : plainName "com/example/wary_observer/waryobserver/equivalence/PartitionMarkPinLaw" = true := by first | (simp [plainName, overriddenIn]; done) | decide +kernel
theorem own_ef5 (m : MethodId) (x0 : Int32) : entryFrame m #[(.int x0)] 1 = mkF m 0 #[.val (.int x0)] [] := by first | (simp [entryFrame, mkF, argsToLocals, Value.category]; done) | rfl
def own_Q5 (Z : State) (k : Nat) (h0 : Heap) (n0 : Nat) (v : Option Value) (h : Heap) (L : List Loc) : Prop := v = some (.int 1) ∧ Fr n0 L ∧ h = h0
set_option maxRecDepth 65536 in
set_option maxHeartbeats 40000000 in
theorem own_rm5 (l : Launch) (Z : State) (a0 : Array Value) (hw : ∀ d ∈ tables_1, d.before a0 Z = true) (ws : List Jvm.Cond) (k : Nat) (h0 : Heap) (n0 : Nat) (Z0 : n0 ≤ h0.size) (hk4 : k < 4) :
    MetFree l (⟨"com/example/wary_observer/waryobserver/equivalence/PartitionMarkPinLaw", "in", "(I)Z"⟩ : MethodName) (head1 (Jvm.Cond.code (⟨"com/example/wary_observer/waryobserver/equivalence/PartitionMarkPinLaw", "in", "(I)Z"⟩ : MethodName) method_2_code 1 (some .boolean) :: ws) ({ frames := 0, cells := 0, slots := 0, locals := 0 } : Room)) (fun a U => a = #[(.int (Int32.ofNat k))] ∧ Z.Warmed39 U.vm ∧ U.heap = h0) (fun _ _ _ _ _ => True) (fun _ U o U' => ∃ v L, o = .returned v ∧ own_Q5 Z k h0 n0 v U'.heap L ∧ FrameEnd U o U' L ({ frames := 0, cells := 0, slots := 0, locals := 0 } : Room).cells ({ frames := 0, cells := 0, slots := 0, locals := 0 } : Room).slots) := by
  refine MetFree.of_bodySF (plainFor_of_name own_pn1) hisR ?_
  intro p e s m args below meth c s₁ Bd hml0 hP hK
  obtain ⟨rfl, hZ, hh⟩ := hP
  have hx := Bd.exec
  have hby := Bd.bytes
  have hml : c.maxLocals = 1 := hml0
  have hown : s.vm.findClass "com/example/wary_observer/waryobserver/equivalence/PartitionMarkPinLaw" = some m.cls := findClass_of_methodNamed Bd.named
  have hnm := (name_of_methodNamed Bd.named Bd.method).1
  have X0 : Stand p l e ({ frames := 0, cells := 0, slots := 0, locals := 0 } : Room) s m #[(.int (Int32.ofNat k))] below meth c s₁ [] 0 0 := Stand.of_body Bd
  have e0 : s₁.heap = h0 := by rw [← hh, Bd.state]; rfl
  have N0 := Fr.nil n0
  have K0 := Keep.refl h0 []
  have pre0 : ∀ t, Steps p.tables e below (s₁.setTop (mkF m 0 #[.val (.int (Int32.ofNat k))] [])) t → Steps p.tables e below (s₁.setTop (entryFrame m #[(.int (Int32.ofNat k))] 1)) t := fun t kt0 => castTop (own_ef5 m ((Int32.ofNat k))) kt0
  obtain ⟨fs, hr, hrun, hended, hW, hsame⟩ := X0.leave (v := some (.int (1 : Int32))) (fun h => by rw [Bd.returns] at h; cases h) (BodyLoose.notSynchronized Bd)
  refine ⟨_, _, pre0 _ ?_, hrun, hended, _, _, rfl, ?_, ⟨_, rfl⟩, hW, hsame.mono (by decide) (by decide)⟩
  · skip
    show Steps p.tables e below (s₁.setTop (mkF m 0 #[.val (.int (Int32.ofNat k))] [])) _
    refine XS.iloadN X0.here hx rfl (hb hby own_d5_0) rfl ?_
    show Steps p.tables e below (s₁.setTop (mkF m 1 #[.val (.int (Int32.ofNat k))] [(.int (Int32.ofNat k))])) _
    refine XS.ifNo X0.here hx rfl (hb hby own_d5_1) rfl ((if0 _ _).trans (flt (own_ix (Nat.lt_trans hk4 (by decide))).1).1) ?_
    show Steps p.tables e below (s₁.setTop (mkF m 4 #[.val (.int (Int32.ofNat k))] [])) _
    refine XS.iloadN X0.here hx rfl (hb hby own_d5_4) rfl ?_
    show Steps p.tables e below (s₁.setTop (mkF m 5 #[.val (.int (Int32.ofNat k))] [(.int (Int32.ofNat k))])) _
    refine XS.iconst X0.here hx rfl (hb hby own_d5_5) ?_
    show Steps p.tables e below (s₁.setTop (mkF m 6 #[.val (.int (Int32.ofNat k))] [(.int (4 : Int32)), (.int (Int32.ofNat k))])) _
    refine XS.icmpNo X0.here hx rfl (hb hby own_d5_6) rfl (tlt ((own_ltn (Nat.lt_trans hk4 (by decide)) (by decide)).mpr hk4)).2.1 ?_
    show Steps p.tables e below (s₁.setTop (mkF m 9 #[.val (.int (Int32.ofNat k))] [])) _
    refine XS.iconst X0.here hx rfl (hb hby own_d5_9) ?_
    show Steps p.tables e below (s₁.setTop (mkF m 10 #[.val (.int (Int32.ofNat k))] [(.int (1 : Int32))])) _
    refine XS.goto X0.here hx rfl (pc0 := 10) (pc' := 14) rfl (hb hby own_d5_10) (by decide) (by decide) ?_
    show Steps p.tables e below (s₁.setTop (mkF m 14 #[.val (.int (Int32.ofNat k))] [(.int (1 : Int32))])) _
    exact retN X0 hx (t := .boolean) Bd.returns (by simp) (hb hby own_d5_14) hr
  · show own_Q5 Z k h0 n0 _ s₁.heap _
    rw [e0]
    exact ⟨rfl, N0, rfl⟩
theorem own_d6_0 : decode prog_46_method_3_code 0 = .ok (.aload_n 0, 1) := by decide +kernel
theorem own_d6_1 : decode prog_46_method_3_code 1 = .ok (.getfield 22, 3) := by decide +kernel
theorem own_d6_4 : decode prog_46_method_3_code 4 = .ok (.iload_n 1, 1) := by decide +kernel
theorem own_d6_5 : decode prog_46_method_3_code 5 = .ok (.iaload, 1) := by decide +kernel
theorem own_d6_6 : decode prog_46_method_3_code 6 = .ok (.aload_n 0, 1) := by decide +kernel
theorem own_d6_7 : decode prog_46_method_3_code 7 = .ok (.getfield 19, 3) := by decide +kernel
theorem own_d6_10 : decode prog_46_method_3_code 10 = .ok (.iload_n 1, 1) := by decide +kernel
theorem own_d6_11 : decode prog_46_method_3_code 11 = .ok (.iaload, 1) := by decide +kernel
theorem own_d6_12 : decode prog_46_method_3_code 12 = .ok (.isub, 1) := by decide +kernel
theorem own_d6_13 : decode prog_46_method_3_code 13 = .ok (.ireturn, 1) := by decide +kernel
theorem own_ef6 (m : MethodId) (x0 : Addr) (x1 : Int32) : entryFrame m #[(.ref x0), (.int x1)] 2 = mkF m 0 #[.val (.ref x0), .val (.int x1)] [] := by first | (simp [entryFrame, mkF, argsToLocals, Value.category]; done) | rfl
def own_Q6 (Z : State) (a1 : Addr) (na : Addr) (fa : Addr) (h0 : Heap) (n0 : Nat) (v : Option Value) (h : Heap) (L : List Loc) : Prop := v = some (.int (4 : Int32)) ∧ Fr n0 L ∧ h = h0
set_option maxRecDepth 65536 in
set_option maxHeartbeats 40000000 in
theorem own_rm6 (l : Launch) (Z : State) (a0 : Array Value) (hw : ∀ d ∈ tables_1, d.before a0 Z = true) (ws : List Jvm.Cond) (a1 : Addr) (na : Addr) (fa : Addr) (h0 : Heap) (n0 : Nat) (Z0 : n0 ≤ h0.size) (F_e : Fld Z h0 a1 "com/example/wary_observer/waryobserver/equivalence/Partition" "ends" "[I" (.ref na)) (F_f : Fld Z h0 a1 "com/example/wary_observer/waryobserver/equivalence/Partition" "firsts" "[I" (.ref fa)) (V_na : own_AF Z h0 na .int 4 (fun i => .int (own_one 4 i))) (V_fa : own_AF Z h0 fa .int 4 (fun _ => .int (0 : Int32))) :
    MetFree l (⟨"com/example/wary_observer/waryobserver/equivalence/Partition", "size", "(I)I"⟩ : MethodName) (head1 (Jvm.Cond.code (⟨"com/example/wary_observer/waryobserver/equivalence/Partition", "size", "(I)I"⟩ : MethodName) prog_46_method_3_code 2 (some .int) :: ws) ({ frames := 0, cells := 0, slots := 0, locals := 0 } : Room)) (fun a U => a = #[(.ref a1), (.int (0 : Int32))] ∧ Z.Warmed39 U.vm ∧ U.heap = h0) (fun _ _ _ _ _ => True) (fun _ U o U' => ∃ v L, o = .returned v ∧ own_Q6 Z a1 na fa h0 n0 v U'.heap L ∧ FrameEnd U o U' L ({ frames := 0, cells := 0, slots := 0, locals := 0 } : Room).cells ({ frames := 0, cells := 0, slots := 0, locals := 0 } : Room).slots) := by
  refine MetFree.of_bodySF (plainFor_of_name own_pn0) hisR ?_
  intro p e s m args below meth c s₁ Bd hml0 hP hK
  obtain ⟨rfl, hZ, hh⟩ := hP
  have hx := Bd.exec
  have hby := Bd.bytes
  have hml : c.maxLocals = 2 := hml0
  have hown : s.vm.findClass "com/example/wary_observer/waryobserver/equivalence/Partition" = some m.cls := findClass_of_methodNamed Bd.named
  have hnm := (name_of_methodNamed Bd.named Bd.method).1
  have X0 : Stand p l e ({ frames := 0, cells := 0, slots := 0, locals := 0 } : Room) s m #[(.ref a1), (.int (0 : Int32))] below meth c s₁ [] 0 0 := Stand.of_body Bd
  have e0 : s₁.heap = h0 := by rw [← hh, Bd.state]; rfl
  have N0 := Fr.nil n0
  have K0 := Keep.refl h0 []
  have pre0 : ∀ t, Steps p.tables e below (s₁.setTop (mkF m 0 #[.val (.ref a1), .val (.int (0 : Int32))] [])) t → Steps p.tables e below (s₁.setTop (entryFrame m #[(.ref a1), (.int (0 : Int32))] 2)) t := fun t kt0 => castTop (own_ef6 m (a1) ((0 : Int32))) kt0
  obtain ⟨T1, X1, e1, st1⟩ := getF X0 hx hZ hown (host := "") (Or.inl (hw _ (List.mem_of_getElem? (i := 18) rfl))) Via.refl e0 F_e (g := (mkF m 1 #[.val (.ref a1), .val (.int (0 : Int32))] [(.ref a1)])) rfl rfl (hb hby own_d6_1)
  have ld2 := (own_ldI X1 hx hZ e1 V_na (j := (0 : Int32)) (by decide) (k := 0) rfl (by decide) (v := (.int (4 : Int32))) rfl (g := (mkF m 5 #[.val (.ref a1), .val (.int (0 : Int32))] [(.int (0 : Int32)), (.ref na)])) rfl rfl (hb hby own_d6_5))
  obtain ⟨T3, X3, e3, st3⟩ := getF X1 hx hZ hown (host := "") (Or.inl (hw _ (List.mem_of_getElem? (i := 16) rfl))) Via.refl e1 F_f (g := (mkF m 7 #[.val (.ref a1), .val (.int (0 : Int32))] [(.ref a1), (.int (4 : Int32))])) rfl rfl (hb hby own_d6_7)
  have ld4 := (own_ldI X3 hx hZ e3 V_fa (j := (0 : Int32)) (by decide) (k := 0) rfl (by decide) (v := (.int (0 : Int32))) rfl (g := (mkF m 11 #[.val (.ref a1), .val (.int (0 : Int32))] [(.int (0 : Int32)), (.ref fa), (.int (4 : Int32))])) rfl rfl (hb hby own_d6_11))
  obtain ⟨fs, hr, hrun, hended, hW, hsame⟩ := X3.leave (v := some (.int (4 : Int32))) (fun h => by rw [Bd.returns] at h; cases h) (BodyLoose.notSynchronized Bd)
  refine ⟨_, _, pre0 _ ?_, hrun, hended, _, _, rfl, ?_, ⟨_, rfl⟩, hW, hsame.mono (by decide) (by decide)⟩
  · skip
    show Steps p.tables e below (s₁.setTop (mkF m 0 #[.val (.ref a1), .val (.int (0 : Int32))] [])) _
    refine XS.aloadN X0.here hx rfl (hb hby own_d6_0) rfl rfl ?_
    show Steps p.tables e below (s₁.setTop (mkF m 1 #[.val (.ref a1), .val (.int (0 : Int32))] [(.ref a1)])) _
    refine st1 _ ?_
    show Steps p.tables e below (T1.setTop (mkF m 4 #[.val (.ref a1), .val (.int (0 : Int32))] [(.ref na)])) _
    refine XS.iloadN X1.here hx rfl (hb hby own_d6_4) rfl ?_
    show Steps p.tables e below (T1.setTop (mkF m 5 #[.val (.ref a1), .val (.int (0 : Int32))] [(.int (0 : Int32)), (.ref na)])) _
    refine ld2 _ ?_
    show Steps p.tables e below (T1.setTop (mkF m 6 #[.val (.ref a1), .val (.int (0 : Int32))] [(.int (4 : Int32))])) _
    refine XS.aloadN X1.here hx rfl (hb hby own_d6_6) rfl rfl ?_
    show Steps p.tables e below (T1.setTop (mkF m 7 #[.val (.ref a1), .val (.int (0 : Int32))] [(.ref a1), (.int (4 : Int32))])) _
    refine st3 _ ?_
    show Steps p.tables e below (T3.setTop (mkF m 10 #[.val (.ref a1), .val (.int (0 : Int32))] [(.ref fa), (.int (4 : Int32))])) _
    refine XS.iloadN X3.here hx rfl (hb hby own_d6_10) rfl ?_
    show Steps p.tables e below (T3.setTop (mkF m 11 #[.val (.ref a1), .val (.int (0 : Int32))] [(.int (0 : Int32)), (.ref fa), (.int (4 : Int32))])) _
    refine ld4 _ ?_
    show Steps p.tables e below (T3.setTop (mkF m 12 #[.val (.ref a1), .val (.int (0 : Int32))] [(.int (0 : Int32)), (.int (4 : Int32))])) _
    refine XS.isub X3.here hx rfl (hb hby own_d6_12) rfl ?_
    show Steps p.tables e below (T3.setTop (mkF m 13 #[.val (.ref a1), .val (.int (0 : Int32))] [(.int (4 : Int32))])) _
    exact retI X3 hx Bd.returns (hb hby own_d6_13) hr
  · show own_Q6 Z a1 na fa h0 n0 _ T3.heap _
    rw [e3]
    exact ⟨rfl, N0, rfl⟩
theorem own_pd0 : parseMethodDescriptor "(I)V" = some ⟨[.int], none⟩ := by decide +kernel
theorem own_pd1 : parseMethodDescriptor "(I)I" = some ⟨[.int], some .int⟩ := by decide +kernel
theorem own_pd2 : parseMethodDescriptor "(I)Z" = some ⟨[.int], some .boolean⟩ := by decide +kernel
theorem own_ef0 (m : MethodId) (x0 : Int32) (x1 : Int32) (x2 : Int32) (x3 : Int32) : entryFrame m #[(.int x0), (.int x1), (.int x2), (.int x3)] maxLocals = mkF m 0 #[.val (.int x0), .val (.int x1), .val (.int x2), .val (.int x3), .unset, .unset, .unset, .unset, .unset, .unset, .unset, .unset, .unset, .unset, .unset, .unset, .unset, .unset] [] := by first | (simp [entryFrame, mkF, argsToLocals, Value.category, maxLocals]; done) | rfl
def own_Q0 (Z : State) (a1 : Int32) (a2 : Int32) (a3 : Int32) (a4 : Int32) (h0 : Heap) (n0 : Nat) (v : Option Value) (h : Heap) (L : List Loc) : Prop := v = some (.int 1) ∧ Fr n0 L
set_option maxRecDepth 65536 in
set_option maxHeartbeats 40000000 in
theorem own_rm0 (l : Launch) (Z : State) (a0 : Array Value) (hw : ∀ d ∈ tables_1, d.before a0 Z = true) (ws : List Jvm.Cond) (a1 : Int32) (a2 : Int32) (a3 : Int32) (a4 : Int32) (h0 : Heap) (n0 : Nat) (Z0 : n0 ≤ h0.size) :
    MetFree l x (head1 (Jvm.Cond.code x code maxLocals ret :: ws) room_1) (fun a U => a = #[(.int a1), (.int a2), (.int a3), (.int a4)] ∧ Z.Warmed39 U.vm ∧ U.heap = h0) (fun _ _ _ _ _ => True) (fun _ U o U' => ∃ v L, o = .returned v ∧ own_Q0 Z a1 a2 a3 a4 h0 n0 v U'.heap L ∧ FrameEnd U o U' L room_1.cells room_1.slots) := by
  refine MetFree.of_bodySF (plainFor_of_name own_pn1) hisR ?_
  intro p e s m args below meth c s₁ Bd hml0 hP hK
  obtain ⟨rfl, hZ, hh⟩ := hP
  have hx := Bd.exec
  have hby := Bd.bytes
  have hml : c.maxLocals = 18 := hml0
  have hown : s.vm.findClass "com/example/wary_observer/waryobserver/equivalence/PartitionMarkPinLaw" = some m.cls := findClass_of_methodNamed Bd.named
  have hnm := (name_of_methodNamed Bd.named Bd.method).1
  have X0 : Stand p l e room_1 s m #[(.int a1), (.int a2), (.int a3), (.int a4)] below meth c s₁ [] 0 0 := Stand.of_body Bd
  have e0 : s₁.heap = h0 := by rw [← hh, Bd.state]; rfl
  have N0 := Fr.nil n0
  have K0 := Keep.refl h0 []
  have pre0 : ∀ t, Steps p.tables e below (s₁.setTop (mkF m 0 #[.val (.int a1), .val (.int a2), .val (.int a3), .val (.int a4), .unset, .unset, .unset, .unset, .unset, .unset, .unset, .unset, .unset, .unset, .unset, .unset, .unset, .unset] [])) t → Steps p.tables e below (s₁.setTop (entryFrame m #[(.int a1), (.int a2), (.int a3), (.int a4)] maxLocals)) t := fun t kt0 => castTop (own_ef0 m (a1) (a2) (a3) (a4)) kt0
  obtain ⟨fa1, hfa1e⟩ := own_and3 a1
  have pre1 : ∀ t, Steps p.tables e below (s₁.setTop (mkF m 20 #[.val (.int a1), .val (.int a2), .val (.int a3), .val (.int a4), .val (.int (a1 &&& (3 : Int32))), .val (.int (a2 &&& (3 : Int32))), .val (.int (a3 &&& (3 : Int32))), .val (.int (a4 &&& (3 : Int32))), .unset, .unset, .unset, .unset, .unset, .unset, .unset, .unset, .unset, .unset] [])) t → Steps p.tables e below (s₁.setTop (entryFrame m #[(.int a1), (.int a2), (.int a3), (.int a4)] maxLocals)) t := by
    intro t kt
    refine pre0 t ?_
    show Steps p.tables e below (s₁.setTop (mkF m 0 #[.val (.int a1), .val (.int a2), .val (.int a3), .val (.int a4), .unset, .unset, .unset, .unset, .unset, .unset, .unset, .unset, .unset, .unset, .unset, .unset, .unset, .unset] [])) _
    refine XS.iloadN X0.here hx rfl (hb hby at_0) rfl ?_
    show Steps p.tables e below (s₁.setTop (mkF m 1 #[.val (.int a1), .val (.int a2), .val (.int a3), .val (.int a4), .unset, .unset, .unset, .unset, .unset, .unset, .unset, .unset, .unset, .unset, .unset, .unset, .unset, .unset] [(.int a1)])) _
    refine XS.iconst X0.here hx rfl (hb hby at_1) ?_
    show Steps p.tables e below (s₁.setTop (mkF m 2 #[.val (.int a1), .val (.int a2), .val (.int a3), .val (.int a4), .unset, .unset, .unset, .unset, .unset, .unset, .unset, .unset, .unset, .unset, .unset, .unset, .unset, .unset] [(.int (3 : Int32)), (.int a1)])) _
    refine XS.iand X0.here hx rfl (hb hby at_2) rfl ?_
    show Steps p.tables e below (s₁.setTop (mkF m 3 #[.val (.int a1), .val (.int a2), .val (.int a3), .val (.int a4), .unset, .unset, .unset, .unset, .unset, .unset, .unset, .unset, .unset, .unset, .unset, .unset, .unset, .unset] [(.int (a1 &&& (3 : Int32)))])) _
    refine XS.istore X0.here hx rfl (hb hby at_3) rfl (l' := #[.val (.int a1), .val (.int a2), .val (.int a3), .val (.int a4), .val (.int (a1 &&& (3 : Int32))), .unset, .unset, .unset, .unset, .unset, .unset, .unset, .unset, .unset, .unset, .unset, .unset, .unset]) rfl ?_
    show Steps p.tables e below (s₁.setTop (mkF m 5 #[.val (.int a1), .val (.int a2), .val (.int a3), .val (.int a4), .val (.int (a1 &&& (3 : Int32))), .unset, .unset, .unset, .unset, .unset, .unset, .unset, .unset, .unset, .unset, .unset, .unset, .unset] [])) _
    refine XS.iloadN X0.here hx rfl (hb hby at_5) rfl ?_
    show Steps p.tables e below (s₁.setTop (mkF m 6 #[.val (.int a1), .val (.int a2), .val (.int a3), .val (.int a4), .val (.int (a1 &&& (3 : Int32))), .unset, .unset, .unset, .unset, .unset, .unset, .unset, .unset, .unset, .unset, .unset, .unset, .unset] [(.int a2)])) _
    refine XS.iconst X0.here hx rfl (hb hby at_6) ?_
    show Steps p.tables e below (s₁.setTop (mkF m 7 #[.val (.int a1), .val (.int a2), .val (.int a3), .val (.int a4), .val (.int (a1 &&& (3 : Int32))), .unset, .unset, .unset, .unset, .unset, .unset, .unset, .unset, .unset, .unset, .unset, .unset, .unset] [(.int (3 : Int32)), (.int a2)])) _
    refine XS.iand X0.here hx rfl (hb hby at_7) rfl ?_
    show Steps p.tables e below (s₁.setTop (mkF m 8 #[.val (.int a1), .val (.int a2), .val (.int a3), .val (.int a4), .val (.int (a1 &&& (3 : Int32))), .unset, .unset, .unset, .unset, .unset, .unset, .unset, .unset, .unset, .unset, .unset, .unset, .unset] [(.int (a2 &&& (3 : Int32)))])) _
    refine XS.istore X0.here hx rfl (hb hby at_8) rfl (l' := #[.val (.int a1), .val (.int a2), .val (.int a3), .val (.int a4), .val (.int (a1 &&& (3 : Int32))), .val (.int (a2 &&& (3 : Int32))), .unset, .unset, .unset, .unset, .unset, .unset, .unset, .unset, .unset, .unset, .unset, .unset]) rfl ?_
    show Steps p.tables e below (s₁.setTop (mkF m 10 #[.val (.int a1), .val (.int a2), .val (.int a3), .val (.int a4), .val (.int (a1 &&& (3 : Int32))), .val (.int (a2 &&& (3 : Int32))), .unset, .unset, .unset, .unset, .unset, .unset, .unset, .unset, .unset, .unset, .unset, .unset] [])) _
    refine XS.iloadN X0.here hx rfl (hb hby at_10) rfl ?_
    show Steps p.tables e below (s₁.setTop (mkF m 11 #[.val (.int a1), .val (.int a2), .val (.int a3), .val (.int a4), .val (.int (a1 &&& (3 : Int32))), .val (.int (a2 &&& (3 : Int32))), .unset, .unset, .unset, .unset, .unset, .unset, .unset, .unset, .unset, .unset, .unset, .unset] [(.int a3)])) _
    refine XS.iconst X0.here hx rfl (hb hby at_11) ?_
    show Steps p.tables e below (s₁.setTop (mkF m 12 #[.val (.int a1), .val (.int a2), .val (.int a3), .val (.int a4), .val (.int (a1 &&& (3 : Int32))), .val (.int (a2 &&& (3 : Int32))), .unset, .unset, .unset, .unset, .unset, .unset, .unset, .unset, .unset, .unset, .unset, .unset] [(.int (3 : Int32)), (.int a3)])) _
    refine XS.iand X0.here hx rfl (hb hby at_12) rfl ?_
    show Steps p.tables e below (s₁.setTop (mkF m 13 #[.val (.int a1), .val (.int a2), .val (.int a3), .val (.int a4), .val (.int (a1 &&& (3 : Int32))), .val (.int (a2 &&& (3 : Int32))), .unset, .unset, .unset, .unset, .unset, .unset, .unset, .unset, .unset, .unset, .unset, .unset] [(.int (a3 &&& (3 : Int32)))])) _
    refine XS.istore X0.here hx rfl (hb hby at_13) rfl (l' := #[.val (.int a1), .val (.int a2), .val (.int a3), .val (.int a4), .val (.int (a1 &&& (3 : Int32))), .val (.int (a2 &&& (3 : Int32))), .val (.int (a3 &&& (3 : Int32))), .unset, .unset, .unset, .unset, .unset, .unset, .unset, .unset, .unset, .unset, .unset]) rfl ?_
    show Steps p.tables e below (s₁.setTop (mkF m 15 #[.val (.int a1), .val (.int a2), .val (.int a3), .val (.int a4), .val (.int (a1 &&& (3 : Int32))), .val (.int (a2 &&& (3 : Int32))), .val (.int (a3 &&& (3 : Int32))), .unset, .unset, .unset, .unset, .unset, .unset, .unset, .unset, .unset, .unset, .unset] [])) _
    refine XS.iloadN X0.here hx rfl (hb hby at_15) rfl ?_
    show Steps p.tables e below (s₁.setTop (mkF m 16 #[.val (.int a1), .val (.int a2), .val (.int a3), .val (.int a4), .val (.int (a1 &&& (3 : Int32))), .val (.int (a2 &&& (3 : Int32))), .val (.int (a3 &&& (3 : Int32))), .unset, .unset, .unset, .unset, .unset, .unset, .unset, .unset, .unset, .unset, .unset] [(.int a4)])) _
    refine XS.iconst X0.here hx rfl (hb hby at_16) ?_
    show Steps p.tables e below (s₁.setTop (mkF m 17 #[.val (.int a1), .val (.int a2), .val (.int a3), .val (.int a4), .val (.int (a1 &&& (3 : Int32))), .val (.int (a2 &&& (3 : Int32))), .val (.int (a3 &&& (3 : Int32))), .unset, .unset, .unset, .unset, .unset, .unset, .unset, .unset, .unset, .unset, .unset] [(.int (3 : Int32)), (.int a4)])) _
    refine XS.iand X0.here hx rfl (hb hby at_17) rfl ?_
    show Steps p.tables e below (s₁.setTop (mkF m 18 #[.val (.int a1), .val (.int a2), .val (.int a3), .val (.int a4), .val (.int (a1 &&& (3 : Int32))), .val (.int (a2 &&& (3 : Int32))), .val (.int (a3 &&& (3 : Int32))), .unset, .unset, .unset, .unset, .unset, .unset, .unset, .unset, .unset, .unset, .unset] [(.int (a4 &&& (3 : Int32)))])) _
    refine XS.istore X0.here hx rfl (hb hby at_18) rfl (l' := #[.val (.int a1), .val (.int a2), .val (.int a3), .val (.int a4), .val (.int (a1 &&& (3 : Int32))), .val (.int (a2 &&& (3 : Int32))), .val (.int (a3 &&& (3 : Int32))), .val (.int (a4 &&& (3 : Int32))), .unset, .unset, .unset, .unset, .unset, .unset, .unset, .unset, .unset, .unset]) rfl ?_
    exact kt
  have pre2 : ∀ t, Steps p.tables e below (s₁.setTop (mkF m 20 #[.val (.int a1), .val (.int a2), .val (.int a3), .val (.int a4), .val (.int (Int32.ofNat fa1.1)), .val (.int (a2 &&& (3 : Int32))), .val (.int (a3 &&& (3 : Int32))), .val (.int (a4 &&& (3 : Int32))), .unset, .unset, .unset, .unset, .unset, .unset, .unset, .unset, .unset, .unset] [])) t → Steps p.tables e below (s₁.setTop (entryFrame m #[(.int a1), (.int a2), (.int a3), (.int a4)] maxLocals)) t := by rw [(hfa1e : (Int32.ofNat fa1.1) = (a1 &&& (3 : Int32)))]; exact pre1
  obtain ⟨fb1, hfb1e⟩ := own_and3 a2
  have pre3 : ∀ t, Steps p.tables e below (s₁.setTop (mkF m 20 #[.val (.int a1), .val (.int a2), .val (.int a3), .val (.int a4), .val (.int (Int32.ofNat fa1.1)), .val (.int (Int32.ofNat fb1.1)), .val (.int (a3 &&& (3 : Int32))), .val (.int (a4 &&& (3 : Int32))), .unset, .unset, .unset, .unset, .unset, .unset, .unset, .unset, .unset, .unset] [])) t → Steps p.tables e below (s₁.setTop (entryFrame m #[(.int a1), (.int a2), (.int a3), (.int a4)] maxLocals)) t := by rw [(hfb1e : (Int32.ofNat fb1.1) = (a2 &&& (3 : Int32)))]; exact pre2
  obtain ⟨fc1, hfc1e⟩ := own_and3 a3
  have pre4 : ∀ t, Steps p.tables e below (s₁.setTop (mkF m 20 #[.val (.int a1), .val (.int a2), .val (.int a3), .val (.int a4), .val (.int (Int32.ofNat fa1.1)), .val (.int (Int32.ofNat fb1.1)), .val (.int (Int32.ofNat fc1.1)), .val (.int (a4 &&& (3 : Int32))), .unset, .unset, .unset, .unset, .unset, .unset, .unset, .unset, .unset, .unset] [])) t → Steps p.tables e below (s₁.setTop (entryFrame m #[(.int a1), (.int a2), (.int a3), (.int a4)] maxLocals)) t := by rw [(hfc1e : (Int32.ofNat fc1.1) = (a3 &&& (3 : Int32)))]; exact pre3
  obtain ⟨fd1, hfd1e⟩ := own_and3 a4
  have pre5 : ∀ t, Steps p.tables e below (s₁.setTop (mkF m 20 #[.val (.int a1), .val (.int a2), .val (.int a3), .val (.int a4), .val (.int (Int32.ofNat fa1.1)), .val (.int (Int32.ofNat fb1.1)), .val (.int (Int32.ofNat fc1.1)), .val (.int (Int32.ofNat fd1.1)), .unset, .unset, .unset, .unset, .unset, .unset, .unset, .unset, .unset, .unset] [])) t → Steps p.tables e below (s₁.setTop (entryFrame m #[(.int a1), (.int a2), (.int a3), (.int a4)] maxLocals)) t := by rw [(hfd1e : (Int32.ofNat fd1.1) = (a4 &&& (3 : Int32)))]; exact pre4
  obtain ⟨ok1, ok2, ok3, ok4⟩ := own_oks fa1 fb1 fc1 fd1
  obtain ⟨T6, h6, X6, e6, E6, A6, D6, -, st6⟩ := newO X0 hx hZ hown (hw _ (List.mem_of_getElem? (i := 0) rfl)) (hw _ (List.mem_of_getElem? (i := 1) rfl)) (hw _ (List.mem_of_getElem? (i := 2) rfl)) e0 (g := (mkF m 20 #[.val (.int a1), .val (.int a2), .val (.int a3), .val (.int a4), .val (.int (Int32.ofNat fa1.1)), .val (.int (Int32.ofNat fb1.1)), .val (.int (Int32.ofNat fc1.1)), .val (.int (Int32.ofNat fd1.1)), .unset, .unset, .unset, .unset, .unset, .unset, .unset, .unset, .unset, .unset] [])) rfl (hb hby at_20) (by decide) (by decide)
  obtain ⟨ob, g6⟩ : ∃ z, z = h0.size := ⟨_, rfl⟩
  rw [← g6] at A6 D6 st6
  have g_ob : n0 ≤ ob := by rw [g6]; exact Z0
  have Z7 := Nat.le_trans Z0 E6.1
  have E_ob := A6
  have F_states_ob : Fld Z h6 ob "com/example/wary_observer/waryobserver/equivalence/Partition" "states" "[I" .null := D6 (Or.inr (hw _ (List.mem_of_getElem? (i := 11) rfl))) (ty := (.array .int)) (by decide)
  have F_positions_ob : Fld Z h6 ob "com/example/wary_observer/waryobserver/equivalence/Partition" "positions" "[I" .null := D6 (Or.inr (hw _ (List.mem_of_getElem? (i := 13) rfl))) (ty := (.array .int)) (by decide)
  have F_blockOf_ob : Fld Z h6 ob "com/example/wary_observer/waryobserver/equivalence/Partition" "blockOf" "[I" .null := D6 (Or.inr (hw _ (List.mem_of_getElem? (i := 15) rfl))) (ty := (.array .int)) (by decide)
  have F_firsts_ob : Fld Z h6 ob "com/example/wary_observer/waryobserver/equivalence/Partition" "firsts" "[I" .null := D6 (Or.inr (hw _ (List.mem_of_getElem? (i := 17) rfl))) (ty := (.array .int)) (by decide)
  have F_ends_ob : Fld Z h6 ob "com/example/wary_observer/waryobserver/equivalence/Partition" "ends" "[I" .null := D6 (Or.inr (hw _ (List.mem_of_getElem? (i := 19) rfl))) (ty := (.array .int)) (by decide)
  have F_marks_ob : Fld Z h6 ob "com/example/wary_observer/waryobserver/equivalence/Partition" "marks" "[I" .null := D6 (Or.inr (hw _ (List.mem_of_getElem? (i := 21) rfl))) (ty := (.array .int)) (by decide)
  have F_touched_ob : Fld Z h6 ob "com/example/wary_observer/waryobserver/equivalence/Partition" "touched" "[I" .null := D6 (Or.inr (hw _ (List.mem_of_getElem? (i := 23) rfl))) (ty := (.array .int)) (by decide)
  have F_blocks_ob : Fld Z h6 ob "com/example/wary_observer/waryobserver/equivalence/Partition" "blocks" "I" (.int (0 : Int32)) := D6 (Or.inl (hw _ (List.mem_of_getElem? (i := 25) rfl))) (ty := .int) (by decide)
  have F_touchedCount_ob : Fld Z h6 ob "com/example/wary_observer/waryobserver/equivalence/Partition" "touchedCount" "I" (.int (0 : Int32)) := D6 (Or.inl (hw _ (List.mem_of_getElem? (i := 32) rfl))) (ty := .int) (by decide)
  have lt_ob := E_ob.lt
  obtain ⟨_, _, ⟨T8, L8, k8, n8⟩, -, X8, ⟨Lc8, hQ8, l8, y8, z8⟩, st8⟩ := X6.specialBack hx (y := (⟨"com/example/wary_observer/waryobserver/equivalence/Partition", "<init>", "(I)V"⟩ : MethodName)) rfl hown (mvT hZ (hw _ (List.mem_of_getElem? (i := 3) rfl))) (mvT hZ (hw _ (List.mem_of_getElem? (i := 4) rfl))) (mvT hZ (hw _ (List.mem_of_getElem? (i := 5) rfl))) (by decide) (backOf (W := 1) (own_rm1 l Z a0 hw [] ob h6 n0 Z7 E_ob F_states_ob F_positions_ob F_blockOf_ob F_firsts_ob F_ends_ob F_marks_ob F_touched_ob F_blocks_ob F_touchedCount_ob g_ob) hZ (hw _ (List.mem_of_getElem? (i := 5) rfl)) (hw _ (List.mem_of_getElem? (i := 2) rfl)) (by decide) (by decide)) (g := (mkF m 25 #[.val (.int a1), .val (.int a2), .val (.int a3), .val (.int a4), .val (.int (Int32.ofNat fa1.1)), .val (.int (Int32.ofNat fb1.1)), .val (.int (Int32.ofNat fc1.1)), .val (.int (Int32.ofNat fd1.1)), .unset, .unset, .unset, .unset, .unset, .unset, .unset, .unset, .unset, .unset] [(.int (4 : Int32)), (.ref ob), (.ref ob)])) rfl (by rw [hml]; rfl) (Steps.refl _) (a := ob) (argsL := [(.int (4 : Int32))]) (rest := [(.ref ob)]) (lenOf own_pd0 rfl) rfl (by show 2 * 0 + _ ≤ _; exact Nat.le_of_eq rfl) (hb hby at_25) (fun _ _ => ⟨rfl, e6, (by decide : 1 + 7 ≤ _), (by decide : 9 + 28 ≤ _)⟩)
  dsimp only [Pt.U, Pt.locs, Pt.cells, Pt.slots] at X8 l8 y8 z8 st8 hQ8
  subst l8 y8 z8
  obtain ⟨rfl, Nq8, Kq8, sa, pa, ba, fa, na, ma, ta, hord, sz_sa, PP⟩ := hQ8
  have N8 := Fr.app N0 Nq8
  have E_ob := E_ob.keep Kq8
  have Z8 := Nat.le_trans Z7 Kq8.1
  obtain ⟨cq9, kq9, q9a, q9b, q9c⟩ := isOf hZ rfl E_ob
  obtain ⟨_, _, ⟨T9, L9, k9, n9⟩, -, X9, ⟨Lc9, hQ9, l9, y9, z9⟩, st9⟩ := X8.virtualBack hx (y := (⟨"com/example/wary_observer/waryobserver/equivalence/Partition", "mark", "(I)V"⟩ : MethodName)) (z := (⟨"com/example/wary_observer/waryobserver/equivalence/Partition", "mark", "(I)V"⟩ : MethodName)) hown (mvT hZ (hw _ (List.mem_of_getElem? (i := 26) rfl))) (mvT hZ (hw _ (List.mem_of_getElem? (i := 27) rfl))) (notFace_of_selects (args := #[]) (mvT hZ (hw _ (List.mem_of_getElem? (i := 29) rfl)))) (mvT hZ (hw _ (List.mem_of_getElem? (i := 29) rfl))) (mvT hZ (hw _ (List.mem_of_getElem? (i := 28) rfl))) (by decide) (backOf (W := 0) (own_rm3 l Z a0 hw [] ob fa1.1 sa pa ba fa na ma ta own_q0 T8.heap n0 Z8 g_ob hord ok1 PP) hZ (hw _ (List.mem_of_getElem? (i := 30) rfl)) (hw _ (List.mem_of_getElem? (i := 2) rfl)) (by decide) (by decide)) q9a q9c (g := (mkF m 34 #[.val (.int a1), .val (.int a2), .val (.int a3), .val (.int a4), .val (.int (Int32.ofNat fa1.1)), .val (.int (Int32.ofNat fb1.1)), .val (.int (Int32.ofNat fc1.1)), .val (.int (Int32.ofNat fd1.1)), .val (.ref ob), .unset, .unset, .unset, .unset, .unset, .unset, .unset, .unset, .unset] [(.int (Int32.ofNat fa1.1)), (.ref ob)])) rfl (by rw [hml]; rfl) (Steps.refl _) (argsL := [(.int (Int32.ofNat fa1.1))]) (rest := []) (lenOf own_pd0 rfl) rfl (by show 2 * 0 + _ ≤ _; exact Nat.le_of_eq rfl) (hb hby at_34) (fun _ _ => ⟨rfl, rfl, (by decide : 8 + 0 ≤ _), (by decide : 37 + 0 ≤ _)⟩)
  dsimp only [Pt.U, Pt.locs, Pt.cells, Pt.slots] at X9 l9 y9 z9 st9 hQ9
  subst l9 y9 z9
  obtain ⟨rfl, Nq9, Kq9, PP⟩ := hQ9
  have N9 := Fr.app N8 Nq9
  have E_ob := E_ob.keep Kq9
  have Z9 := Nat.le_trans Z8 Kq9.1
  obtain ⟨cq10, kq10, q10a, q10b, q10c⟩ := isOf hZ rfl E_ob
  obtain ⟨_, _, ⟨T10, L10, k10, n10⟩, -, X10, ⟨Lc10, hQ10, l10, y10, z10⟩, st10⟩ := X9.virtualBack hx (y := (⟨"com/example/wary_observer/waryobserver/equivalence/Partition", "mark", "(I)V"⟩ : MethodName)) (z := (⟨"com/example/wary_observer/waryobserver/equivalence/Partition", "mark", "(I)V"⟩ : MethodName)) hown (mvT hZ (hw _ (List.mem_of_getElem? (i := 26) rfl))) (mvT hZ (hw _ (List.mem_of_getElem? (i := 27) rfl))) (notFace_of_selects (args := #[]) (mvT hZ (hw _ (List.mem_of_getElem? (i := 29) rfl)))) (mvT hZ (hw _ (List.mem_of_getElem? (i := 29) rfl))) (mvT hZ (hw _ (List.mem_of_getElem? (i := 28) rfl))) (by decide) (backOf (W := 0) (own_rm3 l Z a0 hw [] ob fb1.1 sa pa ba fa na ma ta (own_mark own_q0 fa1.1) T9.heap n0 Z9 g_ob hord ok2 PP) hZ (hw _ (List.mem_of_getElem? (i := 30) rfl)) (hw _ (List.mem_of_getElem? (i := 2) rfl)) (by decide) (by decide)) q10a q10c (g := (mkF m 41 #[.val (.int a1), .val (.int a2), .val (.int a3), .val (.int a4), .val (.int (Int32.ofNat fa1.1)), .val (.int (Int32.ofNat fb1.1)), .val (.int (Int32.ofNat fc1.1)), .val (.int (Int32.ofNat fd1.1)), .val (.ref ob), .unset, .unset, .unset, .unset, .unset, .unset, .unset, .unset, .unset] [(.int (Int32.ofNat fb1.1)), (.ref ob)])) rfl (by rw [hml]; rfl) (Steps.refl _) (argsL := [(.int (Int32.ofNat fb1.1))]) (rest := []) (lenOf own_pd0 rfl) rfl (by show 2 * 0 + _ ≤ _; exact Nat.le_of_eq rfl) (hb hby at_41) (fun _ _ => ⟨rfl, rfl, (by decide : 8 + 0 ≤ _), (by decide : 37 + 0 ≤ _)⟩)
  dsimp only [Pt.U, Pt.locs, Pt.cells, Pt.slots] at X10 l10 y10 z10 st10 hQ10
  subst l10 y10 z10
  obtain ⟨rfl, Nq10, Kq10, PP⟩ := hQ10
  have N10 := Fr.app N9 Nq10
  have E_ob := E_ob.keep Kq10
  have Z10 := Nat.le_trans Z9 Kq10.1
  obtain ⟨cq11, kq11, q11a, q11b, q11c⟩ := isOf hZ rfl E_ob
  obtain ⟨_, _, ⟨T11, L11, k11, n11⟩, -, X11, ⟨Lc11, hQ11, l11, y11, z11⟩, st11⟩ := X10.virtualBack hx (y := (⟨"com/example/wary_observer/waryobserver/equivalence/Partition", "mark", "(I)V"⟩ : MethodName)) (z := (⟨"com/example/wary_observer/waryobserver/equivalence/Partition", "mark", "(I)V"⟩ : MethodName)) hown (mvT hZ (hw _ (List.mem_of_getElem? (i := 26) rfl))) (mvT hZ (hw _ (List.mem_of_getElem? (i := 27) rfl))) (notFace_of_selects (args := #[]) (mvT hZ (hw _ (List.mem_of_getElem? (i := 29) rfl)))) (mvT hZ (hw _ (List.mem_of_getElem? (i := 29) rfl))) (mvT hZ (hw _ (List.mem_of_getElem? (i := 28) rfl))) (by decide) (backOf (W := 0) (own_rm3 l Z a0 hw [] ob fc1.1 sa pa ba fa na ma ta (own_mark (own_mark own_q0 fa1.1) fb1.1) T10.heap n0 Z10 g_ob hord ok3 PP) hZ (hw _ (List.mem_of_getElem? (i := 30) rfl)) (hw _ (List.mem_of_getElem? (i := 2) rfl)) (by decide) (by decide)) q11a q11c (g := (mkF m 48 #[.val (.int a1), .val (.int a2), .val (.int a3), .val (.int a4), .val (.int (Int32.ofNat fa1.1)), .val (.int (Int32.ofNat fb1.1)), .val (.int (Int32.ofNat fc1.1)), .val (.int (Int32.ofNat fd1.1)), .val (.ref ob), .unset, .unset, .unset, .unset, .unset, .unset, .unset, .unset, .unset] [(.int (Int32.ofNat fc1.1)), (.ref ob)])) rfl (by rw [hml]; rfl) (Steps.refl _) (argsL := [(.int (Int32.ofNat fc1.1))]) (rest := []) (lenOf own_pd0 rfl) rfl (by show 2 * 0 + _ ≤ _; exact Nat.le_of_eq rfl) (hb hby at_48) (fun _ _ => ⟨rfl, rfl, (by decide : 8 + 0 ≤ _), (by decide : 37 + 0 ≤ _)⟩)
  dsimp only [Pt.U, Pt.locs, Pt.cells, Pt.slots] at X11 l11 y11 z11 st11 hQ11
  subst l11 y11 z11
  obtain ⟨rfl, Nq11, Kq11, PP⟩ := hQ11
  have N11 := Fr.app N10 Nq11
  have E_ob := E_ob.keep Kq11
  have Z11 := Nat.le_trans Z10 Kq11.1
  obtain ⟨cq12, kq12, q12a, q12b, q12c⟩ := isOf hZ rfl E_ob
  obtain ⟨_, _, ⟨T12, L12, k12, n12⟩, -, X12, ⟨Lc12, hQ12, l12, y12, z12⟩, st12⟩ := X11.virtualBack hx (y := (⟨"com/example/wary_observer/waryobserver/equivalence/Partition", "mark", "(I)V"⟩ : MethodName)) (z := (⟨"com/example/wary_observer/waryobserver/equivalence/Partition", "mark", "(I)V"⟩ : MethodName)) hown (mvT hZ (hw _ (List.mem_of_getElem? (i := 26) rfl))) (mvT hZ (hw _ (List.mem_of_getElem? (i := 27) rfl))) (notFace_of_selects (args := #[]) (mvT hZ (hw _ (List.mem_of_getElem? (i := 29) rfl)))) (mvT hZ (hw _ (List.mem_of_getElem? (i := 29) rfl))) (mvT hZ (hw _ (List.mem_of_getElem? (i := 28) rfl))) (by decide) (backOf (W := 0) (own_rm3 l Z a0 hw [] ob fd1.1 sa pa ba fa na ma ta (own_mark (own_mark (own_mark own_q0 fa1.1) fb1.1) fc1.1) T11.heap n0 Z11 g_ob hord ok4 PP) hZ (hw _ (List.mem_of_getElem? (i := 30) rfl)) (hw _ (List.mem_of_getElem? (i := 2) rfl)) (by decide) (by decide)) q12a q12c (g := (mkF m 55 #[.val (.int a1), .val (.int a2), .val (.int a3), .val (.int a4), .val (.int (Int32.ofNat fa1.1)), .val (.int (Int32.ofNat fb1.1)), .val (.int (Int32.ofNat fc1.1)), .val (.int (Int32.ofNat fd1.1)), .val (.ref ob), .unset, .unset, .unset, .unset, .unset, .unset, .unset, .unset, .unset] [(.int (Int32.ofNat fd1.1)), (.ref ob)])) rfl (by rw [hml]; rfl) (Steps.refl _) (argsL := [(.int (Int32.ofNat fd1.1))]) (rest := []) (lenOf own_pd0 rfl) rfl (by show 2 * 0 + _ ≤ _; exact Nat.le_of_eq rfl) (hb hby at_55) (fun _ _ => ⟨rfl, rfl, (by decide : 8 + 0 ≤ _), (by decide : 37 + 0 ≤ _)⟩)
  dsimp only [Pt.U, Pt.locs, Pt.cells, Pt.slots] at X12 l12 y12 z12 st12 hQ12
  subst l12 y12 z12
  obtain ⟨rfl, Nq12, Kq12, PP⟩ := hQ12
  have N12 := Fr.app N11 Nq12
  have E_ob := E_ob.keep Kq12
  have Z12 := Nat.le_trans Z11 Kq12.1
  obtain ⟨-, F_states, F_positions, F_blockOf, F_firsts, F_ends, F_marks, F_touched, F_touchedCount, tf, V_sa, V_pa, V_ba, V_fa, V_na, V_ma, V_ta⟩ := PP
  obtain ⟨⟨f0, f1, f2, f3⟩, fseen, ⟨fk1, fk5⟩, fe0, fe1, fe2, fe3⟩ := own_fins fa1 fb1 fc1 fd1
  obtain ⟨T13, h13, k13, X13, e13, E13, A13, st13⟩ := newP X12 hx hZ (hw _ (List.mem_of_getElem? (i := 9) rfl)) rfl (g := (mkF m 59 #[.val (.int a1), .val (.int a2), .val (.int a3), .val (.int a4), .val (.int (Int32.ofNat fa1.1)), .val (.int (Int32.ofNat fb1.1)), .val (.int (Int32.ofNat fc1.1)), .val (.int (Int32.ofNat fd1.1)), .val (.ref ob), .unset, .unset, .unset, .unset, .unset, .unset, .unset, .unset, .unset] [(.int (4 : Int32))])) rfl (hb hby at_59) rfl (by decide) (cap := 4) (by decide) (by decide) (by decide) (by decide)
  obtain ⟨ea, g13⟩ : ∃ z, z = T12.heap.size := ⟨_, rfl⟩
  rw [← g13] at A13 st13
  have lt_fa_ea : fa < ea := by rw [g13]; exact V_fa.lt
  have ne_fa_ea : fa ≠ ea := Nat.ne_of_lt lt_fa_ea
  have lt_na_ea : na < ea := by rw [g13]; exact V_na.lt
  have ne_na_ea : na ≠ ea := Nat.ne_of_lt lt_na_ea
  have lt_ob_ea : ob < ea := by rw [g13]; exact E_ob.lt
  have ne_ob_ea : ob ≠ ea := Nat.ne_of_lt lt_ob_ea
  have lt_sa_ea : sa < ea := by rw [g13]; exact V_sa.lt
  have ne_sa_ea : sa ≠ ea := Nat.ne_of_lt lt_sa_ea
  have g_ea : n0 ≤ ea := by rw [g13]; exact Z12
  have E_ob := E_ob.ext E13
  have F_states := F_states.ext E13
  have V_sa := V_sa.ext E13
  have F_firsts := F_firsts.ext E13
  have V_fa := V_fa.ext E13
  have F_ends := F_ends.ext E13
  have V_na := V_na.ext E13
  have Z14 := Nat.le_trans Z12 E13.1
  have V_ea : own_AF Z h13 ea .int 4 (fun _ => .int (0 : Int32)) := own_AF.new A13 (by decide) (by decide)
  obtain ⟨T15, h15, X15, e15, W15, V15, st15⟩ := own_stI X13 hx hZ e13 V_ea (j := (0 : Int32)) (by decide) (k := 0) rfl (by decide) (g := (mkF m 72 #[.val (.int a1), .val (.int a2), .val (.int a3), .val (.int a4), .val (.int (Int32.ofNat fa1.1)), .val (.int (Int32.ofNat fb1.1)), .val (.int (Int32.ofNat fc1.1)), .val (.int (Int32.ofNat fd1.1)), .val (.ref ob), .val (.ref ea), .val (.int (0 : Int32)), .unset, .unset, .unset, .unset, .unset, .unset, .unset] [(.int (Int32.ofNat fa1.1)), (.int (0 : Int32)), (.ref ea)])) rfl rfl (hb hby at_72)
  have E_ob := E_ob.wr W15
  have F_states := F_states.other W15 (Or.inl ne_ob_ea)
  have V_sa := V_sa.other W15 ne_sa_ea
  have F_firsts := F_firsts.other W15 (Or.inl ne_ob_ea)
  have V_fa := V_fa.other W15 ne_fa_ea
  have F_ends := F_ends.other W15 (Or.inl ne_ob_ea)
  have V_na := V_na.other W15 ne_na_ea
  have Z16 := Nat.le_trans Z14 (Keep.of_wr W15).1
  have N17 := Fr.snoc X15 N12 g_ea
  have V_ea := V15
  have pre18 : ∀ t, Steps p.tables e below (T15.setTop (mkF m 80 #[.val (.int a1), .val (.int a2), .val (.int a3), .val (.int a4), .val (.int (Int32.ofNat fa1.1)), .val (.int (Int32.ofNat fb1.1)), .val (.int (Int32.ofNat fc1.1)), .val (.int (Int32.ofNat fd1.1)), .val (.ref ob), .val (.ref ea), .val (.int (1 : Int32)), .unset, .unset, .unset, .unset, .unset, .unset, .unset] [(.int (Int32.ofNat fa1.1)), (.int (Int32.ofNat fb1.1))])) t → Steps p.tables e below (s₁.setTop (entryFrame m #[(.int a1), (.int a2), (.int a3), (.int a4)] maxLocals)) t := by
    intro t kt
    refine pre5 t ?_
    show Steps p.tables e below (s₁.setTop (mkF m 20 #[.val (.int a1), .val (.int a2), .val (.int a3), .val (.int a4), .val (.int (Int32.ofNat fa1.1)), .val (.int (Int32.ofNat fb1.1)), .val (.int (Int32.ofNat fc1.1)), .val (.int (Int32.ofNat fd1.1)), .unset, .unset, .unset, .unset, .unset, .unset, .unset, .unset, .unset, .unset] [])) _
    refine st6 _ ?_
    show Steps p.tables e below (T6.setTop (mkF m 23 #[.val (.int a1), .val (.int a2), .val (.int a3), .val (.int a4), .val (.int (Int32.ofNat fa1.1)), .val (.int (Int32.ofNat fb1.1)), .val (.int (Int32.ofNat fc1.1)), .val (.int (Int32.ofNat fd1.1)), .unset, .unset, .unset, .unset, .unset, .unset, .unset, .unset, .unset, .unset] [(.ref ob)])) _
    refine XS.dup X6.here hx rfl (hb hby at_23) rfl rfl ?_
    show Steps p.tables e below (T6.setTop (mkF m 24 #[.val (.int a1), .val (.int a2), .val (.int a3), .val (.int a4), .val (.int (Int32.ofNat fa1.1)), .val (.int (Int32.ofNat fb1.1)), .val (.int (Int32.ofNat fc1.1)), .val (.int (Int32.ofNat fd1.1)), .unset, .unset, .unset, .unset, .unset, .unset, .unset, .unset, .unset, .unset] [(.ref ob), (.ref ob)])) _
    refine XS.iconst X6.here hx rfl (hb hby at_24) ?_
    show Steps p.tables e below (T6.setTop (mkF m 25 #[.val (.int a1), .val (.int a2), .val (.int a3), .val (.int a4), .val (.int (Int32.ofNat fa1.1)), .val (.int (Int32.ofNat fb1.1)), .val (.int (Int32.ofNat fc1.1)), .val (.int (Int32.ofNat fd1.1)), .unset, .unset, .unset, .unset, .unset, .unset, .unset, .unset, .unset, .unset] [(.int (4 : Int32)), (.ref ob), (.ref ob)])) _
    refine st8.trans ?_
    show Steps p.tables e below (T8.setTop (mkF m 28 #[.val (.int a1), .val (.int a2), .val (.int a3), .val (.int a4), .val (.int (Int32.ofNat fa1.1)), .val (.int (Int32.ofNat fb1.1)), .val (.int (Int32.ofNat fc1.1)), .val (.int (Int32.ofNat fd1.1)), .unset, .unset, .unset, .unset, .unset, .unset, .unset, .unset, .unset, .unset] [(.ref ob)])) _
    refine XS.astore X8.here hx rfl (hb hby at_28) rfl rfl (l' := #[.val (.int a1), .val (.int a2), .val (.int a3), .val (.int a4), .val (.int (Int32.ofNat fa1.1)), .val (.int (Int32.ofNat fb1.1)), .val (.int (Int32.ofNat fc1.1)), .val (.int (Int32.ofNat fd1.1)), .val (.ref ob), .unset, .unset, .unset, .unset, .unset, .unset, .unset, .unset, .unset]) rfl ?_
    show Steps p.tables e below (T8.setTop (mkF m 30 #[.val (.int a1), .val (.int a2), .val (.int a3), .val (.int a4), .val (.int (Int32.ofNat fa1.1)), .val (.int (Int32.ofNat fb1.1)), .val (.int (Int32.ofNat fc1.1)), .val (.int (Int32.ofNat fd1.1)), .val (.ref ob), .unset, .unset, .unset, .unset, .unset, .unset, .unset, .unset, .unset] [])) _
    refine XS.aload X8.here hx rfl (hb hby at_30) rfl rfl ?_
    show Steps p.tables e below (T8.setTop (mkF m 32 #[.val (.int a1), .val (.int a2), .val (.int a3), .val (.int a4), .val (.int (Int32.ofNat fa1.1)), .val (.int (Int32.ofNat fb1.1)), .val (.int (Int32.ofNat fc1.1)), .val (.int (Int32.ofNat fd1.1)), .val (.ref ob), .unset, .unset, .unset, .unset, .unset, .unset, .unset, .unset, .unset] [(.ref ob)])) _
    refine XS.iload X8.here hx rfl (hb hby at_32) rfl ?_
    show Steps p.tables e below (T8.setTop (mkF m 34 #[.val (.int a1), .val (.int a2), .val (.int a3), .val (.int a4), .val (.int (Int32.ofNat fa1.1)), .val (.int (Int32.ofNat fb1.1)), .val (.int (Int32.ofNat fc1.1)), .val (.int (Int32.ofNat fd1.1)), .val (.ref ob), .unset, .unset, .unset, .unset, .unset, .unset, .unset, .unset, .unset] [(.int (Int32.ofNat fa1.1)), (.ref ob)])) _
    refine st9.trans ?_
    show Steps p.tables e below (T9.setTop (mkF m 37 #[.val (.int a1), .val (.int a2), .val (.int a3), .val (.int a4), .val (.int (Int32.ofNat fa1.1)), .val (.int (Int32.ofNat fb1.1)), .val (.int (Int32.ofNat fc1.1)), .val (.int (Int32.ofNat fd1.1)), .val (.ref ob), .unset, .unset, .unset, .unset, .unset, .unset, .unset, .unset, .unset] [])) _
    refine XS.aload X9.here hx rfl (hb hby at_37) rfl rfl ?_
    show Steps p.tables e below (T9.setTop (mkF m 39 #[.val (.int a1), .val (.int a2), .val (.int a3), .val (.int a4), .val (.int (Int32.ofNat fa1.1)), .val (.int (Int32.ofNat fb1.1)), .val (.int (Int32.ofNat fc1.1)), .val (.int (Int32.ofNat fd1.1)), .val (.ref ob), .unset, .unset, .unset, .unset, .unset, .unset, .unset, .unset, .unset] [(.ref ob)])) _
    refine XS.iload X9.here hx rfl (hb hby at_39) rfl ?_
    show Steps p.tables e below (T9.setTop (mkF m 41 #[.val (.int a1), .val (.int a2), .val (.int a3), .val (.int a4), .val (.int (Int32.ofNat fa1.1)), .val (.int (Int32.ofNat fb1.1)), .val (.int (Int32.ofNat fc1.1)), .val (.int (Int32.ofNat fd1.1)), .val (.ref ob), .unset, .unset, .unset, .unset, .unset, .unset, .unset, .unset, .unset] [(.int (Int32.ofNat fb1.1)), (.ref ob)])) _
    refine st10.trans ?_
    show Steps p.tables e below (T10.setTop (mkF m 44 #[.val (.int a1), .val (.int a2), .val (.int a3), .val (.int a4), .val (.int (Int32.ofNat fa1.1)), .val (.int (Int32.ofNat fb1.1)), .val (.int (Int32.ofNat fc1.1)), .val (.int (Int32.ofNat fd1.1)), .val (.ref ob), .unset, .unset, .unset, .unset, .unset, .unset, .unset, .unset, .unset] [])) _
    refine XS.aload X10.here hx rfl (hb hby at_44) rfl rfl ?_
    show Steps p.tables e below (T10.setTop (mkF m 46 #[.val (.int a1), .val (.int a2), .val (.int a3), .val (.int a4), .val (.int (Int32.ofNat fa1.1)), .val (.int (Int32.ofNat fb1.1)), .val (.int (Int32.ofNat fc1.1)), .val (.int (Int32.ofNat fd1.1)), .val (.ref ob), .unset, .unset, .unset, .unset, .unset, .unset, .unset, .unset, .unset] [(.ref ob)])) _
    refine XS.iload X10.here hx rfl (hb hby at_46) rfl ?_
    show Steps p.tables e below (T10.setTop (mkF m 48 #[.val (.int a1), .val (.int a2), .val (.int a3), .val (.int a4), .val (.int (Int32.ofNat fa1.1)), .val (.int (Int32.ofNat fb1.1)), .val (.int (Int32.ofNat fc1.1)), .val (.int (Int32.ofNat fd1.1)), .val (.ref ob), .unset, .unset, .unset, .unset, .unset, .unset, .unset, .unset, .unset] [(.int (Int32.ofNat fc1.1)), (.ref ob)])) _
    refine st11.trans ?_
    show Steps p.tables e below (T11.setTop (mkF m 51 #[.val (.int a1), .val (.int a2), .val (.int a3), .val (.int a4), .val (.int (Int32.ofNat fa1.1)), .val (.int (Int32.ofNat fb1.1)), .val (.int (Int32.ofNat fc1.1)), .val (.int (Int32.ofNat fd1.1)), .val (.ref ob), .unset, .unset, .unset, .unset, .unset, .unset, .unset, .unset, .unset] [])) _
    refine XS.aload X11.here hx rfl (hb hby at_51) rfl rfl ?_
    show Steps p.tables e below (T11.setTop (mkF m 53 #[.val (.int a1), .val (.int a2), .val (.int a3), .val (.int a4), .val (.int (Int32.ofNat fa1.1)), .val (.int (Int32.ofNat fb1.1)), .val (.int (Int32.ofNat fc1.1)), .val (.int (Int32.ofNat fd1.1)), .val (.ref ob), .unset, .unset, .unset, .unset, .unset, .unset, .unset, .unset, .unset] [(.ref ob)])) _
    refine XS.iload X11.here hx rfl (hb hby at_53) rfl ?_
    show Steps p.tables e below (T11.setTop (mkF m 55 #[.val (.int a1), .val (.int a2), .val (.int a3), .val (.int a4), .val (.int (Int32.ofNat fa1.1)), .val (.int (Int32.ofNat fb1.1)), .val (.int (Int32.ofNat fc1.1)), .val (.int (Int32.ofNat fd1.1)), .val (.ref ob), .unset, .unset, .unset, .unset, .unset, .unset, .unset, .unset, .unset] [(.int (Int32.ofNat fd1.1)), (.ref ob)])) _
    refine st12.trans ?_
    show Steps p.tables e below (T12.setTop (mkF m 58 #[.val (.int a1), .val (.int a2), .val (.int a3), .val (.int a4), .val (.int (Int32.ofNat fa1.1)), .val (.int (Int32.ofNat fb1.1)), .val (.int (Int32.ofNat fc1.1)), .val (.int (Int32.ofNat fd1.1)), .val (.ref ob), .unset, .unset, .unset, .unset, .unset, .unset, .unset, .unset, .unset] [])) _
    refine XS.iconst X12.here hx rfl (hb hby at_58) ?_
    show Steps p.tables e below (T12.setTop (mkF m 59 #[.val (.int a1), .val (.int a2), .val (.int a3), .val (.int a4), .val (.int (Int32.ofNat fa1.1)), .val (.int (Int32.ofNat fb1.1)), .val (.int (Int32.ofNat fc1.1)), .val (.int (Int32.ofNat fd1.1)), .val (.ref ob), .unset, .unset, .unset, .unset, .unset, .unset, .unset, .unset, .unset] [(.int (4 : Int32))])) _
    refine st13 _ ?_
    show Steps p.tables e below (T13.setTop (mkF m 61 #[.val (.int a1), .val (.int a2), .val (.int a3), .val (.int a4), .val (.int (Int32.ofNat fa1.1)), .val (.int (Int32.ofNat fb1.1)), .val (.int (Int32.ofNat fc1.1)), .val (.int (Int32.ofNat fd1.1)), .val (.ref ob), .unset, .unset, .unset, .unset, .unset, .unset, .unset, .unset, .unset] [(.ref ea)])) _
    refine XS.astore X13.here hx rfl (hb hby at_61) rfl rfl (l' := #[.val (.int a1), .val (.int a2), .val (.int a3), .val (.int a4), .val (.int (Int32.ofNat fa1.1)), .val (.int (Int32.ofNat fb1.1)), .val (.int (Int32.ofNat fc1.1)), .val (.int (Int32.ofNat fd1.1)), .val (.ref ob), .val (.ref ea), .unset, .unset, .unset, .unset, .unset, .unset, .unset, .unset]) rfl ?_
    show Steps p.tables e below (T13.setTop (mkF m 63 #[.val (.int a1), .val (.int a2), .val (.int a3), .val (.int a4), .val (.int (Int32.ofNat fa1.1)), .val (.int (Int32.ofNat fb1.1)), .val (.int (Int32.ofNat fc1.1)), .val (.int (Int32.ofNat fd1.1)), .val (.ref ob), .val (.ref ea), .unset, .unset, .unset, .unset, .unset, .unset, .unset, .unset] [])) _
    refine XS.iconst X13.here hx rfl (hb hby at_63) ?_
    show Steps p.tables e below (T13.setTop (mkF m 64 #[.val (.int a1), .val (.int a2), .val (.int a3), .val (.int a4), .val (.int (Int32.ofNat fa1.1)), .val (.int (Int32.ofNat fb1.1)), .val (.int (Int32.ofNat fc1.1)), .val (.int (Int32.ofNat fd1.1)), .val (.ref ob), .val (.ref ea), .unset, .unset, .unset, .unset, .unset, .unset, .unset, .unset] [(.int (0 : Int32))])) _
    refine XS.istore X13.here hx rfl (hb hby at_64) rfl (l' := #[.val (.int a1), .val (.int a2), .val (.int a3), .val (.int a4), .val (.int (Int32.ofNat fa1.1)), .val (.int (Int32.ofNat fb1.1)), .val (.int (Int32.ofNat fc1.1)), .val (.int (Int32.ofNat fd1.1)), .val (.ref ob), .val (.ref ea), .val (.int (0 : Int32)), .unset, .unset, .unset, .unset, .unset, .unset, .unset]) rfl ?_
    show Steps p.tables e below (T13.setTop (mkF m 66 #[.val (.int a1), .val (.int a2), .val (.int a3), .val (.int a4), .val (.int (Int32.ofNat fa1.1)), .val (.int (Int32.ofNat fb1.1)), .val (.int (Int32.ofNat fc1.1)), .val (.int (Int32.ofNat fd1.1)), .val (.ref ob), .val (.ref ea), .val (.int (0 : Int32)), .unset, .unset, .unset, .unset, .unset, .unset, .unset] [])) _
    refine XS.aload X13.here hx rfl (hb hby at_66) rfl rfl ?_
    show Steps p.tables e below (T13.setTop (mkF m 68 #[.val (.int a1), .val (.int a2), .val (.int a3), .val (.int a4), .val (.int (Int32.ofNat fa1.1)), .val (.int (Int32.ofNat fb1.1)), .val (.int (Int32.ofNat fc1.1)), .val (.int (Int32.ofNat fd1.1)), .val (.ref ob), .val (.ref ea), .val (.int (0 : Int32)), .unset, .unset, .unset, .unset, .unset, .unset, .unset] [(.ref ea)])) _
    refine XS.iload X13.here hx rfl (hb hby at_68) rfl ?_
    show Steps p.tables e below (T13.setTop (mkF m 70 #[.val (.int a1), .val (.int a2), .val (.int a3), .val (.int a4), .val (.int (Int32.ofNat fa1.1)), .val (.int (Int32.ofNat fb1.1)), .val (.int (Int32.ofNat fc1.1)), .val (.int (Int32.ofNat fd1.1)), .val (.ref ob), .val (.ref ea), .val (.int (0 : Int32)), .unset, .unset, .unset, .unset, .unset, .unset, .unset] [(.int (0 : Int32)), (.ref ea)])) _
    refine XS.iload X13.here hx rfl (hb hby at_70) rfl ?_
    show Steps p.tables e below (T13.setTop (mkF m 72 #[.val (.int a1), .val (.int a2), .val (.int a3), .val (.int a4), .val (.int (Int32.ofNat fa1.1)), .val (.int (Int32.ofNat fb1.1)), .val (.int (Int32.ofNat fc1.1)), .val (.int (Int32.ofNat fd1.1)), .val (.ref ob), .val (.ref ea), .val (.int (0 : Int32)), .unset, .unset, .unset, .unset, .unset, .unset, .unset] [(.int (Int32.ofNat fa1.1)), (.int (0 : Int32)), (.ref ea)])) _
    refine st15 _ ?_
    show Steps p.tables e below (T15.setTop (mkF m 73 #[.val (.int a1), .val (.int a2), .val (.int a3), .val (.int a4), .val (.int (Int32.ofNat fa1.1)), .val (.int (Int32.ofNat fb1.1)), .val (.int (Int32.ofNat fc1.1)), .val (.int (Int32.ofNat fd1.1)), .val (.ref ob), .val (.ref ea), .val (.int (0 : Int32)), .unset, .unset, .unset, .unset, .unset, .unset, .unset] [])) _
    refine XS.iinc X15.here hx rfl (hb hby at_73) rfl (l' := #[.val (.int a1), .val (.int a2), .val (.int a3), .val (.int a4), .val (.int (Int32.ofNat fa1.1)), .val (.int (Int32.ofNat fb1.1)), .val (.int (Int32.ofNat fc1.1)), .val (.int (Int32.ofNat fd1.1)), .val (.ref ob), .val (.ref ea), .val (.int (1 : Int32)), .unset, .unset, .unset, .unset, .unset, .unset, .unset]) rfl ?_
    show Steps p.tables e below (T15.setTop (mkF m 76 #[.val (.int a1), .val (.int a2), .val (.int a3), .val (.int a4), .val (.int (Int32.ofNat fa1.1)), .val (.int (Int32.ofNat fb1.1)), .val (.int (Int32.ofNat fc1.1)), .val (.int (Int32.ofNat fd1.1)), .val (.ref ob), .val (.ref ea), .val (.int (1 : Int32)), .unset, .unset, .unset, .unset, .unset, .unset, .unset] [])) _
    refine XS.iload X15.here hx rfl (hb hby at_76) rfl ?_
    show Steps p.tables e below (T15.setTop (mkF m 78 #[.val (.int a1), .val (.int a2), .val (.int a3), .val (.int a4), .val (.int (Int32.ofNat fa1.1)), .val (.int (Int32.ofNat fb1.1)), .val (.int (Int32.ofNat fc1.1)), .val (.int (Int32.ofNat fd1.1)), .val (.ref ob), .val (.ref ea), .val (.int (1 : Int32)), .unset, .unset, .unset, .unset, .unset, .unset, .unset] [(.int (Int32.ofNat fb1.1))])) _
    refine XS.iload X15.here hx rfl (hb hby at_78) rfl ?_
    exact kt
  obtain ⟨T19, Lc19, hm19, el, kn, X19, e19, N19, Zm19, E_ob, F_states, V_sa, F_firsts, V_fa, F_ends, V_na, V_ea, hp19, pre19⟩ : ∃ (T19 : State) (Lc19 : List Loc) (hm19 : Heap) (el : List Nat) (kn : Nat), Stand p l e room_1 s m #[(.int a1), (.int a2), (.int a3), (.int a4)] below meth c T19 Lc19 9 41 ∧ T19.heap = hm19 ∧ Fr n0 Lc19 ∧ n0 ≤ hm19.size ∧ Exa Z hm19 ob "com/example/wary_observer/waryobserver/equivalence/Partition" ∧ Fld Z hm19 ob "com/example/wary_observer/waryobserver/equivalence/Partition" "states" "[I" (.ref sa) ∧ own_AF Z hm19 sa .int 4 (fun i => .int (Int32.ofNat ((own_mark (own_mark (own_mark (own_mark own_q0 fa1.1) fb1.1) fc1.1) fd1.1).1.getD i 0))) ∧ Fld Z hm19 ob "com/example/wary_observer/waryobserver/equivalence/Partition" "firsts" "[I" (.ref fa) ∧ own_AF Z hm19 fa .int 4 (fun _ => .int (0 : Int32)) ∧ Fld Z hm19 ob "com/example/wary_observer/waryobserver/equivalence/Partition" "ends" "[I" (.ref na) ∧ own_AF Z hm19 na .int 4 (fun i => .int (own_one 4 i)) ∧ own_AF Z hm19 ea .int 4 (fun i => .int (Int32.ofNat (el.getD i 0))) ∧ ((own_enum fa1.1 fb1.1 fc1.1 fd1.1) = (el, kn)) ∧ ∀ t, Steps p.tables e below (T19.setTop (mkF m 148 #[.val (.int a1), .val (.int a2), .val (.int a3), .val (.int a4), .val (.int (Int32.ofNat fa1.1)), .val (.int (Int32.ofNat fb1.1)), .val (.int (Int32.ofNat fc1.1)), .val (.int (Int32.ofNat fd1.1)), .val (.ref ob), .val (.ref ea), .val (.int (Int32.ofNat kn)), .unset, .unset, .unset, .unset, .unset, .unset, .unset] [])) t → Steps p.tables e below (s₁.setTop (entryFrame m #[(.int a1), (.int a2), (.int a3), (.int a4)] maxLocals)) t := by
    by_cases hc80 : (Int32.ofNat fb1.1) = (Int32.ofNat fa1.1)
    case pos =>
      have pre20 : ∀ t, Steps p.tables e below (T15.setTop (mkF m 97 #[.val (.int a1), .val (.int a2), .val (.int a3), .val (.int a4), .val (.int (Int32.ofNat fa1.1)), .val (.int (Int32.ofNat fb1.1)), .val (.int (Int32.ofNat fc1.1)), .val (.int (Int32.ofNat fd1.1)), .val (.ref ob), .val (.ref ea), .val (.int (1 : Int32)), .unset, .unset, .unset, .unset, .unset, .unset, .unset] [(.int (Int32.ofNat fa1.1)), (.int (Int32.ofNat fc1.1))])) t → Steps p.tables e below (s₁.setTop (entryFrame m #[(.int a1), (.int a2), (.int a3), (.int a4)] maxLocals)) t := by
        intro t kt
        refine pre18 t ?_
        show Steps p.tables e below (T15.setTop (mkF m 80 #[.val (.int a1), .val (.int a2), .val (.int a3), .val (.int a4), .val (.int (Int32.ofNat fa1.1)), .val (.int (Int32.ofNat fb1.1)), .val (.int (Int32.ofNat fc1.1)), .val (.int (Int32.ofNat fd1.1)), .val (.ref ob), .val (.ref ea), .val (.int (1 : Int32)), .unset, .unset, .unset, .unset, .unset, .unset, .unset] [(.int (Int32.ofNat fa1.1)), (.int (Int32.ofNat fb1.1))])) _
        refine XS.icmpYes X15.here hx rfl (pc0 := 80) (pc' := 93) rfl (hb hby at_80) rfl (teq hc80).1 (by decide) (by decide) ?_
        show Steps p.tables e below (T15.setTop (mkF m 93 #[.val (.int a1), .val (.int a2), .val (.int a3), .val (.int a4), .val (.int (Int32.ofNat fa1.1)), .val (.int (Int32.ofNat fb1.1)), .val (.int (Int32.ofNat fc1.1)), .val (.int (Int32.ofNat fd1.1)), .val (.ref ob), .val (.ref ea), .val (.int (1 : Int32)), .unset, .unset, .unset, .unset, .unset, .unset, .unset] [])) _
        refine XS.iload X15.here hx rfl (hb hby at_93) rfl ?_
        show Steps p.tables e below (T15.setTop (mkF m 95 #[.val (.int a1), .val (.int a2), .val (.int a3), .val (.int a4), .val (.int (Int32.ofNat fa1.1)), .val (.int (Int32.ofNat fb1.1)), .val (.int (Int32.ofNat fc1.1)), .val (.int (Int32.ofNat fd1.1)), .val (.ref ob), .val (.ref ea), .val (.int (1 : Int32)), .unset, .unset, .unset, .unset, .unset, .unset, .unset] [(.int (Int32.ofNat fc1.1))])) _
        refine XS.iload X15.here hx rfl (hb hby at_95) rfl ?_
        exact kt
      by_cases hc97 : (Int32.ofNat fc1.1) = (Int32.ofNat fa1.1)
      case pos =>
        have pre21 : ∀ t, Steps p.tables e below (T15.setTop (mkF m 121 #[.val (.int a1), .val (.int a2), .val (.int a3), .val (.int a4), .val (.int (Int32.ofNat fa1.1)), .val (.int (Int32.ofNat fb1.1)), .val (.int (Int32.ofNat fc1.1)), .val (.int (Int32.ofNat fd1.1)), .val (.ref ob), .val (.ref ea), .val (.int (1 : Int32)), .unset, .unset, .unset, .unset, .unset, .unset, .unset] [(.int (Int32.ofNat fa1.1)), (.int (Int32.ofNat fd1.1))])) t → Steps p.tables e below (s₁.setTop (entryFrame m #[(.int a1), (.int a2), (.int a3), (.int a4)] maxLocals)) t := by
          intro t kt
          refine pre20 t ?_
          show Steps p.tables e below (T15.setTop (mkF m 97 #[.val (.int a1), .val (.int a2), .val (.int a3), .val (.int a4), .val (.int (Int32.ofNat fa1.1)), .val (.int (Int32.ofNat fb1.1)), .val (.int (Int32.ofNat fc1.1)), .val (.int (Int32.ofNat fd1.1)), .val (.ref ob), .val (.ref ea), .val (.int (1 : Int32)), .unset, .unset, .unset, .unset, .unset, .unset, .unset] [(.int (Int32.ofNat fa1.1)), (.int (Int32.ofNat fc1.1))])) _
          refine XS.icmpYes X15.here hx rfl (pc0 := 97) (pc' := 117) rfl (hb hby at_97) rfl (teq hc97).1 (by decide) (by decide) ?_
          show Steps p.tables e below (T15.setTop (mkF m 117 #[.val (.int a1), .val (.int a2), .val (.int a3), .val (.int a4), .val (.int (Int32.ofNat fa1.1)), .val (.int (Int32.ofNat fb1.1)), .val (.int (Int32.ofNat fc1.1)), .val (.int (Int32.ofNat fd1.1)), .val (.ref ob), .val (.ref ea), .val (.int (1 : Int32)), .unset, .unset, .unset, .unset, .unset, .unset, .unset] [])) _
          refine XS.iload X15.here hx rfl (hb hby at_117) rfl ?_
          show Steps p.tables e below (T15.setTop (mkF m 119 #[.val (.int a1), .val (.int a2), .val (.int a3), .val (.int a4), .val (.int (Int32.ofNat fa1.1)), .val (.int (Int32.ofNat fb1.1)), .val (.int (Int32.ofNat fc1.1)), .val (.int (Int32.ofNat fd1.1)), .val (.ref ob), .val (.ref ea), .val (.int (1 : Int32)), .unset, .unset, .unset, .unset, .unset, .unset, .unset] [(.int (Int32.ofNat fd1.1))])) _
          refine XS.iload X15.here hx rfl (hb hby at_119) rfl ?_
          exact kt
        by_cases hc121 : (Int32.ofNat fd1.1) = (Int32.ofNat fa1.1)
        case pos =>
          have pre22 : ∀ t, Steps p.tables e below (T15.setTop (mkF m 148 #[.val (.int a1), .val (.int a2), .val (.int a3), .val (.int a4), .val (.int (Int32.ofNat fa1.1)), .val (.int (Int32.ofNat fb1.1)), .val (.int (Int32.ofNat fc1.1)), .val (.int (Int32.ofNat fd1.1)), .val (.ref ob), .val (.ref ea), .val (.int (1 : Int32)), .unset, .unset, .unset, .unset, .unset, .unset, .unset] [])) t → Steps p.tables e below (s₁.setTop (entryFrame m #[(.int a1), (.int a2), (.int a3), (.int a4)] maxLocals)) t := by
            intro t kt
            refine pre21 t ?_
            show Steps p.tables e below (T15.setTop (mkF m 121 #[.val (.int a1), .val (.int a2), .val (.int a3), .val (.int a4), .val (.int (Int32.ofNat fa1.1)), .val (.int (Int32.ofNat fb1.1)), .val (.int (Int32.ofNat fc1.1)), .val (.int (Int32.ofNat fd1.1)), .val (.ref ob), .val (.ref ea), .val (.int (1 : Int32)), .unset, .unset, .unset, .unset, .unset, .unset, .unset] [(.int (Int32.ofNat fa1.1)), (.int (Int32.ofNat fd1.1))])) _
            refine XS.icmpYes X15.here hx rfl (pc0 := 121) (pc' := 148) rfl (hb hby at_121) rfl (teq hc121).1 (by decide) (by decide) ?_
            exact kt
          exact ⟨T15, _, h15, [fa1.1, 0, 0, 0], 1, X15, e15, N17, Z16, E_ob, F_states, V_sa, F_firsts, V_fa, F_ends, V_na, (V_ea.congr (fun i hi => by rcases i with _ | _ | _ | _ | i <;> first | rfl | omega)), (by have n80 : fb1.1 = fa1.1 := (own_eqn (Nat.lt_trans fb1.2 (by decide)) (Nat.lt_trans fa1.2 (by decide))).mp hc80; have n97 : fc1.1 = fa1.1 := (own_eqn (Nat.lt_trans fc1.2 (by decide)) (Nat.lt_trans fa1.2 (by decide))).mp hc97; have n121 : fd1.1 = fa1.1 := (own_eqn (Nat.lt_trans fd1.2 (by decide)) (Nat.lt_trans fa1.2 (by decide))).mp hc121; simp only [own_enum, own_push, n80, n97, n121, if_true, if_false, List.set]), pre22⟩
        case neg =>
          have pre23 : ∀ t, Steps p.tables e below (T15.setTop (mkF m 128 #[.val (.int a1), .val (.int a2), .val (.int a3), .val (.int a4), .val (.int (Int32.ofNat fa1.1)), .val (.int (Int32.ofNat fb1.1)), .val (.int (Int32.ofNat fc1.1)), .val (.int (Int32.ofNat fd1.1)), .val (.ref ob), .val (.ref ea), .val (.int (1 : Int32)), .unset, .unset, .unset, .unset, .unset, .unset, .unset] [(.int (Int32.ofNat fb1.1)), (.int (Int32.ofNat fd1.1))])) t → Steps p.tables e below (s₁.setTop (entryFrame m #[(.int a1), (.int a2), (.int a3), (.int a4)] maxLocals)) t := by
            intro t kt
            refine pre21 t ?_
            show Steps p.tables e below (T15.setTop (mkF m 121 #[.val (.int a1), .val (.int a2), .val (.int a3), .val (.int a4), .val (.int (Int32.ofNat fa1.1)), .val (.int (Int32.ofNat fb1.1)), .val (.int (Int32.ofNat fc1.1)), .val (.int (Int32.ofNat fd1.1)), .val (.ref ob), .val (.ref ea), .val (.int (1 : Int32)), .unset, .unset, .unset, .unset, .unset, .unset, .unset] [(.int (Int32.ofNat fa1.1)), (.int (Int32.ofNat fd1.1))])) _
            refine XS.icmpNo X15.here hx rfl (hb hby at_121) rfl (feq hc121).1 ?_
            show Steps p.tables e below (T15.setTop (mkF m 124 #[.val (.int a1), .val (.int a2), .val (.int a3), .val (.int a4), .val (.int (Int32.ofNat fa1.1)), .val (.int (Int32.ofNat fb1.1)), .val (.int (Int32.ofNat fc1.1)), .val (.int (Int32.ofNat fd1.1)), .val (.ref ob), .val (.ref ea), .val (.int (1 : Int32)), .unset, .unset, .unset, .unset, .unset, .unset, .unset] [])) _
            refine XS.iload X15.here hx rfl (hb hby at_124) rfl ?_
            show Steps p.tables e below (T15.setTop (mkF m 126 #[.val (.int a1), .val (.int a2), .val (.int a3), .val (.int a4), .val (.int (Int32.ofNat fa1.1)), .val (.int (Int32.ofNat fb1.1)), .val (.int (Int32.ofNat fc1.1)), .val (.int (Int32.ofNat fd1.1)), .val (.ref ob), .val (.ref ea), .val (.int (1 : Int32)), .unset, .unset, .unset, .unset, .unset, .unset, .unset] [(.int (Int32.ofNat fd1.1))])) _
            refine XS.iload X15.here hx rfl (hb hby at_126) rfl ?_
            exact kt
          by_cases hc128 : (Int32.ofNat fd1.1) = (Int32.ofNat fb1.1)
          case pos =>
            have pre24 : ∀ t, Steps p.tables e below (T15.setTop (mkF m 148 #[.val (.int a1), .val (.int a2), .val (.int a3), .val (.int a4), .val (.int (Int32.ofNat fa1.1)), .val (.int (Int32.ofNat fb1.1)), .val (.int (Int32.ofNat fc1.1)), .val (.int (Int32.ofNat fd1.1)), .val (.ref ob), .val (.ref ea), .val (.int (1 : Int32)), .unset, .unset, .unset, .unset, .unset, .unset, .unset] [])) t → Steps p.tables e below (s₁.setTop (entryFrame m #[(.int a1), (.int a2), (.int a3), (.int a4)] maxLocals)) t := by
              intro t kt
              refine pre23 t ?_
              show Steps p.tables e below (T15.setTop (mkF m 128 #[.val (.int a1), .val (.int a2), .val (.int a3), .val (.int a4), .val (.int (Int32.ofNat fa1.1)), .val (.int (Int32.ofNat fb1.1)), .val (.int (Int32.ofNat fc1.1)), .val (.int (Int32.ofNat fd1.1)), .val (.ref ob), .val (.ref ea), .val (.int (1 : Int32)), .unset, .unset, .unset, .unset, .unset, .unset, .unset] [(.int (Int32.ofNat fb1.1)), (.int (Int32.ofNat fd1.1))])) _
              refine XS.icmpYes X15.here hx rfl (pc0 := 128) (pc' := 148) rfl (hb hby at_128) rfl (teq hc128).1 (by decide) (by decide) ?_
              exact kt
            exact ⟨T15, _, h15, [fa1.1, 0, 0, 0], 1, X15, e15, N17, Z16, E_ob, F_states, V_sa, F_firsts, V_fa, F_ends, V_na, (V_ea.congr (fun i hi => by rcases i with _ | _ | _ | _ | i <;> first | rfl | omega)), (by have n80 : fb1.1 = fa1.1 := (own_eqn (Nat.lt_trans fb1.2 (by decide)) (Nat.lt_trans fa1.2 (by decide))).mp hc80; have n97 : fc1.1 = fa1.1 := (own_eqn (Nat.lt_trans fc1.2 (by decide)) (Nat.lt_trans fa1.2 (by decide))).mp hc97; have n121 : ¬ fd1.1 = fa1.1 := fun w => hc121 ((own_eqn (Nat.lt_trans fd1.2 (by decide)) (Nat.lt_trans fa1.2 (by decide))).mpr w); have n128 : fd1.1 = fb1.1 := (own_eqn (Nat.lt_trans fd1.2 (by decide)) (Nat.lt_trans fb1.2 (by decide))).mp hc128; simp only [own_enum, own_push, n80, n97, n121, n128, if_true, if_false, List.set]), pre24⟩
          case neg =>
            have pre25 : ∀ t, Steps p.tables e below (T15.setTop (mkF m 135 #[.val (.int a1), .val (.int a2), .val (.int a3), .val (.int a4), .val (.int (Int32.ofNat fa1.1)), .val (.int (Int32.ofNat fb1.1)), .val (.int (Int32.ofNat fc1.1)), .val (.int (Int32.ofNat fd1.1)), .val (.ref ob), .val (.ref ea), .val (.int (1 : Int32)), .unset, .unset, .unset, .unset, .unset, .unset, .unset] [(.int (Int32.ofNat fc1.1)), (.int (Int32.ofNat fd1.1))])) t → Steps p.tables e below (s₁.setTop (entryFrame m #[(.int a1), (.int a2), (.int a3), (.int a4)] maxLocals)) t := by
              intro t kt
              refine pre23 t ?_
              show Steps p.tables e below (T15.setTop (mkF m 128 #[.val (.int a1), .val (.int a2), .val (.int a3), .val (.int a4), .val (.int (Int32.ofNat fa1.1)), .val (.int (Int32.ofNat fb1.1)), .val (.int (Int32.ofNat fc1.1)), .val (.int (Int32.ofNat fd1.1)), .val (.ref ob), .val (.ref ea), .val (.int (1 : Int32)), .unset, .unset, .unset, .unset, .unset, .unset, .unset] [(.int (Int32.ofNat fb1.1)), (.int (Int32.ofNat fd1.1))])) _
              refine XS.icmpNo X15.here hx rfl (hb hby at_128) rfl (feq hc128).1 ?_
              show Steps p.tables e below (T15.setTop (mkF m 131 #[.val (.int a1), .val (.int a2), .val (.int a3), .val (.int a4), .val (.int (Int32.ofNat fa1.1)), .val (.int (Int32.ofNat fb1.1)), .val (.int (Int32.ofNat fc1.1)), .val (.int (Int32.ofNat fd1.1)), .val (.ref ob), .val (.ref ea), .val (.int (1 : Int32)), .unset, .unset, .unset, .unset, .unset, .unset, .unset] [])) _
              refine XS.iload X15.here hx rfl (hb hby at_131) rfl ?_
              show Steps p.tables e below (T15.setTop (mkF m 133 #[.val (.int a1), .val (.int a2), .val (.int a3), .val (.int a4), .val (.int (Int32.ofNat fa1.1)), .val (.int (Int32.ofNat fb1.1)), .val (.int (Int32.ofNat fc1.1)), .val (.int (Int32.ofNat fd1.1)), .val (.ref ob), .val (.ref ea), .val (.int (1 : Int32)), .unset, .unset, .unset, .unset, .unset, .unset, .unset] [(.int (Int32.ofNat fd1.1))])) _
              refine XS.iload X15.here hx rfl (hb hby at_133) rfl ?_
              exact kt
            by_cases hc135 : (Int32.ofNat fd1.1) = (Int32.ofNat fc1.1)
            case pos =>
              have pre26 : ∀ t, Steps p.tables e below (T15.setTop (mkF m 148 #[.val (.int a1), .val (.int a2), .val (.int a3), .val (.int a4), .val (.int (Int32.ofNat fa1.1)), .val (.int (Int32.ofNat fb1.1)), .val (.int (Int32.ofNat fc1.1)), .val (.int (Int32.ofNat fd1.1)), .val (.ref ob), .val (.ref ea), .val (.int (1 : Int32)), .unset, .unset, .unset, .unset, .unset, .unset, .unset] [])) t → Steps p.tables e below (s₁.setTop (entryFrame m #[(.int a1), (.int a2), (.int a3), (.int a4)] maxLocals)) t := by
                intro t kt
                refine pre25 t ?_
                show Steps p.tables e below (T15.setTop (mkF m 135 #[.val (.int a1), .val (.int a2), .val (.int a3), .val (.int a4), .val (.int (Int32.ofNat fa1.1)), .val (.int (Int32.ofNat fb1.1)), .val (.int (Int32.ofNat fc1.1)), .val (.int (Int32.ofNat fd1.1)), .val (.ref ob), .val (.ref ea), .val (.int (1 : Int32)), .unset, .unset, .unset, .unset, .unset, .unset, .unset] [(.int (Int32.ofNat fc1.1)), (.int (Int32.ofNat fd1.1))])) _
                refine XS.icmpYes X15.here hx rfl (pc0 := 135) (pc' := 148) rfl (hb hby at_135) rfl (teq hc135).1 (by decide) (by decide) ?_
                exact kt
              exact ⟨T15, _, h15, [fa1.1, 0, 0, 0], 1, X15, e15, N17, Z16, E_ob, F_states, V_sa, F_firsts, V_fa, F_ends, V_na, (V_ea.congr (fun i hi => by rcases i with _ | _ | _ | _ | i <;> first | rfl | omega)), (by have n80 : fb1.1 = fa1.1 := (own_eqn (Nat.lt_trans fb1.2 (by decide)) (Nat.lt_trans fa1.2 (by decide))).mp hc80; have n97 : fc1.1 = fa1.1 := (own_eqn (Nat.lt_trans fc1.2 (by decide)) (Nat.lt_trans fa1.2 (by decide))).mp hc97; have n121 : ¬ fd1.1 = fa1.1 := fun w => hc121 ((own_eqn (Nat.lt_trans fd1.2 (by decide)) (Nat.lt_trans fa1.2 (by decide))).mpr w); have n128 : ¬ fd1.1 = fb1.1 := fun w => hc128 ((own_eqn (Nat.lt_trans fd1.2 (by decide)) (Nat.lt_trans fb1.2 (by decide))).mpr w); have n135 : fd1.1 = fc1.1 := (own_eqn (Nat.lt_trans fd1.2 (by decide)) (Nat.lt_trans fc1.2 (by decide))).mp hc135; simp only [own_enum, own_push, n80, n97, n121, n128, n135, if_true, if_false, List.set]), pre26⟩
            case neg =>
              obtain ⟨T27, h27, X27, e27, W27, V27, st27⟩ := own_stI X15 hx hZ e15 V_ea (j := (1 : Int32)) (by decide) (k := 1) rfl (by decide) (g := (mkF m 144 #[.val (.int a1), .val (.int a2), .val (.int a3), .val (.int a4), .val (.int (Int32.ofNat fa1.1)), .val (.int (Int32.ofNat fb1.1)), .val (.int (Int32.ofNat fc1.1)), .val (.int (Int32.ofNat fd1.1)), .val (.ref ob), .val (.ref ea), .val (.int (1 : Int32)), .unset, .unset, .unset, .unset, .unset, .unset, .unset] [(.int (Int32.ofNat fd1.1)), (.int (1 : Int32)), (.ref ea)])) rfl rfl (hb hby at_144)
              have E_ob := E_ob.wr W27
              have F_states := F_states.other W27 (Or.inl ne_ob_ea)
              have V_sa := V_sa.other W27 ne_sa_ea
              have F_firsts := F_firsts.other W27 (Or.inl ne_ob_ea)
              have V_fa := V_fa.other W27 ne_fa_ea
              have F_ends := F_ends.other W27 (Or.inl ne_ob_ea)
              have V_na := V_na.other W27 ne_na_ea
              have Z28 := Nat.le_trans Z16 (Keep.of_wr W27).1
              have N29 := Fr.snoc X27 N17 g_ea
              have V_ea := V27
              have pre30 : ∀ t, Steps p.tables e below (T27.setTop (mkF m 148 #[.val (.int a1), .val (.int a2), .val (.int a3), .val (.int a4), .val (.int (Int32.ofNat fa1.1)), .val (.int (Int32.ofNat fb1.1)), .val (.int (Int32.ofNat fc1.1)), .val (.int (Int32.ofNat fd1.1)), .val (.ref ob), .val (.ref ea), .val (.int (2 : Int32)), .unset, .unset, .unset, .unset, .unset, .unset, .unset] [])) t → Steps p.tables e below (s₁.setTop (entryFrame m #[(.int a1), (.int a2), (.int a3), (.int a4)] maxLocals)) t := by
                intro t kt
                refine pre25 t ?_
                show Steps p.tables e below (T15.setTop (mkF m 135 #[.val (.int a1), .val (.int a2), .val (.int a3), .val (.int a4), .val (.int (Int32.ofNat fa1.1)), .val (.int (Int32.ofNat fb1.1)), .val (.int (Int32.ofNat fc1.1)), .val (.int (Int32.ofNat fd1.1)), .val (.ref ob), .val (.ref ea), .val (.int (1 : Int32)), .unset, .unset, .unset, .unset, .unset, .unset, .unset] [(.int (Int32.ofNat fc1.1)), (.int (Int32.ofNat fd1.1))])) _
                refine XS.icmpNo X15.here hx rfl (hb hby at_135) rfl (feq hc135).1 ?_
                show Steps p.tables e below (T15.setTop (mkF m 138 #[.val (.int a1), .val (.int a2), .val (.int a3), .val (.int a4), .val (.int (Int32.ofNat fa1.1)), .val (.int (Int32.ofNat fb1.1)), .val (.int (Int32.ofNat fc1.1)), .val (.int (Int32.ofNat fd1.1)), .val (.ref ob), .val (.ref ea), .val (.int (1 : Int32)), .unset, .unset, .unset, .unset, .unset, .unset, .unset] [])) _
                refine XS.aload X15.here hx rfl (hb hby at_138) rfl rfl ?_
                show Steps p.tables e below (T15.setTop (mkF m 140 #[.val (.int a1), .val (.int a2), .val (.int a3), .val (.int a4), .val (.int (Int32.ofNat fa1.1)), .val (.int (Int32.ofNat fb1.1)), .val (.int (Int32.ofNat fc1.1)), .val (.int (Int32.ofNat fd1.1)), .val (.ref ob), .val (.ref ea), .val (.int (1 : Int32)), .unset, .unset, .unset, .unset, .unset, .unset, .unset] [(.ref ea)])) _
                refine XS.iload X15.here hx rfl (hb hby at_140) rfl ?_
                show Steps p.tables e below (T15.setTop (mkF m 142 #[.val (.int a1), .val (.int a2), .val (.int a3), .val (.int a4), .val (.int (Int32.ofNat fa1.1)), .val (.int (Int32.ofNat fb1.1)), .val (.int (Int32.ofNat fc1.1)), .val (.int (Int32.ofNat fd1.1)), .val (.ref ob), .val (.ref ea), .val (.int (1 : Int32)), .unset, .unset, .unset, .unset, .unset, .unset, .unset] [(.int (1 : Int32)), (.ref ea)])) _
                refine XS.iload X15.here hx rfl (hb hby at_142) rfl ?_
                show Steps p.tables e below (T15.setTop (mkF m 144 #[.val (.int a1), .val (.int a2), .val (.int a3), .val (.int a4), .val (.int (Int32.ofNat fa1.1)), .val (.int (Int32.ofNat fb1.1)), .val (.int (Int32.ofNat fc1.1)), .val (.int (Int32.ofNat fd1.1)), .val (.ref ob), .val (.ref ea), .val (.int (1 : Int32)), .unset, .unset, .unset, .unset, .unset, .unset, .unset] [(.int (Int32.ofNat fd1.1)), (.int (1 : Int32)), (.ref ea)])) _
                refine st27 _ ?_
                show Steps p.tables e below (T27.setTop (mkF m 145 #[.val (.int a1), .val (.int a2), .val (.int a3), .val (.int a4), .val (.int (Int32.ofNat fa1.1)), .val (.int (Int32.ofNat fb1.1)), .val (.int (Int32.ofNat fc1.1)), .val (.int (Int32.ofNat fd1.1)), .val (.ref ob), .val (.ref ea), .val (.int (1 : Int32)), .unset, .unset, .unset, .unset, .unset, .unset, .unset] [])) _
                refine XS.iinc X27.here hx rfl (hb hby at_145) rfl (l' := #[.val (.int a1), .val (.int a2), .val (.int a3), .val (.int a4), .val (.int (Int32.ofNat fa1.1)), .val (.int (Int32.ofNat fb1.1)), .val (.int (Int32.ofNat fc1.1)), .val (.int (Int32.ofNat fd1.1)), .val (.ref ob), .val (.ref ea), .val (.int (2 : Int32)), .unset, .unset, .unset, .unset, .unset, .unset, .unset]) rfl ?_
                exact kt
              exact ⟨T27, _, h27, [fa1.1, fd1.1, 0, 0], 2, X27, e27, N29, Z28, E_ob, F_states, V_sa, F_firsts, V_fa, F_ends, V_na, (V_ea.congr (fun i hi => by rcases i with _ | _ | _ | _ | i <;> first | rfl | omega)), (by have n80 : fb1.1 = fa1.1 := (own_eqn (Nat.lt_trans fb1.2 (by decide)) (Nat.lt_trans fa1.2 (by decide))).mp hc80; have n97 : fc1.1 = fa1.1 := (own_eqn (Nat.lt_trans fc1.2 (by decide)) (Nat.lt_trans fa1.2 (by decide))).mp hc97; have n121 : ¬ fd1.1 = fa1.1 := fun w => hc121 ((own_eqn (Nat.lt_trans fd1.2 (by decide)) (Nat.lt_trans fa1.2 (by decide))).mpr w); have n128 : ¬ fd1.1 = fb1.1 := fun w => hc128 ((own_eqn (Nat.lt_trans fd1.2 (by decide)) (Nat.lt_trans fb1.2 (by decide))).mpr w); have n135 : ¬ fd1.1 = fc1.1 := fun w => hc135 ((own_eqn (Nat.lt_trans fd1.2 (by decide)) (Nat.lt_trans fc1.2 (by decide))).mpr w); simp only [own_enum, own_push, n80, n97, n121, n128, n135, if_true, if_false, List.set]), pre30⟩
      case neg =>
        have pre31 : ∀ t, Steps p.tables e below (T15.setTop (mkF m 104 #[.val (.int a1), .val (.int a2), .val (.int a3), .val (.int a4), .val (.int (Int32.ofNat fa1.1)), .val (.int (Int32.ofNat fb1.1)), .val (.int (Int32.ofNat fc1.1)), .val (.int (Int32.ofNat fd1.1)), .val (.ref ob), .val (.ref ea), .val (.int (1 : Int32)), .unset, .unset, .unset, .unset, .unset, .unset, .unset] [(.int (Int32.ofNat fb1.1)), (.int (Int32.ofNat fc1.1))])) t → Steps p.tables e below (s₁.setTop (entryFrame m #[(.int a1), (.int a2), (.int a3), (.int a4)] maxLocals)) t := by
          intro t kt
          refine pre20 t ?_
          show Steps p.tables e below (T15.setTop (mkF m 97 #[.val (.int a1), .val (.int a2), .val (.int a3), .val (.int a4), .val (.int (Int32.ofNat fa1.1)), .val (.int (Int32.ofNat fb1.1)), .val (.int (Int32.ofNat fc1.1)), .val (.int (Int32.ofNat fd1.1)), .val (.ref ob), .val (.ref ea), .val (.int (1 : Int32)), .unset, .unset, .unset, .unset, .unset, .unset, .unset] [(.int (Int32.ofNat fa1.1)), (.int (Int32.ofNat fc1.1))])) _
          refine XS.icmpNo X15.here hx rfl (hb hby at_97) rfl (feq hc97).1 ?_
          show Steps p.tables e below (T15.setTop (mkF m 100 #[.val (.int a1), .val (.int a2), .val (.int a3), .val (.int a4), .val (.int (Int32.ofNat fa1.1)), .val (.int (Int32.ofNat fb1.1)), .val (.int (Int32.ofNat fc1.1)), .val (.int (Int32.ofNat fd1.1)), .val (.ref ob), .val (.ref ea), .val (.int (1 : Int32)), .unset, .unset, .unset, .unset, .unset, .unset, .unset] [])) _
          refine XS.iload X15.here hx rfl (hb hby at_100) rfl ?_
          show Steps p.tables e below (T15.setTop (mkF m 102 #[.val (.int a1), .val (.int a2), .val (.int a3), .val (.int a4), .val (.int (Int32.ofNat fa1.1)), .val (.int (Int32.ofNat fb1.1)), .val (.int (Int32.ofNat fc1.1)), .val (.int (Int32.ofNat fd1.1)), .val (.ref ob), .val (.ref ea), .val (.int (1 : Int32)), .unset, .unset, .unset, .unset, .unset, .unset, .unset] [(.int (Int32.ofNat fc1.1))])) _
          refine XS.iload X15.here hx rfl (hb hby at_102) rfl ?_
          exact kt
        by_cases hc104 : (Int32.ofNat fc1.1) = (Int32.ofNat fb1.1)
        case pos =>
          have pre32 : ∀ t, Steps p.tables e below (T15.setTop (mkF m 121 #[.val (.int a1), .val (.int a2), .val (.int a3), .val (.int a4), .val (.int (Int32.ofNat fa1.1)), .val (.int (Int32.ofNat fb1.1)), .val (.int (Int32.ofNat fc1.1)), .val (.int (Int32.ofNat fd1.1)), .val (.ref ob), .val (.ref ea), .val (.int (1 : Int32)), .unset, .unset, .unset, .unset, .unset, .unset, .unset] [(.int (Int32.ofNat fa1.1)), (.int (Int32.ofNat fd1.1))])) t → Steps p.tables e below (s₁.setTop (entryFrame m #[(.int a1), (.int a2), (.int a3), (.int a4)] maxLocals)) t := by
            intro t kt
            refine pre31 t ?_
            show Steps p.tables e below (T15.setTop (mkF m 104 #[.val (.int a1), .val (.int a2), .val (.int a3), .val (.int a4), .val (.int (Int32.ofNat fa1.1)), .val (.int (Int32.ofNat fb1.1)), .val (.int (Int32.ofNat fc1.1)), .val (.int (Int32.ofNat fd1.1)), .val (.ref ob), .val (.ref ea), .val (.int (1 : Int32)), .unset, .unset, .unset, .unset, .unset, .unset, .unset] [(.int (Int32.ofNat fb1.1)), (.int (Int32.ofNat fc1.1))])) _
            refine XS.icmpYes X15.here hx rfl (pc0 := 104) (pc' := 117) rfl (hb hby at_104) rfl (teq hc104).1 (by decide) (by decide) ?_
            show Steps p.tables e below (T15.setTop (mkF m 117 #[.val (.int a1), .val (.int a2), .val (.int a3), .val (.int a4), .val (.int (Int32.ofNat fa1.1)), .val (.int (Int32.ofNat fb1.1)), .val (.int (Int32.ofNat fc1.1)), .val (.int (Int32.ofNat fd1.1)), .val (.ref ob), .val (.ref ea), .val (.int (1 : Int32)), .unset, .unset, .unset, .unset, .unset, .unset, .unset] [])) _
            refine XS.iload X15.here hx rfl (hb hby at_117) rfl ?_
            show Steps p.tables e below (T15.setTop (mkF m 119 #[.val (.int a1), .val (.int a2), .val (.int a3), .val (.int a4), .val (.int (Int32.ofNat fa1.1)), .val (.int (Int32.ofNat fb1.1)), .val (.int (Int32.ofNat fc1.1)), .val (.int (Int32.ofNat fd1.1)), .val (.ref ob), .val (.ref ea), .val (.int (1 : Int32)), .unset, .unset, .unset, .unset, .unset, .unset, .unset] [(.int (Int32.ofNat fd1.1))])) _
            refine XS.iload X15.here hx rfl (hb hby at_119) rfl ?_
            exact kt
          by_cases hc121_2 : (Int32.ofNat fd1.1) = (Int32.ofNat fa1.1)
          case pos =>
            have pre33 : ∀ t, Steps p.tables e below (T15.setTop (mkF m 148 #[.val (.int a1), .val (.int a2), .val (.int a3), .val (.int a4), .val (.int (Int32.ofNat fa1.1)), .val (.int (Int32.ofNat fb1.1)), .val (.int (Int32.ofNat fc1.1)), .val (.int (Int32.ofNat fd1.1)), .val (.ref ob), .val (.ref ea), .val (.int (1 : Int32)), .unset, .unset, .unset, .unset, .unset, .unset, .unset] [])) t → Steps p.tables e below (s₁.setTop (entryFrame m #[(.int a1), (.int a2), (.int a3), (.int a4)] maxLocals)) t := by
              intro t kt
              refine pre32 t ?_
              show Steps p.tables e below (T15.setTop (mkF m 121 #[.val (.int a1), .val (.int a2), .val (.int a3), .val (.int a4), .val (.int (Int32.ofNat fa1.1)), .val (.int (Int32.ofNat fb1.1)), .val (.int (Int32.ofNat fc1.1)), .val (.int (Int32.ofNat fd1.1)), .val (.ref ob), .val (.ref ea), .val (.int (1 : Int32)), .unset, .unset, .unset, .unset, .unset, .unset, .unset] [(.int (Int32.ofNat fa1.1)), (.int (Int32.ofNat fd1.1))])) _
              refine XS.icmpYes X15.here hx rfl (pc0 := 121) (pc' := 148) rfl (hb hby at_121) rfl (teq hc121_2).1 (by decide) (by decide) ?_
              exact kt
            exact ⟨T15, _, h15, [fa1.1, 0, 0, 0], 1, X15, e15, N17, Z16, E_ob, F_states, V_sa, F_firsts, V_fa, F_ends, V_na, (V_ea.congr (fun i hi => by rcases i with _ | _ | _ | _ | i <;> first | rfl | omega)), (by have n80 : fb1.1 = fa1.1 := (own_eqn (Nat.lt_trans fb1.2 (by decide)) (Nat.lt_trans fa1.2 (by decide))).mp hc80; have n97 : ¬ fc1.1 = fa1.1 := fun w => hc97 ((own_eqn (Nat.lt_trans fc1.2 (by decide)) (Nat.lt_trans fa1.2 (by decide))).mpr w); have n104 : fc1.1 = fb1.1 := (own_eqn (Nat.lt_trans fc1.2 (by decide)) (Nat.lt_trans fb1.2 (by decide))).mp hc104; have n121 : fd1.1 = fa1.1 := (own_eqn (Nat.lt_trans fd1.2 (by decide)) (Nat.lt_trans fa1.2 (by decide))).mp hc121_2; simp only [own_enum, own_push, n80, n97, n104, n121, if_true, if_false, List.set]), pre33⟩
          case neg =>
            have pre34 : ∀ t, Steps p.tables e below (T15.setTop (mkF m 128 #[.val (.int a1), .val (.int a2), .val (.int a3), .val (.int a4), .val (.int (Int32.ofNat fa1.1)), .val (.int (Int32.ofNat fb1.1)), .val (.int (Int32.ofNat fc1.1)), .val (.int (Int32.ofNat fd1.1)), .val (.ref ob), .val (.ref ea), .val (.int (1 : Int32)), .unset, .unset, .unset, .unset, .unset, .unset, .unset] [(.int (Int32.ofNat fb1.1)), (.int (Int32.ofNat fd1.1))])) t → Steps p.tables e below (s₁.setTop (entryFrame m #[(.int a1), (.int a2), (.int a3), (.int a4)] maxLocals)) t := by
              intro t kt
              refine pre32 t ?_
              show Steps p.tables e below (T15.setTop (mkF m 121 #[.val (.int a1), .val (.int a2), .val (.int a3), .val (.int a4), .val (.int (Int32.ofNat fa1.1)), .val (.int (Int32.ofNat fb1.1)), .val (.int (Int32.ofNat fc1.1)), .val (.int (Int32.ofNat fd1.1)), .val (.ref ob), .val (.ref ea), .val (.int (1 : Int32)), .unset, .unset, .unset, .unset, .unset, .unset, .unset] [(.int (Int32.ofNat fa1.1)), (.int (Int32.ofNat fd1.1))])) _
              refine XS.icmpNo X15.here hx rfl (hb hby at_121) rfl (feq hc121_2).1 ?_
              show Steps p.tables e below (T15.setTop (mkF m 124 #[.val (.int a1), .val (.int a2), .val (.int a3), .val (.int a4), .val (.int (Int32.ofNat fa1.1)), .val (.int (Int32.ofNat fb1.1)), .val (.int (Int32.ofNat fc1.1)), .val (.int (Int32.ofNat fd1.1)), .val (.ref ob), .val (.ref ea), .val (.int (1 : Int32)), .unset, .unset, .unset, .unset, .unset, .unset, .unset] [])) _
              refine XS.iload X15.here hx rfl (hb hby at_124) rfl ?_
              show Steps p.tables e below (T15.setTop (mkF m 126 #[.val (.int a1), .val (.int a2), .val (.int a3), .val (.int a4), .val (.int (Int32.ofNat fa1.1)), .val (.int (Int32.ofNat fb1.1)), .val (.int (Int32.ofNat fc1.1)), .val (.int (Int32.ofNat fd1.1)), .val (.ref ob), .val (.ref ea), .val (.int (1 : Int32)), .unset, .unset, .unset, .unset, .unset, .unset, .unset] [(.int (Int32.ofNat fd1.1))])) _
              refine XS.iload X15.here hx rfl (hb hby at_126) rfl ?_
              exact kt
            by_cases hc128_2 : (Int32.ofNat fd1.1) = (Int32.ofNat fb1.1)
            case pos =>
              have pre35 : ∀ t, Steps p.tables e below (T15.setTop (mkF m 148 #[.val (.int a1), .val (.int a2), .val (.int a3), .val (.int a4), .val (.int (Int32.ofNat fa1.1)), .val (.int (Int32.ofNat fb1.1)), .val (.int (Int32.ofNat fc1.1)), .val (.int (Int32.ofNat fd1.1)), .val (.ref ob), .val (.ref ea), .val (.int (1 : Int32)), .unset, .unset, .unset, .unset, .unset, .unset, .unset] [])) t → Steps p.tables e below (s₁.setTop (entryFrame m #[(.int a1), (.int a2), (.int a3), (.int a4)] maxLocals)) t := by
                intro t kt
                refine pre34 t ?_
                show Steps p.tables e below (T15.setTop (mkF m 128 #[.val (.int a1), .val (.int a2), .val (.int a3), .val (.int a4), .val (.int (Int32.ofNat fa1.1)), .val (.int (Int32.ofNat fb1.1)), .val (.int (Int32.ofNat fc1.1)), .val (.int (Int32.ofNat fd1.1)), .val (.ref ob), .val (.ref ea), .val (.int (1 : Int32)), .unset, .unset, .unset, .unset, .unset, .unset, .unset] [(.int (Int32.ofNat fb1.1)), (.int (Int32.ofNat fd1.1))])) _
                refine XS.icmpYes X15.here hx rfl (pc0 := 128) (pc' := 148) rfl (hb hby at_128) rfl (teq hc128_2).1 (by decide) (by decide) ?_
                exact kt
              exact ⟨T15, _, h15, [fa1.1, 0, 0, 0], 1, X15, e15, N17, Z16, E_ob, F_states, V_sa, F_firsts, V_fa, F_ends, V_na, (V_ea.congr (fun i hi => by rcases i with _ | _ | _ | _ | i <;> first | rfl | omega)), (by have n80 : fb1.1 = fa1.1 := (own_eqn (Nat.lt_trans fb1.2 (by decide)) (Nat.lt_trans fa1.2 (by decide))).mp hc80; have n97 : ¬ fc1.1 = fa1.1 := fun w => hc97 ((own_eqn (Nat.lt_trans fc1.2 (by decide)) (Nat.lt_trans fa1.2 (by decide))).mpr w); have n104 : fc1.1 = fb1.1 := (own_eqn (Nat.lt_trans fc1.2 (by decide)) (Nat.lt_trans fb1.2 (by decide))).mp hc104; have n121 : ¬ fd1.1 = fa1.1 := fun w => hc121_2 ((own_eqn (Nat.lt_trans fd1.2 (by decide)) (Nat.lt_trans fa1.2 (by decide))).mpr w); have n128 : fd1.1 = fb1.1 := (own_eqn (Nat.lt_trans fd1.2 (by decide)) (Nat.lt_trans fb1.2 (by decide))).mp hc128_2; simp only [own_enum, own_push, n80, n97, n104, n121, n128, if_true, if_false, List.set]), pre35⟩
            case neg =>
              have pre36 : ∀ t, Steps p.tables e below (T15.setTop (mkF m 135 #[.val (.int a1), .val (.int a2), .val (.int a3), .val (.int a4), .val (.int (Int32.ofNat fa1.1)), .val (.int (Int32.ofNat fb1.1)), .val (.int (Int32.ofNat fc1.1)), .val (.int (Int32.ofNat fd1.1)), .val (.ref ob), .val (.ref ea), .val (.int (1 : Int32)), .unset, .unset, .unset, .unset, .unset, .unset, .unset] [(.int (Int32.ofNat fc1.1)), (.int (Int32.ofNat fd1.1))])) t → Steps p.tables e below (s₁.setTop (entryFrame m #[(.int a1), (.int a2), (.int a3), (.int a4)] maxLocals)) t := by
                intro t kt
                refine pre34 t ?_
                show Steps p.tables e below (T15.setTop (mkF m 128 #[.val (.int a1), .val (.int a2), .val (.int a3), .val (.int a4), .val (.int (Int32.ofNat fa1.1)), .val (.int (Int32.ofNat fb1.1)), .val (.int (Int32.ofNat fc1.1)), .val (.int (Int32.ofNat fd1.1)), .val (.ref ob), .val (.ref ea), .val (.int (1 : Int32)), .unset, .unset, .unset, .unset, .unset, .unset, .unset] [(.int (Int32.ofNat fb1.1)), (.int (Int32.ofNat fd1.1))])) _
                refine XS.icmpNo X15.here hx rfl (hb hby at_128) rfl (feq hc128_2).1 ?_
                show Steps p.tables e below (T15.setTop (mkF m 131 #[.val (.int a1), .val (.int a2), .val (.int a3), .val (.int a4), .val (.int (Int32.ofNat fa1.1)), .val (.int (Int32.ofNat fb1.1)), .val (.int (Int32.ofNat fc1.1)), .val (.int (Int32.ofNat fd1.1)), .val (.ref ob), .val (.ref ea), .val (.int (1 : Int32)), .unset, .unset, .unset, .unset, .unset, .unset, .unset] [])) _
                refine XS.iload X15.here hx rfl (hb hby at_131) rfl ?_
                show Steps p.tables e below (T15.setTop (mkF m 133 #[.val (.int a1), .val (.int a2), .val (.int a3), .val (.int a4), .val (.int (Int32.ofNat fa1.1)), .val (.int (Int32.ofNat fb1.1)), .val (.int (Int32.ofNat fc1.1)), .val (.int (Int32.ofNat fd1.1)), .val (.ref ob), .val (.ref ea), .val (.int (1 : Int32)), .unset, .unset, .unset, .unset, .unset, .unset, .unset] [(.int (Int32.ofNat fd1.1))])) _
                refine XS.iload X15.here hx rfl (hb hby at_133) rfl ?_
                exact kt
              by_cases hc135_2 : (Int32.ofNat fd1.1) = (Int32.ofNat fc1.1)
              case pos =>
                have pre37 : ∀ t, Steps p.tables e below (T15.setTop (mkF m 148 #[.val (.int a1), .val (.int a2), .val (.int a3), .val (.int a4), .val (.int (Int32.ofNat fa1.1)), .val (.int (Int32.ofNat fb1.1)), .val (.int (Int32.ofNat fc1.1)), .val (.int (Int32.ofNat fd1.1)), .val (.ref ob), .val (.ref ea), .val (.int (1 : Int32)), .unset, .unset, .unset, .unset, .unset, .unset, .unset] [])) t → Steps p.tables e below (s₁.setTop (entryFrame m #[(.int a1), (.int a2), (.int a3), (.int a4)] maxLocals)) t := by
                  intro t kt
                  refine pre36 t ?_
                  show Steps p.tables e below (T15.setTop (mkF m 135 #[.val (.int a1), .val (.int a2), .val (.int a3), .val (.int a4), .val (.int (Int32.ofNat fa1.1)), .val (.int (Int32.ofNat fb1.1)), .val (.int (Int32.ofNat fc1.1)), .val (.int (Int32.ofNat fd1.1)), .val (.ref ob), .val (.ref ea), .val (.int (1 : Int32)), .unset, .unset, .unset, .unset, .unset, .unset, .unset] [(.int (Int32.ofNat fc1.1)), (.int (Int32.ofNat fd1.1))])) _
                  refine XS.icmpYes X15.here hx rfl (pc0 := 135) (pc' := 148) rfl (hb hby at_135) rfl (teq hc135_2).1 (by decide) (by decide) ?_
                  exact kt
                exact ⟨T15, _, h15, [fa1.1, 0, 0, 0], 1, X15, e15, N17, Z16, E_ob, F_states, V_sa, F_firsts, V_fa, F_ends, V_na, (V_ea.congr (fun i hi => by rcases i with _ | _ | _ | _ | i <;> first | rfl | omega)), (by have n80 : fb1.1 = fa1.1 := (own_eqn (Nat.lt_trans fb1.2 (by decide)) (Nat.lt_trans fa1.2 (by decide))).mp hc80; have n97 : ¬ fc1.1 = fa1.1 := fun w => hc97 ((own_eqn (Nat.lt_trans fc1.2 (by decide)) (Nat.lt_trans fa1.2 (by decide))).mpr w); have n104 : fc1.1 = fb1.1 := (own_eqn (Nat.lt_trans fc1.2 (by decide)) (Nat.lt_trans fb1.2 (by decide))).mp hc104; have n121 : ¬ fd1.1 = fa1.1 := fun w => hc121_2 ((own_eqn (Nat.lt_trans fd1.2 (by decide)) (Nat.lt_trans fa1.2 (by decide))).mpr w); have n128 : ¬ fd1.1 = fb1.1 := fun w => hc128_2 ((own_eqn (Nat.lt_trans fd1.2 (by decide)) (Nat.lt_trans fb1.2 (by decide))).mpr w); have n135 : fd1.1 = fc1.1 := (own_eqn (Nat.lt_trans fd1.2 (by decide)) (Nat.lt_trans fc1.2 (by decide))).mp hc135_2; simp only [own_enum, own_push, n80, n97, n104, n121, n128, n135, if_true, if_false, List.set]), pre37⟩
              case neg =>
                obtain ⟨T38, h38, X38, e38, W38, V38, st38⟩ := own_stI X15 hx hZ e15 V_ea (j := (1 : Int32)) (by decide) (k := 1) rfl (by decide) (g := (mkF m 144 #[.val (.int a1), .val (.int a2), .val (.int a3), .val (.int a4), .val (.int (Int32.ofNat fa1.1)), .val (.int (Int32.ofNat fb1.1)), .val (.int (Int32.ofNat fc1.1)), .val (.int (Int32.ofNat fd1.1)), .val (.ref ob), .val (.ref ea), .val (.int (1 : Int32)), .unset, .unset, .unset, .unset, .unset, .unset, .unset] [(.int (Int32.ofNat fd1.1)), (.int (1 : Int32)), (.ref ea)])) rfl rfl (hb hby at_144)
                have E_ob := E_ob.wr W38
                have F_states := F_states.other W38 (Or.inl ne_ob_ea)
                have V_sa := V_sa.other W38 ne_sa_ea
                have F_firsts := F_firsts.other W38 (Or.inl ne_ob_ea)
                have V_fa := V_fa.other W38 ne_fa_ea
                have F_ends := F_ends.other W38 (Or.inl ne_ob_ea)
                have V_na := V_na.other W38 ne_na_ea
                have Z39 := Nat.le_trans Z16 (Keep.of_wr W38).1
                have N40 := Fr.snoc X38 N17 g_ea
                have V_ea := V38
                have pre41 : ∀ t, Steps p.tables e below (T38.setTop (mkF m 148 #[.val (.int a1), .val (.int a2), .val (.int a3), .val (.int a4), .val (.int (Int32.ofNat fa1.1)), .val (.int (Int32.ofNat fb1.1)), .val (.int (Int32.ofNat fc1.1)), .val (.int (Int32.ofNat fd1.1)), .val (.ref ob), .val (.ref ea), .val (.int (2 : Int32)), .unset, .unset, .unset, .unset, .unset, .unset, .unset] [])) t → Steps p.tables e below (s₁.setTop (entryFrame m #[(.int a1), (.int a2), (.int a3), (.int a4)] maxLocals)) t := by
                  intro t kt
                  refine pre36 t ?_
                  show Steps p.tables e below (T15.setTop (mkF m 135 #[.val (.int a1), .val (.int a2), .val (.int a3), .val (.int a4), .val (.int (Int32.ofNat fa1.1)), .val (.int (Int32.ofNat fb1.1)), .val (.int (Int32.ofNat fc1.1)), .val (.int (Int32.ofNat fd1.1)), .val (.ref ob), .val (.ref ea), .val (.int (1 : Int32)), .unset, .unset, .unset, .unset, .unset, .unset, .unset] [(.int (Int32.ofNat fc1.1)), (.int (Int32.ofNat fd1.1))])) _
                  refine XS.icmpNo X15.here hx rfl (hb hby at_135) rfl (feq hc135_2).1 ?_
                  show Steps p.tables e below (T15.setTop (mkF m 138 #[.val (.int a1), .val (.int a2), .val (.int a3), .val (.int a4), .val (.int (Int32.ofNat fa1.1)), .val (.int (Int32.ofNat fb1.1)), .val (.int (Int32.ofNat fc1.1)), .val (.int (Int32.ofNat fd1.1)), .val (.ref ob), .val (.ref ea), .val (.int (1 : Int32)), .unset, .unset, .unset, .unset, .unset, .unset, .unset] [])) _
                  refine XS.aload X15.here hx rfl (hb hby at_138) rfl rfl ?_
                  show Steps p.tables e below (T15.setTop (mkF m 140 #[.val (.int a1), .val (.int a2), .val (.int a3), .val (.int a4), .val (.int (Int32.ofNat fa1.1)), .val (.int (Int32.ofNat fb1.1)), .val (.int (Int32.ofNat fc1.1)), .val (.int (Int32.ofNat fd1.1)), .val (.ref ob), .val (.ref ea), .val (.int (1 : Int32)), .unset, .unset, .unset, .unset, .unset, .unset, .unset] [(.ref ea)])) _
                  refine XS.iload X15.here hx rfl (hb hby at_140) rfl ?_
                  show Steps p.tables e below (T15.setTop (mkF m 142 #[.val (.int a1), .val (.int a2), .val (.int a3), .val (.int a4), .val (.int (Int32.ofNat fa1.1)), .val (.int (Int32.ofNat fb1.1)), .val (.int (Int32.ofNat fc1.1)), .val (.int (Int32.ofNat fd1.1)), .val (.ref ob), .val (.ref ea), .val (.int (1 : Int32)), .unset, .unset, .unset, .unset, .unset, .unset, .unset] [(.int (1 : Int32)), (.ref ea)])) _
                  refine XS.iload X15.here hx rfl (hb hby at_142) rfl ?_
                  show Steps p.tables e below (T15.setTop (mkF m 144 #[.val (.int a1), .val (.int a2), .val (.int a3), .val (.int a4), .val (.int (Int32.ofNat fa1.1)), .val (.int (Int32.ofNat fb1.1)), .val (.int (Int32.ofNat fc1.1)), .val (.int (Int32.ofNat fd1.1)), .val (.ref ob), .val (.ref ea), .val (.int (1 : Int32)), .unset, .unset, .unset, .unset, .unset, .unset, .unset] [(.int (Int32.ofNat fd1.1)), (.int (1 : Int32)), (.ref ea)])) _
                  refine st38 _ ?_
                  show Steps p.tables e below (T38.setTop (mkF m 145 #[.val (.int a1), .val (.int a2), .val (.int a3), .val (.int a4), .val (.int (Int32.ofNat fa1.1)), .val (.int (Int32.ofNat fb1.1)), .val (.int (Int32.ofNat fc1.1)), .val (.int (Int32.ofNat fd1.1)), .val (.ref ob), .val (.ref ea), .val (.int (1 : Int32)), .unset, .unset, .unset, .unset, .unset, .unset, .unset] [])) _
                  refine XS.iinc X38.here hx rfl (hb hby at_145) rfl (l' := #[.val (.int a1), .val (.int a2), .val (.int a3), .val (.int a4), .val (.int (Int32.ofNat fa1.1)), .val (.int (Int32.ofNat fb1.1)), .val (.int (Int32.ofNat fc1.1)), .val (.int (Int32.ofNat fd1.1)), .val (.ref ob), .val (.ref ea), .val (.int (2 : Int32)), .unset, .unset, .unset, .unset, .unset, .unset, .unset]) rfl ?_
                  exact kt
                exact ⟨T38, _, h38, [fa1.1, fd1.1, 0, 0], 2, X38, e38, N40, Z39, E_ob, F_states, V_sa, F_firsts, V_fa, F_ends, V_na, (V_ea.congr (fun i hi => by rcases i with _ | _ | _ | _ | i <;> first | rfl | omega)), (by have n80 : fb1.1 = fa1.1 := (own_eqn (Nat.lt_trans fb1.2 (by decide)) (Nat.lt_trans fa1.2 (by decide))).mp hc80; have n97 : ¬ fc1.1 = fa1.1 := fun w => hc97 ((own_eqn (Nat.lt_trans fc1.2 (by decide)) (Nat.lt_trans fa1.2 (by decide))).mpr w); have n104 : fc1.1 = fb1.1 := (own_eqn (Nat.lt_trans fc1.2 (by decide)) (Nat.lt_trans fb1.2 (by decide))).mp hc104; have n121 : ¬ fd1.1 = fa1.1 := fun w => hc121_2 ((own_eqn (Nat.lt_trans fd1.2 (by decide)) (Nat.lt_trans fa1.2 (by decide))).mpr w); have n128 : ¬ fd1.1 = fb1.1 := fun w => hc128_2 ((own_eqn (Nat.lt_trans fd1.2 (by decide)) (Nat.lt_trans fb1.2 (by decide))).mpr w); have n135 : ¬ fd1.1 = fc1.1 := fun w => hc135_2 ((own_eqn (Nat.lt_trans fd1.2 (by decide)) (Nat.lt_trans fc1.2 (by decide))).mpr w); simp only [own_enum, own_push, n80, n97, n104, n121, n128, n135, if_true, if_false, List.set]), pre41⟩
        case neg =>
          obtain ⟨T42, h42, X42, e42, W42, V42, st42⟩ := own_stI X15 hx hZ e15 V_ea (j := (1 : Int32)) (by decide) (k := 1) rfl (by decide) (g := (mkF m 113 #[.val (.int a1), .val (.int a2), .val (.int a3), .val (.int a4), .val (.int (Int32.ofNat fa1.1)), .val (.int (Int32.ofNat fb1.1)), .val (.int (Int32.ofNat fc1.1)), .val (.int (Int32.ofNat fd1.1)), .val (.ref ob), .val (.ref ea), .val (.int (1 : Int32)), .unset, .unset, .unset, .unset, .unset, .unset, .unset] [(.int (Int32.ofNat fc1.1)), (.int (1 : Int32)), (.ref ea)])) rfl rfl (hb hby at_113)
          have E_ob := E_ob.wr W42
          have F_states := F_states.other W42 (Or.inl ne_ob_ea)
          have V_sa := V_sa.other W42 ne_sa_ea
          have F_firsts := F_firsts.other W42 (Or.inl ne_ob_ea)
          have V_fa := V_fa.other W42 ne_fa_ea
          have F_ends := F_ends.other W42 (Or.inl ne_ob_ea)
          have V_na := V_na.other W42 ne_na_ea
          have Z43 := Nat.le_trans Z16 (Keep.of_wr W42).1
          have N44 := Fr.snoc X42 N17 g_ea
          have V_ea := V42
          have pre45 : ∀ t, Steps p.tables e below (T42.setTop (mkF m 121 #[.val (.int a1), .val (.int a2), .val (.int a3), .val (.int a4), .val (.int (Int32.ofNat fa1.1)), .val (.int (Int32.ofNat fb1.1)), .val (.int (Int32.ofNat fc1.1)), .val (.int (Int32.ofNat fd1.1)), .val (.ref ob), .val (.ref ea), .val (.int (2 : Int32)), .unset, .unset, .unset, .unset, .unset, .unset, .unset] [(.int (Int32.ofNat fa1.1)), (.int (Int32.ofNat fd1.1))])) t → Steps p.tables e below (s₁.setTop (entryFrame m #[(.int a1), (.int a2), (.int a3), (.int a4)] maxLocals)) t := by
            intro t kt
            refine pre31 t ?_
            show Steps p.tables e below (T15.setTop (mkF m 104 #[.val (.int a1), .val (.int a2), .val (.int a3), .val (.int a4), .val (.int (Int32.ofNat fa1.1)), .val (.int (Int32.ofNat fb1.1)), .val (.int (Int32.ofNat fc1.1)), .val (.int (Int32.ofNat fd1.1)), .val (.ref ob), .val (.ref ea), .val (.int (1 : Int32)), .unset, .unset, .unset, .unset, .unset, .unset, .unset] [(.int (Int32.ofNat fb1.1)), (.int (Int32.ofNat fc1.1))])) _
            refine XS.icmpNo X15.here hx rfl (hb hby at_104) rfl (feq hc104).1 ?_
            show Steps p.tables e below (T15.setTop (mkF m 107 #[.val (.int a1), .val (.int a2), .val (.int a3), .val (.int a4), .val (.int (Int32.ofNat fa1.1)), .val (.int (Int32.ofNat fb1.1)), .val (.int (Int32.ofNat fc1.1)), .val (.int (Int32.ofNat fd1.1)), .val (.ref ob), .val (.ref ea), .val (.int (1 : Int32)), .unset, .unset, .unset, .unset, .unset, .unset, .unset] [])) _
            refine XS.aload X15.here hx rfl (hb hby at_107) rfl rfl ?_
            show Steps p.tables e below (T15.setTop (mkF m 109 #[.val (.int a1), .val (.int a2), .val (.int a3), .val (.int a4), .val (.int (Int32.ofNat fa1.1)), .val (.int (Int32.ofNat fb1.1)), .val (.int (Int32.ofNat fc1.1)), .val (.int (Int32.ofNat fd1.1)), .val (.ref ob), .val (.ref ea), .val (.int (1 : Int32)), .unset, .unset, .unset, .unset, .unset, .unset, .unset] [(.ref ea)])) _
            refine XS.iload X15.here hx rfl (hb hby at_109) rfl ?_
            show Steps p.tables e below (T15.setTop (mkF m 111 #[.val (.int a1), .val (.int a2), .val (.int a3), .val (.int a4), .val (.int (Int32.ofNat fa1.1)), .val (.int (Int32.ofNat fb1.1)), .val (.int (Int32.ofNat fc1.1)), .val (.int (Int32.ofNat fd1.1)), .val (.ref ob), .val (.ref ea), .val (.int (1 : Int32)), .unset, .unset, .unset, .unset, .unset, .unset, .unset] [(.int (1 : Int32)), (.ref ea)])) _
            refine XS.iload X15.here hx rfl (hb hby at_111) rfl ?_
            show Steps p.tables e below (T15.setTop (mkF m 113 #[.val (.int a1), .val (.int a2), .val (.int a3), .val (.int a4), .val (.int (Int32.ofNat fa1.1)), .val (.int (Int32.ofNat fb1.1)), .val (.int (Int32.ofNat fc1.1)), .val (.int (Int32.ofNat fd1.1)), .val (.ref ob), .val (.ref ea), .val (.int (1 : Int32)), .unset, .unset, .unset, .unset, .unset, .unset, .unset] [(.int (Int32.ofNat fc1.1)), (.int (1 : Int32)), (.ref ea)])) _
            refine st42 _ ?_
            show Steps p.tables e below (T42.setTop (mkF m 114 #[.val (.int a1), .val (.int a2), .val (.int a3), .val (.int a4), .val (.int (Int32.ofNat fa1.1)), .val (.int (Int32.ofNat fb1.1)), .val (.int (Int32.ofNat fc1.1)), .val (.int (Int32.ofNat fd1.1)), .val (.ref ob), .val (.ref ea), .val (.int (1 : Int32)), .unset, .unset, .unset, .unset, .unset, .unset, .unset] [])) _
            refine XS.iinc X42.here hx rfl (hb hby at_114) rfl (l' := #[.val (.int a1), .val (.int a2), .val (.int a3), .val (.int a4), .val (.int (Int32.ofNat fa1.1)), .val (.int (Int32.ofNat fb1.1)), .val (.int (Int32.ofNat fc1.1)), .val (.int (Int32.ofNat fd1.1)), .val (.ref ob), .val (.ref ea), .val (.int (2 : Int32)), .unset, .unset, .unset, .unset, .unset, .unset, .unset]) rfl ?_
            show Steps p.tables e below (T42.setTop (mkF m 117 #[.val (.int a1), .val (.int a2), .val (.int a3), .val (.int a4), .val (.int (Int32.ofNat fa1.1)), .val (.int (Int32.ofNat fb1.1)), .val (.int (Int32.ofNat fc1.1)), .val (.int (Int32.ofNat fd1.1)), .val (.ref ob), .val (.ref ea), .val (.int (2 : Int32)), .unset, .unset, .unset, .unset, .unset, .unset, .unset] [])) _
            refine XS.iload X42.here hx rfl (hb hby at_117) rfl ?_
            show Steps p.tables e below (T42.setTop (mkF m 119 #[.val (.int a1), .val (.int a2), .val (.int a3), .val (.int a4), .val (.int (Int32.ofNat fa1.1)), .val (.int (Int32.ofNat fb1.1)), .val (.int (Int32.ofNat fc1.1)), .val (.int (Int32.ofNat fd1.1)), .val (.ref ob), .val (.ref ea), .val (.int (2 : Int32)), .unset, .unset, .unset, .unset, .unset, .unset, .unset] [(.int (Int32.ofNat fd1.1))])) _
            refine XS.iload X42.here hx rfl (hb hby at_119) rfl ?_
            exact kt
          by_cases hc121_3 : (Int32.ofNat fd1.1) = (Int32.ofNat fa1.1)
          case pos =>
            have pre46 : ∀ t, Steps p.tables e below (T42.setTop (mkF m 148 #[.val (.int a1), .val (.int a2), .val (.int a3), .val (.int a4), .val (.int (Int32.ofNat fa1.1)), .val (.int (Int32.ofNat fb1.1)), .val (.int (Int32.ofNat fc1.1)), .val (.int (Int32.ofNat fd1.1)), .val (.ref ob), .val (.ref ea), .val (.int (2 : Int32)), .unset, .unset, .unset, .unset, .unset, .unset, .unset] [])) t → Steps p.tables e below (s₁.setTop (entryFrame m #[(.int a1), (.int a2), (.int a3), (.int a4)] maxLocals)) t := by
              intro t kt
              refine pre45 t ?_
              show Steps p.tables e below (T42.setTop (mkF m 121 #[.val (.int a1), .val (.int a2), .val (.int a3), .val (.int a4), .val (.int (Int32.ofNat fa1.1)), .val (.int (Int32.ofNat fb1.1)), .val (.int (Int32.ofNat fc1.1)), .val (.int (Int32.ofNat fd1.1)), .val (.ref ob), .val (.ref ea), .val (.int (2 : Int32)), .unset, .unset, .unset, .unset, .unset, .unset, .unset] [(.int (Int32.ofNat fa1.1)), (.int (Int32.ofNat fd1.1))])) _
              refine XS.icmpYes X42.here hx rfl (pc0 := 121) (pc' := 148) rfl (hb hby at_121) rfl (teq hc121_3).1 (by decide) (by decide) ?_
              exact kt
            exact ⟨T42, _, h42, [fa1.1, fc1.1, 0, 0], 2, X42, e42, N44, Z43, E_ob, F_states, V_sa, F_firsts, V_fa, F_ends, V_na, (V_ea.congr (fun i hi => by rcases i with _ | _ | _ | _ | i <;> first | rfl | omega)), (by have n80 : fb1.1 = fa1.1 := (own_eqn (Nat.lt_trans fb1.2 (by decide)) (Nat.lt_trans fa1.2 (by decide))).mp hc80; have n97 : ¬ fc1.1 = fa1.1 := fun w => hc97 ((own_eqn (Nat.lt_trans fc1.2 (by decide)) (Nat.lt_trans fa1.2 (by decide))).mpr w); have n104 : ¬ fc1.1 = fb1.1 := fun w => hc104 ((own_eqn (Nat.lt_trans fc1.2 (by decide)) (Nat.lt_trans fb1.2 (by decide))).mpr w); have n121 : fd1.1 = fa1.1 := (own_eqn (Nat.lt_trans fd1.2 (by decide)) (Nat.lt_trans fa1.2 (by decide))).mp hc121_3; simp only [own_enum, own_push, n80, n97, n104, n121, if_true, if_false, List.set]), pre46⟩
          case neg =>
            have pre47 : ∀ t, Steps p.tables e below (T42.setTop (mkF m 128 #[.val (.int a1), .val (.int a2), .val (.int a3), .val (.int a4), .val (.int (Int32.ofNat fa1.1)), .val (.int (Int32.ofNat fb1.1)), .val (.int (Int32.ofNat fc1.1)), .val (.int (Int32.ofNat fd1.1)), .val (.ref ob), .val (.ref ea), .val (.int (2 : Int32)), .unset, .unset, .unset, .unset, .unset, .unset, .unset] [(.int (Int32.ofNat fb1.1)), (.int (Int32.ofNat fd1.1))])) t → Steps p.tables e below (s₁.setTop (entryFrame m #[(.int a1), (.int a2), (.int a3), (.int a4)] maxLocals)) t := by
              intro t kt
              refine pre45 t ?_
              show Steps p.tables e below (T42.setTop (mkF m 121 #[.val (.int a1), .val (.int a2), .val (.int a3), .val (.int a4), .val (.int (Int32.ofNat fa1.1)), .val (.int (Int32.ofNat fb1.1)), .val (.int (Int32.ofNat fc1.1)), .val (.int (Int32.ofNat fd1.1)), .val (.ref ob), .val (.ref ea), .val (.int (2 : Int32)), .unset, .unset, .unset, .unset, .unset, .unset, .unset] [(.int (Int32.ofNat fa1.1)), (.int (Int32.ofNat fd1.1))])) _
              refine XS.icmpNo X42.here hx rfl (hb hby at_121) rfl (feq hc121_3).1 ?_
              show Steps p.tables e below (T42.setTop (mkF m 124 #[.val (.int a1), .val (.int a2), .val (.int a3), .val (.int a4), .val (.int (Int32.ofNat fa1.1)), .val (.int (Int32.ofNat fb1.1)), .val (.int (Int32.ofNat fc1.1)), .val (.int (Int32.ofNat fd1.1)), .val (.ref ob), .val (.ref ea), .val (.int (2 : Int32)), .unset, .unset, .unset, .unset, .unset, .unset, .unset] [])) _
              refine XS.iload X42.here hx rfl (hb hby at_124) rfl ?_
              show Steps p.tables e below (T42.setTop (mkF m 126 #[.val (.int a1), .val (.int a2), .val (.int a3), .val (.int a4), .val (.int (Int32.ofNat fa1.1)), .val (.int (Int32.ofNat fb1.1)), .val (.int (Int32.ofNat fc1.1)), .val (.int (Int32.ofNat fd1.1)), .val (.ref ob), .val (.ref ea), .val (.int (2 : Int32)), .unset, .unset, .unset, .unset, .unset, .unset, .unset] [(.int (Int32.ofNat fd1.1))])) _
              refine XS.iload X42.here hx rfl (hb hby at_126) rfl ?_
              exact kt
            by_cases hc128_3 : (Int32.ofNat fd1.1) = (Int32.ofNat fb1.1)
            case pos =>
              have pre48 : ∀ t, Steps p.tables e below (T42.setTop (mkF m 148 #[.val (.int a1), .val (.int a2), .val (.int a3), .val (.int a4), .val (.int (Int32.ofNat fa1.1)), .val (.int (Int32.ofNat fb1.1)), .val (.int (Int32.ofNat fc1.1)), .val (.int (Int32.ofNat fd1.1)), .val (.ref ob), .val (.ref ea), .val (.int (2 : Int32)), .unset, .unset, .unset, .unset, .unset, .unset, .unset] [])) t → Steps p.tables e below (s₁.setTop (entryFrame m #[(.int a1), (.int a2), (.int a3), (.int a4)] maxLocals)) t := by
                intro t kt
                refine pre47 t ?_
                show Steps p.tables e below (T42.setTop (mkF m 128 #[.val (.int a1), .val (.int a2), .val (.int a3), .val (.int a4), .val (.int (Int32.ofNat fa1.1)), .val (.int (Int32.ofNat fb1.1)), .val (.int (Int32.ofNat fc1.1)), .val (.int (Int32.ofNat fd1.1)), .val (.ref ob), .val (.ref ea), .val (.int (2 : Int32)), .unset, .unset, .unset, .unset, .unset, .unset, .unset] [(.int (Int32.ofNat fb1.1)), (.int (Int32.ofNat fd1.1))])) _
                refine XS.icmpYes X42.here hx rfl (pc0 := 128) (pc' := 148) rfl (hb hby at_128) rfl (teq hc128_3).1 (by decide) (by decide) ?_
                exact kt
              exact ⟨T42, _, h42, [fa1.1, fc1.1, 0, 0], 2, X42, e42, N44, Z43, E_ob, F_states, V_sa, F_firsts, V_fa, F_ends, V_na, (V_ea.congr (fun i hi => by rcases i with _ | _ | _ | _ | i <;> first | rfl | omega)), (by have n80 : fb1.1 = fa1.1 := (own_eqn (Nat.lt_trans fb1.2 (by decide)) (Nat.lt_trans fa1.2 (by decide))).mp hc80; have n97 : ¬ fc1.1 = fa1.1 := fun w => hc97 ((own_eqn (Nat.lt_trans fc1.2 (by decide)) (Nat.lt_trans fa1.2 (by decide))).mpr w); have n104 : ¬ fc1.1 = fb1.1 := fun w => hc104 ((own_eqn (Nat.lt_trans fc1.2 (by decide)) (Nat.lt_trans fb1.2 (by decide))).mpr w); have n121 : ¬ fd1.1 = fa1.1 := fun w => hc121_3 ((own_eqn (Nat.lt_trans fd1.2 (by decide)) (Nat.lt_trans fa1.2 (by decide))).mpr w); have n128 : fd1.1 = fb1.1 := (own_eqn (Nat.lt_trans fd1.2 (by decide)) (Nat.lt_trans fb1.2 (by decide))).mp hc128_3; simp only [own_enum, own_push, n80, n97, n104, n121, n128, if_true, if_false, List.set]), pre48⟩
            case neg =>
              have pre49 : ∀ t, Steps p.tables e below (T42.setTop (mkF m 135 #[.val (.int a1), .val (.int a2), .val (.int a3), .val (.int a4), .val (.int (Int32.ofNat fa1.1)), .val (.int (Int32.ofNat fb1.1)), .val (.int (Int32.ofNat fc1.1)), .val (.int (Int32.ofNat fd1.1)), .val (.ref ob), .val (.ref ea), .val (.int (2 : Int32)), .unset, .unset, .unset, .unset, .unset, .unset, .unset] [(.int (Int32.ofNat fc1.1)), (.int (Int32.ofNat fd1.1))])) t → Steps p.tables e below (s₁.setTop (entryFrame m #[(.int a1), (.int a2), (.int a3), (.int a4)] maxLocals)) t := by
                intro t kt
                refine pre47 t ?_
                show Steps p.tables e below (T42.setTop (mkF m 128 #[.val (.int a1), .val (.int a2), .val (.int a3), .val (.int a4), .val (.int (Int32.ofNat fa1.1)), .val (.int (Int32.ofNat fb1.1)), .val (.int (Int32.ofNat fc1.1)), .val (.int (Int32.ofNat fd1.1)), .val (.ref ob), .val (.ref ea), .val (.int (2 : Int32)), .unset, .unset, .unset, .unset, .unset, .unset, .unset] [(.int (Int32.ofNat fb1.1)), (.int (Int32.ofNat fd1.1))])) _
                refine XS.icmpNo X42.here hx rfl (hb hby at_128) rfl (feq hc128_3).1 ?_
                show Steps p.tables e below (T42.setTop (mkF m 131 #[.val (.int a1), .val (.int a2), .val (.int a3), .val (.int a4), .val (.int (Int32.ofNat fa1.1)), .val (.int (Int32.ofNat fb1.1)), .val (.int (Int32.ofNat fc1.1)), .val (.int (Int32.ofNat fd1.1)), .val (.ref ob), .val (.ref ea), .val (.int (2 : Int32)), .unset, .unset, .unset, .unset, .unset, .unset, .unset] [])) _
                refine XS.iload X42.here hx rfl (hb hby at_131) rfl ?_
                show Steps p.tables e below (T42.setTop (mkF m 133 #[.val (.int a1), .val (.int a2), .val (.int a3), .val (.int a4), .val (.int (Int32.ofNat fa1.1)), .val (.int (Int32.ofNat fb1.1)), .val (.int (Int32.ofNat fc1.1)), .val (.int (Int32.ofNat fd1.1)), .val (.ref ob), .val (.ref ea), .val (.int (2 : Int32)), .unset, .unset, .unset, .unset, .unset, .unset, .unset] [(.int (Int32.ofNat fd1.1))])) _
                refine XS.iload X42.here hx rfl (hb hby at_133) rfl ?_
                exact kt
              by_cases hc135_3 : (Int32.ofNat fd1.1) = (Int32.ofNat fc1.1)
              case pos =>
                have pre50 : ∀ t, Steps p.tables e below (T42.setTop (mkF m 148 #[.val (.int a1), .val (.int a2), .val (.int a3), .val (.int a4), .val (.int (Int32.ofNat fa1.1)), .val (.int (Int32.ofNat fb1.1)), .val (.int (Int32.ofNat fc1.1)), .val (.int (Int32.ofNat fd1.1)), .val (.ref ob), .val (.ref ea), .val (.int (2 : Int32)), .unset, .unset, .unset, .unset, .unset, .unset, .unset] [])) t → Steps p.tables e below (s₁.setTop (entryFrame m #[(.int a1), (.int a2), (.int a3), (.int a4)] maxLocals)) t := by
                  intro t kt
                  refine pre49 t ?_
                  show Steps p.tables e below (T42.setTop (mkF m 135 #[.val (.int a1), .val (.int a2), .val (.int a3), .val (.int a4), .val (.int (Int32.ofNat fa1.1)), .val (.int (Int32.ofNat fb1.1)), .val (.int (Int32.ofNat fc1.1)), .val (.int (Int32.ofNat fd1.1)), .val (.ref ob), .val (.ref ea), .val (.int (2 : Int32)), .unset, .unset, .unset, .unset, .unset, .unset, .unset] [(.int (Int32.ofNat fc1.1)), (.int (Int32.ofNat fd1.1))])) _
                  refine XS.icmpYes X42.here hx rfl (pc0 := 135) (pc' := 148) rfl (hb hby at_135) rfl (teq hc135_3).1 (by decide) (by decide) ?_
                  exact kt
                exact ⟨T42, _, h42, [fa1.1, fc1.1, 0, 0], 2, X42, e42, N44, Z43, E_ob, F_states, V_sa, F_firsts, V_fa, F_ends, V_na, (V_ea.congr (fun i hi => by rcases i with _ | _ | _ | _ | i <;> first | rfl | omega)), (by have n80 : fb1.1 = fa1.1 := (own_eqn (Nat.lt_trans fb1.2 (by decide)) (Nat.lt_trans fa1.2 (by decide))).mp hc80; have n97 : ¬ fc1.1 = fa1.1 := fun w => hc97 ((own_eqn (Nat.lt_trans fc1.2 (by decide)) (Nat.lt_trans fa1.2 (by decide))).mpr w); have n104 : ¬ fc1.1 = fb1.1 := fun w => hc104 ((own_eqn (Nat.lt_trans fc1.2 (by decide)) (Nat.lt_trans fb1.2 (by decide))).mpr w); have n121 : ¬ fd1.1 = fa1.1 := fun w => hc121_3 ((own_eqn (Nat.lt_trans fd1.2 (by decide)) (Nat.lt_trans fa1.2 (by decide))).mpr w); have n128 : ¬ fd1.1 = fb1.1 := fun w => hc128_3 ((own_eqn (Nat.lt_trans fd1.2 (by decide)) (Nat.lt_trans fb1.2 (by decide))).mpr w); have n135 : fd1.1 = fc1.1 := (own_eqn (Nat.lt_trans fd1.2 (by decide)) (Nat.lt_trans fc1.2 (by decide))).mp hc135_3; simp only [own_enum, own_push, n80, n97, n104, n121, n128, n135, if_true, if_false, List.set]), pre50⟩
              case neg =>
                obtain ⟨T51, h51, X51, e51, W51, V51, st51⟩ := own_stI X42 hx hZ e42 V_ea (j := (2 : Int32)) (by decide) (k := 2) rfl (by decide) (g := (mkF m 144 #[.val (.int a1), .val (.int a2), .val (.int a3), .val (.int a4), .val (.int (Int32.ofNat fa1.1)), .val (.int (Int32.ofNat fb1.1)), .val (.int (Int32.ofNat fc1.1)), .val (.int (Int32.ofNat fd1.1)), .val (.ref ob), .val (.ref ea), .val (.int (2 : Int32)), .unset, .unset, .unset, .unset, .unset, .unset, .unset] [(.int (Int32.ofNat fd1.1)), (.int (2 : Int32)), (.ref ea)])) rfl rfl (hb hby at_144)
                have E_ob := E_ob.wr W51
                have F_states := F_states.other W51 (Or.inl ne_ob_ea)
                have V_sa := V_sa.other W51 ne_sa_ea
                have F_firsts := F_firsts.other W51 (Or.inl ne_ob_ea)
                have V_fa := V_fa.other W51 ne_fa_ea
                have F_ends := F_ends.other W51 (Or.inl ne_ob_ea)
                have V_na := V_na.other W51 ne_na_ea
                have Z52 := Nat.le_trans Z43 (Keep.of_wr W51).1
                have N53 := Fr.snoc X51 N44 g_ea
                have V_ea := V51
                have pre54 : ∀ t, Steps p.tables e below (T51.setTop (mkF m 148 #[.val (.int a1), .val (.int a2), .val (.int a3), .val (.int a4), .val (.int (Int32.ofNat fa1.1)), .val (.int (Int32.ofNat fb1.1)), .val (.int (Int32.ofNat fc1.1)), .val (.int (Int32.ofNat fd1.1)), .val (.ref ob), .val (.ref ea), .val (.int (3 : Int32)), .unset, .unset, .unset, .unset, .unset, .unset, .unset] [])) t → Steps p.tables e below (s₁.setTop (entryFrame m #[(.int a1), (.int a2), (.int a3), (.int a4)] maxLocals)) t := by
                  intro t kt
                  refine pre49 t ?_
                  show Steps p.tables e below (T42.setTop (mkF m 135 #[.val (.int a1), .val (.int a2), .val (.int a3), .val (.int a4), .val (.int (Int32.ofNat fa1.1)), .val (.int (Int32.ofNat fb1.1)), .val (.int (Int32.ofNat fc1.1)), .val (.int (Int32.ofNat fd1.1)), .val (.ref ob), .val (.ref ea), .val (.int (2 : Int32)), .unset, .unset, .unset, .unset, .unset, .unset, .unset] [(.int (Int32.ofNat fc1.1)), (.int (Int32.ofNat fd1.1))])) _
                  refine XS.icmpNo X42.here hx rfl (hb hby at_135) rfl (feq hc135_3).1 ?_
                  show Steps p.tables e below (T42.setTop (mkF m 138 #[.val (.int a1), .val (.int a2), .val (.int a3), .val (.int a4), .val (.int (Int32.ofNat fa1.1)), .val (.int (Int32.ofNat fb1.1)), .val (.int (Int32.ofNat fc1.1)), .val (.int (Int32.ofNat fd1.1)), .val (.ref ob), .val (.ref ea), .val (.int (2 : Int32)), .unset, .unset, .unset, .unset, .unset, .unset, .unset] [])) _
                  refine XS.aload X42.here hx rfl (hb hby at_138) rfl rfl ?_
                  show Steps p.tables e below (T42.setTop (mkF m 140 #[.val (.int a1), .val (.int a2), .val (.int a3), .val (.int a4), .val (.int (Int32.ofNat fa1.1)), .val (.int (Int32.ofNat fb1.1)), .val (.int (Int32.ofNat fc1.1)), .val (.int (Int32.ofNat fd1.1)), .val (.ref ob), .val (.ref ea), .val (.int (2 : Int32)), .unset, .unset, .unset, .unset, .unset, .unset, .unset] [(.ref ea)])) _
                  refine XS.iload X42.here hx rfl (hb hby at_140) rfl ?_
                  show Steps p.tables e below (T42.setTop (mkF m 142 #[.val (.int a1), .val (.int a2), .val (.int a3), .val (.int a4), .val (.int (Int32.ofNat fa1.1)), .val (.int (Int32.ofNat fb1.1)), .val (.int (Int32.ofNat fc1.1)), .val (.int (Int32.ofNat fd1.1)), .val (.ref ob), .val (.ref ea), .val (.int (2 : Int32)), .unset, .unset, .unset, .unset, .unset, .unset, .unset] [(.int (2 : Int32)), (.ref ea)])) _
                  refine XS.iload X42.here hx rfl (hb hby at_142) rfl ?_
                  show Steps p.tables e below (T42.setTop (mkF m 144 #[.val (.int a1), .val (.int a2), .val (.int a3), .val (.int a4), .val (.int (Int32.ofNat fa1.1)), .val (.int (Int32.ofNat fb1.1)), .val (.int (Int32.ofNat fc1.1)), .val (.int (Int32.ofNat fd1.1)), .val (.ref ob), .val (.ref ea), .val (.int (2 : Int32)), .unset, .unset, .unset, .unset, .unset, .unset, .unset] [(.int (Int32.ofNat fd1.1)), (.int (2 : Int32)), (.ref ea)])) _
                  refine st51 _ ?_
                  show Steps p.tables e below (T51.setTop (mkF m 145 #[.val (.int a1), .val (.int a2), .val (.int a3), .val (.int a4), .val (.int (Int32.ofNat fa1.1)), .val (.int (Int32.ofNat fb1.1)), .val (.int (Int32.ofNat fc1.1)), .val (.int (Int32.ofNat fd1.1)), .val (.ref ob), .val (.ref ea), .val (.int (2 : Int32)), .unset, .unset, .unset, .unset, .unset, .unset, .unset] [])) _
                  refine XS.iinc X51.here hx rfl (hb hby at_145) rfl (l' := #[.val (.int a1), .val (.int a2), .val (.int a3), .val (.int a4), .val (.int (Int32.ofNat fa1.1)), .val (.int (Int32.ofNat fb1.1)), .val (.int (Int32.ofNat fc1.1)), .val (.int (Int32.ofNat fd1.1)), .val (.ref ob), .val (.ref ea), .val (.int (3 : Int32)), .unset, .unset, .unset, .unset, .unset, .unset, .unset]) rfl ?_
                  exact kt
                exact ⟨T51, _, h51, [fa1.1, fc1.1, fd1.1, 0], 3, X51, e51, N53, Z52, E_ob, F_states, V_sa, F_firsts, V_fa, F_ends, V_na, (V_ea.congr (fun i hi => by rcases i with _ | _ | _ | _ | i <;> first | rfl | omega)), (by have n80 : fb1.1 = fa1.1 := (own_eqn (Nat.lt_trans fb1.2 (by decide)) (Nat.lt_trans fa1.2 (by decide))).mp hc80; have n97 : ¬ fc1.1 = fa1.1 := fun w => hc97 ((own_eqn (Nat.lt_trans fc1.2 (by decide)) (Nat.lt_trans fa1.2 (by decide))).mpr w); have n104 : ¬ fc1.1 = fb1.1 := fun w => hc104 ((own_eqn (Nat.lt_trans fc1.2 (by decide)) (Nat.lt_trans fb1.2 (by decide))).mpr w); have n121 : ¬ fd1.1 = fa1.1 := fun w => hc121_3 ((own_eqn (Nat.lt_trans fd1.2 (by decide)) (Nat.lt_trans fa1.2 (by decide))).mpr w); have n128 : ¬ fd1.1 = fb1.1 := fun w => hc128_3 ((own_eqn (Nat.lt_trans fd1.2 (by decide)) (Nat.lt_trans fb1.2 (by decide))).mpr w); have n135 : ¬ fd1.1 = fc1.1 := fun w => hc135_3 ((own_eqn (Nat.lt_trans fd1.2 (by decide)) (Nat.lt_trans fc1.2 (by decide))).mpr w); simp only [own_enum, own_push, n80, n97, n104, n121, n128, n135, if_true, if_false, List.set]), pre54⟩
    case neg =>
      obtain ⟨T55, h55, X55, e55, W55, V55, st55⟩ := own_stI X15 hx hZ e15 V_ea (j := (1 : Int32)) (by decide) (k := 1) rfl (by decide) (g := (mkF m 89 #[.val (.int a1), .val (.int a2), .val (.int a3), .val (.int a4), .val (.int (Int32.ofNat fa1.1)), .val (.int (Int32.ofNat fb1.1)), .val (.int (Int32.ofNat fc1.1)), .val (.int (Int32.ofNat fd1.1)), .val (.ref ob), .val (.ref ea), .val (.int (1 : Int32)), .unset, .unset, .unset, .unset, .unset, .unset, .unset] [(.int (Int32.ofNat fb1.1)), (.int (1 : Int32)), (.ref ea)])) rfl rfl (hb hby at_89)
      have E_ob := E_ob.wr W55
      have F_states := F_states.other W55 (Or.inl ne_ob_ea)
      have V_sa := V_sa.other W55 ne_sa_ea
      have F_firsts := F_firsts.other W55 (Or.inl ne_ob_ea)
      have V_fa := V_fa.other W55 ne_fa_ea
      have F_ends := F_ends.other W55 (Or.inl ne_ob_ea)
      have V_na := V_na.other W55 ne_na_ea
      have Z56 := Nat.le_trans Z16 (Keep.of_wr W55).1
      have N57 := Fr.snoc X55 N17 g_ea
      have V_ea := V55
      have pre58 : ∀ t, Steps p.tables e below (T55.setTop (mkF m 97 #[.val (.int a1), .val (.int a2), .val (.int a3), .val (.int a4), .val (.int (Int32.ofNat fa1.1)), .val (.int (Int32.ofNat fb1.1)), .val (.int (Int32.ofNat fc1.1)), .val (.int (Int32.ofNat fd1.1)), .val (.ref ob), .val (.ref ea), .val (.int (2 : Int32)), .unset, .unset, .unset, .unset, .unset, .unset, .unset] [(.int (Int32.ofNat fa1.1)), (.int (Int32.ofNat fc1.1))])) t → Steps p.tables e below (s₁.setTop (entryFrame m #[(.int a1), (.int a2), (.int a3), (.int a4)] maxLocals)) t := by
        intro t kt
        refine pre18 t ?_
        show Steps p.tables e below (T15.setTop (mkF m 80 #[.val (.int a1), .val (.int a2), .val (.int a3), .val (.int a4), .val (.int (Int32.ofNat fa1.1)), .val (.int (Int32.ofNat fb1.1)), .val (.int (Int32.ofNat fc1.1)), .val (.int (Int32.ofNat fd1.1)), .val (.ref ob), .val (.ref ea), .val (.int (1 : Int32)), .unset, .unset, .unset, .unset, .unset, .unset, .unset] [(.int (Int32.ofNat fa1.1)), (.int (Int32.ofNat fb1.1))])) _
        refine XS.icmpNo X15.here hx rfl (hb hby at_80) rfl (feq hc80).1 ?_
        show Steps p.tables e below (T15.setTop (mkF m 83 #[.val (.int a1), .val (.int a2), .val (.int a3), .val (.int a4), .val (.int (Int32.ofNat fa1.1)), .val (.int (Int32.ofNat fb1.1)), .val (.int (Int32.ofNat fc1.1)), .val (.int (Int32.ofNat fd1.1)), .val (.ref ob), .val (.ref ea), .val (.int (1 : Int32)), .unset, .unset, .unset, .unset, .unset, .unset, .unset] [])) _
        refine XS.aload X15.here hx rfl (hb hby at_83) rfl rfl ?_
        show Steps p.tables e below (T15.setTop (mkF m 85 #[.val (.int a1), .val (.int a2), .val (.int a3), .val (.int a4), .val (.int (Int32.ofNat fa1.1)), .val (.int (Int32.ofNat fb1.1)), .val (.int (Int32.ofNat fc1.1)), .val (.int (Int32.ofNat fd1.1)), .val (.ref ob), .val (.ref ea), .val (.int (1 : Int32)), .unset, .unset, .unset, .unset, .unset, .unset, .unset] [(.ref ea)])) _
        refine XS.iload X15.here hx rfl (hb hby at_85) rfl ?_
        show Steps p.tables e below (T15.setTop (mkF m 87 #[.val (.int a1), .val (.int a2), .val (.int a3), .val (.int a4), .val (.int (Int32.ofNat fa1.1)), .val (.int (Int32.ofNat fb1.1)), .val (.int (Int32.ofNat fc1.1)), .val (.int (Int32.ofNat fd1.1)), .val (.ref ob), .val (.ref ea), .val (.int (1 : Int32)), .unset, .unset, .unset, .unset, .unset, .unset, .unset] [(.int (1 : Int32)), (.ref ea)])) _
        refine XS.iload X15.here hx rfl (hb hby at_87) rfl ?_
        show Steps p.tables e below (T15.setTop (mkF m 89 #[.val (.int a1), .val (.int a2), .val (.int a3), .val (.int a4), .val (.int (Int32.ofNat fa1.1)), .val (.int (Int32.ofNat fb1.1)), .val (.int (Int32.ofNat fc1.1)), .val (.int (Int32.ofNat fd1.1)), .val (.ref ob), .val (.ref ea), .val (.int (1 : Int32)), .unset, .unset, .unset, .unset, .unset, .unset, .unset] [(.int (Int32.ofNat fb1.1)), (.int (1 : Int32)), (.ref ea)])) _
        refine st55 _ ?_
        show Steps p.tables e below (T55.setTop (mkF m 90 #[.val (.int a1), .val (.int a2), .val (.int a3), .val (.int a4), .val (.int (Int32.ofNat fa1.1)), .val (.int (Int32.ofNat fb1.1)), .val (.int (Int32.ofNat fc1.1)), .val (.int (Int32.ofNat fd1.1)), .val (.ref ob), .val (.ref ea), .val (.int (1 : Int32)), .unset, .unset, .unset, .unset, .unset, .unset, .unset] [])) _
        refine XS.iinc X55.here hx rfl (hb hby at_90) rfl (l' := #[.val (.int a1), .val (.int a2), .val (.int a3), .val (.int a4), .val (.int (Int32.ofNat fa1.1)), .val (.int (Int32.ofNat fb1.1)), .val (.int (Int32.ofNat fc1.1)), .val (.int (Int32.ofNat fd1.1)), .val (.ref ob), .val (.ref ea), .val (.int (2 : Int32)), .unset, .unset, .unset, .unset, .unset, .unset, .unset]) rfl ?_
        show Steps p.tables e below (T55.setTop (mkF m 93 #[.val (.int a1), .val (.int a2), .val (.int a3), .val (.int a4), .val (.int (Int32.ofNat fa1.1)), .val (.int (Int32.ofNat fb1.1)), .val (.int (Int32.ofNat fc1.1)), .val (.int (Int32.ofNat fd1.1)), .val (.ref ob), .val (.ref ea), .val (.int (2 : Int32)), .unset, .unset, .unset, .unset, .unset, .unset, .unset] [])) _
        refine XS.iload X55.here hx rfl (hb hby at_93) rfl ?_
        show Steps p.tables e below (T55.setTop (mkF m 95 #[.val (.int a1), .val (.int a2), .val (.int a3), .val (.int a4), .val (.int (Int32.ofNat fa1.1)), .val (.int (Int32.ofNat fb1.1)), .val (.int (Int32.ofNat fc1.1)), .val (.int (Int32.ofNat fd1.1)), .val (.ref ob), .val (.ref ea), .val (.int (2 : Int32)), .unset, .unset, .unset, .unset, .unset, .unset, .unset] [(.int (Int32.ofNat fc1.1))])) _
        refine XS.iload X55.here hx rfl (hb hby at_95) rfl ?_
        exact kt
      by_cases hc97_2 : (Int32.ofNat fc1.1) = (Int32.ofNat fa1.1)
      case pos =>
        have pre59 : ∀ t, Steps p.tables e below (T55.setTop (mkF m 121 #[.val (.int a1), .val (.int a2), .val (.int a3), .val (.int a4), .val (.int (Int32.ofNat fa1.1)), .val (.int (Int32.ofNat fb1.1)), .val (.int (Int32.ofNat fc1.1)), .val (.int (Int32.ofNat fd1.1)), .val (.ref ob), .val (.ref ea), .val (.int (2 : Int32)), .unset, .unset, .unset, .unset, .unset, .unset, .unset] [(.int (Int32.ofNat fa1.1)), (.int (Int32.ofNat fd1.1))])) t → Steps p.tables e below (s₁.setTop (entryFrame m #[(.int a1), (.int a2), (.int a3), (.int a4)] maxLocals)) t := by
          intro t kt
          refine pre58 t ?_
          show Steps p.tables e below (T55.setTop (mkF m 97 #[.val (.int a1), .val (.int a2), .val (.int a3), .val (.int a4), .val (.int (Int32.ofNat fa1.1)), .val (.int (Int32.ofNat fb1.1)), .val (.int (Int32.ofNat fc1.1)), .val (.int (Int32.ofNat fd1.1)), .val (.ref ob), .val (.ref ea), .val (.int (2 : Int32)), .unset, .unset, .unset, .unset, .unset, .unset, .unset] [(.int (Int32.ofNat fa1.1)), (.int (Int32.ofNat fc1.1))])) _
          refine XS.icmpYes X55.here hx rfl (pc0 := 97) (pc' := 117) rfl (hb hby at_97) rfl (teq hc97_2).1 (by decide) (by decide) ?_
          show Steps p.tables e below (T55.setTop (mkF m 117 #[.val (.int a1), .val (.int a2), .val (.int a3), .val (.int a4), .val (.int (Int32.ofNat fa1.1)), .val (.int (Int32.ofNat fb1.1)), .val (.int (Int32.ofNat fc1.1)), .val (.int (Int32.ofNat fd1.1)), .val (.ref ob), .val (.ref ea), .val (.int (2 : Int32)), .unset, .unset, .unset, .unset, .unset, .unset, .unset] [])) _
          refine XS.iload X55.here hx rfl (hb hby at_117) rfl ?_
          show Steps p.tables e below (T55.setTop (mkF m 119 #[.val (.int a1), .val (.int a2), .val (.int a3), .val (.int a4), .val (.int (Int32.ofNat fa1.1)), .val (.int (Int32.ofNat fb1.1)), .val (.int (Int32.ofNat fc1.1)), .val (.int (Int32.ofNat fd1.1)), .val (.ref ob), .val (.ref ea), .val (.int (2 : Int32)), .unset, .unset, .unset, .unset, .unset, .unset, .unset] [(.int (Int32.ofNat fd1.1))])) _
          refine XS.iload X55.here hx rfl (hb hby at_119) rfl ?_
          exact kt
        by_cases hc121_4 : (Int32.ofNat fd1.1) = (Int32.ofNat fa1.1)
        case pos =>
          have pre60 : ∀ t, Steps p.tables e below (T55.setTop (mkF m 148 #[.val (.int a1), .val (.int a2), .val (.int a3), .val (.int a4), .val (.int (Int32.ofNat fa1.1)), .val (.int (Int32.ofNat fb1.1)), .val (.int (Int32.ofNat fc1.1)), .val (.int (Int32.ofNat fd1.1)), .val (.ref ob), .val (.ref ea), .val (.int (2 : Int32)), .unset, .unset, .unset, .unset, .unset, .unset, .unset] [])) t → Steps p.tables e below (s₁.setTop (entryFrame m #[(.int a1), (.int a2), (.int a3), (.int a4)] maxLocals)) t := by
            intro t kt
            refine pre59 t ?_
            show Steps p.tables e below (T55.setTop (mkF m 121 #[.val (.int a1), .val (.int a2), .val (.int a3), .val (.int a4), .val (.int (Int32.ofNat fa1.1)), .val (.int (Int32.ofNat fb1.1)), .val (.int (Int32.ofNat fc1.1)), .val (.int (Int32.ofNat fd1.1)), .val (.ref ob), .val (.ref ea), .val (.int (2 : Int32)), .unset, .unset, .unset, .unset, .unset, .unset, .unset] [(.int (Int32.ofNat fa1.1)), (.int (Int32.ofNat fd1.1))])) _
            refine XS.icmpYes X55.here hx rfl (pc0 := 121) (pc' := 148) rfl (hb hby at_121) rfl (teq hc121_4).1 (by decide) (by decide) ?_
            exact kt
          exact ⟨T55, _, h55, [fa1.1, fb1.1, 0, 0], 2, X55, e55, N57, Z56, E_ob, F_states, V_sa, F_firsts, V_fa, F_ends, V_na, (V_ea.congr (fun i hi => by rcases i with _ | _ | _ | _ | i <;> first | rfl | omega)), (by have n80 : ¬ fb1.1 = fa1.1 := fun w => hc80 ((own_eqn (Nat.lt_trans fb1.2 (by decide)) (Nat.lt_trans fa1.2 (by decide))).mpr w); have n97 : fc1.1 = fa1.1 := (own_eqn (Nat.lt_trans fc1.2 (by decide)) (Nat.lt_trans fa1.2 (by decide))).mp hc97_2; have n121 : fd1.1 = fa1.1 := (own_eqn (Nat.lt_trans fd1.2 (by decide)) (Nat.lt_trans fa1.2 (by decide))).mp hc121_4; simp only [own_enum, own_push, n80, n97, n121, if_true, if_false, List.set]), pre60⟩
        case neg =>
          have pre61 : ∀ t, Steps p.tables e below (T55.setTop (mkF m 128 #[.val (.int a1), .val (.int a2), .val (.int a3), .val (.int a4), .val (.int (Int32.ofNat fa1.1)), .val (.int (Int32.ofNat fb1.1)), .val (.int (Int32.ofNat fc1.1)), .val (.int (Int32.ofNat fd1.1)), .val (.ref ob), .val (.ref ea), .val (.int (2 : Int32)), .unset, .unset, .unset, .unset, .unset, .unset, .unset] [(.int (Int32.ofNat fb1.1)), (.int (Int32.ofNat fd1.1))])) t → Steps p.tables e below (s₁.setTop (entryFrame m #[(.int a1), (.int a2), (.int a3), (.int a4)] maxLocals)) t := by
            intro t kt
            refine pre59 t ?_
            show Steps p.tables e below (T55.setTop (mkF m 121 #[.val (.int a1), .val (.int a2), .val (.int a3), .val (.int a4), .val (.int (Int32.ofNat fa1.1)), .val (.int (Int32.ofNat fb1.1)), .val (.int (Int32.ofNat fc1.1)), .val (.int (Int32.ofNat fd1.1)), .val (.ref ob), .val (.ref ea), .val (.int (2 : Int32)), .unset, .unset, .unset, .unset, .unset, .unset, .unset] [(.int (Int32.ofNat fa1.1)), (.int (Int32.ofNat fd1.1))])) _
            refine XS.icmpNo X55.here hx rfl (hb hby at_121) rfl (feq hc121_4).1 ?_
            show Steps p.tables e below (T55.setTop (mkF m 124 #[.val (.int a1), .val (.int a2), .val (.int a3), .val (.int a4), .val (.int (Int32.ofNat fa1.1)), .val (.int (Int32.ofNat fb1.1)), .val (.int (Int32.ofNat fc1.1)), .val (.int (Int32.ofNat fd1.1)), .val (.ref ob), .val (.ref ea), .val (.int (2 : Int32)), .unset, .unset, .unset, .unset, .unset, .unset, .unset] [])) _
            refine XS.iload X55.here hx rfl (hb hby at_124) rfl ?_
            show Steps p.tables e below (T55.setTop (mkF m 126 #[.val (.int a1), .val (.int a2), .val (.int a3), .val (.int a4), .val (.int (Int32.ofNat fa1.1)), .val (.int (Int32.ofNat fb1.1)), .val (.int (Int32.ofNat fc1.1)), .val (.int (Int32.ofNat fd1.1)), .val (.ref ob), .val (.ref ea), .val (.int (2 : Int32)), .unset, .unset, .unset, .unset, .unset, .unset, .unset] [(.int (Int32.ofNat fd1.1))])) _
            refine XS.iload X55.here hx rfl (hb hby at_126) rfl ?_
            exact kt
          by_cases hc128_4 : (Int32.ofNat fd1.1) = (Int32.ofNat fb1.1)
          case pos =>
            have pre62 : ∀ t, Steps p.tables e below (T55.setTop (mkF m 148 #[.val (.int a1), .val (.int a2), .val (.int a3), .val (.int a4), .val (.int (Int32.ofNat fa1.1)), .val (.int (Int32.ofNat fb1.1)), .val (.int (Int32.ofNat fc1.1)), .val (.int (Int32.ofNat fd1.1)), .val (.ref ob), .val (.ref ea), .val (.int (2 : Int32)), .unset, .unset, .unset, .unset, .unset, .unset, .unset] [])) t → Steps p.tables e below (s₁.setTop (entryFrame m #[(.int a1), (.int a2), (.int a3), (.int a4)] maxLocals)) t := by
              intro t kt
              refine pre61 t ?_
              show Steps p.tables e below (T55.setTop (mkF m 128 #[.val (.int a1), .val (.int a2), .val (.int a3), .val (.int a4), .val (.int (Int32.ofNat fa1.1)), .val (.int (Int32.ofNat fb1.1)), .val (.int (Int32.ofNat fc1.1)), .val (.int (Int32.ofNat fd1.1)), .val (.ref ob), .val (.ref ea), .val (.int (2 : Int32)), .unset, .unset, .unset, .unset, .unset, .unset, .unset] [(.int (Int32.ofNat fb1.1)), (.int (Int32.ofNat fd1.1))])) _
              refine XS.icmpYes X55.here hx rfl (pc0 := 128) (pc' := 148) rfl (hb hby at_128) rfl (teq hc128_4).1 (by decide) (by decide) ?_
              exact kt
            exact ⟨T55, _, h55, [fa1.1, fb1.1, 0, 0], 2, X55, e55, N57, Z56, E_ob, F_states, V_sa, F_firsts, V_fa, F_ends, V_na, (V_ea.congr (fun i hi => by rcases i with _ | _ | _ | _ | i <;> first | rfl | omega)), (by have n80 : ¬ fb1.1 = fa1.1 := fun w => hc80 ((own_eqn (Nat.lt_trans fb1.2 (by decide)) (Nat.lt_trans fa1.2 (by decide))).mpr w); have n97 : fc1.1 = fa1.1 := (own_eqn (Nat.lt_trans fc1.2 (by decide)) (Nat.lt_trans fa1.2 (by decide))).mp hc97_2; have n121 : ¬ fd1.1 = fa1.1 := fun w => hc121_4 ((own_eqn (Nat.lt_trans fd1.2 (by decide)) (Nat.lt_trans fa1.2 (by decide))).mpr w); have n128 : fd1.1 = fb1.1 := (own_eqn (Nat.lt_trans fd1.2 (by decide)) (Nat.lt_trans fb1.2 (by decide))).mp hc128_4; simp only [own_enum, own_push, n80, n97, n121, n128, if_true, if_false, List.set]), pre62⟩
          case neg =>
            have pre63 : ∀ t, Steps p.tables e below (T55.setTop (mkF m 135 #[.val (.int a1), .val (.int a2), .val (.int a3), .val (.int a4), .val (.int (Int32.ofNat fa1.1)), .val (.int (Int32.ofNat fb1.1)), .val (.int (Int32.ofNat fc1.1)), .val (.int (Int32.ofNat fd1.1)), .val (.ref ob), .val (.ref ea), .val (.int (2 : Int32)), .unset, .unset, .unset, .unset, .unset, .unset, .unset] [(.int (Int32.ofNat fc1.1)), (.int (Int32.ofNat fd1.1))])) t → Steps p.tables e below (s₁.setTop (entryFrame m #[(.int a1), (.int a2), (.int a3), (.int a4)] maxLocals)) t := by
              intro t kt
              refine pre61 t ?_
              show Steps p.tables e below (T55.setTop (mkF m 128 #[.val (.int a1), .val (.int a2), .val (.int a3), .val (.int a4), .val (.int (Int32.ofNat fa1.1)), .val (.int (Int32.ofNat fb1.1)), .val (.int (Int32.ofNat fc1.1)), .val (.int (Int32.ofNat fd1.1)), .val (.ref ob), .val (.ref ea), .val (.int (2 : Int32)), .unset, .unset, .unset, .unset, .unset, .unset, .unset] [(.int (Int32.ofNat fb1.1)), (.int (Int32.ofNat fd1.1))])) _
              refine XS.icmpNo X55.here hx rfl (hb hby at_128) rfl (feq hc128_4).1 ?_
              show Steps p.tables e below (T55.setTop (mkF m 131 #[.val (.int a1), .val (.int a2), .val (.int a3), .val (.int a4), .val (.int (Int32.ofNat fa1.1)), .val (.int (Int32.ofNat fb1.1)), .val (.int (Int32.ofNat fc1.1)), .val (.int (Int32.ofNat fd1.1)), .val (.ref ob), .val (.ref ea), .val (.int (2 : Int32)), .unset, .unset, .unset, .unset, .unset, .unset, .unset] [])) _
              refine XS.iload X55.here hx rfl (hb hby at_131) rfl ?_
              show Steps p.tables e below (T55.setTop (mkF m 133 #[.val (.int a1), .val (.int a2), .val (.int a3), .val (.int a4), .val (.int (Int32.ofNat fa1.1)), .val (.int (Int32.ofNat fb1.1)), .val (.int (Int32.ofNat fc1.1)), .val (.int (Int32.ofNat fd1.1)), .val (.ref ob), .val (.ref ea), .val (.int (2 : Int32)), .unset, .unset, .unset, .unset, .unset, .unset, .unset] [(.int (Int32.ofNat fd1.1))])) _
              refine XS.iload X55.here hx rfl (hb hby at_133) rfl ?_
              exact kt
            by_cases hc135_4 : (Int32.ofNat fd1.1) = (Int32.ofNat fc1.1)
            case pos =>
              have pre64 : ∀ t, Steps p.tables e below (T55.setTop (mkF m 148 #[.val (.int a1), .val (.int a2), .val (.int a3), .val (.int a4), .val (.int (Int32.ofNat fa1.1)), .val (.int (Int32.ofNat fb1.1)), .val (.int (Int32.ofNat fc1.1)), .val (.int (Int32.ofNat fd1.1)), .val (.ref ob), .val (.ref ea), .val (.int (2 : Int32)), .unset, .unset, .unset, .unset, .unset, .unset, .unset] [])) t → Steps p.tables e below (s₁.setTop (entryFrame m #[(.int a1), (.int a2), (.int a3), (.int a4)] maxLocals)) t := by
                intro t kt
                refine pre63 t ?_
                show Steps p.tables e below (T55.setTop (mkF m 135 #[.val (.int a1), .val (.int a2), .val (.int a3), .val (.int a4), .val (.int (Int32.ofNat fa1.1)), .val (.int (Int32.ofNat fb1.1)), .val (.int (Int32.ofNat fc1.1)), .val (.int (Int32.ofNat fd1.1)), .val (.ref ob), .val (.ref ea), .val (.int (2 : Int32)), .unset, .unset, .unset, .unset, .unset, .unset, .unset] [(.int (Int32.ofNat fc1.1)), (.int (Int32.ofNat fd1.1))])) _
                refine XS.icmpYes X55.here hx rfl (pc0 := 135) (pc' := 148) rfl (hb hby at_135) rfl (teq hc135_4).1 (by decide) (by decide) ?_
                exact kt
              exact ⟨T55, _, h55, [fa1.1, fb1.1, 0, 0], 2, X55, e55, N57, Z56, E_ob, F_states, V_sa, F_firsts, V_fa, F_ends, V_na, (V_ea.congr (fun i hi => by rcases i with _ | _ | _ | _ | i <;> first | rfl | omega)), (by have n80 : ¬ fb1.1 = fa1.1 := fun w => hc80 ((own_eqn (Nat.lt_trans fb1.2 (by decide)) (Nat.lt_trans fa1.2 (by decide))).mpr w); have n97 : fc1.1 = fa1.1 := (own_eqn (Nat.lt_trans fc1.2 (by decide)) (Nat.lt_trans fa1.2 (by decide))).mp hc97_2; have n121 : ¬ fd1.1 = fa1.1 := fun w => hc121_4 ((own_eqn (Nat.lt_trans fd1.2 (by decide)) (Nat.lt_trans fa1.2 (by decide))).mpr w); have n128 : ¬ fd1.1 = fb1.1 := fun w => hc128_4 ((own_eqn (Nat.lt_trans fd1.2 (by decide)) (Nat.lt_trans fb1.2 (by decide))).mpr w); have n135 : fd1.1 = fc1.1 := (own_eqn (Nat.lt_trans fd1.2 (by decide)) (Nat.lt_trans fc1.2 (by decide))).mp hc135_4; simp only [own_enum, own_push, n80, n97, n121, n128, n135, if_true, if_false, List.set]), pre64⟩
            case neg =>
              obtain ⟨T65, h65, X65, e65, W65, V65, st65⟩ := own_stI X55 hx hZ e55 V_ea (j := (2 : Int32)) (by decide) (k := 2) rfl (by decide) (g := (mkF m 144 #[.val (.int a1), .val (.int a2), .val (.int a3), .val (.int a4), .val (.int (Int32.ofNat fa1.1)), .val (.int (Int32.ofNat fb1.1)), .val (.int (Int32.ofNat fc1.1)), .val (.int (Int32.ofNat fd1.1)), .val (.ref ob), .val (.ref ea), .val (.int (2 : Int32)), .unset, .unset, .unset, .unset, .unset, .unset, .unset] [(.int (Int32.ofNat fd1.1)), (.int (2 : Int32)), (.ref ea)])) rfl rfl (hb hby at_144)
              have E_ob := E_ob.wr W65
              have F_states := F_states.other W65 (Or.inl ne_ob_ea)
              have V_sa := V_sa.other W65 ne_sa_ea
              have F_firsts := F_firsts.other W65 (Or.inl ne_ob_ea)
              have V_fa := V_fa.other W65 ne_fa_ea
              have F_ends := F_ends.other W65 (Or.inl ne_ob_ea)
              have V_na := V_na.other W65 ne_na_ea
              have Z66 := Nat.le_trans Z56 (Keep.of_wr W65).1
              have N67 := Fr.snoc X65 N57 g_ea
              have V_ea := V65
              have pre68 : ∀ t, Steps p.tables e below (T65.setTop (mkF m 148 #[.val (.int a1), .val (.int a2), .val (.int a3), .val (.int a4), .val (.int (Int32.ofNat fa1.1)), .val (.int (Int32.ofNat fb1.1)), .val (.int (Int32.ofNat fc1.1)), .val (.int (Int32.ofNat fd1.1)), .val (.ref ob), .val (.ref ea), .val (.int (3 : Int32)), .unset, .unset, .unset, .unset, .unset, .unset, .unset] [])) t → Steps p.tables e below (s₁.setTop (entryFrame m #[(.int a1), (.int a2), (.int a3), (.int a4)] maxLocals)) t := by
                intro t kt
                refine pre63 t ?_
                show Steps p.tables e below (T55.setTop (mkF m 135 #[.val (.int a1), .val (.int a2), .val (.int a3), .val (.int a4), .val (.int (Int32.ofNat fa1.1)), .val (.int (Int32.ofNat fb1.1)), .val (.int (Int32.ofNat fc1.1)), .val (.int (Int32.ofNat fd1.1)), .val (.ref ob), .val (.ref ea), .val (.int (2 : Int32)), .unset, .unset, .unset, .unset, .unset, .unset, .unset] [(.int (Int32.ofNat fc1.1)), (.int (Int32.ofNat fd1.1))])) _
                refine XS.icmpNo X55.here hx rfl (hb hby at_135) rfl (feq hc135_4).1 ?_
                show Steps p.tables e below (T55.setTop (mkF m 138 #[.val (.int a1), .val (.int a2), .val (.int a3), .val (.int a4), .val (.int (Int32.ofNat fa1.1)), .val (.int (Int32.ofNat fb1.1)), .val (.int (Int32.ofNat fc1.1)), .val (.int (Int32.ofNat fd1.1)), .val (.ref ob), .val (.ref ea), .val (.int (2 : Int32)), .unset, .unset, .unset, .unset, .unset, .unset, .unset] [])) _
                refine XS.aload X55.here hx rfl (hb hby at_138) rfl rfl ?_
                show Steps p.tables e below (T55.setTop (mkF m 140 #[.val (.int a1), .val (.int a2), .val (.int a3), .val (.int a4), .val (.int (Int32.ofNat fa1.1)), .val (.int (Int32.ofNat fb1.1)), .val (.int (Int32.ofNat fc1.1)), .val (.int (Int32.ofNat fd1.1)), .val (.ref ob), .val (.ref ea), .val (.int (2 : Int32)), .unset, .unset, .unset, .unset, .unset, .unset, .unset] [(.ref ea)])) _
                refine XS.iload X55.here hx rfl (hb hby at_140) rfl ?_
                show Steps p.tables e below (T55.setTop (mkF m 142 #[.val (.int a1), .val (.int a2), .val (.int a3), .val (.int a4), .val (.int (Int32.ofNat fa1.1)), .val (.int (Int32.ofNat fb1.1)), .val (.int (Int32.ofNat fc1.1)), .val (.int (Int32.ofNat fd1.1)), .val (.ref ob), .val (.ref ea), .val (.int (2 : Int32)), .unset, .unset, .unset, .unset, .unset, .unset, .unset] [(.int (2 : Int32)), (.ref ea)])) _
                refine XS.iload X55.here hx rfl (hb hby at_142) rfl ?_
                show Steps p.tables e below (T55.setTop (mkF m 144 #[.val (.int a1), .val (.int a2), .val (.int a3), .val (.int a4), .val (.int (Int32.ofNat fa1.1)), .val (.int (Int32.ofNat fb1.1)), .val (.int (Int32.ofNat fc1.1)), .val (.int (Int32.ofNat fd1.1)), .val (.ref ob), .val (.ref ea), .val (.int (2 : Int32)), .unset, .unset, .unset, .unset, .unset, .unset, .unset] [(.int (Int32.ofNat fd1.1)), (.int (2 : Int32)), (.ref ea)])) _
                refine st65 _ ?_
                show Steps p.tables e below (T65.setTop (mkF m 145 #[.val (.int a1), .val (.int a2), .val (.int a3), .val (.int a4), .val (.int (Int32.ofNat fa1.1)), .val (.int (Int32.ofNat fb1.1)), .val (.int (Int32.ofNat fc1.1)), .val (.int (Int32.ofNat fd1.1)), .val (.ref ob), .val (.ref ea), .val (.int (2 : Int32)), .unset, .unset, .unset, .unset, .unset, .unset, .unset] [])) _
                refine XS.iinc X65.here hx rfl (hb hby at_145) rfl (l' := #[.val (.int a1), .val (.int a2), .val (.int a3), .val (.int a4), .val (.int (Int32.ofNat fa1.1)), .val (.int (Int32.ofNat fb1.1)), .val (.int (Int32.ofNat fc1.1)), .val (.int (Int32.ofNat fd1.1)), .val (.ref ob), .val (.ref ea), .val (.int (3 : Int32)), .unset, .unset, .unset, .unset, .unset, .unset, .unset]) rfl ?_
                exact kt
              exact ⟨T65, _, h65, [fa1.1, fb1.1, fd1.1, 0], 3, X65, e65, N67, Z66, E_ob, F_states, V_sa, F_firsts, V_fa, F_ends, V_na, (V_ea.congr (fun i hi => by rcases i with _ | _ | _ | _ | i <;> first | rfl | omega)), (by have n80 : ¬ fb1.1 = fa1.1 := fun w => hc80 ((own_eqn (Nat.lt_trans fb1.2 (by decide)) (Nat.lt_trans fa1.2 (by decide))).mpr w); have n97 : fc1.1 = fa1.1 := (own_eqn (Nat.lt_trans fc1.2 (by decide)) (Nat.lt_trans fa1.2 (by decide))).mp hc97_2; have n121 : ¬ fd1.1 = fa1.1 := fun w => hc121_4 ((own_eqn (Nat.lt_trans fd1.2 (by decide)) (Nat.lt_trans fa1.2 (by decide))).mpr w); have n128 : ¬ fd1.1 = fb1.1 := fun w => hc128_4 ((own_eqn (Nat.lt_trans fd1.2 (by decide)) (Nat.lt_trans fb1.2 (by decide))).mpr w); have n135 : ¬ fd1.1 = fc1.1 := fun w => hc135_4 ((own_eqn (Nat.lt_trans fd1.2 (by decide)) (Nat.lt_trans fc1.2 (by decide))).mpr w); simp only [own_enum, own_push, n80, n97, n121, n128, n135, if_true, if_false, List.set]), pre68⟩
      case neg =>
        have pre69 : ∀ t, Steps p.tables e below (T55.setTop (mkF m 104 #[.val (.int a1), .val (.int a2), .val (.int a3), .val (.int a4), .val (.int (Int32.ofNat fa1.1)), .val (.int (Int32.ofNat fb1.1)), .val (.int (Int32.ofNat fc1.1)), .val (.int (Int32.ofNat fd1.1)), .val (.ref ob), .val (.ref ea), .val (.int (2 : Int32)), .unset, .unset, .unset, .unset, .unset, .unset, .unset] [(.int (Int32.ofNat fb1.1)), (.int (Int32.ofNat fc1.1))])) t → Steps p.tables e below (s₁.setTop (entryFrame m #[(.int a1), (.int a2), (.int a3), (.int a4)] maxLocals)) t := by
          intro t kt
          refine pre58 t ?_
          show Steps p.tables e below (T55.setTop (mkF m 97 #[.val (.int a1), .val (.int a2), .val (.int a3), .val (.int a4), .val (.int (Int32.ofNat fa1.1)), .val (.int (Int32.ofNat fb1.1)), .val (.int (Int32.ofNat fc1.1)), .val (.int (Int32.ofNat fd1.1)), .val (.ref ob), .val (.ref ea), .val (.int (2 : Int32)), .unset, .unset, .unset, .unset, .unset, .unset, .unset] [(.int (Int32.ofNat fa1.1)), (.int (Int32.ofNat fc1.1))])) _
          refine XS.icmpNo X55.here hx rfl (hb hby at_97) rfl (feq hc97_2).1 ?_
          show Steps p.tables e below (T55.setTop (mkF m 100 #[.val (.int a1), .val (.int a2), .val (.int a3), .val (.int a4), .val (.int (Int32.ofNat fa1.1)), .val (.int (Int32.ofNat fb1.1)), .val (.int (Int32.ofNat fc1.1)), .val (.int (Int32.ofNat fd1.1)), .val (.ref ob), .val (.ref ea), .val (.int (2 : Int32)), .unset, .unset, .unset, .unset, .unset, .unset, .unset] [])) _
          refine XS.iload X55.here hx rfl (hb hby at_100) rfl ?_
          show Steps p.tables e below (T55.setTop (mkF m 102 #[.val (.int a1), .val (.int a2), .val (.int a3), .val (.int a4), .val (.int (Int32.ofNat fa1.1)), .val (.int (Int32.ofNat fb1.1)), .val (.int (Int32.ofNat fc1.1)), .val (.int (Int32.ofNat fd1.1)), .val (.ref ob), .val (.ref ea), .val (.int (2 : Int32)), .unset, .unset, .unset, .unset, .unset, .unset, .unset] [(.int (Int32.ofNat fc1.1))])) _
          refine XS.iload X55.here hx rfl (hb hby at_102) rfl ?_
          exact kt
        by_cases hc104_2 : (Int32.ofNat fc1.1) = (Int32.ofNat fb1.1)
        case pos =>
          have pre70 : ∀ t, Steps p.tables e below (T55.setTop (mkF m 121 #[.val (.int a1), .val (.int a2), .val (.int a3), .val (.int a4), .val (.int (Int32.ofNat fa1.1)), .val (.int (Int32.ofNat fb1.1)), .val (.int (Int32.ofNat fc1.1)), .val (.int (Int32.ofNat fd1.1)), .val (.ref ob), .val (.ref ea), .val (.int (2 : Int32)), .unset, .unset, .unset, .unset, .unset, .unset, .unset] [(.int (Int32.ofNat fa1.1)), (.int (Int32.ofNat fd1.1))])) t → Steps p.tables e below (s₁.setTop (entryFrame m #[(.int a1), (.int a2), (.int a3), (.int a4)] maxLocals)) t := by
            intro t kt
            refine pre69 t ?_
            show Steps p.tables e below (T55.setTop (mkF m 104 #[.val (.int a1), .val (.int a2), .val (.int a3), .val (.int a4), .val (.int (Int32.ofNat fa1.1)), .val (.int (Int32.ofNat fb1.1)), .val (.int (Int32.ofNat fc1.1)), .val (.int (Int32.ofNat fd1.1)), .val (.ref ob), .val (.ref ea), .val (.int (2 : Int32)), .unset, .unset, .unset, .unset, .unset, .unset, .unset] [(.int (Int32.ofNat fb1.1)), (.int (Int32.ofNat fc1.1))])) _
            refine XS.icmpYes X55.here hx rfl (pc0 := 104) (pc' := 117) rfl (hb hby at_104) rfl (teq hc104_2).1 (by decide) (by decide) ?_
            show Steps p.tables e below (T55.setTop (mkF m 117 #[.val (.int a1), .val (.int a2), .val (.int a3), .val (.int a4), .val (.int (Int32.ofNat fa1.1)), .val (.int (Int32.ofNat fb1.1)), .val (.int (Int32.ofNat fc1.1)), .val (.int (Int32.ofNat fd1.1)), .val (.ref ob), .val (.ref ea), .val (.int (2 : Int32)), .unset, .unset, .unset, .unset, .unset, .unset, .unset] [])) _
            refine XS.iload X55.here hx rfl (hb hby at_117) rfl ?_
            show Steps p.tables e below (T55.setTop (mkF m 119 #[.val (.int a1), .val (.int a2), .val (.int a3), .val (.int a4), .val (.int (Int32.ofNat fa1.1)), .val (.int (Int32.ofNat fb1.1)), .val (.int (Int32.ofNat fc1.1)), .val (.int (Int32.ofNat fd1.1)), .val (.ref ob), .val (.ref ea), .val (.int (2 : Int32)), .unset, .unset, .unset, .unset, .unset, .unset, .unset] [(.int (Int32.ofNat fd1.1))])) _
            refine XS.iload X55.here hx rfl (hb hby at_119) rfl ?_
            exact kt
          by_cases hc121_5 : (Int32.ofNat fd1.1) = (Int32.ofNat fa1.1)
          case pos =>
            have pre71 : ∀ t, Steps p.tables e below (T55.setTop (mkF m 148 #[.val (.int a1), .val (.int a2), .val (.int a3), .val (.int a4), .val (.int (Int32.ofNat fa1.1)), .val (.int (Int32.ofNat fb1.1)), .val (.int (Int32.ofNat fc1.1)), .val (.int (Int32.ofNat fd1.1)), .val (.ref ob), .val (.ref ea), .val (.int (2 : Int32)), .unset, .unset, .unset, .unset, .unset, .unset, .unset] [])) t → Steps p.tables e below (s₁.setTop (entryFrame m #[(.int a1), (.int a2), (.int a3), (.int a4)] maxLocals)) t := by
              intro t kt
              refine pre70 t ?_
              show Steps p.tables e below (T55.setTop (mkF m 121 #[.val (.int a1), .val (.int a2), .val (.int a3), .val (.int a4), .val (.int (Int32.ofNat fa1.1)), .val (.int (Int32.ofNat fb1.1)), .val (.int (Int32.ofNat fc1.1)), .val (.int (Int32.ofNat fd1.1)), .val (.ref ob), .val (.ref ea), .val (.int (2 : Int32)), .unset, .unset, .unset, .unset, .unset, .unset, .unset] [(.int (Int32.ofNat fa1.1)), (.int (Int32.ofNat fd1.1))])) _
              refine XS.icmpYes X55.here hx rfl (pc0 := 121) (pc' := 148) rfl (hb hby at_121) rfl (teq hc121_5).1 (by decide) (by decide) ?_
              exact kt
            exact ⟨T55, _, h55, [fa1.1, fb1.1, 0, 0], 2, X55, e55, N57, Z56, E_ob, F_states, V_sa, F_firsts, V_fa, F_ends, V_na, (V_ea.congr (fun i hi => by rcases i with _ | _ | _ | _ | i <;> first | rfl | omega)), (by have n80 : ¬ fb1.1 = fa1.1 := fun w => hc80 ((own_eqn (Nat.lt_trans fb1.2 (by decide)) (Nat.lt_trans fa1.2 (by decide))).mpr w); have n97 : ¬ fc1.1 = fa1.1 := fun w => hc97_2 ((own_eqn (Nat.lt_trans fc1.2 (by decide)) (Nat.lt_trans fa1.2 (by decide))).mpr w); have n104 : fc1.1 = fb1.1 := (own_eqn (Nat.lt_trans fc1.2 (by decide)) (Nat.lt_trans fb1.2 (by decide))).mp hc104_2; have n121 : fd1.1 = fa1.1 := (own_eqn (Nat.lt_trans fd1.2 (by decide)) (Nat.lt_trans fa1.2 (by decide))).mp hc121_5; simp only [own_enum, own_push, n80, n97, n104, n121, if_true, if_false, List.set]), pre71⟩
          case neg =>
            have pre72 : ∀ t, Steps p.tables e below (T55.setTop (mkF m 128 #[.val (.int a1), .val (.int a2), .val (.int a3), .val (.int a4), .val (.int (Int32.ofNat fa1.1)), .val (.int (Int32.ofNat fb1.1)), .val (.int (Int32.ofNat fc1.1)), .val (.int (Int32.ofNat fd1.1)), .val (.ref ob), .val (.ref ea), .val (.int (2 : Int32)), .unset, .unset, .unset, .unset, .unset, .unset, .unset] [(.int (Int32.ofNat fb1.1)), (.int (Int32.ofNat fd1.1))])) t → Steps p.tables e below (s₁.setTop (entryFrame m #[(.int a1), (.int a2), (.int a3), (.int a4)] maxLocals)) t := by
              intro t kt
              refine pre70 t ?_
              show Steps p.tables e below (T55.setTop (mkF m 121 #[.val (.int a1), .val (.int a2), .val (.int a3), .val (.int a4), .val (.int (Int32.ofNat fa1.1)), .val (.int (Int32.ofNat fb1.1)), .val (.int (Int32.ofNat fc1.1)), .val (.int (Int32.ofNat fd1.1)), .val (.ref ob), .val (.ref ea), .val (.int (2 : Int32)), .unset, .unset, .unset, .unset, .unset, .unset, .unset] [(.int (Int32.ofNat fa1.1)), (.int (Int32.ofNat fd1.1))])) _
              refine XS.icmpNo X55.here hx rfl (hb hby at_121) rfl (feq hc121_5).1 ?_
              show Steps p.tables e below (T55.setTop (mkF m 124 #[.val (.int a1), .val (.int a2), .val (.int a3), .val (.int a4), .val (.int (Int32.ofNat fa1.1)), .val (.int (Int32.ofNat fb1.1)), .val (.int (Int32.ofNat fc1.1)), .val (.int (Int32.ofNat fd1.1)), .val (.ref ob), .val (.ref ea), .val (.int (2 : Int32)), .unset, .unset, .unset, .unset, .unset, .unset, .unset] [])) _
              refine XS.iload X55.here hx rfl (hb hby at_124) rfl ?_
              show Steps p.tables e below (T55.setTop (mkF m 126 #[.val (.int a1), .val (.int a2), .val (.int a3), .val (.int a4), .val (.int (Int32.ofNat fa1.1)), .val (.int (Int32.ofNat fb1.1)), .val (.int (Int32.ofNat fc1.1)), .val (.int (Int32.ofNat fd1.1)), .val (.ref ob), .val (.ref ea), .val (.int (2 : Int32)), .unset, .unset, .unset, .unset, .unset, .unset, .unset] [(.int (Int32.ofNat fd1.1))])) _
              refine XS.iload X55.here hx rfl (hb hby at_126) rfl ?_
              exact kt
            by_cases hc128_5 : (Int32.ofNat fd1.1) = (Int32.ofNat fb1.1)
            case pos =>
              have pre73 : ∀ t, Steps p.tables e below (T55.setTop (mkF m 148 #[.val (.int a1), .val (.int a2), .val (.int a3), .val (.int a4), .val (.int (Int32.ofNat fa1.1)), .val (.int (Int32.ofNat fb1.1)), .val (.int (Int32.ofNat fc1.1)), .val (.int (Int32.ofNat fd1.1)), .val (.ref ob), .val (.ref ea), .val (.int (2 : Int32)), .unset, .unset, .unset, .unset, .unset, .unset, .unset] [])) t → Steps p.tables e below (s₁.setTop (entryFrame m #[(.int a1), (.int a2), (.int a3), (.int a4)] maxLocals)) t := by
                intro t kt
                refine pre72 t ?_
                show Steps p.tables e below (T55.setTop (mkF m 128 #[.val (.int a1), .val (.int a2), .val (.int a3), .val (.int a4), .val (.int (Int32.ofNat fa1.1)), .val (.int (Int32.ofNat fb1.1)), .val (.int (Int32.ofNat fc1.1)), .val (.int (Int32.ofNat fd1.1)), .val (.ref ob), .val (.ref ea), .val (.int (2 : Int32)), .unset, .unset, .unset, .unset, .unset, .unset, .unset] [(.int (Int32.ofNat fb1.1)), (.int (Int32.ofNat fd1.1))])) _
                refine XS.icmpYes X55.here hx rfl (pc0 := 128) (pc' := 148) rfl (hb hby at_128) rfl (teq hc128_5).1 (by decide) (by decide) ?_
                exact kt
              exact ⟨T55, _, h55, [fa1.1, fb1.1, 0, 0], 2, X55, e55, N57, Z56, E_ob, F_states, V_sa, F_firsts, V_fa, F_ends, V_na, (V_ea.congr (fun i hi => by rcases i with _ | _ | _ | _ | i <;> first | rfl | omega)), (by have n80 : ¬ fb1.1 = fa1.1 := fun w => hc80 ((own_eqn (Nat.lt_trans fb1.2 (by decide)) (Nat.lt_trans fa1.2 (by decide))).mpr w); have n97 : ¬ fc1.1 = fa1.1 := fun w => hc97_2 ((own_eqn (Nat.lt_trans fc1.2 (by decide)) (Nat.lt_trans fa1.2 (by decide))).mpr w); have n104 : fc1.1 = fb1.1 := (own_eqn (Nat.lt_trans fc1.2 (by decide)) (Nat.lt_trans fb1.2 (by decide))).mp hc104_2; have n121 : ¬ fd1.1 = fa1.1 := fun w => hc121_5 ((own_eqn (Nat.lt_trans fd1.2 (by decide)) (Nat.lt_trans fa1.2 (by decide))).mpr w); have n128 : fd1.1 = fb1.1 := (own_eqn (Nat.lt_trans fd1.2 (by decide)) (Nat.lt_trans fb1.2 (by decide))).mp hc128_5; simp only [own_enum, own_push, n80, n97, n104, n121, n128, if_true, if_false, List.set]), pre73⟩
            case neg =>
              have pre74 : ∀ t, Steps p.tables e below (T55.setTop (mkF m 135 #[.val (.int a1), .val (.int a2), .val (.int a3), .val (.int a4), .val (.int (Int32.ofNat fa1.1)), .val (.int (Int32.ofNat fb1.1)), .val (.int (Int32.ofNat fc1.1)), .val (.int (Int32.ofNat fd1.1)), .val (.ref ob), .val (.ref ea), .val (.int (2 : Int32)), .unset, .unset, .unset, .unset, .unset, .unset, .unset] [(.int (Int32.ofNat fc1.1)), (.int (Int32.ofNat fd1.1))])) t → Steps p.tables e below (s₁.setTop (entryFrame m #[(.int a1), (.int a2), (.int a3), (.int a4)] maxLocals)) t := by
                intro t kt
                refine pre72 t ?_
                show Steps p.tables e below (T55.setTop (mkF m 128 #[.val (.int a1), .val (.int a2), .val (.int a3), .val (.int a4), .val (.int (Int32.ofNat fa1.1)), .val (.int (Int32.ofNat fb1.1)), .val (.int (Int32.ofNat fc1.1)), .val (.int (Int32.ofNat fd1.1)), .val (.ref ob), .val (.ref ea), .val (.int (2 : Int32)), .unset, .unset, .unset, .unset, .unset, .unset, .unset] [(.int (Int32.ofNat fb1.1)), (.int (Int32.ofNat fd1.1))])) _
                refine XS.icmpNo X55.here hx rfl (hb hby at_128) rfl (feq hc128_5).1 ?_
                show Steps p.tables e below (T55.setTop (mkF m 131 #[.val (.int a1), .val (.int a2), .val (.int a3), .val (.int a4), .val (.int (Int32.ofNat fa1.1)), .val (.int (Int32.ofNat fb1.1)), .val (.int (Int32.ofNat fc1.1)), .val (.int (Int32.ofNat fd1.1)), .val (.ref ob), .val (.ref ea), .val (.int (2 : Int32)), .unset, .unset, .unset, .unset, .unset, .unset, .unset] [])) _
                refine XS.iload X55.here hx rfl (hb hby at_131) rfl ?_
                show Steps p.tables e below (T55.setTop (mkF m 133 #[.val (.int a1), .val (.int a2), .val (.int a3), .val (.int a4), .val (.int (Int32.ofNat fa1.1)), .val (.int (Int32.ofNat fb1.1)), .val (.int (Int32.ofNat fc1.1)), .val (.int (Int32.ofNat fd1.1)), .val (.ref ob), .val (.ref ea), .val (.int (2 : Int32)), .unset, .unset, .unset, .unset, .unset, .unset, .unset] [(.int (Int32.ofNat fd1.1))])) _
                refine XS.iload X55.here hx rfl (hb hby at_133) rfl ?_
                exact kt
              by_cases hc135_5 : (Int32.ofNat fd1.1) = (Int32.ofNat fc1.1)
              case pos =>
                have pre75 : ∀ t, Steps p.tables e below (T55.setTop (mkF m 148 #[.val (.int a1), .val (.int a2), .val (.int a3), .val (.int a4), .val (.int (Int32.ofNat fa1.1)), .val (.int (Int32.ofNat fb1.1)), .val (.int (Int32.ofNat fc1.1)), .val (.int (Int32.ofNat fd1.1)), .val (.ref ob), .val (.ref ea), .val (.int (2 : Int32)), .unset, .unset, .unset, .unset, .unset, .unset, .unset] [])) t → Steps p.tables e below (s₁.setTop (entryFrame m #[(.int a1), (.int a2), (.int a3), (.int a4)] maxLocals)) t := by
                  intro t kt
                  refine pre74 t ?_
                  show Steps p.tables e below (T55.setTop (mkF m 135 #[.val (.int a1), .val (.int a2), .val (.int a3), .val (.int a4), .val (.int (Int32.ofNat fa1.1)), .val (.int (Int32.ofNat fb1.1)), .val (.int (Int32.ofNat fc1.1)), .val (.int (Int32.ofNat fd1.1)), .val (.ref ob), .val (.ref ea), .val (.int (2 : Int32)), .unset, .unset, .unset, .unset, .unset, .unset, .unset] [(.int (Int32.ofNat fc1.1)), (.int (Int32.ofNat fd1.1))])) _
                  refine XS.icmpYes X55.here hx rfl (pc0 := 135) (pc' := 148) rfl (hb hby at_135) rfl (teq hc135_5).1 (by decide) (by decide) ?_
                  exact kt
                exact ⟨T55, _, h55, [fa1.1, fb1.1, 0, 0], 2, X55, e55, N57, Z56, E_ob, F_states, V_sa, F_firsts, V_fa, F_ends, V_na, (V_ea.congr (fun i hi => by rcases i with _ | _ | _ | _ | i <;> first | rfl | omega)), (by have n80 : ¬ fb1.1 = fa1.1 := fun w => hc80 ((own_eqn (Nat.lt_trans fb1.2 (by decide)) (Nat.lt_trans fa1.2 (by decide))).mpr w); have n97 : ¬ fc1.1 = fa1.1 := fun w => hc97_2 ((own_eqn (Nat.lt_trans fc1.2 (by decide)) (Nat.lt_trans fa1.2 (by decide))).mpr w); have n104 : fc1.1 = fb1.1 := (own_eqn (Nat.lt_trans fc1.2 (by decide)) (Nat.lt_trans fb1.2 (by decide))).mp hc104_2; have n121 : ¬ fd1.1 = fa1.1 := fun w => hc121_5 ((own_eqn (Nat.lt_trans fd1.2 (by decide)) (Nat.lt_trans fa1.2 (by decide))).mpr w); have n128 : ¬ fd1.1 = fb1.1 := fun w => hc128_5 ((own_eqn (Nat.lt_trans fd1.2 (by decide)) (Nat.lt_trans fb1.2 (by decide))).mpr w); have n135 : fd1.1 = fc1.1 := (own_eqn (Nat.lt_trans fd1.2 (by decide)) (Nat.lt_trans fc1.2 (by decide))).mp hc135_5; simp only [own_enum, own_push, n80, n97, n104, n121, n128, n135, if_true, if_false, List.set]), pre75⟩
              case neg =>
                obtain ⟨T76, h76, X76, e76, W76, V76, st76⟩ := own_stI X55 hx hZ e55 V_ea (j := (2 : Int32)) (by decide) (k := 2) rfl (by decide) (g := (mkF m 144 #[.val (.int a1), .val (.int a2), .val (.int a3), .val (.int a4), .val (.int (Int32.ofNat fa1.1)), .val (.int (Int32.ofNat fb1.1)), .val (.int (Int32.ofNat fc1.1)), .val (.int (Int32.ofNat fd1.1)), .val (.ref ob), .val (.ref ea), .val (.int (2 : Int32)), .unset, .unset, .unset, .unset, .unset, .unset, .unset] [(.int (Int32.ofNat fd1.1)), (.int (2 : Int32)), (.ref ea)])) rfl rfl (hb hby at_144)
                have E_ob := E_ob.wr W76
                have F_states := F_states.other W76 (Or.inl ne_ob_ea)
                have V_sa := V_sa.other W76 ne_sa_ea
                have F_firsts := F_firsts.other W76 (Or.inl ne_ob_ea)
                have V_fa := V_fa.other W76 ne_fa_ea
                have F_ends := F_ends.other W76 (Or.inl ne_ob_ea)
                have V_na := V_na.other W76 ne_na_ea
                have Z77 := Nat.le_trans Z56 (Keep.of_wr W76).1
                have N78 := Fr.snoc X76 N57 g_ea
                have V_ea := V76
                have pre79 : ∀ t, Steps p.tables e below (T76.setTop (mkF m 148 #[.val (.int a1), .val (.int a2), .val (.int a3), .val (.int a4), .val (.int (Int32.ofNat fa1.1)), .val (.int (Int32.ofNat fb1.1)), .val (.int (Int32.ofNat fc1.1)), .val (.int (Int32.ofNat fd1.1)), .val (.ref ob), .val (.ref ea), .val (.int (3 : Int32)), .unset, .unset, .unset, .unset, .unset, .unset, .unset] [])) t → Steps p.tables e below (s₁.setTop (entryFrame m #[(.int a1), (.int a2), (.int a3), (.int a4)] maxLocals)) t := by
                  intro t kt
                  refine pre74 t ?_
                  show Steps p.tables e below (T55.setTop (mkF m 135 #[.val (.int a1), .val (.int a2), .val (.int a3), .val (.int a4), .val (.int (Int32.ofNat fa1.1)), .val (.int (Int32.ofNat fb1.1)), .val (.int (Int32.ofNat fc1.1)), .val (.int (Int32.ofNat fd1.1)), .val (.ref ob), .val (.ref ea), .val (.int (2 : Int32)), .unset, .unset, .unset, .unset, .unset, .unset, .unset] [(.int (Int32.ofNat fc1.1)), (.int (Int32.ofNat fd1.1))])) _
                  refine XS.icmpNo X55.here hx rfl (hb hby at_135) rfl (feq hc135_5).1 ?_
                  show Steps p.tables e below (T55.setTop (mkF m 138 #[.val (.int a1), .val (.int a2), .val (.int a3), .val (.int a4), .val (.int (Int32.ofNat fa1.1)), .val (.int (Int32.ofNat fb1.1)), .val (.int (Int32.ofNat fc1.1)), .val (.int (Int32.ofNat fd1.1)), .val (.ref ob), .val (.ref ea), .val (.int (2 : Int32)), .unset, .unset, .unset, .unset, .unset, .unset, .unset] [])) _
                  refine XS.aload X55.here hx rfl (hb hby at_138) rfl rfl ?_
                  show Steps p.tables e below (T55.setTop (mkF m 140 #[.val (.int a1), .val (.int a2), .val (.int a3), .val (.int a4), .val (.int (Int32.ofNat fa1.1)), .val (.int (Int32.ofNat fb1.1)), .val (.int (Int32.ofNat fc1.1)), .val (.int (Int32.ofNat fd1.1)), .val (.ref ob), .val (.ref ea), .val (.int (2 : Int32)), .unset, .unset, .unset, .unset, .unset, .unset, .unset] [(.ref ea)])) _
                  refine XS.iload X55.here hx rfl (hb hby at_140) rfl ?_
                  show Steps p.tables e below (T55.setTop (mkF m 142 #[.val (.int a1), .val (.int a2), .val (.int a3), .val (.int a4), .val (.int (Int32.ofNat fa1.1)), .val (.int (Int32.ofNat fb1.1)), .val (.int (Int32.ofNat fc1.1)), .val (.int (Int32.ofNat fd1.1)), .val (.ref ob), .val (.ref ea), .val (.int (2 : Int32)), .unset, .unset, .unset, .unset, .unset, .unset, .unset] [(.int (2 : Int32)), (.ref ea)])) _
                  refine XS.iload X55.here hx rfl (hb hby at_142) rfl ?_
                  show Steps p.tables e below (T55.setTop (mkF m 144 #[.val (.int a1), .val (.int a2), .val (.int a3), .val (.int a4), .val (.int (Int32.ofNat fa1.1)), .val (.int (Int32.ofNat fb1.1)), .val (.int (Int32.ofNat fc1.1)), .val (.int (Int32.ofNat fd1.1)), .val (.ref ob), .val (.ref ea), .val (.int (2 : Int32)), .unset, .unset, .unset, .unset, .unset, .unset, .unset] [(.int (Int32.ofNat fd1.1)), (.int (2 : Int32)), (.ref ea)])) _
                  refine st76 _ ?_
                  show Steps p.tables e below (T76.setTop (mkF m 145 #[.val (.int a1), .val (.int a2), .val (.int a3), .val (.int a4), .val (.int (Int32.ofNat fa1.1)), .val (.int (Int32.ofNat fb1.1)), .val (.int (Int32.ofNat fc1.1)), .val (.int (Int32.ofNat fd1.1)), .val (.ref ob), .val (.ref ea), .val (.int (2 : Int32)), .unset, .unset, .unset, .unset, .unset, .unset, .unset] [])) _
                  refine XS.iinc X76.here hx rfl (hb hby at_145) rfl (l' := #[.val (.int a1), .val (.int a2), .val (.int a3), .val (.int a4), .val (.int (Int32.ofNat fa1.1)), .val (.int (Int32.ofNat fb1.1)), .val (.int (Int32.ofNat fc1.1)), .val (.int (Int32.ofNat fd1.1)), .val (.ref ob), .val (.ref ea), .val (.int (3 : Int32)), .unset, .unset, .unset, .unset, .unset, .unset, .unset]) rfl ?_
                  exact kt
                exact ⟨T76, _, h76, [fa1.1, fb1.1, fd1.1, 0], 3, X76, e76, N78, Z77, E_ob, F_states, V_sa, F_firsts, V_fa, F_ends, V_na, (V_ea.congr (fun i hi => by rcases i with _ | _ | _ | _ | i <;> first | rfl | omega)), (by have n80 : ¬ fb1.1 = fa1.1 := fun w => hc80 ((own_eqn (Nat.lt_trans fb1.2 (by decide)) (Nat.lt_trans fa1.2 (by decide))).mpr w); have n97 : ¬ fc1.1 = fa1.1 := fun w => hc97_2 ((own_eqn (Nat.lt_trans fc1.2 (by decide)) (Nat.lt_trans fa1.2 (by decide))).mpr w); have n104 : fc1.1 = fb1.1 := (own_eqn (Nat.lt_trans fc1.2 (by decide)) (Nat.lt_trans fb1.2 (by decide))).mp hc104_2; have n121 : ¬ fd1.1 = fa1.1 := fun w => hc121_5 ((own_eqn (Nat.lt_trans fd1.2 (by decide)) (Nat.lt_trans fa1.2 (by decide))).mpr w); have n128 : ¬ fd1.1 = fb1.1 := fun w => hc128_5 ((own_eqn (Nat.lt_trans fd1.2 (by decide)) (Nat.lt_trans fb1.2 (by decide))).mpr w); have n135 : ¬ fd1.1 = fc1.1 := fun w => hc135_5 ((own_eqn (Nat.lt_trans fd1.2 (by decide)) (Nat.lt_trans fc1.2 (by decide))).mpr w); simp only [own_enum, own_push, n80, n97, n104, n121, n128, n135, if_true, if_false, List.set]), pre79⟩
        case neg =>
          obtain ⟨T80, h80, X80, e80, W80, V80, st80⟩ := own_stI X55 hx hZ e55 V_ea (j := (2 : Int32)) (by decide) (k := 2) rfl (by decide) (g := (mkF m 113 #[.val (.int a1), .val (.int a2), .val (.int a3), .val (.int a4), .val (.int (Int32.ofNat fa1.1)), .val (.int (Int32.ofNat fb1.1)), .val (.int (Int32.ofNat fc1.1)), .val (.int (Int32.ofNat fd1.1)), .val (.ref ob), .val (.ref ea), .val (.int (2 : Int32)), .unset, .unset, .unset, .unset, .unset, .unset, .unset] [(.int (Int32.ofNat fc1.1)), (.int (2 : Int32)), (.ref ea)])) rfl rfl (hb hby at_113)
          have E_ob := E_ob.wr W80
          have F_states := F_states.other W80 (Or.inl ne_ob_ea)
          have V_sa := V_sa.other W80 ne_sa_ea
          have F_firsts := F_firsts.other W80 (Or.inl ne_ob_ea)
          have V_fa := V_fa.other W80 ne_fa_ea
          have F_ends := F_ends.other W80 (Or.inl ne_ob_ea)
          have V_na := V_na.other W80 ne_na_ea
          have Z81 := Nat.le_trans Z56 (Keep.of_wr W80).1
          have N82 := Fr.snoc X80 N57 g_ea
          have V_ea := V80
          have pre83 : ∀ t, Steps p.tables e below (T80.setTop (mkF m 121 #[.val (.int a1), .val (.int a2), .val (.int a3), .val (.int a4), .val (.int (Int32.ofNat fa1.1)), .val (.int (Int32.ofNat fb1.1)), .val (.int (Int32.ofNat fc1.1)), .val (.int (Int32.ofNat fd1.1)), .val (.ref ob), .val (.ref ea), .val (.int (3 : Int32)), .unset, .unset, .unset, .unset, .unset, .unset, .unset] [(.int (Int32.ofNat fa1.1)), (.int (Int32.ofNat fd1.1))])) t → Steps p.tables e below (s₁.setTop (entryFrame m #[(.int a1), (.int a2), (.int a3), (.int a4)] maxLocals)) t := by
            intro t kt
            refine pre69 t ?_
            show Steps p.tables e below (T55.setTop (mkF m 104 #[.val (.int a1), .val (.int a2), .val (.int a3), .val (.int a4), .val (.int (Int32.ofNat fa1.1)), .val (.int (Int32.ofNat fb1.1)), .val (.int (Int32.ofNat fc1.1)), .val (.int (Int32.ofNat fd1.1)), .val (.ref ob), .val (.ref ea), .val (.int (2 : Int32)), .unset, .unset, .unset, .unset, .unset, .unset, .unset] [(.int (Int32.ofNat fb1.1)), (.int (Int32.ofNat fc1.1))])) _
            refine XS.icmpNo X55.here hx rfl (hb hby at_104) rfl (feq hc104_2).1 ?_
            show Steps p.tables e below (T55.setTop (mkF m 107 #[.val (.int a1), .val (.int a2), .val (.int a3), .val (.int a4), .val (.int (Int32.ofNat fa1.1)), .val (.int (Int32.ofNat fb1.1)), .val (.int (Int32.ofNat fc1.1)), .val (.int (Int32.ofNat fd1.1)), .val (.ref ob), .val (.ref ea), .val (.int (2 : Int32)), .unset, .unset, .unset, .unset, .unset, .unset, .unset] [])) _
            refine XS.aload X55.here hx rfl (hb hby at_107) rfl rfl ?_
            show Steps p.tables e below (T55.setTop (mkF m 109 #[.val (.int a1), .val (.int a2), .val (.int a3), .val (.int a4), .val (.int (Int32.ofNat fa1.1)), .val (.int (Int32.ofNat fb1.1)), .val (.int (Int32.ofNat fc1.1)), .val (.int (Int32.ofNat fd1.1)), .val (.ref ob), .val (.ref ea), .val (.int (2 : Int32)), .unset, .unset, .unset, .unset, .unset, .unset, .unset] [(.ref ea)])) _
            refine XS.iload X55.here hx rfl (hb hby at_109) rfl ?_
            show Steps p.tables e below (T55.setTop (mkF m 111 #[.val (.int a1), .val (.int a2), .val (.int a3), .val (.int a4), .val (.int (Int32.ofNat fa1.1)), .val (.int (Int32.ofNat fb1.1)), .val (.int (Int32.ofNat fc1.1)), .val (.int (Int32.ofNat fd1.1)), .val (.ref ob), .val (.ref ea), .val (.int (2 : Int32)), .unset, .unset, .unset, .unset, .unset, .unset, .unset] [(.int (2 : Int32)), (.ref ea)])) _
            refine XS.iload X55.here hx rfl (hb hby at_111) rfl ?_
            show Steps p.tables e below (T55.setTop (mkF m 113 #[.val (.int a1), .val (.int a2), .val (.int a3), .val (.int a4), .val (.int (Int32.ofNat fa1.1)), .val (.int (Int32.ofNat fb1.1)), .val (.int (Int32.ofNat fc1.1)), .val (.int (Int32.ofNat fd1.1)), .val (.ref ob), .val (.ref ea), .val (.int (2 : Int32)), .unset, .unset, .unset, .unset, .unset, .unset, .unset] [(.int (Int32.ofNat fc1.1)), (.int (2 : Int32)), (.ref ea)])) _
            refine st80 _ ?_
            show Steps p.tables e below (T80.setTop (mkF m 114 #[.val (.int a1), .val (.int a2), .val (.int a3), .val (.int a4), .val (.int (Int32.ofNat fa1.1)), .val (.int (Int32.ofNat fb1.1)), .val (.int (Int32.ofNat fc1.1)), .val (.int (Int32.ofNat fd1.1)), .val (.ref ob), .val (.ref ea), .val (.int (2 : Int32)), .unset, .unset, .unset, .unset, .unset, .unset, .unset] [])) _
            refine XS.iinc X80.here hx rfl (hb hby at_114) rfl (l' := #[.val (.int a1), .val (.int a2), .val (.int a3), .val (.int a4), .val (.int (Int32.ofNat fa1.1)), .val (.int (Int32.ofNat fb1.1)), .val (.int (Int32.ofNat fc1.1)), .val (.int (Int32.ofNat fd1.1)), .val (.ref ob), .val (.ref ea), .val (.int (3 : Int32)), .unset, .unset, .unset, .unset, .unset, .unset, .unset]) rfl ?_
            show Steps p.tables e below (T80.setTop (mkF m 117 #[.val (.int a1), .val (.int a2), .val (.int a3), .val (.int a4), .val (.int (Int32.ofNat fa1.1)), .val (.int (Int32.ofNat fb1.1)), .val (.int (Int32.ofNat fc1.1)), .val (.int (Int32.ofNat fd1.1)), .val (.ref ob), .val (.ref ea), .val (.int (3 : Int32)), .unset, .unset, .unset, .unset, .unset, .unset, .unset] [])) _
            refine XS.iload X80.here hx rfl (hb hby at_117) rfl ?_
            show Steps p.tables e below (T80.setTop (mkF m 119 #[.val (.int a1), .val (.int a2), .val (.int a3), .val (.int a4), .val (.int (Int32.ofNat fa1.1)), .val (.int (Int32.ofNat fb1.1)), .val (.int (Int32.ofNat fc1.1)), .val (.int (Int32.ofNat fd1.1)), .val (.ref ob), .val (.ref ea), .val (.int (3 : Int32)), .unset, .unset, .unset, .unset, .unset, .unset, .unset] [(.int (Int32.ofNat fd1.1))])) _
            refine XS.iload X80.here hx rfl (hb hby at_119) rfl ?_
            exact kt
          by_cases hc121_6 : (Int32.ofNat fd1.1) = (Int32.ofNat fa1.1)
          case pos =>
            have pre84 : ∀ t, Steps p.tables e below (T80.setTop (mkF m 148 #[.val (.int a1), .val (.int a2), .val (.int a3), .val (.int a4), .val (.int (Int32.ofNat fa1.1)), .val (.int (Int32.ofNat fb1.1)), .val (.int (Int32.ofNat fc1.1)), .val (.int (Int32.ofNat fd1.1)), .val (.ref ob), .val (.ref ea), .val (.int (3 : Int32)), .unset, .unset, .unset, .unset, .unset, .unset, .unset] [])) t → Steps p.tables e below (s₁.setTop (entryFrame m #[(.int a1), (.int a2), (.int a3), (.int a4)] maxLocals)) t := by
              intro t kt
              refine pre83 t ?_
              show Steps p.tables e below (T80.setTop (mkF m 121 #[.val (.int a1), .val (.int a2), .val (.int a3), .val (.int a4), .val (.int (Int32.ofNat fa1.1)), .val (.int (Int32.ofNat fb1.1)), .val (.int (Int32.ofNat fc1.1)), .val (.int (Int32.ofNat fd1.1)), .val (.ref ob), .val (.ref ea), .val (.int (3 : Int32)), .unset, .unset, .unset, .unset, .unset, .unset, .unset] [(.int (Int32.ofNat fa1.1)), (.int (Int32.ofNat fd1.1))])) _
              refine XS.icmpYes X80.here hx rfl (pc0 := 121) (pc' := 148) rfl (hb hby at_121) rfl (teq hc121_6).1 (by decide) (by decide) ?_
              exact kt
            exact ⟨T80, _, h80, [fa1.1, fb1.1, fc1.1, 0], 3, X80, e80, N82, Z81, E_ob, F_states, V_sa, F_firsts, V_fa, F_ends, V_na, (V_ea.congr (fun i hi => by rcases i with _ | _ | _ | _ | i <;> first | rfl | omega)), (by have n80 : ¬ fb1.1 = fa1.1 := fun w => hc80 ((own_eqn (Nat.lt_trans fb1.2 (by decide)) (Nat.lt_trans fa1.2 (by decide))).mpr w); have n97 : ¬ fc1.1 = fa1.1 := fun w => hc97_2 ((own_eqn (Nat.lt_trans fc1.2 (by decide)) (Nat.lt_trans fa1.2 (by decide))).mpr w); have n104 : ¬ fc1.1 = fb1.1 := fun w => hc104_2 ((own_eqn (Nat.lt_trans fc1.2 (by decide)) (Nat.lt_trans fb1.2 (by decide))).mpr w); have n121 : fd1.1 = fa1.1 := (own_eqn (Nat.lt_trans fd1.2 (by decide)) (Nat.lt_trans fa1.2 (by decide))).mp hc121_6; simp only [own_enum, own_push, n80, n97, n104, n121, if_true, if_false, List.set]), pre84⟩
          case neg =>
            have pre85 : ∀ t, Steps p.tables e below (T80.setTop (mkF m 128 #[.val (.int a1), .val (.int a2), .val (.int a3), .val (.int a4), .val (.int (Int32.ofNat fa1.1)), .val (.int (Int32.ofNat fb1.1)), .val (.int (Int32.ofNat fc1.1)), .val (.int (Int32.ofNat fd1.1)), .val (.ref ob), .val (.ref ea), .val (.int (3 : Int32)), .unset, .unset, .unset, .unset, .unset, .unset, .unset] [(.int (Int32.ofNat fb1.1)), (.int (Int32.ofNat fd1.1))])) t → Steps p.tables e below (s₁.setTop (entryFrame m #[(.int a1), (.int a2), (.int a3), (.int a4)] maxLocals)) t := by
              intro t kt
              refine pre83 t ?_
              show Steps p.tables e below (T80.setTop (mkF m 121 #[.val (.int a1), .val (.int a2), .val (.int a3), .val (.int a4), .val (.int (Int32.ofNat fa1.1)), .val (.int (Int32.ofNat fb1.1)), .val (.int (Int32.ofNat fc1.1)), .val (.int (Int32.ofNat fd1.1)), .val (.ref ob), .val (.ref ea), .val (.int (3 : Int32)), .unset, .unset, .unset, .unset, .unset, .unset, .unset] [(.int (Int32.ofNat fa1.1)), (.int (Int32.ofNat fd1.1))])) _
              refine XS.icmpNo X80.here hx rfl (hb hby at_121) rfl (feq hc121_6).1 ?_
              show Steps p.tables e below (T80.setTop (mkF m 124 #[.val (.int a1), .val (.int a2), .val (.int a3), .val (.int a4), .val (.int (Int32.ofNat fa1.1)), .val (.int (Int32.ofNat fb1.1)), .val (.int (Int32.ofNat fc1.1)), .val (.int (Int32.ofNat fd1.1)), .val (.ref ob), .val (.ref ea), .val (.int (3 : Int32)), .unset, .unset, .unset, .unset, .unset, .unset, .unset] [])) _
              refine XS.iload X80.here hx rfl (hb hby at_124) rfl ?_
              show Steps p.tables e below (T80.setTop (mkF m 126 #[.val (.int a1), .val (.int a2), .val (.int a3), .val (.int a4), .val (.int (Int32.ofNat fa1.1)), .val (.int (Int32.ofNat fb1.1)), .val (.int (Int32.ofNat fc1.1)), .val (.int (Int32.ofNat fd1.1)), .val (.ref ob), .val (.ref ea), .val (.int (3 : Int32)), .unset, .unset, .unset, .unset, .unset, .unset, .unset] [(.int (Int32.ofNat fd1.1))])) _
              refine XS.iload X80.here hx rfl (hb hby at_126) rfl ?_
              exact kt
            by_cases hc128_6 : (Int32.ofNat fd1.1) = (Int32.ofNat fb1.1)
            case pos =>
              have pre86 : ∀ t, Steps p.tables e below (T80.setTop (mkF m 148 #[.val (.int a1), .val (.int a2), .val (.int a3), .val (.int a4), .val (.int (Int32.ofNat fa1.1)), .val (.int (Int32.ofNat fb1.1)), .val (.int (Int32.ofNat fc1.1)), .val (.int (Int32.ofNat fd1.1)), .val (.ref ob), .val (.ref ea), .val (.int (3 : Int32)), .unset, .unset, .unset, .unset, .unset, .unset, .unset] [])) t → Steps p.tables e below (s₁.setTop (entryFrame m #[(.int a1), (.int a2), (.int a3), (.int a4)] maxLocals)) t := by
                intro t kt
                refine pre85 t ?_
                show Steps p.tables e below (T80.setTop (mkF m 128 #[.val (.int a1), .val (.int a2), .val (.int a3), .val (.int a4), .val (.int (Int32.ofNat fa1.1)), .val (.int (Int32.ofNat fb1.1)), .val (.int (Int32.ofNat fc1.1)), .val (.int (Int32.ofNat fd1.1)), .val (.ref ob), .val (.ref ea), .val (.int (3 : Int32)), .unset, .unset, .unset, .unset, .unset, .unset, .unset] [(.int (Int32.ofNat fb1.1)), (.int (Int32.ofNat fd1.1))])) _
                refine XS.icmpYes X80.here hx rfl (pc0 := 128) (pc' := 148) rfl (hb hby at_128) rfl (teq hc128_6).1 (by decide) (by decide) ?_
                exact kt
              exact ⟨T80, _, h80, [fa1.1, fb1.1, fc1.1, 0], 3, X80, e80, N82, Z81, E_ob, F_states, V_sa, F_firsts, V_fa, F_ends, V_na, (V_ea.congr (fun i hi => by rcases i with _ | _ | _ | _ | i <;> first | rfl | omega)), (by have n80 : ¬ fb1.1 = fa1.1 := fun w => hc80 ((own_eqn (Nat.lt_trans fb1.2 (by decide)) (Nat.lt_trans fa1.2 (by decide))).mpr w); have n97 : ¬ fc1.1 = fa1.1 := fun w => hc97_2 ((own_eqn (Nat.lt_trans fc1.2 (by decide)) (Nat.lt_trans fa1.2 (by decide))).mpr w); have n104 : ¬ fc1.1 = fb1.1 := fun w => hc104_2 ((own_eqn (Nat.lt_trans fc1.2 (by decide)) (Nat.lt_trans fb1.2 (by decide))).mpr w); have n121 : ¬ fd1.1 = fa1.1 := fun w => hc121_6 ((own_eqn (Nat.lt_trans fd1.2 (by decide)) (Nat.lt_trans fa1.2 (by decide))).mpr w); have n128 : fd1.1 = fb1.1 := (own_eqn (Nat.lt_trans fd1.2 (by decide)) (Nat.lt_trans fb1.2 (by decide))).mp hc128_6; simp only [own_enum, own_push, n80, n97, n104, n121, n128, if_true, if_false, List.set]), pre86⟩
            case neg =>
              have pre87 : ∀ t, Steps p.tables e below (T80.setTop (mkF m 135 #[.val (.int a1), .val (.int a2), .val (.int a3), .val (.int a4), .val (.int (Int32.ofNat fa1.1)), .val (.int (Int32.ofNat fb1.1)), .val (.int (Int32.ofNat fc1.1)), .val (.int (Int32.ofNat fd1.1)), .val (.ref ob), .val (.ref ea), .val (.int (3 : Int32)), .unset, .unset, .unset, .unset, .unset, .unset, .unset] [(.int (Int32.ofNat fc1.1)), (.int (Int32.ofNat fd1.1))])) t → Steps p.tables e below (s₁.setTop (entryFrame m #[(.int a1), (.int a2), (.int a3), (.int a4)] maxLocals)) t := by
                intro t kt
                refine pre85 t ?_
                show Steps p.tables e below (T80.setTop (mkF m 128 #[.val (.int a1), .val (.int a2), .val (.int a3), .val (.int a4), .val (.int (Int32.ofNat fa1.1)), .val (.int (Int32.ofNat fb1.1)), .val (.int (Int32.ofNat fc1.1)), .val (.int (Int32.ofNat fd1.1)), .val (.ref ob), .val (.ref ea), .val (.int (3 : Int32)), .unset, .unset, .unset, .unset, .unset, .unset, .unset] [(.int (Int32.ofNat fb1.1)), (.int (Int32.ofNat fd1.1))])) _
                refine XS.icmpNo X80.here hx rfl (hb hby at_128) rfl (feq hc128_6).1 ?_
                show Steps p.tables e below (T80.setTop (mkF m 131 #[.val (.int a1), .val (.int a2), .val (.int a3), .val (.int a4), .val (.int (Int32.ofNat fa1.1)), .val (.int (Int32.ofNat fb1.1)), .val (.int (Int32.ofNat fc1.1)), .val (.int (Int32.ofNat fd1.1)), .val (.ref ob), .val (.ref ea), .val (.int (3 : Int32)), .unset, .unset, .unset, .unset, .unset, .unset, .unset] [])) _
                refine XS.iload X80.here hx rfl (hb hby at_131) rfl ?_
                show Steps p.tables e below (T80.setTop (mkF m 133 #[.val (.int a1), .val (.int a2), .val (.int a3), .val (.int a4), .val (.int (Int32.ofNat fa1.1)), .val (.int (Int32.ofNat fb1.1)), .val (.int (Int32.ofNat fc1.1)), .val (.int (Int32.ofNat fd1.1)), .val (.ref ob), .val (.ref ea), .val (.int (3 : Int32)), .unset, .unset, .unset, .unset, .unset, .unset, .unset] [(.int (Int32.ofNat fd1.1))])) _
                refine XS.iload X80.here hx rfl (hb hby at_133) rfl ?_
                exact kt
              by_cases hc135_6 : (Int32.ofNat fd1.1) = (Int32.ofNat fc1.1)
              case pos =>
                have pre88 : ∀ t, Steps p.tables e below (T80.setTop (mkF m 148 #[.val (.int a1), .val (.int a2), .val (.int a3), .val (.int a4), .val (.int (Int32.ofNat fa1.1)), .val (.int (Int32.ofNat fb1.1)), .val (.int (Int32.ofNat fc1.1)), .val (.int (Int32.ofNat fd1.1)), .val (.ref ob), .val (.ref ea), .val (.int (3 : Int32)), .unset, .unset, .unset, .unset, .unset, .unset, .unset] [])) t → Steps p.tables e below (s₁.setTop (entryFrame m #[(.int a1), (.int a2), (.int a3), (.int a4)] maxLocals)) t := by
                  intro t kt
                  refine pre87 t ?_
                  show Steps p.tables e below (T80.setTop (mkF m 135 #[.val (.int a1), .val (.int a2), .val (.int a3), .val (.int a4), .val (.int (Int32.ofNat fa1.1)), .val (.int (Int32.ofNat fb1.1)), .val (.int (Int32.ofNat fc1.1)), .val (.int (Int32.ofNat fd1.1)), .val (.ref ob), .val (.ref ea), .val (.int (3 : Int32)), .unset, .unset, .unset, .unset, .unset, .unset, .unset] [(.int (Int32.ofNat fc1.1)), (.int (Int32.ofNat fd1.1))])) _
                  refine XS.icmpYes X80.here hx rfl (pc0 := 135) (pc' := 148) rfl (hb hby at_135) rfl (teq hc135_6).1 (by decide) (by decide) ?_
                  exact kt
                exact ⟨T80, _, h80, [fa1.1, fb1.1, fc1.1, 0], 3, X80, e80, N82, Z81, E_ob, F_states, V_sa, F_firsts, V_fa, F_ends, V_na, (V_ea.congr (fun i hi => by rcases i with _ | _ | _ | _ | i <;> first | rfl | omega)), (by have n80 : ¬ fb1.1 = fa1.1 := fun w => hc80 ((own_eqn (Nat.lt_trans fb1.2 (by decide)) (Nat.lt_trans fa1.2 (by decide))).mpr w); have n97 : ¬ fc1.1 = fa1.1 := fun w => hc97_2 ((own_eqn (Nat.lt_trans fc1.2 (by decide)) (Nat.lt_trans fa1.2 (by decide))).mpr w); have n104 : ¬ fc1.1 = fb1.1 := fun w => hc104_2 ((own_eqn (Nat.lt_trans fc1.2 (by decide)) (Nat.lt_trans fb1.2 (by decide))).mpr w); have n121 : ¬ fd1.1 = fa1.1 := fun w => hc121_6 ((own_eqn (Nat.lt_trans fd1.2 (by decide)) (Nat.lt_trans fa1.2 (by decide))).mpr w); have n128 : ¬ fd1.1 = fb1.1 := fun w => hc128_6 ((own_eqn (Nat.lt_trans fd1.2 (by decide)) (Nat.lt_trans fb1.2 (by decide))).mpr w); have n135 : fd1.1 = fc1.1 := (own_eqn (Nat.lt_trans fd1.2 (by decide)) (Nat.lt_trans fc1.2 (by decide))).mp hc135_6; simp only [own_enum, own_push, n80, n97, n104, n121, n128, n135, if_true, if_false, List.set]), pre88⟩
              case neg =>
                obtain ⟨T89, h89, X89, e89, W89, V89, st89⟩ := own_stI X80 hx hZ e80 V_ea (j := (3 : Int32)) (by decide) (k := 3) rfl (by decide) (g := (mkF m 144 #[.val (.int a1), .val (.int a2), .val (.int a3), .val (.int a4), .val (.int (Int32.ofNat fa1.1)), .val (.int (Int32.ofNat fb1.1)), .val (.int (Int32.ofNat fc1.1)), .val (.int (Int32.ofNat fd1.1)), .val (.ref ob), .val (.ref ea), .val (.int (3 : Int32)), .unset, .unset, .unset, .unset, .unset, .unset, .unset] [(.int (Int32.ofNat fd1.1)), (.int (3 : Int32)), (.ref ea)])) rfl rfl (hb hby at_144)
                have E_ob := E_ob.wr W89
                have F_states := F_states.other W89 (Or.inl ne_ob_ea)
                have V_sa := V_sa.other W89 ne_sa_ea
                have F_firsts := F_firsts.other W89 (Or.inl ne_ob_ea)
                have V_fa := V_fa.other W89 ne_fa_ea
                have F_ends := F_ends.other W89 (Or.inl ne_ob_ea)
                have V_na := V_na.other W89 ne_na_ea
                have Z90 := Nat.le_trans Z81 (Keep.of_wr W89).1
                have N91 := Fr.snoc X89 N82 g_ea
                have V_ea := V89
                have pre92 : ∀ t, Steps p.tables e below (T89.setTop (mkF m 148 #[.val (.int a1), .val (.int a2), .val (.int a3), .val (.int a4), .val (.int (Int32.ofNat fa1.1)), .val (.int (Int32.ofNat fb1.1)), .val (.int (Int32.ofNat fc1.1)), .val (.int (Int32.ofNat fd1.1)), .val (.ref ob), .val (.ref ea), .val (.int (4 : Int32)), .unset, .unset, .unset, .unset, .unset, .unset, .unset] [])) t → Steps p.tables e below (s₁.setTop (entryFrame m #[(.int a1), (.int a2), (.int a3), (.int a4)] maxLocals)) t := by
                  intro t kt
                  refine pre87 t ?_
                  show Steps p.tables e below (T80.setTop (mkF m 135 #[.val (.int a1), .val (.int a2), .val (.int a3), .val (.int a4), .val (.int (Int32.ofNat fa1.1)), .val (.int (Int32.ofNat fb1.1)), .val (.int (Int32.ofNat fc1.1)), .val (.int (Int32.ofNat fd1.1)), .val (.ref ob), .val (.ref ea), .val (.int (3 : Int32)), .unset, .unset, .unset, .unset, .unset, .unset, .unset] [(.int (Int32.ofNat fc1.1)), (.int (Int32.ofNat fd1.1))])) _
                  refine XS.icmpNo X80.here hx rfl (hb hby at_135) rfl (feq hc135_6).1 ?_
                  show Steps p.tables e below (T80.setTop (mkF m 138 #[.val (.int a1), .val (.int a2), .val (.int a3), .val (.int a4), .val (.int (Int32.ofNat fa1.1)), .val (.int (Int32.ofNat fb1.1)), .val (.int (Int32.ofNat fc1.1)), .val (.int (Int32.ofNat fd1.1)), .val (.ref ob), .val (.ref ea), .val (.int (3 : Int32)), .unset, .unset, .unset, .unset, .unset, .unset, .unset] [])) _
                  refine XS.aload X80.here hx rfl (hb hby at_138) rfl rfl ?_
                  show Steps p.tables e below (T80.setTop (mkF m 140 #[.val (.int a1), .val (.int a2), .val (.int a3), .val (.int a4), .val (.int (Int32.ofNat fa1.1)), .val (.int (Int32.ofNat fb1.1)), .val (.int (Int32.ofNat fc1.1)), .val (.int (Int32.ofNat fd1.1)), .val (.ref ob), .val (.ref ea), .val (.int (3 : Int32)), .unset, .unset, .unset, .unset, .unset, .unset, .unset] [(.ref ea)])) _
                  refine XS.iload X80.here hx rfl (hb hby at_140) rfl ?_
                  show Steps p.tables e below (T80.setTop (mkF m 142 #[.val (.int a1), .val (.int a2), .val (.int a3), .val (.int a4), .val (.int (Int32.ofNat fa1.1)), .val (.int (Int32.ofNat fb1.1)), .val (.int (Int32.ofNat fc1.1)), .val (.int (Int32.ofNat fd1.1)), .val (.ref ob), .val (.ref ea), .val (.int (3 : Int32)), .unset, .unset, .unset, .unset, .unset, .unset, .unset] [(.int (3 : Int32)), (.ref ea)])) _
                  refine XS.iload X80.here hx rfl (hb hby at_142) rfl ?_
                  show Steps p.tables e below (T80.setTop (mkF m 144 #[.val (.int a1), .val (.int a2), .val (.int a3), .val (.int a4), .val (.int (Int32.ofNat fa1.1)), .val (.int (Int32.ofNat fb1.1)), .val (.int (Int32.ofNat fc1.1)), .val (.int (Int32.ofNat fd1.1)), .val (.ref ob), .val (.ref ea), .val (.int (3 : Int32)), .unset, .unset, .unset, .unset, .unset, .unset, .unset] [(.int (Int32.ofNat fd1.1)), (.int (3 : Int32)), (.ref ea)])) _
                  refine st89 _ ?_
                  show Steps p.tables e below (T89.setTop (mkF m 145 #[.val (.int a1), .val (.int a2), .val (.int a3), .val (.int a4), .val (.int (Int32.ofNat fa1.1)), .val (.int (Int32.ofNat fb1.1)), .val (.int (Int32.ofNat fc1.1)), .val (.int (Int32.ofNat fd1.1)), .val (.ref ob), .val (.ref ea), .val (.int (3 : Int32)), .unset, .unset, .unset, .unset, .unset, .unset, .unset] [])) _
                  refine XS.iinc X89.here hx rfl (hb hby at_145) rfl (l' := #[.val (.int a1), .val (.int a2), .val (.int a3), .val (.int a4), .val (.int (Int32.ofNat fa1.1)), .val (.int (Int32.ofNat fb1.1)), .val (.int (Int32.ofNat fc1.1)), .val (.int (Int32.ofNat fd1.1)), .val (.ref ob), .val (.ref ea), .val (.int (4 : Int32)), .unset, .unset, .unset, .unset, .unset, .unset, .unset]) rfl ?_
                  exact kt
                exact ⟨T89, _, h89, [fa1.1, fb1.1, fc1.1, fd1.1], 4, X89, e89, N91, Z90, E_ob, F_states, V_sa, F_firsts, V_fa, F_ends, V_na, (V_ea.congr (fun i hi => by rcases i with _ | _ | _ | _ | i <;> first | rfl | omega)), (by have n80 : ¬ fb1.1 = fa1.1 := fun w => hc80 ((own_eqn (Nat.lt_trans fb1.2 (by decide)) (Nat.lt_trans fa1.2 (by decide))).mpr w); have n97 : ¬ fc1.1 = fa1.1 := fun w => hc97_2 ((own_eqn (Nat.lt_trans fc1.2 (by decide)) (Nat.lt_trans fa1.2 (by decide))).mpr w); have n104 : ¬ fc1.1 = fb1.1 := fun w => hc104_2 ((own_eqn (Nat.lt_trans fc1.2 (by decide)) (Nat.lt_trans fb1.2 (by decide))).mpr w); have n121 : ¬ fd1.1 = fa1.1 := fun w => hc121_6 ((own_eqn (Nat.lt_trans fd1.2 (by decide)) (Nat.lt_trans fa1.2 (by decide))).mpr w); have n128 : ¬ fd1.1 = fb1.1 := fun w => hc128_6 ((own_eqn (Nat.lt_trans fd1.2 (by decide)) (Nat.lt_trans fb1.2 (by decide))).mpr w); have n135 : ¬ fd1.1 = fc1.1 := fun w => hc135_6 ((own_eqn (Nat.lt_trans fd1.2 (by decide)) (Nat.lt_trans fc1.2 (by decide))).mpr w); simp only [own_enum, own_push, n80, n97, n104, n121, n128, n135, if_true, if_false, List.set]), pre92⟩
  rw [hp19] at fk1 fk5 fe0 fe1 fe2 fe3
  obtain ⟨cq93, kq93, q93a, q93b, q93c⟩ := isOf hZ e19 E_ob
  obtain ⟨_, _, ⟨T93, L93, k93, n93⟩, -, X93, ⟨Lc93, hQ93, l93, y93, z93⟩, st93⟩ := X19.virtualBack hx (y := (⟨"com/example/wary_observer/waryobserver/equivalence/Partition", "state", "(I)I"⟩ : MethodName)) (z := (⟨"com/example/wary_observer/waryobserver/equivalence/Partition", "state", "(I)I"⟩ : MethodName)) hown (mvT hZ (hw _ (List.mem_of_getElem? (i := 33) rfl))) (mvT hZ (hw _ (List.mem_of_getElem? (i := 34) rfl))) (notFace_of_selects (args := #[]) (mvT hZ (hw _ (List.mem_of_getElem? (i := 36) rfl)))) (mvT hZ (hw _ (List.mem_of_getElem? (i := 36) rfl))) (mvT hZ (hw _ (List.mem_of_getElem? (i := 35) rfl))) (by decide) (backOf (W := 0) (own_rm4 l Z a0 hw [] ob 0 sa (own_mark (own_mark (own_mark (own_mark own_q0 fa1.1) fb1.1) fc1.1) fd1.1).1 hm19 n0 Zm19 F_states V_sa (by decide)) hZ (hw _ (List.mem_of_getElem? (i := 37) rfl)) (hw _ (List.mem_of_getElem? (i := 2) rfl)) (by decide) (by decide)) q93a q93c (g := (mkF m 151 #[.val (.int a1), .val (.int a2), .val (.int a3), .val (.int a4), .val (.int (Int32.ofNat fa1.1)), .val (.int (Int32.ofNat fb1.1)), .val (.int (Int32.ofNat fc1.1)), .val (.int (Int32.ofNat fd1.1)), .val (.ref ob), .val (.ref ea), .val (.int (Int32.ofNat kn)), .unset, .unset, .unset, .unset, .unset, .unset, .unset] [(.int (0 : Int32)), (.ref ob)])) rfl (by rw [hml]; rfl) (Steps.refl _) (argsL := [(.int (0 : Int32))]) (rest := []) (lenOf own_pd1 rfl) rfl (by show 2 * 0 + _ ≤ _; exact Nat.le_of_eq rfl) (hb hby at_151) (fun _ _ => ⟨rfl, e19, (by decide : 9 + 0 ≤ _), (by decide : 41 + 0 ≤ _)⟩)
  dsimp only [Pt.U, Pt.locs, Pt.cells, Pt.slots] at X93 l93 y93 z93 st93 hQ93
  subst l93 y93 z93
  obtain ⟨rfl, Nq93, eq93⟩ := hQ93
  have N93 := Fr.app N19 Nq93
  obtain ⟨cq94, kq94, q94a, q94b, q94c⟩ := isOf hZ eq93 E_ob
  obtain ⟨_, _, ⟨T94, L94, k94, n94⟩, -, X94, ⟨Lc94, hQ94, l94, y94, z94⟩, st94⟩ := X93.virtualBack hx (y := (⟨"com/example/wary_observer/waryobserver/equivalence/Partition", "state", "(I)I"⟩ : MethodName)) (z := (⟨"com/example/wary_observer/waryobserver/equivalence/Partition", "state", "(I)I"⟩ : MethodName)) hown (mvT hZ (hw _ (List.mem_of_getElem? (i := 33) rfl))) (mvT hZ (hw _ (List.mem_of_getElem? (i := 34) rfl))) (notFace_of_selects (args := #[]) (mvT hZ (hw _ (List.mem_of_getElem? (i := 36) rfl)))) (mvT hZ (hw _ (List.mem_of_getElem? (i := 36) rfl))) (mvT hZ (hw _ (List.mem_of_getElem? (i := 35) rfl))) (by decide) (backOf (W := 0) (own_rm4 l Z a0 hw [] ob 1 sa (own_mark (own_mark (own_mark (own_mark own_q0 fa1.1) fb1.1) fc1.1) fd1.1).1 hm19 n0 Zm19 F_states V_sa (by decide)) hZ (hw _ (List.mem_of_getElem? (i := 37) rfl)) (hw _ (List.mem_of_getElem? (i := 2) rfl)) (by decide) (by decide)) q94a q94c (g := (mkF m 159 #[.val (.int a1), .val (.int a2), .val (.int a3), .val (.int a4), .val (.int (Int32.ofNat fa1.1)), .val (.int (Int32.ofNat fb1.1)), .val (.int (Int32.ofNat fc1.1)), .val (.int (Int32.ofNat fd1.1)), .val (.ref ob), .val (.ref ea), .val (.int (Int32.ofNat kn)), .val (.int (Int32.ofNat ((own_mark (own_mark (own_mark (own_mark own_q0 fa1.1) fb1.1) fc1.1) fd1.1).1.getD 0 0))), .unset, .unset, .unset, .unset, .unset, .unset] [(.int (1 : Int32)), (.ref ob)])) rfl (by rw [hml]; rfl) (Steps.refl _) (argsL := [(.int (1 : Int32))]) (rest := []) (lenOf own_pd1 rfl) rfl (by show 2 * 0 + _ ≤ _; exact Nat.le_of_eq rfl) (hb hby at_159) (fun _ _ => ⟨rfl, eq93, (by decide : 9 + 0 ≤ _), (by decide : 41 + 0 ≤ _)⟩)
  dsimp only [Pt.U, Pt.locs, Pt.cells, Pt.slots] at X94 l94 y94 z94 st94 hQ94
  subst l94 y94 z94
  obtain ⟨rfl, Nq94, eq94⟩ := hQ94
  have N94 := Fr.app N93 Nq94
  obtain ⟨cq95, kq95, q95a, q95b, q95c⟩ := isOf hZ eq94 E_ob
  obtain ⟨_, _, ⟨T95, L95, k95, n95⟩, -, X95, ⟨Lc95, hQ95, l95, y95, z95⟩, st95⟩ := X94.virtualBack hx (y := (⟨"com/example/wary_observer/waryobserver/equivalence/Partition", "state", "(I)I"⟩ : MethodName)) (z := (⟨"com/example/wary_observer/waryobserver/equivalence/Partition", "state", "(I)I"⟩ : MethodName)) hown (mvT hZ (hw _ (List.mem_of_getElem? (i := 33) rfl))) (mvT hZ (hw _ (List.mem_of_getElem? (i := 34) rfl))) (notFace_of_selects (args := #[]) (mvT hZ (hw _ (List.mem_of_getElem? (i := 36) rfl)))) (mvT hZ (hw _ (List.mem_of_getElem? (i := 36) rfl))) (mvT hZ (hw _ (List.mem_of_getElem? (i := 35) rfl))) (by decide) (backOf (W := 0) (own_rm4 l Z a0 hw [] ob 2 sa (own_mark (own_mark (own_mark (own_mark own_q0 fa1.1) fb1.1) fc1.1) fd1.1).1 hm19 n0 Zm19 F_states V_sa (by decide)) hZ (hw _ (List.mem_of_getElem? (i := 37) rfl)) (hw _ (List.mem_of_getElem? (i := 2) rfl)) (by decide) (by decide)) q95a q95c (g := (mkF m 167 #[.val (.int a1), .val (.int a2), .val (.int a3), .val (.int a4), .val (.int (Int32.ofNat fa1.1)), .val (.int (Int32.ofNat fb1.1)), .val (.int (Int32.ofNat fc1.1)), .val (.int (Int32.ofNat fd1.1)), .val (.ref ob), .val (.ref ea), .val (.int (Int32.ofNat kn)), .val (.int (Int32.ofNat ((own_mark (own_mark (own_mark (own_mark own_q0 fa1.1) fb1.1) fc1.1) fd1.1).1.getD 0 0))), .val (.int (Int32.ofNat ((own_mark (own_mark (own_mark (own_mark own_q0 fa1.1) fb1.1) fc1.1) fd1.1).1.getD 1 0))), .unset, .unset, .unset, .unset, .unset] [(.int (2 : Int32)), (.ref ob)])) rfl (by rw [hml]; rfl) (Steps.refl _) (argsL := [(.int (2 : Int32))]) (rest := []) (lenOf own_pd1 rfl) rfl (by show 2 * 0 + _ ≤ _; exact Nat.le_of_eq rfl) (hb hby at_167) (fun _ _ => ⟨rfl, eq94, (by decide : 9 + 0 ≤ _), (by decide : 41 + 0 ≤ _)⟩)
  dsimp only [Pt.U, Pt.locs, Pt.cells, Pt.slots] at X95 l95 y95 z95 st95 hQ95
  subst l95 y95 z95
  obtain ⟨rfl, Nq95, eq95⟩ := hQ95
  have N95 := Fr.app N94 Nq95
  obtain ⟨cq96, kq96, q96a, q96b, q96c⟩ := isOf hZ eq95 E_ob
  obtain ⟨_, _, ⟨T96, L96, k96, n96⟩, -, X96, ⟨Lc96, hQ96, l96, y96, z96⟩, st96⟩ := X95.virtualBack hx (y := (⟨"com/example/wary_observer/waryobserver/equivalence/Partition", "state", "(I)I"⟩ : MethodName)) (z := (⟨"com/example/wary_observer/waryobserver/equivalence/Partition", "state", "(I)I"⟩ : MethodName)) hown (mvT hZ (hw _ (List.mem_of_getElem? (i := 33) rfl))) (mvT hZ (hw _ (List.mem_of_getElem? (i := 34) rfl))) (notFace_of_selects (args := #[]) (mvT hZ (hw _ (List.mem_of_getElem? (i := 36) rfl)))) (mvT hZ (hw _ (List.mem_of_getElem? (i := 36) rfl))) (mvT hZ (hw _ (List.mem_of_getElem? (i := 35) rfl))) (by decide) (backOf (W := 0) (own_rm4 l Z a0 hw [] ob 3 sa (own_mark (own_mark (own_mark (own_mark own_q0 fa1.1) fb1.1) fc1.1) fd1.1).1 hm19 n0 Zm19 F_states V_sa (by decide)) hZ (hw _ (List.mem_of_getElem? (i := 37) rfl)) (hw _ (List.mem_of_getElem? (i := 2) rfl)) (by decide) (by decide)) q96a q96c (g := (mkF m 175 #[.val (.int a1), .val (.int a2), .val (.int a3), .val (.int a4), .val (.int (Int32.ofNat fa1.1)), .val (.int (Int32.ofNat fb1.1)), .val (.int (Int32.ofNat fc1.1)), .val (.int (Int32.ofNat fd1.1)), .val (.ref ob), .val (.ref ea), .val (.int (Int32.ofNat kn)), .val (.int (Int32.ofNat ((own_mark (own_mark (own_mark (own_mark own_q0 fa1.1) fb1.1) fc1.1) fd1.1).1.getD 0 0))), .val (.int (Int32.ofNat ((own_mark (own_mark (own_mark (own_mark own_q0 fa1.1) fb1.1) fc1.1) fd1.1).1.getD 1 0))), .val (.int (Int32.ofNat ((own_mark (own_mark (own_mark (own_mark own_q0 fa1.1) fb1.1) fc1.1) fd1.1).1.getD 2 0))), .unset, .unset, .unset, .unset] [(.int (3 : Int32)), (.ref ob)])) rfl (by rw [hml]; rfl) (Steps.refl _) (argsL := [(.int (3 : Int32))]) (rest := []) (lenOf own_pd1 rfl) rfl (by show 2 * 0 + _ ≤ _; exact Nat.le_of_eq rfl) (hb hby at_175) (fun _ _ => ⟨rfl, eq95, (by decide : 9 + 0 ≤ _), (by decide : 41 + 0 ≤ _)⟩)
  dsimp only [Pt.U, Pt.locs, Pt.cells, Pt.slots] at X96 l96 y96 z96 st96 hQ96
  subst l96 y96 z96
  obtain ⟨rfl, Nq96, eq96⟩ := hQ96
  have N96 := Fr.app N95 Nq96
  obtain ⟨_, _, ⟨T97, L97, k97, n97⟩, -, X97, ⟨Lc97, hQ97, l97, y97, z97⟩, st97⟩ := Jvm.LawKit.callS X96 hx (y := (⟨"com/example/wary_observer/waryobserver/equivalence/PartitionMarkPinLaw", "in", "(I)Z"⟩ : MethodName)) hown (mvT hZ (hw _ (List.mem_of_getElem? (i := 38) rfl))) (mvT hZ (hw _ (List.mem_of_getElem? (i := 39) rfl))) (mvT hZ (hw _ (List.mem_of_getElem? (i := 40) rfl))) (mvT hZ (hw _ (List.mem_of_getElem? (i := 41) rfl))) (by decide) (backOf (W := 0) (own_rm5 l Z a0 hw [] ((own_mark (own_mark (own_mark (own_mark own_q0 fa1.1) fb1.1) fc1.1) fd1.1).1.getD 0 0) hm19 n0 Zm19 f0) hZ (hw _ (List.mem_of_getElem? (i := 41) rfl)) (hw _ (List.mem_of_getElem? (i := 40) rfl)) (by decide) (by decide)) (g := (mkF m 182 #[.val (.int a1), .val (.int a2), .val (.int a3), .val (.int a4), .val (.int (Int32.ofNat fa1.1)), .val (.int (Int32.ofNat fb1.1)), .val (.int (Int32.ofNat fc1.1)), .val (.int (Int32.ofNat fd1.1)), .val (.ref ob), .val (.ref ea), .val (.int (Int32.ofNat kn)), .val (.int (Int32.ofNat ((own_mark (own_mark (own_mark (own_mark own_q0 fa1.1) fb1.1) fc1.1) fd1.1).1.getD 0 0))), .val (.int (Int32.ofNat ((own_mark (own_mark (own_mark (own_mark own_q0 fa1.1) fb1.1) fc1.1) fd1.1).1.getD 1 0))), .val (.int (Int32.ofNat ((own_mark (own_mark (own_mark (own_mark own_q0 fa1.1) fb1.1) fc1.1) fd1.1).1.getD 2 0))), .val (.int (Int32.ofNat ((own_mark (own_mark (own_mark (own_mark own_q0 fa1.1) fb1.1) fc1.1) fd1.1).1.getD 3 0))), .unset, .unset, .unset] [(.int (Int32.ofNat ((own_mark (own_mark (own_mark (own_mark own_q0 fa1.1) fb1.1) fc1.1) fd1.1).1.getD 0 0)))])) rfl (by rw [hml]; rfl) (argsL := [(.int (Int32.ofNat ((own_mark (own_mark (own_mark (own_mark own_q0 fa1.1) fb1.1) fc1.1) fd1.1).1.getD 0 0)))]) (rest := []) (lenOf own_pd2 rfl) rfl (by show 2 * 0 + _ ≤ _; exact Nat.le_of_eq rfl) (hb hby at_182) (fun _ _ => ⟨rfl, eq96, (by decide : 9 + 0 ≤ _), (by decide : 41 + 0 ≤ _)⟩)
  dsimp only [Pt.U, Pt.locs, Pt.cells, Pt.slots] at X97 l97 y97 z97 st97 hQ97
  subst l97 y97 z97
  obtain ⟨rfl, Nq97, eq97⟩ := hQ97
  have N97 := Fr.app N96 Nq97
  obtain ⟨_, _, ⟨T98, L98, k98, n98⟩, -, X98, ⟨Lc98, hQ98, l98, y98, z98⟩, st98⟩ := Jvm.LawKit.callS X97 hx (y := (⟨"com/example/wary_observer/waryobserver/equivalence/PartitionMarkPinLaw", "in", "(I)Z"⟩ : MethodName)) hown (mvT hZ (hw _ (List.mem_of_getElem? (i := 38) rfl))) (mvT hZ (hw _ (List.mem_of_getElem? (i := 39) rfl))) (mvT hZ (hw _ (List.mem_of_getElem? (i := 40) rfl))) (mvT hZ (hw _ (List.mem_of_getElem? (i := 41) rfl))) (by decide) (backOf (W := 0) (own_rm5 l Z a0 hw [] ((own_mark (own_mark (own_mark (own_mark own_q0 fa1.1) fb1.1) fc1.1) fd1.1).1.getD 1 0) hm19 n0 Zm19 f1) hZ (hw _ (List.mem_of_getElem? (i := 41) rfl)) (hw _ (List.mem_of_getElem? (i := 40) rfl)) (by decide) (by decide)) (g := (mkF m 190 #[.val (.int a1), .val (.int a2), .val (.int a3), .val (.int a4), .val (.int (Int32.ofNat fa1.1)), .val (.int (Int32.ofNat fb1.1)), .val (.int (Int32.ofNat fc1.1)), .val (.int (Int32.ofNat fd1.1)), .val (.ref ob), .val (.ref ea), .val (.int (Int32.ofNat kn)), .val (.int (Int32.ofNat ((own_mark (own_mark (own_mark (own_mark own_q0 fa1.1) fb1.1) fc1.1) fd1.1).1.getD 0 0))), .val (.int (Int32.ofNat ((own_mark (own_mark (own_mark (own_mark own_q0 fa1.1) fb1.1) fc1.1) fd1.1).1.getD 1 0))), .val (.int (Int32.ofNat ((own_mark (own_mark (own_mark (own_mark own_q0 fa1.1) fb1.1) fc1.1) fd1.1).1.getD 2 0))), .val (.int (Int32.ofNat ((own_mark (own_mark (own_mark (own_mark own_q0 fa1.1) fb1.1) fc1.1) fd1.1).1.getD 3 0))), .unset, .unset, .unset] [(.int (Int32.ofNat ((own_mark (own_mark (own_mark (own_mark own_q0 fa1.1) fb1.1) fc1.1) fd1.1).1.getD 1 0)))])) rfl (by rw [hml]; rfl) (argsL := [(.int (Int32.ofNat ((own_mark (own_mark (own_mark (own_mark own_q0 fa1.1) fb1.1) fc1.1) fd1.1).1.getD 1 0)))]) (rest := []) (lenOf own_pd2 rfl) rfl (by show 2 * 0 + _ ≤ _; exact Nat.le_of_eq rfl) (hb hby at_190) (fun _ _ => ⟨rfl, eq97, (by decide : 9 + 0 ≤ _), (by decide : 41 + 0 ≤ _)⟩)
  dsimp only [Pt.U, Pt.locs, Pt.cells, Pt.slots] at X98 l98 y98 z98 st98 hQ98
  subst l98 y98 z98
  obtain ⟨rfl, Nq98, eq98⟩ := hQ98
  have N98 := Fr.app N97 Nq98
  obtain ⟨_, _, ⟨T99, L99, k99, n99⟩, -, X99, ⟨Lc99, hQ99, l99, y99, z99⟩, st99⟩ := Jvm.LawKit.callS X98 hx (y := (⟨"com/example/wary_observer/waryobserver/equivalence/PartitionMarkPinLaw", "in", "(I)Z"⟩ : MethodName)) hown (mvT hZ (hw _ (List.mem_of_getElem? (i := 38) rfl))) (mvT hZ (hw _ (List.mem_of_getElem? (i := 39) rfl))) (mvT hZ (hw _ (List.mem_of_getElem? (i := 40) rfl))) (mvT hZ (hw _ (List.mem_of_getElem? (i := 41) rfl))) (by decide) (backOf (W := 0) (own_rm5 l Z a0 hw [] ((own_mark (own_mark (own_mark (own_mark own_q0 fa1.1) fb1.1) fc1.1) fd1.1).1.getD 2 0) hm19 n0 Zm19 f2) hZ (hw _ (List.mem_of_getElem? (i := 41) rfl)) (hw _ (List.mem_of_getElem? (i := 40) rfl)) (by decide) (by decide)) (g := (mkF m 198 #[.val (.int a1), .val (.int a2), .val (.int a3), .val (.int a4), .val (.int (Int32.ofNat fa1.1)), .val (.int (Int32.ofNat fb1.1)), .val (.int (Int32.ofNat fc1.1)), .val (.int (Int32.ofNat fd1.1)), .val (.ref ob), .val (.ref ea), .val (.int (Int32.ofNat kn)), .val (.int (Int32.ofNat ((own_mark (own_mark (own_mark (own_mark own_q0 fa1.1) fb1.1) fc1.1) fd1.1).1.getD 0 0))), .val (.int (Int32.ofNat ((own_mark (own_mark (own_mark (own_mark own_q0 fa1.1) fb1.1) fc1.1) fd1.1).1.getD 1 0))), .val (.int (Int32.ofNat ((own_mark (own_mark (own_mark (own_mark own_q0 fa1.1) fb1.1) fc1.1) fd1.1).1.getD 2 0))), .val (.int (Int32.ofNat ((own_mark (own_mark (own_mark (own_mark own_q0 fa1.1) fb1.1) fc1.1) fd1.1).1.getD 3 0))), .unset, .unset, .unset] [(.int (Int32.ofNat ((own_mark (own_mark (own_mark (own_mark own_q0 fa1.1) fb1.1) fc1.1) fd1.1).1.getD 2 0)))])) rfl (by rw [hml]; rfl) (argsL := [(.int (Int32.ofNat ((own_mark (own_mark (own_mark (own_mark own_q0 fa1.1) fb1.1) fc1.1) fd1.1).1.getD 2 0)))]) (rest := []) (lenOf own_pd2 rfl) rfl (by show 2 * 0 + _ ≤ _; exact Nat.le_of_eq rfl) (hb hby at_198) (fun _ _ => ⟨rfl, eq98, (by decide : 9 + 0 ≤ _), (by decide : 41 + 0 ≤ _)⟩)
  dsimp only [Pt.U, Pt.locs, Pt.cells, Pt.slots] at X99 l99 y99 z99 st99 hQ99
  subst l99 y99 z99
  obtain ⟨rfl, Nq99, eq99⟩ := hQ99
  have N99 := Fr.app N98 Nq99
  obtain ⟨_, _, ⟨T100, L100, k100, n100⟩, -, X100, ⟨Lc100, hQ100, l100, y100, z100⟩, st100⟩ := Jvm.LawKit.callS X99 hx (y := (⟨"com/example/wary_observer/waryobserver/equivalence/PartitionMarkPinLaw", "in", "(I)Z"⟩ : MethodName)) hown (mvT hZ (hw _ (List.mem_of_getElem? (i := 38) rfl))) (mvT hZ (hw _ (List.mem_of_getElem? (i := 39) rfl))) (mvT hZ (hw _ (List.mem_of_getElem? (i := 40) rfl))) (mvT hZ (hw _ (List.mem_of_getElem? (i := 41) rfl))) (by decide) (backOf (W := 0) (own_rm5 l Z a0 hw [] ((own_mark (own_mark (own_mark (own_mark own_q0 fa1.1) fb1.1) fc1.1) fd1.1).1.getD 3 0) hm19 n0 Zm19 f3) hZ (hw _ (List.mem_of_getElem? (i := 41) rfl)) (hw _ (List.mem_of_getElem? (i := 40) rfl)) (by decide) (by decide)) (g := (mkF m 206 #[.val (.int a1), .val (.int a2), .val (.int a3), .val (.int a4), .val (.int (Int32.ofNat fa1.1)), .val (.int (Int32.ofNat fb1.1)), .val (.int (Int32.ofNat fc1.1)), .val (.int (Int32.ofNat fd1.1)), .val (.ref ob), .val (.ref ea), .val (.int (Int32.ofNat kn)), .val (.int (Int32.ofNat ((own_mark (own_mark (own_mark (own_mark own_q0 fa1.1) fb1.1) fc1.1) fd1.1).1.getD 0 0))), .val (.int (Int32.ofNat ((own_mark (own_mark (own_mark (own_mark own_q0 fa1.1) fb1.1) fc1.1) fd1.1).1.getD 1 0))), .val (.int (Int32.ofNat ((own_mark (own_mark (own_mark (own_mark own_q0 fa1.1) fb1.1) fc1.1) fd1.1).1.getD 2 0))), .val (.int (Int32.ofNat ((own_mark (own_mark (own_mark (own_mark own_q0 fa1.1) fb1.1) fc1.1) fd1.1).1.getD 3 0))), .unset, .unset, .unset] [(.int (Int32.ofNat ((own_mark (own_mark (own_mark (own_mark own_q0 fa1.1) fb1.1) fc1.1) fd1.1).1.getD 3 0)))])) rfl (by rw [hml]; rfl) (argsL := [(.int (Int32.ofNat ((own_mark (own_mark (own_mark (own_mark own_q0 fa1.1) fb1.1) fc1.1) fd1.1).1.getD 3 0)))]) (rest := []) (lenOf own_pd2 rfl) rfl (by show 2 * 0 + _ ≤ _; exact Nat.le_of_eq rfl) (hb hby at_206) (fun _ _ => ⟨rfl, eq99, (by decide : 9 + 0 ≤ _), (by decide : 41 + 0 ≤ _)⟩)
  dsimp only [Pt.U, Pt.locs, Pt.cells, Pt.slots] at X100 l100 y100 z100 st100 hQ100
  subst l100 y100 z100
  obtain ⟨rfl, Nq100, eq100⟩ := hQ100
  have N100 := Fr.app N99 Nq100
  have pre101 : ∀ t, Steps p.tables e below (T100.setTop (mkF m 252 #[.val (.int a1), .val (.int a2), .val (.int a3), .val (.int a4), .val (.int (Int32.ofNat fa1.1)), .val (.int (Int32.ofNat fb1.1)), .val (.int (Int32.ofNat fc1.1)), .val (.int (Int32.ofNat fd1.1)), .val (.ref ob), .val (.ref ea), .val (.int (Int32.ofNat kn)), .val (.int (Int32.ofNat ((own_mark (own_mark (own_mark (own_mark own_q0 fa1.1) fb1.1) fc1.1) fd1.1).1.getD 0 0))), .val (.int (Int32.ofNat ((own_mark (own_mark (own_mark (own_mark own_q0 fa1.1) fb1.1) fc1.1) fd1.1).1.getD 1 0))), .val (.int (Int32.ofNat ((own_mark (own_mark (own_mark (own_mark own_q0 fa1.1) fb1.1) fc1.1) fd1.1).1.getD 2 0))), .val (.int (Int32.ofNat ((own_mark (own_mark (own_mark (own_mark own_q0 fa1.1) fb1.1) fc1.1) fd1.1).1.getD 3 0))), .val (.int (((((1 : Int32) <<< ((Int32.ofNat ((own_mark (own_mark (own_mark (own_mark own_q0 fa1.1) fb1.1) fc1.1) fd1.1).1.getD 0 0)) &&& 31)) ||| ((1 : Int32) <<< ((Int32.ofNat ((own_mark (own_mark (own_mark (own_mark own_q0 fa1.1) fb1.1) fc1.1) fd1.1).1.getD 1 0)) &&& 31))) ||| ((1 : Int32) <<< ((Int32.ofNat ((own_mark (own_mark (own_mark (own_mark own_q0 fa1.1) fb1.1) fc1.1) fd1.1).1.getD 2 0)) &&& 31))) ||| ((1 : Int32) <<< ((Int32.ofNat ((own_mark (own_mark (own_mark (own_mark own_q0 fa1.1) fb1.1) fc1.1) fd1.1).1.getD 3 0)) &&& 31)))), .val (.int (1 : Int32)), .unset] [(.int (1 : Int32)), (.int (Int32.ofNat kn))])) t → Steps p.tables e below (s₁.setTop (entryFrame m #[(.int a1), (.int a2), (.int a3), (.int a4)] maxLocals)) t := by
    intro t kt
    refine pre19 t ?_
    show Steps p.tables e below (T19.setTop (mkF m 148 #[.val (.int a1), .val (.int a2), .val (.int a3), .val (.int a4), .val (.int (Int32.ofNat fa1.1)), .val (.int (Int32.ofNat fb1.1)), .val (.int (Int32.ofNat fc1.1)), .val (.int (Int32.ofNat fd1.1)), .val (.ref ob), .val (.ref ea), .val (.int (Int32.ofNat kn)), .unset, .unset, .unset, .unset, .unset, .unset, .unset] [])) _
    refine XS.aload X19.here hx rfl (hb hby at_148) rfl rfl ?_
    show Steps p.tables e below (T19.setTop (mkF m 150 #[.val (.int a1), .val (.int a2), .val (.int a3), .val (.int a4), .val (.int (Int32.ofNat fa1.1)), .val (.int (Int32.ofNat fb1.1)), .val (.int (Int32.ofNat fc1.1)), .val (.int (Int32.ofNat fd1.1)), .val (.ref ob), .val (.ref ea), .val (.int (Int32.ofNat kn)), .unset, .unset, .unset, .unset, .unset, .unset, .unset] [(.ref ob)])) _
    refine XS.iconst X19.here hx rfl (hb hby at_150) ?_
    show Steps p.tables e below (T19.setTop (mkF m 151 #[.val (.int a1), .val (.int a2), .val (.int a3), .val (.int a4), .val (.int (Int32.ofNat fa1.1)), .val (.int (Int32.ofNat fb1.1)), .val (.int (Int32.ofNat fc1.1)), .val (.int (Int32.ofNat fd1.1)), .val (.ref ob), .val (.ref ea), .val (.int (Int32.ofNat kn)), .unset, .unset, .unset, .unset, .unset, .unset, .unset] [(.int (0 : Int32)), (.ref ob)])) _
    refine st93.trans ?_
    show Steps p.tables e below (T93.setTop (mkF m 154 #[.val (.int a1), .val (.int a2), .val (.int a3), .val (.int a4), .val (.int (Int32.ofNat fa1.1)), .val (.int (Int32.ofNat fb1.1)), .val (.int (Int32.ofNat fc1.1)), .val (.int (Int32.ofNat fd1.1)), .val (.ref ob), .val (.ref ea), .val (.int (Int32.ofNat kn)), .unset, .unset, .unset, .unset, .unset, .unset, .unset] [(.int (Int32.ofNat ((own_mark (own_mark (own_mark (own_mark own_q0 fa1.1) fb1.1) fc1.1) fd1.1).1.getD 0 0)))])) _
    refine XS.istore X93.here hx rfl (hb hby at_154) rfl (l' := #[.val (.int a1), .val (.int a2), .val (.int a3), .val (.int a4), .val (.int (Int32.ofNat fa1.1)), .val (.int (Int32.ofNat fb1.1)), .val (.int (Int32.ofNat fc1.1)), .val (.int (Int32.ofNat fd1.1)), .val (.ref ob), .val (.ref ea), .val (.int (Int32.ofNat kn)), .val (.int (Int32.ofNat ((own_mark (own_mark (own_mark (own_mark own_q0 fa1.1) fb1.1) fc1.1) fd1.1).1.getD 0 0))), .unset, .unset, .unset, .unset, .unset, .unset]) rfl ?_
    show Steps p.tables e below (T93.setTop (mkF m 156 #[.val (.int a1), .val (.int a2), .val (.int a3), .val (.int a4), .val (.int (Int32.ofNat fa1.1)), .val (.int (Int32.ofNat fb1.1)), .val (.int (Int32.ofNat fc1.1)), .val (.int (Int32.ofNat fd1.1)), .val (.ref ob), .val (.ref ea), .val (.int (Int32.ofNat kn)), .val (.int (Int32.ofNat ((own_mark (own_mark (own_mark (own_mark own_q0 fa1.1) fb1.1) fc1.1) fd1.1).1.getD 0 0))), .unset, .unset, .unset, .unset, .unset, .unset] [])) _
    refine XS.aload X93.here hx rfl (hb hby at_156) rfl rfl ?_
    show Steps p.tables e below (T93.setTop (mkF m 158 #[.val (.int a1), .val (.int a2), .val (.int a3), .val (.int a4), .val (.int (Int32.ofNat fa1.1)), .val (.int (Int32.ofNat fb1.1)), .val (.int (Int32.ofNat fc1.1)), .val (.int (Int32.ofNat fd1.1)), .val (.ref ob), .val (.ref ea), .val (.int (Int32.ofNat kn)), .val (.int (Int32.ofNat ((own_mark (own_mark (own_mark (own_mark own_q0 fa1.1) fb1.1) fc1.1) fd1.1).1.getD 0 0))), .unset, .unset, .unset, .unset, .unset, .unset] [(.ref ob)])) _
    refine XS.iconst X93.here hx rfl (hb hby at_158) ?_
    show Steps p.tables e below (T93.setTop (mkF m 159 #[.val (.int a1), .val (.int a2), .val (.int a3), .val (.int a4), .val (.int (Int32.ofNat fa1.1)), .val (.int (Int32.ofNat fb1.1)), .val (.int (Int32.ofNat fc1.1)), .val (.int (Int32.ofNat fd1.1)), .val (.ref ob), .val (.ref ea), .val (.int (Int32.ofNat kn)), .val (.int (Int32.ofNat ((own_mark (own_mark (own_mark (own_mark own_q0 fa1.1) fb1.1) fc1.1) fd1.1).1.getD 0 0))), .unset, .unset, .unset, .unset, .unset, .unset] [(.int (1 : Int32)), (.ref ob)])) _
    refine st94.trans ?_
    show Steps p.tables e below (T94.setTop (mkF m 162 #[.val (.int a1), .val (.int a2), .val (.int a3), .val (.int a4), .val (.int (Int32.ofNat fa1.1)), .val (.int (Int32.ofNat fb1.1)), .val (.int (Int32.ofNat fc1.1)), .val (.int (Int32.ofNat fd1.1)), .val (.ref ob), .val (.ref ea), .val (.int (Int32.ofNat kn)), .val (.int (Int32.ofNat ((own_mark (own_mark (own_mark (own_mark own_q0 fa1.1) fb1.1) fc1.1) fd1.1).1.getD 0 0))), .unset, .unset, .unset, .unset, .unset, .unset] [(.int (Int32.ofNat ((own_mark (own_mark (own_mark (own_mark own_q0 fa1.1) fb1.1) fc1.1) fd1.1).1.getD 1 0)))])) _
    refine XS.istore X94.here hx rfl (hb hby at_162) rfl (l' := #[.val (.int a1), .val (.int a2), .val (.int a3), .val (.int a4), .val (.int (Int32.ofNat fa1.1)), .val (.int (Int32.ofNat fb1.1)), .val (.int (Int32.ofNat fc1.1)), .val (.int (Int32.ofNat fd1.1)), .val (.ref ob), .val (.ref ea), .val (.int (Int32.ofNat kn)), .val (.int (Int32.ofNat ((own_mark (own_mark (own_mark (own_mark own_q0 fa1.1) fb1.1) fc1.1) fd1.1).1.getD 0 0))), .val (.int (Int32.ofNat ((own_mark (own_mark (own_mark (own_mark own_q0 fa1.1) fb1.1) fc1.1) fd1.1).1.getD 1 0))), .unset, .unset, .unset, .unset, .unset]) rfl ?_
    show Steps p.tables e below (T94.setTop (mkF m 164 #[.val (.int a1), .val (.int a2), .val (.int a3), .val (.int a4), .val (.int (Int32.ofNat fa1.1)), .val (.int (Int32.ofNat fb1.1)), .val (.int (Int32.ofNat fc1.1)), .val (.int (Int32.ofNat fd1.1)), .val (.ref ob), .val (.ref ea), .val (.int (Int32.ofNat kn)), .val (.int (Int32.ofNat ((own_mark (own_mark (own_mark (own_mark own_q0 fa1.1) fb1.1) fc1.1) fd1.1).1.getD 0 0))), .val (.int (Int32.ofNat ((own_mark (own_mark (own_mark (own_mark own_q0 fa1.1) fb1.1) fc1.1) fd1.1).1.getD 1 0))), .unset, .unset, .unset, .unset, .unset] [])) _
    refine XS.aload X94.here hx rfl (hb hby at_164) rfl rfl ?_
    show Steps p.tables e below (T94.setTop (mkF m 166 #[.val (.int a1), .val (.int a2), .val (.int a3), .val (.int a4), .val (.int (Int32.ofNat fa1.1)), .val (.int (Int32.ofNat fb1.1)), .val (.int (Int32.ofNat fc1.1)), .val (.int (Int32.ofNat fd1.1)), .val (.ref ob), .val (.ref ea), .val (.int (Int32.ofNat kn)), .val (.int (Int32.ofNat ((own_mark (own_mark (own_mark (own_mark own_q0 fa1.1) fb1.1) fc1.1) fd1.1).1.getD 0 0))), .val (.int (Int32.ofNat ((own_mark (own_mark (own_mark (own_mark own_q0 fa1.1) fb1.1) fc1.1) fd1.1).1.getD 1 0))), .unset, .unset, .unset, .unset, .unset] [(.ref ob)])) _
    refine XS.iconst X94.here hx rfl (hb hby at_166) ?_
    show Steps p.tables e below (T94.setTop (mkF m 167 #[.val (.int a1), .val (.int a2), .val (.int a3), .val (.int a4), .val (.int (Int32.ofNat fa1.1)), .val (.int (Int32.ofNat fb1.1)), .val (.int (Int32.ofNat fc1.1)), .val (.int (Int32.ofNat fd1.1)), .val (.ref ob), .val (.ref ea), .val (.int (Int32.ofNat kn)), .val (.int (Int32.ofNat ((own_mark (own_mark (own_mark (own_mark own_q0 fa1.1) fb1.1) fc1.1) fd1.1).1.getD 0 0))), .val (.int (Int32.ofNat ((own_mark (own_mark (own_mark (own_mark own_q0 fa1.1) fb1.1) fc1.1) fd1.1).1.getD 1 0))), .unset, .unset, .unset, .unset, .unset] [(.int (2 : Int32)), (.ref ob)])) _
    refine st95.trans ?_
    show Steps p.tables e below (T95.setTop (mkF m 170 #[.val (.int a1), .val (.int a2), .val (.int a3), .val (.int a4), .val (.int (Int32.ofNat fa1.1)), .val (.int (Int32.ofNat fb1.1)), .val (.int (Int32.ofNat fc1.1)), .val (.int (Int32.ofNat fd1.1)), .val (.ref ob), .val (.ref ea), .val (.int (Int32.ofNat kn)), .val (.int (Int32.ofNat ((own_mark (own_mark (own_mark (own_mark own_q0 fa1.1) fb1.1) fc1.1) fd1.1).1.getD 0 0))), .val (.int (Int32.ofNat ((own_mark (own_mark (own_mark (own_mark own_q0 fa1.1) fb1.1) fc1.1) fd1.1).1.getD 1 0))), .unset, .unset, .unset, .unset, .unset] [(.int (Int32.ofNat ((own_mark (own_mark (own_mark (own_mark own_q0 fa1.1) fb1.1) fc1.1) fd1.1).1.getD 2 0)))])) _
    refine XS.istore X95.here hx rfl (hb hby at_170) rfl (l' := #[.val (.int a1), .val (.int a2), .val (.int a3), .val (.int a4), .val (.int (Int32.ofNat fa1.1)), .val (.int (Int32.ofNat fb1.1)), .val (.int (Int32.ofNat fc1.1)), .val (.int (Int32.ofNat fd1.1)), .val (.ref ob), .val (.ref ea), .val (.int (Int32.ofNat kn)), .val (.int (Int32.ofNat ((own_mark (own_mark (own_mark (own_mark own_q0 fa1.1) fb1.1) fc1.1) fd1.1).1.getD 0 0))), .val (.int (Int32.ofNat ((own_mark (own_mark (own_mark (own_mark own_q0 fa1.1) fb1.1) fc1.1) fd1.1).1.getD 1 0))), .val (.int (Int32.ofNat ((own_mark (own_mark (own_mark (own_mark own_q0 fa1.1) fb1.1) fc1.1) fd1.1).1.getD 2 0))), .unset, .unset, .unset, .unset]) rfl ?_
    show Steps p.tables e below (T95.setTop (mkF m 172 #[.val (.int a1), .val (.int a2), .val (.int a3), .val (.int a4), .val (.int (Int32.ofNat fa1.1)), .val (.int (Int32.ofNat fb1.1)), .val (.int (Int32.ofNat fc1.1)), .val (.int (Int32.ofNat fd1.1)), .val (.ref ob), .val (.ref ea), .val (.int (Int32.ofNat kn)), .val (.int (Int32.ofNat ((own_mark (own_mark (own_mark (own_mark own_q0 fa1.1) fb1.1) fc1.1) fd1.1).1.getD 0 0))), .val (.int (Int32.ofNat ((own_mark (own_mark (own_mark (own_mark own_q0 fa1.1) fb1.1) fc1.1) fd1.1).1.getD 1 0))), .val (.int (Int32.ofNat ((own_mark (own_mark (own_mark (own_mark own_q0 fa1.1) fb1.1) fc1.1) fd1.1).1.getD 2 0))), .unset, .unset, .unset, .unset] [])) _
    refine XS.aload X95.here hx rfl (hb hby at_172) rfl rfl ?_
    show Steps p.tables e below (T95.setTop (mkF m 174 #[.val (.int a1), .val (.int a2), .val (.int a3), .val (.int a4), .val (.int (Int32.ofNat fa1.1)), .val (.int (Int32.ofNat fb1.1)), .val (.int (Int32.ofNat fc1.1)), .val (.int (Int32.ofNat fd1.1)), .val (.ref ob), .val (.ref ea), .val (.int (Int32.ofNat kn)), .val (.int (Int32.ofNat ((own_mark (own_mark (own_mark (own_mark own_q0 fa1.1) fb1.1) fc1.1) fd1.1).1.getD 0 0))), .val (.int (Int32.ofNat ((own_mark (own_mark (own_mark (own_mark own_q0 fa1.1) fb1.1) fc1.1) fd1.1).1.getD 1 0))), .val (.int (Int32.ofNat ((own_mark (own_mark (own_mark (own_mark own_q0 fa1.1) fb1.1) fc1.1) fd1.1).1.getD 2 0))), .unset, .unset, .unset, .unset] [(.ref ob)])) _
    refine XS.iconst X95.here hx rfl (hb hby at_174) ?_
    show Steps p.tables e below (T95.setTop (mkF m 175 #[.val (.int a1), .val (.int a2), .val (.int a3), .val (.int a4), .val (.int (Int32.ofNat fa1.1)), .val (.int (Int32.ofNat fb1.1)), .val (.int (Int32.ofNat fc1.1)), .val (.int (Int32.ofNat fd1.1)), .val (.ref ob), .val (.ref ea), .val (.int (Int32.ofNat kn)), .val (.int (Int32.ofNat ((own_mark (own_mark (own_mark (own_mark own_q0 fa1.1) fb1.1) fc1.1) fd1.1).1.getD 0 0))), .val (.int (Int32.ofNat ((own_mark (own_mark (own_mark (own_mark own_q0 fa1.1) fb1.1) fc1.1) fd1.1).1.getD 1 0))), .val (.int (Int32.ofNat ((own_mark (own_mark (own_mark (own_mark own_q0 fa1.1) fb1.1) fc1.1) fd1.1).1.getD 2 0))), .unset, .unset, .unset, .unset] [(.int (3 : Int32)), (.ref ob)])) _
    refine st96.trans ?_
    show Steps p.tables e below (T96.setTop (mkF m 178 #[.val (.int a1), .val (.int a2), .val (.int a3), .val (.int a4), .val (.int (Int32.ofNat fa1.1)), .val (.int (Int32.ofNat fb1.1)), .val (.int (Int32.ofNat fc1.1)), .val (.int (Int32.ofNat fd1.1)), .val (.ref ob), .val (.ref ea), .val (.int (Int32.ofNat kn)), .val (.int (Int32.ofNat ((own_mark (own_mark (own_mark (own_mark own_q0 fa1.1) fb1.1) fc1.1) fd1.1).1.getD 0 0))), .val (.int (Int32.ofNat ((own_mark (own_mark (own_mark (own_mark own_q0 fa1.1) fb1.1) fc1.1) fd1.1).1.getD 1 0))), .val (.int (Int32.ofNat ((own_mark (own_mark (own_mark (own_mark own_q0 fa1.1) fb1.1) fc1.1) fd1.1).1.getD 2 0))), .unset, .unset, .unset, .unset] [(.int (Int32.ofNat ((own_mark (own_mark (own_mark (own_mark own_q0 fa1.1) fb1.1) fc1.1) fd1.1).1.getD 3 0)))])) _
    refine XS.istore X96.here hx rfl (hb hby at_178) rfl (l' := #[.val (.int a1), .val (.int a2), .val (.int a3), .val (.int a4), .val (.int (Int32.ofNat fa1.1)), .val (.int (Int32.ofNat fb1.1)), .val (.int (Int32.ofNat fc1.1)), .val (.int (Int32.ofNat fd1.1)), .val (.ref ob), .val (.ref ea), .val (.int (Int32.ofNat kn)), .val (.int (Int32.ofNat ((own_mark (own_mark (own_mark (own_mark own_q0 fa1.1) fb1.1) fc1.1) fd1.1).1.getD 0 0))), .val (.int (Int32.ofNat ((own_mark (own_mark (own_mark (own_mark own_q0 fa1.1) fb1.1) fc1.1) fd1.1).1.getD 1 0))), .val (.int (Int32.ofNat ((own_mark (own_mark (own_mark (own_mark own_q0 fa1.1) fb1.1) fc1.1) fd1.1).1.getD 2 0))), .val (.int (Int32.ofNat ((own_mark (own_mark (own_mark (own_mark own_q0 fa1.1) fb1.1) fc1.1) fd1.1).1.getD 3 0))), .unset, .unset, .unset]) rfl ?_
    show Steps p.tables e below (T96.setTop (mkF m 180 #[.val (.int a1), .val (.int a2), .val (.int a3), .val (.int a4), .val (.int (Int32.ofNat fa1.1)), .val (.int (Int32.ofNat fb1.1)), .val (.int (Int32.ofNat fc1.1)), .val (.int (Int32.ofNat fd1.1)), .val (.ref ob), .val (.ref ea), .val (.int (Int32.ofNat kn)), .val (.int (Int32.ofNat ((own_mark (own_mark (own_mark (own_mark own_q0 fa1.1) fb1.1) fc1.1) fd1.1).1.getD 0 0))), .val (.int (Int32.ofNat ((own_mark (own_mark (own_mark (own_mark own_q0 fa1.1) fb1.1) fc1.1) fd1.1).1.getD 1 0))), .val (.int (Int32.ofNat ((own_mark (own_mark (own_mark (own_mark own_q0 fa1.1) fb1.1) fc1.1) fd1.1).1.getD 2 0))), .val (.int (Int32.ofNat ((own_mark (own_mark (own_mark (own_mark own_q0 fa1.1) fb1.1) fc1.1) fd1.1).1.getD 3 0))), .unset, .unset, .unset] [])) _
    refine XS.iload X96.here hx rfl (hb hby at_180) rfl ?_
    show Steps p.tables e below (T96.setTop (mkF m 182 #[.val (.int a1), .val (.int a2), .val (.int a3), .val (.int a4), .val (.int (Int32.ofNat fa1.1)), .val (.int (Int32.ofNat fb1.1)), .val (.int (Int32.ofNat fc1.1)), .val (.int (Int32.ofNat fd1.1)), .val (.ref ob), .val (.ref ea), .val (.int (Int32.ofNat kn)), .val (.int (Int32.ofNat ((own_mark (own_mark (own_mark (own_mark own_q0 fa1.1) fb1.1) fc1.1) fd1.1).1.getD 0 0))), .val (.int (Int32.ofNat ((own_mark (own_mark (own_mark (own_mark own_q0 fa1.1) fb1.1) fc1.1) fd1.1).1.getD 1 0))), .val (.int (Int32.ofNat ((own_mark (own_mark (own_mark (own_mark own_q0 fa1.1) fb1.1) fc1.1) fd1.1).1.getD 2 0))), .val (.int (Int32.ofNat ((own_mark (own_mark (own_mark (own_mark own_q0 fa1.1) fb1.1) fc1.1) fd1.1).1.getD 3 0))), .unset, .unset, .unset] [(.int (Int32.ofNat ((own_mark (own_mark (own_mark (own_mark own_q0 fa1.1) fb1.1) fc1.1) fd1.1).1.getD 0 0)))])) _
    refine st97 _ ?_
    show Steps p.tables e below (T97.setTop (mkF m 185 #[.val (.int a1), .val (.int a2), .val (.int a3), .val (.int a4), .val (.int (Int32.ofNat fa1.1)), .val (.int (Int32.ofNat fb1.1)), .val (.int (Int32.ofNat fc1.1)), .val (.int (Int32.ofNat fd1.1)), .val (.ref ob), .val (.ref ea), .val (.int (Int32.ofNat kn)), .val (.int (Int32.ofNat ((own_mark (own_mark (own_mark (own_mark own_q0 fa1.1) fb1.1) fc1.1) fd1.1).1.getD 0 0))), .val (.int (Int32.ofNat ((own_mark (own_mark (own_mark (own_mark own_q0 fa1.1) fb1.1) fc1.1) fd1.1).1.getD 1 0))), .val (.int (Int32.ofNat ((own_mark (own_mark (own_mark (own_mark own_q0 fa1.1) fb1.1) fc1.1) fd1.1).1.getD 2 0))), .val (.int (Int32.ofNat ((own_mark (own_mark (own_mark (own_mark own_q0 fa1.1) fb1.1) fc1.1) fd1.1).1.getD 3 0))), .unset, .unset, .unset] [(.int (1 : Int32))])) _
    refine XS.ifNo X97.here hx rfl (hb hby at_185) rfl ((if0 _ _).trans (feq (by decide)).1) ?_
    show Steps p.tables e below (T97.setTop (mkF m 188 #[.val (.int a1), .val (.int a2), .val (.int a3), .val (.int a4), .val (.int (Int32.ofNat fa1.1)), .val (.int (Int32.ofNat fb1.1)), .val (.int (Int32.ofNat fc1.1)), .val (.int (Int32.ofNat fd1.1)), .val (.ref ob), .val (.ref ea), .val (.int (Int32.ofNat kn)), .val (.int (Int32.ofNat ((own_mark (own_mark (own_mark (own_mark own_q0 fa1.1) fb1.1) fc1.1) fd1.1).1.getD 0 0))), .val (.int (Int32.ofNat ((own_mark (own_mark (own_mark (own_mark own_q0 fa1.1) fb1.1) fc1.1) fd1.1).1.getD 1 0))), .val (.int (Int32.ofNat ((own_mark (own_mark (own_mark (own_mark own_q0 fa1.1) fb1.1) fc1.1) fd1.1).1.getD 2 0))), .val (.int (Int32.ofNat ((own_mark (own_mark (own_mark (own_mark own_q0 fa1.1) fb1.1) fc1.1) fd1.1).1.getD 3 0))), .unset, .unset, .unset] [])) _
    refine XS.iload X97.here hx rfl (hb hby at_188) rfl ?_
    show Steps p.tables e below (T97.setTop (mkF m 190 #[.val (.int a1), .val (.int a2), .val (.int a3), .val (.int a4), .val (.int (Int32.ofNat fa1.1)), .val (.int (Int32.ofNat fb1.1)), .val (.int (Int32.ofNat fc1.1)), .val (.int (Int32.ofNat fd1.1)), .val (.ref ob), .val (.ref ea), .val (.int (Int32.ofNat kn)), .val (.int (Int32.ofNat ((own_mark (own_mark (own_mark (own_mark own_q0 fa1.1) fb1.1) fc1.1) fd1.1).1.getD 0 0))), .val (.int (Int32.ofNat ((own_mark (own_mark (own_mark (own_mark own_q0 fa1.1) fb1.1) fc1.1) fd1.1).1.getD 1 0))), .val (.int (Int32.ofNat ((own_mark (own_mark (own_mark (own_mark own_q0 fa1.1) fb1.1) fc1.1) fd1.1).1.getD 2 0))), .val (.int (Int32.ofNat ((own_mark (own_mark (own_mark (own_mark own_q0 fa1.1) fb1.1) fc1.1) fd1.1).1.getD 3 0))), .unset, .unset, .unset] [(.int (Int32.ofNat ((own_mark (own_mark (own_mark (own_mark own_q0 fa1.1) fb1.1) fc1.1) fd1.1).1.getD 1 0)))])) _
    refine st98 _ ?_
    show Steps p.tables e below (T98.setTop (mkF m 193 #[.val (.int a1), .val (.int a2), .val (.int a3), .val (.int a4), .val (.int (Int32.ofNat fa1.1)), .val (.int (Int32.ofNat fb1.1)), .val (.int (Int32.ofNat fc1.1)), .val (.int (Int32.ofNat fd1.1)), .val (.ref ob), .val (.ref ea), .val (.int (Int32.ofNat kn)), .val (.int (Int32.ofNat ((own_mark (own_mark (own_mark (own_mark own_q0 fa1.1) fb1.1) fc1.1) fd1.1).1.getD 0 0))), .val (.int (Int32.ofNat ((own_mark (own_mark (own_mark (own_mark own_q0 fa1.1) fb1.1) fc1.1) fd1.1).1.getD 1 0))), .val (.int (Int32.ofNat ((own_mark (own_mark (own_mark (own_mark own_q0 fa1.1) fb1.1) fc1.1) fd1.1).1.getD 2 0))), .val (.int (Int32.ofNat ((own_mark (own_mark (own_mark (own_mark own_q0 fa1.1) fb1.1) fc1.1) fd1.1).1.getD 3 0))), .unset, .unset, .unset] [(.int (1 : Int32))])) _
    refine XS.ifNo X98.here hx rfl (hb hby at_193) rfl ((if0 _ _).trans (feq (by decide)).1) ?_
    show Steps p.tables e below (T98.setTop (mkF m 196 #[.val (.int a1), .val (.int a2), .val (.int a3), .val (.int a4), .val (.int (Int32.ofNat fa1.1)), .val (.int (Int32.ofNat fb1.1)), .val (.int (Int32.ofNat fc1.1)), .val (.int (Int32.ofNat fd1.1)), .val (.ref ob), .val (.ref ea), .val (.int (Int32.ofNat kn)), .val (.int (Int32.ofNat ((own_mark (own_mark (own_mark (own_mark own_q0 fa1.1) fb1.1) fc1.1) fd1.1).1.getD 0 0))), .val (.int (Int32.ofNat ((own_mark (own_mark (own_mark (own_mark own_q0 fa1.1) fb1.1) fc1.1) fd1.1).1.getD 1 0))), .val (.int (Int32.ofNat ((own_mark (own_mark (own_mark (own_mark own_q0 fa1.1) fb1.1) fc1.1) fd1.1).1.getD 2 0))), .val (.int (Int32.ofNat ((own_mark (own_mark (own_mark (own_mark own_q0 fa1.1) fb1.1) fc1.1) fd1.1).1.getD 3 0))), .unset, .unset, .unset] [])) _
    refine XS.iload X98.here hx rfl (hb hby at_196) rfl ?_
    show Steps p.tables e below (T98.setTop (mkF m 198 #[.val (.int a1), .val (.int a2), .val (.int a3), .val (.int a4), .val (.int (Int32.ofNat fa1.1)), .val (.int (Int32.ofNat fb1.1)), .val (.int (Int32.ofNat fc1.1)), .val (.int (Int32.ofNat fd1.1)), .val (.ref ob), .val (.ref ea), .val (.int (Int32.ofNat kn)), .val (.int (Int32.ofNat ((own_mark (own_mark (own_mark (own_mark own_q0 fa1.1) fb1.1) fc1.1) fd1.1).1.getD 0 0))), .val (.int (Int32.ofNat ((own_mark (own_mark (own_mark (own_mark own_q0 fa1.1) fb1.1) fc1.1) fd1.1).1.getD 1 0))), .val (.int (Int32.ofNat ((own_mark (own_mark (own_mark (own_mark own_q0 fa1.1) fb1.1) fc1.1) fd1.1).1.getD 2 0))), .val (.int (Int32.ofNat ((own_mark (own_mark (own_mark (own_mark own_q0 fa1.1) fb1.1) fc1.1) fd1.1).1.getD 3 0))), .unset, .unset, .unset] [(.int (Int32.ofNat ((own_mark (own_mark (own_mark (own_mark own_q0 fa1.1) fb1.1) fc1.1) fd1.1).1.getD 2 0)))])) _
    refine st99 _ ?_
    show Steps p.tables e below (T99.setTop (mkF m 201 #[.val (.int a1), .val (.int a2), .val (.int a3), .val (.int a4), .val (.int (Int32.ofNat fa1.1)), .val (.int (Int32.ofNat fb1.1)), .val (.int (Int32.ofNat fc1.1)), .val (.int (Int32.ofNat fd1.1)), .val (.ref ob), .val (.ref ea), .val (.int (Int32.ofNat kn)), .val (.int (Int32.ofNat ((own_mark (own_mark (own_mark (own_mark own_q0 fa1.1) fb1.1) fc1.1) fd1.1).1.getD 0 0))), .val (.int (Int32.ofNat ((own_mark (own_mark (own_mark (own_mark own_q0 fa1.1) fb1.1) fc1.1) fd1.1).1.getD 1 0))), .val (.int (Int32.ofNat ((own_mark (own_mark (own_mark (own_mark own_q0 fa1.1) fb1.1) fc1.1) fd1.1).1.getD 2 0))), .val (.int (Int32.ofNat ((own_mark (own_mark (own_mark (own_mark own_q0 fa1.1) fb1.1) fc1.1) fd1.1).1.getD 3 0))), .unset, .unset, .unset] [(.int (1 : Int32))])) _
    refine XS.ifNo X99.here hx rfl (hb hby at_201) rfl ((if0 _ _).trans (feq (by decide)).1) ?_
    show Steps p.tables e below (T99.setTop (mkF m 204 #[.val (.int a1), .val (.int a2), .val (.int a3), .val (.int a4), .val (.int (Int32.ofNat fa1.1)), .val (.int (Int32.ofNat fb1.1)), .val (.int (Int32.ofNat fc1.1)), .val (.int (Int32.ofNat fd1.1)), .val (.ref ob), .val (.ref ea), .val (.int (Int32.ofNat kn)), .val (.int (Int32.ofNat ((own_mark (own_mark (own_mark (own_mark own_q0 fa1.1) fb1.1) fc1.1) fd1.1).1.getD 0 0))), .val (.int (Int32.ofNat ((own_mark (own_mark (own_mark (own_mark own_q0 fa1.1) fb1.1) fc1.1) fd1.1).1.getD 1 0))), .val (.int (Int32.ofNat ((own_mark (own_mark (own_mark (own_mark own_q0 fa1.1) fb1.1) fc1.1) fd1.1).1.getD 2 0))), .val (.int (Int32.ofNat ((own_mark (own_mark (own_mark (own_mark own_q0 fa1.1) fb1.1) fc1.1) fd1.1).1.getD 3 0))), .unset, .unset, .unset] [])) _
    refine XS.iload X99.here hx rfl (hb hby at_204) rfl ?_
    show Steps p.tables e below (T99.setTop (mkF m 206 #[.val (.int a1), .val (.int a2), .val (.int a3), .val (.int a4), .val (.int (Int32.ofNat fa1.1)), .val (.int (Int32.ofNat fb1.1)), .val (.int (Int32.ofNat fc1.1)), .val (.int (Int32.ofNat fd1.1)), .val (.ref ob), .val (.ref ea), .val (.int (Int32.ofNat kn)), .val (.int (Int32.ofNat ((own_mark (own_mark (own_mark (own_mark own_q0 fa1.1) fb1.1) fc1.1) fd1.1).1.getD 0 0))), .val (.int (Int32.ofNat ((own_mark (own_mark (own_mark (own_mark own_q0 fa1.1) fb1.1) fc1.1) fd1.1).1.getD 1 0))), .val (.int (Int32.ofNat ((own_mark (own_mark (own_mark (own_mark own_q0 fa1.1) fb1.1) fc1.1) fd1.1).1.getD 2 0))), .val (.int (Int32.ofNat ((own_mark (own_mark (own_mark (own_mark own_q0 fa1.1) fb1.1) fc1.1) fd1.1).1.getD 3 0))), .unset, .unset, .unset] [(.int (Int32.ofNat ((own_mark (own_mark (own_mark (own_mark own_q0 fa1.1) fb1.1) fc1.1) fd1.1).1.getD 3 0)))])) _
    refine st100 _ ?_
    show Steps p.tables e below (T100.setTop (mkF m 209 #[.val (.int a1), .val (.int a2), .val (.int a3), .val (.int a4), .val (.int (Int32.ofNat fa1.1)), .val (.int (Int32.ofNat fb1.1)), .val (.int (Int32.ofNat fc1.1)), .val (.int (Int32.ofNat fd1.1)), .val (.ref ob), .val (.ref ea), .val (.int (Int32.ofNat kn)), .val (.int (Int32.ofNat ((own_mark (own_mark (own_mark (own_mark own_q0 fa1.1) fb1.1) fc1.1) fd1.1).1.getD 0 0))), .val (.int (Int32.ofNat ((own_mark (own_mark (own_mark (own_mark own_q0 fa1.1) fb1.1) fc1.1) fd1.1).1.getD 1 0))), .val (.int (Int32.ofNat ((own_mark (own_mark (own_mark (own_mark own_q0 fa1.1) fb1.1) fc1.1) fd1.1).1.getD 2 0))), .val (.int (Int32.ofNat ((own_mark (own_mark (own_mark (own_mark own_q0 fa1.1) fb1.1) fc1.1) fd1.1).1.getD 3 0))), .unset, .unset, .unset] [(.int (1 : Int32))])) _
    refine XS.ifYes X100.here hx rfl (pc0 := 209) (pc' := 214) rfl (hb hby at_209) rfl ((if0 _ _).trans (feq (by decide)).2) (by decide) (by decide) ?_
    show Steps p.tables e below (T100.setTop (mkF m 214 #[.val (.int a1), .val (.int a2), .val (.int a3), .val (.int a4), .val (.int (Int32.ofNat fa1.1)), .val (.int (Int32.ofNat fb1.1)), .val (.int (Int32.ofNat fc1.1)), .val (.int (Int32.ofNat fd1.1)), .val (.ref ob), .val (.ref ea), .val (.int (Int32.ofNat kn)), .val (.int (Int32.ofNat ((own_mark (own_mark (own_mark (own_mark own_q0 fa1.1) fb1.1) fc1.1) fd1.1).1.getD 0 0))), .val (.int (Int32.ofNat ((own_mark (own_mark (own_mark (own_mark own_q0 fa1.1) fb1.1) fc1.1) fd1.1).1.getD 1 0))), .val (.int (Int32.ofNat ((own_mark (own_mark (own_mark (own_mark own_q0 fa1.1) fb1.1) fc1.1) fd1.1).1.getD 2 0))), .val (.int (Int32.ofNat ((own_mark (own_mark (own_mark (own_mark own_q0 fa1.1) fb1.1) fc1.1) fd1.1).1.getD 3 0))), .unset, .unset, .unset] [])) _
    refine XS.iconst X100.here hx rfl (hb hby at_214) ?_
    show Steps p.tables e below (T100.setTop (mkF m 215 #[.val (.int a1), .val (.int a2), .val (.int a3), .val (.int a4), .val (.int (Int32.ofNat fa1.1)), .val (.int (Int32.ofNat fb1.1)), .val (.int (Int32.ofNat fc1.1)), .val (.int (Int32.ofNat fd1.1)), .val (.ref ob), .val (.ref ea), .val (.int (Int32.ofNat kn)), .val (.int (Int32.ofNat ((own_mark (own_mark (own_mark (own_mark own_q0 fa1.1) fb1.1) fc1.1) fd1.1).1.getD 0 0))), .val (.int (Int32.ofNat ((own_mark (own_mark (own_mark (own_mark own_q0 fa1.1) fb1.1) fc1.1) fd1.1).1.getD 1 0))), .val (.int (Int32.ofNat ((own_mark (own_mark (own_mark (own_mark own_q0 fa1.1) fb1.1) fc1.1) fd1.1).1.getD 2 0))), .val (.int (Int32.ofNat ((own_mark (own_mark (own_mark (own_mark own_q0 fa1.1) fb1.1) fc1.1) fd1.1).1.getD 3 0))), .unset, .unset, .unset] [(.int (1 : Int32))])) _
    refine XS.iload X100.here hx rfl (hb hby at_215) rfl ?_
    show Steps p.tables e below (T100.setTop (mkF m 217 #[.val (.int a1), .val (.int a2), .val (.int a3), .val (.int a4), .val (.int (Int32.ofNat fa1.1)), .val (.int (Int32.ofNat fb1.1)), .val (.int (Int32.ofNat fc1.1)), .val (.int (Int32.ofNat fd1.1)), .val (.ref ob), .val (.ref ea), .val (.int (Int32.ofNat kn)), .val (.int (Int32.ofNat ((own_mark (own_mark (own_mark (own_mark own_q0 fa1.1) fb1.1) fc1.1) fd1.1).1.getD 0 0))), .val (.int (Int32.ofNat ((own_mark (own_mark (own_mark (own_mark own_q0 fa1.1) fb1.1) fc1.1) fd1.1).1.getD 1 0))), .val (.int (Int32.ofNat ((own_mark (own_mark (own_mark (own_mark own_q0 fa1.1) fb1.1) fc1.1) fd1.1).1.getD 2 0))), .val (.int (Int32.ofNat ((own_mark (own_mark (own_mark (own_mark own_q0 fa1.1) fb1.1) fc1.1) fd1.1).1.getD 3 0))), .unset, .unset, .unset] [(.int (Int32.ofNat ((own_mark (own_mark (own_mark (own_mark own_q0 fa1.1) fb1.1) fc1.1) fd1.1).1.getD 0 0))), (.int (1 : Int32))])) _
    refine XS.ishl X100.here hx rfl (hb hby at_217) rfl ?_
    show Steps p.tables e below (T100.setTop (mkF m 218 #[.val (.int a1), .val (.int a2), .val (.int a3), .val (.int a4), .val (.int (Int32.ofNat fa1.1)), .val (.int (Int32.ofNat fb1.1)), .val (.int (Int32.ofNat fc1.1)), .val (.int (Int32.ofNat fd1.1)), .val (.ref ob), .val (.ref ea), .val (.int (Int32.ofNat kn)), .val (.int (Int32.ofNat ((own_mark (own_mark (own_mark (own_mark own_q0 fa1.1) fb1.1) fc1.1) fd1.1).1.getD 0 0))), .val (.int (Int32.ofNat ((own_mark (own_mark (own_mark (own_mark own_q0 fa1.1) fb1.1) fc1.1) fd1.1).1.getD 1 0))), .val (.int (Int32.ofNat ((own_mark (own_mark (own_mark (own_mark own_q0 fa1.1) fb1.1) fc1.1) fd1.1).1.getD 2 0))), .val (.int (Int32.ofNat ((own_mark (own_mark (own_mark (own_mark own_q0 fa1.1) fb1.1) fc1.1) fd1.1).1.getD 3 0))), .unset, .unset, .unset] [(.int ((1 : Int32) <<< ((Int32.ofNat ((own_mark (own_mark (own_mark (own_mark own_q0 fa1.1) fb1.1) fc1.1) fd1.1).1.getD 0 0)) &&& 31)))])) _
    refine XS.iconst X100.here hx rfl (hb hby at_218) ?_
    show Steps p.tables e below (T100.setTop (mkF m 219 #[.val (.int a1), .val (.int a2), .val (.int a3), .val (.int a4), .val (.int (Int32.ofNat fa1.1)), .val (.int (Int32.ofNat fb1.1)), .val (.int (Int32.ofNat fc1.1)), .val (.int (Int32.ofNat fd1.1)), .val (.ref ob), .val (.ref ea), .val (.int (Int32.ofNat kn)), .val (.int (Int32.ofNat ((own_mark (own_mark (own_mark (own_mark own_q0 fa1.1) fb1.1) fc1.1) fd1.1).1.getD 0 0))), .val (.int (Int32.ofNat ((own_mark (own_mark (own_mark (own_mark own_q0 fa1.1) fb1.1) fc1.1) fd1.1).1.getD 1 0))), .val (.int (Int32.ofNat ((own_mark (own_mark (own_mark (own_mark own_q0 fa1.1) fb1.1) fc1.1) fd1.1).1.getD 2 0))), .val (.int (Int32.ofNat ((own_mark (own_mark (own_mark (own_mark own_q0 fa1.1) fb1.1) fc1.1) fd1.1).1.getD 3 0))), .unset, .unset, .unset] [(.int (1 : Int32)), (.int ((1 : Int32) <<< ((Int32.ofNat ((own_mark (own_mark (own_mark (own_mark own_q0 fa1.1) fb1.1) fc1.1) fd1.1).1.getD 0 0)) &&& 31)))])) _
    refine XS.iload X100.here hx rfl (hb hby at_219) rfl ?_
    show Steps p.tables e below (T100.setTop (mkF m 221 #[.val (.int a1), .val (.int a2), .val (.int a3), .val (.int a4), .val (.int (Int32.ofNat fa1.1)), .val (.int (Int32.ofNat fb1.1)), .val (.int (Int32.ofNat fc1.1)), .val (.int (Int32.ofNat fd1.1)), .val (.ref ob), .val (.ref ea), .val (.int (Int32.ofNat kn)), .val (.int (Int32.ofNat ((own_mark (own_mark (own_mark (own_mark own_q0 fa1.1) fb1.1) fc1.1) fd1.1).1.getD 0 0))), .val (.int (Int32.ofNat ((own_mark (own_mark (own_mark (own_mark own_q0 fa1.1) fb1.1) fc1.1) fd1.1).1.getD 1 0))), .val (.int (Int32.ofNat ((own_mark (own_mark (own_mark (own_mark own_q0 fa1.1) fb1.1) fc1.1) fd1.1).1.getD 2 0))), .val (.int (Int32.ofNat ((own_mark (own_mark (own_mark (own_mark own_q0 fa1.1) fb1.1) fc1.1) fd1.1).1.getD 3 0))), .unset, .unset, .unset] [(.int (Int32.ofNat ((own_mark (own_mark (own_mark (own_mark own_q0 fa1.1) fb1.1) fc1.1) fd1.1).1.getD 1 0))), (.int (1 : Int32)), (.int ((1 : Int32) <<< ((Int32.ofNat ((own_mark (own_mark (own_mark (own_mark own_q0 fa1.1) fb1.1) fc1.1) fd1.1).1.getD 0 0)) &&& 31)))])) _
    refine XS.ishl X100.here hx rfl (hb hby at_221) rfl ?_
    show Steps p.tables e below (T100.setTop (mkF m 222 #[.val (.int a1), .val (.int a2), .val (.int a3), .val (.int a4), .val (.int (Int32.ofNat fa1.1)), .val (.int (Int32.ofNat fb1.1)), .val (.int (Int32.ofNat fc1.1)), .val (.int (Int32.ofNat fd1.1)), .val (.ref ob), .val (.ref ea), .val (.int (Int32.ofNat kn)), .val (.int (Int32.ofNat ((own_mark (own_mark (own_mark (own_mark own_q0 fa1.1) fb1.1) fc1.1) fd1.1).1.getD 0 0))), .val (.int (Int32.ofNat ((own_mark (own_mark (own_mark (own_mark own_q0 fa1.1) fb1.1) fc1.1) fd1.1).1.getD 1 0))), .val (.int (Int32.ofNat ((own_mark (own_mark (own_mark (own_mark own_q0 fa1.1) fb1.1) fc1.1) fd1.1).1.getD 2 0))), .val (.int (Int32.ofNat ((own_mark (own_mark (own_mark (own_mark own_q0 fa1.1) fb1.1) fc1.1) fd1.1).1.getD 3 0))), .unset, .unset, .unset] [(.int ((1 : Int32) <<< ((Int32.ofNat ((own_mark (own_mark (own_mark (own_mark own_q0 fa1.1) fb1.1) fc1.1) fd1.1).1.getD 1 0)) &&& 31))), (.int ((1 : Int32) <<< ((Int32.ofNat ((own_mark (own_mark (own_mark (own_mark own_q0 fa1.1) fb1.1) fc1.1) fd1.1).1.getD 0 0)) &&& 31)))])) _
    refine XS.ior X100.here hx rfl (hb hby at_222) rfl ?_
    show Steps p.tables e below (T100.setTop (mkF m 223 #[.val (.int a1), .val (.int a2), .val (.int a3), .val (.int a4), .val (.int (Int32.ofNat fa1.1)), .val (.int (Int32.ofNat fb1.1)), .val (.int (Int32.ofNat fc1.1)), .val (.int (Int32.ofNat fd1.1)), .val (.ref ob), .val (.ref ea), .val (.int (Int32.ofNat kn)), .val (.int (Int32.ofNat ((own_mark (own_mark (own_mark (own_mark own_q0 fa1.1) fb1.1) fc1.1) fd1.1).1.getD 0 0))), .val (.int (Int32.ofNat ((own_mark (own_mark (own_mark (own_mark own_q0 fa1.1) fb1.1) fc1.1) fd1.1).1.getD 1 0))), .val (.int (Int32.ofNat ((own_mark (own_mark (own_mark (own_mark own_q0 fa1.1) fb1.1) fc1.1) fd1.1).1.getD 2 0))), .val (.int (Int32.ofNat ((own_mark (own_mark (own_mark (own_mark own_q0 fa1.1) fb1.1) fc1.1) fd1.1).1.getD 3 0))), .unset, .unset, .unset] [(.int (((1 : Int32) <<< ((Int32.ofNat ((own_mark (own_mark (own_mark (own_mark own_q0 fa1.1) fb1.1) fc1.1) fd1.1).1.getD 0 0)) &&& 31)) ||| ((1 : Int32) <<< ((Int32.ofNat ((own_mark (own_mark (own_mark (own_mark own_q0 fa1.1) fb1.1) fc1.1) fd1.1).1.getD 1 0)) &&& 31))))])) _
    refine XS.iconst X100.here hx rfl (hb hby at_223) ?_
    show Steps p.tables e below (T100.setTop (mkF m 224 #[.val (.int a1), .val (.int a2), .val (.int a3), .val (.int a4), .val (.int (Int32.ofNat fa1.1)), .val (.int (Int32.ofNat fb1.1)), .val (.int (Int32.ofNat fc1.1)), .val (.int (Int32.ofNat fd1.1)), .val (.ref ob), .val (.ref ea), .val (.int (Int32.ofNat kn)), .val (.int (Int32.ofNat ((own_mark (own_mark (own_mark (own_mark own_q0 fa1.1) fb1.1) fc1.1) fd1.1).1.getD 0 0))), .val (.int (Int32.ofNat ((own_mark (own_mark (own_mark (own_mark own_q0 fa1.1) fb1.1) fc1.1) fd1.1).1.getD 1 0))), .val (.int (Int32.ofNat ((own_mark (own_mark (own_mark (own_mark own_q0 fa1.1) fb1.1) fc1.1) fd1.1).1.getD 2 0))), .val (.int (Int32.ofNat ((own_mark (own_mark (own_mark (own_mark own_q0 fa1.1) fb1.1) fc1.1) fd1.1).1.getD 3 0))), .unset, .unset, .unset] [(.int (1 : Int32)), (.int (((1 : Int32) <<< ((Int32.ofNat ((own_mark (own_mark (own_mark (own_mark own_q0 fa1.1) fb1.1) fc1.1) fd1.1).1.getD 0 0)) &&& 31)) ||| ((1 : Int32) <<< ((Int32.ofNat ((own_mark (own_mark (own_mark (own_mark own_q0 fa1.1) fb1.1) fc1.1) fd1.1).1.getD 1 0)) &&& 31))))])) _
    refine XS.iload X100.here hx rfl (hb hby at_224) rfl ?_
    show Steps p.tables e below (T100.setTop (mkF m 226 #[.val (.int a1), .val (.int a2), .val (.int a3), .val (.int a4), .val (.int (Int32.ofNat fa1.1)), .val (.int (Int32.ofNat fb1.1)), .val (.int (Int32.ofNat fc1.1)), .val (.int (Int32.ofNat fd1.1)), .val (.ref ob), .val (.ref ea), .val (.int (Int32.ofNat kn)), .val (.int (Int32.ofNat ((own_mark (own_mark (own_mark (own_mark own_q0 fa1.1) fb1.1) fc1.1) fd1.1).1.getD 0 0))), .val (.int (Int32.ofNat ((own_mark (own_mark (own_mark (own_mark own_q0 fa1.1) fb1.1) fc1.1) fd1.1).1.getD 1 0))), .val (.int (Int32.ofNat ((own_mark (own_mark (own_mark (own_mark own_q0 fa1.1) fb1.1) fc1.1) fd1.1).1.getD 2 0))), .val (.int (Int32.ofNat ((own_mark (own_mark (own_mark (own_mark own_q0 fa1.1) fb1.1) fc1.1) fd1.1).1.getD 3 0))), .unset, .unset, .unset] [(.int (Int32.ofNat ((own_mark (own_mark (own_mark (own_mark own_q0 fa1.1) fb1.1) fc1.1) fd1.1).1.getD 2 0))), (.int (1 : Int32)), (.int (((1 : Int32) <<< ((Int32.ofNat ((own_mark (own_mark (own_mark (own_mark own_q0 fa1.1) fb1.1) fc1.1) fd1.1).1.getD 0 0)) &&& 31)) ||| ((1 : Int32) <<< ((Int32.ofNat ((own_mark (own_mark (own_mark (own_mark own_q0 fa1.1) fb1.1) fc1.1) fd1.1).1.getD 1 0)) &&& 31))))])) _
    refine XS.ishl X100.here hx rfl (hb hby at_226) rfl ?_
    show Steps p.tables e below (T100.setTop (mkF m 227 #[.val (.int a1), .val (.int a2), .val (.int a3), .val (.int a4), .val (.int (Int32.ofNat fa1.1)), .val (.int (Int32.ofNat fb1.1)), .val (.int (Int32.ofNat fc1.1)), .val (.int (Int32.ofNat fd1.1)), .val (.ref ob), .val (.ref ea), .val (.int (Int32.ofNat kn)), .val (.int (Int32.ofNat ((own_mark (own_mark (own_mark (own_mark own_q0 fa1.1) fb1.1) fc1.1) fd1.1).1.getD 0 0))), .val (.int (Int32.ofNat ((own_mark (own_mark (own_mark (own_mark own_q0 fa1.1) fb1.1) fc1.1) fd1.1).1.getD 1 0))), .val (.int (Int32.ofNat ((own_mark (own_mark (own_mark (own_mark own_q0 fa1.1) fb1.1) fc1.1) fd1.1).1.getD 2 0))), .val (.int (Int32.ofNat ((own_mark (own_mark (own_mark (own_mark own_q0 fa1.1) fb1.1) fc1.1) fd1.1).1.getD 3 0))), .unset, .unset, .unset] [(.int ((1 : Int32) <<< ((Int32.ofNat ((own_mark (own_mark (own_mark (own_mark own_q0 fa1.1) fb1.1) fc1.1) fd1.1).1.getD 2 0)) &&& 31))), (.int (((1 : Int32) <<< ((Int32.ofNat ((own_mark (own_mark (own_mark (own_mark own_q0 fa1.1) fb1.1) fc1.1) fd1.1).1.getD 0 0)) &&& 31)) ||| ((1 : Int32) <<< ((Int32.ofNat ((own_mark (own_mark (own_mark (own_mark own_q0 fa1.1) fb1.1) fc1.1) fd1.1).1.getD 1 0)) &&& 31))))])) _
    refine XS.ior X100.here hx rfl (hb hby at_227) rfl ?_
    show Steps p.tables e below (T100.setTop (mkF m 228 #[.val (.int a1), .val (.int a2), .val (.int a3), .val (.int a4), .val (.int (Int32.ofNat fa1.1)), .val (.int (Int32.ofNat fb1.1)), .val (.int (Int32.ofNat fc1.1)), .val (.int (Int32.ofNat fd1.1)), .val (.ref ob), .val (.ref ea), .val (.int (Int32.ofNat kn)), .val (.int (Int32.ofNat ((own_mark (own_mark (own_mark (own_mark own_q0 fa1.1) fb1.1) fc1.1) fd1.1).1.getD 0 0))), .val (.int (Int32.ofNat ((own_mark (own_mark (own_mark (own_mark own_q0 fa1.1) fb1.1) fc1.1) fd1.1).1.getD 1 0))), .val (.int (Int32.ofNat ((own_mark (own_mark (own_mark (own_mark own_q0 fa1.1) fb1.1) fc1.1) fd1.1).1.getD 2 0))), .val (.int (Int32.ofNat ((own_mark (own_mark (own_mark (own_mark own_q0 fa1.1) fb1.1) fc1.1) fd1.1).1.getD 3 0))), .unset, .unset, .unset] [(.int ((((1 : Int32) <<< ((Int32.ofNat ((own_mark (own_mark (own_mark (own_mark own_q0 fa1.1) fb1.1) fc1.1) fd1.1).1.getD 0 0)) &&& 31)) ||| ((1 : Int32) <<< ((Int32.ofNat ((own_mark (own_mark (own_mark (own_mark own_q0 fa1.1) fb1.1) fc1.1) fd1.1).1.getD 1 0)) &&& 31))) ||| ((1 : Int32) <<< ((Int32.ofNat ((own_mark (own_mark (own_mark (own_mark own_q0 fa1.1) fb1.1) fc1.1) fd1.1).1.getD 2 0)) &&& 31))))])) _
    refine XS.iconst X100.here hx rfl (hb hby at_228) ?_
    show Steps p.tables e below (T100.setTop (mkF m 229 #[.val (.int a1), .val (.int a2), .val (.int a3), .val (.int a4), .val (.int (Int32.ofNat fa1.1)), .val (.int (Int32.ofNat fb1.1)), .val (.int (Int32.ofNat fc1.1)), .val (.int (Int32.ofNat fd1.1)), .val (.ref ob), .val (.ref ea), .val (.int (Int32.ofNat kn)), .val (.int (Int32.ofNat ((own_mark (own_mark (own_mark (own_mark own_q0 fa1.1) fb1.1) fc1.1) fd1.1).1.getD 0 0))), .val (.int (Int32.ofNat ((own_mark (own_mark (own_mark (own_mark own_q0 fa1.1) fb1.1) fc1.1) fd1.1).1.getD 1 0))), .val (.int (Int32.ofNat ((own_mark (own_mark (own_mark (own_mark own_q0 fa1.1) fb1.1) fc1.1) fd1.1).1.getD 2 0))), .val (.int (Int32.ofNat ((own_mark (own_mark (own_mark (own_mark own_q0 fa1.1) fb1.1) fc1.1) fd1.1).1.getD 3 0))), .unset, .unset, .unset] [(.int (1 : Int32)), (.int ((((1 : Int32) <<< ((Int32.ofNat ((own_mark (own_mark (own_mark (own_mark own_q0 fa1.1) fb1.1) fc1.1) fd1.1).1.getD 0 0)) &&& 31)) ||| ((1 : Int32) <<< ((Int32.ofNat ((own_mark (own_mark (own_mark (own_mark own_q0 fa1.1) fb1.1) fc1.1) fd1.1).1.getD 1 0)) &&& 31))) ||| ((1 : Int32) <<< ((Int32.ofNat ((own_mark (own_mark (own_mark (own_mark own_q0 fa1.1) fb1.1) fc1.1) fd1.1).1.getD 2 0)) &&& 31))))])) _
    refine XS.iload X100.here hx rfl (hb hby at_229) rfl ?_
    show Steps p.tables e below (T100.setTop (mkF m 231 #[.val (.int a1), .val (.int a2), .val (.int a3), .val (.int a4), .val (.int (Int32.ofNat fa1.1)), .val (.int (Int32.ofNat fb1.1)), .val (.int (Int32.ofNat fc1.1)), .val (.int (Int32.ofNat fd1.1)), .val (.ref ob), .val (.ref ea), .val (.int (Int32.ofNat kn)), .val (.int (Int32.ofNat ((own_mark (own_mark (own_mark (own_mark own_q0 fa1.1) fb1.1) fc1.1) fd1.1).1.getD 0 0))), .val (.int (Int32.ofNat ((own_mark (own_mark (own_mark (own_mark own_q0 fa1.1) fb1.1) fc1.1) fd1.1).1.getD 1 0))), .val (.int (Int32.ofNat ((own_mark (own_mark (own_mark (own_mark own_q0 fa1.1) fb1.1) fc1.1) fd1.1).1.getD 2 0))), .val (.int (Int32.ofNat ((own_mark (own_mark (own_mark (own_mark own_q0 fa1.1) fb1.1) fc1.1) fd1.1).1.getD 3 0))), .unset, .unset, .unset] [(.int (Int32.ofNat ((own_mark (own_mark (own_mark (own_mark own_q0 fa1.1) fb1.1) fc1.1) fd1.1).1.getD 3 0))), (.int (1 : Int32)), (.int ((((1 : Int32) <<< ((Int32.ofNat ((own_mark (own_mark (own_mark (own_mark own_q0 fa1.1) fb1.1) fc1.1) fd1.1).1.getD 0 0)) &&& 31)) ||| ((1 : Int32) <<< ((Int32.ofNat ((own_mark (own_mark (own_mark (own_mark own_q0 fa1.1) fb1.1) fc1.1) fd1.1).1.getD 1 0)) &&& 31))) ||| ((1 : Int32) <<< ((Int32.ofNat ((own_mark (own_mark (own_mark (own_mark own_q0 fa1.1) fb1.1) fc1.1) fd1.1).1.getD 2 0)) &&& 31))))])) _
    refine XS.ishl X100.here hx rfl (hb hby at_231) rfl ?_
    show Steps p.tables e below (T100.setTop (mkF m 232 #[.val (.int a1), .val (.int a2), .val (.int a3), .val (.int a4), .val (.int (Int32.ofNat fa1.1)), .val (.int (Int32.ofNat fb1.1)), .val (.int (Int32.ofNat fc1.1)), .val (.int (Int32.ofNat fd1.1)), .val (.ref ob), .val (.ref ea), .val (.int (Int32.ofNat kn)), .val (.int (Int32.ofNat ((own_mark (own_mark (own_mark (own_mark own_q0 fa1.1) fb1.1) fc1.1) fd1.1).1.getD 0 0))), .val (.int (Int32.ofNat ((own_mark (own_mark (own_mark (own_mark own_q0 fa1.1) fb1.1) fc1.1) fd1.1).1.getD 1 0))), .val (.int (Int32.ofNat ((own_mark (own_mark (own_mark (own_mark own_q0 fa1.1) fb1.1) fc1.1) fd1.1).1.getD 2 0))), .val (.int (Int32.ofNat ((own_mark (own_mark (own_mark (own_mark own_q0 fa1.1) fb1.1) fc1.1) fd1.1).1.getD 3 0))), .unset, .unset, .unset] [(.int ((1 : Int32) <<< ((Int32.ofNat ((own_mark (own_mark (own_mark (own_mark own_q0 fa1.1) fb1.1) fc1.1) fd1.1).1.getD 3 0)) &&& 31))), (.int ((((1 : Int32) <<< ((Int32.ofNat ((own_mark (own_mark (own_mark (own_mark own_q0 fa1.1) fb1.1) fc1.1) fd1.1).1.getD 0 0)) &&& 31)) ||| ((1 : Int32) <<< ((Int32.ofNat ((own_mark (own_mark (own_mark (own_mark own_q0 fa1.1) fb1.1) fc1.1) fd1.1).1.getD 1 0)) &&& 31))) ||| ((1 : Int32) <<< ((Int32.ofNat ((own_mark (own_mark (own_mark (own_mark own_q0 fa1.1) fb1.1) fc1.1) fd1.1).1.getD 2 0)) &&& 31))))])) _
    refine XS.ior X100.here hx rfl (hb hby at_232) rfl ?_
    show Steps p.tables e below (T100.setTop (mkF m 233 #[.val (.int a1), .val (.int a2), .val (.int a3), .val (.int a4), .val (.int (Int32.ofNat fa1.1)), .val (.int (Int32.ofNat fb1.1)), .val (.int (Int32.ofNat fc1.1)), .val (.int (Int32.ofNat fd1.1)), .val (.ref ob), .val (.ref ea), .val (.int (Int32.ofNat kn)), .val (.int (Int32.ofNat ((own_mark (own_mark (own_mark (own_mark own_q0 fa1.1) fb1.1) fc1.1) fd1.1).1.getD 0 0))), .val (.int (Int32.ofNat ((own_mark (own_mark (own_mark (own_mark own_q0 fa1.1) fb1.1) fc1.1) fd1.1).1.getD 1 0))), .val (.int (Int32.ofNat ((own_mark (own_mark (own_mark (own_mark own_q0 fa1.1) fb1.1) fc1.1) fd1.1).1.getD 2 0))), .val (.int (Int32.ofNat ((own_mark (own_mark (own_mark (own_mark own_q0 fa1.1) fb1.1) fc1.1) fd1.1).1.getD 3 0))), .unset, .unset, .unset] [(.int (((((1 : Int32) <<< ((Int32.ofNat ((own_mark (own_mark (own_mark (own_mark own_q0 fa1.1) fb1.1) fc1.1) fd1.1).1.getD 0 0)) &&& 31)) ||| ((1 : Int32) <<< ((Int32.ofNat ((own_mark (own_mark (own_mark (own_mark own_q0 fa1.1) fb1.1) fc1.1) fd1.1).1.getD 1 0)) &&& 31))) ||| ((1 : Int32) <<< ((Int32.ofNat ((own_mark (own_mark (own_mark (own_mark own_q0 fa1.1) fb1.1) fc1.1) fd1.1).1.getD 2 0)) &&& 31))) ||| ((1 : Int32) <<< ((Int32.ofNat ((own_mark (own_mark (own_mark (own_mark own_q0 fa1.1) fb1.1) fc1.1) fd1.1).1.getD 3 0)) &&& 31))))])) _
    refine XS.istore X100.here hx rfl (hb hby at_233) rfl (l' := #[.val (.int a1), .val (.int a2), .val (.int a3), .val (.int a4), .val (.int (Int32.ofNat fa1.1)), .val (.int (Int32.ofNat fb1.1)), .val (.int (Int32.ofNat fc1.1)), .val (.int (Int32.ofNat fd1.1)), .val (.ref ob), .val (.ref ea), .val (.int (Int32.ofNat kn)), .val (.int (Int32.ofNat ((own_mark (own_mark (own_mark (own_mark own_q0 fa1.1) fb1.1) fc1.1) fd1.1).1.getD 0 0))), .val (.int (Int32.ofNat ((own_mark (own_mark (own_mark (own_mark own_q0 fa1.1) fb1.1) fc1.1) fd1.1).1.getD 1 0))), .val (.int (Int32.ofNat ((own_mark (own_mark (own_mark (own_mark own_q0 fa1.1) fb1.1) fc1.1) fd1.1).1.getD 2 0))), .val (.int (Int32.ofNat ((own_mark (own_mark (own_mark (own_mark own_q0 fa1.1) fb1.1) fc1.1) fd1.1).1.getD 3 0))), .val (.int (((((1 : Int32) <<< ((Int32.ofNat ((own_mark (own_mark (own_mark (own_mark own_q0 fa1.1) fb1.1) fc1.1) fd1.1).1.getD 0 0)) &&& 31)) ||| ((1 : Int32) <<< ((Int32.ofNat ((own_mark (own_mark (own_mark (own_mark own_q0 fa1.1) fb1.1) fc1.1) fd1.1).1.getD 1 0)) &&& 31))) ||| ((1 : Int32) <<< ((Int32.ofNat ((own_mark (own_mark (own_mark (own_mark own_q0 fa1.1) fb1.1) fc1.1) fd1.1).1.getD 2 0)) &&& 31))) ||| ((1 : Int32) <<< ((Int32.ofNat ((own_mark (own_mark (own_mark (own_mark own_q0 fa1.1) fb1.1) fc1.1) fd1.1).1.getD 3 0)) &&& 31)))), .unset, .unset]) rfl ?_
    show Steps p.tables e below (T100.setTop (mkF m 235 #[.val (.int a1), .val (.int a2), .val (.int a3), .val (.int a4), .val (.int (Int32.ofNat fa1.1)), .val (.int (Int32.ofNat fb1.1)), .val (.int (Int32.ofNat fc1.1)), .val (.int (Int32.ofNat fd1.1)), .val (.ref ob), .val (.ref ea), .val (.int (Int32.ofNat kn)), .val (.int (Int32.ofNat ((own_mark (own_mark (own_mark (own_mark own_q0 fa1.1) fb1.1) fc1.1) fd1.1).1.getD 0 0))), .val (.int (Int32.ofNat ((own_mark (own_mark (own_mark (own_mark own_q0 fa1.1) fb1.1) fc1.1) fd1.1).1.getD 1 0))), .val (.int (Int32.ofNat ((own_mark (own_mark (own_mark (own_mark own_q0 fa1.1) fb1.1) fc1.1) fd1.1).1.getD 2 0))), .val (.int (Int32.ofNat ((own_mark (own_mark (own_mark (own_mark own_q0 fa1.1) fb1.1) fc1.1) fd1.1).1.getD 3 0))), .val (.int (((((1 : Int32) <<< ((Int32.ofNat ((own_mark (own_mark (own_mark (own_mark own_q0 fa1.1) fb1.1) fc1.1) fd1.1).1.getD 0 0)) &&& 31)) ||| ((1 : Int32) <<< ((Int32.ofNat ((own_mark (own_mark (own_mark (own_mark own_q0 fa1.1) fb1.1) fc1.1) fd1.1).1.getD 1 0)) &&& 31))) ||| ((1 : Int32) <<< ((Int32.ofNat ((own_mark (own_mark (own_mark (own_mark own_q0 fa1.1) fb1.1) fc1.1) fd1.1).1.getD 2 0)) &&& 31))) ||| ((1 : Int32) <<< ((Int32.ofNat ((own_mark (own_mark (own_mark (own_mark own_q0 fa1.1) fb1.1) fc1.1) fd1.1).1.getD 3 0)) &&& 31)))), .unset, .unset] [])) _
    refine XS.iload X100.here hx rfl (hb hby at_235) rfl ?_
    show Steps p.tables e below (T100.setTop (mkF m 237 #[.val (.int a1), .val (.int a2), .val (.int a3), .val (.int a4), .val (.int (Int32.ofNat fa1.1)), .val (.int (Int32.ofNat fb1.1)), .val (.int (Int32.ofNat fc1.1)), .val (.int (Int32.ofNat fd1.1)), .val (.ref ob), .val (.ref ea), .val (.int (Int32.ofNat kn)), .val (.int (Int32.ofNat ((own_mark (own_mark (own_mark (own_mark own_q0 fa1.1) fb1.1) fc1.1) fd1.1).1.getD 0 0))), .val (.int (Int32.ofNat ((own_mark (own_mark (own_mark (own_mark own_q0 fa1.1) fb1.1) fc1.1) fd1.1).1.getD 1 0))), .val (.int (Int32.ofNat ((own_mark (own_mark (own_mark (own_mark own_q0 fa1.1) fb1.1) fc1.1) fd1.1).1.getD 2 0))), .val (.int (Int32.ofNat ((own_mark (own_mark (own_mark (own_mark own_q0 fa1.1) fb1.1) fc1.1) fd1.1).1.getD 3 0))), .val (.int (((((1 : Int32) <<< ((Int32.ofNat ((own_mark (own_mark (own_mark (own_mark own_q0 fa1.1) fb1.1) fc1.1) fd1.1).1.getD 0 0)) &&& 31)) ||| ((1 : Int32) <<< ((Int32.ofNat ((own_mark (own_mark (own_mark (own_mark own_q0 fa1.1) fb1.1) fc1.1) fd1.1).1.getD 1 0)) &&& 31))) ||| ((1 : Int32) <<< ((Int32.ofNat ((own_mark (own_mark (own_mark (own_mark own_q0 fa1.1) fb1.1) fc1.1) fd1.1).1.getD 2 0)) &&& 31))) ||| ((1 : Int32) <<< ((Int32.ofNat ((own_mark (own_mark (own_mark (own_mark own_q0 fa1.1) fb1.1) fc1.1) fd1.1).1.getD 3 0)) &&& 31)))), .unset, .unset] [(.int (((((1 : Int32) <<< ((Int32.ofNat ((own_mark (own_mark (own_mark (own_mark own_q0 fa1.1) fb1.1) fc1.1) fd1.1).1.getD 0 0)) &&& 31)) ||| ((1 : Int32) <<< ((Int32.ofNat ((own_mark (own_mark (own_mark (own_mark own_q0 fa1.1) fb1.1) fc1.1) fd1.1).1.getD 1 0)) &&& 31))) ||| ((1 : Int32) <<< ((Int32.ofNat ((own_mark (own_mark (own_mark (own_mark own_q0 fa1.1) fb1.1) fc1.1) fd1.1).1.getD 2 0)) &&& 31))) ||| ((1 : Int32) <<< ((Int32.ofNat ((own_mark (own_mark (own_mark (own_mark own_q0 fa1.1) fb1.1) fc1.1) fd1.1).1.getD 3 0)) &&& 31))))])) _
    refine XS.bipush X100.here hx rfl (hb hby at_237) ?_
    show Steps p.tables e below (T100.setTop (mkF m 239 #[.val (.int a1), .val (.int a2), .val (.int a3), .val (.int a4), .val (.int (Int32.ofNat fa1.1)), .val (.int (Int32.ofNat fb1.1)), .val (.int (Int32.ofNat fc1.1)), .val (.int (Int32.ofNat fd1.1)), .val (.ref ob), .val (.ref ea), .val (.int (Int32.ofNat kn)), .val (.int (Int32.ofNat ((own_mark (own_mark (own_mark (own_mark own_q0 fa1.1) fb1.1) fc1.1) fd1.1).1.getD 0 0))), .val (.int (Int32.ofNat ((own_mark (own_mark (own_mark (own_mark own_q0 fa1.1) fb1.1) fc1.1) fd1.1).1.getD 1 0))), .val (.int (Int32.ofNat ((own_mark (own_mark (own_mark (own_mark own_q0 fa1.1) fb1.1) fc1.1) fd1.1).1.getD 2 0))), .val (.int (Int32.ofNat ((own_mark (own_mark (own_mark (own_mark own_q0 fa1.1) fb1.1) fc1.1) fd1.1).1.getD 3 0))), .val (.int (((((1 : Int32) <<< ((Int32.ofNat ((own_mark (own_mark (own_mark (own_mark own_q0 fa1.1) fb1.1) fc1.1) fd1.1).1.getD 0 0)) &&& 31)) ||| ((1 : Int32) <<< ((Int32.ofNat ((own_mark (own_mark (own_mark (own_mark own_q0 fa1.1) fb1.1) fc1.1) fd1.1).1.getD 1 0)) &&& 31))) ||| ((1 : Int32) <<< ((Int32.ofNat ((own_mark (own_mark (own_mark (own_mark own_q0 fa1.1) fb1.1) fc1.1) fd1.1).1.getD 2 0)) &&& 31))) ||| ((1 : Int32) <<< ((Int32.ofNat ((own_mark (own_mark (own_mark (own_mark own_q0 fa1.1) fb1.1) fc1.1) fd1.1).1.getD 3 0)) &&& 31)))), .unset, .unset] [(.int (15 : Int32)), (.int (((((1 : Int32) <<< ((Int32.ofNat ((own_mark (own_mark (own_mark (own_mark own_q0 fa1.1) fb1.1) fc1.1) fd1.1).1.getD 0 0)) &&& 31)) ||| ((1 : Int32) <<< ((Int32.ofNat ((own_mark (own_mark (own_mark (own_mark own_q0 fa1.1) fb1.1) fc1.1) fd1.1).1.getD 1 0)) &&& 31))) ||| ((1 : Int32) <<< ((Int32.ofNat ((own_mark (own_mark (own_mark (own_mark own_q0 fa1.1) fb1.1) fc1.1) fd1.1).1.getD 2 0)) &&& 31))) ||| ((1 : Int32) <<< ((Int32.ofNat ((own_mark (own_mark (own_mark (own_mark own_q0 fa1.1) fb1.1) fc1.1) fd1.1).1.getD 3 0)) &&& 31))))])) _
    refine XS.icmpNo X100.here hx rfl (hb hby at_239) rfl (teq fseen).2 ?_
    show Steps p.tables e below (T100.setTop (mkF m 242 #[.val (.int a1), .val (.int a2), .val (.int a3), .val (.int a4), .val (.int (Int32.ofNat fa1.1)), .val (.int (Int32.ofNat fb1.1)), .val (.int (Int32.ofNat fc1.1)), .val (.int (Int32.ofNat fd1.1)), .val (.ref ob), .val (.ref ea), .val (.int (Int32.ofNat kn)), .val (.int (Int32.ofNat ((own_mark (own_mark (own_mark (own_mark own_q0 fa1.1) fb1.1) fc1.1) fd1.1).1.getD 0 0))), .val (.int (Int32.ofNat ((own_mark (own_mark (own_mark (own_mark own_q0 fa1.1) fb1.1) fc1.1) fd1.1).1.getD 1 0))), .val (.int (Int32.ofNat ((own_mark (own_mark (own_mark (own_mark own_q0 fa1.1) fb1.1) fc1.1) fd1.1).1.getD 2 0))), .val (.int (Int32.ofNat ((own_mark (own_mark (own_mark (own_mark own_q0 fa1.1) fb1.1) fc1.1) fd1.1).1.getD 3 0))), .val (.int (((((1 : Int32) <<< ((Int32.ofNat ((own_mark (own_mark (own_mark (own_mark own_q0 fa1.1) fb1.1) fc1.1) fd1.1).1.getD 0 0)) &&& 31)) ||| ((1 : Int32) <<< ((Int32.ofNat ((own_mark (own_mark (own_mark (own_mark own_q0 fa1.1) fb1.1) fc1.1) fd1.1).1.getD 1 0)) &&& 31))) ||| ((1 : Int32) <<< ((Int32.ofNat ((own_mark (own_mark (own_mark (own_mark own_q0 fa1.1) fb1.1) fc1.1) fd1.1).1.getD 2 0)) &&& 31))) ||| ((1 : Int32) <<< ((Int32.ofNat ((own_mark (own_mark (own_mark (own_mark own_q0 fa1.1) fb1.1) fc1.1) fd1.1).1.getD 3 0)) &&& 31)))), .unset, .unset] [])) _
    refine XS.iconst X100.here hx rfl (hb hby at_242) ?_
    show Steps p.tables e below (T100.setTop (mkF m 243 #[.val (.int a1), .val (.int a2), .val (.int a3), .val (.int a4), .val (.int (Int32.ofNat fa1.1)), .val (.int (Int32.ofNat fb1.1)), .val (.int (Int32.ofNat fc1.1)), .val (.int (Int32.ofNat fd1.1)), .val (.ref ob), .val (.ref ea), .val (.int (Int32.ofNat kn)), .val (.int (Int32.ofNat ((own_mark (own_mark (own_mark (own_mark own_q0 fa1.1) fb1.1) fc1.1) fd1.1).1.getD 0 0))), .val (.int (Int32.ofNat ((own_mark (own_mark (own_mark (own_mark own_q0 fa1.1) fb1.1) fc1.1) fd1.1).1.getD 1 0))), .val (.int (Int32.ofNat ((own_mark (own_mark (own_mark (own_mark own_q0 fa1.1) fb1.1) fc1.1) fd1.1).1.getD 2 0))), .val (.int (Int32.ofNat ((own_mark (own_mark (own_mark (own_mark own_q0 fa1.1) fb1.1) fc1.1) fd1.1).1.getD 3 0))), .val (.int (((((1 : Int32) <<< ((Int32.ofNat ((own_mark (own_mark (own_mark (own_mark own_q0 fa1.1) fb1.1) fc1.1) fd1.1).1.getD 0 0)) &&& 31)) ||| ((1 : Int32) <<< ((Int32.ofNat ((own_mark (own_mark (own_mark (own_mark own_q0 fa1.1) fb1.1) fc1.1) fd1.1).1.getD 1 0)) &&& 31))) ||| ((1 : Int32) <<< ((Int32.ofNat ((own_mark (own_mark (own_mark (own_mark own_q0 fa1.1) fb1.1) fc1.1) fd1.1).1.getD 2 0)) &&& 31))) ||| ((1 : Int32) <<< ((Int32.ofNat ((own_mark (own_mark (own_mark (own_mark own_q0 fa1.1) fb1.1) fc1.1) fd1.1).1.getD 3 0)) &&& 31)))), .unset, .unset] [(.int (1 : Int32))])) _
    refine XS.goto X100.here hx rfl (pc0 := 243) (pc' := 247) rfl (hb hby at_243) (by decide) (by decide) ?_
    show Steps p.tables e below (T100.setTop (mkF m 247 #[.val (.int a1), .val (.int a2), .val (.int a3), .val (.int a4), .val (.int (Int32.ofNat fa1.1)), .val (.int (Int32.ofNat fb1.1)), .val (.int (Int32.ofNat fc1.1)), .val (.int (Int32.ofNat fd1.1)), .val (.ref ob), .val (.ref ea), .val (.int (Int32.ofNat kn)), .val (.int (Int32.ofNat ((own_mark (own_mark (own_mark (own_mark own_q0 fa1.1) fb1.1) fc1.1) fd1.1).1.getD 0 0))), .val (.int (Int32.ofNat ((own_mark (own_mark (own_mark (own_mark own_q0 fa1.1) fb1.1) fc1.1) fd1.1).1.getD 1 0))), .val (.int (Int32.ofNat ((own_mark (own_mark (own_mark (own_mark own_q0 fa1.1) fb1.1) fc1.1) fd1.1).1.getD 2 0))), .val (.int (Int32.ofNat ((own_mark (own_mark (own_mark (own_mark own_q0 fa1.1) fb1.1) fc1.1) fd1.1).1.getD 3 0))), .val (.int (((((1 : Int32) <<< ((Int32.ofNat ((own_mark (own_mark (own_mark (own_mark own_q0 fa1.1) fb1.1) fc1.1) fd1.1).1.getD 0 0)) &&& 31)) ||| ((1 : Int32) <<< ((Int32.ofNat ((own_mark (own_mark (own_mark (own_mark own_q0 fa1.1) fb1.1) fc1.1) fd1.1).1.getD 1 0)) &&& 31))) ||| ((1 : Int32) <<< ((Int32.ofNat ((own_mark (own_mark (own_mark (own_mark own_q0 fa1.1) fb1.1) fc1.1) fd1.1).1.getD 2 0)) &&& 31))) ||| ((1 : Int32) <<< ((Int32.ofNat ((own_mark (own_mark (own_mark (own_mark own_q0 fa1.1) fb1.1) fc1.1) fd1.1).1.getD 3 0)) &&& 31)))), .unset, .unset] [(.int (1 : Int32))])) _
    refine XS.istore X100.here hx rfl (hb hby at_247) rfl (l' := #[.val (.int a1), .val (.int a2), .val (.int a3), .val (.int a4), .val (.int (Int32.ofNat fa1.1)), .val (.int (Int32.ofNat fb1.1)), .val (.int (Int32.ofNat fc1.1)), .val (.int (Int32.ofNat fd1.1)), .val (.ref ob), .val (.ref ea), .val (.int (Int32.ofNat kn)), .val (.int (Int32.ofNat ((own_mark (own_mark (own_mark (own_mark own_q0 fa1.1) fb1.1) fc1.1) fd1.1).1.getD 0 0))), .val (.int (Int32.ofNat ((own_mark (own_mark (own_mark (own_mark own_q0 fa1.1) fb1.1) fc1.1) fd1.1).1.getD 1 0))), .val (.int (Int32.ofNat ((own_mark (own_mark (own_mark (own_mark own_q0 fa1.1) fb1.1) fc1.1) fd1.1).1.getD 2 0))), .val (.int (Int32.ofNat ((own_mark (own_mark (own_mark (own_mark own_q0 fa1.1) fb1.1) fc1.1) fd1.1).1.getD 3 0))), .val (.int (((((1 : Int32) <<< ((Int32.ofNat ((own_mark (own_mark (own_mark (own_mark own_q0 fa1.1) fb1.1) fc1.1) fd1.1).1.getD 0 0)) &&& 31)) ||| ((1 : Int32) <<< ((Int32.ofNat ((own_mark (own_mark (own_mark (own_mark own_q0 fa1.1) fb1.1) fc1.1) fd1.1).1.getD 1 0)) &&& 31))) ||| ((1 : Int32) <<< ((Int32.ofNat ((own_mark (own_mark (own_mark (own_mark own_q0 fa1.1) fb1.1) fc1.1) fd1.1).1.getD 2 0)) &&& 31))) ||| ((1 : Int32) <<< ((Int32.ofNat ((own_mark (own_mark (own_mark (own_mark own_q0 fa1.1) fb1.1) fc1.1) fd1.1).1.getD 3 0)) &&& 31)))), .val (.int (1 : Int32)), .unset]) rfl ?_
    show Steps p.tables e below (T100.setTop (mkF m 249 #[.val (.int a1), .val (.int a2), .val (.int a3), .val (.int a4), .val (.int (Int32.ofNat fa1.1)), .val (.int (Int32.ofNat fb1.1)), .val (.int (Int32.ofNat fc1.1)), .val (.int (Int32.ofNat fd1.1)), .val (.ref ob), .val (.ref ea), .val (.int (Int32.ofNat kn)), .val (.int (Int32.ofNat ((own_mark (own_mark (own_mark (own_mark own_q0 fa1.1) fb1.1) fc1.1) fd1.1).1.getD 0 0))), .val (.int (Int32.ofNat ((own_mark (own_mark (own_mark (own_mark own_q0 fa1.1) fb1.1) fc1.1) fd1.1).1.getD 1 0))), .val (.int (Int32.ofNat ((own_mark (own_mark (own_mark (own_mark own_q0 fa1.1) fb1.1) fc1.1) fd1.1).1.getD 2 0))), .val (.int (Int32.ofNat ((own_mark (own_mark (own_mark (own_mark own_q0 fa1.1) fb1.1) fc1.1) fd1.1).1.getD 3 0))), .val (.int (((((1 : Int32) <<< ((Int32.ofNat ((own_mark (own_mark (own_mark (own_mark own_q0 fa1.1) fb1.1) fc1.1) fd1.1).1.getD 0 0)) &&& 31)) ||| ((1 : Int32) <<< ((Int32.ofNat ((own_mark (own_mark (own_mark (own_mark own_q0 fa1.1) fb1.1) fc1.1) fd1.1).1.getD 1 0)) &&& 31))) ||| ((1 : Int32) <<< ((Int32.ofNat ((own_mark (own_mark (own_mark (own_mark own_q0 fa1.1) fb1.1) fc1.1) fd1.1).1.getD 2 0)) &&& 31))) ||| ((1 : Int32) <<< ((Int32.ofNat ((own_mark (own_mark (own_mark (own_mark own_q0 fa1.1) fb1.1) fc1.1) fd1.1).1.getD 3 0)) &&& 31)))), .val (.int (1 : Int32)), .unset] [])) _
    refine XS.iload X100.here hx rfl (hb hby at_249) rfl ?_
    show Steps p.tables e below (T100.setTop (mkF m 251 #[.val (.int a1), .val (.int a2), .val (.int a3), .val (.int a4), .val (.int (Int32.ofNat fa1.1)), .val (.int (Int32.ofNat fb1.1)), .val (.int (Int32.ofNat fc1.1)), .val (.int (Int32.ofNat fd1.1)), .val (.ref ob), .val (.ref ea), .val (.int (Int32.ofNat kn)), .val (.int (Int32.ofNat ((own_mark (own_mark (own_mark (own_mark own_q0 fa1.1) fb1.1) fc1.1) fd1.1).1.getD 0 0))), .val (.int (Int32.ofNat ((own_mark (own_mark (own_mark (own_mark own_q0 fa1.1) fb1.1) fc1.1) fd1.1).1.getD 1 0))), .val (.int (Int32.ofNat ((own_mark (own_mark (own_mark (own_mark own_q0 fa1.1) fb1.1) fc1.1) fd1.1).1.getD 2 0))), .val (.int (Int32.ofNat ((own_mark (own_mark (own_mark (own_mark own_q0 fa1.1) fb1.1) fc1.1) fd1.1).1.getD 3 0))), .val (.int (((((1 : Int32) <<< ((Int32.ofNat ((own_mark (own_mark (own_mark (own_mark own_q0 fa1.1) fb1.1) fc1.1) fd1.1).1.getD 0 0)) &&& 31)) ||| ((1 : Int32) <<< ((Int32.ofNat ((own_mark (own_mark (own_mark (own_mark own_q0 fa1.1) fb1.1) fc1.1) fd1.1).1.getD 1 0)) &&& 31))) ||| ((1 : Int32) <<< ((Int32.ofNat ((own_mark (own_mark (own_mark (own_mark own_q0 fa1.1) fb1.1) fc1.1) fd1.1).1.getD 2 0)) &&& 31))) ||| ((1 : Int32) <<< ((Int32.ofNat ((own_mark (own_mark (own_mark (own_mark own_q0 fa1.1) fb1.1) fc1.1) fd1.1).1.getD 3 0)) &&& 31)))), .val (.int (1 : Int32)), .unset] [(.int (Int32.ofNat kn))])) _
    refine XS.iconst X100.here hx rfl (hb hby at_251) ?_
    exact kt
  obtain ⟨T102, Lc102, od, X102, e102, N102, hp102, pre102⟩ : ∃ (T102 : State) (Lc102 : List Loc) (od : Int32), Stand p l e room_1 s m #[(.int a1), (.int a2), (.int a3), (.int a4)] below meth c T102 Lc102 9 41 ∧ T102.heap = hm19 ∧ Fr n0 Lc102 ∧ (od = 1) ∧ ∀ t, Steps p.tables e below (T102.setTop (mkF m 314 #[.val (.int a1), .val (.int a2), .val (.int a3), .val (.int a4), .val (.int (Int32.ofNat fa1.1)), .val (.int (Int32.ofNat fb1.1)), .val (.int (Int32.ofNat fc1.1)), .val (.int (Int32.ofNat fd1.1)), .val (.ref ob), .val (.ref ea), .val (.int (Int32.ofNat kn)), .val (.int (Int32.ofNat ((own_mark (own_mark (own_mark (own_mark own_q0 fa1.1) fb1.1) fc1.1) fd1.1).1.getD 0 0))), .val (.int (Int32.ofNat ((own_mark (own_mark (own_mark (own_mark own_q0 fa1.1) fb1.1) fc1.1) fd1.1).1.getD 1 0))), .val (.int (Int32.ofNat ((own_mark (own_mark (own_mark (own_mark own_q0 fa1.1) fb1.1) fc1.1) fd1.1).1.getD 2 0))), .val (.int (Int32.ofNat ((own_mark (own_mark (own_mark (own_mark own_q0 fa1.1) fb1.1) fc1.1) fd1.1).1.getD 3 0))), .val (.int (((((1 : Int32) <<< ((Int32.ofNat ((own_mark (own_mark (own_mark (own_mark own_q0 fa1.1) fb1.1) fc1.1) fd1.1).1.getD 0 0)) &&& 31)) ||| ((1 : Int32) <<< ((Int32.ofNat ((own_mark (own_mark (own_mark (own_mark own_q0 fa1.1) fb1.1) fc1.1) fd1.1).1.getD 1 0)) &&& 31))) ||| ((1 : Int32) <<< ((Int32.ofNat ((own_mark (own_mark (own_mark (own_mark own_q0 fa1.1) fb1.1) fc1.1) fd1.1).1.getD 2 0)) &&& 31))) ||| ((1 : Int32) <<< ((Int32.ofNat ((own_mark (own_mark (own_mark (own_mark own_q0 fa1.1) fb1.1) fc1.1) fd1.1).1.getD 3 0)) &&& 31)))), .val (.int (1 : Int32)), .unset] [(.int od)])) t → Steps p.tables e below (s₁.setTop (entryFrame m #[(.int a1), (.int a2), (.int a3), (.int a4)] maxLocals)) t := by
    have ld103 := (own_ldI X100 hx hZ eq100 V_ea (j := (0 : Int32)) (by decide) (k := 0) rfl (by decide) (v := (.int (Int32.ofNat (el.getD 0 0)))) rfl (g := (mkF m 260 #[.val (.int a1), .val (.int a2), .val (.int a3), .val (.int a4), .val (.int (Int32.ofNat fa1.1)), .val (.int (Int32.ofNat fb1.1)), .val (.int (Int32.ofNat fc1.1)), .val (.int (Int32.ofNat fd1.1)), .val (.ref ob), .val (.ref ea), .val (.int (Int32.ofNat kn)), .val (.int (Int32.ofNat ((own_mark (own_mark (own_mark (own_mark own_q0 fa1.1) fb1.1) fc1.1) fd1.1).1.getD 0 0))), .val (.int (Int32.ofNat ((own_mark (own_mark (own_mark (own_mark own_q0 fa1.1) fb1.1) fc1.1) fd1.1).1.getD 1 0))), .val (.int (Int32.ofNat ((own_mark (own_mark (own_mark (own_mark own_q0 fa1.1) fb1.1) fc1.1) fd1.1).1.getD 2 0))), .val (.int (Int32.ofNat ((own_mark (own_mark (own_mark (own_mark own_q0 fa1.1) fb1.1) fc1.1) fd1.1).1.getD 3 0))), .val (.int (((((1 : Int32) <<< ((Int32.ofNat ((own_mark (own_mark (own_mark (own_mark own_q0 fa1.1) fb1.1) fc1.1) fd1.1).1.getD 0 0)) &&& 31)) ||| ((1 : Int32) <<< ((Int32.ofNat ((own_mark (own_mark (own_mark (own_mark own_q0 fa1.1) fb1.1) fc1.1) fd1.1).1.getD 1 0)) &&& 31))) ||| ((1 : Int32) <<< ((Int32.ofNat ((own_mark (own_mark (own_mark (own_mark own_q0 fa1.1) fb1.1) fc1.1) fd1.1).1.getD 2 0)) &&& 31))) ||| ((1 : Int32) <<< ((Int32.ofNat ((own_mark (own_mark (own_mark (own_mark own_q0 fa1.1) fb1.1) fc1.1) fd1.1).1.getD 3 0)) &&& 31)))), .val (.int (1 : Int32)), .unset] [(.int (0 : Int32)), (.ref ea), (.int (Int32.ofNat ((own_mark (own_mark (own_mark (own_mark own_q0 fa1.1) fb1.1) fc1.1) fd1.1).1.getD 0 0)))])) rfl rfl (hb hby at_260))
    have pre104 : ∀ t, Steps p.tables e below (T100.setTop (mkF m 267 #[.val (.int a1), .val (.int a2), .val (.int a3), .val (.int a4), .val (.int (Int32.ofNat fa1.1)), .val (.int (Int32.ofNat fb1.1)), .val (.int (Int32.ofNat fc1.1)), .val (.int (Int32.ofNat fd1.1)), .val (.ref ob), .val (.ref ea), .val (.int (Int32.ofNat kn)), .val (.int (Int32.ofNat ((own_mark (own_mark (own_mark (own_mark own_q0 fa1.1) fb1.1) fc1.1) fd1.1).1.getD 0 0))), .val (.int (Int32.ofNat ((own_mark (own_mark (own_mark (own_mark own_q0 fa1.1) fb1.1) fc1.1) fd1.1).1.getD 1 0))), .val (.int (Int32.ofNat ((own_mark (own_mark (own_mark (own_mark own_q0 fa1.1) fb1.1) fc1.1) fd1.1).1.getD 2 0))), .val (.int (Int32.ofNat ((own_mark (own_mark (own_mark (own_mark own_q0 fa1.1) fb1.1) fc1.1) fd1.1).1.getD 3 0))), .val (.int (((((1 : Int32) <<< ((Int32.ofNat ((own_mark (own_mark (own_mark (own_mark own_q0 fa1.1) fb1.1) fc1.1) fd1.1).1.getD 0 0)) &&& 31)) ||| ((1 : Int32) <<< ((Int32.ofNat ((own_mark (own_mark (own_mark (own_mark own_q0 fa1.1) fb1.1) fc1.1) fd1.1).1.getD 1 0)) &&& 31))) ||| ((1 : Int32) <<< ((Int32.ofNat ((own_mark (own_mark (own_mark (own_mark own_q0 fa1.1) fb1.1) fc1.1) fd1.1).1.getD 2 0)) &&& 31))) ||| ((1 : Int32) <<< ((Int32.ofNat ((own_mark (own_mark (own_mark (own_mark own_q0 fa1.1) fb1.1) fc1.1) fd1.1).1.getD 3 0)) &&& 31)))), .val (.int (1 : Int32)), .unset] [(.int (2 : Int32)), (.int (Int32.ofNat kn))])) t → Steps p.tables e below (s₁.setTop (entryFrame m #[(.int a1), (.int a2), (.int a3), (.int a4)] maxLocals)) t := by
      intro t kt
      refine pre101 t ?_
      show Steps p.tables e below (T100.setTop (mkF m 252 #[.val (.int a1), .val (.int a2), .val (.int a3), .val (.int a4), .val (.int (Int32.ofNat fa1.1)), .val (.int (Int32.ofNat fb1.1)), .val (.int (Int32.ofNat fc1.1)), .val (.int (Int32.ofNat fd1.1)), .val (.ref ob), .val (.ref ea), .val (.int (Int32.ofNat kn)), .val (.int (Int32.ofNat ((own_mark (own_mark (own_mark (own_mark own_q0 fa1.1) fb1.1) fc1.1) fd1.1).1.getD 0 0))), .val (.int (Int32.ofNat ((own_mark (own_mark (own_mark (own_mark own_q0 fa1.1) fb1.1) fc1.1) fd1.1).1.getD 1 0))), .val (.int (Int32.ofNat ((own_mark (own_mark (own_mark (own_mark own_q0 fa1.1) fb1.1) fc1.1) fd1.1).1.getD 2 0))), .val (.int (Int32.ofNat ((own_mark (own_mark (own_mark (own_mark own_q0 fa1.1) fb1.1) fc1.1) fd1.1).1.getD 3 0))), .val (.int (((((1 : Int32) <<< ((Int32.ofNat ((own_mark (own_mark (own_mark (own_mark own_q0 fa1.1) fb1.1) fc1.1) fd1.1).1.getD 0 0)) &&& 31)) ||| ((1 : Int32) <<< ((Int32.ofNat ((own_mark (own_mark (own_mark (own_mark own_q0 fa1.1) fb1.1) fc1.1) fd1.1).1.getD 1 0)) &&& 31))) ||| ((1 : Int32) <<< ((Int32.ofNat ((own_mark (own_mark (own_mark (own_mark own_q0 fa1.1) fb1.1) fc1.1) fd1.1).1.getD 2 0)) &&& 31))) ||| ((1 : Int32) <<< ((Int32.ofNat ((own_mark (own_mark (own_mark (own_mark own_q0 fa1.1) fb1.1) fc1.1) fd1.1).1.getD 3 0)) &&& 31)))), .val (.int (1 : Int32)), .unset] [(.int (1 : Int32)), (.int (Int32.ofNat kn))])) _
      refine XS.icmpNo X100.here hx rfl (hb hby at_252) rfl (flt (fun w => fk1 ((own_ltn (by omega) (by decide)).mp w))).1 ?_
      show Steps p.tables e below (T100.setTop (mkF m 255 #[.val (.int a1), .val (.int a2), .val (.int a3), .val (.int a4), .val (.int (Int32.ofNat fa1.1)), .val (.int (Int32.ofNat fb1.1)), .val (.int (Int32.ofNat fc1.1)), .val (.int (Int32.ofNat fd1.1)), .val (.ref ob), .val (.ref ea), .val (.int (Int32.ofNat kn)), .val (.int (Int32.ofNat ((own_mark (own_mark (own_mark (own_mark own_q0 fa1.1) fb1.1) fc1.1) fd1.1).1.getD 0 0))), .val (.int (Int32.ofNat ((own_mark (own_mark (own_mark (own_mark own_q0 fa1.1) fb1.1) fc1.1) fd1.1).1.getD 1 0))), .val (.int (Int32.ofNat ((own_mark (own_mark (own_mark (own_mark own_q0 fa1.1) fb1.1) fc1.1) fd1.1).1.getD 2 0))), .val (.int (Int32.ofNat ((own_mark (own_mark (own_mark (own_mark own_q0 fa1.1) fb1.1) fc1.1) fd1.1).1.getD 3 0))), .val (.int (((((1 : Int32) <<< ((Int32.ofNat ((own_mark (own_mark (own_mark (own_mark own_q0 fa1.1) fb1.1) fc1.1) fd1.1).1.getD 0 0)) &&& 31)) ||| ((1 : Int32) <<< ((Int32.ofNat ((own_mark (own_mark (own_mark (own_mark own_q0 fa1.1) fb1.1) fc1.1) fd1.1).1.getD 1 0)) &&& 31))) ||| ((1 : Int32) <<< ((Int32.ofNat ((own_mark (own_mark (own_mark (own_mark own_q0 fa1.1) fb1.1) fc1.1) fd1.1).1.getD 2 0)) &&& 31))) ||| ((1 : Int32) <<< ((Int32.ofNat ((own_mark (own_mark (own_mark (own_mark own_q0 fa1.1) fb1.1) fc1.1) fd1.1).1.getD 3 0)) &&& 31)))), .val (.int (1 : Int32)), .unset] [])) _
      refine XS.iload X100.here hx rfl (hb hby at_255) rfl ?_
      show Steps p.tables e below (T100.setTop (mkF m 257 #[.val (.int a1), .val (.int a2), .val (.int a3), .val (.int a4), .val (.int (Int32.ofNat fa1.1)), .val (.int (Int32.ofNat fb1.1)), .val (.int (Int32.ofNat fc1.1)), .val (.int (Int32.ofNat fd1.1)), .val (.ref ob), .val (.ref ea), .val (.int (Int32.ofNat kn)), .val (.int (Int32.ofNat ((own_mark (own_mark (own_mark (own_mark own_q0 fa1.1) fb1.1) fc1.1) fd1.1).1.getD 0 0))), .val (.int (Int32.ofNat ((own_mark (own_mark (own_mark (own_mark own_q0 fa1.1) fb1.1) fc1.1) fd1.1).1.getD 1 0))), .val (.int (Int32.ofNat ((own_mark (own_mark (own_mark (own_mark own_q0 fa1.1) fb1.1) fc1.1) fd1.1).1.getD 2 0))), .val (.int (Int32.ofNat ((own_mark (own_mark (own_mark (own_mark own_q0 fa1.1) fb1.1) fc1.1) fd1.1).1.getD 3 0))), .val (.int (((((1 : Int32) <<< ((Int32.ofNat ((own_mark (own_mark (own_mark (own_mark own_q0 fa1.1) fb1.1) fc1.1) fd1.1).1.getD 0 0)) &&& 31)) ||| ((1 : Int32) <<< ((Int32.ofNat ((own_mark (own_mark (own_mark (own_mark own_q0 fa1.1) fb1.1) fc1.1) fd1.1).1.getD 1 0)) &&& 31))) ||| ((1 : Int32) <<< ((Int32.ofNat ((own_mark (own_mark (own_mark (own_mark own_q0 fa1.1) fb1.1) fc1.1) fd1.1).1.getD 2 0)) &&& 31))) ||| ((1 : Int32) <<< ((Int32.ofNat ((own_mark (own_mark (own_mark (own_mark own_q0 fa1.1) fb1.1) fc1.1) fd1.1).1.getD 3 0)) &&& 31)))), .val (.int (1 : Int32)), .unset] [(.int (Int32.ofNat ((own_mark (own_mark (own_mark (own_mark own_q0 fa1.1) fb1.1) fc1.1) fd1.1).1.getD 0 0)))])) _
      refine XS.aload X100.here hx rfl (hb hby at_257) rfl rfl ?_
      show Steps p.tables e below (T100.setTop (mkF m 259 #[.val (.int a1), .val (.int a2), .val (.int a3), .val (.int a4), .val (.int (Int32.ofNat fa1.1)), .val (.int (Int32.ofNat fb1.1)), .val (.int (Int32.ofNat fc1.1)), .val (.int (Int32.ofNat fd1.1)), .val (.ref ob), .val (.ref ea), .val (.int (Int32.ofNat kn)), .val (.int (Int32.ofNat ((own_mark (own_mark (own_mark (own_mark own_q0 fa1.1) fb1.1) fc1.1) fd1.1).1.getD 0 0))), .val (.int (Int32.ofNat ((own_mark (own_mark (own_mark (own_mark own_q0 fa1.1) fb1.1) fc1.1) fd1.1).1.getD 1 0))), .val (.int (Int32.ofNat ((own_mark (own_mark (own_mark (own_mark own_q0 fa1.1) fb1.1) fc1.1) fd1.1).1.getD 2 0))), .val (.int (Int32.ofNat ((own_mark (own_mark (own_mark (own_mark own_q0 fa1.1) fb1.1) fc1.1) fd1.1).1.getD 3 0))), .val (.int (((((1 : Int32) <<< ((Int32.ofNat ((own_mark (own_mark (own_mark (own_mark own_q0 fa1.1) fb1.1) fc1.1) fd1.1).1.getD 0 0)) &&& 31)) ||| ((1 : Int32) <<< ((Int32.ofNat ((own_mark (own_mark (own_mark (own_mark own_q0 fa1.1) fb1.1) fc1.1) fd1.1).1.getD 1 0)) &&& 31))) ||| ((1 : Int32) <<< ((Int32.ofNat ((own_mark (own_mark (own_mark (own_mark own_q0 fa1.1) fb1.1) fc1.1) fd1.1).1.getD 2 0)) &&& 31))) ||| ((1 : Int32) <<< ((Int32.ofNat ((own_mark (own_mark (own_mark (own_mark own_q0 fa1.1) fb1.1) fc1.1) fd1.1).1.getD 3 0)) &&& 31)))), .val (.int (1 : Int32)), .unset] [(.ref ea), (.int (Int32.ofNat ((own_mark (own_mark (own_mark (own_mark own_q0 fa1.1) fb1.1) fc1.1) fd1.1).1.getD 0 0)))])) _
      refine XS.iconst X100.here hx rfl (hb hby at_259) ?_
      show Steps p.tables e below (T100.setTop (mkF m 260 #[.val (.int a1), .val (.int a2), .val (.int a3), .val (.int a4), .val (.int (Int32.ofNat fa1.1)), .val (.int (Int32.ofNat fb1.1)), .val (.int (Int32.ofNat fc1.1)), .val (.int (Int32.ofNat fd1.1)), .val (.ref ob), .val (.ref ea), .val (.int (Int32.ofNat kn)), .val (.int (Int32.ofNat ((own_mark (own_mark (own_mark (own_mark own_q0 fa1.1) fb1.1) fc1.1) fd1.1).1.getD 0 0))), .val (.int (Int32.ofNat ((own_mark (own_mark (own_mark (own_mark own_q0 fa1.1) fb1.1) fc1.1) fd1.1).1.getD 1 0))), .val (.int (Int32.ofNat ((own_mark (own_mark (own_mark (own_mark own_q0 fa1.1) fb1.1) fc1.1) fd1.1).1.getD 2 0))), .val (.int (Int32.ofNat ((own_mark (own_mark (own_mark (own_mark own_q0 fa1.1) fb1.1) fc1.1) fd1.1).1.getD 3 0))), .val (.int (((((1 : Int32) <<< ((Int32.ofNat ((own_mark (own_mark (own_mark (own_mark own_q0 fa1.1) fb1.1) fc1.1) fd1.1).1.getD 0 0)) &&& 31)) ||| ((1 : Int32) <<< ((Int32.ofNat ((own_mark (own_mark (own_mark (own_mark own_q0 fa1.1) fb1.1) fc1.1) fd1.1).1.getD 1 0)) &&& 31))) ||| ((1 : Int32) <<< ((Int32.ofNat ((own_mark (own_mark (own_mark (own_mark own_q0 fa1.1) fb1.1) fc1.1) fd1.1).1.getD 2 0)) &&& 31))) ||| ((1 : Int32) <<< ((Int32.ofNat ((own_mark (own_mark (own_mark (own_mark own_q0 fa1.1) fb1.1) fc1.1) fd1.1).1.getD 3 0)) &&& 31)))), .val (.int (1 : Int32)), .unset] [(.int (0 : Int32)), (.ref ea), (.int (Int32.ofNat ((own_mark (own_mark (own_mark (own_mark own_q0 fa1.1) fb1.1) fc1.1) fd1.1).1.getD 0 0)))])) _
      refine ld103 _ ?_
      show Steps p.tables e below (T100.setTop (mkF m 261 #[.val (.int a1), .val (.int a2), .val (.int a3), .val (.int a4), .val (.int (Int32.ofNat fa1.1)), .val (.int (Int32.ofNat fb1.1)), .val (.int (Int32.ofNat fc1.1)), .val (.int (Int32.ofNat fd1.1)), .val (.ref ob), .val (.ref ea), .val (.int (Int32.ofNat kn)), .val (.int (Int32.ofNat ((own_mark (own_mark (own_mark (own_mark own_q0 fa1.1) fb1.1) fc1.1) fd1.1).1.getD 0 0))), .val (.int (Int32.ofNat ((own_mark (own_mark (own_mark (own_mark own_q0 fa1.1) fb1.1) fc1.1) fd1.1).1.getD 1 0))), .val (.int (Int32.ofNat ((own_mark (own_mark (own_mark (own_mark own_q0 fa1.1) fb1.1) fc1.1) fd1.1).1.getD 2 0))), .val (.int (Int32.ofNat ((own_mark (own_mark (own_mark (own_mark own_q0 fa1.1) fb1.1) fc1.1) fd1.1).1.getD 3 0))), .val (.int (((((1 : Int32) <<< ((Int32.ofNat ((own_mark (own_mark (own_mark (own_mark own_q0 fa1.1) fb1.1) fc1.1) fd1.1).1.getD 0 0)) &&& 31)) ||| ((1 : Int32) <<< ((Int32.ofNat ((own_mark (own_mark (own_mark (own_mark own_q0 fa1.1) fb1.1) fc1.1) fd1.1).1.getD 1 0)) &&& 31))) ||| ((1 : Int32) <<< ((Int32.ofNat ((own_mark (own_mark (own_mark (own_mark own_q0 fa1.1) fb1.1) fc1.1) fd1.1).1.getD 2 0)) &&& 31))) ||| ((1 : Int32) <<< ((Int32.ofNat ((own_mark (own_mark (own_mark (own_mark own_q0 fa1.1) fb1.1) fc1.1) fd1.1).1.getD 3 0)) &&& 31)))), .val (.int (1 : Int32)), .unset] [(.int (Int32.ofNat (el.getD 0 0))), (.int (Int32.ofNat ((own_mark (own_mark (own_mark (own_mark own_q0 fa1.1) fb1.1) fc1.1) fd1.1).1.getD 0 0)))])) _
      refine XS.icmpNo X100.here hx rfl (hb hby at_261) rfl (teq (congrArg Int32.ofNat fe0)).2 ?_
      show Steps p.tables e below (T100.setTop (mkF m 264 #[.val (.int a1), .val (.int a2), .val (.int a3), .val (.int a4), .val (.int (Int32.ofNat fa1.1)), .val (.int (Int32.ofNat fb1.1)), .val (.int (Int32.ofNat fc1.1)), .val (.int (Int32.ofNat fd1.1)), .val (.ref ob), .val (.ref ea), .val (.int (Int32.ofNat kn)), .val (.int (Int32.ofNat ((own_mark (own_mark (own_mark (own_mark own_q0 fa1.1) fb1.1) fc1.1) fd1.1).1.getD 0 0))), .val (.int (Int32.ofNat ((own_mark (own_mark (own_mark (own_mark own_q0 fa1.1) fb1.1) fc1.1) fd1.1).1.getD 1 0))), .val (.int (Int32.ofNat ((own_mark (own_mark (own_mark (own_mark own_q0 fa1.1) fb1.1) fc1.1) fd1.1).1.getD 2 0))), .val (.int (Int32.ofNat ((own_mark (own_mark (own_mark (own_mark own_q0 fa1.1) fb1.1) fc1.1) fd1.1).1.getD 3 0))), .val (.int (((((1 : Int32) <<< ((Int32.ofNat ((own_mark (own_mark (own_mark (own_mark own_q0 fa1.1) fb1.1) fc1.1) fd1.1).1.getD 0 0)) &&& 31)) ||| ((1 : Int32) <<< ((Int32.ofNat ((own_mark (own_mark (own_mark (own_mark own_q0 fa1.1) fb1.1) fc1.1) fd1.1).1.getD 1 0)) &&& 31))) ||| ((1 : Int32) <<< ((Int32.ofNat ((own_mark (own_mark (own_mark (own_mark own_q0 fa1.1) fb1.1) fc1.1) fd1.1).1.getD 2 0)) &&& 31))) ||| ((1 : Int32) <<< ((Int32.ofNat ((own_mark (own_mark (own_mark (own_mark own_q0 fa1.1) fb1.1) fc1.1) fd1.1).1.getD 3 0)) &&& 31)))), .val (.int (1 : Int32)), .unset] [])) _
      refine XS.iload X100.here hx rfl (hb hby at_264) rfl ?_
      show Steps p.tables e below (T100.setTop (mkF m 266 #[.val (.int a1), .val (.int a2), .val (.int a3), .val (.int a4), .val (.int (Int32.ofNat fa1.1)), .val (.int (Int32.ofNat fb1.1)), .val (.int (Int32.ofNat fc1.1)), .val (.int (Int32.ofNat fd1.1)), .val (.ref ob), .val (.ref ea), .val (.int (Int32.ofNat kn)), .val (.int (Int32.ofNat ((own_mark (own_mark (own_mark (own_mark own_q0 fa1.1) fb1.1) fc1.1) fd1.1).1.getD 0 0))), .val (.int (Int32.ofNat ((own_mark (own_mark (own_mark (own_mark own_q0 fa1.1) fb1.1) fc1.1) fd1.1).1.getD 1 0))), .val (.int (Int32.ofNat ((own_mark (own_mark (own_mark (own_mark own_q0 fa1.1) fb1.1) fc1.1) fd1.1).1.getD 2 0))), .val (.int (Int32.ofNat ((own_mark (own_mark (own_mark (own_mark own_q0 fa1.1) fb1.1) fc1.1) fd1.1).1.getD 3 0))), .val (.int (((((1 : Int32) <<< ((Int32.ofNat ((own_mark (own_mark (own_mark (own_mark own_q0 fa1.1) fb1.1) fc1.1) fd1.1).1.getD 0 0)) &&& 31)) ||| ((1 : Int32) <<< ((Int32.ofNat ((own_mark (own_mark (own_mark (own_mark own_q0 fa1.1) fb1.1) fc1.1) fd1.1).1.getD 1 0)) &&& 31))) ||| ((1 : Int32) <<< ((Int32.ofNat ((own_mark (own_mark (own_mark (own_mark own_q0 fa1.1) fb1.1) fc1.1) fd1.1).1.getD 2 0)) &&& 31))) ||| ((1 : Int32) <<< ((Int32.ofNat ((own_mark (own_mark (own_mark (own_mark own_q0 fa1.1) fb1.1) fc1.1) fd1.1).1.getD 3 0)) &&& 31)))), .val (.int (1 : Int32)), .unset] [(.int (Int32.ofNat kn))])) _
      refine XS.iconst X100.here hx rfl (hb hby at_266) ?_
      exact kt
    by_cases hc267 : (Int32.ofNat kn) < (2 : Int32)
    case pos =>
      have pre105 : ∀ t, Steps p.tables e below (T100.setTop (mkF m 282 #[.val (.int a1), .val (.int a2), .val (.int a3), .val (.int a4), .val (.int (Int32.ofNat fa1.1)), .val (.int (Int32.ofNat fb1.1)), .val (.int (Int32.ofNat fc1.1)), .val (.int (Int32.ofNat fd1.1)), .val (.ref ob), .val (.ref ea), .val (.int (Int32.ofNat kn)), .val (.int (Int32.ofNat ((own_mark (own_mark (own_mark (own_mark own_q0 fa1.1) fb1.1) fc1.1) fd1.1).1.getD 0 0))), .val (.int (Int32.ofNat ((own_mark (own_mark (own_mark (own_mark own_q0 fa1.1) fb1.1) fc1.1) fd1.1).1.getD 1 0))), .val (.int (Int32.ofNat ((own_mark (own_mark (own_mark (own_mark own_q0 fa1.1) fb1.1) fc1.1) fd1.1).1.getD 2 0))), .val (.int (Int32.ofNat ((own_mark (own_mark (own_mark (own_mark own_q0 fa1.1) fb1.1) fc1.1) fd1.1).1.getD 3 0))), .val (.int (((((1 : Int32) <<< ((Int32.ofNat ((own_mark (own_mark (own_mark (own_mark own_q0 fa1.1) fb1.1) fc1.1) fd1.1).1.getD 0 0)) &&& 31)) ||| ((1 : Int32) <<< ((Int32.ofNat ((own_mark (own_mark (own_mark (own_mark own_q0 fa1.1) fb1.1) fc1.1) fd1.1).1.getD 1 0)) &&& 31))) ||| ((1 : Int32) <<< ((Int32.ofNat ((own_mark (own_mark (own_mark (own_mark own_q0 fa1.1) fb1.1) fc1.1) fd1.1).1.getD 2 0)) &&& 31))) ||| ((1 : Int32) <<< ((Int32.ofNat ((own_mark (own_mark (own_mark (own_mark own_q0 fa1.1) fb1.1) fc1.1) fd1.1).1.getD 3 0)) &&& 31)))), .val (.int (1 : Int32)), .unset] [(.int (3 : Int32)), (.int (Int32.ofNat kn))])) t → Steps p.tables e below (s₁.setTop (entryFrame m #[(.int a1), (.int a2), (.int a3), (.int a4)] maxLocals)) t := by
        intro t kt
        refine pre104 t ?_
        show Steps p.tables e below (T100.setTop (mkF m 267 #[.val (.int a1), .val (.int a2), .val (.int a3), .val (.int a4), .val (.int (Int32.ofNat fa1.1)), .val (.int (Int32.ofNat fb1.1)), .val (.int (Int32.ofNat fc1.1)), .val (.int (Int32.ofNat fd1.1)), .val (.ref ob), .val (.ref ea), .val (.int (Int32.ofNat kn)), .val (.int (Int32.ofNat ((own_mark (own_mark (own_mark (own_mark own_q0 fa1.1) fb1.1) fc1.1) fd1.1).1.getD 0 0))), .val (.int (Int32.ofNat ((own_mark (own_mark (own_mark (own_mark own_q0 fa1.1) fb1.1) fc1.1) fd1.1).1.getD 1 0))), .val (.int (Int32.ofNat ((own_mark (own_mark (own_mark (own_mark own_q0 fa1.1) fb1.1) fc1.1) fd1.1).1.getD 2 0))), .val (.int (Int32.ofNat ((own_mark (own_mark (own_mark (own_mark own_q0 fa1.1) fb1.1) fc1.1) fd1.1).1.getD 3 0))), .val (.int (((((1 : Int32) <<< ((Int32.ofNat ((own_mark (own_mark (own_mark (own_mark own_q0 fa1.1) fb1.1) fc1.1) fd1.1).1.getD 0 0)) &&& 31)) ||| ((1 : Int32) <<< ((Int32.ofNat ((own_mark (own_mark (own_mark (own_mark own_q0 fa1.1) fb1.1) fc1.1) fd1.1).1.getD 1 0)) &&& 31))) ||| ((1 : Int32) <<< ((Int32.ofNat ((own_mark (own_mark (own_mark (own_mark own_q0 fa1.1) fb1.1) fc1.1) fd1.1).1.getD 2 0)) &&& 31))) ||| ((1 : Int32) <<< ((Int32.ofNat ((own_mark (own_mark (own_mark (own_mark own_q0 fa1.1) fb1.1) fc1.1) fd1.1).1.getD 3 0)) &&& 31)))), .val (.int (1 : Int32)), .unset] [(.int (2 : Int32)), (.int (Int32.ofNat kn))])) _
        refine XS.icmpYes X100.here hx rfl (pc0 := 267) (pc' := 279) rfl (hb hby at_267) rfl (tlt hc267).1 (by decide) (by decide) ?_
        show Steps p.tables e below (T100.setTop (mkF m 279 #[.val (.int a1), .val (.int a2), .val (.int a3), .val (.int a4), .val (.int (Int32.ofNat fa1.1)), .val (.int (Int32.ofNat fb1.1)), .val (.int (Int32.ofNat fc1.1)), .val (.int (Int32.ofNat fd1.1)), .val (.ref ob), .val (.ref ea), .val (.int (Int32.ofNat kn)), .val (.int (Int32.ofNat ((own_mark (own_mark (own_mark (own_mark own_q0 fa1.1) fb1.1) fc1.1) fd1.1).1.getD 0 0))), .val (.int (Int32.ofNat ((own_mark (own_mark (own_mark (own_mark own_q0 fa1.1) fb1.1) fc1.1) fd1.1).1.getD 1 0))), .val (.int (Int32.ofNat ((own_mark (own_mark (own_mark (own_mark own_q0 fa1.1) fb1.1) fc1.1) fd1.1).1.getD 2 0))), .val (.int (Int32.ofNat ((own_mark (own_mark (own_mark (own_mark own_q0 fa1.1) fb1.1) fc1.1) fd1.1).1.getD 3 0))), .val (.int (((((1 : Int32) <<< ((Int32.ofNat ((own_mark (own_mark (own_mark (own_mark own_q0 fa1.1) fb1.1) fc1.1) fd1.1).1.getD 0 0)) &&& 31)) ||| ((1 : Int32) <<< ((Int32.ofNat ((own_mark (own_mark (own_mark (own_mark own_q0 fa1.1) fb1.1) fc1.1) fd1.1).1.getD 1 0)) &&& 31))) ||| ((1 : Int32) <<< ((Int32.ofNat ((own_mark (own_mark (own_mark (own_mark own_q0 fa1.1) fb1.1) fc1.1) fd1.1).1.getD 2 0)) &&& 31))) ||| ((1 : Int32) <<< ((Int32.ofNat ((own_mark (own_mark (own_mark (own_mark own_q0 fa1.1) fb1.1) fc1.1) fd1.1).1.getD 3 0)) &&& 31)))), .val (.int (1 : Int32)), .unset] [])) _
        refine XS.iload X100.here hx rfl (hb hby at_279) rfl ?_
        show Steps p.tables e below (T100.setTop (mkF m 281 #[.val (.int a1), .val (.int a2), .val (.int a3), .val (.int a4), .val (.int (Int32.ofNat fa1.1)), .val (.int (Int32.ofNat fb1.1)), .val (.int (Int32.ofNat fc1.1)), .val (.int (Int32.ofNat fd1.1)), .val (.ref ob), .val (.ref ea), .val (.int (Int32.ofNat kn)), .val (.int (Int32.ofNat ((own_mark (own_mark (own_mark (own_mark own_q0 fa1.1) fb1.1) fc1.1) fd1.1).1.getD 0 0))), .val (.int (Int32.ofNat ((own_mark (own_mark (own_mark (own_mark own_q0 fa1.1) fb1.1) fc1.1) fd1.1).1.getD 1 0))), .val (.int (Int32.ofNat ((own_mark (own_mark (own_mark (own_mark own_q0 fa1.1) fb1.1) fc1.1) fd1.1).1.getD 2 0))), .val (.int (Int32.ofNat ((own_mark (own_mark (own_mark (own_mark own_q0 fa1.1) fb1.1) fc1.1) fd1.1).1.getD 3 0))), .val (.int (((((1 : Int32) <<< ((Int32.ofNat ((own_mark (own_mark (own_mark (own_mark own_q0 fa1.1) fb1.1) fc1.1) fd1.1).1.getD 0 0)) &&& 31)) ||| ((1 : Int32) <<< ((Int32.ofNat ((own_mark (own_mark (own_mark (own_mark own_q0 fa1.1) fb1.1) fc1.1) fd1.1).1.getD 1 0)) &&& 31))) ||| ((1 : Int32) <<< ((Int32.ofNat ((own_mark (own_mark (own_mark (own_mark own_q0 fa1.1) fb1.1) fc1.1) fd1.1).1.getD 2 0)) &&& 31))) ||| ((1 : Int32) <<< ((Int32.ofNat ((own_mark (own_mark (own_mark (own_mark own_q0 fa1.1) fb1.1) fc1.1) fd1.1).1.getD 3 0)) &&& 31)))), .val (.int (1 : Int32)), .unset] [(.int (Int32.ofNat kn))])) _
        refine XS.iconst X100.here hx rfl (hb hby at_281) ?_
        exact kt
      by_cases hc282 : (Int32.ofNat kn) < (3 : Int32)
      case pos =>
        have pre106 : ∀ t, Steps p.tables e below (T100.setTop (mkF m 297 #[.val (.int a1), .val (.int a2), .val (.int a3), .val (.int a4), .val (.int (Int32.ofNat fa1.1)), .val (.int (Int32.ofNat fb1.1)), .val (.int (Int32.ofNat fc1.1)), .val (.int (Int32.ofNat fd1.1)), .val (.ref ob), .val (.ref ea), .val (.int (Int32.ofNat kn)), .val (.int (Int32.ofNat ((own_mark (own_mark (own_mark (own_mark own_q0 fa1.1) fb1.1) fc1.1) fd1.1).1.getD 0 0))), .val (.int (Int32.ofNat ((own_mark (own_mark (own_mark (own_mark own_q0 fa1.1) fb1.1) fc1.1) fd1.1).1.getD 1 0))), .val (.int (Int32.ofNat ((own_mark (own_mark (own_mark (own_mark own_q0 fa1.1) fb1.1) fc1.1) fd1.1).1.getD 2 0))), .val (.int (Int32.ofNat ((own_mark (own_mark (own_mark (own_mark own_q0 fa1.1) fb1.1) fc1.1) fd1.1).1.getD 3 0))), .val (.int (((((1 : Int32) <<< ((Int32.ofNat ((own_mark (own_mark (own_mark (own_mark own_q0 fa1.1) fb1.1) fc1.1) fd1.1).1.getD 0 0)) &&& 31)) ||| ((1 : Int32) <<< ((Int32.ofNat ((own_mark (own_mark (own_mark (own_mark own_q0 fa1.1) fb1.1) fc1.1) fd1.1).1.getD 1 0)) &&& 31))) ||| ((1 : Int32) <<< ((Int32.ofNat ((own_mark (own_mark (own_mark (own_mark own_q0 fa1.1) fb1.1) fc1.1) fd1.1).1.getD 2 0)) &&& 31))) ||| ((1 : Int32) <<< ((Int32.ofNat ((own_mark (own_mark (own_mark (own_mark own_q0 fa1.1) fb1.1) fc1.1) fd1.1).1.getD 3 0)) &&& 31)))), .val (.int (1 : Int32)), .unset] [(.int (4 : Int32)), (.int (Int32.ofNat kn))])) t → Steps p.tables e below (s₁.setTop (entryFrame m #[(.int a1), (.int a2), (.int a3), (.int a4)] maxLocals)) t := by
          intro t kt
          refine pre105 t ?_
          show Steps p.tables e below (T100.setTop (mkF m 282 #[.val (.int a1), .val (.int a2), .val (.int a3), .val (.int a4), .val (.int (Int32.ofNat fa1.1)), .val (.int (Int32.ofNat fb1.1)), .val (.int (Int32.ofNat fc1.1)), .val (.int (Int32.ofNat fd1.1)), .val (.ref ob), .val (.ref ea), .val (.int (Int32.ofNat kn)), .val (.int (Int32.ofNat ((own_mark (own_mark (own_mark (own_mark own_q0 fa1.1) fb1.1) fc1.1) fd1.1).1.getD 0 0))), .val (.int (Int32.ofNat ((own_mark (own_mark (own_mark (own_mark own_q0 fa1.1) fb1.1) fc1.1) fd1.1).1.getD 1 0))), .val (.int (Int32.ofNat ((own_mark (own_mark (own_mark (own_mark own_q0 fa1.1) fb1.1) fc1.1) fd1.1).1.getD 2 0))), .val (.int (Int32.ofNat ((own_mark (own_mark (own_mark (own_mark own_q0 fa1.1) fb1.1) fc1.1) fd1.1).1.getD 3 0))), .val (.int (((((1 : Int32) <<< ((Int32.ofNat ((own_mark (own_mark (own_mark (own_mark own_q0 fa1.1) fb1.1) fc1.1) fd1.1).1.getD 0 0)) &&& 31)) ||| ((1 : Int32) <<< ((Int32.ofNat ((own_mark (own_mark (own_mark (own_mark own_q0 fa1.1) fb1.1) fc1.1) fd1.1).1.getD 1 0)) &&& 31))) ||| ((1 : Int32) <<< ((Int32.ofNat ((own_mark (own_mark (own_mark (own_mark own_q0 fa1.1) fb1.1) fc1.1) fd1.1).1.getD 2 0)) &&& 31))) ||| ((1 : Int32) <<< ((Int32.ofNat ((own_mark (own_mark (own_mark (own_mark own_q0 fa1.1) fb1.1) fc1.1) fd1.1).1.getD 3 0)) &&& 31)))), .val (.int (1 : Int32)), .unset] [(.int (3 : Int32)), (.int (Int32.ofNat kn))])) _
          refine XS.icmpYes X100.here hx rfl (pc0 := 282) (pc' := 294) rfl (hb hby at_282) rfl (tlt hc282).1 (by decide) (by decide) ?_
          show Steps p.tables e below (T100.setTop (mkF m 294 #[.val (.int a1), .val (.int a2), .val (.int a3), .val (.int a4), .val (.int (Int32.ofNat fa1.1)), .val (.int (Int32.ofNat fb1.1)), .val (.int (Int32.ofNat fc1.1)), .val (.int (Int32.ofNat fd1.1)), .val (.ref ob), .val (.ref ea), .val (.int (Int32.ofNat kn)), .val (.int (Int32.ofNat ((own_mark (own_mark (own_mark (own_mark own_q0 fa1.1) fb1.1) fc1.1) fd1.1).1.getD 0 0))), .val (.int (Int32.ofNat ((own_mark (own_mark (own_mark (own_mark own_q0 fa1.1) fb1.1) fc1.1) fd1.1).1.getD 1 0))), .val (.int (Int32.ofNat ((own_mark (own_mark (own_mark (own_mark own_q0 fa1.1) fb1.1) fc1.1) fd1.1).1.getD 2 0))), .val (.int (Int32.ofNat ((own_mark (own_mark (own_mark (own_mark own_q0 fa1.1) fb1.1) fc1.1) fd1.1).1.getD 3 0))), .val (.int (((((1 : Int32) <<< ((Int32.ofNat ((own_mark (own_mark (own_mark (own_mark own_q0 fa1.1) fb1.1) fc1.1) fd1.1).1.getD 0 0)) &&& 31)) ||| ((1 : Int32) <<< ((Int32.ofNat ((own_mark (own_mark (own_mark (own_mark own_q0 fa1.1) fb1.1) fc1.1) fd1.1).1.getD 1 0)) &&& 31))) ||| ((1 : Int32) <<< ((Int32.ofNat ((own_mark (own_mark (own_mark (own_mark own_q0 fa1.1) fb1.1) fc1.1) fd1.1).1.getD 2 0)) &&& 31))) ||| ((1 : Int32) <<< ((Int32.ofNat ((own_mark (own_mark (own_mark (own_mark own_q0 fa1.1) fb1.1) fc1.1) fd1.1).1.getD 3 0)) &&& 31)))), .val (.int (1 : Int32)), .unset] [])) _
          refine XS.iload X100.here hx rfl (hb hby at_294) rfl ?_
          show Steps p.tables e below (T100.setTop (mkF m 296 #[.val (.int a1), .val (.int a2), .val (.int a3), .val (.int a4), .val (.int (Int32.ofNat fa1.1)), .val (.int (Int32.ofNat fb1.1)), .val (.int (Int32.ofNat fc1.1)), .val (.int (Int32.ofNat fd1.1)), .val (.ref ob), .val (.ref ea), .val (.int (Int32.ofNat kn)), .val (.int (Int32.ofNat ((own_mark (own_mark (own_mark (own_mark own_q0 fa1.1) fb1.1) fc1.1) fd1.1).1.getD 0 0))), .val (.int (Int32.ofNat ((own_mark (own_mark (own_mark (own_mark own_q0 fa1.1) fb1.1) fc1.1) fd1.1).1.getD 1 0))), .val (.int (Int32.ofNat ((own_mark (own_mark (own_mark (own_mark own_q0 fa1.1) fb1.1) fc1.1) fd1.1).1.getD 2 0))), .val (.int (Int32.ofNat ((own_mark (own_mark (own_mark (own_mark own_q0 fa1.1) fb1.1) fc1.1) fd1.1).1.getD 3 0))), .val (.int (((((1 : Int32) <<< ((Int32.ofNat ((own_mark (own_mark (own_mark (own_mark own_q0 fa1.1) fb1.1) fc1.1) fd1.1).1.getD 0 0)) &&& 31)) ||| ((1 : Int32) <<< ((Int32.ofNat ((own_mark (own_mark (own_mark (own_mark own_q0 fa1.1) fb1.1) fc1.1) fd1.1).1.getD 1 0)) &&& 31))) ||| ((1 : Int32) <<< ((Int32.ofNat ((own_mark (own_mark (own_mark (own_mark own_q0 fa1.1) fb1.1) fc1.1) fd1.1).1.getD 2 0)) &&& 31))) ||| ((1 : Int32) <<< ((Int32.ofNat ((own_mark (own_mark (own_mark (own_mark own_q0 fa1.1) fb1.1) fc1.1) fd1.1).1.getD 3 0)) &&& 31)))), .val (.int (1 : Int32)), .unset] [(.int (Int32.ofNat kn))])) _
          refine XS.iconst X100.here hx rfl (hb hby at_296) ?_
          exact kt
        by_cases hc297 : (Int32.ofNat kn) < (4 : Int32)
        case pos =>
          have pre107 : ∀ t, Steps p.tables e below (T100.setTop (mkF m 314 #[.val (.int a1), .val (.int a2), .val (.int a3), .val (.int a4), .val (.int (Int32.ofNat fa1.1)), .val (.int (Int32.ofNat fb1.1)), .val (.int (Int32.ofNat fc1.1)), .val (.int (Int32.ofNat fd1.1)), .val (.ref ob), .val (.ref ea), .val (.int (Int32.ofNat kn)), .val (.int (Int32.ofNat ((own_mark (own_mark (own_mark (own_mark own_q0 fa1.1) fb1.1) fc1.1) fd1.1).1.getD 0 0))), .val (.int (Int32.ofNat ((own_mark (own_mark (own_mark (own_mark own_q0 fa1.1) fb1.1) fc1.1) fd1.1).1.getD 1 0))), .val (.int (Int32.ofNat ((own_mark (own_mark (own_mark (own_mark own_q0 fa1.1) fb1.1) fc1.1) fd1.1).1.getD 2 0))), .val (.int (Int32.ofNat ((own_mark (own_mark (own_mark (own_mark own_q0 fa1.1) fb1.1) fc1.1) fd1.1).1.getD 3 0))), .val (.int (((((1 : Int32) <<< ((Int32.ofNat ((own_mark (own_mark (own_mark (own_mark own_q0 fa1.1) fb1.1) fc1.1) fd1.1).1.getD 0 0)) &&& 31)) ||| ((1 : Int32) <<< ((Int32.ofNat ((own_mark (own_mark (own_mark (own_mark own_q0 fa1.1) fb1.1) fc1.1) fd1.1).1.getD 1 0)) &&& 31))) ||| ((1 : Int32) <<< ((Int32.ofNat ((own_mark (own_mark (own_mark (own_mark own_q0 fa1.1) fb1.1) fc1.1) fd1.1).1.getD 2 0)) &&& 31))) ||| ((1 : Int32) <<< ((Int32.ofNat ((own_mark (own_mark (own_mark (own_mark own_q0 fa1.1) fb1.1) fc1.1) fd1.1).1.getD 3 0)) &&& 31)))), .val (.int (1 : Int32)), .unset] [(.int (1 : Int32))])) t → Steps p.tables e below (s₁.setTop (entryFrame m #[(.int a1), (.int a2), (.int a3), (.int a4)] maxLocals)) t := by
            intro t kt
            refine pre106 t ?_
            show Steps p.tables e below (T100.setTop (mkF m 297 #[.val (.int a1), .val (.int a2), .val (.int a3), .val (.int a4), .val (.int (Int32.ofNat fa1.1)), .val (.int (Int32.ofNat fb1.1)), .val (.int (Int32.ofNat fc1.1)), .val (.int (Int32.ofNat fd1.1)), .val (.ref ob), .val (.ref ea), .val (.int (Int32.ofNat kn)), .val (.int (Int32.ofNat ((own_mark (own_mark (own_mark (own_mark own_q0 fa1.1) fb1.1) fc1.1) fd1.1).1.getD 0 0))), .val (.int (Int32.ofNat ((own_mark (own_mark (own_mark (own_mark own_q0 fa1.1) fb1.1) fc1.1) fd1.1).1.getD 1 0))), .val (.int (Int32.ofNat ((own_mark (own_mark (own_mark (own_mark own_q0 fa1.1) fb1.1) fc1.1) fd1.1).1.getD 2 0))), .val (.int (Int32.ofNat ((own_mark (own_mark (own_mark (own_mark own_q0 fa1.1) fb1.1) fc1.1) fd1.1).1.getD 3 0))), .val (.int (((((1 : Int32) <<< ((Int32.ofNat ((own_mark (own_mark (own_mark (own_mark own_q0 fa1.1) fb1.1) fc1.1) fd1.1).1.getD 0 0)) &&& 31)) ||| ((1 : Int32) <<< ((Int32.ofNat ((own_mark (own_mark (own_mark (own_mark own_q0 fa1.1) fb1.1) fc1.1) fd1.1).1.getD 1 0)) &&& 31))) ||| ((1 : Int32) <<< ((Int32.ofNat ((own_mark (own_mark (own_mark (own_mark own_q0 fa1.1) fb1.1) fc1.1) fd1.1).1.getD 2 0)) &&& 31))) ||| ((1 : Int32) <<< ((Int32.ofNat ((own_mark (own_mark (own_mark (own_mark own_q0 fa1.1) fb1.1) fc1.1) fd1.1).1.getD 3 0)) &&& 31)))), .val (.int (1 : Int32)), .unset] [(.int (4 : Int32)), (.int (Int32.ofNat kn))])) _
            refine XS.icmpYes X100.here hx rfl (pc0 := 297) (pc' := 309) rfl (hb hby at_297) rfl (tlt hc297).1 (by decide) (by decide) ?_
            show Steps p.tables e below (T100.setTop (mkF m 309 #[.val (.int a1), .val (.int a2), .val (.int a3), .val (.int a4), .val (.int (Int32.ofNat fa1.1)), .val (.int (Int32.ofNat fb1.1)), .val (.int (Int32.ofNat fc1.1)), .val (.int (Int32.ofNat fd1.1)), .val (.ref ob), .val (.ref ea), .val (.int (Int32.ofNat kn)), .val (.int (Int32.ofNat ((own_mark (own_mark (own_mark (own_mark own_q0 fa1.1) fb1.1) fc1.1) fd1.1).1.getD 0 0))), .val (.int (Int32.ofNat ((own_mark (own_mark (own_mark (own_mark own_q0 fa1.1) fb1.1) fc1.1) fd1.1).1.getD 1 0))), .val (.int (Int32.ofNat ((own_mark (own_mark (own_mark (own_mark own_q0 fa1.1) fb1.1) fc1.1) fd1.1).1.getD 2 0))), .val (.int (Int32.ofNat ((own_mark (own_mark (own_mark (own_mark own_q0 fa1.1) fb1.1) fc1.1) fd1.1).1.getD 3 0))), .val (.int (((((1 : Int32) <<< ((Int32.ofNat ((own_mark (own_mark (own_mark (own_mark own_q0 fa1.1) fb1.1) fc1.1) fd1.1).1.getD 0 0)) &&& 31)) ||| ((1 : Int32) <<< ((Int32.ofNat ((own_mark (own_mark (own_mark (own_mark own_q0 fa1.1) fb1.1) fc1.1) fd1.1).1.getD 1 0)) &&& 31))) ||| ((1 : Int32) <<< ((Int32.ofNat ((own_mark (own_mark (own_mark (own_mark own_q0 fa1.1) fb1.1) fc1.1) fd1.1).1.getD 2 0)) &&& 31))) ||| ((1 : Int32) <<< ((Int32.ofNat ((own_mark (own_mark (own_mark (own_mark own_q0 fa1.1) fb1.1) fc1.1) fd1.1).1.getD 3 0)) &&& 31)))), .val (.int (1 : Int32)), .unset] [])) _
            refine XS.iconst X100.here hx rfl (hb hby at_309) ?_
            show Steps p.tables e below (T100.setTop (mkF m 310 #[.val (.int a1), .val (.int a2), .val (.int a3), .val (.int a4), .val (.int (Int32.ofNat fa1.1)), .val (.int (Int32.ofNat fb1.1)), .val (.int (Int32.ofNat fc1.1)), .val (.int (Int32.ofNat fd1.1)), .val (.ref ob), .val (.ref ea), .val (.int (Int32.ofNat kn)), .val (.int (Int32.ofNat ((own_mark (own_mark (own_mark (own_mark own_q0 fa1.1) fb1.1) fc1.1) fd1.1).1.getD 0 0))), .val (.int (Int32.ofNat ((own_mark (own_mark (own_mark (own_mark own_q0 fa1.1) fb1.1) fc1.1) fd1.1).1.getD 1 0))), .val (.int (Int32.ofNat ((own_mark (own_mark (own_mark (own_mark own_q0 fa1.1) fb1.1) fc1.1) fd1.1).1.getD 2 0))), .val (.int (Int32.ofNat ((own_mark (own_mark (own_mark (own_mark own_q0 fa1.1) fb1.1) fc1.1) fd1.1).1.getD 3 0))), .val (.int (((((1 : Int32) <<< ((Int32.ofNat ((own_mark (own_mark (own_mark (own_mark own_q0 fa1.1) fb1.1) fc1.1) fd1.1).1.getD 0 0)) &&& 31)) ||| ((1 : Int32) <<< ((Int32.ofNat ((own_mark (own_mark (own_mark (own_mark own_q0 fa1.1) fb1.1) fc1.1) fd1.1).1.getD 1 0)) &&& 31))) ||| ((1 : Int32) <<< ((Int32.ofNat ((own_mark (own_mark (own_mark (own_mark own_q0 fa1.1) fb1.1) fc1.1) fd1.1).1.getD 2 0)) &&& 31))) ||| ((1 : Int32) <<< ((Int32.ofNat ((own_mark (own_mark (own_mark (own_mark own_q0 fa1.1) fb1.1) fc1.1) fd1.1).1.getD 3 0)) &&& 31)))), .val (.int (1 : Int32)), .unset] [(.int (1 : Int32))])) _
            refine XS.goto X100.here hx rfl (pc0 := 310) (pc' := 314) rfl (hb hby at_310) (by decide) (by decide) ?_
            exact kt
          exact ⟨T100, _, (1 : Int32), X100, eq100, N100, rfl, pre107⟩
        case neg =>
          have ld108 := (own_ldI X100 hx hZ eq100 V_ea (j := (3 : Int32)) (by decide) (k := 3) rfl (by decide) (v := (.int (Int32.ofNat (el.getD 3 0)))) rfl (g := (mkF m 305 #[.val (.int a1), .val (.int a2), .val (.int a3), .val (.int a4), .val (.int (Int32.ofNat fa1.1)), .val (.int (Int32.ofNat fb1.1)), .val (.int (Int32.ofNat fc1.1)), .val (.int (Int32.ofNat fd1.1)), .val (.ref ob), .val (.ref ea), .val (.int (Int32.ofNat kn)), .val (.int (Int32.ofNat ((own_mark (own_mark (own_mark (own_mark own_q0 fa1.1) fb1.1) fc1.1) fd1.1).1.getD 0 0))), .val (.int (Int32.ofNat ((own_mark (own_mark (own_mark (own_mark own_q0 fa1.1) fb1.1) fc1.1) fd1.1).1.getD 1 0))), .val (.int (Int32.ofNat ((own_mark (own_mark (own_mark (own_mark own_q0 fa1.1) fb1.1) fc1.1) fd1.1).1.getD 2 0))), .val (.int (Int32.ofNat ((own_mark (own_mark (own_mark (own_mark own_q0 fa1.1) fb1.1) fc1.1) fd1.1).1.getD 3 0))), .val (.int (((((1 : Int32) <<< ((Int32.ofNat ((own_mark (own_mark (own_mark (own_mark own_q0 fa1.1) fb1.1) fc1.1) fd1.1).1.getD 0 0)) &&& 31)) ||| ((1 : Int32) <<< ((Int32.ofNat ((own_mark (own_mark (own_mark (own_mark own_q0 fa1.1) fb1.1) fc1.1) fd1.1).1.getD 1 0)) &&& 31))) ||| ((1 : Int32) <<< ((Int32.ofNat ((own_mark (own_mark (own_mark (own_mark own_q0 fa1.1) fb1.1) fc1.1) fd1.1).1.getD 2 0)) &&& 31))) ||| ((1 : Int32) <<< ((Int32.ofNat ((own_mark (own_mark (own_mark (own_mark own_q0 fa1.1) fb1.1) fc1.1) fd1.1).1.getD 3 0)) &&& 31)))), .val (.int (1 : Int32)), .unset] [(.int (3 : Int32)), (.ref ea), (.int (Int32.ofNat ((own_mark (own_mark (own_mark (own_mark own_q0 fa1.1) fb1.1) fc1.1) fd1.1).1.getD 3 0)))])) rfl rfl (hb hby at_305))
          have pre109 : ∀ t, Steps p.tables e below (T100.setTop (mkF m 314 #[.val (.int a1), .val (.int a2), .val (.int a3), .val (.int a4), .val (.int (Int32.ofNat fa1.1)), .val (.int (Int32.ofNat fb1.1)), .val (.int (Int32.ofNat fc1.1)), .val (.int (Int32.ofNat fd1.1)), .val (.ref ob), .val (.ref ea), .val (.int (Int32.ofNat kn)), .val (.int (Int32.ofNat ((own_mark (own_mark (own_mark (own_mark own_q0 fa1.1) fb1.1) fc1.1) fd1.1).1.getD 0 0))), .val (.int (Int32.ofNat ((own_mark (own_mark (own_mark (own_mark own_q0 fa1.1) fb1.1) fc1.1) fd1.1).1.getD 1 0))), .val (.int (Int32.ofNat ((own_mark (own_mark (own_mark (own_mark own_q0 fa1.1) fb1.1) fc1.1) fd1.1).1.getD 2 0))), .val (.int (Int32.ofNat ((own_mark (own_mark (own_mark (own_mark own_q0 fa1.1) fb1.1) fc1.1) fd1.1).1.getD 3 0))), .val (.int (((((1 : Int32) <<< ((Int32.ofNat ((own_mark (own_mark (own_mark (own_mark own_q0 fa1.1) fb1.1) fc1.1) fd1.1).1.getD 0 0)) &&& 31)) ||| ((1 : Int32) <<< ((Int32.ofNat ((own_mark (own_mark (own_mark (own_mark own_q0 fa1.1) fb1.1) fc1.1) fd1.1).1.getD 1 0)) &&& 31))) ||| ((1 : Int32) <<< ((Int32.ofNat ((own_mark (own_mark (own_mark (own_mark own_q0 fa1.1) fb1.1) fc1.1) fd1.1).1.getD 2 0)) &&& 31))) ||| ((1 : Int32) <<< ((Int32.ofNat ((own_mark (own_mark (own_mark (own_mark own_q0 fa1.1) fb1.1) fc1.1) fd1.1).1.getD 3 0)) &&& 31)))), .val (.int (1 : Int32)), .unset] [(.int (1 : Int32))])) t → Steps p.tables e below (s₁.setTop (entryFrame m #[(.int a1), (.int a2), (.int a3), (.int a4)] maxLocals)) t := by
            intro t kt
            refine pre106 t ?_
            show Steps p.tables e below (T100.setTop (mkF m 297 #[.val (.int a1), .val (.int a2), .val (.int a3), .val (.int a4), .val (.int (Int32.ofNat fa1.1)), .val (.int (Int32.ofNat fb1.1)), .val (.int (Int32.ofNat fc1.1)), .val (.int (Int32.ofNat fd1.1)), .val (.ref ob), .val (.ref ea), .val (.int (Int32.ofNat kn)), .val (.int (Int32.ofNat ((own_mark (own_mark (own_mark (own_mark own_q0 fa1.1) fb1.1) fc1.1) fd1.1).1.getD 0 0))), .val (.int (Int32.ofNat ((own_mark (own_mark (own_mark (own_mark own_q0 fa1.1) fb1.1) fc1.1) fd1.1).1.getD 1 0))), .val (.int (Int32.ofNat ((own_mark (own_mark (own_mark (own_mark own_q0 fa1.1) fb1.1) fc1.1) fd1.1).1.getD 2 0))), .val (.int (Int32.ofNat ((own_mark (own_mark (own_mark (own_mark own_q0 fa1.1) fb1.1) fc1.1) fd1.1).1.getD 3 0))), .val (.int (((((1 : Int32) <<< ((Int32.ofNat ((own_mark (own_mark (own_mark (own_mark own_q0 fa1.1) fb1.1) fc1.1) fd1.1).1.getD 0 0)) &&& 31)) ||| ((1 : Int32) <<< ((Int32.ofNat ((own_mark (own_mark (own_mark (own_mark own_q0 fa1.1) fb1.1) fc1.1) fd1.1).1.getD 1 0)) &&& 31))) ||| ((1 : Int32) <<< ((Int32.ofNat ((own_mark (own_mark (own_mark (own_mark own_q0 fa1.1) fb1.1) fc1.1) fd1.1).1.getD 2 0)) &&& 31))) ||| ((1 : Int32) <<< ((Int32.ofNat ((own_mark (own_mark (own_mark (own_mark own_q0 fa1.1) fb1.1) fc1.1) fd1.1).1.getD 3 0)) &&& 31)))), .val (.int (1 : Int32)), .unset] [(.int (4 : Int32)), (.int (Int32.ofNat kn))])) _
            refine XS.icmpNo X100.here hx rfl (hb hby at_297) rfl (flt hc297).1 ?_
            show Steps p.tables e below (T100.setTop (mkF m 300 #[.val (.int a1), .val (.int a2), .val (.int a3), .val (.int a4), .val (.int (Int32.ofNat fa1.1)), .val (.int (Int32.ofNat fb1.1)), .val (.int (Int32.ofNat fc1.1)), .val (.int (Int32.ofNat fd1.1)), .val (.ref ob), .val (.ref ea), .val (.int (Int32.ofNat kn)), .val (.int (Int32.ofNat ((own_mark (own_mark (own_mark (own_mark own_q0 fa1.1) fb1.1) fc1.1) fd1.1).1.getD 0 0))), .val (.int (Int32.ofNat ((own_mark (own_mark (own_mark (own_mark own_q0 fa1.1) fb1.1) fc1.1) fd1.1).1.getD 1 0))), .val (.int (Int32.ofNat ((own_mark (own_mark (own_mark (own_mark own_q0 fa1.1) fb1.1) fc1.1) fd1.1).1.getD 2 0))), .val (.int (Int32.ofNat ((own_mark (own_mark (own_mark (own_mark own_q0 fa1.1) fb1.1) fc1.1) fd1.1).1.getD 3 0))), .val (.int (((((1 : Int32) <<< ((Int32.ofNat ((own_mark (own_mark (own_mark (own_mark own_q0 fa1.1) fb1.1) fc1.1) fd1.1).1.getD 0 0)) &&& 31)) ||| ((1 : Int32) <<< ((Int32.ofNat ((own_mark (own_mark (own_mark (own_mark own_q0 fa1.1) fb1.1) fc1.1) fd1.1).1.getD 1 0)) &&& 31))) ||| ((1 : Int32) <<< ((Int32.ofNat ((own_mark (own_mark (own_mark (own_mark own_q0 fa1.1) fb1.1) fc1.1) fd1.1).1.getD 2 0)) &&& 31))) ||| ((1 : Int32) <<< ((Int32.ofNat ((own_mark (own_mark (own_mark (own_mark own_q0 fa1.1) fb1.1) fc1.1) fd1.1).1.getD 3 0)) &&& 31)))), .val (.int (1 : Int32)), .unset] [])) _
            refine XS.iload X100.here hx rfl (hb hby at_300) rfl ?_
            show Steps p.tables e below (T100.setTop (mkF m 302 #[.val (.int a1), .val (.int a2), .val (.int a3), .val (.int a4), .val (.int (Int32.ofNat fa1.1)), .val (.int (Int32.ofNat fb1.1)), .val (.int (Int32.ofNat fc1.1)), .val (.int (Int32.ofNat fd1.1)), .val (.ref ob), .val (.ref ea), .val (.int (Int32.ofNat kn)), .val (.int (Int32.ofNat ((own_mark (own_mark (own_mark (own_mark own_q0 fa1.1) fb1.1) fc1.1) fd1.1).1.getD 0 0))), .val (.int (Int32.ofNat ((own_mark (own_mark (own_mark (own_mark own_q0 fa1.1) fb1.1) fc1.1) fd1.1).1.getD 1 0))), .val (.int (Int32.ofNat ((own_mark (own_mark (own_mark (own_mark own_q0 fa1.1) fb1.1) fc1.1) fd1.1).1.getD 2 0))), .val (.int (Int32.ofNat ((own_mark (own_mark (own_mark (own_mark own_q0 fa1.1) fb1.1) fc1.1) fd1.1).1.getD 3 0))), .val (.int (((((1 : Int32) <<< ((Int32.ofNat ((own_mark (own_mark (own_mark (own_mark own_q0 fa1.1) fb1.1) fc1.1) fd1.1).1.getD 0 0)) &&& 31)) ||| ((1 : Int32) <<< ((Int32.ofNat ((own_mark (own_mark (own_mark (own_mark own_q0 fa1.1) fb1.1) fc1.1) fd1.1).1.getD 1 0)) &&& 31))) ||| ((1 : Int32) <<< ((Int32.ofNat ((own_mark (own_mark (own_mark (own_mark own_q0 fa1.1) fb1.1) fc1.1) fd1.1).1.getD 2 0)) &&& 31))) ||| ((1 : Int32) <<< ((Int32.ofNat ((own_mark (own_mark (own_mark (own_mark own_q0 fa1.1) fb1.1) fc1.1) fd1.1).1.getD 3 0)) &&& 31)))), .val (.int (1 : Int32)), .unset] [(.int (Int32.ofNat ((own_mark (own_mark (own_mark (own_mark own_q0 fa1.1) fb1.1) fc1.1) fd1.1).1.getD 3 0)))])) _
            refine XS.aload X100.here hx rfl (hb hby at_302) rfl rfl ?_
            show Steps p.tables e below (T100.setTop (mkF m 304 #[.val (.int a1), .val (.int a2), .val (.int a3), .val (.int a4), .val (.int (Int32.ofNat fa1.1)), .val (.int (Int32.ofNat fb1.1)), .val (.int (Int32.ofNat fc1.1)), .val (.int (Int32.ofNat fd1.1)), .val (.ref ob), .val (.ref ea), .val (.int (Int32.ofNat kn)), .val (.int (Int32.ofNat ((own_mark (own_mark (own_mark (own_mark own_q0 fa1.1) fb1.1) fc1.1) fd1.1).1.getD 0 0))), .val (.int (Int32.ofNat ((own_mark (own_mark (own_mark (own_mark own_q0 fa1.1) fb1.1) fc1.1) fd1.1).1.getD 1 0))), .val (.int (Int32.ofNat ((own_mark (own_mark (own_mark (own_mark own_q0 fa1.1) fb1.1) fc1.1) fd1.1).1.getD 2 0))), .val (.int (Int32.ofNat ((own_mark (own_mark (own_mark (own_mark own_q0 fa1.1) fb1.1) fc1.1) fd1.1).1.getD 3 0))), .val (.int (((((1 : Int32) <<< ((Int32.ofNat ((own_mark (own_mark (own_mark (own_mark own_q0 fa1.1) fb1.1) fc1.1) fd1.1).1.getD 0 0)) &&& 31)) ||| ((1 : Int32) <<< ((Int32.ofNat ((own_mark (own_mark (own_mark (own_mark own_q0 fa1.1) fb1.1) fc1.1) fd1.1).1.getD 1 0)) &&& 31))) ||| ((1 : Int32) <<< ((Int32.ofNat ((own_mark (own_mark (own_mark (own_mark own_q0 fa1.1) fb1.1) fc1.1) fd1.1).1.getD 2 0)) &&& 31))) ||| ((1 : Int32) <<< ((Int32.ofNat ((own_mark (own_mark (own_mark (own_mark own_q0 fa1.1) fb1.1) fc1.1) fd1.1).1.getD 3 0)) &&& 31)))), .val (.int (1 : Int32)), .unset] [(.ref ea), (.int (Int32.ofNat ((own_mark (own_mark (own_mark (own_mark own_q0 fa1.1) fb1.1) fc1.1) fd1.1).1.getD 3 0)))])) _
            refine XS.iconst X100.here hx rfl (hb hby at_304) ?_
            show Steps p.tables e below (T100.setTop (mkF m 305 #[.val (.int a1), .val (.int a2), .val (.int a3), .val (.int a4), .val (.int (Int32.ofNat fa1.1)), .val (.int (Int32.ofNat fb1.1)), .val (.int (Int32.ofNat fc1.1)), .val (.int (Int32.ofNat fd1.1)), .val (.ref ob), .val (.ref ea), .val (.int (Int32.ofNat kn)), .val (.int (Int32.ofNat ((own_mark (own_mark (own_mark (own_mark own_q0 fa1.1) fb1.1) fc1.1) fd1.1).1.getD 0 0))), .val (.int (Int32.ofNat ((own_mark (own_mark (own_mark (own_mark own_q0 fa1.1) fb1.1) fc1.1) fd1.1).1.getD 1 0))), .val (.int (Int32.ofNat ((own_mark (own_mark (own_mark (own_mark own_q0 fa1.1) fb1.1) fc1.1) fd1.1).1.getD 2 0))), .val (.int (Int32.ofNat ((own_mark (own_mark (own_mark (own_mark own_q0 fa1.1) fb1.1) fc1.1) fd1.1).1.getD 3 0))), .val (.int (((((1 : Int32) <<< ((Int32.ofNat ((own_mark (own_mark (own_mark (own_mark own_q0 fa1.1) fb1.1) fc1.1) fd1.1).1.getD 0 0)) &&& 31)) ||| ((1 : Int32) <<< ((Int32.ofNat ((own_mark (own_mark (own_mark (own_mark own_q0 fa1.1) fb1.1) fc1.1) fd1.1).1.getD 1 0)) &&& 31))) ||| ((1 : Int32) <<< ((Int32.ofNat ((own_mark (own_mark (own_mark (own_mark own_q0 fa1.1) fb1.1) fc1.1) fd1.1).1.getD 2 0)) &&& 31))) ||| ((1 : Int32) <<< ((Int32.ofNat ((own_mark (own_mark (own_mark (own_mark own_q0 fa1.1) fb1.1) fc1.1) fd1.1).1.getD 3 0)) &&& 31)))), .val (.int (1 : Int32)), .unset] [(.int (3 : Int32)), (.ref ea), (.int (Int32.ofNat ((own_mark (own_mark (own_mark (own_mark own_q0 fa1.1) fb1.1) fc1.1) fd1.1).1.getD 3 0)))])) _
            refine ld108 _ ?_
            show Steps p.tables e below (T100.setTop (mkF m 306 #[.val (.int a1), .val (.int a2), .val (.int a3), .val (.int a4), .val (.int (Int32.ofNat fa1.1)), .val (.int (Int32.ofNat fb1.1)), .val (.int (Int32.ofNat fc1.1)), .val (.int (Int32.ofNat fd1.1)), .val (.ref ob), .val (.ref ea), .val (.int (Int32.ofNat kn)), .val (.int (Int32.ofNat ((own_mark (own_mark (own_mark (own_mark own_q0 fa1.1) fb1.1) fc1.1) fd1.1).1.getD 0 0))), .val (.int (Int32.ofNat ((own_mark (own_mark (own_mark (own_mark own_q0 fa1.1) fb1.1) fc1.1) fd1.1).1.getD 1 0))), .val (.int (Int32.ofNat ((own_mark (own_mark (own_mark (own_mark own_q0 fa1.1) fb1.1) fc1.1) fd1.1).1.getD 2 0))), .val (.int (Int32.ofNat ((own_mark (own_mark (own_mark (own_mark own_q0 fa1.1) fb1.1) fc1.1) fd1.1).1.getD 3 0))), .val (.int (((((1 : Int32) <<< ((Int32.ofNat ((own_mark (own_mark (own_mark (own_mark own_q0 fa1.1) fb1.1) fc1.1) fd1.1).1.getD 0 0)) &&& 31)) ||| ((1 : Int32) <<< ((Int32.ofNat ((own_mark (own_mark (own_mark (own_mark own_q0 fa1.1) fb1.1) fc1.1) fd1.1).1.getD 1 0)) &&& 31))) ||| ((1 : Int32) <<< ((Int32.ofNat ((own_mark (own_mark (own_mark (own_mark own_q0 fa1.1) fb1.1) fc1.1) fd1.1).1.getD 2 0)) &&& 31))) ||| ((1 : Int32) <<< ((Int32.ofNat ((own_mark (own_mark (own_mark (own_mark own_q0 fa1.1) fb1.1) fc1.1) fd1.1).1.getD 3 0)) &&& 31)))), .val (.int (1 : Int32)), .unset] [(.int (Int32.ofNat (el.getD 3 0))), (.int (Int32.ofNat ((own_mark (own_mark (own_mark (own_mark own_q0 fa1.1) fb1.1) fc1.1) fd1.1).1.getD 3 0)))])) _
            refine XS.icmpNo X100.here hx rfl (hb hby at_306) rfl (teq (congrArg Int32.ofNat (fe3.resolve_left fun w => hc297 ((own_ltn (by omega) (by decide)).mpr w)))).2 ?_
            show Steps p.tables e below (T100.setTop (mkF m 309 #[.val (.int a1), .val (.int a2), .val (.int a3), .val (.int a4), .val (.int (Int32.ofNat fa1.1)), .val (.int (Int32.ofNat fb1.1)), .val (.int (Int32.ofNat fc1.1)), .val (.int (Int32.ofNat fd1.1)), .val (.ref ob), .val (.ref ea), .val (.int (Int32.ofNat kn)), .val (.int (Int32.ofNat ((own_mark (own_mark (own_mark (own_mark own_q0 fa1.1) fb1.1) fc1.1) fd1.1).1.getD 0 0))), .val (.int (Int32.ofNat ((own_mark (own_mark (own_mark (own_mark own_q0 fa1.1) fb1.1) fc1.1) fd1.1).1.getD 1 0))), .val (.int (Int32.ofNat ((own_mark (own_mark (own_mark (own_mark own_q0 fa1.1) fb1.1) fc1.1) fd1.1).1.getD 2 0))), .val (.int (Int32.ofNat ((own_mark (own_mark (own_mark (own_mark own_q0 fa1.1) fb1.1) fc1.1) fd1.1).1.getD 3 0))), .val (.int (((((1 : Int32) <<< ((Int32.ofNat ((own_mark (own_mark (own_mark (own_mark own_q0 fa1.1) fb1.1) fc1.1) fd1.1).1.getD 0 0)) &&& 31)) ||| ((1 : Int32) <<< ((Int32.ofNat ((own_mark (own_mark (own_mark (own_mark own_q0 fa1.1) fb1.1) fc1.1) fd1.1).1.getD 1 0)) &&& 31))) ||| ((1 : Int32) <<< ((Int32.ofNat ((own_mark (own_mark (own_mark (own_mark own_q0 fa1.1) fb1.1) fc1.1) fd1.1).1.getD 2 0)) &&& 31))) ||| ((1 : Int32) <<< ((Int32.ofNat ((own_mark (own_mark (own_mark (own_mark own_q0 fa1.1) fb1.1) fc1.1) fd1.1).1.getD 3 0)) &&& 31)))), .val (.int (1 : Int32)), .unset] [])) _
            refine XS.iconst X100.here hx rfl (hb hby at_309) ?_
            show Steps p.tables e below (T100.setTop (mkF m 310 #[.val (.int a1), .val (.int a2), .val (.int a3), .val (.int a4), .val (.int (Int32.ofNat fa1.1)), .val (.int (Int32.ofNat fb1.1)), .val (.int (Int32.ofNat fc1.1)), .val (.int (Int32.ofNat fd1.1)), .val (.ref ob), .val (.ref ea), .val (.int (Int32.ofNat kn)), .val (.int (Int32.ofNat ((own_mark (own_mark (own_mark (own_mark own_q0 fa1.1) fb1.1) fc1.1) fd1.1).1.getD 0 0))), .val (.int (Int32.ofNat ((own_mark (own_mark (own_mark (own_mark own_q0 fa1.1) fb1.1) fc1.1) fd1.1).1.getD 1 0))), .val (.int (Int32.ofNat ((own_mark (own_mark (own_mark (own_mark own_q0 fa1.1) fb1.1) fc1.1) fd1.1).1.getD 2 0))), .val (.int (Int32.ofNat ((own_mark (own_mark (own_mark (own_mark own_q0 fa1.1) fb1.1) fc1.1) fd1.1).1.getD 3 0))), .val (.int (((((1 : Int32) <<< ((Int32.ofNat ((own_mark (own_mark (own_mark (own_mark own_q0 fa1.1) fb1.1) fc1.1) fd1.1).1.getD 0 0)) &&& 31)) ||| ((1 : Int32) <<< ((Int32.ofNat ((own_mark (own_mark (own_mark (own_mark own_q0 fa1.1) fb1.1) fc1.1) fd1.1).1.getD 1 0)) &&& 31))) ||| ((1 : Int32) <<< ((Int32.ofNat ((own_mark (own_mark (own_mark (own_mark own_q0 fa1.1) fb1.1) fc1.1) fd1.1).1.getD 2 0)) &&& 31))) ||| ((1 : Int32) <<< ((Int32.ofNat ((own_mark (own_mark (own_mark (own_mark own_q0 fa1.1) fb1.1) fc1.1) fd1.1).1.getD 3 0)) &&& 31)))), .val (.int (1 : Int32)), .unset] [(.int (1 : Int32))])) _
            refine XS.goto X100.here hx rfl (pc0 := 310) (pc' := 314) rfl (hb hby at_310) (by decide) (by decide) ?_
            exact kt
          exact ⟨T100, _, (1 : Int32), X100, eq100, N100, rfl, pre109⟩
      case neg =>
        have ld110 := (own_ldI X100 hx hZ eq100 V_ea (j := (2 : Int32)) (by decide) (k := 2) rfl (by decide) (v := (.int (Int32.ofNat (el.getD 2 0)))) rfl (g := (mkF m 290 #[.val (.int a1), .val (.int a2), .val (.int a3), .val (.int a4), .val (.int (Int32.ofNat fa1.1)), .val (.int (Int32.ofNat fb1.1)), .val (.int (Int32.ofNat fc1.1)), .val (.int (Int32.ofNat fd1.1)), .val (.ref ob), .val (.ref ea), .val (.int (Int32.ofNat kn)), .val (.int (Int32.ofNat ((own_mark (own_mark (own_mark (own_mark own_q0 fa1.1) fb1.1) fc1.1) fd1.1).1.getD 0 0))), .val (.int (Int32.ofNat ((own_mark (own_mark (own_mark (own_mark own_q0 fa1.1) fb1.1) fc1.1) fd1.1).1.getD 1 0))), .val (.int (Int32.ofNat ((own_mark (own_mark (own_mark (own_mark own_q0 fa1.1) fb1.1) fc1.1) fd1.1).1.getD 2 0))), .val (.int (Int32.ofNat ((own_mark (own_mark (own_mark (own_mark own_q0 fa1.1) fb1.1) fc1.1) fd1.1).1.getD 3 0))), .val (.int (((((1 : Int32) <<< ((Int32.ofNat ((own_mark (own_mark (own_mark (own_mark own_q0 fa1.1) fb1.1) fc1.1) fd1.1).1.getD 0 0)) &&& 31)) ||| ((1 : Int32) <<< ((Int32.ofNat ((own_mark (own_mark (own_mark (own_mark own_q0 fa1.1) fb1.1) fc1.1) fd1.1).1.getD 1 0)) &&& 31))) ||| ((1 : Int32) <<< ((Int32.ofNat ((own_mark (own_mark (own_mark (own_mark own_q0 fa1.1) fb1.1) fc1.1) fd1.1).1.getD 2 0)) &&& 31))) ||| ((1 : Int32) <<< ((Int32.ofNat ((own_mark (own_mark (own_mark (own_mark own_q0 fa1.1) fb1.1) fc1.1) fd1.1).1.getD 3 0)) &&& 31)))), .val (.int (1 : Int32)), .unset] [(.int (2 : Int32)), (.ref ea), (.int (Int32.ofNat ((own_mark (own_mark (own_mark (own_mark own_q0 fa1.1) fb1.1) fc1.1) fd1.1).1.getD 2 0)))])) rfl rfl (hb hby at_290))
        have pre111 : ∀ t, Steps p.tables e below (T100.setTop (mkF m 297 #[.val (.int a1), .val (.int a2), .val (.int a3), .val (.int a4), .val (.int (Int32.ofNat fa1.1)), .val (.int (Int32.ofNat fb1.1)), .val (.int (Int32.ofNat fc1.1)), .val (.int (Int32.ofNat fd1.1)), .val (.ref ob), .val (.ref ea), .val (.int (Int32.ofNat kn)), .val (.int (Int32.ofNat ((own_mark (own_mark (own_mark (own_mark own_q0 fa1.1) fb1.1) fc1.1) fd1.1).1.getD 0 0))), .val (.int (Int32.ofNat ((own_mark (own_mark (own_mark (own_mark own_q0 fa1.1) fb1.1) fc1.1) fd1.1).1.getD 1 0))), .val (.int (Int32.ofNat ((own_mark (own_mark (own_mark (own_mark own_q0 fa1.1) fb1.1) fc1.1) fd1.1).1.getD 2 0))), .val (.int (Int32.ofNat ((own_mark (own_mark (own_mark (own_mark own_q0 fa1.1) fb1.1) fc1.1) fd1.1).1.getD 3 0))), .val (.int (((((1 : Int32) <<< ((Int32.ofNat ((own_mark (own_mark (own_mark (own_mark own_q0 fa1.1) fb1.1) fc1.1) fd1.1).1.getD 0 0)) &&& 31)) ||| ((1 : Int32) <<< ((Int32.ofNat ((own_mark (own_mark (own_mark (own_mark own_q0 fa1.1) fb1.1) fc1.1) fd1.1).1.getD 1 0)) &&& 31))) ||| ((1 : Int32) <<< ((Int32.ofNat ((own_mark (own_mark (own_mark (own_mark own_q0 fa1.1) fb1.1) fc1.1) fd1.1).1.getD 2 0)) &&& 31))) ||| ((1 : Int32) <<< ((Int32.ofNat ((own_mark (own_mark (own_mark (own_mark own_q0 fa1.1) fb1.1) fc1.1) fd1.1).1.getD 3 0)) &&& 31)))), .val (.int (1 : Int32)), .unset] [(.int (4 : Int32)), (.int (Int32.ofNat kn))])) t → Steps p.tables e below (s₁.setTop (entryFrame m #[(.int a1), (.int a2), (.int a3), (.int a4)] maxLocals)) t := by
          intro t kt
          refine pre105 t ?_
          show Steps p.tables e below (T100.setTop (mkF m 282 #[.val (.int a1), .val (.int a2), .val (.int a3), .val (.int a4), .val (.int (Int32.ofNat fa1.1)), .val (.int (Int32.ofNat fb1.1)), .val (.int (Int32.ofNat fc1.1)), .val (.int (Int32.ofNat fd1.1)), .val (.ref ob), .val (.ref ea), .val (.int (Int32.ofNat kn)), .val (.int (Int32.ofNat ((own_mark (own_mark (own_mark (own_mark own_q0 fa1.1) fb1.1) fc1.1) fd1.1).1.getD 0 0))), .val (.int (Int32.ofNat ((own_mark (own_mark (own_mark (own_mark own_q0 fa1.1) fb1.1) fc1.1) fd1.1).1.getD 1 0))), .val (.int (Int32.ofNat ((own_mark (own_mark (own_mark (own_mark own_q0 fa1.1) fb1.1) fc1.1) fd1.1).1.getD 2 0))), .val (.int (Int32.ofNat ((own_mark (own_mark (own_mark (own_mark own_q0 fa1.1) fb1.1) fc1.1) fd1.1).1.getD 3 0))), .val (.int (((((1 : Int32) <<< ((Int32.ofNat ((own_mark (own_mark (own_mark (own_mark own_q0 fa1.1) fb1.1) fc1.1) fd1.1).1.getD 0 0)) &&& 31)) ||| ((1 : Int32) <<< ((Int32.ofNat ((own_mark (own_mark (own_mark (own_mark own_q0 fa1.1) fb1.1) fc1.1) fd1.1).1.getD 1 0)) &&& 31))) ||| ((1 : Int32) <<< ((Int32.ofNat ((own_mark (own_mark (own_mark (own_mark own_q0 fa1.1) fb1.1) fc1.1) fd1.1).1.getD 2 0)) &&& 31))) ||| ((1 : Int32) <<< ((Int32.ofNat ((own_mark (own_mark (own_mark (own_mark own_q0 fa1.1) fb1.1) fc1.1) fd1.1).1.getD 3 0)) &&& 31)))), .val (.int (1 : Int32)), .unset] [(.int (3 : Int32)), (.int (Int32.ofNat kn))])) _
          refine XS.icmpNo X100.here hx rfl (hb hby at_282) rfl (flt hc282).1 ?_
          show Steps p.tables e below (T100.setTop (mkF m 285 #[.val (.int a1), .val (.int a2), .val (.int a3), .val (.int a4), .val (.int (Int32.ofNat fa1.1)), .val (.int (Int32.ofNat fb1.1)), .val (.int (Int32.ofNat fc1.1)), .val (.int (Int32.ofNat fd1.1)), .val (.ref ob), .val (.ref ea), .val (.int (Int32.ofNat kn)), .val (.int (Int32.ofNat ((own_mark (own_mark (own_mark (own_mark own_q0 fa1.1) fb1.1) fc1.1) fd1.1).1.getD 0 0))), .val (.int (Int32.ofNat ((own_mark (own_mark (own_mark (own_mark own_q0 fa1.1) fb1.1) fc1.1) fd1.1).1.getD 1 0))), .val (.int (Int32.ofNat ((own_mark (own_mark (own_mark (own_mark own_q0 fa1.1) fb1.1) fc1.1) fd1.1).1.getD 2 0))), .val (.int (Int32.ofNat ((own_mark (own_mark (own_mark (own_mark own_q0 fa1.1) fb1.1) fc1.1) fd1.1).1.getD 3 0))), .val (.int (((((1 : Int32) <<< ((Int32.ofNat ((own_mark (own_mark (own_mark (own_mark own_q0 fa1.1) fb1.1) fc1.1) fd1.1).1.getD 0 0)) &&& 31)) ||| ((1 : Int32) <<< ((Int32.ofNat ((own_mark (own_mark (own_mark (own_mark own_q0 fa1.1) fb1.1) fc1.1) fd1.1).1.getD 1 0)) &&& 31))) ||| ((1 : Int32) <<< ((Int32.ofNat ((own_mark (own_mark (own_mark (own_mark own_q0 fa1.1) fb1.1) fc1.1) fd1.1).1.getD 2 0)) &&& 31))) ||| ((1 : Int32) <<< ((Int32.ofNat ((own_mark (own_mark (own_mark (own_mark own_q0 fa1.1) fb1.1) fc1.1) fd1.1).1.getD 3 0)) &&& 31)))), .val (.int (1 : Int32)), .unset] [])) _
          refine XS.iload X100.here hx rfl (hb hby at_285) rfl ?_
          show Steps p.tables e below (T100.setTop (mkF m 287 #[.val (.int a1), .val (.int a2), .val (.int a3), .val (.int a4), .val (.int (Int32.ofNat fa1.1)), .val (.int (Int32.ofNat fb1.1)), .val (.int (Int32.ofNat fc1.1)), .val (.int (Int32.ofNat fd1.1)), .val (.ref ob), .val (.ref ea), .val (.int (Int32.ofNat kn)), .val (.int (Int32.ofNat ((own_mark (own_mark (own_mark (own_mark own_q0 fa1.1) fb1.1) fc1.1) fd1.1).1.getD 0 0))), .val (.int (Int32.ofNat ((own_mark (own_mark (own_mark (own_mark own_q0 fa1.1) fb1.1) fc1.1) fd1.1).1.getD 1 0))), .val (.int (Int32.ofNat ((own_mark (own_mark (own_mark (own_mark own_q0 fa1.1) fb1.1) fc1.1) fd1.1).1.getD 2 0))), .val (.int (Int32.ofNat ((own_mark (own_mark (own_mark (own_mark own_q0 fa1.1) fb1.1) fc1.1) fd1.1).1.getD 3 0))), .val (.int (((((1 : Int32) <<< ((Int32.ofNat ((own_mark (own_mark (own_mark (own_mark own_q0 fa1.1) fb1.1) fc1.1) fd1.1).1.getD 0 0)) &&& 31)) ||| ((1 : Int32) <<< ((Int32.ofNat ((own_mark (own_mark (own_mark (own_mark own_q0 fa1.1) fb1.1) fc1.1) fd1.1).1.getD 1 0)) &&& 31))) ||| ((1 : Int32) <<< ((Int32.ofNat ((own_mark (own_mark (own_mark (own_mark own_q0 fa1.1) fb1.1) fc1.1) fd1.1).1.getD 2 0)) &&& 31))) ||| ((1 : Int32) <<< ((Int32.ofNat ((own_mark (own_mark (own_mark (own_mark own_q0 fa1.1) fb1.1) fc1.1) fd1.1).1.getD 3 0)) &&& 31)))), .val (.int (1 : Int32)), .unset] [(.int (Int32.ofNat ((own_mark (own_mark (own_mark (own_mark own_q0 fa1.1) fb1.1) fc1.1) fd1.1).1.getD 2 0)))])) _
          refine XS.aload X100.here hx rfl (hb hby at_287) rfl rfl ?_
          show Steps p.tables e below (T100.setTop (mkF m 289 #[.val (.int a1), .val (.int a2), .val (.int a3), .val (.int a4), .val (.int (Int32.ofNat fa1.1)), .val (.int (Int32.ofNat fb1.1)), .val (.int (Int32.ofNat fc1.1)), .val (.int (Int32.ofNat fd1.1)), .val (.ref ob), .val (.ref ea), .val (.int (Int32.ofNat kn)), .val (.int (Int32.ofNat ((own_mark (own_mark (own_mark (own_mark own_q0 fa1.1) fb1.1) fc1.1) fd1.1).1.getD 0 0))), .val (.int (Int32.ofNat ((own_mark (own_mark (own_mark (own_mark own_q0 fa1.1) fb1.1) fc1.1) fd1.1).1.getD 1 0))), .val (.int (Int32.ofNat ((own_mark (own_mark (own_mark (own_mark own_q0 fa1.1) fb1.1) fc1.1) fd1.1).1.getD 2 0))), .val (.int (Int32.ofNat ((own_mark (own_mark (own_mark (own_mark own_q0 fa1.1) fb1.1) fc1.1) fd1.1).1.getD 3 0))), .val (.int (((((1 : Int32) <<< ((Int32.ofNat ((own_mark (own_mark (own_mark (own_mark own_q0 fa1.1) fb1.1) fc1.1) fd1.1).1.getD 0 0)) &&& 31)) ||| ((1 : Int32) <<< ((Int32.ofNat ((own_mark (own_mark (own_mark (own_mark own_q0 fa1.1) fb1.1) fc1.1) fd1.1).1.getD 1 0)) &&& 31))) ||| ((1 : Int32) <<< ((Int32.ofNat ((own_mark (own_mark (own_mark (own_mark own_q0 fa1.1) fb1.1) fc1.1) fd1.1).1.getD 2 0)) &&& 31))) ||| ((1 : Int32) <<< ((Int32.ofNat ((own_mark (own_mark (own_mark (own_mark own_q0 fa1.1) fb1.1) fc1.1) fd1.1).1.getD 3 0)) &&& 31)))), .val (.int (1 : Int32)), .unset] [(.ref ea), (.int (Int32.ofNat ((own_mark (own_mark (own_mark (own_mark own_q0 fa1.1) fb1.1) fc1.1) fd1.1).1.getD 2 0)))])) _
          refine XS.iconst X100.here hx rfl (hb hby at_289) ?_
          show Steps p.tables e below (T100.setTop (mkF m 290 #[.val (.int a1), .val (.int a2), .val (.int a3), .val (.int a4), .val (.int (Int32.ofNat fa1.1)), .val (.int (Int32.ofNat fb1.1)), .val (.int (Int32.ofNat fc1.1)), .val (.int (Int32.ofNat fd1.1)), .val (.ref ob), .val (.ref ea), .val (.int (Int32.ofNat kn)), .val (.int (Int32.ofNat ((own_mark (own_mark (own_mark (own_mark own_q0 fa1.1) fb1.1) fc1.1) fd1.1).1.getD 0 0))), .val (.int (Int32.ofNat ((own_mark (own_mark (own_mark (own_mark own_q0 fa1.1) fb1.1) fc1.1) fd1.1).1.getD 1 0))), .val (.int (Int32.ofNat ((own_mark (own_mark (own_mark (own_mark own_q0 fa1.1) fb1.1) fc1.1) fd1.1).1.getD 2 0))), .val (.int (Int32.ofNat ((own_mark (own_mark (own_mark (own_mark own_q0 fa1.1) fb1.1) fc1.1) fd1.1).1.getD 3 0))), .val (.int (((((1 : Int32) <<< ((Int32.ofNat ((own_mark (own_mark (own_mark (own_mark own_q0 fa1.1) fb1.1) fc1.1) fd1.1).1.getD 0 0)) &&& 31)) ||| ((1 : Int32) <<< ((Int32.ofNat ((own_mark (own_mark (own_mark (own_mark own_q0 fa1.1) fb1.1) fc1.1) fd1.1).1.getD 1 0)) &&& 31))) ||| ((1 : Int32) <<< ((Int32.ofNat ((own_mark (own_mark (own_mark (own_mark own_q0 fa1.1) fb1.1) fc1.1) fd1.1).1.getD 2 0)) &&& 31))) ||| ((1 : Int32) <<< ((Int32.ofNat ((own_mark (own_mark (own_mark (own_mark own_q0 fa1.1) fb1.1) fc1.1) fd1.1).1.getD 3 0)) &&& 31)))), .val (.int (1 : Int32)), .unset] [(.int (2 : Int32)), (.ref ea), (.int (Int32.ofNat ((own_mark (own_mark (own_mark (own_mark own_q0 fa1.1) fb1.1) fc1.1) fd1.1).1.getD 2 0)))])) _
          refine ld110 _ ?_
          show Steps p.tables e below (T100.setTop (mkF m 291 #[.val (.int a1), .val (.int a2), .val (.int a3), .val (.int a4), .val (.int (Int32.ofNat fa1.1)), .val (.int (Int32.ofNat fb1.1)), .val (.int (Int32.ofNat fc1.1)), .val (.int (Int32.ofNat fd1.1)), .val (.ref ob), .val (.ref ea), .val (.int (Int32.ofNat kn)), .val (.int (Int32.ofNat ((own_mark (own_mark (own_mark (own_mark own_q0 fa1.1) fb1.1) fc1.1) fd1.1).1.getD 0 0))), .val (.int (Int32.ofNat ((own_mark (own_mark (own_mark (own_mark own_q0 fa1.1) fb1.1) fc1.1) fd1.1).1.getD 1 0))), .val (.int (Int32.ofNat ((own_mark (own_mark (own_mark (own_mark own_q0 fa1.1) fb1.1) fc1.1) fd1.1).1.getD 2 0))), .val (.int (Int32.ofNat ((own_mark (own_mark (own_mark (own_mark own_q0 fa1.1) fb1.1) fc1.1) fd1.1).1.getD 3 0))), .val (.int (((((1 : Int32) <<< ((Int32.ofNat ((own_mark (own_mark (own_mark (own_mark own_q0 fa1.1) fb1.1) fc1.1) fd1.1).1.getD 0 0)) &&& 31)) ||| ((1 : Int32) <<< ((Int32.ofNat ((own_mark (own_mark (own_mark (own_mark own_q0 fa1.1) fb1.1) fc1.1) fd1.1).1.getD 1 0)) &&& 31))) ||| ((1 : Int32) <<< ((Int32.ofNat ((own_mark (own_mark (own_mark (own_mark own_q0 fa1.1) fb1.1) fc1.1) fd1.1).1.getD 2 0)) &&& 31))) ||| ((1 : Int32) <<< ((Int32.ofNat ((own_mark (own_mark (own_mark (own_mark own_q0 fa1.1) fb1.1) fc1.1) fd1.1).1.getD 3 0)) &&& 31)))), .val (.int (1 : Int32)), .unset] [(.int (Int32.ofNat (el.getD 2 0))), (.int (Int32.ofNat ((own_mark (own_mark (own_mark (own_mark own_q0 fa1.1) fb1.1) fc1.1) fd1.1).1.getD 2 0)))])) _
          refine XS.icmpNo X100.here hx rfl (hb hby at_291) rfl (teq (congrArg Int32.ofNat (fe2.resolve_left fun w => hc282 ((own_ltn (by omega) (by decide)).mpr w)))).2 ?_
          show Steps p.tables e below (T100.setTop (mkF m 294 #[.val (.int a1), .val (.int a2), .val (.int a3), .val (.int a4), .val (.int (Int32.ofNat fa1.1)), .val (.int (Int32.ofNat fb1.1)), .val (.int (Int32.ofNat fc1.1)), .val (.int (Int32.ofNat fd1.1)), .val (.ref ob), .val (.ref ea), .val (.int (Int32.ofNat kn)), .val (.int (Int32.ofNat ((own_mark (own_mark (own_mark (own_mark own_q0 fa1.1) fb1.1) fc1.1) fd1.1).1.getD 0 0))), .val (.int (Int32.ofNat ((own_mark (own_mark (own_mark (own_mark own_q0 fa1.1) fb1.1) fc1.1) fd1.1).1.getD 1 0))), .val (.int (Int32.ofNat ((own_mark (own_mark (own_mark (own_mark own_q0 fa1.1) fb1.1) fc1.1) fd1.1).1.getD 2 0))), .val (.int (Int32.ofNat ((own_mark (own_mark (own_mark (own_mark own_q0 fa1.1) fb1.1) fc1.1) fd1.1).1.getD 3 0))), .val (.int (((((1 : Int32) <<< ((Int32.ofNat ((own_mark (own_mark (own_mark (own_mark own_q0 fa1.1) fb1.1) fc1.1) fd1.1).1.getD 0 0)) &&& 31)) ||| ((1 : Int32) <<< ((Int32.ofNat ((own_mark (own_mark (own_mark (own_mark own_q0 fa1.1) fb1.1) fc1.1) fd1.1).1.getD 1 0)) &&& 31))) ||| ((1 : Int32) <<< ((Int32.ofNat ((own_mark (own_mark (own_mark (own_mark own_q0 fa1.1) fb1.1) fc1.1) fd1.1).1.getD 2 0)) &&& 31))) ||| ((1 : Int32) <<< ((Int32.ofNat ((own_mark (own_mark (own_mark (own_mark own_q0 fa1.1) fb1.1) fc1.1) fd1.1).1.getD 3 0)) &&& 31)))), .val (.int (1 : Int32)), .unset] [])) _
          refine XS.iload X100.here hx rfl (hb hby at_294) rfl ?_
          show Steps p.tables e below (T100.setTop (mkF m 296 #[.val (.int a1), .val (.int a2), .val (.int a3), .val (.int a4), .val (.int (Int32.ofNat fa1.1)), .val (.int (Int32.ofNat fb1.1)), .val (.int (Int32.ofNat fc1.1)), .val (.int (Int32.ofNat fd1.1)), .val (.ref ob), .val (.ref ea), .val (.int (Int32.ofNat kn)), .val (.int (Int32.ofNat ((own_mark (own_mark (own_mark (own_mark own_q0 fa1.1) fb1.1) fc1.1) fd1.1).1.getD 0 0))), .val (.int (Int32.ofNat ((own_mark (own_mark (own_mark (own_mark own_q0 fa1.1) fb1.1) fc1.1) fd1.1).1.getD 1 0))), .val (.int (Int32.ofNat ((own_mark (own_mark (own_mark (own_mark own_q0 fa1.1) fb1.1) fc1.1) fd1.1).1.getD 2 0))), .val (.int (Int32.ofNat ((own_mark (own_mark (own_mark (own_mark own_q0 fa1.1) fb1.1) fc1.1) fd1.1).1.getD 3 0))), .val (.int (((((1 : Int32) <<< ((Int32.ofNat ((own_mark (own_mark (own_mark (own_mark own_q0 fa1.1) fb1.1) fc1.1) fd1.1).1.getD 0 0)) &&& 31)) ||| ((1 : Int32) <<< ((Int32.ofNat ((own_mark (own_mark (own_mark (own_mark own_q0 fa1.1) fb1.1) fc1.1) fd1.1).1.getD 1 0)) &&& 31))) ||| ((1 : Int32) <<< ((Int32.ofNat ((own_mark (own_mark (own_mark (own_mark own_q0 fa1.1) fb1.1) fc1.1) fd1.1).1.getD 2 0)) &&& 31))) ||| ((1 : Int32) <<< ((Int32.ofNat ((own_mark (own_mark (own_mark (own_mark own_q0 fa1.1) fb1.1) fc1.1) fd1.1).1.getD 3 0)) &&& 31)))), .val (.int (1 : Int32)), .unset] [(.int (Int32.ofNat kn))])) _
          refine XS.iconst X100.here hx rfl (hb hby at_296) ?_
          exact kt
        by_cases hc297_2 : (Int32.ofNat kn) < (4 : Int32)
        case pos =>
          have pre112 : ∀ t, Steps p.tables e below (T100.setTop (mkF m 314 #[.val (.int a1), .val (.int a2), .val (.int a3), .val (.int a4), .val (.int (Int32.ofNat fa1.1)), .val (.int (Int32.ofNat fb1.1)), .val (.int (Int32.ofNat fc1.1)), .val (.int (Int32.ofNat fd1.1)), .val (.ref ob), .val (.ref ea), .val (.int (Int32.ofNat kn)), .val (.int (Int32.ofNat ((own_mark (own_mark (own_mark (own_mark own_q0 fa1.1) fb1.1) fc1.1) fd1.1).1.getD 0 0))), .val (.int (Int32.ofNat ((own_mark (own_mark (own_mark (own_mark own_q0 fa1.1) fb1.1) fc1.1) fd1.1).1.getD 1 0))), .val (.int (Int32.ofNat ((own_mark (own_mark (own_mark (own_mark own_q0 fa1.1) fb1.1) fc1.1) fd1.1).1.getD 2 0))), .val (.int (Int32.ofNat ((own_mark (own_mark (own_mark (own_mark own_q0 fa1.1) fb1.1) fc1.1) fd1.1).1.getD 3 0))), .val (.int (((((1 : Int32) <<< ((Int32.ofNat ((own_mark (own_mark (own_mark (own_mark own_q0 fa1.1) fb1.1) fc1.1) fd1.1).1.getD 0 0)) &&& 31)) ||| ((1 : Int32) <<< ((Int32.ofNat ((own_mark (own_mark (own_mark (own_mark own_q0 fa1.1) fb1.1) fc1.1) fd1.1).1.getD 1 0)) &&& 31))) ||| ((1 : Int32) <<< ((Int32.ofNat ((own_mark (own_mark (own_mark (own_mark own_q0 fa1.1) fb1.1) fc1.1) fd1.1).1.getD 2 0)) &&& 31))) ||| ((1 : Int32) <<< ((Int32.ofNat ((own_mark (own_mark (own_mark (own_mark own_q0 fa1.1) fb1.1) fc1.1) fd1.1).1.getD 3 0)) &&& 31)))), .val (.int (1 : Int32)), .unset] [(.int (1 : Int32))])) t → Steps p.tables e below (s₁.setTop (entryFrame m #[(.int a1), (.int a2), (.int a3), (.int a4)] maxLocals)) t := by
            intro t kt
            refine pre111 t ?_
            show Steps p.tables e below (T100.setTop (mkF m 297 #[.val (.int a1), .val (.int a2), .val (.int a3), .val (.int a4), .val (.int (Int32.ofNat fa1.1)), .val (.int (Int32.ofNat fb1.1)), .val (.int (Int32.ofNat fc1.1)), .val (.int (Int32.ofNat fd1.1)), .val (.ref ob), .val (.ref ea), .val (.int (Int32.ofNat kn)), .val (.int (Int32.ofNat ((own_mark (own_mark (own_mark (own_mark own_q0 fa1.1) fb1.1) fc1.1) fd1.1).1.getD 0 0))), .val (.int (Int32.ofNat ((own_mark (own_mark (own_mark (own_mark own_q0 fa1.1) fb1.1) fc1.1) fd1.1).1.getD 1 0))), .val (.int (Int32.ofNat ((own_mark (own_mark (own_mark (own_mark own_q0 fa1.1) fb1.1) fc1.1) fd1.1).1.getD 2 0))), .val (.int (Int32.ofNat ((own_mark (own_mark (own_mark (own_mark own_q0 fa1.1) fb1.1) fc1.1) fd1.1).1.getD 3 0))), .val (.int (((((1 : Int32) <<< ((Int32.ofNat ((own_mark (own_mark (own_mark (own_mark own_q0 fa1.1) fb1.1) fc1.1) fd1.1).1.getD 0 0)) &&& 31)) ||| ((1 : Int32) <<< ((Int32.ofNat ((own_mark (own_mark (own_mark (own_mark own_q0 fa1.1) fb1.1) fc1.1) fd1.1).1.getD 1 0)) &&& 31))) ||| ((1 : Int32) <<< ((Int32.ofNat ((own_mark (own_mark (own_mark (own_mark own_q0 fa1.1) fb1.1) fc1.1) fd1.1).1.getD 2 0)) &&& 31))) ||| ((1 : Int32) <<< ((Int32.ofNat ((own_mark (own_mark (own_mark (own_mark own_q0 fa1.1) fb1.1) fc1.1) fd1.1).1.getD 3 0)) &&& 31)))), .val (.int (1 : Int32)), .unset] [(.int (4 : Int32)), (.int (Int32.ofNat kn))])) _
            refine XS.icmpYes X100.here hx rfl (pc0 := 297) (pc' := 309) rfl (hb hby at_297) rfl (tlt hc297_2).1 (by decide) (by decide) ?_
            show Steps p.tables e below (T100.setTop (mkF m 309 #[.val (.int a1), .val (.int a2), .val (.int a3), .val (.int a4), .val (.int (Int32.ofNat fa1.1)), .val (.int (Int32.ofNat fb1.1)), .val (.int (Int32.ofNat fc1.1)), .val (.int (Int32.ofNat fd1.1)), .val (.ref ob), .val (.ref ea), .val (.int (Int32.ofNat kn)), .val (.int (Int32.ofNat ((own_mark (own_mark (own_mark (own_mark own_q0 fa1.1) fb1.1) fc1.1) fd1.1).1.getD 0 0))), .val (.int (Int32.ofNat ((own_mark (own_mark (own_mark (own_mark own_q0 fa1.1) fb1.1) fc1.1) fd1.1).1.getD 1 0))), .val (.int (Int32.ofNat ((own_mark (own_mark (own_mark (own_mark own_q0 fa1.1) fb1.1) fc1.1) fd1.1).1.getD 2 0))), .val (.int (Int32.ofNat ((own_mark (own_mark (own_mark (own_mark own_q0 fa1.1) fb1.1) fc1.1) fd1.1).1.getD 3 0))), .val (.int (((((1 : Int32) <<< ((Int32.ofNat ((own_mark (own_mark (own_mark (own_mark own_q0 fa1.1) fb1.1) fc1.1) fd1.1).1.getD 0 0)) &&& 31)) ||| ((1 : Int32) <<< ((Int32.ofNat ((own_mark (own_mark (own_mark (own_mark own_q0 fa1.1) fb1.1) fc1.1) fd1.1).1.getD 1 0)) &&& 31))) ||| ((1 : Int32) <<< ((Int32.ofNat ((own_mark (own_mark (own_mark (own_mark own_q0 fa1.1) fb1.1) fc1.1) fd1.1).1.getD 2 0)) &&& 31))) ||| ((1 : Int32) <<< ((Int32.ofNat ((own_mark (own_mark (own_mark (own_mark own_q0 fa1.1) fb1.1) fc1.1) fd1.1).1.getD 3 0)) &&& 31)))), .val (.int (1 : Int32)), .unset] [])) _
            refine XS.iconst X100.here hx rfl (hb hby at_309) ?_
            show Steps p.tables e below (T100.setTop (mkF m 310 #[.val (.int a1), .val (.int a2), .val (.int a3), .val (.int a4), .val (.int (Int32.ofNat fa1.1)), .val (.int (Int32.ofNat fb1.1)), .val (.int (Int32.ofNat fc1.1)), .val (.int (Int32.ofNat fd1.1)), .val (.ref ob), .val (.ref ea), .val (.int (Int32.ofNat kn)), .val (.int (Int32.ofNat ((own_mark (own_mark (own_mark (own_mark own_q0 fa1.1) fb1.1) fc1.1) fd1.1).1.getD 0 0))), .val (.int (Int32.ofNat ((own_mark (own_mark (own_mark (own_mark own_q0 fa1.1) fb1.1) fc1.1) fd1.1).1.getD 1 0))), .val (.int (Int32.ofNat ((own_mark (own_mark (own_mark (own_mark own_q0 fa1.1) fb1.1) fc1.1) fd1.1).1.getD 2 0))), .val (.int (Int32.ofNat ((own_mark (own_mark (own_mark (own_mark own_q0 fa1.1) fb1.1) fc1.1) fd1.1).1.getD 3 0))), .val (.int (((((1 : Int32) <<< ((Int32.ofNat ((own_mark (own_mark (own_mark (own_mark own_q0 fa1.1) fb1.1) fc1.1) fd1.1).1.getD 0 0)) &&& 31)) ||| ((1 : Int32) <<< ((Int32.ofNat ((own_mark (own_mark (own_mark (own_mark own_q0 fa1.1) fb1.1) fc1.1) fd1.1).1.getD 1 0)) &&& 31))) ||| ((1 : Int32) <<< ((Int32.ofNat ((own_mark (own_mark (own_mark (own_mark own_q0 fa1.1) fb1.1) fc1.1) fd1.1).1.getD 2 0)) &&& 31))) ||| ((1 : Int32) <<< ((Int32.ofNat ((own_mark (own_mark (own_mark (own_mark own_q0 fa1.1) fb1.1) fc1.1) fd1.1).1.getD 3 0)) &&& 31)))), .val (.int (1 : Int32)), .unset] [(.int (1 : Int32))])) _
            refine XS.goto X100.here hx rfl (pc0 := 310) (pc' := 314) rfl (hb hby at_310) (by decide) (by decide) ?_
            exact kt
          exact ⟨T100, _, (1 : Int32), X100, eq100, N100, rfl, pre112⟩
        case neg =>
          have ld113 := (own_ldI X100 hx hZ eq100 V_ea (j := (3 : Int32)) (by decide) (k := 3) rfl (by decide) (v := (.int (Int32.ofNat (el.getD 3 0)))) rfl (g := (mkF m 305 #[.val (.int a1), .val (.int a2), .val (.int a3), .val (.int a4), .val (.int (Int32.ofNat fa1.1)), .val (.int (Int32.ofNat fb1.1)), .val (.int (Int32.ofNat fc1.1)), .val (.int (Int32.ofNat fd1.1)), .val (.ref ob), .val (.ref ea), .val (.int (Int32.ofNat kn)), .val (.int (Int32.ofNat ((own_mark (own_mark (own_mark (own_mark own_q0 fa1.1) fb1.1) fc1.1) fd1.1).1.getD 0 0))), .val (.int (Int32.ofNat ((own_mark (own_mark (own_mark (own_mark own_q0 fa1.1) fb1.1) fc1.1) fd1.1).1.getD 1 0))), .val (.int (Int32.ofNat ((own_mark (own_mark (own_mark (own_mark own_q0 fa1.1) fb1.1) fc1.1) fd1.1).1.getD 2 0))), .val (.int (Int32.ofNat ((own_mark (own_mark (own_mark (own_mark own_q0 fa1.1) fb1.1) fc1.1) fd1.1).1.getD 3 0))), .val (.int (((((1 : Int32) <<< ((Int32.ofNat ((own_mark (own_mark (own_mark (own_mark own_q0 fa1.1) fb1.1) fc1.1) fd1.1).1.getD 0 0)) &&& 31)) ||| ((1 : Int32) <<< ((Int32.ofNat ((own_mark (own_mark (own_mark (own_mark own_q0 fa1.1) fb1.1) fc1.1) fd1.1).1.getD 1 0)) &&& 31))) ||| ((1 : Int32) <<< ((Int32.ofNat ((own_mark (own_mark (own_mark (own_mark own_q0 fa1.1) fb1.1) fc1.1) fd1.1).1.getD 2 0)) &&& 31))) ||| ((1 : Int32) <<< ((Int32.ofNat ((own_mark (own_mark (own_mark (own_mark own_q0 fa1.1) fb1.1) fc1.1) fd1.1).1.getD 3 0)) &&& 31)))), .val (.int (1 : Int32)), .unset] [(.int (3 : Int32)), (.ref ea), (.int (Int32.ofNat ((own_mark (own_mark (own_mark (own_mark own_q0 fa1.1) fb1.1) fc1.1) fd1.1).1.getD 3 0)))])) rfl rfl (hb hby at_305))
          have pre114 : ∀ t, Steps p.tables e below (T100.setTop (mkF m 314 #[.val (.int a1), .val (.int a2), .val (.int a3), .val (.int a4), .val (.int (Int32.ofNat fa1.1)), .val (.int (Int32.ofNat fb1.1)), .val (.int (Int32.ofNat fc1.1)), .val (.int (Int32.ofNat fd1.1)), .val (.ref ob), .val (.ref ea), .val (.int (Int32.ofNat kn)), .val (.int (Int32.ofNat ((own_mark (own_mark (own_mark (own_mark own_q0 fa1.1) fb1.1) fc1.1) fd1.1).1.getD 0 0))), .val (.int (Int32.ofNat ((own_mark (own_mark (own_mark (own_mark own_q0 fa1.1) fb1.1) fc1.1) fd1.1).1.getD 1 0))), .val (.int (Int32.ofNat ((own_mark (own_mark (own_mark (own_mark own_q0 fa1.1) fb1.1) fc1.1) fd1.1).1.getD 2 0))), .val (.int (Int32.ofNat ((own_mark (own_mark (own_mark (own_mark own_q0 fa1.1) fb1.1) fc1.1) fd1.1).1.getD 3 0))), .val (.int (((((1 : Int32) <<< ((Int32.ofNat ((own_mark (own_mark (own_mark (own_mark own_q0 fa1.1) fb1.1) fc1.1) fd1.1).1.getD 0 0)) &&& 31)) ||| ((1 : Int32) <<< ((Int32.ofNat ((own_mark (own_mark (own_mark (own_mark own_q0 fa1.1) fb1.1) fc1.1) fd1.1).1.getD 1 0)) &&& 31))) ||| ((1 : Int32) <<< ((Int32.ofNat ((own_mark (own_mark (own_mark (own_mark own_q0 fa1.1) fb1.1) fc1.1) fd1.1).1.getD 2 0)) &&& 31))) ||| ((1 : Int32) <<< ((Int32.ofNat ((own_mark (own_mark (own_mark (own_mark own_q0 fa1.1) fb1.1) fc1.1) fd1.1).1.getD 3 0)) &&& 31)))), .val (.int (1 : Int32)), .unset] [(.int (1 : Int32))])) t → Steps p.tables e below (s₁.setTop (entryFrame m #[(.int a1), (.int a2), (.int a3), (.int a4)] maxLocals)) t := by
            intro t kt
            refine pre111 t ?_
            show Steps p.tables e below (T100.setTop (mkF m 297 #[.val (.int a1), .val (.int a2), .val (.int a3), .val (.int a4), .val (.int (Int32.ofNat fa1.1)), .val (.int (Int32.ofNat fb1.1)), .val (.int (Int32.ofNat fc1.1)), .val (.int (Int32.ofNat fd1.1)), .val (.ref ob), .val (.ref ea), .val (.int (Int32.ofNat kn)), .val (.int (Int32.ofNat ((own_mark (own_mark (own_mark (own_mark own_q0 fa1.1) fb1.1) fc1.1) fd1.1).1.getD 0 0))), .val (.int (Int32.ofNat ((own_mark (own_mark (own_mark (own_mark own_q0 fa1.1) fb1.1) fc1.1) fd1.1).1.getD 1 0))), .val (.int (Int32.ofNat ((own_mark (own_mark (own_mark (own_mark own_q0 fa1.1) fb1.1) fc1.1) fd1.1).1.getD 2 0))), .val (.int (Int32.ofNat ((own_mark (own_mark (own_mark (own_mark own_q0 fa1.1) fb1.1) fc1.1) fd1.1).1.getD 3 0))), .val (.int (((((1 : Int32) <<< ((Int32.ofNat ((own_mark (own_mark (own_mark (own_mark own_q0 fa1.1) fb1.1) fc1.1) fd1.1).1.getD 0 0)) &&& 31)) ||| ((1 : Int32) <<< ((Int32.ofNat ((own_mark (own_mark (own_mark (own_mark own_q0 fa1.1) fb1.1) fc1.1) fd1.1).1.getD 1 0)) &&& 31))) ||| ((1 : Int32) <<< ((Int32.ofNat ((own_mark (own_mark (own_mark (own_mark own_q0 fa1.1) fb1.1) fc1.1) fd1.1).1.getD 2 0)) &&& 31))) ||| ((1 : Int32) <<< ((Int32.ofNat ((own_mark (own_mark (own_mark (own_mark own_q0 fa1.1) fb1.1) fc1.1) fd1.1).1.getD 3 0)) &&& 31)))), .val (.int (1 : Int32)), .unset] [(.int (4 : Int32)), (.int (Int32.ofNat kn))])) _
            refine XS.icmpNo X100.here hx rfl (hb hby at_297) rfl (flt hc297_2).1 ?_
            show Steps p.tables e below (T100.setTop (mkF m 300 #[.val (.int a1), .val (.int a2), .val (.int a3), .val (.int a4), .val (.int (Int32.ofNat fa1.1)), .val (.int (Int32.ofNat fb1.1)), .val (.int (Int32.ofNat fc1.1)), .val (.int (Int32.ofNat fd1.1)), .val (.ref ob), .val (.ref ea), .val (.int (Int32.ofNat kn)), .val (.int (Int32.ofNat ((own_mark (own_mark (own_mark (own_mark own_q0 fa1.1) fb1.1) fc1.1) fd1.1).1.getD 0 0))), .val (.int (Int32.ofNat ((own_mark (own_mark (own_mark (own_mark own_q0 fa1.1) fb1.1) fc1.1) fd1.1).1.getD 1 0))), .val (.int (Int32.ofNat ((own_mark (own_mark (own_mark (own_mark own_q0 fa1.1) fb1.1) fc1.1) fd1.1).1.getD 2 0))), .val (.int (Int32.ofNat ((own_mark (own_mark (own_mark (own_mark own_q0 fa1.1) fb1.1) fc1.1) fd1.1).1.getD 3 0))), .val (.int (((((1 : Int32) <<< ((Int32.ofNat ((own_mark (own_mark (own_mark (own_mark own_q0 fa1.1) fb1.1) fc1.1) fd1.1).1.getD 0 0)) &&& 31)) ||| ((1 : Int32) <<< ((Int32.ofNat ((own_mark (own_mark (own_mark (own_mark own_q0 fa1.1) fb1.1) fc1.1) fd1.1).1.getD 1 0)) &&& 31))) ||| ((1 : Int32) <<< ((Int32.ofNat ((own_mark (own_mark (own_mark (own_mark own_q0 fa1.1) fb1.1) fc1.1) fd1.1).1.getD 2 0)) &&& 31))) ||| ((1 : Int32) <<< ((Int32.ofNat ((own_mark (own_mark (own_mark (own_mark own_q0 fa1.1) fb1.1) fc1.1) fd1.1).1.getD 3 0)) &&& 31)))), .val (.int (1 : Int32)), .unset] [])) _
            refine XS.iload X100.here hx rfl (hb hby at_300) rfl ?_
            show Steps p.tables e below (T100.setTop (mkF m 302 #[.val (.int a1), .val (.int a2), .val (.int a3), .val (.int a4), .val (.int (Int32.ofNat fa1.1)), .val (.int (Int32.ofNat fb1.1)), .val (.int (Int32.ofNat fc1.1)), .val (.int (Int32.ofNat fd1.1)), .val (.ref ob), .val (.ref ea), .val (.int (Int32.ofNat kn)), .val (.int (Int32.ofNat ((own_mark (own_mark (own_mark (own_mark own_q0 fa1.1) fb1.1) fc1.1) fd1.1).1.getD 0 0))), .val (.int (Int32.ofNat ((own_mark (own_mark (own_mark (own_mark own_q0 fa1.1) fb1.1) fc1.1) fd1.1).1.getD 1 0))), .val (.int (Int32.ofNat ((own_mark (own_mark (own_mark (own_mark own_q0 fa1.1) fb1.1) fc1.1) fd1.1).1.getD 2 0))), .val (.int (Int32.ofNat ((own_mark (own_mark (own_mark (own_mark own_q0 fa1.1) fb1.1) fc1.1) fd1.1).1.getD 3 0))), .val (.int (((((1 : Int32) <<< ((Int32.ofNat ((own_mark (own_mark (own_mark (own_mark own_q0 fa1.1) fb1.1) fc1.1) fd1.1).1.getD 0 0)) &&& 31)) ||| ((1 : Int32) <<< ((Int32.ofNat ((own_mark (own_mark (own_mark (own_mark own_q0 fa1.1) fb1.1) fc1.1) fd1.1).1.getD 1 0)) &&& 31))) ||| ((1 : Int32) <<< ((Int32.ofNat ((own_mark (own_mark (own_mark (own_mark own_q0 fa1.1) fb1.1) fc1.1) fd1.1).1.getD 2 0)) &&& 31))) ||| ((1 : Int32) <<< ((Int32.ofNat ((own_mark (own_mark (own_mark (own_mark own_q0 fa1.1) fb1.1) fc1.1) fd1.1).1.getD 3 0)) &&& 31)))), .val (.int (1 : Int32)), .unset] [(.int (Int32.ofNat ((own_mark (own_mark (own_mark (own_mark own_q0 fa1.1) fb1.1) fc1.1) fd1.1).1.getD 3 0)))])) _
            refine XS.aload X100.here hx rfl (hb hby at_302) rfl rfl ?_
            show Steps p.tables e below (T100.setTop (mkF m 304 #[.val (.int a1), .val (.int a2), .val (.int a3), .val (.int a4), .val (.int (Int32.ofNat fa1.1)), .val (.int (Int32.ofNat fb1.1)), .val (.int (Int32.ofNat fc1.1)), .val (.int (Int32.ofNat fd1.1)), .val (.ref ob), .val (.ref ea), .val (.int (Int32.ofNat kn)), .val (.int (Int32.ofNat ((own_mark (own_mark (own_mark (own_mark own_q0 fa1.1) fb1.1) fc1.1) fd1.1).1.getD 0 0))), .val (.int (Int32.ofNat ((own_mark (own_mark (own_mark (own_mark own_q0 fa1.1) fb1.1) fc1.1) fd1.1).1.getD 1 0))), .val (.int (Int32.ofNat ((own_mark (own_mark (own_mark (own_mark own_q0 fa1.1) fb1.1) fc1.1) fd1.1).1.getD 2 0))), .val (.int (Int32.ofNat ((own_mark (own_mark (own_mark (own_mark own_q0 fa1.1) fb1.1) fc1.1) fd1.1).1.getD 3 0))), .val (.int (((((1 : Int32) <<< ((Int32.ofNat ((own_mark (own_mark (own_mark (own_mark own_q0 fa1.1) fb1.1) fc1.1) fd1.1).1.getD 0 0)) &&& 31)) ||| ((1 : Int32) <<< ((Int32.ofNat ((own_mark (own_mark (own_mark (own_mark own_q0 fa1.1) fb1.1) fc1.1) fd1.1).1.getD 1 0)) &&& 31))) ||| ((1 : Int32) <<< ((Int32.ofNat ((own_mark (own_mark (own_mark (own_mark own_q0 fa1.1) fb1.1) fc1.1) fd1.1).1.getD 2 0)) &&& 31))) ||| ((1 : Int32) <<< ((Int32.ofNat ((own_mark (own_mark (own_mark (own_mark own_q0 fa1.1) fb1.1) fc1.1) fd1.1).1.getD 3 0)) &&& 31)))), .val (.int (1 : Int32)), .unset] [(.ref ea), (.int (Int32.ofNat ((own_mark (own_mark (own_mark (own_mark own_q0 fa1.1) fb1.1) fc1.1) fd1.1).1.getD 3 0)))])) _
            refine XS.iconst X100.here hx rfl (hb hby at_304) ?_
            show Steps p.tables e below (T100.setTop (mkF m 305 #[.val (.int a1), .val (.int a2), .val (.int a3), .val (.int a4), .val (.int (Int32.ofNat fa1.1)), .val (.int (Int32.ofNat fb1.1)), .val (.int (Int32.ofNat fc1.1)), .val (.int (Int32.ofNat fd1.1)), .val (.ref ob), .val (.ref ea), .val (.int (Int32.ofNat kn)), .val (.int (Int32.ofNat ((own_mark (own_mark (own_mark (own_mark own_q0 fa1.1) fb1.1) fc1.1) fd1.1).1.getD 0 0))), .val (.int (Int32.ofNat ((own_mark (own_mark (own_mark (own_mark own_q0 fa1.1) fb1.1) fc1.1) fd1.1).1.getD 1 0))), .val (.int (Int32.ofNat ((own_mark (own_mark (own_mark (own_mark own_q0 fa1.1) fb1.1) fc1.1) fd1.1).1.getD 2 0))), .val (.int (Int32.ofNat ((own_mark (own_mark (own_mark (own_mark own_q0 fa1.1) fb1.1) fc1.1) fd1.1).1.getD 3 0))), .val (.int (((((1 : Int32) <<< ((Int32.ofNat ((own_mark (own_mark (own_mark (own_mark own_q0 fa1.1) fb1.1) fc1.1) fd1.1).1.getD 0 0)) &&& 31)) ||| ((1 : Int32) <<< ((Int32.ofNat ((own_mark (own_mark (own_mark (own_mark own_q0 fa1.1) fb1.1) fc1.1) fd1.1).1.getD 1 0)) &&& 31))) ||| ((1 : Int32) <<< ((Int32.ofNat ((own_mark (own_mark (own_mark (own_mark own_q0 fa1.1) fb1.1) fc1.1) fd1.1).1.getD 2 0)) &&& 31))) ||| ((1 : Int32) <<< ((Int32.ofNat ((own_mark (own_mark (own_mark (own_mark own_q0 fa1.1) fb1.1) fc1.1) fd1.1).1.getD 3 0)) &&& 31)))), .val (.int (1 : Int32)), .unset] [(.int (3 : Int32)), (.ref ea), (.int (Int32.ofNat ((own_mark (own_mark (own_mark (own_mark own_q0 fa1.1) fb1.1) fc1.1) fd1.1).1.getD 3 0)))])) _
            refine ld113 _ ?_
            show Steps p.tables e below (T100.setTop (mkF m 306 #[.val (.int a1), .val (.int a2), .val (.int a3), .val (.int a4), .val (.int (Int32.ofNat fa1.1)), .val (.int (Int32.ofNat fb1.1)), .val (.int (Int32.ofNat fc1.1)), .val (.int (Int32.ofNat fd1.1)), .val (.ref ob), .val (.ref ea), .val (.int (Int32.ofNat kn)), .val (.int (Int32.ofNat ((own_mark (own_mark (own_mark (own_mark own_q0 fa1.1) fb1.1) fc1.1) fd1.1).1.getD 0 0))), .val (.int (Int32.ofNat ((own_mark (own_mark (own_mark (own_mark own_q0 fa1.1) fb1.1) fc1.1) fd1.1).1.getD 1 0))), .val (.int (Int32.ofNat ((own_mark (own_mark (own_mark (own_mark own_q0 fa1.1) fb1.1) fc1.1) fd1.1).1.getD 2 0))), .val (.int (Int32.ofNat ((own_mark (own_mark (own_mark (own_mark own_q0 fa1.1) fb1.1) fc1.1) fd1.1).1.getD 3 0))), .val (.int (((((1 : Int32) <<< ((Int32.ofNat ((own_mark (own_mark (own_mark (own_mark own_q0 fa1.1) fb1.1) fc1.1) fd1.1).1.getD 0 0)) &&& 31)) ||| ((1 : Int32) <<< ((Int32.ofNat ((own_mark (own_mark (own_mark (own_mark own_q0 fa1.1) fb1.1) fc1.1) fd1.1).1.getD 1 0)) &&& 31))) ||| ((1 : Int32) <<< ((Int32.ofNat ((own_mark (own_mark (own_mark (own_mark own_q0 fa1.1) fb1.1) fc1.1) fd1.1).1.getD 2 0)) &&& 31))) ||| ((1 : Int32) <<< ((Int32.ofNat ((own_mark (own_mark (own_mark (own_mark own_q0 fa1.1) fb1.1) fc1.1) fd1.1).1.getD 3 0)) &&& 31)))), .val (.int (1 : Int32)), .unset] [(.int (Int32.ofNat (el.getD 3 0))), (.int (Int32.ofNat ((own_mark (own_mark (own_mark (own_mark own_q0 fa1.1) fb1.1) fc1.1) fd1.1).1.getD 3 0)))])) _
            refine XS.icmpNo X100.here hx rfl (hb hby at_306) rfl (teq (congrArg Int32.ofNat (fe3.resolve_left fun w => hc297_2 ((own_ltn (by omega) (by decide)).mpr w)))).2 ?_
            show Steps p.tables e below (T100.setTop (mkF m 309 #[.val (.int a1), .val (.int a2), .val (.int a3), .val (.int a4), .val (.int (Int32.ofNat fa1.1)), .val (.int (Int32.ofNat fb1.1)), .val (.int (Int32.ofNat fc1.1)), .val (.int (Int32.ofNat fd1.1)), .val (.ref ob), .val (.ref ea), .val (.int (Int32.ofNat kn)), .val (.int (Int32.ofNat ((own_mark (own_mark (own_mark (own_mark own_q0 fa1.1) fb1.1) fc1.1) fd1.1).1.getD 0 0))), .val (.int (Int32.ofNat ((own_mark (own_mark (own_mark (own_mark own_q0 fa1.1) fb1.1) fc1.1) fd1.1).1.getD 1 0))), .val (.int (Int32.ofNat ((own_mark (own_mark (own_mark (own_mark own_q0 fa1.1) fb1.1) fc1.1) fd1.1).1.getD 2 0))), .val (.int (Int32.ofNat ((own_mark (own_mark (own_mark (own_mark own_q0 fa1.1) fb1.1) fc1.1) fd1.1).1.getD 3 0))), .val (.int (((((1 : Int32) <<< ((Int32.ofNat ((own_mark (own_mark (own_mark (own_mark own_q0 fa1.1) fb1.1) fc1.1) fd1.1).1.getD 0 0)) &&& 31)) ||| ((1 : Int32) <<< ((Int32.ofNat ((own_mark (own_mark (own_mark (own_mark own_q0 fa1.1) fb1.1) fc1.1) fd1.1).1.getD 1 0)) &&& 31))) ||| ((1 : Int32) <<< ((Int32.ofNat ((own_mark (own_mark (own_mark (own_mark own_q0 fa1.1) fb1.1) fc1.1) fd1.1).1.getD 2 0)) &&& 31))) ||| ((1 : Int32) <<< ((Int32.ofNat ((own_mark (own_mark (own_mark (own_mark own_q0 fa1.1) fb1.1) fc1.1) fd1.1).1.getD 3 0)) &&& 31)))), .val (.int (1 : Int32)), .unset] [])) _
            refine XS.iconst X100.here hx rfl (hb hby at_309) ?_
            show Steps p.tables e below (T100.setTop (mkF m 310 #[.val (.int a1), .val (.int a2), .val (.int a3), .val (.int a4), .val (.int (Int32.ofNat fa1.1)), .val (.int (Int32.ofNat fb1.1)), .val (.int (Int32.ofNat fc1.1)), .val (.int (Int32.ofNat fd1.1)), .val (.ref ob), .val (.ref ea), .val (.int (Int32.ofNat kn)), .val (.int (Int32.ofNat ((own_mark (own_mark (own_mark (own_mark own_q0 fa1.1) fb1.1) fc1.1) fd1.1).1.getD 0 0))), .val (.int (Int32.ofNat ((own_mark (own_mark (own_mark (own_mark own_q0 fa1.1) fb1.1) fc1.1) fd1.1).1.getD 1 0))), .val (.int (Int32.ofNat ((own_mark (own_mark (own_mark (own_mark own_q0 fa1.1) fb1.1) fc1.1) fd1.1).1.getD 2 0))), .val (.int (Int32.ofNat ((own_mark (own_mark (own_mark (own_mark own_q0 fa1.1) fb1.1) fc1.1) fd1.1).1.getD 3 0))), .val (.int (((((1 : Int32) <<< ((Int32.ofNat ((own_mark (own_mark (own_mark (own_mark own_q0 fa1.1) fb1.1) fc1.1) fd1.1).1.getD 0 0)) &&& 31)) ||| ((1 : Int32) <<< ((Int32.ofNat ((own_mark (own_mark (own_mark (own_mark own_q0 fa1.1) fb1.1) fc1.1) fd1.1).1.getD 1 0)) &&& 31))) ||| ((1 : Int32) <<< ((Int32.ofNat ((own_mark (own_mark (own_mark (own_mark own_q0 fa1.1) fb1.1) fc1.1) fd1.1).1.getD 2 0)) &&& 31))) ||| ((1 : Int32) <<< ((Int32.ofNat ((own_mark (own_mark (own_mark (own_mark own_q0 fa1.1) fb1.1) fc1.1) fd1.1).1.getD 3 0)) &&& 31)))), .val (.int (1 : Int32)), .unset] [(.int (1 : Int32))])) _
            refine XS.goto X100.here hx rfl (pc0 := 310) (pc' := 314) rfl (hb hby at_310) (by decide) (by decide) ?_
            exact kt
          exact ⟨T100, _, (1 : Int32), X100, eq100, N100, rfl, pre114⟩
    case neg =>
      have ld115 := (own_ldI X100 hx hZ eq100 V_ea (j := (1 : Int32)) (by decide) (k := 1) rfl (by decide) (v := (.int (Int32.ofNat (el.getD 1 0)))) rfl (g := (mkF m 275 #[.val (.int a1), .val (.int a2), .val (.int a3), .val (.int a4), .val (.int (Int32.ofNat fa1.1)), .val (.int (Int32.ofNat fb1.1)), .val (.int (Int32.ofNat fc1.1)), .val (.int (Int32.ofNat fd1.1)), .val (.ref ob), .val (.ref ea), .val (.int (Int32.ofNat kn)), .val (.int (Int32.ofNat ((own_mark (own_mark (own_mark (own_mark own_q0 fa1.1) fb1.1) fc1.1) fd1.1).1.getD 0 0))), .val (.int (Int32.ofNat ((own_mark (own_mark (own_mark (own_mark own_q0 fa1.1) fb1.1) fc1.1) fd1.1).1.getD 1 0))), .val (.int (Int32.ofNat ((own_mark (own_mark (own_mark (own_mark own_q0 fa1.1) fb1.1) fc1.1) fd1.1).1.getD 2 0))), .val (.int (Int32.ofNat ((own_mark (own_mark (own_mark (own_mark own_q0 fa1.1) fb1.1) fc1.1) fd1.1).1.getD 3 0))), .val (.int (((((1 : Int32) <<< ((Int32.ofNat ((own_mark (own_mark (own_mark (own_mark own_q0 fa1.1) fb1.1) fc1.1) fd1.1).1.getD 0 0)) &&& 31)) ||| ((1 : Int32) <<< ((Int32.ofNat ((own_mark (own_mark (own_mark (own_mark own_q0 fa1.1) fb1.1) fc1.1) fd1.1).1.getD 1 0)) &&& 31))) ||| ((1 : Int32) <<< ((Int32.ofNat ((own_mark (own_mark (own_mark (own_mark own_q0 fa1.1) fb1.1) fc1.1) fd1.1).1.getD 2 0)) &&& 31))) ||| ((1 : Int32) <<< ((Int32.ofNat ((own_mark (own_mark (own_mark (own_mark own_q0 fa1.1) fb1.1) fc1.1) fd1.1).1.getD 3 0)) &&& 31)))), .val (.int (1 : Int32)), .unset] [(.int (1 : Int32)), (.ref ea), (.int (Int32.ofNat ((own_mark (own_mark (own_mark (own_mark own_q0 fa1.1) fb1.1) fc1.1) fd1.1).1.getD 1 0)))])) rfl rfl (hb hby at_275))
      have pre116 : ∀ t, Steps p.tables e below (T100.setTop (mkF m 282 #[.val (.int a1), .val (.int a2), .val (.int a3), .val (.int a4), .val (.int (Int32.ofNat fa1.1)), .val (.int (Int32.ofNat fb1.1)), .val (.int (Int32.ofNat fc1.1)), .val (.int (Int32.ofNat fd1.1)), .val (.ref ob), .val (.ref ea), .val (.int (Int32.ofNat kn)), .val (.int (Int32.ofNat ((own_mark (own_mark (own_mark (own_mark own_q0 fa1.1) fb1.1) fc1.1) fd1.1).1.getD 0 0))), .val (.int (Int32.ofNat ((own_mark (own_mark (own_mark (own_mark own_q0 fa1.1) fb1.1) fc1.1) fd1.1).1.getD 1 0))), .val (.int (Int32.ofNat ((own_mark (own_mark (own_mark (own_mark own_q0 fa1.1) fb1.1) fc1.1) fd1.1).1.getD 2 0))), .val (.int (Int32.ofNat ((own_mark (own_mark (own_mark (own_mark own_q0 fa1.1) fb1.1) fc1.1) fd1.1).1.getD 3 0))), .val (.int (((((1 : Int32) <<< ((Int32.ofNat ((own_mark (own_mark (own_mark (own_mark own_q0 fa1.1) fb1.1) fc1.1) fd1.1).1.getD 0 0)) &&& 31)) ||| ((1 : Int32) <<< ((Int32.ofNat ((own_mark (own_mark (own_mark (own_mark own_q0 fa1.1) fb1.1) fc1.1) fd1.1).1.getD 1 0)) &&& 31))) ||| ((1 : Int32) <<< ((Int32.ofNat ((own_mark (own_mark (own_mark (own_mark own_q0 fa1.1) fb1.1) fc1.1) fd1.1).1.getD 2 0)) &&& 31))) ||| ((1 : Int32) <<< ((Int32.ofNat ((own_mark (own_mark (own_mark (own_mark own_q0 fa1.1) fb1.1) fc1.1) fd1.1).1.getD 3 0)) &&& 31)))), .val (.int (1 : Int32)), .unset] [(.int (3 : Int32)), (.int (Int32.ofNat kn))])) t → Steps p.tables e below (s₁.setTop (entryFrame m #[(.int a1), (.int a2), (.int a3), (.int a4)] maxLocals)) t := by
        intro t kt
        refine pre104 t ?_
        show Steps p.tables e below (T100.setTop (mkF m 267 #[.val (.int a1), .val (.int a2), .val (.int a3), .val (.int a4), .val (.int (Int32.ofNat fa1.1)), .val (.int (Int32.ofNat fb1.1)), .val (.int (Int32.ofNat fc1.1)), .val (.int (Int32.ofNat fd1.1)), .val (.ref ob), .val (.ref ea), .val (.int (Int32.ofNat kn)), .val (.int (Int32.ofNat ((own_mark (own_mark (own_mark (own_mark own_q0 fa1.1) fb1.1) fc1.1) fd1.1).1.getD 0 0))), .val (.int (Int32.ofNat ((own_mark (own_mark (own_mark (own_mark own_q0 fa1.1) fb1.1) fc1.1) fd1.1).1.getD 1 0))), .val (.int (Int32.ofNat ((own_mark (own_mark (own_mark (own_mark own_q0 fa1.1) fb1.1) fc1.1) fd1.1).1.getD 2 0))), .val (.int (Int32.ofNat ((own_mark (own_mark (own_mark (own_mark own_q0 fa1.1) fb1.1) fc1.1) fd1.1).1.getD 3 0))), .val (.int (((((1 : Int32) <<< ((Int32.ofNat ((own_mark (own_mark (own_mark (own_mark own_q0 fa1.1) fb1.1) fc1.1) fd1.1).1.getD 0 0)) &&& 31)) ||| ((1 : Int32) <<< ((Int32.ofNat ((own_mark (own_mark (own_mark (own_mark own_q0 fa1.1) fb1.1) fc1.1) fd1.1).1.getD 1 0)) &&& 31))) ||| ((1 : Int32) <<< ((Int32.ofNat ((own_mark (own_mark (own_mark (own_mark own_q0 fa1.1) fb1.1) fc1.1) fd1.1).1.getD 2 0)) &&& 31))) ||| ((1 : Int32) <<< ((Int32.ofNat ((own_mark (own_mark (own_mark (own_mark own_q0 fa1.1) fb1.1) fc1.1) fd1.1).1.getD 3 0)) &&& 31)))), .val (.int (1 : Int32)), .unset] [(.int (2 : Int32)), (.int (Int32.ofNat kn))])) _
        refine XS.icmpNo X100.here hx rfl (hb hby at_267) rfl (flt hc267).1 ?_
        show Steps p.tables e below (T100.setTop (mkF m 270 #[.val (.int a1), .val (.int a2), .val (.int a3), .val (.int a4), .val (.int (Int32.ofNat fa1.1)), .val (.int (Int32.ofNat fb1.1)), .val (.int (Int32.ofNat fc1.1)), .val (.int (Int32.ofNat fd1.1)), .val (.ref ob), .val (.ref ea), .val (.int (Int32.ofNat kn)), .val (.int (Int32.ofNat ((own_mark (own_mark (own_mark (own_mark own_q0 fa1.1) fb1.1) fc1.1) fd1.1).1.getD 0 0))), .val (.int (Int32.ofNat ((own_mark (own_mark (own_mark (own_mark own_q0 fa1.1) fb1.1) fc1.1) fd1.1).1.getD 1 0))), .val (.int (Int32.ofNat ((own_mark (own_mark (own_mark (own_mark own_q0 fa1.1) fb1.1) fc1.1) fd1.1).1.getD 2 0))), .val (.int (Int32.ofNat ((own_mark (own_mark (own_mark (own_mark own_q0 fa1.1) fb1.1) fc1.1) fd1.1).1.getD 3 0))), .val (.int (((((1 : Int32) <<< ((Int32.ofNat ((own_mark (own_mark (own_mark (own_mark own_q0 fa1.1) fb1.1) fc1.1) fd1.1).1.getD 0 0)) &&& 31)) ||| ((1 : Int32) <<< ((Int32.ofNat ((own_mark (own_mark (own_mark (own_mark own_q0 fa1.1) fb1.1) fc1.1) fd1.1).1.getD 1 0)) &&& 31))) ||| ((1 : Int32) <<< ((Int32.ofNat ((own_mark (own_mark (own_mark (own_mark own_q0 fa1.1) fb1.1) fc1.1) fd1.1).1.getD 2 0)) &&& 31))) ||| ((1 : Int32) <<< ((Int32.ofNat ((own_mark (own_mark (own_mark (own_mark own_q0 fa1.1) fb1.1) fc1.1) fd1.1).1.getD 3 0)) &&& 31)))), .val (.int (1 : Int32)), .unset] [])) _
        refine XS.iload X100.here hx rfl (hb hby at_270) rfl ?_
        show Steps p.tables e below (T100.setTop (mkF m 272 #[.val (.int a1), .val (.int a2), .val (.int a3), .val (.int a4), .val (.int (Int32.ofNat fa1.1)), .val (.int (Int32.ofNat fb1.1)), .val (.int (Int32.ofNat fc1.1)), .val (.int (Int32.ofNat fd1.1)), .val (.ref ob), .val (.ref ea), .val (.int (Int32.ofNat kn)), .val (.int (Int32.ofNat ((own_mark (own_mark (own_mark (own_mark own_q0 fa1.1) fb1.1) fc1.1) fd1.1).1.getD 0 0))), .val (.int (Int32.ofNat ((own_mark (own_mark (own_mark (own_mark own_q0 fa1.1) fb1.1) fc1.1) fd1.1).1.getD 1 0))), .val (.int (Int32.ofNat ((own_mark (own_mark (own_mark (own_mark own_q0 fa1.1) fb1.1) fc1.1) fd1.1).1.getD 2 0))), .val (.int (Int32.ofNat ((own_mark (own_mark (own_mark (own_mark own_q0 fa1.1) fb1.1) fc1.1) fd1.1).1.getD 3 0))), .val (.int (((((1 : Int32) <<< ((Int32.ofNat ((own_mark (own_mark (own_mark (own_mark own_q0 fa1.1) fb1.1) fc1.1) fd1.1).1.getD 0 0)) &&& 31)) ||| ((1 : Int32) <<< ((Int32.ofNat ((own_mark (own_mark (own_mark (own_mark own_q0 fa1.1) fb1.1) fc1.1) fd1.1).1.getD 1 0)) &&& 31))) ||| ((1 : Int32) <<< ((Int32.ofNat ((own_mark (own_mark (own_mark (own_mark own_q0 fa1.1) fb1.1) fc1.1) fd1.1).1.getD 2 0)) &&& 31))) ||| ((1 : Int32) <<< ((Int32.ofNat ((own_mark (own_mark (own_mark (own_mark own_q0 fa1.1) fb1.1) fc1.1) fd1.1).1.getD 3 0)) &&& 31)))), .val (.int (1 : Int32)), .unset] [(.int (Int32.ofNat ((own_mark (own_mark (own_mark (own_mark own_q0 fa1.1) fb1.1) fc1.1) fd1.1).1.getD 1 0)))])) _
        refine XS.aload X100.here hx rfl (hb hby at_272) rfl rfl ?_
        show Steps p.tables e below (T100.setTop (mkF m 274 #[.val (.int a1), .val (.int a2), .val (.int a3), .val (.int a4), .val (.int (Int32.ofNat fa1.1)), .val (.int (Int32.ofNat fb1.1)), .val (.int (Int32.ofNat fc1.1)), .val (.int (Int32.ofNat fd1.1)), .val (.ref ob), .val (.ref ea), .val (.int (Int32.ofNat kn)), .val (.int (Int32.ofNat ((own_mark (own_mark (own_mark (own_mark own_q0 fa1.1) fb1.1) fc1.1) fd1.1).1.getD 0 0))), .val (.int (Int32.ofNat ((own_mark (own_mark (own_mark (own_mark own_q0 fa1.1) fb1.1) fc1.1) fd1.1).1.getD 1 0))), .val (.int (Int32.ofNat ((own_mark (own_mark (own_mark (own_mark own_q0 fa1.1) fb1.1) fc1.1) fd1.1).1.getD 2 0))), .val (.int (Int32.ofNat ((own_mark (own_mark (own_mark (own_mark own_q0 fa1.1) fb1.1) fc1.1) fd1.1).1.getD 3 0))), .val (.int (((((1 : Int32) <<< ((Int32.ofNat ((own_mark (own_mark (own_mark (own_mark own_q0 fa1.1) fb1.1) fc1.1) fd1.1).1.getD 0 0)) &&& 31)) ||| ((1 : Int32) <<< ((Int32.ofNat ((own_mark (own_mark (own_mark (own_mark own_q0 fa1.1) fb1.1) fc1.1) fd1.1).1.getD 1 0)) &&& 31))) ||| ((1 : Int32) <<< ((Int32.ofNat ((own_mark (own_mark (own_mark (own_mark own_q0 fa1.1) fb1.1) fc1.1) fd1.1).1.getD 2 0)) &&& 31))) ||| ((1 : Int32) <<< ((Int32.ofNat ((own_mark (own_mark (own_mark (own_mark own_q0 fa1.1) fb1.1) fc1.1) fd1.1).1.getD 3 0)) &&& 31)))), .val (.int (1 : Int32)), .unset] [(.ref ea), (.int (Int32.ofNat ((own_mark (own_mark (own_mark (own_mark own_q0 fa1.1) fb1.1) fc1.1) fd1.1).1.getD 1 0)))])) _
        refine XS.iconst X100.here hx rfl (hb hby at_274) ?_
        show Steps p.tables e below (T100.setTop (mkF m 275 #[.val (.int a1), .val (.int a2), .val (.int a3), .val (.int a4), .val (.int (Int32.ofNat fa1.1)), .val (.int (Int32.ofNat fb1.1)), .val (.int (Int32.ofNat fc1.1)), .val (.int (Int32.ofNat fd1.1)), .val (.ref ob), .val (.ref ea), .val (.int (Int32.ofNat kn)), .val (.int (Int32.ofNat ((own_mark (own_mark (own_mark (own_mark own_q0 fa1.1) fb1.1) fc1.1) fd1.1).1.getD 0 0))), .val (.int (Int32.ofNat ((own_mark (own_mark (own_mark (own_mark own_q0 fa1.1) fb1.1) fc1.1) fd1.1).1.getD 1 0))), .val (.int (Int32.ofNat ((own_mark (own_mark (own_mark (own_mark own_q0 fa1.1) fb1.1) fc1.1) fd1.1).1.getD 2 0))), .val (.int (Int32.ofNat ((own_mark (own_mark (own_mark (own_mark own_q0 fa1.1) fb1.1) fc1.1) fd1.1).1.getD 3 0))), .val (.int (((((1 : Int32) <<< ((Int32.ofNat ((own_mark (own_mark (own_mark (own_mark own_q0 fa1.1) fb1.1) fc1.1) fd1.1).1.getD 0 0)) &&& 31)) ||| ((1 : Int32) <<< ((Int32.ofNat ((own_mark (own_mark (own_mark (own_mark own_q0 fa1.1) fb1.1) fc1.1) fd1.1).1.getD 1 0)) &&& 31))) ||| ((1 : Int32) <<< ((Int32.ofNat ((own_mark (own_mark (own_mark (own_mark own_q0 fa1.1) fb1.1) fc1.1) fd1.1).1.getD 2 0)) &&& 31))) ||| ((1 : Int32) <<< ((Int32.ofNat ((own_mark (own_mark (own_mark (own_mark own_q0 fa1.1) fb1.1) fc1.1) fd1.1).1.getD 3 0)) &&& 31)))), .val (.int (1 : Int32)), .unset] [(.int (1 : Int32)), (.ref ea), (.int (Int32.ofNat ((own_mark (own_mark (own_mark (own_mark own_q0 fa1.1) fb1.1) fc1.1) fd1.1).1.getD 1 0)))])) _
        refine ld115 _ ?_
        show Steps p.tables e below (T100.setTop (mkF m 276 #[.val (.int a1), .val (.int a2), .val (.int a3), .val (.int a4), .val (.int (Int32.ofNat fa1.1)), .val (.int (Int32.ofNat fb1.1)), .val (.int (Int32.ofNat fc1.1)), .val (.int (Int32.ofNat fd1.1)), .val (.ref ob), .val (.ref ea), .val (.int (Int32.ofNat kn)), .val (.int (Int32.ofNat ((own_mark (own_mark (own_mark (own_mark own_q0 fa1.1) fb1.1) fc1.1) fd1.1).1.getD 0 0))), .val (.int (Int32.ofNat ((own_mark (own_mark (own_mark (own_mark own_q0 fa1.1) fb1.1) fc1.1) fd1.1).1.getD 1 0))), .val (.int (Int32.ofNat ((own_mark (own_mark (own_mark (own_mark own_q0 fa1.1) fb1.1) fc1.1) fd1.1).1.getD 2 0))), .val (.int (Int32.ofNat ((own_mark (own_mark (own_mark (own_mark own_q0 fa1.1) fb1.1) fc1.1) fd1.1).1.getD 3 0))), .val (.int (((((1 : Int32) <<< ((Int32.ofNat ((own_mark (own_mark (own_mark (own_mark own_q0 fa1.1) fb1.1) fc1.1) fd1.1).1.getD 0 0)) &&& 31)) ||| ((1 : Int32) <<< ((Int32.ofNat ((own_mark (own_mark (own_mark (own_mark own_q0 fa1.1) fb1.1) fc1.1) fd1.1).1.getD 1 0)) &&& 31))) ||| ((1 : Int32) <<< ((Int32.ofNat ((own_mark (own_mark (own_mark (own_mark own_q0 fa1.1) fb1.1) fc1.1) fd1.1).1.getD 2 0)) &&& 31))) ||| ((1 : Int32) <<< ((Int32.ofNat ((own_mark (own_mark (own_mark (own_mark own_q0 fa1.1) fb1.1) fc1.1) fd1.1).1.getD 3 0)) &&& 31)))), .val (.int (1 : Int32)), .unset] [(.int (Int32.ofNat (el.getD 1 0))), (.int (Int32.ofNat ((own_mark (own_mark (own_mark (own_mark own_q0 fa1.1) fb1.1) fc1.1) fd1.1).1.getD 1 0)))])) _
        refine XS.icmpNo X100.here hx rfl (hb hby at_276) rfl (teq (congrArg Int32.ofNat (fe1.resolve_left fun w => hc267 ((own_ltn (by omega) (by decide)).mpr w)))).2 ?_
        show Steps p.tables e below (T100.setTop (mkF m 279 #[.val (.int a1), .val (.int a2), .val (.int a3), .val (.int a4), .val (.int (Int32.ofNat fa1.1)), .val (.int (Int32.ofNat fb1.1)), .val (.int (Int32.ofNat fc1.1)), .val (.int (Int32.ofNat fd1.1)), .val (.ref ob), .val (.ref ea), .val (.int (Int32.ofNat kn)), .val (.int (Int32.ofNat ((own_mark (own_mark (own_mark (own_mark own_q0 fa1.1) fb1.1) fc1.1) fd1.1).1.getD 0 0))), .val (.int (Int32.ofNat ((own_mark (own_mark (own_mark (own_mark own_q0 fa1.1) fb1.1) fc1.1) fd1.1).1.getD 1 0))), .val (.int (Int32.ofNat ((own_mark (own_mark (own_mark (own_mark own_q0 fa1.1) fb1.1) fc1.1) fd1.1).1.getD 2 0))), .val (.int (Int32.ofNat ((own_mark (own_mark (own_mark (own_mark own_q0 fa1.1) fb1.1) fc1.1) fd1.1).1.getD 3 0))), .val (.int (((((1 : Int32) <<< ((Int32.ofNat ((own_mark (own_mark (own_mark (own_mark own_q0 fa1.1) fb1.1) fc1.1) fd1.1).1.getD 0 0)) &&& 31)) ||| ((1 : Int32) <<< ((Int32.ofNat ((own_mark (own_mark (own_mark (own_mark own_q0 fa1.1) fb1.1) fc1.1) fd1.1).1.getD 1 0)) &&& 31))) ||| ((1 : Int32) <<< ((Int32.ofNat ((own_mark (own_mark (own_mark (own_mark own_q0 fa1.1) fb1.1) fc1.1) fd1.1).1.getD 2 0)) &&& 31))) ||| ((1 : Int32) <<< ((Int32.ofNat ((own_mark (own_mark (own_mark (own_mark own_q0 fa1.1) fb1.1) fc1.1) fd1.1).1.getD 3 0)) &&& 31)))), .val (.int (1 : Int32)), .unset] [])) _
        refine XS.iload X100.here hx rfl (hb hby at_279) rfl ?_
        show Steps p.tables e below (T100.setTop (mkF m 281 #[.val (.int a1), .val (.int a2), .val (.int a3), .val (.int a4), .val (.int (Int32.ofNat fa1.1)), .val (.int (Int32.ofNat fb1.1)), .val (.int (Int32.ofNat fc1.1)), .val (.int (Int32.ofNat fd1.1)), .val (.ref ob), .val (.ref ea), .val (.int (Int32.ofNat kn)), .val (.int (Int32.ofNat ((own_mark (own_mark (own_mark (own_mark own_q0 fa1.1) fb1.1) fc1.1) fd1.1).1.getD 0 0))), .val (.int (Int32.ofNat ((own_mark (own_mark (own_mark (own_mark own_q0 fa1.1) fb1.1) fc1.1) fd1.1).1.getD 1 0))), .val (.int (Int32.ofNat ((own_mark (own_mark (own_mark (own_mark own_q0 fa1.1) fb1.1) fc1.1) fd1.1).1.getD 2 0))), .val (.int (Int32.ofNat ((own_mark (own_mark (own_mark (own_mark own_q0 fa1.1) fb1.1) fc1.1) fd1.1).1.getD 3 0))), .val (.int (((((1 : Int32) <<< ((Int32.ofNat ((own_mark (own_mark (own_mark (own_mark own_q0 fa1.1) fb1.1) fc1.1) fd1.1).1.getD 0 0)) &&& 31)) ||| ((1 : Int32) <<< ((Int32.ofNat ((own_mark (own_mark (own_mark (own_mark own_q0 fa1.1) fb1.1) fc1.1) fd1.1).1.getD 1 0)) &&& 31))) ||| ((1 : Int32) <<< ((Int32.ofNat ((own_mark (own_mark (own_mark (own_mark own_q0 fa1.1) fb1.1) fc1.1) fd1.1).1.getD 2 0)) &&& 31))) ||| ((1 : Int32) <<< ((Int32.ofNat ((own_mark (own_mark (own_mark (own_mark own_q0 fa1.1) fb1.1) fc1.1) fd1.1).1.getD 3 0)) &&& 31)))), .val (.int (1 : Int32)), .unset] [(.int (Int32.ofNat kn))])) _
        refine XS.iconst X100.here hx rfl (hb hby at_281) ?_
        exact kt
      by_cases hc282_2 : (Int32.ofNat kn) < (3 : Int32)
      case pos =>
        have pre117 : ∀ t, Steps p.tables e below (T100.setTop (mkF m 297 #[.val (.int a1), .val (.int a2), .val (.int a3), .val (.int a4), .val (.int (Int32.ofNat fa1.1)), .val (.int (Int32.ofNat fb1.1)), .val (.int (Int32.ofNat fc1.1)), .val (.int (Int32.ofNat fd1.1)), .val (.ref ob), .val (.ref ea), .val (.int (Int32.ofNat kn)), .val (.int (Int32.ofNat ((own_mark (own_mark (own_mark (own_mark own_q0 fa1.1) fb1.1) fc1.1) fd1.1).1.getD 0 0))), .val (.int (Int32.ofNat ((own_mark (own_mark (own_mark (own_mark own_q0 fa1.1) fb1.1) fc1.1) fd1.1).1.getD 1 0))), .val (.int (Int32.ofNat ((own_mark (own_mark (own_mark (own_mark own_q0 fa1.1) fb1.1) fc1.1) fd1.1).1.getD 2 0))), .val (.int (Int32.ofNat ((own_mark (own_mark (own_mark (own_mark own_q0 fa1.1) fb1.1) fc1.1) fd1.1).1.getD 3 0))), .val (.int (((((1 : Int32) <<< ((Int32.ofNat ((own_mark (own_mark (own_mark (own_mark own_q0 fa1.1) fb1.1) fc1.1) fd1.1).1.getD 0 0)) &&& 31)) ||| ((1 : Int32) <<< ((Int32.ofNat ((own_mark (own_mark (own_mark (own_mark own_q0 fa1.1) fb1.1) fc1.1) fd1.1).1.getD 1 0)) &&& 31))) ||| ((1 : Int32) <<< ((Int32.ofNat ((own_mark (own_mark (own_mark (own_mark own_q0 fa1.1) fb1.1) fc1.1) fd1.1).1.getD 2 0)) &&& 31))) ||| ((1 : Int32) <<< ((Int32.ofNat ((own_mark (own_mark (own_mark (own_mark own_q0 fa1.1) fb1.1) fc1.1) fd1.1).1.getD 3 0)) &&& 31)))), .val (.int (1 : Int32)), .unset] [(.int (4 : Int32)), (.int (Int32.ofNat kn))])) t → Steps p.tables e below (s₁.setTop (entryFrame m #[(.int a1), (.int a2), (.int a3), (.int a4)] maxLocals)) t := by
          intro t kt
          refine pre116 t ?_
          show Steps p.tables e below (T100.setTop (mkF m 282 #[.val (.int a1), .val (.int a2), .val (.int a3), .val (.int a4), .val (.int (Int32.ofNat fa1.1)), .val (.int (Int32.ofNat fb1.1)), .val (.int (Int32.ofNat fc1.1)), .val (.int (Int32.ofNat fd1.1)), .val (.ref ob), .val (.ref ea), .val (.int (Int32.ofNat kn)), .val (.int (Int32.ofNat ((own_mark (own_mark (own_mark (own_mark own_q0 fa1.1) fb1.1) fc1.1) fd1.1).1.getD 0 0))), .val (.int (Int32.ofNat ((own_mark (own_mark (own_mark (own_mark own_q0 fa1.1) fb1.1) fc1.1) fd1.1).1.getD 1 0))), .val (.int (Int32.ofNat ((own_mark (own_mark (own_mark (own_mark own_q0 fa1.1) fb1.1) fc1.1) fd1.1).1.getD 2 0))), .val (.int (Int32.ofNat ((own_mark (own_mark (own_mark (own_mark own_q0 fa1.1) fb1.1) fc1.1) fd1.1).1.getD 3 0))), .val (.int (((((1 : Int32) <<< ((Int32.ofNat ((own_mark (own_mark (own_mark (own_mark own_q0 fa1.1) fb1.1) fc1.1) fd1.1).1.getD 0 0)) &&& 31)) ||| ((1 : Int32) <<< ((Int32.ofNat ((own_mark (own_mark (own_mark (own_mark own_q0 fa1.1) fb1.1) fc1.1) fd1.1).1.getD 1 0)) &&& 31))) ||| ((1 : Int32) <<< ((Int32.ofNat ((own_mark (own_mark (own_mark (own_mark own_q0 fa1.1) fb1.1) fc1.1) fd1.1).1.getD 2 0)) &&& 31))) ||| ((1 : Int32) <<< ((Int32.ofNat ((own_mark (own_mark (own_mark (own_mark own_q0 fa1.1) fb1.1) fc1.1) fd1.1).1.getD 3 0)) &&& 31)))), .val (.int (1 : Int32)), .unset] [(.int (3 : Int32)), (.int (Int32.ofNat kn))])) _
          refine XS.icmpYes X100.here hx rfl (pc0 := 282) (pc' := 294) rfl (hb hby at_282) rfl (tlt hc282_2).1 (by decide) (by decide) ?_
          show Steps p.tables e below (T100.setTop (mkF m 294 #[.val (.int a1), .val (.int a2), .val (.int a3), .val (.int a4), .val (.int (Int32.ofNat fa1.1)), .val (.int (Int32.ofNat fb1.1)), .val (.int (Int32.ofNat fc1.1)), .val (.int (Int32.ofNat fd1.1)), .val (.ref ob), .val (.ref ea), .val (.int (Int32.ofNat kn)), .val (.int (Int32.ofNat ((own_mark (own_mark (own_mark (own_mark own_q0 fa1.1) fb1.1) fc1.1) fd1.1).1.getD 0 0))), .val (.int (Int32.ofNat ((own_mark (own_mark (own_mark (own_mark own_q0 fa1.1) fb1.1) fc1.1) fd1.1).1.getD 1 0))), .val (.int (Int32.ofNat ((own_mark (own_mark (own_mark (own_mark own_q0 fa1.1) fb1.1) fc1.1) fd1.1).1.getD 2 0))), .val (.int (Int32.ofNat ((own_mark (own_mark (own_mark (own_mark own_q0 fa1.1) fb1.1) fc1.1) fd1.1).1.getD 3 0))), .val (.int (((((1 : Int32) <<< ((Int32.ofNat ((own_mark (own_mark (own_mark (own_mark own_q0 fa1.1) fb1.1) fc1.1) fd1.1).1.getD 0 0)) &&& 31)) ||| ((1 : Int32) <<< ((Int32.ofNat ((own_mark (own_mark (own_mark (own_mark own_q0 fa1.1) fb1.1) fc1.1) fd1.1).1.getD 1 0)) &&& 31))) ||| ((1 : Int32) <<< ((Int32.ofNat ((own_mark (own_mark (own_mark (own_mark own_q0 fa1.1) fb1.1) fc1.1) fd1.1).1.getD 2 0)) &&& 31))) ||| ((1 : Int32) <<< ((Int32.ofNat ((own_mark (own_mark (own_mark (own_mark own_q0 fa1.1) fb1.1) fc1.1) fd1.1).1.getD 3 0)) &&& 31)))), .val (.int (1 : Int32)), .unset] [])) _
          refine XS.iload X100.here hx rfl (hb hby at_294) rfl ?_
          show Steps p.tables e below (T100.setTop (mkF m 296 #[.val (.int a1), .val (.int a2), .val (.int a3), .val (.int a4), .val (.int (Int32.ofNat fa1.1)), .val (.int (Int32.ofNat fb1.1)), .val (.int (Int32.ofNat fc1.1)), .val (.int (Int32.ofNat fd1.1)), .val (.ref ob), .val (.ref ea), .val (.int (Int32.ofNat kn)), .val (.int (Int32.ofNat ((own_mark (own_mark (own_mark (own_mark own_q0 fa1.1) fb1.1) fc1.1) fd1.1).1.getD 0 0))), .val (.int (Int32.ofNat ((own_mark (own_mark (own_mark (own_mark own_q0 fa1.1) fb1.1) fc1.1) fd1.1).1.getD 1 0))), .val (.int (Int32.ofNat ((own_mark (own_mark (own_mark (own_mark own_q0 fa1.1) fb1.1) fc1.1) fd1.1).1.getD 2 0))), .val (.int (Int32.ofNat ((own_mark (own_mark (own_mark (own_mark own_q0 fa1.1) fb1.1) fc1.1) fd1.1).1.getD 3 0))), .val (.int (((((1 : Int32) <<< ((Int32.ofNat ((own_mark (own_mark (own_mark (own_mark own_q0 fa1.1) fb1.1) fc1.1) fd1.1).1.getD 0 0)) &&& 31)) ||| ((1 : Int32) <<< ((Int32.ofNat ((own_mark (own_mark (own_mark (own_mark own_q0 fa1.1) fb1.1) fc1.1) fd1.1).1.getD 1 0)) &&& 31))) ||| ((1 : Int32) <<< ((Int32.ofNat ((own_mark (own_mark (own_mark (own_mark own_q0 fa1.1) fb1.1) fc1.1) fd1.1).1.getD 2 0)) &&& 31))) ||| ((1 : Int32) <<< ((Int32.ofNat ((own_mark (own_mark (own_mark (own_mark own_q0 fa1.1) fb1.1) fc1.1) fd1.1).1.getD 3 0)) &&& 31)))), .val (.int (1 : Int32)), .unset] [(.int (Int32.ofNat kn))])) _
          refine XS.iconst X100.here hx rfl (hb hby at_296) ?_
          exact kt
        by_cases hc297_3 : (Int32.ofNat kn) < (4 : Int32)
        case pos =>
          have pre118 : ∀ t, Steps p.tables e below (T100.setTop (mkF m 314 #[.val (.int a1), .val (.int a2), .val (.int a3), .val (.int a4), .val (.int (Int32.ofNat fa1.1)), .val (.int (Int32.ofNat fb1.1)), .val (.int (Int32.ofNat fc1.1)), .val (.int (Int32.ofNat fd1.1)), .val (.ref ob), .val (.ref ea), .val (.int (Int32.ofNat kn)), .val (.int (Int32.ofNat ((own_mark (own_mark (own_mark (own_mark own_q0 fa1.1) fb1.1) fc1.1) fd1.1).1.getD 0 0))), .val (.int (Int32.ofNat ((own_mark (own_mark (own_mark (own_mark own_q0 fa1.1) fb1.1) fc1.1) fd1.1).1.getD 1 0))), .val (.int (Int32.ofNat ((own_mark (own_mark (own_mark (own_mark own_q0 fa1.1) fb1.1) fc1.1) fd1.1).1.getD 2 0))), .val (.int (Int32.ofNat ((own_mark (own_mark (own_mark (own_mark own_q0 fa1.1) fb1.1) fc1.1) fd1.1).1.getD 3 0))), .val (.int (((((1 : Int32) <<< ((Int32.ofNat ((own_mark (own_mark (own_mark (own_mark own_q0 fa1.1) fb1.1) fc1.1) fd1.1).1.getD 0 0)) &&& 31)) ||| ((1 : Int32) <<< ((Int32.ofNat ((own_mark (own_mark (own_mark (own_mark own_q0 fa1.1) fb1.1) fc1.1) fd1.1).1.getD 1 0)) &&& 31))) ||| ((1 : Int32) <<< ((Int32.ofNat ((own_mark (own_mark (own_mark (own_mark own_q0 fa1.1) fb1.1) fc1.1) fd1.1).1.getD 2 0)) &&& 31))) ||| ((1 : Int32) <<< ((Int32.ofNat ((own_mark (own_mark (own_mark (own_mark own_q0 fa1.1) fb1.1) fc1.1) fd1.1).1.getD 3 0)) &&& 31)))), .val (.int (1 : Int32)), .unset] [(.int (1 : Int32))])) t → Steps p.tables e below (s₁.setTop (entryFrame m #[(.int a1), (.int a2), (.int a3), (.int a4)] maxLocals)) t := by
            intro t kt
            refine pre117 t ?_
            show Steps p.tables e below (T100.setTop (mkF m 297 #[.val (.int a1), .val (.int a2), .val (.int a3), .val (.int a4), .val (.int (Int32.ofNat fa1.1)), .val (.int (Int32.ofNat fb1.1)), .val (.int (Int32.ofNat fc1.1)), .val (.int (Int32.ofNat fd1.1)), .val (.ref ob), .val (.ref ea), .val (.int (Int32.ofNat kn)), .val (.int (Int32.ofNat ((own_mark (own_mark (own_mark (own_mark own_q0 fa1.1) fb1.1) fc1.1) fd1.1).1.getD 0 0))), .val (.int (Int32.ofNat ((own_mark (own_mark (own_mark (own_mark own_q0 fa1.1) fb1.1) fc1.1) fd1.1).1.getD 1 0))), .val (.int (Int32.ofNat ((own_mark (own_mark (own_mark (own_mark own_q0 fa1.1) fb1.1) fc1.1) fd1.1).1.getD 2 0))), .val (.int (Int32.ofNat ((own_mark (own_mark (own_mark (own_mark own_q0 fa1.1) fb1.1) fc1.1) fd1.1).1.getD 3 0))), .val (.int (((((1 : Int32) <<< ((Int32.ofNat ((own_mark (own_mark (own_mark (own_mark own_q0 fa1.1) fb1.1) fc1.1) fd1.1).1.getD 0 0)) &&& 31)) ||| ((1 : Int32) <<< ((Int32.ofNat ((own_mark (own_mark (own_mark (own_mark own_q0 fa1.1) fb1.1) fc1.1) fd1.1).1.getD 1 0)) &&& 31))) ||| ((1 : Int32) <<< ((Int32.ofNat ((own_mark (own_mark (own_mark (own_mark own_q0 fa1.1) fb1.1) fc1.1) fd1.1).1.getD 2 0)) &&& 31))) ||| ((1 : Int32) <<< ((Int32.ofNat ((own_mark (own_mark (own_mark (own_mark own_q0 fa1.1) fb1.1) fc1.1) fd1.1).1.getD 3 0)) &&& 31)))), .val (.int (1 : Int32)), .unset] [(.int (4 : Int32)), (.int (Int32.ofNat kn))])) _
            refine XS.icmpYes X100.here hx rfl (pc0 := 297) (pc' := 309) rfl (hb hby at_297) rfl (tlt hc297_3).1 (by decide) (by decide) ?_
            show Steps p.tables e below (T100.setTop (mkF m 309 #[.val (.int a1), .val (.int a2), .val (.int a3), .val (.int a4), .val (.int (Int32.ofNat fa1.1)), .val (.int (Int32.ofNat fb1.1)), .val (.int (Int32.ofNat fc1.1)), .val (.int (Int32.ofNat fd1.1)), .val (.ref ob), .val (.ref ea), .val (.int (Int32.ofNat kn)), .val (.int (Int32.ofNat ((own_mark (own_mark (own_mark (own_mark own_q0 fa1.1) fb1.1) fc1.1) fd1.1).1.getD 0 0))), .val (.int (Int32.ofNat ((own_mark (own_mark (own_mark (own_mark own_q0 fa1.1) fb1.1) fc1.1) fd1.1).1.getD 1 0))), .val (.int (Int32.ofNat ((own_mark (own_mark (own_mark (own_mark own_q0 fa1.1) fb1.1) fc1.1) fd1.1).1.getD 2 0))), .val (.int (Int32.ofNat ((own_mark (own_mark (own_mark (own_mark own_q0 fa1.1) fb1.1) fc1.1) fd1.1).1.getD 3 0))), .val (.int (((((1 : Int32) <<< ((Int32.ofNat ((own_mark (own_mark (own_mark (own_mark own_q0 fa1.1) fb1.1) fc1.1) fd1.1).1.getD 0 0)) &&& 31)) ||| ((1 : Int32) <<< ((Int32.ofNat ((own_mark (own_mark (own_mark (own_mark own_q0 fa1.1) fb1.1) fc1.1) fd1.1).1.getD 1 0)) &&& 31))) ||| ((1 : Int32) <<< ((Int32.ofNat ((own_mark (own_mark (own_mark (own_mark own_q0 fa1.1) fb1.1) fc1.1) fd1.1).1.getD 2 0)) &&& 31))) ||| ((1 : Int32) <<< ((Int32.ofNat ((own_mark (own_mark (own_mark (own_mark own_q0 fa1.1) fb1.1) fc1.1) fd1.1).1.getD 3 0)) &&& 31)))), .val (.int (1 : Int32)), .unset] [])) _
            refine XS.iconst X100.here hx rfl (hb hby at_309) ?_
            show Steps p.tables e below (T100.setTop (mkF m 310 #[.val (.int a1), .val (.int a2), .val (.int a3), .val (.int a4), .val (.int (Int32.ofNat fa1.1)), .val (.int (Int32.ofNat fb1.1)), .val (.int (Int32.ofNat fc1.1)), .val (.int (Int32.ofNat fd1.1)), .val (.ref ob), .val (.ref ea), .val (.int (Int32.ofNat kn)), .val (.int (Int32.ofNat ((own_mark (own_mark (own_mark (own_mark own_q0 fa1.1) fb1.1) fc1.1) fd1.1).1.getD 0 0))), .val (.int (Int32.ofNat ((own_mark (own_mark (own_mark (own_mark own_q0 fa1.1) fb1.1) fc1.1) fd1.1).1.getD 1 0))), .val (.int (Int32.ofNat ((own_mark (own_mark (own_mark (own_mark own_q0 fa1.1) fb1.1) fc1.1) fd1.1).1.getD 2 0))), .val (.int (Int32.ofNat ((own_mark (own_mark (own_mark (own_mark own_q0 fa1.1) fb1.1) fc1.1) fd1.1).1.getD 3 0))), .val (.int (((((1 : Int32) <<< ((Int32.ofNat ((own_mark (own_mark (own_mark (own_mark own_q0 fa1.1) fb1.1) fc1.1) fd1.1).1.getD 0 0)) &&& 31)) ||| ((1 : Int32) <<< ((Int32.ofNat ((own_mark (own_mark (own_mark (own_mark own_q0 fa1.1) fb1.1) fc1.1) fd1.1).1.getD 1 0)) &&& 31))) ||| ((1 : Int32) <<< ((Int32.ofNat ((own_mark (own_mark (own_mark (own_mark own_q0 fa1.1) fb1.1) fc1.1) fd1.1).1.getD 2 0)) &&& 31))) ||| ((1 : Int32) <<< ((Int32.ofNat ((own_mark (own_mark (own_mark (own_mark own_q0 fa1.1) fb1.1) fc1.1) fd1.1).1.getD 3 0)) &&& 31)))), .val (.int (1 : Int32)), .unset] [(.int (1 : Int32))])) _
            refine XS.goto X100.here hx rfl (pc0 := 310) (pc' := 314) rfl (hb hby at_310) (by decide) (by decide) ?_
            exact kt
          exact ⟨T100, _, (1 : Int32), X100, eq100, N100, rfl, pre118⟩
        case neg =>
          have ld119 := (own_ldI X100 hx hZ eq100 V_ea (j := (3 : Int32)) (by decide) (k := 3) rfl (by decide) (v := (.int (Int32.ofNat (el.getD 3 0)))) rfl (g := (mkF m 305 #[.val (.int a1), .val (.int a2), .val (.int a3), .val (.int a4), .val (.int (Int32.ofNat fa1.1)), .val (.int (Int32.ofNat fb1.1)), .val (.int (Int32.ofNat fc1.1)), .val (.int (Int32.ofNat fd1.1)), .val (.ref ob), .val (.ref ea), .val (.int (Int32.ofNat kn)), .val (.int (Int32.ofNat ((own_mark (own_mark (own_mark (own_mark own_q0 fa1.1) fb1.1) fc1.1) fd1.1).1.getD 0 0))), .val (.int (Int32.ofNat ((own_mark (own_mark (own_mark (own_mark own_q0 fa1.1) fb1.1) fc1.1) fd1.1).1.getD 1 0))), .val (.int (Int32.ofNat ((own_mark (own_mark (own_mark (own_mark own_q0 fa1.1) fb1.1) fc1.1) fd1.1).1.getD 2 0))), .val (.int (Int32.ofNat ((own_mark (own_mark (own_mark (own_mark own_q0 fa1.1) fb1.1) fc1.1) fd1.1).1.getD 3 0))), .val (.int (((((1 : Int32) <<< ((Int32.ofNat ((own_mark (own_mark (own_mark (own_mark own_q0 fa1.1) fb1.1) fc1.1) fd1.1).1.getD 0 0)) &&& 31)) ||| ((1 : Int32) <<< ((Int32.ofNat ((own_mark (own_mark (own_mark (own_mark own_q0 fa1.1) fb1.1) fc1.1) fd1.1).1.getD 1 0)) &&& 31))) ||| ((1 : Int32) <<< ((Int32.ofNat ((own_mark (own_mark (own_mark (own_mark own_q0 fa1.1) fb1.1) fc1.1) fd1.1).1.getD 2 0)) &&& 31))) ||| ((1 : Int32) <<< ((Int32.ofNat ((own_mark (own_mark (own_mark (own_mark own_q0 fa1.1) fb1.1) fc1.1) fd1.1).1.getD 3 0)) &&& 31)))), .val (.int (1 : Int32)), .unset] [(.int (3 : Int32)), (.ref ea), (.int (Int32.ofNat ((own_mark (own_mark (own_mark (own_mark own_q0 fa1.1) fb1.1) fc1.1) fd1.1).1.getD 3 0)))])) rfl rfl (hb hby at_305))
          have pre120 : ∀ t, Steps p.tables e below (T100.setTop (mkF m 314 #[.val (.int a1), .val (.int a2), .val (.int a3), .val (.int a4), .val (.int (Int32.ofNat fa1.1)), .val (.int (Int32.ofNat fb1.1)), .val (.int (Int32.ofNat fc1.1)), .val (.int (Int32.ofNat fd1.1)), .val (.ref ob), .val (.ref ea), .val (.int (Int32.ofNat kn)), .val (.int (Int32.ofNat ((own_mark (own_mark (own_mark (own_mark own_q0 fa1.1) fb1.1) fc1.1) fd1.1).1.getD 0 0))), .val (.int (Int32.ofNat ((own_mark (own_mark (own_mark (own_mark own_q0 fa1.1) fb1.1) fc1.1) fd1.1).1.getD 1 0))), .val (.int (Int32.ofNat ((own_mark (own_mark (own_mark (own_mark own_q0 fa1.1) fb1.1) fc1.1) fd1.1).1.getD 2 0))), .val (.int (Int32.ofNat ((own_mark (own_mark (own_mark (own_mark own_q0 fa1.1) fb1.1) fc1.1) fd1.1).1.getD 3 0))), .val (.int (((((1 : Int32) <<< ((Int32.ofNat ((own_mark (own_mark (own_mark (own_mark own_q0 fa1.1) fb1.1) fc1.1) fd1.1).1.getD 0 0)) &&& 31)) ||| ((1 : Int32) <<< ((Int32.ofNat ((own_mark (own_mark (own_mark (own_mark own_q0 fa1.1) fb1.1) fc1.1) fd1.1).1.getD 1 0)) &&& 31))) ||| ((1 : Int32) <<< ((Int32.ofNat ((own_mark (own_mark (own_mark (own_mark own_q0 fa1.1) fb1.1) fc1.1) fd1.1).1.getD 2 0)) &&& 31))) ||| ((1 : Int32) <<< ((Int32.ofNat ((own_mark (own_mark (own_mark (own_mark own_q0 fa1.1) fb1.1) fc1.1) fd1.1).1.getD 3 0)) &&& 31)))), .val (.int (1 : Int32)), .unset] [(.int (1 : Int32))])) t → Steps p.tables e below (s₁.setTop (entryFrame m #[(.int a1), (.int a2), (.int a3), (.int a4)] maxLocals)) t := by
            intro t kt
            refine pre117 t ?_
            show Steps p.tables e below (T100.setTop (mkF m 297 #[.val (.int a1), .val (.int a2), .val (.int a3), .val (.int a4), .val (.int (Int32.ofNat fa1.1)), .val (.int (Int32.ofNat fb1.1)), .val (.int (Int32.ofNat fc1.1)), .val (.int (Int32.ofNat fd1.1)), .val (.ref ob), .val (.ref ea), .val (.int (Int32.ofNat kn)), .val (.int (Int32.ofNat ((own_mark (own_mark (own_mark (own_mark own_q0 fa1.1) fb1.1) fc1.1) fd1.1).1.getD 0 0))), .val (.int (Int32.ofNat ((own_mark (own_mark (own_mark (own_mark own_q0 fa1.1) fb1.1) fc1.1) fd1.1).1.getD 1 0))), .val (.int (Int32.ofNat ((own_mark (own_mark (own_mark (own_mark own_q0 fa1.1) fb1.1) fc1.1) fd1.1).1.getD 2 0))), .val (.int (Int32.ofNat ((own_mark (own_mark (own_mark (own_mark own_q0 fa1.1) fb1.1) fc1.1) fd1.1).1.getD 3 0))), .val (.int (((((1 : Int32) <<< ((Int32.ofNat ((own_mark (own_mark (own_mark (own_mark own_q0 fa1.1) fb1.1) fc1.1) fd1.1).1.getD 0 0)) &&& 31)) ||| ((1 : Int32) <<< ((Int32.ofNat ((own_mark (own_mark (own_mark (own_mark own_q0 fa1.1) fb1.1) fc1.1) fd1.1).1.getD 1 0)) &&& 31))) ||| ((1 : Int32) <<< ((Int32.ofNat ((own_mark (own_mark (own_mark (own_mark own_q0 fa1.1) fb1.1) fc1.1) fd1.1).1.getD 2 0)) &&& 31))) ||| ((1 : Int32) <<< ((Int32.ofNat ((own_mark (own_mark (own_mark (own_mark own_q0 fa1.1) fb1.1) fc1.1) fd1.1).1.getD 3 0)) &&& 31)))), .val (.int (1 : Int32)), .unset] [(.int (4 : Int32)), (.int (Int32.ofNat kn))])) _
            refine XS.icmpNo X100.here hx rfl (hb hby at_297) rfl (flt hc297_3).1 ?_
            show Steps p.tables e below (T100.setTop (mkF m 300 #[.val (.int a1), .val (.int a2), .val (.int a3), .val (.int a4), .val (.int (Int32.ofNat fa1.1)), .val (.int (Int32.ofNat fb1.1)), .val (.int (Int32.ofNat fc1.1)), .val (.int (Int32.ofNat fd1.1)), .val (.ref ob), .val (.ref ea), .val (.int (Int32.ofNat kn)), .val (.int (Int32.ofNat ((own_mark (own_mark (own_mark (own_mark own_q0 fa1.1) fb1.1) fc1.1) fd1.1).1.getD 0 0))), .val (.int (Int32.ofNat ((own_mark (own_mark (own_mark (own_mark own_q0 fa1.1) fb1.1) fc1.1) fd1.1).1.getD 1 0))), .val (.int (Int32.ofNat ((own_mark (own_mark (own_mark (own_mark own_q0 fa1.1) fb1.1) fc1.1) fd1.1).1.getD 2 0))), .val (.int (Int32.ofNat ((own_mark (own_mark (own_mark (own_mark own_q0 fa1.1) fb1.1) fc1.1) fd1.1).1.getD 3 0))), .val (.int (((((1 : Int32) <<< ((Int32.ofNat ((own_mark (own_mark (own_mark (own_mark own_q0 fa1.1) fb1.1) fc1.1) fd1.1).1.getD 0 0)) &&& 31)) ||| ((1 : Int32) <<< ((Int32.ofNat ((own_mark (own_mark (own_mark (own_mark own_q0 fa1.1) fb1.1) fc1.1) fd1.1).1.getD 1 0)) &&& 31))) ||| ((1 : Int32) <<< ((Int32.ofNat ((own_mark (own_mark (own_mark (own_mark own_q0 fa1.1) fb1.1) fc1.1) fd1.1).1.getD 2 0)) &&& 31))) ||| ((1 : Int32) <<< ((Int32.ofNat ((own_mark (own_mark (own_mark (own_mark own_q0 fa1.1) fb1.1) fc1.1) fd1.1).1.getD 3 0)) &&& 31)))), .val (.int (1 : Int32)), .unset] [])) _
            refine XS.iload X100.here hx rfl (hb hby at_300) rfl ?_
            show Steps p.tables e below (T100.setTop (mkF m 302 #[.val (.int a1), .val (.int a2), .val (.int a3), .val (.int a4), .val (.int (Int32.ofNat fa1.1)), .val (.int (Int32.ofNat fb1.1)), .val (.int (Int32.ofNat fc1.1)), .val (.int (Int32.ofNat fd1.1)), .val (.ref ob), .val (.ref ea), .val (.int (Int32.ofNat kn)), .val (.int (Int32.ofNat ((own_mark (own_mark (own_mark (own_mark own_q0 fa1.1) fb1.1) fc1.1) fd1.1).1.getD 0 0))), .val (.int (Int32.ofNat ((own_mark (own_mark (own_mark (own_mark own_q0 fa1.1) fb1.1) fc1.1) fd1.1).1.getD 1 0))), .val (.int (Int32.ofNat ((own_mark (own_mark (own_mark (own_mark own_q0 fa1.1) fb1.1) fc1.1) fd1.1).1.getD 2 0))), .val (.int (Int32.ofNat ((own_mark (own_mark (own_mark (own_mark own_q0 fa1.1) fb1.1) fc1.1) fd1.1).1.getD 3 0))), .val (.int (((((1 : Int32) <<< ((Int32.ofNat ((own_mark (own_mark (own_mark (own_mark own_q0 fa1.1) fb1.1) fc1.1) fd1.1).1.getD 0 0)) &&& 31)) ||| ((1 : Int32) <<< ((Int32.ofNat ((own_mark (own_mark (own_mark (own_mark own_q0 fa1.1) fb1.1) fc1.1) fd1.1).1.getD 1 0)) &&& 31))) ||| ((1 : Int32) <<< ((Int32.ofNat ((own_mark (own_mark (own_mark (own_mark own_q0 fa1.1) fb1.1) fc1.1) fd1.1).1.getD 2 0)) &&& 31))) ||| ((1 : Int32) <<< ((Int32.ofNat ((own_mark (own_mark (own_mark (own_mark own_q0 fa1.1) fb1.1) fc1.1) fd1.1).1.getD 3 0)) &&& 31)))), .val (.int (1 : Int32)), .unset] [(.int (Int32.ofNat ((own_mark (own_mark (own_mark (own_mark own_q0 fa1.1) fb1.1) fc1.1) fd1.1).1.getD 3 0)))])) _
            refine XS.aload X100.here hx rfl (hb hby at_302) rfl rfl ?_
            show Steps p.tables e below (T100.setTop (mkF m 304 #[.val (.int a1), .val (.int a2), .val (.int a3), .val (.int a4), .val (.int (Int32.ofNat fa1.1)), .val (.int (Int32.ofNat fb1.1)), .val (.int (Int32.ofNat fc1.1)), .val (.int (Int32.ofNat fd1.1)), .val (.ref ob), .val (.ref ea), .val (.int (Int32.ofNat kn)), .val (.int (Int32.ofNat ((own_mark (own_mark (own_mark (own_mark own_q0 fa1.1) fb1.1) fc1.1) fd1.1).1.getD 0 0))), .val (.int (Int32.ofNat ((own_mark (own_mark (own_mark (own_mark own_q0 fa1.1) fb1.1) fc1.1) fd1.1).1.getD 1 0))), .val (.int (Int32.ofNat ((own_mark (own_mark (own_mark (own_mark own_q0 fa1.1) fb1.1) fc1.1) fd1.1).1.getD 2 0))), .val (.int (Int32.ofNat ((own_mark (own_mark (own_mark (own_mark own_q0 fa1.1) fb1.1) fc1.1) fd1.1).1.getD 3 0))), .val (.int (((((1 : Int32) <<< ((Int32.ofNat ((own_mark (own_mark (own_mark (own_mark own_q0 fa1.1) fb1.1) fc1.1) fd1.1).1.getD 0 0)) &&& 31)) ||| ((1 : Int32) <<< ((Int32.ofNat ((own_mark (own_mark (own_mark (own_mark own_q0 fa1.1) fb1.1) fc1.1) fd1.1).1.getD 1 0)) &&& 31))) ||| ((1 : Int32) <<< ((Int32.ofNat ((own_mark (own_mark (own_mark (own_mark own_q0 fa1.1) fb1.1) fc1.1) fd1.1).1.getD 2 0)) &&& 31))) ||| ((1 : Int32) <<< ((Int32.ofNat ((own_mark (own_mark (own_mark (own_mark own_q0 fa1.1) fb1.1) fc1.1) fd1.1).1.getD 3 0)) &&& 31)))), .val (.int (1 : Int32)), .unset] [(.ref ea), (.int (Int32.ofNat ((own_mark (own_mark (own_mark (own_mark own_q0 fa1.1) fb1.1) fc1.1) fd1.1).1.getD 3 0)))])) _
            refine XS.iconst X100.here hx rfl (hb hby at_304) ?_
            show Steps p.tables e below (T100.setTop (mkF m 305 #[.val (.int a1), .val (.int a2), .val (.int a3), .val (.int a4), .val (.int (Int32.ofNat fa1.1)), .val (.int (Int32.ofNat fb1.1)), .val (.int (Int32.ofNat fc1.1)), .val (.int (Int32.ofNat fd1.1)), .val (.ref ob), .val (.ref ea), .val (.int (Int32.ofNat kn)), .val (.int (Int32.ofNat ((own_mark (own_mark (own_mark (own_mark own_q0 fa1.1) fb1.1) fc1.1) fd1.1).1.getD 0 0))), .val (.int (Int32.ofNat ((own_mark (own_mark (own_mark (own_mark own_q0 fa1.1) fb1.1) fc1.1) fd1.1).1.getD 1 0))), .val (.int (Int32.ofNat ((own_mark (own_mark (own_mark (own_mark own_q0 fa1.1) fb1.1) fc1.1) fd1.1).1.getD 2 0))), .val (.int (Int32.ofNat ((own_mark (own_mark (own_mark (own_mark own_q0 fa1.1) fb1.1) fc1.1) fd1.1).1.getD 3 0))), .val (.int (((((1 : Int32) <<< ((Int32.ofNat ((own_mark (own_mark (own_mark (own_mark own_q0 fa1.1) fb1.1) fc1.1) fd1.1).1.getD 0 0)) &&& 31)) ||| ((1 : Int32) <<< ((Int32.ofNat ((own_mark (own_mark (own_mark (own_mark own_q0 fa1.1) fb1.1) fc1.1) fd1.1).1.getD 1 0)) &&& 31))) ||| ((1 : Int32) <<< ((Int32.ofNat ((own_mark (own_mark (own_mark (own_mark own_q0 fa1.1) fb1.1) fc1.1) fd1.1).1.getD 2 0)) &&& 31))) ||| ((1 : Int32) <<< ((Int32.ofNat ((own_mark (own_mark (own_mark (own_mark own_q0 fa1.1) fb1.1) fc1.1) fd1.1).1.getD 3 0)) &&& 31)))), .val (.int (1 : Int32)), .unset] [(.int (3 : Int32)), (.ref ea), (.int (Int32.ofNat ((own_mark (own_mark (own_mark (own_mark own_q0 fa1.1) fb1.1) fc1.1) fd1.1).1.getD 3 0)))])) _
            refine ld119 _ ?_
            show Steps p.tables e below (T100.setTop (mkF m 306 #[.val (.int a1), .val (.int a2), .val (.int a3), .val (.int a4), .val (.int (Int32.ofNat fa1.1)), .val (.int (Int32.ofNat fb1.1)), .val (.int (Int32.ofNat fc1.1)), .val (.int (Int32.ofNat fd1.1)), .val (.ref ob), .val (.ref ea), .val (.int (Int32.ofNat kn)), .val (.int (Int32.ofNat ((own_mark (own_mark (own_mark (own_mark own_q0 fa1.1) fb1.1) fc1.1) fd1.1).1.getD 0 0))), .val (.int (Int32.ofNat ((own_mark (own_mark (own_mark (own_mark own_q0 fa1.1) fb1.1) fc1.1) fd1.1).1.getD 1 0))), .val (.int (Int32.ofNat ((own_mark (own_mark (own_mark (own_mark own_q0 fa1.1) fb1.1) fc1.1) fd1.1).1.getD 2 0))), .val (.int (Int32.ofNat ((own_mark (own_mark (own_mark (own_mark own_q0 fa1.1) fb1.1) fc1.1) fd1.1).1.getD 3 0))), .val (.int (((((1 : Int32) <<< ((Int32.ofNat ((own_mark (own_mark (own_mark (own_mark own_q0 fa1.1) fb1.1) fc1.1) fd1.1).1.getD 0 0)) &&& 31)) ||| ((1 : Int32) <<< ((Int32.ofNat ((own_mark (own_mark (own_mark (own_mark own_q0 fa1.1) fb1.1) fc1.1) fd1.1).1.getD 1 0)) &&& 31))) ||| ((1 : Int32) <<< ((Int32.ofNat ((own_mark (own_mark (own_mark (own_mark own_q0 fa1.1) fb1.1) fc1.1) fd1.1).1.getD 2 0)) &&& 31))) ||| ((1 : Int32) <<< ((Int32.ofNat ((own_mark (own_mark (own_mark (own_mark own_q0 fa1.1) fb1.1) fc1.1) fd1.1).1.getD 3 0)) &&& 31)))), .val (.int (1 : Int32)), .unset] [(.int (Int32.ofNat (el.getD 3 0))), (.int (Int32.ofNat ((own_mark (own_mark (own_mark (own_mark own_q0 fa1.1) fb1.1) fc1.1) fd1.1).1.getD 3 0)))])) _
            refine XS.icmpNo X100.here hx rfl (hb hby at_306) rfl (teq (congrArg Int32.ofNat (fe3.resolve_left fun w => hc297_3 ((own_ltn (by omega) (by decide)).mpr w)))).2 ?_
            show Steps p.tables e below (T100.setTop (mkF m 309 #[.val (.int a1), .val (.int a2), .val (.int a3), .val (.int a4), .val (.int (Int32.ofNat fa1.1)), .val (.int (Int32.ofNat fb1.1)), .val (.int (Int32.ofNat fc1.1)), .val (.int (Int32.ofNat fd1.1)), .val (.ref ob), .val (.ref ea), .val (.int (Int32.ofNat kn)), .val (.int (Int32.ofNat ((own_mark (own_mark (own_mark (own_mark own_q0 fa1.1) fb1.1) fc1.1) fd1.1).1.getD 0 0))), .val (.int (Int32.ofNat ((own_mark (own_mark (own_mark (own_mark own_q0 fa1.1) fb1.1) fc1.1) fd1.1).1.getD 1 0))), .val (.int (Int32.ofNat ((own_mark (own_mark (own_mark (own_mark own_q0 fa1.1) fb1.1) fc1.1) fd1.1).1.getD 2 0))), .val (.int (Int32.ofNat ((own_mark (own_mark (own_mark (own_mark own_q0 fa1.1) fb1.1) fc1.1) fd1.1).1.getD 3 0))), .val (.int (((((1 : Int32) <<< ((Int32.ofNat ((own_mark (own_mark (own_mark (own_mark own_q0 fa1.1) fb1.1) fc1.1) fd1.1).1.getD 0 0)) &&& 31)) ||| ((1 : Int32) <<< ((Int32.ofNat ((own_mark (own_mark (own_mark (own_mark own_q0 fa1.1) fb1.1) fc1.1) fd1.1).1.getD 1 0)) &&& 31))) ||| ((1 : Int32) <<< ((Int32.ofNat ((own_mark (own_mark (own_mark (own_mark own_q0 fa1.1) fb1.1) fc1.1) fd1.1).1.getD 2 0)) &&& 31))) ||| ((1 : Int32) <<< ((Int32.ofNat ((own_mark (own_mark (own_mark (own_mark own_q0 fa1.1) fb1.1) fc1.1) fd1.1).1.getD 3 0)) &&& 31)))), .val (.int (1 : Int32)), .unset] [])) _
            refine XS.iconst X100.here hx rfl (hb hby at_309) ?_
            show Steps p.tables e below (T100.setTop (mkF m 310 #[.val (.int a1), .val (.int a2), .val (.int a3), .val (.int a4), .val (.int (Int32.ofNat fa1.1)), .val (.int (Int32.ofNat fb1.1)), .val (.int (Int32.ofNat fc1.1)), .val (.int (Int32.ofNat fd1.1)), .val (.ref ob), .val (.ref ea), .val (.int (Int32.ofNat kn)), .val (.int (Int32.ofNat ((own_mark (own_mark (own_mark (own_mark own_q0 fa1.1) fb1.1) fc1.1) fd1.1).1.getD 0 0))), .val (.int (Int32.ofNat ((own_mark (own_mark (own_mark (own_mark own_q0 fa1.1) fb1.1) fc1.1) fd1.1).1.getD 1 0))), .val (.int (Int32.ofNat ((own_mark (own_mark (own_mark (own_mark own_q0 fa1.1) fb1.1) fc1.1) fd1.1).1.getD 2 0))), .val (.int (Int32.ofNat ((own_mark (own_mark (own_mark (own_mark own_q0 fa1.1) fb1.1) fc1.1) fd1.1).1.getD 3 0))), .val (.int (((((1 : Int32) <<< ((Int32.ofNat ((own_mark (own_mark (own_mark (own_mark own_q0 fa1.1) fb1.1) fc1.1) fd1.1).1.getD 0 0)) &&& 31)) ||| ((1 : Int32) <<< ((Int32.ofNat ((own_mark (own_mark (own_mark (own_mark own_q0 fa1.1) fb1.1) fc1.1) fd1.1).1.getD 1 0)) &&& 31))) ||| ((1 : Int32) <<< ((Int32.ofNat ((own_mark (own_mark (own_mark (own_mark own_q0 fa1.1) fb1.1) fc1.1) fd1.1).1.getD 2 0)) &&& 31))) ||| ((1 : Int32) <<< ((Int32.ofNat ((own_mark (own_mark (own_mark (own_mark own_q0 fa1.1) fb1.1) fc1.1) fd1.1).1.getD 3 0)) &&& 31)))), .val (.int (1 : Int32)), .unset] [(.int (1 : Int32))])) _
            refine XS.goto X100.here hx rfl (pc0 := 310) (pc' := 314) rfl (hb hby at_310) (by decide) (by decide) ?_
            exact kt
          exact ⟨T100, _, (1 : Int32), X100, eq100, N100, rfl, pre120⟩
      case neg =>
        have ld121 := (own_ldI X100 hx hZ eq100 V_ea (j := (2 : Int32)) (by decide) (k := 2) rfl (by decide) (v := (.int (Int32.ofNat (el.getD 2 0)))) rfl (g := (mkF m 290 #[.val (.int a1), .val (.int a2), .val (.int a3), .val (.int a4), .val (.int (Int32.ofNat fa1.1)), .val (.int (Int32.ofNat fb1.1)), .val (.int (Int32.ofNat fc1.1)), .val (.int (Int32.ofNat fd1.1)), .val (.ref ob), .val (.ref ea), .val (.int (Int32.ofNat kn)), .val (.int (Int32.ofNat ((own_mark (own_mark (own_mark (own_mark own_q0 fa1.1) fb1.1) fc1.1) fd1.1).1.getD 0 0))), .val (.int (Int32.ofNat ((own_mark (own_mark (own_mark (own_mark own_q0 fa1.1) fb1.1) fc1.1) fd1.1).1.getD 1 0))), .val (.int (Int32.ofNat ((own_mark (own_mark (own_mark (own_mark own_q0 fa1.1) fb1.1) fc1.1) fd1.1).1.getD 2 0))), .val (.int (Int32.ofNat ((own_mark (own_mark (own_mark (own_mark own_q0 fa1.1) fb1.1) fc1.1) fd1.1).1.getD 3 0))), .val (.int (((((1 : Int32) <<< ((Int32.ofNat ((own_mark (own_mark (own_mark (own_mark own_q0 fa1.1) fb1.1) fc1.1) fd1.1).1.getD 0 0)) &&& 31)) ||| ((1 : Int32) <<< ((Int32.ofNat ((own_mark (own_mark (own_mark (own_mark own_q0 fa1.1) fb1.1) fc1.1) fd1.1).1.getD 1 0)) &&& 31))) ||| ((1 : Int32) <<< ((Int32.ofNat ((own_mark (own_mark (own_mark (own_mark own_q0 fa1.1) fb1.1) fc1.1) fd1.1).1.getD 2 0)) &&& 31))) ||| ((1 : Int32) <<< ((Int32.ofNat ((own_mark (own_mark (own_mark (own_mark own_q0 fa1.1) fb1.1) fc1.1) fd1.1).1.getD 3 0)) &&& 31)))), .val (.int (1 : Int32)), .unset] [(.int (2 : Int32)), (.ref ea), (.int (Int32.ofNat ((own_mark (own_mark (own_mark (own_mark own_q0 fa1.1) fb1.1) fc1.1) fd1.1).1.getD 2 0)))])) rfl rfl (hb hby at_290))
        have pre122 : ∀ t, Steps p.tables e below (T100.setTop (mkF m 297 #[.val (.int a1), .val (.int a2), .val (.int a3), .val (.int a4), .val (.int (Int32.ofNat fa1.1)), .val (.int (Int32.ofNat fb1.1)), .val (.int (Int32.ofNat fc1.1)), .val (.int (Int32.ofNat fd1.1)), .val (.ref ob), .val (.ref ea), .val (.int (Int32.ofNat kn)), .val (.int (Int32.ofNat ((own_mark (own_mark (own_mark (own_mark own_q0 fa1.1) fb1.1) fc1.1) fd1.1).1.getD 0 0))), .val (.int (Int32.ofNat ((own_mark (own_mark (own_mark (own_mark own_q0 fa1.1) fb1.1) fc1.1) fd1.1).1.getD 1 0))), .val (.int (Int32.ofNat ((own_mark (own_mark (own_mark (own_mark own_q0 fa1.1) fb1.1) fc1.1) fd1.1).1.getD 2 0))), .val (.int (Int32.ofNat ((own_mark (own_mark (own_mark (own_mark own_q0 fa1.1) fb1.1) fc1.1) fd1.1).1.getD 3 0))), .val (.int (((((1 : Int32) <<< ((Int32.ofNat ((own_mark (own_mark (own_mark (own_mark own_q0 fa1.1) fb1.1) fc1.1) fd1.1).1.getD 0 0)) &&& 31)) ||| ((1 : Int32) <<< ((Int32.ofNat ((own_mark (own_mark (own_mark (own_mark own_q0 fa1.1) fb1.1) fc1.1) fd1.1).1.getD 1 0)) &&& 31))) ||| ((1 : Int32) <<< ((Int32.ofNat ((own_mark (own_mark (own_mark (own_mark own_q0 fa1.1) fb1.1) fc1.1) fd1.1).1.getD 2 0)) &&& 31))) ||| ((1 : Int32) <<< ((Int32.ofNat ((own_mark (own_mark (own_mark (own_mark own_q0 fa1.1) fb1.1) fc1.1) fd1.1).1.getD 3 0)) &&& 31)))), .val (.int (1 : Int32)), .unset] [(.int (4 : Int32)), (.int (Int32.ofNat kn))])) t → Steps p.tables e below (s₁.setTop (entryFrame m #[(.int a1), (.int a2), (.int a3), (.int a4)] maxLocals)) t := by
          intro t kt
          refine pre116 t ?_
          show Steps p.tables e below (T100.setTop (mkF m 282 #[.val (.int a1), .val (.int a2), .val (.int a3), .val (.int a4), .val (.int (Int32.ofNat fa1.1)), .val (.int (Int32.ofNat fb1.1)), .val (.int (Int32.ofNat fc1.1)), .val (.int (Int32.ofNat fd1.1)), .val (.ref ob), .val (.ref ea), .val (.int (Int32.ofNat kn)), .val (.int (Int32.ofNat ((own_mark (own_mark (own_mark (own_mark own_q0 fa1.1) fb1.1) fc1.1) fd1.1).1.getD 0 0))), .val (.int (Int32.ofNat ((own_mark (own_mark (own_mark (own_mark own_q0 fa1.1) fb1.1) fc1.1) fd1.1).1.getD 1 0))), .val (.int (Int32.ofNat ((own_mark (own_mark (own_mark (own_mark own_q0 fa1.1) fb1.1) fc1.1) fd1.1).1.getD 2 0))), .val (.int (Int32.ofNat ((own_mark (own_mark (own_mark (own_mark own_q0 fa1.1) fb1.1) fc1.1) fd1.1).1.getD 3 0))), .val (.int (((((1 : Int32) <<< ((Int32.ofNat ((own_mark (own_mark (own_mark (own_mark own_q0 fa1.1) fb1.1) fc1.1) fd1.1).1.getD 0 0)) &&& 31)) ||| ((1 : Int32) <<< ((Int32.ofNat ((own_mark (own_mark (own_mark (own_mark own_q0 fa1.1) fb1.1) fc1.1) fd1.1).1.getD 1 0)) &&& 31))) ||| ((1 : Int32) <<< ((Int32.ofNat ((own_mark (own_mark (own_mark (own_mark own_q0 fa1.1) fb1.1) fc1.1) fd1.1).1.getD 2 0)) &&& 31))) ||| ((1 : Int32) <<< ((Int32.ofNat ((own_mark (own_mark (own_mark (own_mark own_q0 fa1.1) fb1.1) fc1.1) fd1.1).1.getD 3 0)) &&& 31)))), .val (.int (1 : Int32)), .unset] [(.int (3 : Int32)), (.int (Int32.ofNat kn))])) _
          refine XS.icmpNo X100.here hx rfl (hb hby at_282) rfl (flt hc282_2).1 ?_
          show Steps p.tables e below (T100.setTop (mkF m 285 #[.val (.int a1), .val (.int a2), .val (.int a3), .val (.int a4), .val (.int (Int32.ofNat fa1.1)), .val (.int (Int32.ofNat fb1.1)), .val (.int (Int32.ofNat fc1.1)), .val (.int (Int32.ofNat fd1.1)), .val (.ref ob), .val (.ref ea), .val (.int (Int32.ofNat kn)), .val (.int (Int32.ofNat ((own_mark (own_mark (own_mark (own_mark own_q0 fa1.1) fb1.1) fc1.1) fd1.1).1.getD 0 0))), .val (.int (Int32.ofNat ((own_mark (own_mark (own_mark (own_mark own_q0 fa1.1) fb1.1) fc1.1) fd1.1).1.getD 1 0))), .val (.int (Int32.ofNat ((own_mark (own_mark (own_mark (own_mark own_q0 fa1.1) fb1.1) fc1.1) fd1.1).1.getD 2 0))), .val (.int (Int32.ofNat ((own_mark (own_mark (own_mark (own_mark own_q0 fa1.1) fb1.1) fc1.1) fd1.1).1.getD 3 0))), .val (.int (((((1 : Int32) <<< ((Int32.ofNat ((own_mark (own_mark (own_mark (own_mark own_q0 fa1.1) fb1.1) fc1.1) fd1.1).1.getD 0 0)) &&& 31)) ||| ((1 : Int32) <<< ((Int32.ofNat ((own_mark (own_mark (own_mark (own_mark own_q0 fa1.1) fb1.1) fc1.1) fd1.1).1.getD 1 0)) &&& 31))) ||| ((1 : Int32) <<< ((Int32.ofNat ((own_mark (own_mark (own_mark (own_mark own_q0 fa1.1) fb1.1) fc1.1) fd1.1).1.getD 2 0)) &&& 31))) ||| ((1 : Int32) <<< ((Int32.ofNat ((own_mark (own_mark (own_mark (own_mark own_q0 fa1.1) fb1.1) fc1.1) fd1.1).1.getD 3 0)) &&& 31)))), .val (.int (1 : Int32)), .unset] [])) _
          refine XS.iload X100.here hx rfl (hb hby at_285) rfl ?_
          show Steps p.tables e below (T100.setTop (mkF m 287 #[.val (.int a1), .val (.int a2), .val (.int a3), .val (.int a4), .val (.int (Int32.ofNat fa1.1)), .val (.int (Int32.ofNat fb1.1)), .val (.int (Int32.ofNat fc1.1)), .val (.int (Int32.ofNat fd1.1)), .val (.ref ob), .val (.ref ea), .val (.int (Int32.ofNat kn)), .val (.int (Int32.ofNat ((own_mark (own_mark (own_mark (own_mark own_q0 fa1.1) fb1.1) fc1.1) fd1.1).1.getD 0 0))), .val (.int (Int32.ofNat ((own_mark (own_mark (own_mark (own_mark own_q0 fa1.1) fb1.1) fc1.1) fd1.1).1.getD 1 0))), .val (.int (Int32.ofNat ((own_mark (own_mark (own_mark (own_mark own_q0 fa1.1) fb1.1) fc1.1) fd1.1).1.getD 2 0))), .val (.int (Int32.ofNat ((own_mark (own_mark (own_mark (own_mark own_q0 fa1.1) fb1.1) fc1.1) fd1.1).1.getD 3 0))), .val (.int (((((1 : Int32) <<< ((Int32.ofNat ((own_mark (own_mark (own_mark (own_mark own_q0 fa1.1) fb1.1) fc1.1) fd1.1).1.getD 0 0)) &&& 31)) ||| ((1 : Int32) <<< ((Int32.ofNat ((own_mark (own_mark (own_mark (own_mark own_q0 fa1.1) fb1.1) fc1.1) fd1.1).1.getD 1 0)) &&& 31))) ||| ((1 : Int32) <<< ((Int32.ofNat ((own_mark (own_mark (own_mark (own_mark own_q0 fa1.1) fb1.1) fc1.1) fd1.1).1.getD 2 0)) &&& 31))) ||| ((1 : Int32) <<< ((Int32.ofNat ((own_mark (own_mark (own_mark (own_mark own_q0 fa1.1) fb1.1) fc1.1) fd1.1).1.getD 3 0)) &&& 31)))), .val (.int (1 : Int32)), .unset] [(.int (Int32.ofNat ((own_mark (own_mark (own_mark (own_mark own_q0 fa1.1) fb1.1) fc1.1) fd1.1).1.getD 2 0)))])) _
          refine XS.aload X100.here hx rfl (hb hby at_287) rfl rfl ?_
          show Steps p.tables e below (T100.setTop (mkF m 289 #[.val (.int a1), .val (.int a2), .val (.int a3), .val (.int a4), .val (.int (Int32.ofNat fa1.1)), .val (.int (Int32.ofNat fb1.1)), .val (.int (Int32.ofNat fc1.1)), .val (.int (Int32.ofNat fd1.1)), .val (.ref ob), .val (.ref ea), .val (.int (Int32.ofNat kn)), .val (.int (Int32.ofNat ((own_mark (own_mark (own_mark (own_mark own_q0 fa1.1) fb1.1) fc1.1) fd1.1).1.getD 0 0))), .val (.int (Int32.ofNat ((own_mark (own_mark (own_mark (own_mark own_q0 fa1.1) fb1.1) fc1.1) fd1.1).1.getD 1 0))), .val (.int (Int32.ofNat ((own_mark (own_mark (own_mark (own_mark own_q0 fa1.1) fb1.1) fc1.1) fd1.1).1.getD 2 0))), .val (.int (Int32.ofNat ((own_mark (own_mark (own_mark (own_mark own_q0 fa1.1) fb1.1) fc1.1) fd1.1).1.getD 3 0))), .val (.int (((((1 : Int32) <<< ((Int32.ofNat ((own_mark (own_mark (own_mark (own_mark own_q0 fa1.1) fb1.1) fc1.1) fd1.1).1.getD 0 0)) &&& 31)) ||| ((1 : Int32) <<< ((Int32.ofNat ((own_mark (own_mark (own_mark (own_mark own_q0 fa1.1) fb1.1) fc1.1) fd1.1).1.getD 1 0)) &&& 31))) ||| ((1 : Int32) <<< ((Int32.ofNat ((own_mark (own_mark (own_mark (own_mark own_q0 fa1.1) fb1.1) fc1.1) fd1.1).1.getD 2 0)) &&& 31))) ||| ((1 : Int32) <<< ((Int32.ofNat ((own_mark (own_mark (own_mark (own_mark own_q0 fa1.1) fb1.1) fc1.1) fd1.1).1.getD 3 0)) &&& 31)))), .val (.int (1 : Int32)), .unset] [(.ref ea), (.int (Int32.ofNat ((own_mark (own_mark (own_mark (own_mark own_q0 fa1.1) fb1.1) fc1.1) fd1.1).1.getD 2 0)))])) _
          refine XS.iconst X100.here hx rfl (hb hby at_289) ?_
          show Steps p.tables e below (T100.setTop (mkF m 290 #[.val (.int a1), .val (.int a2), .val (.int a3), .val (.int a4), .val (.int (Int32.ofNat fa1.1)), .val (.int (Int32.ofNat fb1.1)), .val (.int (Int32.ofNat fc1.1)), .val (.int (Int32.ofNat fd1.1)), .val (.ref ob), .val (.ref ea), .val (.int (Int32.ofNat kn)), .val (.int (Int32.ofNat ((own_mark (own_mark (own_mark (own_mark own_q0 fa1.1) fb1.1) fc1.1) fd1.1).1.getD 0 0))), .val (.int (Int32.ofNat ((own_mark (own_mark (own_mark (own_mark own_q0 fa1.1) fb1.1) fc1.1) fd1.1).1.getD 1 0))), .val (.int (Int32.ofNat ((own_mark (own_mark (own_mark (own_mark own_q0 fa1.1) fb1.1) fc1.1) fd1.1).1.getD 2 0))), .val (.int (Int32.ofNat ((own_mark (own_mark (own_mark (own_mark own_q0 fa1.1) fb1.1) fc1.1) fd1.1).1.getD 3 0))), .val (.int (((((1 : Int32) <<< ((Int32.ofNat ((own_mark (own_mark (own_mark (own_mark own_q0 fa1.1) fb1.1) fc1.1) fd1.1).1.getD 0 0)) &&& 31)) ||| ((1 : Int32) <<< ((Int32.ofNat ((own_mark (own_mark (own_mark (own_mark own_q0 fa1.1) fb1.1) fc1.1) fd1.1).1.getD 1 0)) &&& 31))) ||| ((1 : Int32) <<< ((Int32.ofNat ((own_mark (own_mark (own_mark (own_mark own_q0 fa1.1) fb1.1) fc1.1) fd1.1).1.getD 2 0)) &&& 31))) ||| ((1 : Int32) <<< ((Int32.ofNat ((own_mark (own_mark (own_mark (own_mark own_q0 fa1.1) fb1.1) fc1.1) fd1.1).1.getD 3 0)) &&& 31)))), .val (.int (1 : Int32)), .unset] [(.int (2 : Int32)), (.ref ea), (.int (Int32.ofNat ((own_mark (own_mark (own_mark (own_mark own_q0 fa1.1) fb1.1) fc1.1) fd1.1).1.getD 2 0)))])) _
          refine ld121 _ ?_
          show Steps p.tables e below (T100.setTop (mkF m 291 #[.val (.int a1), .val (.int a2), .val (.int a3), .val (.int a4), .val (.int (Int32.ofNat fa1.1)), .val (.int (Int32.ofNat fb1.1)), .val (.int (Int32.ofNat fc1.1)), .val (.int (Int32.ofNat fd1.1)), .val (.ref ob), .val (.ref ea), .val (.int (Int32.ofNat kn)), .val (.int (Int32.ofNat ((own_mark (own_mark (own_mark (own_mark own_q0 fa1.1) fb1.1) fc1.1) fd1.1).1.getD 0 0))), .val (.int (Int32.ofNat ((own_mark (own_mark (own_mark (own_mark own_q0 fa1.1) fb1.1) fc1.1) fd1.1).1.getD 1 0))), .val (.int (Int32.ofNat ((own_mark (own_mark (own_mark (own_mark own_q0 fa1.1) fb1.1) fc1.1) fd1.1).1.getD 2 0))), .val (.int (Int32.ofNat ((own_mark (own_mark (own_mark (own_mark own_q0 fa1.1) fb1.1) fc1.1) fd1.1).1.getD 3 0))), .val (.int (((((1 : Int32) <<< ((Int32.ofNat ((own_mark (own_mark (own_mark (own_mark own_q0 fa1.1) fb1.1) fc1.1) fd1.1).1.getD 0 0)) &&& 31)) ||| ((1 : Int32) <<< ((Int32.ofNat ((own_mark (own_mark (own_mark (own_mark own_q0 fa1.1) fb1.1) fc1.1) fd1.1).1.getD 1 0)) &&& 31))) ||| ((1 : Int32) <<< ((Int32.ofNat ((own_mark (own_mark (own_mark (own_mark own_q0 fa1.1) fb1.1) fc1.1) fd1.1).1.getD 2 0)) &&& 31))) ||| ((1 : Int32) <<< ((Int32.ofNat ((own_mark (own_mark (own_mark (own_mark own_q0 fa1.1) fb1.1) fc1.1) fd1.1).1.getD 3 0)) &&& 31)))), .val (.int (1 : Int32)), .unset] [(.int (Int32.ofNat (el.getD 2 0))), (.int (Int32.ofNat ((own_mark (own_mark (own_mark (own_mark own_q0 fa1.1) fb1.1) fc1.1) fd1.1).1.getD 2 0)))])) _
          refine XS.icmpNo X100.here hx rfl (hb hby at_291) rfl (teq (congrArg Int32.ofNat (fe2.resolve_left fun w => hc282_2 ((own_ltn (by omega) (by decide)).mpr w)))).2 ?_
          show Steps p.tables e below (T100.setTop (mkF m 294 #[.val (.int a1), .val (.int a2), .val (.int a3), .val (.int a4), .val (.int (Int32.ofNat fa1.1)), .val (.int (Int32.ofNat fb1.1)), .val (.int (Int32.ofNat fc1.1)), .val (.int (Int32.ofNat fd1.1)), .val (.ref ob), .val (.ref ea), .val (.int (Int32.ofNat kn)), .val (.int (Int32.ofNat ((own_mark (own_mark (own_mark (own_mark own_q0 fa1.1) fb1.1) fc1.1) fd1.1).1.getD 0 0))), .val (.int (Int32.ofNat ((own_mark (own_mark (own_mark (own_mark own_q0 fa1.1) fb1.1) fc1.1) fd1.1).1.getD 1 0))), .val (.int (Int32.ofNat ((own_mark (own_mark (own_mark (own_mark own_q0 fa1.1) fb1.1) fc1.1) fd1.1).1.getD 2 0))), .val (.int (Int32.ofNat ((own_mark (own_mark (own_mark (own_mark own_q0 fa1.1) fb1.1) fc1.1) fd1.1).1.getD 3 0))), .val (.int (((((1 : Int32) <<< ((Int32.ofNat ((own_mark (own_mark (own_mark (own_mark own_q0 fa1.1) fb1.1) fc1.1) fd1.1).1.getD 0 0)) &&& 31)) ||| ((1 : Int32) <<< ((Int32.ofNat ((own_mark (own_mark (own_mark (own_mark own_q0 fa1.1) fb1.1) fc1.1) fd1.1).1.getD 1 0)) &&& 31))) ||| ((1 : Int32) <<< ((Int32.ofNat ((own_mark (own_mark (own_mark (own_mark own_q0 fa1.1) fb1.1) fc1.1) fd1.1).1.getD 2 0)) &&& 31))) ||| ((1 : Int32) <<< ((Int32.ofNat ((own_mark (own_mark (own_mark (own_mark own_q0 fa1.1) fb1.1) fc1.1) fd1.1).1.getD 3 0)) &&& 31)))), .val (.int (1 : Int32)), .unset] [])) _
          refine XS.iload X100.here hx rfl (hb hby at_294) rfl ?_
          show Steps p.tables e below (T100.setTop (mkF m 296 #[.val (.int a1), .val (.int a2), .val (.int a3), .val (.int a4), .val (.int (Int32.ofNat fa1.1)), .val (.int (Int32.ofNat fb1.1)), .val (.int (Int32.ofNat fc1.1)), .val (.int (Int32.ofNat fd1.1)), .val (.ref ob), .val (.ref ea), .val (.int (Int32.ofNat kn)), .val (.int (Int32.ofNat ((own_mark (own_mark (own_mark (own_mark own_q0 fa1.1) fb1.1) fc1.1) fd1.1).1.getD 0 0))), .val (.int (Int32.ofNat ((own_mark (own_mark (own_mark (own_mark own_q0 fa1.1) fb1.1) fc1.1) fd1.1).1.getD 1 0))), .val (.int (Int32.ofNat ((own_mark (own_mark (own_mark (own_mark own_q0 fa1.1) fb1.1) fc1.1) fd1.1).1.getD 2 0))), .val (.int (Int32.ofNat ((own_mark (own_mark (own_mark (own_mark own_q0 fa1.1) fb1.1) fc1.1) fd1.1).1.getD 3 0))), .val (.int (((((1 : Int32) <<< ((Int32.ofNat ((own_mark (own_mark (own_mark (own_mark own_q0 fa1.1) fb1.1) fc1.1) fd1.1).1.getD 0 0)) &&& 31)) ||| ((1 : Int32) <<< ((Int32.ofNat ((own_mark (own_mark (own_mark (own_mark own_q0 fa1.1) fb1.1) fc1.1) fd1.1).1.getD 1 0)) &&& 31))) ||| ((1 : Int32) <<< ((Int32.ofNat ((own_mark (own_mark (own_mark (own_mark own_q0 fa1.1) fb1.1) fc1.1) fd1.1).1.getD 2 0)) &&& 31))) ||| ((1 : Int32) <<< ((Int32.ofNat ((own_mark (own_mark (own_mark (own_mark own_q0 fa1.1) fb1.1) fc1.1) fd1.1).1.getD 3 0)) &&& 31)))), .val (.int (1 : Int32)), .unset] [(.int (Int32.ofNat kn))])) _
          refine XS.iconst X100.here hx rfl (hb hby at_296) ?_
          exact kt
        by_cases hc297_4 : (Int32.ofNat kn) < (4 : Int32)
        case pos =>
          have pre123 : ∀ t, Steps p.tables e below (T100.setTop (mkF m 314 #[.val (.int a1), .val (.int a2), .val (.int a3), .val (.int a4), .val (.int (Int32.ofNat fa1.1)), .val (.int (Int32.ofNat fb1.1)), .val (.int (Int32.ofNat fc1.1)), .val (.int (Int32.ofNat fd1.1)), .val (.ref ob), .val (.ref ea), .val (.int (Int32.ofNat kn)), .val (.int (Int32.ofNat ((own_mark (own_mark (own_mark (own_mark own_q0 fa1.1) fb1.1) fc1.1) fd1.1).1.getD 0 0))), .val (.int (Int32.ofNat ((own_mark (own_mark (own_mark (own_mark own_q0 fa1.1) fb1.1) fc1.1) fd1.1).1.getD 1 0))), .val (.int (Int32.ofNat ((own_mark (own_mark (own_mark (own_mark own_q0 fa1.1) fb1.1) fc1.1) fd1.1).1.getD 2 0))), .val (.int (Int32.ofNat ((own_mark (own_mark (own_mark (own_mark own_q0 fa1.1) fb1.1) fc1.1) fd1.1).1.getD 3 0))), .val (.int (((((1 : Int32) <<< ((Int32.ofNat ((own_mark (own_mark (own_mark (own_mark own_q0 fa1.1) fb1.1) fc1.1) fd1.1).1.getD 0 0)) &&& 31)) ||| ((1 : Int32) <<< ((Int32.ofNat ((own_mark (own_mark (own_mark (own_mark own_q0 fa1.1) fb1.1) fc1.1) fd1.1).1.getD 1 0)) &&& 31))) ||| ((1 : Int32) <<< ((Int32.ofNat ((own_mark (own_mark (own_mark (own_mark own_q0 fa1.1) fb1.1) fc1.1) fd1.1).1.getD 2 0)) &&& 31))) ||| ((1 : Int32) <<< ((Int32.ofNat ((own_mark (own_mark (own_mark (own_mark own_q0 fa1.1) fb1.1) fc1.1) fd1.1).1.getD 3 0)) &&& 31)))), .val (.int (1 : Int32)), .unset] [(.int (1 : Int32))])) t → Steps p.tables e below (s₁.setTop (entryFrame m #[(.int a1), (.int a2), (.int a3), (.int a4)] maxLocals)) t := by
            intro t kt
            refine pre122 t ?_
            show Steps p.tables e below (T100.setTop (mkF m 297 #[.val (.int a1), .val (.int a2), .val (.int a3), .val (.int a4), .val (.int (Int32.ofNat fa1.1)), .val (.int (Int32.ofNat fb1.1)), .val (.int (Int32.ofNat fc1.1)), .val (.int (Int32.ofNat fd1.1)), .val (.ref ob), .val (.ref ea), .val (.int (Int32.ofNat kn)), .val (.int (Int32.ofNat ((own_mark (own_mark (own_mark (own_mark own_q0 fa1.1) fb1.1) fc1.1) fd1.1).1.getD 0 0))), .val (.int (Int32.ofNat ((own_mark (own_mark (own_mark (own_mark own_q0 fa1.1) fb1.1) fc1.1) fd1.1).1.getD 1 0))), .val (.int (Int32.ofNat ((own_mark (own_mark (own_mark (own_mark own_q0 fa1.1) fb1.1) fc1.1) fd1.1).1.getD 2 0))), .val (.int (Int32.ofNat ((own_mark (own_mark (own_mark (own_mark own_q0 fa1.1) fb1.1) fc1.1) fd1.1).1.getD 3 0))), .val (.int (((((1 : Int32) <<< ((Int32.ofNat ((own_mark (own_mark (own_mark (own_mark own_q0 fa1.1) fb1.1) fc1.1) fd1.1).1.getD 0 0)) &&& 31)) ||| ((1 : Int32) <<< ((Int32.ofNat ((own_mark (own_mark (own_mark (own_mark own_q0 fa1.1) fb1.1) fc1.1) fd1.1).1.getD 1 0)) &&& 31))) ||| ((1 : Int32) <<< ((Int32.ofNat ((own_mark (own_mark (own_mark (own_mark own_q0 fa1.1) fb1.1) fc1.1) fd1.1).1.getD 2 0)) &&& 31))) ||| ((1 : Int32) <<< ((Int32.ofNat ((own_mark (own_mark (own_mark (own_mark own_q0 fa1.1) fb1.1) fc1.1) fd1.1).1.getD 3 0)) &&& 31)))), .val (.int (1 : Int32)), .unset] [(.int (4 : Int32)), (.int (Int32.ofNat kn))])) _
            refine XS.icmpYes X100.here hx rfl (pc0 := 297) (pc' := 309) rfl (hb hby at_297) rfl (tlt hc297_4).1 (by decide) (by decide) ?_
            show Steps p.tables e below (T100.setTop (mkF m 309 #[.val (.int a1), .val (.int a2), .val (.int a3), .val (.int a4), .val (.int (Int32.ofNat fa1.1)), .val (.int (Int32.ofNat fb1.1)), .val (.int (Int32.ofNat fc1.1)), .val (.int (Int32.ofNat fd1.1)), .val (.ref ob), .val (.ref ea), .val (.int (Int32.ofNat kn)), .val (.int (Int32.ofNat ((own_mark (own_mark (own_mark (own_mark own_q0 fa1.1) fb1.1) fc1.1) fd1.1).1.getD 0 0))), .val (.int (Int32.ofNat ((own_mark (own_mark (own_mark (own_mark own_q0 fa1.1) fb1.1) fc1.1) fd1.1).1.getD 1 0))), .val (.int (Int32.ofNat ((own_mark (own_mark (own_mark (own_mark own_q0 fa1.1) fb1.1) fc1.1) fd1.1).1.getD 2 0))), .val (.int (Int32.ofNat ((own_mark (own_mark (own_mark (own_mark own_q0 fa1.1) fb1.1) fc1.1) fd1.1).1.getD 3 0))), .val (.int (((((1 : Int32) <<< ((Int32.ofNat ((own_mark (own_mark (own_mark (own_mark own_q0 fa1.1) fb1.1) fc1.1) fd1.1).1.getD 0 0)) &&& 31)) ||| ((1 : Int32) <<< ((Int32.ofNat ((own_mark (own_mark (own_mark (own_mark own_q0 fa1.1) fb1.1) fc1.1) fd1.1).1.getD 1 0)) &&& 31))) ||| ((1 : Int32) <<< ((Int32.ofNat ((own_mark (own_mark (own_mark (own_mark own_q0 fa1.1) fb1.1) fc1.1) fd1.1).1.getD 2 0)) &&& 31))) ||| ((1 : Int32) <<< ((Int32.ofNat ((own_mark (own_mark (own_mark (own_mark own_q0 fa1.1) fb1.1) fc1.1) fd1.1).1.getD 3 0)) &&& 31)))), .val (.int (1 : Int32)), .unset] [])) _
            refine XS.iconst X100.here hx rfl (hb hby at_309) ?_
            show Steps p.tables e below (T100.setTop (mkF m 310 #[.val (.int a1), .val (.int a2), .val (.int a3), .val (.int a4), .val (.int (Int32.ofNat fa1.1)), .val (.int (Int32.ofNat fb1.1)), .val (.int (Int32.ofNat fc1.1)), .val (.int (Int32.ofNat fd1.1)), .val (.ref ob), .val (.ref ea), .val (.int (Int32.ofNat kn)), .val (.int (Int32.ofNat ((own_mark (own_mark (own_mark (own_mark own_q0 fa1.1) fb1.1) fc1.1) fd1.1).1.getD 0 0))), .val (.int (Int32.ofNat ((own_mark (own_mark (own_mark (own_mark own_q0 fa1.1) fb1.1) fc1.1) fd1.1).1.getD 1 0))), .val (.int (Int32.ofNat ((own_mark (own_mark (own_mark (own_mark own_q0 fa1.1) fb1.1) fc1.1) fd1.1).1.getD 2 0))), .val (.int (Int32.ofNat ((own_mark (own_mark (own_mark (own_mark own_q0 fa1.1) fb1.1) fc1.1) fd1.1).1.getD 3 0))), .val (.int (((((1 : Int32) <<< ((Int32.ofNat ((own_mark (own_mark (own_mark (own_mark own_q0 fa1.1) fb1.1) fc1.1) fd1.1).1.getD 0 0)) &&& 31)) ||| ((1 : Int32) <<< ((Int32.ofNat ((own_mark (own_mark (own_mark (own_mark own_q0 fa1.1) fb1.1) fc1.1) fd1.1).1.getD 1 0)) &&& 31))) ||| ((1 : Int32) <<< ((Int32.ofNat ((own_mark (own_mark (own_mark (own_mark own_q0 fa1.1) fb1.1) fc1.1) fd1.1).1.getD 2 0)) &&& 31))) ||| ((1 : Int32) <<< ((Int32.ofNat ((own_mark (own_mark (own_mark (own_mark own_q0 fa1.1) fb1.1) fc1.1) fd1.1).1.getD 3 0)) &&& 31)))), .val (.int (1 : Int32)), .unset] [(.int (1 : Int32))])) _
            refine XS.goto X100.here hx rfl (pc0 := 310) (pc' := 314) rfl (hb hby at_310) (by decide) (by decide) ?_
            exact kt
          exact ⟨T100, _, (1 : Int32), X100, eq100, N100, rfl, pre123⟩
        case neg =>
          have ld124 := (own_ldI X100 hx hZ eq100 V_ea (j := (3 : Int32)) (by decide) (k := 3) rfl (by decide) (v := (.int (Int32.ofNat (el.getD 3 0)))) rfl (g := (mkF m 305 #[.val (.int a1), .val (.int a2), .val (.int a3), .val (.int a4), .val (.int (Int32.ofNat fa1.1)), .val (.int (Int32.ofNat fb1.1)), .val (.int (Int32.ofNat fc1.1)), .val (.int (Int32.ofNat fd1.1)), .val (.ref ob), .val (.ref ea), .val (.int (Int32.ofNat kn)), .val (.int (Int32.ofNat ((own_mark (own_mark (own_mark (own_mark own_q0 fa1.1) fb1.1) fc1.1) fd1.1).1.getD 0 0))), .val (.int (Int32.ofNat ((own_mark (own_mark (own_mark (own_mark own_q0 fa1.1) fb1.1) fc1.1) fd1.1).1.getD 1 0))), .val (.int (Int32.ofNat ((own_mark (own_mark (own_mark (own_mark own_q0 fa1.1) fb1.1) fc1.1) fd1.1).1.getD 2 0))), .val (.int (Int32.ofNat ((own_mark (own_mark (own_mark (own_mark own_q0 fa1.1) fb1.1) fc1.1) fd1.1).1.getD 3 0))), .val (.int (((((1 : Int32) <<< ((Int32.ofNat ((own_mark (own_mark (own_mark (own_mark own_q0 fa1.1) fb1.1) fc1.1) fd1.1).1.getD 0 0)) &&& 31)) ||| ((1 : Int32) <<< ((Int32.ofNat ((own_mark (own_mark (own_mark (own_mark own_q0 fa1.1) fb1.1) fc1.1) fd1.1).1.getD 1 0)) &&& 31))) ||| ((1 : Int32) <<< ((Int32.ofNat ((own_mark (own_mark (own_mark (own_mark own_q0 fa1.1) fb1.1) fc1.1) fd1.1).1.getD 2 0)) &&& 31))) ||| ((1 : Int32) <<< ((Int32.ofNat ((own_mark (own_mark (own_mark (own_mark own_q0 fa1.1) fb1.1) fc1.1) fd1.1).1.getD 3 0)) &&& 31)))), .val (.int (1 : Int32)), .unset] [(.int (3 : Int32)), (.ref ea), (.int (Int32.ofNat ((own_mark (own_mark (own_mark (own_mark own_q0 fa1.1) fb1.1) fc1.1) fd1.1).1.getD 3 0)))])) rfl rfl (hb hby at_305))
          have pre125 : ∀ t, Steps p.tables e below (T100.setTop (mkF m 314 #[.val (.int a1), .val (.int a2), .val (.int a3), .val (.int a4), .val (.int (Int32.ofNat fa1.1)), .val (.int (Int32.ofNat fb1.1)), .val (.int (Int32.ofNat fc1.1)), .val (.int (Int32.ofNat fd1.1)), .val (.ref ob), .val (.ref ea), .val (.int (Int32.ofNat kn)), .val (.int (Int32.ofNat ((own_mark (own_mark (own_mark (own_mark own_q0 fa1.1) fb1.1) fc1.1) fd1.1).1.getD 0 0))), .val (.int (Int32.ofNat ((own_mark (own_mark (own_mark (own_mark own_q0 fa1.1) fb1.1) fc1.1) fd1.1).1.getD 1 0))), .val (.int (Int32.ofNat ((own_mark (own_mark (own_mark (own_mark own_q0 fa1.1) fb1.1) fc1.1) fd1.1).1.getD 2 0))), .val (.int (Int32.ofNat ((own_mark (own_mark (own_mark (own_mark own_q0 fa1.1) fb1.1) fc1.1) fd1.1).1.getD 3 0))), .val (.int (((((1 : Int32) <<< ((Int32.ofNat ((own_mark (own_mark (own_mark (own_mark own_q0 fa1.1) fb1.1) fc1.1) fd1.1).1.getD 0 0)) &&& 31)) ||| ((1 : Int32) <<< ((Int32.ofNat ((own_mark (own_mark (own_mark (own_mark own_q0 fa1.1) fb1.1) fc1.1) fd1.1).1.getD 1 0)) &&& 31))) ||| ((1 : Int32) <<< ((Int32.ofNat ((own_mark (own_mark (own_mark (own_mark own_q0 fa1.1) fb1.1) fc1.1) fd1.1).1.getD 2 0)) &&& 31))) ||| ((1 : Int32) <<< ((Int32.ofNat ((own_mark (own_mark (own_mark (own_mark own_q0 fa1.1) fb1.1) fc1.1) fd1.1).1.getD 3 0)) &&& 31)))), .val (.int (1 : Int32)), .unset] [(.int (1 : Int32))])) t → Steps p.tables e below (s₁.setTop (entryFrame m #[(.int a1), (.int a2), (.int a3), (.int a4)] maxLocals)) t := by
            intro t kt
            refine pre122 t ?_
            show Steps p.tables e below (T100.setTop (mkF m 297 #[.val (.int a1), .val (.int a2), .val (.int a3), .val (.int a4), .val (.int (Int32.ofNat fa1.1)), .val (.int (Int32.ofNat fb1.1)), .val (.int (Int32.ofNat fc1.1)), .val (.int (Int32.ofNat fd1.1)), .val (.ref ob), .val (.ref ea), .val (.int (Int32.ofNat kn)), .val (.int (Int32.ofNat ((own_mark (own_mark (own_mark (own_mark own_q0 fa1.1) fb1.1) fc1.1) fd1.1).1.getD 0 0))), .val (.int (Int32.ofNat ((own_mark (own_mark (own_mark (own_mark own_q0 fa1.1) fb1.1) fc1.1) fd1.1).1.getD 1 0))), .val (.int (Int32.ofNat ((own_mark (own_mark (own_mark (own_mark own_q0 fa1.1) fb1.1) fc1.1) fd1.1).1.getD 2 0))), .val (.int (Int32.ofNat ((own_mark (own_mark (own_mark (own_mark own_q0 fa1.1) fb1.1) fc1.1) fd1.1).1.getD 3 0))), .val (.int (((((1 : Int32) <<< ((Int32.ofNat ((own_mark (own_mark (own_mark (own_mark own_q0 fa1.1) fb1.1) fc1.1) fd1.1).1.getD 0 0)) &&& 31)) ||| ((1 : Int32) <<< ((Int32.ofNat ((own_mark (own_mark (own_mark (own_mark own_q0 fa1.1) fb1.1) fc1.1) fd1.1).1.getD 1 0)) &&& 31))) ||| ((1 : Int32) <<< ((Int32.ofNat ((own_mark (own_mark (own_mark (own_mark own_q0 fa1.1) fb1.1) fc1.1) fd1.1).1.getD 2 0)) &&& 31))) ||| ((1 : Int32) <<< ((Int32.ofNat ((own_mark (own_mark (own_mark (own_mark own_q0 fa1.1) fb1.1) fc1.1) fd1.1).1.getD 3 0)) &&& 31)))), .val (.int (1 : Int32)), .unset] [(.int (4 : Int32)), (.int (Int32.ofNat kn))])) _
            refine XS.icmpNo X100.here hx rfl (hb hby at_297) rfl (flt hc297_4).1 ?_
            show Steps p.tables e below (T100.setTop (mkF m 300 #[.val (.int a1), .val (.int a2), .val (.int a3), .val (.int a4), .val (.int (Int32.ofNat fa1.1)), .val (.int (Int32.ofNat fb1.1)), .val (.int (Int32.ofNat fc1.1)), .val (.int (Int32.ofNat fd1.1)), .val (.ref ob), .val (.ref ea), .val (.int (Int32.ofNat kn)), .val (.int (Int32.ofNat ((own_mark (own_mark (own_mark (own_mark own_q0 fa1.1) fb1.1) fc1.1) fd1.1).1.getD 0 0))), .val (.int (Int32.ofNat ((own_mark (own_mark (own_mark (own_mark own_q0 fa1.1) fb1.1) fc1.1) fd1.1).1.getD 1 0))), .val (.int (Int32.ofNat ((own_mark (own_mark (own_mark (own_mark own_q0 fa1.1) fb1.1) fc1.1) fd1.1).1.getD 2 0))), .val (.int (Int32.ofNat ((own_mark (own_mark (own_mark (own_mark own_q0 fa1.1) fb1.1) fc1.1) fd1.1).1.getD 3 0))), .val (.int (((((1 : Int32) <<< ((Int32.ofNat ((own_mark (own_mark (own_mark (own_mark own_q0 fa1.1) fb1.1) fc1.1) fd1.1).1.getD 0 0)) &&& 31)) ||| ((1 : Int32) <<< ((Int32.ofNat ((own_mark (own_mark (own_mark (own_mark own_q0 fa1.1) fb1.1) fc1.1) fd1.1).1.getD 1 0)) &&& 31))) ||| ((1 : Int32) <<< ((Int32.ofNat ((own_mark (own_mark (own_mark (own_mark own_q0 fa1.1) fb1.1) fc1.1) fd1.1).1.getD 2 0)) &&& 31))) ||| ((1 : Int32) <<< ((Int32.ofNat ((own_mark (own_mark (own_mark (own_mark own_q0 fa1.1) fb1.1) fc1.1) fd1.1).1.getD 3 0)) &&& 31)))), .val (.int (1 : Int32)), .unset] [])) _
            refine XS.iload X100.here hx rfl (hb hby at_300) rfl ?_
            show Steps p.tables e below (T100.setTop (mkF m 302 #[.val (.int a1), .val (.int a2), .val (.int a3), .val (.int a4), .val (.int (Int32.ofNat fa1.1)), .val (.int (Int32.ofNat fb1.1)), .val (.int (Int32.ofNat fc1.1)), .val (.int (Int32.ofNat fd1.1)), .val (.ref ob), .val (.ref ea), .val (.int (Int32.ofNat kn)), .val (.int (Int32.ofNat ((own_mark (own_mark (own_mark (own_mark own_q0 fa1.1) fb1.1) fc1.1) fd1.1).1.getD 0 0))), .val (.int (Int32.ofNat ((own_mark (own_mark (own_mark (own_mark own_q0 fa1.1) fb1.1) fc1.1) fd1.1).1.getD 1 0))), .val (.int (Int32.ofNat ((own_mark (own_mark (own_mark (own_mark own_q0 fa1.1) fb1.1) fc1.1) fd1.1).1.getD 2 0))), .val (.int (Int32.ofNat ((own_mark (own_mark (own_mark (own_mark own_q0 fa1.1) fb1.1) fc1.1) fd1.1).1.getD 3 0))), .val (.int (((((1 : Int32) <<< ((Int32.ofNat ((own_mark (own_mark (own_mark (own_mark own_q0 fa1.1) fb1.1) fc1.1) fd1.1).1.getD 0 0)) &&& 31)) ||| ((1 : Int32) <<< ((Int32.ofNat ((own_mark (own_mark (own_mark (own_mark own_q0 fa1.1) fb1.1) fc1.1) fd1.1).1.getD 1 0)) &&& 31))) ||| ((1 : Int32) <<< ((Int32.ofNat ((own_mark (own_mark (own_mark (own_mark own_q0 fa1.1) fb1.1) fc1.1) fd1.1).1.getD 2 0)) &&& 31))) ||| ((1 : Int32) <<< ((Int32.ofNat ((own_mark (own_mark (own_mark (own_mark own_q0 fa1.1) fb1.1) fc1.1) fd1.1).1.getD 3 0)) &&& 31)))), .val (.int (1 : Int32)), .unset] [(.int (Int32.ofNat ((own_mark (own_mark (own_mark (own_mark own_q0 fa1.1) fb1.1) fc1.1) fd1.1).1.getD 3 0)))])) _
            refine XS.aload X100.here hx rfl (hb hby at_302) rfl rfl ?_
            show Steps p.tables e below (T100.setTop (mkF m 304 #[.val (.int a1), .val (.int a2), .val (.int a3), .val (.int a4), .val (.int (Int32.ofNat fa1.1)), .val (.int (Int32.ofNat fb1.1)), .val (.int (Int32.ofNat fc1.1)), .val (.int (Int32.ofNat fd1.1)), .val (.ref ob), .val (.ref ea), .val (.int (Int32.ofNat kn)), .val (.int (Int32.ofNat ((own_mark (own_mark (own_mark (own_mark own_q0 fa1.1) fb1.1) fc1.1) fd1.1).1.getD 0 0))), .val (.int (Int32.ofNat ((own_mark (own_mark (own_mark (own_mark own_q0 fa1.1) fb1.1) fc1.1) fd1.1).1.getD 1 0))), .val (.int (Int32.ofNat ((own_mark (own_mark (own_mark (own_mark own_q0 fa1.1) fb1.1) fc1.1) fd1.1).1.getD 2 0))), .val (.int (Int32.ofNat ((own_mark (own_mark (own_mark (own_mark own_q0 fa1.1) fb1.1) fc1.1) fd1.1).1.getD 3 0))), .val (.int (((((1 : Int32) <<< ((Int32.ofNat ((own_mark (own_mark (own_mark (own_mark own_q0 fa1.1) fb1.1) fc1.1) fd1.1).1.getD 0 0)) &&& 31)) ||| ((1 : Int32) <<< ((Int32.ofNat ((own_mark (own_mark (own_mark (own_mark own_q0 fa1.1) fb1.1) fc1.1) fd1.1).1.getD 1 0)) &&& 31))) ||| ((1 : Int32) <<< ((Int32.ofNat ((own_mark (own_mark (own_mark (own_mark own_q0 fa1.1) fb1.1) fc1.1) fd1.1).1.getD 2 0)) &&& 31))) ||| ((1 : Int32) <<< ((Int32.ofNat ((own_mark (own_mark (own_mark (own_mark own_q0 fa1.1) fb1.1) fc1.1) fd1.1).1.getD 3 0)) &&& 31)))), .val (.int (1 : Int32)), .unset] [(.ref ea), (.int (Int32.ofNat ((own_mark (own_mark (own_mark (own_mark own_q0 fa1.1) fb1.1) fc1.1) fd1.1).1.getD 3 0)))])) _
            refine XS.iconst X100.here hx rfl (hb hby at_304) ?_
            show Steps p.tables e below (T100.setTop (mkF m 305 #[.val (.int a1), .val (.int a2), .val (.int a3), .val (.int a4), .val (.int (Int32.ofNat fa1.1)), .val (.int (Int32.ofNat fb1.1)), .val (.int (Int32.ofNat fc1.1)), .val (.int (Int32.ofNat fd1.1)), .val (.ref ob), .val (.ref ea), .val (.int (Int32.ofNat kn)), .val (.int (Int32.ofNat ((own_mark (own_mark (own_mark (own_mark own_q0 fa1.1) fb1.1) fc1.1) fd1.1).1.getD 0 0))), .val (.int (Int32.ofNat ((own_mark (own_mark (own_mark (own_mark own_q0 fa1.1) fb1.1) fc1.1) fd1.1).1.getD 1 0))), .val (.int (Int32.ofNat ((own_mark (own_mark (own_mark (own_mark own_q0 fa1.1) fb1.1) fc1.1) fd1.1).1.getD 2 0))), .val (.int (Int32.ofNat ((own_mark (own_mark (own_mark (own_mark own_q0 fa1.1) fb1.1) fc1.1) fd1.1).1.getD 3 0))), .val (.int (((((1 : Int32) <<< ((Int32.ofNat ((own_mark (own_mark (own_mark (own_mark own_q0 fa1.1) fb1.1) fc1.1) fd1.1).1.getD 0 0)) &&& 31)) ||| ((1 : Int32) <<< ((Int32.ofNat ((own_mark (own_mark (own_mark (own_mark own_q0 fa1.1) fb1.1) fc1.1) fd1.1).1.getD 1 0)) &&& 31))) ||| ((1 : Int32) <<< ((Int32.ofNat ((own_mark (own_mark (own_mark (own_mark own_q0 fa1.1) fb1.1) fc1.1) fd1.1).1.getD 2 0)) &&& 31))) ||| ((1 : Int32) <<< ((Int32.ofNat ((own_mark (own_mark (own_mark (own_mark own_q0 fa1.1) fb1.1) fc1.1) fd1.1).1.getD 3 0)) &&& 31)))), .val (.int (1 : Int32)), .unset] [(.int (3 : Int32)), (.ref ea), (.int (Int32.ofNat ((own_mark (own_mark (own_mark (own_mark own_q0 fa1.1) fb1.1) fc1.1) fd1.1).1.getD 3 0)))])) _
            refine ld124 _ ?_
            show Steps p.tables e below (T100.setTop (mkF m 306 #[.val (.int a1), .val (.int a2), .val (.int a3), .val (.int a4), .val (.int (Int32.ofNat fa1.1)), .val (.int (Int32.ofNat fb1.1)), .val (.int (Int32.ofNat fc1.1)), .val (.int (Int32.ofNat fd1.1)), .val (.ref ob), .val (.ref ea), .val (.int (Int32.ofNat kn)), .val (.int (Int32.ofNat ((own_mark (own_mark (own_mark (own_mark own_q0 fa1.1) fb1.1) fc1.1) fd1.1).1.getD 0 0))), .val (.int (Int32.ofNat ((own_mark (own_mark (own_mark (own_mark own_q0 fa1.1) fb1.1) fc1.1) fd1.1).1.getD 1 0))), .val (.int (Int32.ofNat ((own_mark (own_mark (own_mark (own_mark own_q0 fa1.1) fb1.1) fc1.1) fd1.1).1.getD 2 0))), .val (.int (Int32.ofNat ((own_mark (own_mark (own_mark (own_mark own_q0 fa1.1) fb1.1) fc1.1) fd1.1).1.getD 3 0))), .val (.int (((((1 : Int32) <<< ((Int32.ofNat ((own_mark (own_mark (own_mark (own_mark own_q0 fa1.1) fb1.1) fc1.1) fd1.1).1.getD 0 0)) &&& 31)) ||| ((1 : Int32) <<< ((Int32.ofNat ((own_mark (own_mark (own_mark (own_mark own_q0 fa1.1) fb1.1) fc1.1) fd1.1).1.getD 1 0)) &&& 31))) ||| ((1 : Int32) <<< ((Int32.ofNat ((own_mark (own_mark (own_mark (own_mark own_q0 fa1.1) fb1.1) fc1.1) fd1.1).1.getD 2 0)) &&& 31))) ||| ((1 : Int32) <<< ((Int32.ofNat ((own_mark (own_mark (own_mark (own_mark own_q0 fa1.1) fb1.1) fc1.1) fd1.1).1.getD 3 0)) &&& 31)))), .val (.int (1 : Int32)), .unset] [(.int (Int32.ofNat (el.getD 3 0))), (.int (Int32.ofNat ((own_mark (own_mark (own_mark (own_mark own_q0 fa1.1) fb1.1) fc1.1) fd1.1).1.getD 3 0)))])) _
            refine XS.icmpNo X100.here hx rfl (hb hby at_306) rfl (teq (congrArg Int32.ofNat (fe3.resolve_left fun w => hc297_4 ((own_ltn (by omega) (by decide)).mpr w)))).2 ?_
            show Steps p.tables e below (T100.setTop (mkF m 309 #[.val (.int a1), .val (.int a2), .val (.int a3), .val (.int a4), .val (.int (Int32.ofNat fa1.1)), .val (.int (Int32.ofNat fb1.1)), .val (.int (Int32.ofNat fc1.1)), .val (.int (Int32.ofNat fd1.1)), .val (.ref ob), .val (.ref ea), .val (.int (Int32.ofNat kn)), .val (.int (Int32.ofNat ((own_mark (own_mark (own_mark (own_mark own_q0 fa1.1) fb1.1) fc1.1) fd1.1).1.getD 0 0))), .val (.int (Int32.ofNat ((own_mark (own_mark (own_mark (own_mark own_q0 fa1.1) fb1.1) fc1.1) fd1.1).1.getD 1 0))), .val (.int (Int32.ofNat ((own_mark (own_mark (own_mark (own_mark own_q0 fa1.1) fb1.1) fc1.1) fd1.1).1.getD 2 0))), .val (.int (Int32.ofNat ((own_mark (own_mark (own_mark (own_mark own_q0 fa1.1) fb1.1) fc1.1) fd1.1).1.getD 3 0))), .val (.int (((((1 : Int32) <<< ((Int32.ofNat ((own_mark (own_mark (own_mark (own_mark own_q0 fa1.1) fb1.1) fc1.1) fd1.1).1.getD 0 0)) &&& 31)) ||| ((1 : Int32) <<< ((Int32.ofNat ((own_mark (own_mark (own_mark (own_mark own_q0 fa1.1) fb1.1) fc1.1) fd1.1).1.getD 1 0)) &&& 31))) ||| ((1 : Int32) <<< ((Int32.ofNat ((own_mark (own_mark (own_mark (own_mark own_q0 fa1.1) fb1.1) fc1.1) fd1.1).1.getD 2 0)) &&& 31))) ||| ((1 : Int32) <<< ((Int32.ofNat ((own_mark (own_mark (own_mark (own_mark own_q0 fa1.1) fb1.1) fc1.1) fd1.1).1.getD 3 0)) &&& 31)))), .val (.int (1 : Int32)), .unset] [])) _
            refine XS.iconst X100.here hx rfl (hb hby at_309) ?_
            show Steps p.tables e below (T100.setTop (mkF m 310 #[.val (.int a1), .val (.int a2), .val (.int a3), .val (.int a4), .val (.int (Int32.ofNat fa1.1)), .val (.int (Int32.ofNat fb1.1)), .val (.int (Int32.ofNat fc1.1)), .val (.int (Int32.ofNat fd1.1)), .val (.ref ob), .val (.ref ea), .val (.int (Int32.ofNat kn)), .val (.int (Int32.ofNat ((own_mark (own_mark (own_mark (own_mark own_q0 fa1.1) fb1.1) fc1.1) fd1.1).1.getD 0 0))), .val (.int (Int32.ofNat ((own_mark (own_mark (own_mark (own_mark own_q0 fa1.1) fb1.1) fc1.1) fd1.1).1.getD 1 0))), .val (.int (Int32.ofNat ((own_mark (own_mark (own_mark (own_mark own_q0 fa1.1) fb1.1) fc1.1) fd1.1).1.getD 2 0))), .val (.int (Int32.ofNat ((own_mark (own_mark (own_mark (own_mark own_q0 fa1.1) fb1.1) fc1.1) fd1.1).1.getD 3 0))), .val (.int (((((1 : Int32) <<< ((Int32.ofNat ((own_mark (own_mark (own_mark (own_mark own_q0 fa1.1) fb1.1) fc1.1) fd1.1).1.getD 0 0)) &&& 31)) ||| ((1 : Int32) <<< ((Int32.ofNat ((own_mark (own_mark (own_mark (own_mark own_q0 fa1.1) fb1.1) fc1.1) fd1.1).1.getD 1 0)) &&& 31))) ||| ((1 : Int32) <<< ((Int32.ofNat ((own_mark (own_mark (own_mark (own_mark own_q0 fa1.1) fb1.1) fc1.1) fd1.1).1.getD 2 0)) &&& 31))) ||| ((1 : Int32) <<< ((Int32.ofNat ((own_mark (own_mark (own_mark (own_mark own_q0 fa1.1) fb1.1) fc1.1) fd1.1).1.getD 3 0)) &&& 31)))), .val (.int (1 : Int32)), .unset] [(.int (1 : Int32))])) _
            refine XS.goto X100.here hx rfl (pc0 := 310) (pc' := 314) rfl (hb hby at_310) (by decide) (by decide) ?_
            exact kt
          exact ⟨T100, _, (1 : Int32), X100, eq100, N100, rfl, pre125⟩
  have hod := hp102
  obtain ⟨cq126, kq126, q126a, q126b, q126c⟩ := isOf hZ e102 E_ob
  obtain ⟨_, _, ⟨T126, L126, k126, n126⟩, -, X126, ⟨Lc126, hQ126, l126, y126, z126⟩, st126⟩ := X102.virtualBack hx (y := (⟨"com/example/wary_observer/waryobserver/equivalence/Partition", "size", "(I)I"⟩ : MethodName)) (z := (⟨"com/example/wary_observer/waryobserver/equivalence/Partition", "size", "(I)I"⟩ : MethodName)) hown (mvT hZ (hw _ (List.mem_of_getElem? (i := 42) rfl))) (mvT hZ (hw _ (List.mem_of_getElem? (i := 43) rfl))) (notFace_of_selects (args := #[]) (mvT hZ (hw _ (List.mem_of_getElem? (i := 45) rfl)))) (mvT hZ (hw _ (List.mem_of_getElem? (i := 45) rfl))) (mvT hZ (hw _ (List.mem_of_getElem? (i := 44) rfl))) (by decide) (backOf (W := 0) (own_rm6 l Z a0 hw [] ob na fa hm19 n0 Zm19 F_ends F_firsts V_na V_fa) hZ (hw _ (List.mem_of_getElem? (i := 46) rfl)) (hw _ (List.mem_of_getElem? (i := 2) rfl)) (by decide) (by decide)) q126a q126c (g := (mkF m 329 #[.val (.int a1), .val (.int a2), .val (.int a3), .val (.int a4), .val (.int (Int32.ofNat fa1.1)), .val (.int (Int32.ofNat fb1.1)), .val (.int (Int32.ofNat fc1.1)), .val (.int (Int32.ofNat fd1.1)), .val (.ref ob), .val (.ref ea), .val (.int (Int32.ofNat kn)), .val (.int (Int32.ofNat ((own_mark (own_mark (own_mark (own_mark own_q0 fa1.1) fb1.1) fc1.1) fd1.1).1.getD 0 0))), .val (.int (Int32.ofNat ((own_mark (own_mark (own_mark (own_mark own_q0 fa1.1) fb1.1) fc1.1) fd1.1).1.getD 1 0))), .val (.int (Int32.ofNat ((own_mark (own_mark (own_mark (own_mark own_q0 fa1.1) fb1.1) fc1.1) fd1.1).1.getD 2 0))), .val (.int (Int32.ofNat ((own_mark (own_mark (own_mark (own_mark own_q0 fa1.1) fb1.1) fc1.1) fd1.1).1.getD 3 0))), .val (.int (((((1 : Int32) <<< ((Int32.ofNat ((own_mark (own_mark (own_mark (own_mark own_q0 fa1.1) fb1.1) fc1.1) fd1.1).1.getD 0 0)) &&& 31)) ||| ((1 : Int32) <<< ((Int32.ofNat ((own_mark (own_mark (own_mark (own_mark own_q0 fa1.1) fb1.1) fc1.1) fd1.1).1.getD 1 0)) &&& 31))) ||| ((1 : Int32) <<< ((Int32.ofNat ((own_mark (own_mark (own_mark (own_mark own_q0 fa1.1) fb1.1) fc1.1) fd1.1).1.getD 2 0)) &&& 31))) ||| ((1 : Int32) <<< ((Int32.ofNat ((own_mark (own_mark (own_mark (own_mark own_q0 fa1.1) fb1.1) fc1.1) fd1.1).1.getD 3 0)) &&& 31)))), .val (.int (1 : Int32)), .val (.int od)] [(.int (0 : Int32)), (.ref ob)])) rfl (by rw [hml]; rfl) (Steps.refl _) (argsL := [(.int (0 : Int32))]) (rest := []) (lenOf own_pd1 rfl) rfl (by show 2 * 0 + _ ≤ _; exact Nat.le_of_eq rfl) (hb hby at_329) (fun _ _ => ⟨rfl, e102, (by decide : 9 + 0 ≤ _), (by decide : 41 + 0 ≤ _)⟩)
  dsimp only [Pt.U, Pt.locs, Pt.cells, Pt.slots] at X126 l126 y126 z126 st126 hQ126
  subst l126 y126 z126
  obtain ⟨rfl, Nq126, eq126⟩ := hQ126
  have N126 := Fr.app N102 Nq126
  obtain ⟨fs, hr, hrun, hended, hW, hsame⟩ := X126.leave (v := some (.int (1 : Int32))) (fun h => by rw [Bd.returns] at h; cases h) (BodyLoose.notSynchronized Bd)
  refine ⟨_, _, pre102 _ ?_, hrun, hended, _, _, rfl, ?_, ⟨_, rfl⟩, hW, hsame.mono (by decide) (by decide)⟩
  · skip
    show Steps p.tables e below (T102.setTop (mkF m 314 #[.val (.int a1), .val (.int a2), .val (.int a3), .val (.int a4), .val (.int (Int32.ofNat fa1.1)), .val (.int (Int32.ofNat fb1.1)), .val (.int (Int32.ofNat fc1.1)), .val (.int (Int32.ofNat fd1.1)), .val (.ref ob), .val (.ref ea), .val (.int (Int32.ofNat kn)), .val (.int (Int32.ofNat ((own_mark (own_mark (own_mark (own_mark own_q0 fa1.1) fb1.1) fc1.1) fd1.1).1.getD 0 0))), .val (.int (Int32.ofNat ((own_mark (own_mark (own_mark (own_mark own_q0 fa1.1) fb1.1) fc1.1) fd1.1).1.getD 1 0))), .val (.int (Int32.ofNat ((own_mark (own_mark (own_mark (own_mark own_q0 fa1.1) fb1.1) fc1.1) fd1.1).1.getD 2 0))), .val (.int (Int32.ofNat ((own_mark (own_mark (own_mark (own_mark own_q0 fa1.1) fb1.1) fc1.1) fd1.1).1.getD 3 0))), .val (.int (((((1 : Int32) <<< ((Int32.ofNat ((own_mark (own_mark (own_mark (own_mark own_q0 fa1.1) fb1.1) fc1.1) fd1.1).1.getD 0 0)) &&& 31)) ||| ((1 : Int32) <<< ((Int32.ofNat ((own_mark (own_mark (own_mark (own_mark own_q0 fa1.1) fb1.1) fc1.1) fd1.1).1.getD 1 0)) &&& 31))) ||| ((1 : Int32) <<< ((Int32.ofNat ((own_mark (own_mark (own_mark (own_mark own_q0 fa1.1) fb1.1) fc1.1) fd1.1).1.getD 2 0)) &&& 31))) ||| ((1 : Int32) <<< ((Int32.ofNat ((own_mark (own_mark (own_mark (own_mark own_q0 fa1.1) fb1.1) fc1.1) fd1.1).1.getD 3 0)) &&& 31)))), .val (.int (1 : Int32)), .unset] [(.int od)])) _
    refine XS.istore X102.here hx rfl (hb hby at_314) rfl (l' := #[.val (.int a1), .val (.int a2), .val (.int a3), .val (.int a4), .val (.int (Int32.ofNat fa1.1)), .val (.int (Int32.ofNat fb1.1)), .val (.int (Int32.ofNat fc1.1)), .val (.int (Int32.ofNat fd1.1)), .val (.ref ob), .val (.ref ea), .val (.int (Int32.ofNat kn)), .val (.int (Int32.ofNat ((own_mark (own_mark (own_mark (own_mark own_q0 fa1.1) fb1.1) fc1.1) fd1.1).1.getD 0 0))), .val (.int (Int32.ofNat ((own_mark (own_mark (own_mark (own_mark own_q0 fa1.1) fb1.1) fc1.1) fd1.1).1.getD 1 0))), .val (.int (Int32.ofNat ((own_mark (own_mark (own_mark (own_mark own_q0 fa1.1) fb1.1) fc1.1) fd1.1).1.getD 2 0))), .val (.int (Int32.ofNat ((own_mark (own_mark (own_mark (own_mark own_q0 fa1.1) fb1.1) fc1.1) fd1.1).1.getD 3 0))), .val (.int (((((1 : Int32) <<< ((Int32.ofNat ((own_mark (own_mark (own_mark (own_mark own_q0 fa1.1) fb1.1) fc1.1) fd1.1).1.getD 0 0)) &&& 31)) ||| ((1 : Int32) <<< ((Int32.ofNat ((own_mark (own_mark (own_mark (own_mark own_q0 fa1.1) fb1.1) fc1.1) fd1.1).1.getD 1 0)) &&& 31))) ||| ((1 : Int32) <<< ((Int32.ofNat ((own_mark (own_mark (own_mark (own_mark own_q0 fa1.1) fb1.1) fc1.1) fd1.1).1.getD 2 0)) &&& 31))) ||| ((1 : Int32) <<< ((Int32.ofNat ((own_mark (own_mark (own_mark (own_mark own_q0 fa1.1) fb1.1) fc1.1) fd1.1).1.getD 3 0)) &&& 31)))), .val (.int (1 : Int32)), .val (.int od)]) rfl ?_
    show Steps p.tables e below (T102.setTop (mkF m 316 #[.val (.int a1), .val (.int a2), .val (.int a3), .val (.int a4), .val (.int (Int32.ofNat fa1.1)), .val (.int (Int32.ofNat fb1.1)), .val (.int (Int32.ofNat fc1.1)), .val (.int (Int32.ofNat fd1.1)), .val (.ref ob), .val (.ref ea), .val (.int (Int32.ofNat kn)), .val (.int (Int32.ofNat ((own_mark (own_mark (own_mark (own_mark own_q0 fa1.1) fb1.1) fc1.1) fd1.1).1.getD 0 0))), .val (.int (Int32.ofNat ((own_mark (own_mark (own_mark (own_mark own_q0 fa1.1) fb1.1) fc1.1) fd1.1).1.getD 1 0))), .val (.int (Int32.ofNat ((own_mark (own_mark (own_mark (own_mark own_q0 fa1.1) fb1.1) fc1.1) fd1.1).1.getD 2 0))), .val (.int (Int32.ofNat ((own_mark (own_mark (own_mark (own_mark own_q0 fa1.1) fb1.1) fc1.1) fd1.1).1.getD 3 0))), .val (.int (((((1 : Int32) <<< ((Int32.ofNat ((own_mark (own_mark (own_mark (own_mark own_q0 fa1.1) fb1.1) fc1.1) fd1.1).1.getD 0 0)) &&& 31)) ||| ((1 : Int32) <<< ((Int32.ofNat ((own_mark (own_mark (own_mark (own_mark own_q0 fa1.1) fb1.1) fc1.1) fd1.1).1.getD 1 0)) &&& 31))) ||| ((1 : Int32) <<< ((Int32.ofNat ((own_mark (own_mark (own_mark (own_mark own_q0 fa1.1) fb1.1) fc1.1) fd1.1).1.getD 2 0)) &&& 31))) ||| ((1 : Int32) <<< ((Int32.ofNat ((own_mark (own_mark (own_mark (own_mark own_q0 fa1.1) fb1.1) fc1.1) fd1.1).1.getD 3 0)) &&& 31)))), .val (.int (1 : Int32)), .val (.int od)] [])) _
    refine XS.iload X102.here hx rfl (hb hby at_316) rfl ?_
    show Steps p.tables e below (T102.setTop (mkF m 318 #[.val (.int a1), .val (.int a2), .val (.int a3), .val (.int a4), .val (.int (Int32.ofNat fa1.1)), .val (.int (Int32.ofNat fb1.1)), .val (.int (Int32.ofNat fc1.1)), .val (.int (Int32.ofNat fd1.1)), .val (.ref ob), .val (.ref ea), .val (.int (Int32.ofNat kn)), .val (.int (Int32.ofNat ((own_mark (own_mark (own_mark (own_mark own_q0 fa1.1) fb1.1) fc1.1) fd1.1).1.getD 0 0))), .val (.int (Int32.ofNat ((own_mark (own_mark (own_mark (own_mark own_q0 fa1.1) fb1.1) fc1.1) fd1.1).1.getD 1 0))), .val (.int (Int32.ofNat ((own_mark (own_mark (own_mark (own_mark own_q0 fa1.1) fb1.1) fc1.1) fd1.1).1.getD 2 0))), .val (.int (Int32.ofNat ((own_mark (own_mark (own_mark (own_mark own_q0 fa1.1) fb1.1) fc1.1) fd1.1).1.getD 3 0))), .val (.int (((((1 : Int32) <<< ((Int32.ofNat ((own_mark (own_mark (own_mark (own_mark own_q0 fa1.1) fb1.1) fc1.1) fd1.1).1.getD 0 0)) &&& 31)) ||| ((1 : Int32) <<< ((Int32.ofNat ((own_mark (own_mark (own_mark (own_mark own_q0 fa1.1) fb1.1) fc1.1) fd1.1).1.getD 1 0)) &&& 31))) ||| ((1 : Int32) <<< ((Int32.ofNat ((own_mark (own_mark (own_mark (own_mark own_q0 fa1.1) fb1.1) fc1.1) fd1.1).1.getD 2 0)) &&& 31))) ||| ((1 : Int32) <<< ((Int32.ofNat ((own_mark (own_mark (own_mark (own_mark own_q0 fa1.1) fb1.1) fc1.1) fd1.1).1.getD 3 0)) &&& 31)))), .val (.int (1 : Int32)), .val (.int od)] [(.int (1 : Int32))])) _
    refine XS.ifNo X102.here hx rfl (hb hby at_318) rfl ((if0 _ _).trans (feq (by decide)).1) ?_
    show Steps p.tables e below (T102.setTop (mkF m 321 #[.val (.int a1), .val (.int a2), .val (.int a3), .val (.int a4), .val (.int (Int32.ofNat fa1.1)), .val (.int (Int32.ofNat fb1.1)), .val (.int (Int32.ofNat fc1.1)), .val (.int (Int32.ofNat fd1.1)), .val (.ref ob), .val (.ref ea), .val (.int (Int32.ofNat kn)), .val (.int (Int32.ofNat ((own_mark (own_mark (own_mark (own_mark own_q0 fa1.1) fb1.1) fc1.1) fd1.1).1.getD 0 0))), .val (.int (Int32.ofNat ((own_mark (own_mark (own_mark (own_mark own_q0 fa1.1) fb1.1) fc1.1) fd1.1).1.getD 1 0))), .val (.int (Int32.ofNat ((own_mark (own_mark (own_mark (own_mark own_q0 fa1.1) fb1.1) fc1.1) fd1.1).1.getD 2 0))), .val (.int (Int32.ofNat ((own_mark (own_mark (own_mark (own_mark own_q0 fa1.1) fb1.1) fc1.1) fd1.1).1.getD 3 0))), .val (.int (((((1 : Int32) <<< ((Int32.ofNat ((own_mark (own_mark (own_mark (own_mark own_q0 fa1.1) fb1.1) fc1.1) fd1.1).1.getD 0 0)) &&& 31)) ||| ((1 : Int32) <<< ((Int32.ofNat ((own_mark (own_mark (own_mark (own_mark own_q0 fa1.1) fb1.1) fc1.1) fd1.1).1.getD 1 0)) &&& 31))) ||| ((1 : Int32) <<< ((Int32.ofNat ((own_mark (own_mark (own_mark (own_mark own_q0 fa1.1) fb1.1) fc1.1) fd1.1).1.getD 2 0)) &&& 31))) ||| ((1 : Int32) <<< ((Int32.ofNat ((own_mark (own_mark (own_mark (own_mark own_q0 fa1.1) fb1.1) fc1.1) fd1.1).1.getD 3 0)) &&& 31)))), .val (.int (1 : Int32)), .val (.int od)] [])) _
    refine XS.iload X102.here hx rfl (hb hby at_321) rfl ?_
    show Steps p.tables e below (T102.setTop (mkF m 323 #[.val (.int a1), .val (.int a2), .val (.int a3), .val (.int a4), .val (.int (Int32.ofNat fa1.1)), .val (.int (Int32.ofNat fb1.1)), .val (.int (Int32.ofNat fc1.1)), .val (.int (Int32.ofNat fd1.1)), .val (.ref ob), .val (.ref ea), .val (.int (Int32.ofNat kn)), .val (.int (Int32.ofNat ((own_mark (own_mark (own_mark (own_mark own_q0 fa1.1) fb1.1) fc1.1) fd1.1).1.getD 0 0))), .val (.int (Int32.ofNat ((own_mark (own_mark (own_mark (own_mark own_q0 fa1.1) fb1.1) fc1.1) fd1.1).1.getD 1 0))), .val (.int (Int32.ofNat ((own_mark (own_mark (own_mark (own_mark own_q0 fa1.1) fb1.1) fc1.1) fd1.1).1.getD 2 0))), .val (.int (Int32.ofNat ((own_mark (own_mark (own_mark (own_mark own_q0 fa1.1) fb1.1) fc1.1) fd1.1).1.getD 3 0))), .val (.int (((((1 : Int32) <<< ((Int32.ofNat ((own_mark (own_mark (own_mark (own_mark own_q0 fa1.1) fb1.1) fc1.1) fd1.1).1.getD 0 0)) &&& 31)) ||| ((1 : Int32) <<< ((Int32.ofNat ((own_mark (own_mark (own_mark (own_mark own_q0 fa1.1) fb1.1) fc1.1) fd1.1).1.getD 1 0)) &&& 31))) ||| ((1 : Int32) <<< ((Int32.ofNat ((own_mark (own_mark (own_mark (own_mark own_q0 fa1.1) fb1.1) fc1.1) fd1.1).1.getD 2 0)) &&& 31))) ||| ((1 : Int32) <<< ((Int32.ofNat ((own_mark (own_mark (own_mark (own_mark own_q0 fa1.1) fb1.1) fc1.1) fd1.1).1.getD 3 0)) &&& 31)))), .val (.int (1 : Int32)), .val (.int od)] [(.int od)])) _
    refine XS.ifNo X102.here hx rfl (hb hby at_323) rfl ((if0 _ _).trans (feq (by rw [hod]; decide)).1) ?_
    show Steps p.tables e below (T102.setTop (mkF m 326 #[.val (.int a1), .val (.int a2), .val (.int a3), .val (.int a4), .val (.int (Int32.ofNat fa1.1)), .val (.int (Int32.ofNat fb1.1)), .val (.int (Int32.ofNat fc1.1)), .val (.int (Int32.ofNat fd1.1)), .val (.ref ob), .val (.ref ea), .val (.int (Int32.ofNat kn)), .val (.int (Int32.ofNat ((own_mark (own_mark (own_mark (own_mark own_q0 fa1.1) fb1.1) fc1.1) fd1.1).1.getD 0 0))), .val (.int (Int32.ofNat ((own_mark (own_mark (own_mark (own_mark own_q0 fa1.1) fb1.1) fc1.1) fd1.1).1.getD 1 0))), .val (.int (Int32.ofNat ((own_mark (own_mark (own_mark (own_mark own_q0 fa1.1) fb1.1) fc1.1) fd1.1).1.getD 2 0))), .val (.int (Int32.ofNat ((own_mark (own_mark (own_mark (own_mark own_q0 fa1.1) fb1.1) fc1.1) fd1.1).1.getD 3 0))), .val (.int (((((1 : Int32) <<< ((Int32.ofNat ((own_mark (own_mark (own_mark (own_mark own_q0 fa1.1) fb1.1) fc1.1) fd1.1).1.getD 0 0)) &&& 31)) ||| ((1 : Int32) <<< ((Int32.ofNat ((own_mark (own_mark (own_mark (own_mark own_q0 fa1.1) fb1.1) fc1.1) fd1.1).1.getD 1 0)) &&& 31))) ||| ((1 : Int32) <<< ((Int32.ofNat ((own_mark (own_mark (own_mark (own_mark own_q0 fa1.1) fb1.1) fc1.1) fd1.1).1.getD 2 0)) &&& 31))) ||| ((1 : Int32) <<< ((Int32.ofNat ((own_mark (own_mark (own_mark (own_mark own_q0 fa1.1) fb1.1) fc1.1) fd1.1).1.getD 3 0)) &&& 31)))), .val (.int (1 : Int32)), .val (.int od)] [])) _
    refine XS.aload X102.here hx rfl (hb hby at_326) rfl rfl ?_
    show Steps p.tables e below (T102.setTop (mkF m 328 #[.val (.int a1), .val (.int a2), .val (.int a3), .val (.int a4), .val (.int (Int32.ofNat fa1.1)), .val (.int (Int32.ofNat fb1.1)), .val (.int (Int32.ofNat fc1.1)), .val (.int (Int32.ofNat fd1.1)), .val (.ref ob), .val (.ref ea), .val (.int (Int32.ofNat kn)), .val (.int (Int32.ofNat ((own_mark (own_mark (own_mark (own_mark own_q0 fa1.1) fb1.1) fc1.1) fd1.1).1.getD 0 0))), .val (.int (Int32.ofNat ((own_mark (own_mark (own_mark (own_mark own_q0 fa1.1) fb1.1) fc1.1) fd1.1).1.getD 1 0))), .val (.int (Int32.ofNat ((own_mark (own_mark (own_mark (own_mark own_q0 fa1.1) fb1.1) fc1.1) fd1.1).1.getD 2 0))), .val (.int (Int32.ofNat ((own_mark (own_mark (own_mark (own_mark own_q0 fa1.1) fb1.1) fc1.1) fd1.1).1.getD 3 0))), .val (.int (((((1 : Int32) <<< ((Int32.ofNat ((own_mark (own_mark (own_mark (own_mark own_q0 fa1.1) fb1.1) fc1.1) fd1.1).1.getD 0 0)) &&& 31)) ||| ((1 : Int32) <<< ((Int32.ofNat ((own_mark (own_mark (own_mark (own_mark own_q0 fa1.1) fb1.1) fc1.1) fd1.1).1.getD 1 0)) &&& 31))) ||| ((1 : Int32) <<< ((Int32.ofNat ((own_mark (own_mark (own_mark (own_mark own_q0 fa1.1) fb1.1) fc1.1) fd1.1).1.getD 2 0)) &&& 31))) ||| ((1 : Int32) <<< ((Int32.ofNat ((own_mark (own_mark (own_mark (own_mark own_q0 fa1.1) fb1.1) fc1.1) fd1.1).1.getD 3 0)) &&& 31)))), .val (.int (1 : Int32)), .val (.int od)] [(.ref ob)])) _
    refine XS.iconst X102.here hx rfl (hb hby at_328) ?_
    show Steps p.tables e below (T102.setTop (mkF m 329 #[.val (.int a1), .val (.int a2), .val (.int a3), .val (.int a4), .val (.int (Int32.ofNat fa1.1)), .val (.int (Int32.ofNat fb1.1)), .val (.int (Int32.ofNat fc1.1)), .val (.int (Int32.ofNat fd1.1)), .val (.ref ob), .val (.ref ea), .val (.int (Int32.ofNat kn)), .val (.int (Int32.ofNat ((own_mark (own_mark (own_mark (own_mark own_q0 fa1.1) fb1.1) fc1.1) fd1.1).1.getD 0 0))), .val (.int (Int32.ofNat ((own_mark (own_mark (own_mark (own_mark own_q0 fa1.1) fb1.1) fc1.1) fd1.1).1.getD 1 0))), .val (.int (Int32.ofNat ((own_mark (own_mark (own_mark (own_mark own_q0 fa1.1) fb1.1) fc1.1) fd1.1).1.getD 2 0))), .val (.int (Int32.ofNat ((own_mark (own_mark (own_mark (own_mark own_q0 fa1.1) fb1.1) fc1.1) fd1.1).1.getD 3 0))), .val (.int (((((1 : Int32) <<< ((Int32.ofNat ((own_mark (own_mark (own_mark (own_mark own_q0 fa1.1) fb1.1) fc1.1) fd1.1).1.getD 0 0)) &&& 31)) ||| ((1 : Int32) <<< ((Int32.ofNat ((own_mark (own_mark (own_mark (own_mark own_q0 fa1.1) fb1.1) fc1.1) fd1.1).1.getD 1 0)) &&& 31))) ||| ((1 : Int32) <<< ((Int32.ofNat ((own_mark (own_mark (own_mark (own_mark own_q0 fa1.1) fb1.1) fc1.1) fd1.1).1.getD 2 0)) &&& 31))) ||| ((1 : Int32) <<< ((Int32.ofNat ((own_mark (own_mark (own_mark (own_mark own_q0 fa1.1) fb1.1) fc1.1) fd1.1).1.getD 3 0)) &&& 31)))), .val (.int (1 : Int32)), .val (.int od)] [(.int (0 : Int32)), (.ref ob)])) _
    refine st126.trans ?_
    show Steps p.tables e below (T126.setTop (mkF m 332 #[.val (.int a1), .val (.int a2), .val (.int a3), .val (.int a4), .val (.int (Int32.ofNat fa1.1)), .val (.int (Int32.ofNat fb1.1)), .val (.int (Int32.ofNat fc1.1)), .val (.int (Int32.ofNat fd1.1)), .val (.ref ob), .val (.ref ea), .val (.int (Int32.ofNat kn)), .val (.int (Int32.ofNat ((own_mark (own_mark (own_mark (own_mark own_q0 fa1.1) fb1.1) fc1.1) fd1.1).1.getD 0 0))), .val (.int (Int32.ofNat ((own_mark (own_mark (own_mark (own_mark own_q0 fa1.1) fb1.1) fc1.1) fd1.1).1.getD 1 0))), .val (.int (Int32.ofNat ((own_mark (own_mark (own_mark (own_mark own_q0 fa1.1) fb1.1) fc1.1) fd1.1).1.getD 2 0))), .val (.int (Int32.ofNat ((own_mark (own_mark (own_mark (own_mark own_q0 fa1.1) fb1.1) fc1.1) fd1.1).1.getD 3 0))), .val (.int (((((1 : Int32) <<< ((Int32.ofNat ((own_mark (own_mark (own_mark (own_mark own_q0 fa1.1) fb1.1) fc1.1) fd1.1).1.getD 0 0)) &&& 31)) ||| ((1 : Int32) <<< ((Int32.ofNat ((own_mark (own_mark (own_mark (own_mark own_q0 fa1.1) fb1.1) fc1.1) fd1.1).1.getD 1 0)) &&& 31))) ||| ((1 : Int32) <<< ((Int32.ofNat ((own_mark (own_mark (own_mark (own_mark own_q0 fa1.1) fb1.1) fc1.1) fd1.1).1.getD 2 0)) &&& 31))) ||| ((1 : Int32) <<< ((Int32.ofNat ((own_mark (own_mark (own_mark (own_mark own_q0 fa1.1) fb1.1) fc1.1) fd1.1).1.getD 3 0)) &&& 31)))), .val (.int (1 : Int32)), .val (.int od)] [(.int (4 : Int32))])) _
    refine XS.iconst X126.here hx rfl (hb hby at_332) ?_
    show Steps p.tables e below (T126.setTop (mkF m 333 #[.val (.int a1), .val (.int a2), .val (.int a3), .val (.int a4), .val (.int (Int32.ofNat fa1.1)), .val (.int (Int32.ofNat fb1.1)), .val (.int (Int32.ofNat fc1.1)), .val (.int (Int32.ofNat fd1.1)), .val (.ref ob), .val (.ref ea), .val (.int (Int32.ofNat kn)), .val (.int (Int32.ofNat ((own_mark (own_mark (own_mark (own_mark own_q0 fa1.1) fb1.1) fc1.1) fd1.1).1.getD 0 0))), .val (.int (Int32.ofNat ((own_mark (own_mark (own_mark (own_mark own_q0 fa1.1) fb1.1) fc1.1) fd1.1).1.getD 1 0))), .val (.int (Int32.ofNat ((own_mark (own_mark (own_mark (own_mark own_q0 fa1.1) fb1.1) fc1.1) fd1.1).1.getD 2 0))), .val (.int (Int32.ofNat ((own_mark (own_mark (own_mark (own_mark own_q0 fa1.1) fb1.1) fc1.1) fd1.1).1.getD 3 0))), .val (.int (((((1 : Int32) <<< ((Int32.ofNat ((own_mark (own_mark (own_mark (own_mark own_q0 fa1.1) fb1.1) fc1.1) fd1.1).1.getD 0 0)) &&& 31)) ||| ((1 : Int32) <<< ((Int32.ofNat ((own_mark (own_mark (own_mark (own_mark own_q0 fa1.1) fb1.1) fc1.1) fd1.1).1.getD 1 0)) &&& 31))) ||| ((1 : Int32) <<< ((Int32.ofNat ((own_mark (own_mark (own_mark (own_mark own_q0 fa1.1) fb1.1) fc1.1) fd1.1).1.getD 2 0)) &&& 31))) ||| ((1 : Int32) <<< ((Int32.ofNat ((own_mark (own_mark (own_mark (own_mark own_q0 fa1.1) fb1.1) fc1.1) fd1.1).1.getD 3 0)) &&& 31)))), .val (.int (1 : Int32)), .val (.int od)] [(.int (4 : Int32)), (.int (4 : Int32))])) _
    refine XS.icmpNo X126.here hx rfl (hb hby at_333) rfl (teq rfl).2 ?_
    show Steps p.tables e below (T126.setTop (mkF m 336 #[.val (.int a1), .val (.int a2), .val (.int a3), .val (.int a4), .val (.int (Int32.ofNat fa1.1)), .val (.int (Int32.ofNat fb1.1)), .val (.int (Int32.ofNat fc1.1)), .val (.int (Int32.ofNat fd1.1)), .val (.ref ob), .val (.ref ea), .val (.int (Int32.ofNat kn)), .val (.int (Int32.ofNat ((own_mark (own_mark (own_mark (own_mark own_q0 fa1.1) fb1.1) fc1.1) fd1.1).1.getD 0 0))), .val (.int (Int32.ofNat ((own_mark (own_mark (own_mark (own_mark own_q0 fa1.1) fb1.1) fc1.1) fd1.1).1.getD 1 0))), .val (.int (Int32.ofNat ((own_mark (own_mark (own_mark (own_mark own_q0 fa1.1) fb1.1) fc1.1) fd1.1).1.getD 2 0))), .val (.int (Int32.ofNat ((own_mark (own_mark (own_mark (own_mark own_q0 fa1.1) fb1.1) fc1.1) fd1.1).1.getD 3 0))), .val (.int (((((1 : Int32) <<< ((Int32.ofNat ((own_mark (own_mark (own_mark (own_mark own_q0 fa1.1) fb1.1) fc1.1) fd1.1).1.getD 0 0)) &&& 31)) ||| ((1 : Int32) <<< ((Int32.ofNat ((own_mark (own_mark (own_mark (own_mark own_q0 fa1.1) fb1.1) fc1.1) fd1.1).1.getD 1 0)) &&& 31))) ||| ((1 : Int32) <<< ((Int32.ofNat ((own_mark (own_mark (own_mark (own_mark own_q0 fa1.1) fb1.1) fc1.1) fd1.1).1.getD 2 0)) &&& 31))) ||| ((1 : Int32) <<< ((Int32.ofNat ((own_mark (own_mark (own_mark (own_mark own_q0 fa1.1) fb1.1) fc1.1) fd1.1).1.getD 3 0)) &&& 31)))), .val (.int (1 : Int32)), .val (.int od)] [])) _
    refine XS.iconst X126.here hx rfl (hb hby at_336) ?_
    show Steps p.tables e below (T126.setTop (mkF m 337 #[.val (.int a1), .val (.int a2), .val (.int a3), .val (.int a4), .val (.int (Int32.ofNat fa1.1)), .val (.int (Int32.ofNat fb1.1)), .val (.int (Int32.ofNat fc1.1)), .val (.int (Int32.ofNat fd1.1)), .val (.ref ob), .val (.ref ea), .val (.int (Int32.ofNat kn)), .val (.int (Int32.ofNat ((own_mark (own_mark (own_mark (own_mark own_q0 fa1.1) fb1.1) fc1.1) fd1.1).1.getD 0 0))), .val (.int (Int32.ofNat ((own_mark (own_mark (own_mark (own_mark own_q0 fa1.1) fb1.1) fc1.1) fd1.1).1.getD 1 0))), .val (.int (Int32.ofNat ((own_mark (own_mark (own_mark (own_mark own_q0 fa1.1) fb1.1) fc1.1) fd1.1).1.getD 2 0))), .val (.int (Int32.ofNat ((own_mark (own_mark (own_mark (own_mark own_q0 fa1.1) fb1.1) fc1.1) fd1.1).1.getD 3 0))), .val (.int (((((1 : Int32) <<< ((Int32.ofNat ((own_mark (own_mark (own_mark (own_mark own_q0 fa1.1) fb1.1) fc1.1) fd1.1).1.getD 0 0)) &&& 31)) ||| ((1 : Int32) <<< ((Int32.ofNat ((own_mark (own_mark (own_mark (own_mark own_q0 fa1.1) fb1.1) fc1.1) fd1.1).1.getD 1 0)) &&& 31))) ||| ((1 : Int32) <<< ((Int32.ofNat ((own_mark (own_mark (own_mark (own_mark own_q0 fa1.1) fb1.1) fc1.1) fd1.1).1.getD 2 0)) &&& 31))) ||| ((1 : Int32) <<< ((Int32.ofNat ((own_mark (own_mark (own_mark (own_mark own_q0 fa1.1) fb1.1) fc1.1) fd1.1).1.getD 3 0)) &&& 31)))), .val (.int (1 : Int32)), .val (.int od)] [(.int (1 : Int32))])) _
    refine XS.goto X126.here hx rfl (pc0 := 337) (pc' := 341) rfl (hb hby at_337) (by decide) (by decide) ?_
    show Steps p.tables e below (T126.setTop (mkF m 341 #[.val (.int a1), .val (.int a2), .val (.int a3), .val (.int a4), .val (.int (Int32.ofNat fa1.1)), .val (.int (Int32.ofNat fb1.1)), .val (.int (Int32.ofNat fc1.1)), .val (.int (Int32.ofNat fd1.1)), .val (.ref ob), .val (.ref ea), .val (.int (Int32.ofNat kn)), .val (.int (Int32.ofNat ((own_mark (own_mark (own_mark (own_mark own_q0 fa1.1) fb1.1) fc1.1) fd1.1).1.getD 0 0))), .val (.int (Int32.ofNat ((own_mark (own_mark (own_mark (own_mark own_q0 fa1.1) fb1.1) fc1.1) fd1.1).1.getD 1 0))), .val (.int (Int32.ofNat ((own_mark (own_mark (own_mark (own_mark own_q0 fa1.1) fb1.1) fc1.1) fd1.1).1.getD 2 0))), .val (.int (Int32.ofNat ((own_mark (own_mark (own_mark (own_mark own_q0 fa1.1) fb1.1) fc1.1) fd1.1).1.getD 3 0))), .val (.int (((((1 : Int32) <<< ((Int32.ofNat ((own_mark (own_mark (own_mark (own_mark own_q0 fa1.1) fb1.1) fc1.1) fd1.1).1.getD 0 0)) &&& 31)) ||| ((1 : Int32) <<< ((Int32.ofNat ((own_mark (own_mark (own_mark (own_mark own_q0 fa1.1) fb1.1) fc1.1) fd1.1).1.getD 1 0)) &&& 31))) ||| ((1 : Int32) <<< ((Int32.ofNat ((own_mark (own_mark (own_mark (own_mark own_q0 fa1.1) fb1.1) fc1.1) fd1.1).1.getD 2 0)) &&& 31))) ||| ((1 : Int32) <<< ((Int32.ofNat ((own_mark (own_mark (own_mark (own_mark own_q0 fa1.1) fb1.1) fc1.1) fd1.1).1.getD 3 0)) &&& 31)))), .val (.int (1 : Int32)), .val (.int od)] [(.int (1 : Int32))])) _
    exact retN X126 hx (t := .boolean) Bd.returns (by simp) (hb hby at_341) hr
  · show own_Q0 Z a1 a2 a3 a4 h0 n0 _ T126.heap _
    rw [eq126]
    exact ⟨rfl, N126⟩
set_option maxRecDepth 65536 in
set_option maxHeartbeats 40000000 in
theorem own_comes {Post : Tables → Env → Array Value → State → Outcome → State → Prop} (hpost : ∀ tb e args s v u, (limb_1_1.after args s (.returned v) u = true ∧ limb_1_2.after args s (.returned v) u = true ∧ True) → FrameEnd s (.returned v) u (Jvm.fieldLocs frame_1_writes args s ++ Jvm.arrayLocs frame_1_arrays args s ++ Jvm.staticLocs frame_1_statics s) 32 192 → Post tb e args s (.returned v) u) :
    ArmFor flags0 classFile x code maxLocals ret World_1 tables_1 room_1 Calls_1 rest_1 Pre_1 Post := by
  intro l hfl _ _ p e ha hc hk s m args below hf hA hF happ hP
  obtain ⟨hcalls, hrest, hpre⟩ := hP
  obtain ⟨-, -, -, hnamed, -, -, -, hat⟩ := (Spec.applies_iff hf).mp happ
  obtain ⟨hg, hn⟩ := and_e (Cond.before_iff.mp (show (Jvm.Cond.and given_1 narrow_1).before args s = true from hpre))
  obtain ⟨gc, ga0⟩ := and_e hg
  obtain ⟨gv0, ga1⟩ := and_e ga0
  obtain ⟨gv1, ga2⟩ := and_e ga1
  obtain ⟨gv2, ga3⟩ := and_e ga2
  obtain ⟨w0, w1, w2, w3, rfl⟩ : ∃ w0 w1 w2 w3 : Value, args = #[w0, w1, w2, w3] := by
    have hs : args.size = 4 := by simpa [Cond.value, given_1] using gc
    obtain ⟨L⟩ := args
    match L, hs with
    | [w0, w1, w2, w3], _ => exact ⟨w0, w1, w2, w3, rfl⟩
  have hw := fun d (hd : d ∈ tables_1) => atoms_spec (ws := Jvm.Cond.code x code maxLocals ret :: tables_1) hat d (List.mem_cons_of_mem _ hd)
  obtain ⟨i0, ei0⟩ := is_v gv0
  obtain rfl : w0 = (.int i0) := Option.some.inj ei0
  obtain ⟨i1, ei1⟩ := is_v gv1
  obtain rfl : w1 = (.int i1) := Option.some.inj ei1
  obtain ⟨i2, ei2⟩ := is_v gv2
  obtain rfl : w2 = (.int i2) := Option.some.inj ei2
  obtain ⟨i3, ei3⟩ := is_v ga3
  obtain rfl : w3 = (.int i3) := Option.some.inj ei3
  obtain ⟨n, o, h1, h2, h3, _, L, rfl, ⟨rfl, N⟩, hq⟩ := own_rm0 l s _ hw tables_1 i0 i1 i2 i3 s.heap s.heap.size (Nat.le_refl _) p e ha hc hk s m _ below hf ((Spec.applies_iff_loose hf).mp happ).1 ⟨rfl, State.Warmed39.refl s, rfl⟩ trivial
  refine ⟨n, _, h1, h2, h3, hpost _ _ _ _ _ _ ⟨Cond.after_iff.mpr rfl, Cond.after_iff.mpr (eq_i res_at (Term.int_eval (1)) rfl), trivial⟩ ⟨hq.1, hq.2.1, (hq.2.2.sift fun y hy => Or.inr (N y hy)).mono (by decide) (by decide)⟩⟩
theorem main_1_1 : Claimed_1_1 := own_comes fun _ _ _ _ _ _ h hF => ⟨h.1, hF⟩
theorem main_1_2 : Claimed_1_2 := own_comes fun _ _ _ _ _ _ h hF => ⟨h.2.1, hF⟩
end Jvm.Pilot.@@N@@
namespace Jvm.Pilot.@@N@@
open Jvm Jvm.ClassFile Sem Op Lib Jvm.Free Jvm.Stand Jvm.Pilot.@@N@@.Jvm.D
/-! MADE BY PROGRAM (witnessworld.py) out of the Statement's table words and the real class files: 9 classes; the members and pool entries that the words name. The judged class is class 1, her method 2. -/
namespace start1
open Jvm.ClassFile
def u (s : String) : CpInfo := .utf8 (stringToUtf16 s)
/-- a pool by its gaps: so many unusable entries, then the entry; so many at the end -/
def gap : Nat → List CpInfo → List CpInfo
  | 0, r => r
  | n + 1, r => .unusable :: gap n r
def poolList (es : List (Nat × CpInfo)) (last : Nat) : List CpInfo := es.foldr (fun e r => gap e.1 (e.2 :: r)) (gap last [])
def pool (es : List (Nat × CpInfo)) (last : Nat) : Array CpInfo := ⟨poolList es last⟩
def fileOf (pool : Array CpInfo) (this : Nat) (attrs : Array Attribute := #[]) (ms : Array MethodInfo := #[]) (fl : Nat := 33) (sup : Nat := 0) (ifs : Array Nat := #[]) (fds : Array FieldInfo := #[]) : ClassFile where
  minorVersion := 0
  majorVersion := 65
  constantPool := pool
  accessFlags := fl
  thisClass := this
  superClass := sup
  interfaces := ifs
  fields := fds
  methods := ms
  attributes := attrs
def plain (name : String) (sup : Option ClassId) : Class where
  name := name
  kind := .ordinary
  loader := none
  accessFlags := 33
  super := sup
  interfaces := #[]
  cf := none
  fields := #[]
  methods := #[]
  instanceTypes := #[]
  staticTypes := #[]
  resolved := #[]
  callSites := []
  init := .initialized
  statics := none
  mirror := none

def pool0 : Array CpInfo := pool [(5, u "<init>"), (0, u "()V"), (1, .class_ 10), (1, u "java/lang/Object")] 113

def k0c0 : Code := { maxStack := 0, maxLocals := 1, code := object_method_1_code, exceptionTable := #[], attributes := #[] }
def k0m0 : Method := { name := "<init>", desc := "()V", sig := { parameters := [], returnType := none }, accessFlags := 1, code := some k0c0 }
/-- java/lang/Object -/
def k0 : Class := { plain "java/lang/Object" none with
  accessFlags := 33
  interfaces := #[]
  cf := some (fileOf pool0 8 #[] #[{ accessFlags := 1, nameIndex := 5, descriptorIndex := 6, attributes := #[] }] 33 0 #[] #[])
  fields := #[]
  methods := #[k0m0]
  instanceTypes := #[]
  staticTypes := #[]
  resolved := Array.replicate 124 none
  statics := none }

def pool1 : Array CpInfo := pool [(2, .class_ 4), (1, u "java/lang/Object"), (0, u "<init>"), (0, u "()V"), (0, .class_ 8), (0, u "com/example/wary_observer/waryobserver/equivalence/Partition"), (0, .methodref 7 10), (0, .nameAndType 5 11), (0, u "(I)V"), (0, .methodref 7 13), (0, .nameAndType 14 11), (0, u "mark"), (0, .methodref 7 16), (0, .nameAndType 17 18), (0, u "state"), (0, u "(I)I"), (0, .methodref 20 21), (0, .class_ 22), (0, .nameAndType 23 24), (0, u "com/example/wary_observer/waryobserver/equivalence/PartitionMarkPinLaw"), (0, u "in"), (0, u "(I)Z"), (0, .methodref 7 26), (0, .nameAndType 27 18), (0, u "size"), (3, u "law"), (0, u "(IIII)Z")] 4

def k1m0 : Method := { name := "<init>", desc := "()V", sig := { parameters := [], returnType := none }, accessFlags := 1, code := none }
def k1c1 : Code := { maxStack := 2, maxLocals := 1, code := method_2_code, exceptionTable := #[], attributes := #[] }
def k1m1 : Method := { name := "in", desc := "(I)Z", sig := { parameters := [.int], returnType := some .boolean }, accessFlags := 10, code := some k1c1 }
def k1c2 : Code := { maxStack := 3, maxLocals := 18, code := code, exceptionTable := #[], attributes := #[] }
def k1m2 : Method := { name := "law", desc := "(IIII)Z", sig := { parameters := [.int, .int, .int, .int], returnType := some .boolean }, accessFlags := 9, code := some k1c2 }
/-- com/example/wary_observer/waryobserver/equivalence/PartitionMarkPinLaw -/
def k1 : Class := { plain "com/example/wary_observer/waryobserver/equivalence/PartitionMarkPinLaw" (some 0) with
  accessFlags := 49
  interfaces := #[]
  cf := some (fileOf pool1 20 #[] #[{ accessFlags := 1, nameIndex := 5, descriptorIndex := 6, attributes := #[] }, { accessFlags := 10, nameIndex := 23, descriptorIndex := 24, attributes := #[] }, { accessFlags := 9, nameIndex := 31, descriptorIndex := 32, attributes := #[] }] 49 2 #[] #[])
  fields := #[]
  methods := #[k1m0, k1m1, k1m2]
  instanceTypes := #[]
  staticTypes := #[]
  resolved := Array.replicate 37 none
  statics := none }

def pool2 : Array CpInfo := pool [(1, .methodref 2 3), (0, .class_ 4), (0, .nameAndType 5 6), (0, u "java/lang/Object"), (0, u "<init>"), (0, u "()V"), (0, .fieldref 8 9), (0, .class_ 10), (0, .nameAndType 11 12), (0, u "com/example/wary_observer/waryobserver/equivalence/Partition"), (0, u "states"), (0, u "[I"), (0, .fieldref 8 14), (0, .nameAndType 15 12), (0, u "positions"), (0, .fieldref 8 17), (0, .nameAndType 18 12), (0, u "blockOf"), (0, .fieldref 8 20), (0, .nameAndType 21 12), (0, u "firsts"), (0, .fieldref 8 23), (0, .nameAndType 24 12), (0, u "ends"), (0, .fieldref 8 26), (0, .nameAndType 27 12), (0, u "marks"), (0, .fieldref 8 29), (0, .nameAndType 30 12), (0, u "touched"), (0, .fieldref 8 32), (0, .nameAndType 33 34), (0, u "blocks"), (0, u "I"), (0, .fieldref 8 36), (0, .nameAndType 37 34), (0, u "touchedCount"), (2, u "size"), (0, u "(I)I"), (1, .class_ 45), (1, u "com/example/wary_observer/waryobserver/equivalence/Partition$Parts"), (2, u "(I)V"), (6, u "state"), (0, u "mark")] 6

def k2c0 : Code := { maxStack := 3, maxLocals := 3, code := prog_46_method_1_code, exceptionTable := #[], attributes := #[] }
def k2m0 : Method := { name := "<init>", desc := "(I)V", sig := { parameters := [.int], returnType := none }, accessFlags := 0, code := some k2c0 }
def k2c1 : Code := { maxStack := 3, maxLocals := 2, code := prog_46_method_3_code, exceptionTable := #[], attributes := #[] }
def k2m1 : Method := { name := "size", desc := "(I)I", sig := { parameters := [.int], returnType := some .int }, accessFlags := 0, code := some k2c1 }
def k2c2 : Code := { maxStack := 2, maxLocals := 2, code := prog_46_method_6_code, exceptionTable := #[], attributes := #[] }
def k2m2 : Method := { name := "state", desc := "(I)I", sig := { parameters := [.int], returnType := some .int }, accessFlags := 0, code := some k2c2 }
def k2c3 : Code := { maxStack := 5, maxLocals := 6, code := prog_46_method_7_code, exceptionTable := #[], attributes := #[] }
def k2m3 : Method := { name := "mark", desc := "(I)V", sig := { parameters := [.int], returnType := none }, accessFlags := 0, code := some k2c3 }
/-- com/example/wary_observer/waryobserver/equivalence/Partition -/
def k2 : Class := { plain "com/example/wary_observer/waryobserver/equivalence/Partition" (some 0) with
  accessFlags := 32
  interfaces := #[]
  cf := some (fileOf pool2 8 #[.nestMembers #[43]] #[{ accessFlags := 0, nameIndex := 5, descriptorIndex := 48, attributes := #[] }, { accessFlags := 0, nameIndex := 40, descriptorIndex := 41, attributes := #[] }, { accessFlags := 0, nameIndex := 55, descriptorIndex := 41, attributes := #[] }, { accessFlags := 0, nameIndex := 56, descriptorIndex := 48, attributes := #[] }] 32 2 #[] #[{ accessFlags := 18, nameIndex := 11, descriptorIndex := 12, attributes := #[] }, { accessFlags := 18, nameIndex := 15, descriptorIndex := 12, attributes := #[] }, { accessFlags := 18, nameIndex := 18, descriptorIndex := 12, attributes := #[] }, { accessFlags := 18, nameIndex := 21, descriptorIndex := 12, attributes := #[] }, { accessFlags := 18, nameIndex := 24, descriptorIndex := 12, attributes := #[] }, { accessFlags := 18, nameIndex := 27, descriptorIndex := 12, attributes := #[] }, { accessFlags := 2, nameIndex := 33, descriptorIndex := 34, attributes := #[] }, { accessFlags := 18, nameIndex := 30, descriptorIndex := 12, attributes := #[] }, { accessFlags := 2, nameIndex := 37, descriptorIndex := 34, attributes := #[] }])
  fields := #[{ name := "states", type := (.array .int), accessFlags := 18, slot := 0, constantValue := 0 }, { name := "positions", type := (.array .int), accessFlags := 18, slot := 1, constantValue := 0 }, { name := "blockOf", type := (.array .int), accessFlags := 18, slot := 2, constantValue := 0 }, { name := "firsts", type := (.array .int), accessFlags := 18, slot := 3, constantValue := 0 }, { name := "ends", type := (.array .int), accessFlags := 18, slot := 4, constantValue := 0 }, { name := "marks", type := (.array .int), accessFlags := 18, slot := 5, constantValue := 0 }, { name := "blocks", type := .int, accessFlags := 2, slot := 6, constantValue := 0 }, { name := "touched", type := (.array .int), accessFlags := 18, slot := 7, constantValue := 0 }, { name := "touchedCount", type := .int, accessFlags := 2, slot := 8, constantValue := 0 }]
  methods := #[k2m0, k2m1, k2m2, k2m3]
  instanceTypes := #[(.array .int), (.array .int), (.array .int), (.array .int), (.array .int), (.array .int), .int, (.array .int), .int]
  staticTypes := #[]
  resolved := Array.replicate 63 none
  statics := none }

def pool3 : Array CpInfo := pool [(1, u "java/lang/Cloneable"), (0, .class_ 1), (0, u "java/lang/Object"), (0, .class_ 3)] 3

/-- java/lang/Cloneable -/
def k3 : Class := { plain "java/lang/Cloneable" (some 0) with
  accessFlags := 1537
  interfaces := #[]
  cf := some (fileOf pool3 2 #[] #[] 1537 4 #[] #[])
  fields := #[]
  methods := #[]
  instanceTypes := #[]
  staticTypes := #[]
  resolved := Array.replicate 8 none
  statics := none }

def pool4 : Array CpInfo := pool [(1, u "java/io/Serializable"), (0, .class_ 1), (0, u "java/lang/Object"), (0, .class_ 3)] 3

/-- java/io/Serializable -/
def k4 : Class := { plain "java/io/Serializable" (some 0) with
  accessFlags := 1537
  interfaces := #[]
  cf := some (fileOf pool4 2 #[] #[] 1537 4 #[] #[])
  fields := #[]
  methods := #[]
  instanceTypes := #[]
  staticTypes := #[]
  resolved := Array.replicate 8 none
  statics := none }

/-- the primitive byte -/
def k5 : Class := { plain "byte" none with kind := .primitive 'B', accessFlags := 0x411 }
/-- [B -/
def k6 : Class := { plain "[B" (some 0) with kind := .array 5 .byte, interfaces := #[3, 4], accessFlags := 1041 }

/-- the primitive int -/
def k7 : Class := { plain "int" none with kind := .primitive 'I', accessFlags := 0x411 }
/-- [I -/
def k8 : Class := { plain "[I" (some 0) with kind := .array 7 .int, interfaces := #[3, 4], accessFlags := 1041 }

def heap : Heap := #[]
def classes : Array Class := #[k0, k1, k2, k3, k4, k5, k6, k7, k8]
def interned : List (Array UInt16 × Addr) := []
def slotsUsed : Nat := 0
def theMethod : MethodId := ⟨1, 2⟩
def args0 : Array Value := #[.int 2, .int 6, .int 7, .int 3]
def aboutOver (below : List Frame) : State where
  vm := { classes := classes, interned := interned.toArray }
  heap := heap
  slotsUsed := slotsUsed
  threads := #[{ frames := .invoking theMethod args0 :: below }]
def below0 : List Frame := [.native { method := ⟨0, 0⟩, args := #[] }]
def about1 : State := aboutOver below0
def p0 : Program := .bare "" "" ""
def e0 : Env := launch0.env 0 0 0
theorem w_frames : about1.frames = Frame.invoking theMethod args0 :: below0 := rfl
set_option maxRecDepth 65536 in
theorem w_args : argsFit about1.vm theMethod args0 = true := by decide +kernel
set_option maxRecDepth 65536 in
theorem w_heap : heapFits about1 = true := by decide +kernel
set_option maxRecDepth 65536 in
theorem w_runnable : about1.curStatus? = some .runnable := by decide +kernel
set_option maxRecDepth 65536 in
theorem w_alone : about1.alone = true := by decide +kernel
set_option maxRecDepth 65536 in
theorem w_named : about1.methodNamed? x = some theMethod := by decide +kernel
set_option maxRecDepth 65536 in
theorem w_hears : about1.hears theMethod below0 = true := by decide +kernel
set_option maxRecDepth 65536 in
theorem w_ripe : about1.ripe theMethod args0 below0 = true := by decide +kernel
theorem w_running : about1.status = .running := rfl
set_option maxRecDepth 65536 in
theorem w_room : about1.hasRoom e0.platform room_1 = true :=
  launch0.hasRoom_least _ room_1 (by decide +kernel) (by decide +kernel) (by decide +kernel) (by decide +kernel) (by decide +kernel) (by decide +kernel)
theorem allAtoms_all (ts : List Jvm.Cond) (a : Array Jvm.Value) (st : Jvm.State) : (allAtoms ts).before a st = ts.all (fun c => c.before a st) := by
  induction ts with
  | nil => rfl
  | cons c t ih =>
    show (Jvm.Cond.and c (allAtoms t)).before a st = _
    rw [Jvm.Cond.before_and, ih, List.all_cons]
def words1 : List Jvm.Cond := Jvm.Cond.code x code maxLocals ret :: tables_1
/-- a 'code' word, met by the world's own term for the bytes: nothing is compared byte by byte -/
theorem code_word {y : MethodName} {bytes : ByteArray} {mx : Nat} {rt : Option FieldType} {a : Array Value} {s : State} {m : MethodId} {meth : Method} {c : Code} (h1 : s.methodNamed? y = some m) (h2 : s.vm.method? m = some meth) (h3 : meth.code = some c) (h4 : c.code = bytes)
    (h5 : (c.maxLocals == mx && c.exceptionTable.isEmpty && decide (c.maxStack ≤ mostOperands) && decide (meth.sig.returnType = rt) && !meth.locks && decide (parseMethodDescriptor y.desc = some meth.sig)) = true) : (Jvm.Cond.code y bytes mx rt).before a s = true := by
  simp only [Bool.and_eq_true, beq_iff_eq, Bool.not_eq_true', decide_eq_true_eq] at h5
  obtain ⟨⟨⟨⟨⟨g1, g2⟩, g3⟩, g4⟩, g5⟩, g6⟩ := h5
  simp [Cond.before, Cond.holds, Cond.value, h1, h2, h3, h4, g1, g2, g3, g4, g5, g6]
def isCode : Jvm.Cond → Bool
  | .code _ _ _ _ => true
  | _ => false
theorem all_split {L : List Jvm.Cond} {P : Jvm.Cond → Bool} (h1 : L.all (fun c => isCode c || P c) = true) (h2 : ∀ c ∈ L.filter isCode, P c = true) : L.all P = true := by
  refine List.all_eq_true.mpr fun c hc => ?_
  have h := List.all_eq_true.mp h1 c hc
  rcases Bool.eq_false_or_eq_true (isCode c) with hi | hi
  · exact h2 c (List.mem_filter.mpr ⟨hc, hi⟩)
  · simpa [hi] using h
set_option maxRecDepth 65536 in
theorem w_c0 : (Jvm.Cond.code x code maxLocals ret).before args0 about1 = true := code_word (m := ⟨1, 2⟩) (meth := k1m2) (c := k1c2) (by decide +kernel) rfl rfl rfl (by decide +kernel)
set_option maxRecDepth 65536 in
theorem w_c1 : (Jvm.Cond.code ({ cls := "com/example/wary_observer/waryobserver/equivalence/Partition", name := "<init>", desc := "(I)V" } : Jvm.MethodName) prog_46_method_1_code (3 : Nat) (Option.none : Option Jvm.ClassFile.FieldType)).before args0 about1 = true := code_word (m := ⟨2, 0⟩) (meth := k2m0) (c := k2c0) (by decide +kernel) rfl rfl rfl (by decide +kernel)
set_option maxRecDepth 65536 in
theorem w_c2 : (Jvm.Cond.code ({ cls := "java/lang/Object", name := "<init>", desc := "()V" } : Jvm.MethodName) object_method_1_code (1 : Nat) (Option.none : Option Jvm.ClassFile.FieldType)).before args0 about1 = true := code_word (m := ⟨0, 0⟩) (meth := k0m0) (c := k0c0) (by decide +kernel) rfl rfl rfl (by decide +kernel)
set_option maxRecDepth 65536 in
theorem w_c3 : (Jvm.Cond.code ({ cls := "com/example/wary_observer/waryobserver/equivalence/Partition", name := "mark", desc := "(I)V" } : Jvm.MethodName) prog_46_method_7_code (6 : Nat) (Option.none : Option Jvm.ClassFile.FieldType)).before args0 about1 = true := code_word (m := ⟨2, 3⟩) (meth := k2m3) (c := k2c3) (by decide +kernel) rfl rfl rfl (by decide +kernel)
set_option maxRecDepth 65536 in
theorem w_c4 : (Jvm.Cond.code ({ cls := "com/example/wary_observer/waryobserver/equivalence/Partition", name := "state", desc := "(I)I" } : Jvm.MethodName) prog_46_method_6_code (2 : Nat) (Option.some Jvm.ClassFile.FieldType.int)).before args0 about1 = true := code_word (m := ⟨2, 2⟩) (meth := k2m2) (c := k2c2) (by decide +kernel) rfl rfl rfl (by decide +kernel)
set_option maxRecDepth 65536 in
theorem w_c5 : (Jvm.Cond.code ({ cls := "com/example/wary_observer/waryobserver/equivalence/PartitionMarkPinLaw", name := "in", desc := "(I)Z" } : Jvm.MethodName) method_2_code (1 : Nat) (Option.some Jvm.ClassFile.FieldType.boolean)).before args0 about1 = true := code_word (m := ⟨1, 1⟩) (meth := k1m1) (c := k1c1) (by decide +kernel) rfl rfl rfl (by decide +kernel)
set_option maxRecDepth 65536 in
theorem w_c6 : (Jvm.Cond.code ({ cls := "com/example/wary_observer/waryobserver/equivalence/Partition", name := "size", desc := "(I)I" } : Jvm.MethodName) prog_46_method_3_code (2 : Nat) (Option.some Jvm.ClassFile.FieldType.int)).before args0 about1 = true := code_word (m := ⟨2, 1⟩) (meth := k2m1) (c := k2c1) (by decide +kernel) rfl rfl rfl (by decide +kernel)
def codes1 : List Jvm.Cond := [Jvm.Cond.code x code maxLocals ret, Jvm.Cond.code ({ cls := "com/example/wary_observer/waryobserver/equivalence/Partition", name := "<init>", desc := "(I)V" } : Jvm.MethodName) prog_46_method_1_code (3 : Nat) (Option.none : Option Jvm.ClassFile.FieldType), Jvm.Cond.code ({ cls := "java/lang/Object", name := "<init>", desc := "()V" } : Jvm.MethodName) object_method_1_code (1 : Nat) (Option.none : Option Jvm.ClassFile.FieldType), Jvm.Cond.code ({ cls := "com/example/wary_observer/waryobserver/equivalence/Partition", name := "mark", desc := "(I)V" } : Jvm.MethodName) prog_46_method_7_code (6 : Nat) (Option.none : Option Jvm.ClassFile.FieldType), Jvm.Cond.code ({ cls := "com/example/wary_observer/waryobserver/equivalence/Partition", name := "state", desc := "(I)I" } : Jvm.MethodName) prog_46_method_6_code (2 : Nat) (Option.some Jvm.ClassFile.FieldType.int), Jvm.Cond.code ({ cls := "com/example/wary_observer/waryobserver/equivalence/PartitionMarkPinLaw", name := "in", desc := "(I)Z" } : Jvm.MethodName) method_2_code (1 : Nat) (Option.some Jvm.ClassFile.FieldType.boolean), Jvm.Cond.code ({ cls := "com/example/wary_observer/waryobserver/equivalence/Partition", name := "size", desc := "(I)I" } : Jvm.MethodName) prog_46_method_3_code (2 : Nat) (Option.some Jvm.ClassFile.FieldType.int)]
set_option maxRecDepth 65536 in
theorem codes_eq : words1.filter isCode = codes1 := rfl
theorem w_codes : ∀ c ∈ words1.filter isCode, c.before args0 about1 = true := by
  rw [codes_eq]
  intro c hc
  simp only [codes1, List.mem_cons, List.not_mem_nil, or_false] at hc
  rcases hc with rfl | rfl | rfl | rfl | rfl | rfl | rfl
  · exact w_c0
  · exact w_c1
  · exact w_c2
  · exact w_c3
  · exact w_c4
  · exact w_c5
  · exact w_c6
set_option maxRecDepth 65536 in
theorem w_t1 : (words1.take 24).all (fun c => isCode c || c.before args0 about1) = true := by decide +kernel
set_option maxRecDepth 65536 in
theorem w_t2 : (words1.drop 24).all (fun c => isCode c || c.before args0 about1) = true := by decide +kernel
theorem w_tables : (allAtoms (Jvm.Cond.code x code maxLocals ret :: tables_1)).before args0 about1 = true := by
  rw [allAtoms_all]
  show words1.all (fun c => c.before args0 about1) = true
  refine all_split ?_ w_codes
  rw [← List.take_append_drop 24 words1, List.all_append, w_t1, w_t2]
  rfl
set_option maxRecDepth 65536 in
theorem w_case : (Jvm.Cond.and given_1 narrow_1).before args0 about1 = true := by decide +kernel
theorem w_applies : (headSpec (Jvm.Cond.code x code maxLocals ret :: tables_1) room_1).applies x e0.platform about1 = true :=
  (Spec.applies_iff w_frames).mpr ⟨w_running, w_runnable, w_alone, w_named, w_hears, w_ripe, w_room, w_tables⟩
theorem atStart : AtStart classFile x code maxLocals ret World_1 tables_1 room_1 Calls_1 rest_1 Pre_1 launch0 p0 e0 about1 theMethod args0 below0 :=
  ⟨lists_1, trivial, launch0.admits_env _ _ _, launch0.least_env, fairChoices_fair.cas, fairChoices_fair.clock, w_frames, w_args, w_heap, w_applies, trivial, trivial, w_case⟩
end start1
theorem witness_1 : WitnessClaimed_1 := ⟨start1.p0, start1.e0, start1.about1, start1.theMethod, start1.args0, start1.below0, start1.atStart⟩
end Jvm.Pilot.@@N@@
