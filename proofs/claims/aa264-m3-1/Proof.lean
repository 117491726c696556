import JvmDerived
import JvmDerived.Pilot.@@N@@Statement
import JvmDerived.Pilot.@@N@@Code
set_option linter.unusedVariables false
set_option linter.unusedSimpArgs false
namespace Jvm.RoadKit
open Sem ClassFile Op Lib Jvm.Stand Jvm.Free Jvm.LawKit
section New
variable {p : Program} {l : Launch} {e : Env} {R : Room} {s : State} {m : MethodId} {args : Array Value} {below : List Frame} {meth : Method} {c : Code} {T : State} {locs : List Loc} {cells slots : Nat}
theorem retI (X : Stand p l e R s m args below meth c T locs cells slots) (hx : p.tables.exec = Jvm.exec) {pc : Nat} {Ls : Array Slot} {z : Int32} {rest : List Value} (hret : meth.sig.returnType = some .int) (hd : decode c.code pc = .ok (.ireturn, 1)) {fs : List Frame}
    (hl : ∀ (f : JFrame) (acts : List Action), f.method = m → f.locked = none → f.entered = [] → (doReturn e (T.setTop f) acts (some (.int z))).1 = T.setFrames fs) : Steps p.tables e below (T.setTop (mkF m pc Ls (.int z :: rest))) (T.setFrames fs) := by
  have hm' : T.vm.method? m = some meth := X.method'
  have hn : narrow .int (.int z) = .int z := rfl
  show Steps p.tables e below (T.setTop { method := m, pc := pc, locals := Ls, stack := _ :: rest, locked := none }) _
  jvm_step X.here [X.here.top, hx, hd, hm', hret, hn]
  first | (intro acts; rw [hl _ acts rfl rfl rfl]) | rw [hl _ _ rfl rfl rfl]
  exact Steps.refl _
end New
end Jvm.RoadKit
namespace Jvm.Pilot.@@N@@
open Jvm Jvm.ClassFile Sem Op Lib Jvm.Free Jvm.Stand Jvm.LawKit Jvm.RoadKit Bundle Jvm.Pilot.@@N@@.Jvm.D
section OwnKit
variable {p : Program} {l : Launch} {e : Env} {R : Room} {s : State} {m : MethodId} {args : Array Value} {below : List Frame} {meth : Method} {c : Code} {T : State} {locs : List Loc} {cells slots : Nat} {Z : State} {h h' : Heap} {a b : Addr} {ty : FieldType} {n : Nat} {f : Nat → Value}
/-- an array by its length and the value at each place -/
def own_AF (Z : State) (h : Heap) (a : Addr) (ty : FieldType) (n : Nat) (f : Nat → Value) : Prop := ∃ c : Cell, Arr Z h a c ty ∧ c.slots.size = n ∧ n < 2 ^ 31 ∧ ∀ i, i < n → c.slots[i]? = some (f i)
theorem own_AF.lt (F : own_AF Z h a ty n f) : a < h.size := by obtain ⟨c, A, -⟩ := F; exact A.lt
theorem own_AF.ext (F : own_AF Z h a ty n f) (E : Ext h h') : own_AF Z h' a ty n f := by obtain ⟨c, A, r⟩ := F; exact ⟨c, A.ext E, r⟩
theorem own_AF.other {sl : Nat} {v : Value} (F : own_AF Z h b ty n f) (W : Wr h h' a sl v) (q : b ≠ a) : own_AF Z h' b ty n f := by obtain ⟨c, A, r⟩ := F; exact ⟨c, A.other W q, r⟩
theorem own_AF.keep {ws : List Addr} (F : own_AF Z h a ty n f) (K : Keep h h' ws) (q : a ∉ ws) : own_AF Z h' a ty n f := by obtain ⟨c, A, r⟩ := F; exact ⟨c, ⟨K.2.1 a c A.1 q, A.2⟩, r⟩
theorem own_AF.congr {g : Nat → Value} (F : own_AF Z h a ty n f) (q : ∀ i, i < n → f i = g i) : own_AF Z h a ty n g := by
  obtain ⟨c, A, r1, r2, r3⟩ := F; exact ⟨c, A, r1, r2, fun i hi => by rw [r3 i hi, q i hi]⟩
theorem own_AF.set {j : Nat} {v : Value} (F : own_AF Z h a ty n f) (W : Wr h h' a j v) : own_AF Z h' a ty n (fun i => if i = j then v else f i) := by
  obtain ⟨c, A, r1, r2, r3⟩ := F
  obtain ⟨cb', q1, q2, q3, q4, -, q6, q7⟩ := wr_at W A.1
  obtain ⟨e1, e2, -⟩ := q7 rfl
  refine ⟨_, A.same W, ?_, r2, fun i hi => ?_⟩
  · rw [sz_set]; exact r1
  · rw [← e1]
    by_cases hij : i = j
    · subst hij; simp only [if_true]; exact e2
    · rw [q6 i hij, r3 i hi]; simp only [hij, if_false]
theorem own_AF.new {k : ClassId} {z : Int32} {d : Value} (A : Arr Z h a (newA k ty z) ty) (q : ¬ z < 0) (hn : z.toNatClampNeg = n) (hd : defaultValue ty = d := by rfl) : own_AF Z h a ty n (fun _ => d) := by
  subst hn
  refine ⟨_, A, sz_new _ _ _, (back32 q).2, fun i hi => ?_⟩
  simp [newA, hi, hd]
theorem own_AF.inb {c : Cell} {j : Int32} {k : Nat} (S : c.slots.size = n) (h1 : ¬ j < 0) (hk : j.toNatClampNeg = k) (h2 : k < n) : ¬ (j < 0 ∨ c.slots.size ≤ j.toNatClampNeg) := by
  rw [S, hk]; exact fun q => q.elim h1 fun q => by omega
theorem own_ldI (X : Stand p l e R s m args below meth c T locs cells slots) (hx : p.tables.exec = Jvm.exec) (hZ : Z.Warmed39 s.vm) (eT : T.heap = h) (A : own_AF Z h a .int n f) {j : Int32} (h1 : ¬ j < 0) {k : Nat} (hk : j.toNatClampNeg = k) (h2 : k < n) {v : Value} (hv : f k = v)
    {g : JFrame} (hg : g.method = m) {rest : List Value} (hs : g.stack = .int j :: .ref a :: rest) (hd : decode c.code g.pc = .ok (.iaload, 1)) (target : State)
    (hr : Steps p.tables e below (T.setTop { g with pc := g.pc + 1, stack := v :: rest }) target) : Steps p.tables e below (T.setTop g) target := by
  obtain ⟨cl, A, r1, r2, r3⟩ := A
  exact X.iaload hx (by rw [eT]; exact A.1) (State.isArrayOf_alike hZ.alike A.2.1) A.2.2 (own_AF.inb r1 h1 hk h2) (by rw [hk, ← hv]; exact r3 k h2) hg hs hd _ hr
theorem own_ldJ (X : Stand p l e R s m args below meth c T locs cells slots) (hx : p.tables.exec = Jvm.exec) (hZ : Z.Warmed39 s.vm) (eT : T.heap = h) (A : own_AF Z h a .long n f) {j : Int32} (h1 : ¬ j < 0) {k : Nat} (hk : j.toNatClampNeg = k) (h2 : k < n) {v : Value} (hv : f k = v)
    {g : JFrame} (hg : g.method = m) {rest : List Value} (hs : g.stack = .int j :: .ref a :: rest) (hd : decode c.code g.pc = .ok (.laload, 1)) (target : State)
    (hr : Steps p.tables e below (T.setTop { g with pc := g.pc + 1, stack := v :: rest }) target) : Steps p.tables e below (T.setTop g) target := by
  obtain ⟨cl, A, r1, r2, r3⟩ := A
  exact X.laload hx (by rw [eT]; exact A.1) (State.isArrayOf_alike hZ.alike A.2.1) A.2.2 (own_AF.inb r1 h1 hk h2) (by rw [hk, ← hv]; exact r3 k h2) hg hs hd _ hr
theorem own_ldB (X : Stand p l e R s m args below meth c T locs cells slots) (hx : p.tables.exec = Jvm.exec) (hZ : Z.Warmed39 s.vm) (eT : T.heap = h) (A : own_AF Z h a .byte n f) {j : Int32} (h1 : ¬ j < 0) {k : Nat} (hk : j.toNatClampNeg = k) (h2 : k < n) {v : Value} (hv : f k = v)
    {g : JFrame} (hg : g.method = m) {rest : List Value} (hs : g.stack = .int j :: .ref a :: rest) (hd : decode c.code g.pc = .ok (.baload, 1)) (target : State)
    (hr : Steps p.tables e below (T.setTop { g with pc := g.pc + 1, stack := v :: rest }) target) : Steps p.tables e below (T.setTop g) target := by
  obtain ⟨cl, A, r1, r2, r3⟩ := A
  exact X.baloadBytes hx (by rw [eT]; exact A.1) (State.isArrayOf_alike hZ.alike A.2.1) A.2.2 (own_AF.inb r1 h1 hk h2) (by rw [hk, ← hv]; exact r3 k h2) hg hs hd _ hr
theorem own_ldZ (X : Stand p l e R s m args below meth c T locs cells slots) (hx : p.tables.exec = Jvm.exec) (hZ : Z.Warmed39 s.vm) (eT : T.heap = h) (A : own_AF Z h a .boolean n f) {j : Int32} (h1 : ¬ j < 0) {k : Nat} (hk : j.toNatClampNeg = k) (h2 : k < n) {v : Value} (hv : f k = v)
    {g : JFrame} (hg : g.method = m) {rest : List Value} (hs : g.stack = .int j :: .ref a :: rest) (hd : decode c.code g.pc = .ok (.baload, 1)) (target : State)
    (hr : Steps p.tables e below (T.setTop { g with pc := g.pc + 1, stack := v :: rest }) target) : Steps p.tables e below (T.setTop g) target := by
  obtain ⟨cl, A, r1, r2, r3⟩ := A
  exact X.baloadBooleans hx (by rw [eT]; exact A.1) (State.isArrayOf_alike hZ.alike A.2.1) A.2.2 (own_AF.inb r1 h1 hk h2) (by rw [hk, ← hv]; exact r3 k h2) hg hs hd _ hr
theorem own_len (X : Stand p l e R s m args below meth c T locs cells slots) (hx : p.tables.exec = Jvm.exec) (hZ : Z.Warmed39 s.vm) (eT : T.heap = h) (A : own_AF Z h a ty n f) {z : Int32} (hz : n.toInt32 = z)
    {g : JFrame} (hg : g.method = m) {rest : List Value} (hs : g.stack = .ref a :: rest) (hd : decode c.code g.pc = .ok (.arraylength, 1)) (target : State)
    (hr : Steps p.tables e below (T.setTop { g with pc := g.pc + 1, stack := .int z :: rest }) target) : Steps p.tables e below (T.setTop g) target := by
  obtain ⟨cl, A, r1, r2, r3⟩ := A
  exact X.arraylength hx (by rw [eT]; exact A.1) (State.isArrayOf_alike hZ.alike A.2.1) hg hs hd _ (by rw [r1, hz]; exact hr)
theorem own_stI (X : Stand p l e R s m args below meth c T locs cells slots) (hx : p.tables.exec = Jvm.exec) (hZ : Z.Warmed39 s.vm) (eT : T.heap = h) (A : own_AF Z h a .int n f) {j x : Int32} (h1 : ¬ j < 0) {k : Nat} (hk : j.toNatClampNeg = k) (h2 : k < n)
    {g : JFrame} (hg : g.method = m) {rest : List Value} (hs : g.stack = .int x :: .int j :: .ref a :: rest) (hd : decode c.code g.pc = .ok (.iastore, 1)) :
    ∃ T' h', Stand p l e R s m args below meth c T' (locs ++ [⟨a, k⟩]) cells slots ∧ T'.heap = h' ∧ Wr h h' a k (.int x) ∧ own_AF Z h' a .int n (fun i => if i = k then .int x else f i) ∧ ∀ target, Steps p.tables e below (T'.setTop { g with pc := g.pc + 1, stack := rest }) target → Steps p.tables e below (T.setTop g) target := by
  obtain ⟨cl, A', r1, r2, r3⟩ := id A
  obtain ⟨T', h', X', e', W', st⟩ := stI X hx hZ eT A' (own_AF.inb r1 h1 hk h2) hg hs hd
  subst hk
  exact ⟨T', h', X', e', W', A.set W', st⟩
theorem own_stJ (X : Stand p l e R s m args below meth c T locs cells slots) (hx : p.tables.exec = Jvm.exec) (hZ : Z.Warmed39 s.vm) (eT : T.heap = h) (A : own_AF Z h a .long n f) {j : Int32} {x : Int64} (h1 : ¬ j < 0) {k : Nat} (hk : j.toNatClampNeg = k) (h2 : k < n)
    {g : JFrame} (hg : g.method = m) {rest : List Value} (hs : g.stack = .long x :: .int j :: .ref a :: rest) (hd : decode c.code g.pc = .ok (.lastore, 1)) :
    ∃ T' h', Stand p l e R s m args below meth c T' (locs ++ [⟨a, k⟩]) cells slots ∧ T'.heap = h' ∧ Wr h h' a k (.long x) ∧ own_AF Z h' a .long n (fun i => if i = k then .long x else f i) ∧ ∀ target, Steps p.tables e below (T'.setTop { g with pc := g.pc + 1, stack := rest }) target → Steps p.tables e below (T.setTop g) target := by
  obtain ⟨cl, A', r1, r2, r3⟩ := id A
  obtain ⟨T', h', X', e', W', st⟩ := stJ X hx hZ eT A' (own_AF.inb r1 h1 hk h2) hg hs hd
  subst hk
  exact ⟨T', h', X', e', W', A.set W', st⟩
theorem own_stB (X : Stand p l e R s m args below meth c T locs cells slots) (hx : p.tables.exec = Jvm.exec) (hZ : Z.Warmed39 s.vm) (eT : T.heap = h) (A : own_AF Z h a .byte n f) {j x : Int32} (h1 : ¬ j < 0) {k : Nat} (hk : j.toNatClampNeg = k) (h2 : k < n)
    {g : JFrame} (hg : g.method = m) {rest : List Value} (hs : g.stack = .int x :: .int j :: .ref a :: rest) (hd : decode c.code g.pc = .ok (.bastore, 1)) :
    ∃ T' h', Stand p l e R s m args below meth c T' (locs ++ [⟨a, k⟩]) cells slots ∧ T'.heap = h' ∧ Wr h h' a k (.int (nar .byte x)) ∧ own_AF Z h' a .byte n (fun i => if i = k then .int (nar .byte x) else f i) ∧ ∀ target, Steps p.tables e below (T'.setTop { g with pc := g.pc + 1, stack := rest }) target → Steps p.tables e below (T.setTop g) target := by
  obtain ⟨cl, A', r1, r2, r3⟩ := id A
  obtain ⟨T', h', X', e', W', st⟩ := stB X hx hZ eT A' (own_AF.inb r1 h1 hk h2) hg hs hd
  subst hk
  exact ⟨T', h', X', e', W', A.set W', st⟩
theorem own_stZ (X : Stand p l e R s m args below meth c T locs cells slots) (hx : p.tables.exec = Jvm.exec) (hZ : Z.Warmed39 s.vm) (eT : T.heap = h) (A : own_AF Z h a .boolean n f) {j x : Int32} (h1 : ¬ j < 0) {k : Nat} (hk : j.toNatClampNeg = k) (h2 : k < n)
    {g : JFrame} (hg : g.method = m) {rest : List Value} (hs : g.stack = .int x :: .int j :: .ref a :: rest) (hd : decode c.code g.pc = .ok (.bastore, 1)) :
    ∃ T' h', Stand p l e R s m args below meth c T' (locs ++ [⟨a, k⟩]) cells slots ∧ T'.heap = h' ∧ Wr h h' a k (.int (nar .boolean x)) ∧ own_AF Z h' a .boolean n (fun i => if i = k then .int (nar .boolean x) else f i) ∧ ∀ target, Steps p.tables e below (T'.setTop { g with pc := g.pc + 1, stack := rest }) target → Steps p.tables e below (T.setTop g) target := by
  obtain ⟨cl, A', r1, r2, r3⟩ := id A
  obtain ⟨T', h', X', e', W', st⟩ := stZ X hx hZ eT A' (own_AF.inb r1 h1 hk h2) hg hs hd
  subst hk
  exact ⟨T', h', X', e', W', A.set W', st⟩
theorem own_lremM {g : JFrame} {target : State} (X : Stand p l e R s m args below meth c T locs cells slots) (hx : p.tables.exec = Jvm.exec) (hg : g.method = m) {x y : Int64} {rest : List Value} (hd : decode c.code g.pc = .ok (.lrem, 1)) (hs : g.stack = .long y :: .long x :: rest) (hy : y ≠ 0)
    (hr : Steps p.tables e below (T.setTop { g with pc := g.pc + 1, stack := .long (x % y) :: rest }) target) : Steps p.tables e below (T.setTop g) target :=
  XS.lrem X.here hx hg hd hs hy (by rw [lrem_mod x y]; exact hr)
theorem own_cloneI {a0 : Array Value} (X : Stand p l e R s m args below meth c T locs cells slots) (hx : p.tables.exec = Jvm.exec) (hZ : Z.Warmed39 s.vm) {own : String} {index : Nat} (hown : s.vm.findClass own = some m.cls)
    (w1 : (Cond.methodLink own index ⟨"[I", "clone", "()Ljava/lang/Object;"⟩).before a0 Z = true) (w2 : (Cond.sameMethod "[I" "java/lang/Object" "clone" "()Ljava/lang/Object;").before a0 Z = true) (w3 : (Cond.native ⟨"java/lang/Object", "clone", "()Ljava/lang/Object;"⟩).before a0 Z = true)
    (w4 : (Cond.instanceMethod ⟨"java/lang/Object", "clone", "()Ljava/lang/Object;"⟩).before a0 Z = true) (w5 : (Cond.selects "[I" ⟨"[I", "clone", "()Ljava/lang/Object;"⟩ ⟨"java/lang/Object", "clone", "()Ljava/lang/Object;"⟩).before a0 Z = true) (w6 : (Cond.castable "[I" "java/lang/Cloneable").before a0 Z = true)
    (eT : T.heap = h) (F : own_AF Z h a .int n f) (E : Exa Z h a "[I") (hfit : ∀ i, i < n → fits .int (f i) = true) {g : JFrame} (hg : g.method = m) (hsize : g.locals.size = c.maxLocals) {rest : List Value} (hs : g.stack = .ref a :: rest) (hd : decode c.code g.pc = .ok (.invokevirtual index, 3))
    (hf : 1 ≤ R.frames) {W cap : Nat} (hW : 2 * g.monitorRoom + (rest.map fun v => v.category).sum ≤ W) (hl : W + 14 ≤ R.locals) (hcap : n ≤ cap) (hc : cells + 1 ≤ R.cells) (hsl : slots + cap ≤ R.slots) :
    ∃ T' h', Stand p l e R s m args below meth c T' locs (cells + 1) (slots + cap) ∧ T'.heap = h' ∧ Ext h h' ∧ own_AF Z h' h.size .int n f ∧ Exa Z h' h.size "[I" ∧
      ∀ target, Steps p.tables e below (T'.setTop { g with pc := g.pc + 3, stack := .ref h.size :: rest }) target → Steps p.tables e below (T.setTop g) target := by
  obtain ⟨cl, A, r1, r2, r3⟩ := F
  have FC : FitC Z cl := fitC_of A fun i hi v hv => by rw [r3 i (by omega)] at hv; cases hv; exact hfit i (by omega)
  obtain ⟨T', h', X', e', ex, A', E', st⟩ := cloneA X hx hZ hown w1 w2 w3 w4 w5 w6 eT A E FC hg hsize hs hd hf hW hl (by rw [r1]; exact hcap) hc hsl
  exact ⟨T', h', X', e', ex, ⟨cloneOf cl, A', r1, r2, r3⟩, E', st⟩
end OwnKit
def own_w (q : List Nat) (i : Nat) : Int32 := if i ∈ q then 1 else 0
def own_add (q : List Nat) (x : Nat) : List Nat := if x ∈ q then q else q ++ [x]
def own_lst (q : List Nat) : Nat := q.getD (q.length - 1) 0
def own_B (Z : State) (a1 bl wt : Addr) (n : Nat) (q : List Nat) (h : Heap) : Prop := Exa Z h a1 "com/example/wary_observer/waryobserver/equivalence/Splitters" ∧ Fld Z h a1 "com/example/wary_observer/waryobserver/equivalence/Splitters" "blocks" "[I" (.ref bl) ∧ Fld Z h a1 "com/example/wary_observer/waryobserver/equivalence/Splitters" "isWaiting" "[Z" (.ref wt) ∧ Fld Z h a1 "com/example/wary_observer/waryobserver/equivalence/Splitters" "count" "I" (.int (Int32.ofNat q.length)) ∧ (∃ bf : Nat → Int32, own_AF Z h bl .int n (fun i => .int (bf i)) ∧ ∀ i, i < q.length → bf i = Int32.ofNat (q.getD i 0)) ∧ own_AF Z h wt .boolean n (fun i => .int (own_w q i))
def own_T (Z : State) (sa : Addr) (q : List Nat) (h : Heap) : Prop := ∃ sf : Nat → Int32, own_AF Z h sa .int 5 (fun i => .int (sf i)) ∧ ∀ i, i < q.length → sf i = Int32.ofNat (q.getD i 0)
section OwnB
variable {Z : State} {a1 bl wt sa : Addr} {n : Nat} {q : List Nat} {h h' : Heap} {ws : List Addr}
theorem own_B.ext (F : own_B Z a1 bl wt n q h) (E : Ext h h') : own_B Z a1 bl wt n q h' := by
  obtain ⟨f1, f2, f3, f4, ⟨bf, f5, f6⟩, f7⟩ := F
  exact ⟨f1.ext E, f2.ext E, f3.ext E, f4.ext E, ⟨bf, f5.ext E, f6⟩, f7.ext E⟩
theorem own_B.keep (F : own_B Z a1 bl wt n q h) (K : Keep h h' ws) (n1 : a1 ∉ ws) (n2 : bl ∉ ws) (n3 : wt ∉ ws) : own_B Z a1 bl wt n q h' := by
  obtain ⟨f1, f2, f3, f4, ⟨bf, f5, f6⟩, f7⟩ := F
  exact ⟨f1.keep K, f2.keep K n1, f3.keep K n1, f4.keep K n1, ⟨bf, f5.keep K n2, f6⟩, f7.keep K n3⟩
theorem own_B.lts (F : own_B Z a1 bl wt n q h) : bl < h.size ∧ wt < h.size := by
  obtain ⟨f1, f2, f3, f4, ⟨bf, f5, f6⟩, f7⟩ := F
  exact ⟨f5.lt, f7.lt⟩
theorem own_T.ext (F : own_T Z sa q h) (E : Ext h h') : own_T Z sa q h' := by
  obtain ⟨sf, f5, f6⟩ := F
  exact ⟨sf, f5.ext E, f6⟩
theorem own_T.keep (F : own_T Z sa q h) (K : Keep h h' ws) (n1 : sa ∉ ws) : own_T Z sa q h' := by
  obtain ⟨sf, f5, f6⟩ := F
  exact ⟨sf, f5.keep K n1, f6⟩
end OwnB
theorem own_ix {x : Nat} (h : x < 2 ^ 31) : ¬ Int32.ofNat x < 0 ∧ (Int32.ofNat x).toNatClampNeg = x := by
  have h1 : (Int32.ofNat x).toInt = x := Int32.toInt_ofNat_of_lt h
  have h2 : ¬ Int32.ofNat x < 0 := fun q => by
    have := Int32.lt_iff_toInt_lt.mp q
    rw [h1, show (0 : Int32).toInt = 0 from rfl] at this
    omega
  refine ⟨h2, ?_⟩
  have := nat_of h2
  omega
theorem own_eqn {i j : Nat} (hi : i < 2 ^ 31) (hj : j < 2 ^ 31) : Int32.ofNat i = Int32.ofNat j ↔ i = j := by
  rw [← Int32.toInt_inj, Int32.toInt_ofNat_of_lt hi, Int32.toInt_ofNat_of_lt hj]
  omega
theorem own_ltn {i j : Nat} (hi : i < 2 ^ 31) (hj : j < 2 ^ 31) : Int32.ofNat i < Int32.ofNat j ↔ i < j := by
  rw [Int32.lt_iff_toInt_lt, Int32.toInt_ofNat_of_lt hi, Int32.toInt_ofNat_of_lt hj]
  omega
theorem own_dec {k : Nat} (h : 1 ≤ k) : Int32.ofNat (k - 1) = Int32.ofNat k - (1 : Int32) := by
  obtain ⟨j, rfl⟩ : ∃ j, k = j + 1 := ⟨k - 1, by omega⟩
  rw [Int32.ofNat_add]
  show Int32.ofNat j = Int32.ofNat j + (1 : Int32) - (1 : Int32)
  rw [Int32.add_sub_cancel]
theorem own_w0 {q : List Nat} {i : Nat} : own_w q i = 0 ↔ i ∉ q := by
  unfold own_w
  by_cases h : i ∈ q <;> simp [h]
theorem own_wadd (q : List Nat) (x i : Nat) : own_w (q ++ [x]) i = if i = x then 1 else own_w q i := by
  unfold own_w
  by_cases h : i = x
  · simp [h]
  · simp [h]
theorem own_gadd (q : List Nat) (x i : Nat) (h : i < (q ++ [x]).length) : (q ++ [x]).getD i 0 = if i = q.length then x else q.getD i 0 := by
  rw [List.length_append] at h
  simp only [List.length_singleton] at h
  by_cases h1 : i = q.length
  · subst h1; simp [List.getD_eq_getElem?_getD]
  · have h2 : i < q.length := by omega
    simp [List.getD_eq_getElem?_getD, List.getElem?_append_left h2, h1]
theorem own_gdrop (q : List Nat) (i : Nat) (h : i < q.dropLast.length) : q.dropLast.getD i 0 = q.getD i 0 := by
  rw [List.length_dropLast] at h
  rw [List.getD_eq_getElem?_getD, List.getD_eq_getElem?_getD, List.getElem?_dropLast, if_pos h]
def own_tok (n : Nat) (q : List Nat) : Prop := q.length ≤ n ∧ own_lst q < n ∧ ∀ i : Fin 4, i.1 < n → own_w q.dropLast i.1 = if i.1 = own_lst q then 0 else own_w q i.1
def own_room (n : Nat) (q : List Nat) (x : Nat) : Prop := q.length ≤ 4 ∧ (x ∉ q → q.length < n)
def own_tail (n : Nat) (q : List Nat) : Prop := q.length ≤ 4 ∧ (q ≠ [] → own_tok n q) ∧ (q.dropLast ≠ [] → own_tok n q.dropLast) ∧ (q.dropLast.dropLast ≠ [] → own_tok n q.dropLast.dropLast) ∧ (q.dropLast.dropLast.dropLast ≠ [] → own_tok n q.dropLast.dropLast.dropLast)
def own_q3 (a b c : Nat) : List Nat := own_add (own_add (own_add [] a) b) c
def own_tokD (n : Nat) (q : List Nat) : Decidable (own_tok n q) := by unfold own_tok; infer_instance
def own_roomD (n : Nat) (q : List Nat) (x : Nat) : Decidable (own_room n q x) := by unfold own_room; infer_instance
def own_tailD (n : Nat) (q : List Nat) : Decidable (own_tail n q) := by
  unfold own_tail
  have i1 := own_tokD n q
  have i2 := own_tokD n q.dropLast
  have i3 := own_tokD n q.dropLast.dropLast
  have i4 := own_tokD n q.dropLast.dropLast.dropLast
  infer_instance
def own_tokB (n : Nat) (q : List Nat) : Bool := @decide (own_tok n q) (own_tokD n q)
def own_roomB (n : Nat) (q : List Nat) (x : Nat) : Bool := @decide (own_room n q x) (own_roomD n q x)
def own_tailB (n : Nat) (q : List Nat) : Bool := @decide (own_tail n q) (own_tailD n q)
theorem own_tokI {n : Nat} {q : List Nat} (h : own_tokB n q = true) : own_tok n q := @of_decide_eq_true _ (own_tokD n q) h
theorem own_roomI {n : Nat} {q : List Nat} {x : Nat} (h : own_roomB n q x = true) : own_room n q x := @of_decide_eq_true _ (own_roomD n q x) h
theorem own_tailI {n : Nat} {q : List Nat} (h : own_tailB n q = true) : own_tail n q := @of_decide_eq_true _ (own_tailD n q) h
theorem own_finsB : ∀ (n a b c d : Fin 4), a.1 < n.1 + 1 → b.1 < n.1 + 1 → c.1 < n.1 + 1 → d.1 < n.1 + 1 → own_roomB (n.1 + 1) [] a.1 = true ∧ own_roomB (n.1 + 1) (own_add [] a.1) b.1 = true ∧ own_roomB (n.1 + 1) (own_add (own_add [] a.1) b.1) c.1 = true ∧ (own_q3 a.1 b.1 c.1 ≠ [] ∧ own_tokB (n.1 + 1) (own_q3 a.1 b.1 c.1) = true ∧ (own_q3 a.1 b.1 c.1).length ≤ 4) ∧ own_roomB (n.1 + 1) (own_q3 a.1 b.1 c.1) d.1 = true ∧ own_roomB (n.1 + 1) (own_q3 a.1 b.1 c.1).dropLast d.1 = true ∧ own_tailB (n.1 + 1) (own_add (own_q3 a.1 b.1 c.1) d.1) = true ∧ own_tailB (n.1 + 1) (own_add (own_q3 a.1 b.1 c.1).dropLast d.1) = true := by decide +kernel
theorem own_fins : ∀ (n a b c d : Fin 4), a.1 < n.1 + 1 → b.1 < n.1 + 1 → c.1 < n.1 + 1 → d.1 < n.1 + 1 → own_room (n.1 + 1) [] a.1 ∧ own_room (n.1 + 1) (own_add [] a.1) b.1 ∧ own_room (n.1 + 1) (own_add (own_add [] a.1) b.1) c.1 ∧ (own_q3 a.1 b.1 c.1 ≠ [] ∧ own_tok (n.1 + 1) (own_q3 a.1 b.1 c.1) ∧ (own_q3 a.1 b.1 c.1).length ≤ 4) ∧ own_room (n.1 + 1) (own_q3 a.1 b.1 c.1) d.1 ∧ own_room (n.1 + 1) (own_q3 a.1 b.1 c.1).dropLast d.1 ∧ own_tail (n.1 + 1) (own_add (own_q3 a.1 b.1 c.1) d.1) ∧ own_tail (n.1 + 1) (own_add (own_q3 a.1 b.1 c.1).dropLast d.1) := fun n a b c d ha hb_ hc_ hd_ => by
  obtain ⟨r1, r2, r3, ⟨z3, t3, l3⟩, r4, r5, t1, t2⟩ := own_finsB n a b c d ha hb_ hc_ hd_
  exact ⟨own_roomI r1, own_roomI r2, own_roomI r3, ⟨z3, own_tokI t3, l3⟩, own_roomI r4, own_roomI r5, own_tailI t1, own_tailI t2⟩
theorem own_nn (a : Int32) : ∃ k : Fin 4, Int32.ofNat (k.1 + 1) = ((1 : Int32) + (a &&& (3 : Int32))) := by
  have m := c_mask a (3 : Int32) 2 (by decide) (by decide)
  have h2 := c_iadd (1 : Int32) (a &&& (3 : Int32))
  have h3 := rng32 ((1 : Int32) + (a &&& (3 : Int32)))
  have o1 : (1 : Int32).toInt = 1 := rfl
  refine ⟨⟨(a.toInt % 4).toNat, by omega⟩, ?_⟩
  apply Int32.toInt_inj.mp
  rw [Int32.toInt_ofNat_of_lt (by show (a.toInt % 4).toNat + 1 < 2 ^ 31; omega)]
  show (((a.toInt % 4).toNat + 1 : Nat) : Int) = _
  omega
theorem own_xx (a : Int32) (k : Fin 4) : ∃ x : Fin 4, Int32.ofNat x.1 = ((a &&& (2147483647 : Int32)) % (Int32.ofNat (k.1 + 1))) ∧ x.1 < k.1 + 1 := by
  have hk := k.2
  have e : (Int32.ofNat (k.1 + 1)).toInt = ((k.1 + 1 : Nat) : Int) := Int32.toInt_ofNat_of_lt (by omega)
  have m := c_mask a (2147483647 : Int32) 31 (by decide) (by decide)
  have r := ((c_iremV (a &&& (2147483647 : Int32)) (Int32.ofNat (k.1 + 1))).1 (by omega) (by omega))
  refine ⟨⟨((a &&& (2147483647 : Int32)) % (Int32.ofNat (k.1 + 1))).toInt.toNat, by omega⟩, ?_, by show ((a &&& (2147483647 : Int32)) % (Int32.ofNat (k.1 + 1))).toInt.toNat < k.1 + 1; omega⟩
  apply Int32.toInt_inj.mp
  rw [Int32.toInt_ofNat_of_lt (by show ((a &&& (2147483647 : Int32)) % (Int32.ofNat (k.1 + 1))).toInt.toNat < 2 ^ 31; omega)]
  show ((((a &&& (2147483647 : Int32)) % (Int32.ofNat (k.1 + 1))).toInt.toNat : Nat) : Int) = _
  omega
theorem own_ne0 (k : Fin 4) : Int32.ofNat (k.1 + 1) ≠ 0 := fun q => by
  have := (own_eqn (i := k.1 + 1) (j := 0) (by have := k.2; omega) (by decide)).mp q
  omega
theorem own_mem {q : List Nat} {i x : Nat} (h : i < q.length) (e : q.getD i 0 = x) : x ∈ q := by
  rw [← e, List.getD_eq_getElem?_getD, List.getElem?_eq_getElem h]
  exact List.getElem_mem h
theorem own_nmem {q : List Nat} {x : Nat} (hl : q.length ≤ 4) (h0 : 0 < q.length → ¬ q.getD 0 0 = x) (h1 : 1 < q.length → ¬ q.getD 1 0 = x) (h2 : 2 < q.length → ¬ q.getD 2 0 = x) (h3 : 3 < q.length → ¬ q.getD 3 0 = x) : x ∉ q := by
  intro hm
  obtain ⟨i, hi, e⟩ := List.getElem_of_mem hm
  have e2 : q.getD i 0 = x := by rw [List.getD_eq_getElem?_getD, List.getElem?_eq_getElem hi]; exact e
  have : i = 0 ∨ i = 1 ∨ i = 2 ∨ i = 3 := by omega
  rcases this with rfl | rfl | rfl | rfl
  · exact h0 hi e2
  · exact h1 hi e2
  · exact h2 hi e2
  · exact h3 hi e2
theorem own_all_add {q : List Nat} {x : Nat} (h : ∀ y, y ∈ q → y < 4) (hx : x < 4) : ∀ y, y ∈ own_add q x → y < 4 := by
  intro y hy
  unfold own_add at hy
  by_cases hm : x ∈ q
  · rw [if_pos hm] at hy; exact h y hy
  · rw [if_neg hm] at hy
    rcases List.mem_append.mp hy with w | w
    · exact h y w
    · rw [List.mem_singleton.mp w]; exact hx
theorem own_all_drop {q : List Nat} (h : ∀ y, y ∈ q → y < 4) : ∀ y, y ∈ q.dropLast → y < 4 := fun y hy => h y (List.dropLast_subset q hy)
theorem own_T.drop {Z : State} {sa : Addr} {q : List Nat} {h : Heap} (F : own_T Z sa q h) : own_T Z sa q.dropLast h := by
  obtain ⟨sf, f5, f6⟩ := F
  exact ⟨sf, f5, fun i hi => by rw [own_gdrop q i hi]; exact f6 i (by rw [List.length_dropLast] at hi; omega)⟩
theorem own_lt1 {k : Nat} (hk : k ≤ 4) (h : Int32.ofNat k < (1 : Int32)) : k = 0 := by
  have := (own_ltn (i := k) (j := 1) (by omega) (by decide)).mp h
  omega
theorem own_nlt1 {k : Nat} (hk : k ≤ 4) (h : ¬ Int32.ofNat k < (1 : Int32)) : 1 ≤ k := by
  refine Nat.le_of_not_lt fun w => h ?_
  exact (own_ltn (i := k) (j := 1) (by omega) (by decide)).mpr w
theorem own_dl {q : List Nat} {k : Nat} (h : q.length ≤ k) : q.dropLast.length ≤ k - 1 := by
  rw [List.length_dropLast]
  omega
theorem own_nn1 {q : List Nat} (h : 1 ≤ q.length) : q ≠ [] := fun w => by
  rw [w] at h
  exact absurd h (by decide)
theorem own_len1 {q : List Nat} (h : q ≠ []) : 1 ≤ q.length := List.length_pos_iff.mpr h
theorem own_d1_0 : decode prog_48_method_1_code 0 = .ok (.aload_n 0, 1) := by decide +kernel
theorem own_d1_1 : decode prog_48_method_1_code 1 = .ok (.invokespecial 1, 3) := by decide +kernel
theorem own_d1_4 : decode prog_48_method_1_code 4 = .ok (.aload_n 0, 1) := by decide +kernel
theorem own_d1_5 : decode prog_48_method_1_code 5 = .ok (.iload_n 1, 1) := by decide +kernel
theorem own_d1_6 : decode prog_48_method_1_code 6 = .ok (.newarray .int, 2) := by decide +kernel
theorem own_d1_8 : decode prog_48_method_1_code 8 = .ok (.putfield 7, 3) := by decide +kernel
theorem own_d1_11 : decode prog_48_method_1_code 11 = .ok (.aload_n 0, 1) := by decide +kernel
theorem own_d1_12 : decode prog_48_method_1_code 12 = .ok (.iload_n 1, 1) := by decide +kernel
theorem own_d1_13 : decode prog_48_method_1_code 13 = .ok (.newarray .boolean, 2) := by decide +kernel
theorem own_d1_15 : decode prog_48_method_1_code 15 = .ok (.putfield 13, 3) := by decide +kernel
theorem own_d1_18 : decode prog_48_method_1_code 18 = .ok (.return_, 1) := by decide +kernel
theorem own_pn0 : plainName "com/example/wary_observer/waryobserver/equivalence/Splitters" = true := by first | (simp [plainName, overriddenIn]; done) | decide +kernel
theorem own_ef1 (m : MethodId) (x0 : Addr) (x1 : Int32) : entryFrame m #[(.ref x0), (.int x1)] 2 = mkF m 0 #[.val (.ref x0), .val (.int x1)] [] := by first | (simp [entryFrame, mkF, argsToLocals, Value.category]; done) | rfl
def own_Q1 (Z : State) (a1 : Addr) (n : Nat) (h0 : Heap) (n0 : Nat) (v : Option Value) (h : Heap) (L : List Loc) : Prop := v = none ∧ Fr n0 L ∧ Keep h0 h [a1] ∧ ∃ bl wt : Addr, a1 < bl ∧ bl < wt ∧ h0.size ≤ bl ∧ own_B Z a1 bl wt n [] h
set_option maxRecDepth 65536 in
set_option maxHeartbeats 40000000 in
theorem own_rm1 (l : Launch) (Z : State) (a0 : Array Value) (hw : ∀ d ∈ tables_1, d.before a0 Z = true) (ws : List Jvm.Cond) (a1 : Addr) (n : Nat) (h0 : Heap) (n0 : Nat) (Z0 : n0 ≤ h0.size) (E_a1 : Exa Z h0 a1 "com/example/wary_observer/waryobserver/equivalence/Splitters") (F_blocks : Fld Z h0 a1 "com/example/wary_observer/waryobserver/equivalence/Splitters" "blocks" "[I" .null) (F_isWaiting : Fld Z h0 a1 "com/example/wary_observer/waryobserver/equivalence/Splitters" "isWaiting" "[Z" .null) (F_count : Fld Z h0 a1 "com/example/wary_observer/waryobserver/equivalence/Splitters" "count" "I" (.int (0 : Int32))) (g_a1 : n0 ≤ a1) (hn4 : n ≤ 4) :
    MetFree l (⟨"com/example/wary_observer/waryobserver/equivalence/Splitters", "<init>", "(I)V"⟩ : MethodName) (head1 (Jvm.Cond.code (⟨"com/example/wary_observer/waryobserver/equivalence/Splitters", "<init>", "(I)V"⟩ : MethodName) prog_48_method_1_code 2 none :: ws) ({ frames := 1, cells := 2, slots := 8, locals := 12 } : Room)) (fun a U => a = #[(.ref a1), (.int (Int32.ofNat n))] ∧ Z.Warmed39 U.vm ∧ U.heap = h0) (fun _ _ _ _ _ => True) (fun _ U o U' => ∃ v L, o = .returned v ∧ own_Q1 Z a1 n h0 n0 v U'.heap L ∧ FrameEnd U o U' L ({ frames := 1, cells := 2, slots := 8, locals := 12 } : Room).cells ({ frames := 1, cells := 2, slots := 8, locals := 12 } : Room).slots) := by
  refine MetFree.of_bodySF (plainFor_of_name own_pn0) hisR ?_
  intro p e s m args below meth c s₁ Bd hml0 hP hK
  obtain ⟨rfl, hZ, hh⟩ := hP
  have hx := Bd.exec
  have hby := Bd.bytes
  have hml : c.maxLocals = 2 := hml0
  have hown : s.vm.findClass "com/example/wary_observer/waryobserver/equivalence/Splitters" = some m.cls := findClass_of_methodNamed Bd.named
  have hnm := (name_of_methodNamed Bd.named Bd.method).1
  have X0 : Stand p l e ({ frames := 1, cells := 2, slots := 8, locals := 12 } : Room) s m #[(.ref a1), (.int (Int32.ofNat n))] below meth c s₁ [] 0 0 := Stand.of_body Bd
  have e0 : s₁.heap = h0 := by rw [← hh, Bd.state]; rfl
  have N0 := Fr.nil n0
  have K0 := Keep.refl h0 [a1]
  have pre0 : ∀ t, Steps p.tables e below (s₁.setTop (mkF m 0 #[.val (.ref a1), .val (.int (Int32.ofNat n))] [])) t → Steps p.tables e below (s₁.setTop (entryFrame m #[(.ref a1), (.int (Int32.ofNat n))] 2)) t := fun t kt0 => castTop (own_ef1 m (a1) ((Int32.ofNat n))) kt0
  obtain ⟨T1, X1, e1, st1⟩ := initO X0 hx hZ hown (hw _ (List.mem_of_getElem? (i := 7) rfl)) (hw _ (List.mem_of_getElem? (i := 8) rfl)) (hw _ (List.mem_of_getElem? (i := 9) rfl)) e0 (g := (mkF m 1 #[.val (.ref a1), .val (.int (Int32.ofNat n))] [(.ref a1)])) rfl (by rw [hml]; rfl) rfl (hb hby own_d1_1) (by decide) (W := 0) (by show 2 * 0 + _ ≤ _; exact Nat.le_of_eq rfl) (by decide)
  obtain ⟨T2, h2, k2, X2, e2, E2, A2, st2⟩ := newP X1 hx hZ (hw _ (List.mem_of_getElem? (i := 10) rfl)) e1 (g := (mkF m 6 #[.val (.ref a1), .val (.int (Int32.ofNat n))] [(.int (Int32.ofNat n)), (.ref a1)])) rfl (hb hby own_d1_6) rfl (own_ix (by omega)).1 (cap := 4) (by rw [(own_ix (by omega)).2]; exact hn4) (by decide) (by decide) (by decide)
  obtain ⟨bl, g2⟩ : ∃ z, z = h0.size := ⟨_, rfl⟩
  rw [← g2] at A2 st2
  have lt_a1_bl : a1 < bl := by rw [g2]; exact E_a1.lt
  have ne_a1_bl : a1 ≠ bl := Nat.ne_of_lt lt_a1_bl
  have g_bl : n0 ≤ bl := by rw [g2]; exact Z0
  have sz_bl : h0.size ≤ bl := by rw [g2]; exact K0.1
  have E_a1 := E_a1.ext E2
  have F_blocks := F_blocks.ext E2
  have F_isWaiting := F_isWaiting.ext E2
  have F_count := F_count.ext E2
  have K3 := K0.ext E2
  have Z4 := Nat.le_trans Z0 E2.1
  have V_bl : own_AF Z h2 bl .int n (fun _ => .int (0 : Int32)) := own_AF.new A2 (own_ix (by omega)).1 (own_ix (by omega)).2
  obtain ⟨T5, h5, X5, e5, W5, st5⟩ := putF X2 hx hZ hown (host := "") (Or.inl (hw _ (List.mem_of_getElem? (i := 11) rfl))) Via.refl e2 F_blocks E_a1 (Or.inr ⟨(hw _ (List.mem_of_getElem? (i := 12) rfl)), rfl, hnm⟩) (hw _ (List.mem_of_getElem? (i := 2) rfl)) (ty := (.array .int)) (by decide) rfl rfl (g := (mkF m 8 #[.val (.ref a1), .val (.int (Int32.ofNat n))] [(.ref bl), (.ref a1)])) rfl rfl (hb hby own_d1_8)
  have E_a1 := E_a1.wr W5
  have F_blocks := F_blocks.same W5
  have F_isWaiting := F_isWaiting.other W5 (Or.inr (slot_ne (Or.inr (hw _ (List.mem_of_getElem? (i := 15) rfl))) (Or.inr (hw _ (List.mem_of_getElem? (i := 12) rfl))) (by decide) (t := (.array .boolean)) (t' := (.array .int)) (by decide) (by decide)))
  have F_count := F_count.other W5 (Or.inr (slot_ne (Or.inl (hw _ (List.mem_of_getElem? (i := 22) rfl))) (Or.inr (hw _ (List.mem_of_getElem? (i := 12) rfl))) (by decide) (t := .int) (t' := (.array .int)) (by decide) (by decide)))
  have V_bl := V_bl.other W5 (Ne.symm ne_a1_bl)
  have K6 := K3.wr W5 (Or.inl (List.mem_of_getElem? (i := 0) rfl))
  have Z7 := Nat.le_trans Z4 (Keep.of_wr W5).1
  have N8 := Fr.snoc X5 N0 g_a1
  obtain ⟨T9, h9, k9, X9, e9, E9, A9, st9⟩ := newP X5 hx hZ (hw _ (List.mem_of_getElem? (i := 13) rfl)) e5 (g := (mkF m 13 #[.val (.ref a1), .val (.int (Int32.ofNat n))] [(.int (Int32.ofNat n)), (.ref a1)])) rfl (hb hby own_d1_13) rfl (own_ix (by omega)).1 (cap := 4) (by rw [(own_ix (by omega)).2]; exact hn4) (by decide) (by decide) (by decide)
  obtain ⟨wt, g9⟩ : ∃ z, z = h5.size := ⟨_, rfl⟩
  rw [← g9] at A9 st9
  have lt_a1_wt : a1 < wt := by rw [g9]; exact E_a1.lt
  have ne_a1_wt : a1 ≠ wt := Nat.ne_of_lt lt_a1_wt
  have lt_bl_wt : bl < wt := by rw [g9]; exact V_bl.lt
  have ne_bl_wt : bl ≠ wt := Nat.ne_of_lt lt_bl_wt
  have g_wt : n0 ≤ wt := by rw [g9]; exact Z7
  have sz_wt : h0.size ≤ wt := by rw [g9]; exact K6.1
  have E_a1 := E_a1.ext E9
  have F_blocks := F_blocks.ext E9
  have F_isWaiting := F_isWaiting.ext E9
  have F_count := F_count.ext E9
  have V_bl := V_bl.ext E9
  have K10 := K6.ext E9
  have Z11 := Nat.le_trans Z7 E9.1
  have V_wt : own_AF Z h9 wt .boolean n (fun _ => .int (0 : Int32)) := own_AF.new A9 (own_ix (by omega)).1 (own_ix (by omega)).2
  obtain ⟨T12, h12, X12, e12, W12, st12⟩ := putF X9 hx hZ hown (host := "") (Or.inl (hw _ (List.mem_of_getElem? (i := 14) rfl))) Via.refl e9 F_isWaiting E_a1 (Or.inr ⟨(hw _ (List.mem_of_getElem? (i := 15) rfl)), rfl, hnm⟩) (hw _ (List.mem_of_getElem? (i := 2) rfl)) (ty := (.array .boolean)) (by decide) rfl rfl (g := (mkF m 15 #[.val (.ref a1), .val (.int (Int32.ofNat n))] [(.ref wt), (.ref a1)])) rfl rfl (hb hby own_d1_15)
  have E_a1 := E_a1.wr W12
  have F_blocks := F_blocks.other W12 (Or.inr (slot_ne (Or.inr (hw _ (List.mem_of_getElem? (i := 12) rfl))) (Or.inr (hw _ (List.mem_of_getElem? (i := 15) rfl))) (by decide) (t := (.array .int)) (t' := (.array .boolean)) (by decide) (by decide)))
  have F_isWaiting := F_isWaiting.same W12
  have F_count := F_count.other W12 (Or.inr (slot_ne (Or.inl (hw _ (List.mem_of_getElem? (i := 22) rfl))) (Or.inr (hw _ (List.mem_of_getElem? (i := 15) rfl))) (by decide) (t := .int) (t' := (.array .boolean)) (by decide) (by decide)))
  have V_bl := V_bl.other W12 (Ne.symm ne_a1_bl)
  have V_wt := V_wt.other W12 (Ne.symm ne_a1_wt)
  have K13 := K10.wr W12 (Or.inl (List.mem_of_getElem? (i := 0) rfl))
  have Z14 := Nat.le_trans Z11 (Keep.of_wr W12).1
  have N15 := Fr.snoc X12 N8 g_a1
  obtain ⟨fs, hr, hrun, hended, hW, hsame⟩ := X12.leave (v := none) (fun _ => rfl) (BodyLoose.notSynchronized Bd)
  refine ⟨_, _, pre0 _ ?_, hrun, hended, _, _, rfl, ?_, ⟨_, rfl⟩, hW, hsame.mono (by decide) (by decide)⟩
  · skip
    show Steps p.tables e below (s₁.setTop (mkF m 0 #[.val (.ref a1), .val (.int (Int32.ofNat n))] [])) _
    refine XS.aloadN X0.here hx rfl (hb hby own_d1_0) rfl rfl ?_
    show Steps p.tables e below (s₁.setTop (mkF m 1 #[.val (.ref a1), .val (.int (Int32.ofNat n))] [(.ref a1)])) _
    refine st1 _ ?_
    show Steps p.tables e below (T1.setTop (mkF m 4 #[.val (.ref a1), .val (.int (Int32.ofNat n))] [])) _
    refine XS.aloadN X1.here hx rfl (hb hby own_d1_4) rfl rfl ?_
    show Steps p.tables e below (T1.setTop (mkF m 5 #[.val (.ref a1), .val (.int (Int32.ofNat n))] [(.ref a1)])) _
    refine XS.iloadN X1.here hx rfl (hb hby own_d1_5) rfl ?_
    show Steps p.tables e below (T1.setTop (mkF m 6 #[.val (.ref a1), .val (.int (Int32.ofNat n))] [(.int (Int32.ofNat n)), (.ref a1)])) _
    refine st2 _ ?_
    show Steps p.tables e below (T2.setTop (mkF m 8 #[.val (.ref a1), .val (.int (Int32.ofNat n))] [(.ref bl), (.ref a1)])) _
    refine st5 _ ?_
    show Steps p.tables e below (T5.setTop (mkF m 11 #[.val (.ref a1), .val (.int (Int32.ofNat n))] [])) _
    refine XS.aloadN X5.here hx rfl (hb hby own_d1_11) rfl rfl ?_
    show Steps p.tables e below (T5.setTop (mkF m 12 #[.val (.ref a1), .val (.int (Int32.ofNat n))] [(.ref a1)])) _
    refine XS.iloadN X5.here hx rfl (hb hby own_d1_12) rfl ?_
    show Steps p.tables e below (T5.setTop (mkF m 13 #[.val (.ref a1), .val (.int (Int32.ofNat n))] [(.int (Int32.ofNat n)), (.ref a1)])) _
    refine st9 _ ?_
    show Steps p.tables e below (T9.setTop (mkF m 15 #[.val (.ref a1), .val (.int (Int32.ofNat n))] [(.ref wt), (.ref a1)])) _
    refine st12 _ ?_
    show Steps p.tables e below (T12.setTop (mkF m 18 #[.val (.ref a1), .val (.int (Int32.ofNat n))] [])) _
    exact X12.returnOut hx Bd.returns (hb hby own_d1_18) hr
  · show own_Q1 Z a1 n h0 n0 _ T12.heap _
    rw [e12]
    exact ⟨rfl, N15, K13, bl, wt, lt_a1_bl, lt_bl_wt, sz_bl, E_a1, F_blocks, F_isWaiting, F_count, ⟨fun _ => 0, V_bl, fun i hi => absurd hi (Nat.not_lt_zero i)⟩, V_wt.congr (fun i hi => rfl)⟩
theorem own_d3_0 : decode prog_48_method_2_code 0 = .ok (.aload_n 0, 1) := by decide +kernel
theorem own_d3_1 : decode prog_48_method_2_code 1 = .ok (.getfield 13, 3) := by decide +kernel
theorem own_d3_4 : decode prog_48_method_2_code 4 = .ok (.iload_n 1, 1) := by decide +kernel
theorem own_d3_5 : decode prog_48_method_2_code 5 = .ok (.baload, 1) := by decide +kernel
theorem own_d3_6 : decode prog_48_method_2_code 6 = .ok (.ifCond .eq 4, 3) := by decide +kernel
theorem own_d3_9 : decode prog_48_method_2_code 9 = .ok (.return_, 1) := by decide +kernel
theorem own_d3_10 : decode prog_48_method_2_code 10 = .ok (.aload_n 0, 1) := by decide +kernel
theorem own_d3_11 : decode prog_48_method_2_code 11 = .ok (.getfield 13, 3) := by decide +kernel
theorem own_d3_14 : decode prog_48_method_2_code 14 = .ok (.iload_n 1, 1) := by decide +kernel
theorem own_d3_15 : decode prog_48_method_2_code 15 = .ok (.iconst 1, 1) := by decide +kernel
theorem own_d3_16 : decode prog_48_method_2_code 16 = .ok (.bastore, 1) := by decide +kernel
theorem own_d3_17 : decode prog_48_method_2_code 17 = .ok (.aload_n 0, 1) := by decide +kernel
theorem own_d3_18 : decode prog_48_method_2_code 18 = .ok (.getfield 7, 3) := by decide +kernel
theorem own_d3_21 : decode prog_48_method_2_code 21 = .ok (.aload_n 0, 1) := by decide +kernel
theorem own_d3_22 : decode prog_48_method_2_code 22 = .ok (.dup, 1) := by decide +kernel
theorem own_d3_23 : decode prog_48_method_2_code 23 = .ok (.getfield 17, 3) := by decide +kernel
theorem own_d3_26 : decode prog_48_method_2_code 26 = .ok (.dup_x1, 1) := by decide +kernel
theorem own_d3_27 : decode prog_48_method_2_code 27 = .ok (.iconst 1, 1) := by decide +kernel
theorem own_d3_28 : decode prog_48_method_2_code 28 = .ok (.iadd, 1) := by decide +kernel
theorem own_d3_29 : decode prog_48_method_2_code 29 = .ok (.putfield 17, 3) := by decide +kernel
theorem own_d3_32 : decode prog_48_method_2_code 32 = .ok (.iload_n 1, 1) := by decide +kernel
theorem own_d3_33 : decode prog_48_method_2_code 33 = .ok (.iastore, 1) := by decide +kernel
theorem own_d3_34 : decode prog_48_method_2_code 34 = .ok (.return_, 1) := by decide +kernel
theorem own_ef3 (m : MethodId) (x0 : Addr) (x1 : Int32) : entryFrame m #[(.ref x0), (.int x1)] 2 = mkF m 0 #[.val (.ref x0), .val (.int x1)] [] := by first | (simp [entryFrame, mkF, argsToLocals, Value.category]; done) | rfl
def own_Q3 (Z : State) (a1 : Addr) (x : Nat) (bl : Addr) (wt : Addr) (n : Nat) (q : List Nat) (h0 : Heap) (n0 : Nat) (v : Option Value) (h : Heap) (L : List Loc) : Prop := v = none ∧ Fr n0 L ∧ Keep h0 h [a1, bl, wt] ∧ own_B Z a1 bl wt n (own_add q x) h
set_option maxRecDepth 65536 in
set_option maxHeartbeats 40000000 in
theorem own_rm3 (l : Launch) (Z : State) (a0 : Array Value) (hw : ∀ d ∈ tables_1, d.before a0 Z = true) (ws : List Jvm.Cond) (a1 : Addr) (x : Nat) (bl : Addr) (wt : Addr) (n : Nat) (q : List Nat) (h0 : Heap) (n0 : Nat) (Z0 : n0 ≤ h0.size) (g_a1 : n0 ≤ a1) (o1 : a1 < bl) (o2 : bl < wt) (hn4 : n ≤ 4) (hB : own_B Z a1 bl wt n q h0) (hx4 : x < n) (hr0 : own_room n q x) :
    MetFree l (⟨"com/example/wary_observer/waryobserver/equivalence/Splitters", "add", "(I)V"⟩ : MethodName) (head1 (Jvm.Cond.code (⟨"com/example/wary_observer/waryobserver/equivalence/Splitters", "add", "(I)V"⟩ : MethodName) prog_48_method_2_code 2 none :: ws) ({ frames := 0, cells := 0, slots := 0, locals := 0 } : Room)) (fun a U => a = #[(.ref a1), (.int (Int32.ofNat x))] ∧ Z.Warmed39 U.vm ∧ U.heap = h0) (fun _ _ _ _ _ => True) (fun _ U o U' => ∃ v L, o = .returned v ∧ own_Q3 Z a1 x bl wt n q h0 n0 v U'.heap L ∧ FrameEnd U o U' L ({ frames := 0, cells := 0, slots := 0, locals := 0 } : Room).cells ({ frames := 0, cells := 0, slots := 0, locals := 0 } : Room).slots) := by
  refine MetFree.of_bodySF (plainFor_of_name own_pn0) hisR ?_
  intro p e s m args below meth c s₁ Bd hml0 hP hK
  obtain ⟨rfl, hZ, hh⟩ := hP
  have hx := Bd.exec
  have hby := Bd.bytes
  have hml : c.maxLocals = 2 := hml0
  have hown : s.vm.findClass "com/example/wary_observer/waryobserver/equivalence/Splitters" = some m.cls := findClass_of_methodNamed Bd.named
  have hnm := (name_of_methodNamed Bd.named Bd.method).1
  have X0 : Stand p l e ({ frames := 0, cells := 0, slots := 0, locals := 0 } : Room) s m #[(.ref a1), (.int (Int32.ofNat x))] below meth c s₁ [] 0 0 := Stand.of_body Bd
  have e0 : s₁.heap = h0 := by rw [← hh, Bd.state]; rfl
  have N0 := Fr.nil n0
  have K0 := Keep.refl h0 [a1, bl, wt]
  have pre0 : ∀ t, Steps p.tables e below (s₁.setTop (mkF m 0 #[.val (.ref a1), .val (.int (Int32.ofNat x))] [])) t → Steps p.tables e below (s₁.setTop (entryFrame m #[(.ref a1), (.int (Int32.ofNat x))] 2)) t := fun t kt0 => castTop (own_ef3 m (a1) ((Int32.ofNat x))) kt0
  obtain ⟨E_a1, F_blocks, F_isWaiting, F_count, ⟨bf, V_bl, hbf⟩, V_wt⟩ := hB
  have ne_ab : a1 ≠ bl := Nat.ne_of_lt o1
  have ne_bw : bl ≠ wt := Nat.ne_of_lt o2
  have ne_aw : a1 ≠ wt := Nat.ne_of_lt (Nat.lt_trans o1 o2)
  have g_bl : n0 ≤ bl := Nat.le_trans g_a1 (Nat.le_of_lt o1)
  have g_wt : n0 ≤ wt := Nat.le_trans g_bl (Nat.le_of_lt o2)
  obtain ⟨T1, X1, e1, st1⟩ := getF X0 hx hZ hown (host := "") (Or.inl (hw _ (List.mem_of_getElem? (i := 14) rfl))) Via.refl e0 F_isWaiting (g := (mkF m 1 #[.val (.ref a1), .val (.int (Int32.ofNat x))] [(.ref a1)])) rfl rfl (hb hby own_d3_1)
  have ld2 := (own_ldZ X1 hx hZ e1 V_wt (j := (Int32.ofNat x)) (own_ix (Nat.lt_of_lt_of_le hx4 (by omega))).1 (k := x) (own_ix (Nat.lt_of_lt_of_le hx4 (by omega))).2 hx4 (v := (.int (own_w q x))) rfl (g := (mkF m 5 #[.val (.ref a1), .val (.int (Int32.ofNat x))] [(.int (Int32.ofNat x)), (.ref wt)])) rfl rfl (hb hby own_d3_5))
  have pre3 : ∀ t, Steps p.tables e below (T1.setTop (mkF m 6 #[.val (.ref a1), .val (.int (Int32.ofNat x))] [(.int (own_w q x))])) t → Steps p.tables e below (s₁.setTop (entryFrame m #[(.ref a1), (.int (Int32.ofNat x))] 2)) t := by
    intro t kt
    refine pre0 t ?_
    show Steps p.tables e below (s₁.setTop (mkF m 0 #[.val (.ref a1), .val (.int (Int32.ofNat x))] [])) _
    refine XS.aloadN X0.here hx rfl (hb hby own_d3_0) rfl rfl ?_
    show Steps p.tables e below (s₁.setTop (mkF m 1 #[.val (.ref a1), .val (.int (Int32.ofNat x))] [(.ref a1)])) _
    refine st1 _ ?_
    show Steps p.tables e below (T1.setTop (mkF m 4 #[.val (.ref a1), .val (.int (Int32.ofNat x))] [(.ref wt)])) _
    refine XS.iloadN X1.here hx rfl (hb hby own_d3_4) rfl ?_
    show Steps p.tables e below (T1.setTop (mkF m 5 #[.val (.ref a1), .val (.int (Int32.ofNat x))] [(.int (Int32.ofNat x)), (.ref wt)])) _
    refine ld2 _ ?_
    exact kt
  by_cases hc6 : (own_w q x) = (0 : Int32)
  case pos =>
    have hm : x ∉ q := own_w0.mp hc6
    obtain ⟨T4, X4, e4, st4⟩ := getF X1 hx hZ hown (host := "") (Or.inl (hw _ (List.mem_of_getElem? (i := 14) rfl))) Via.refl e1 F_isWaiting (g := (mkF m 11 #[.val (.ref a1), .val (.int (Int32.ofNat x))] [(.ref a1)])) rfl rfl (hb hby own_d3_11)
    obtain ⟨T5, h5, X5, e5, W5, V5, st5⟩ := own_stZ X4 hx hZ e4 V_wt (j := (Int32.ofNat x)) (own_ix (Nat.lt_of_lt_of_le hx4 (by omega))).1 (k := x) (own_ix (Nat.lt_of_lt_of_le hx4 (by omega))).2 hx4 (g := (mkF m 16 #[.val (.ref a1), .val (.int (Int32.ofNat x))] [(.int (1 : Int32)), (.int (Int32.ofNat x)), (.ref wt)])) rfl rfl (hb hby own_d3_16)
    have E_a1 := E_a1.wr W5
    have F_blocks := F_blocks.other W5 (Or.inl ne_aw)
    have F_isWaiting := F_isWaiting.other W5 (Or.inl ne_aw)
    have F_count := F_count.other W5 (Or.inl ne_aw)
    have V_bl := V_bl.other W5 ne_bw
    have K6 := K0.wr W5 (Or.inl (List.mem_of_getElem? (i := 2) rfl))
    have Z7 := Nat.le_trans Z0 (Keep.of_wr W5).1
    have N8 := Fr.snoc X5 N0 g_wt
    have V_wt := V5
    obtain ⟨T9, X9, e9, st9⟩ := getF X5 hx hZ hown (host := "") (Or.inl (hw _ (List.mem_of_getElem? (i := 11) rfl))) Via.refl e5 F_blocks (g := (mkF m 18 #[.val (.ref a1), .val (.int (Int32.ofNat x))] [(.ref a1)])) rfl rfl (hb hby own_d3_18)
    obtain ⟨T10, X10, e10, st10⟩ := getF X9 hx hZ hown (host := "") (Or.inl (hw _ (List.mem_of_getElem? (i := 21) rfl))) Via.refl e9 F_count (g := (mkF m 23 #[.val (.ref a1), .val (.int (Int32.ofNat x))] [(.ref a1), (.ref a1), (.ref bl)])) rfl rfl (hb hby own_d3_23)
    obtain ⟨T11, h11, X11, e11, W11, st11⟩ := putF X10 hx hZ hown (host := "") (Or.inl (hw _ (List.mem_of_getElem? (i := 21) rfl))) Via.refl e10 F_count E_a1 (Or.inl (hw _ (List.mem_of_getElem? (i := 22) rfl))) (hw _ (List.mem_of_getElem? (i := 2) rfl)) (ty := .int) (by decide) rfl rfl (g := (mkF m 29 #[.val (.ref a1), .val (.int (Int32.ofNat x))] [(.int ((Int32.ofNat q.length) + (1 : Int32))), (.ref a1), (.int (Int32.ofNat q.length)), (.ref bl)])) rfl rfl (hb hby own_d3_29)
    have E_a1 := E_a1.wr W11
    have F_blocks := F_blocks.other W11 (Or.inr (slot_ne (Or.inr (hw _ (List.mem_of_getElem? (i := 12) rfl))) (Or.inl (hw _ (List.mem_of_getElem? (i := 22) rfl))) (by decide) (t := (.array .int)) (t' := .int) (by decide) (by decide)))
    have F_isWaiting := F_isWaiting.other W11 (Or.inr (slot_ne (Or.inr (hw _ (List.mem_of_getElem? (i := 15) rfl))) (Or.inl (hw _ (List.mem_of_getElem? (i := 22) rfl))) (by decide) (t := (.array .boolean)) (t' := .int) (by decide) (by decide)))
    have F_count := F_count.same W11
    have V_bl := V_bl.other W11 (Ne.symm ne_ab)
    have V_wt := V_wt.other W11 (Ne.symm ne_aw)
    have K12 := K6.wr W11 (Or.inl (List.mem_of_getElem? (i := 0) rfl))
    have Z13 := Nat.le_trans Z7 (Keep.of_wr W11).1
    have N14 := Fr.snoc X11 N8 g_a1
    obtain ⟨T15, h15, X15, e15, W15, V15, st15⟩ := own_stI X11 hx hZ e11 V_bl (j := (Int32.ofNat q.length)) (own_ix (Nat.lt_of_lt_of_le (hr0.2 hm) (by omega))).1 (k := q.length) (own_ix (Nat.lt_of_lt_of_le (hr0.2 hm) (by omega))).2 (hr0.2 hm) (g := (mkF m 33 #[.val (.ref a1), .val (.int (Int32.ofNat x))] [(.int (Int32.ofNat x)), (.int (Int32.ofNat q.length)), (.ref bl)])) rfl rfl (hb hby own_d3_33)
    have E_a1 := E_a1.wr W15
    have F_blocks := F_blocks.other W15 (Or.inl ne_ab)
    have F_isWaiting := F_isWaiting.other W15 (Or.inl ne_ab)
    have F_count := F_count.other W15 (Or.inl ne_ab)
    have V_wt := V_wt.other W15 (Ne.symm ne_bw)
    have K16 := K12.wr W15 (Or.inl (List.mem_of_getElem? (i := 1) rfl))
    have Z17 := Nat.le_trans Z13 (Keep.of_wr W15).1
    have N18 := Fr.snoc X15 N14 g_bl
    have V_bl := V15
    obtain ⟨fs, hr, hrun, hended, hW, hsame⟩ := X15.leave (v := none) (fun _ => rfl) (BodyLoose.notSynchronized Bd)
    refine ⟨_, _, pre3 _ ?_, hrun, hended, _, _, rfl, ?_, ⟨_, rfl⟩, hW, hsame.mono (by decide) (by decide)⟩
    · skip
      show Steps p.tables e below (T1.setTop (mkF m 6 #[.val (.ref a1), .val (.int (Int32.ofNat x))] [(.int (own_w q x))])) _
      refine XS.ifYes X1.here hx rfl (pc0 := 6) (pc' := 10) rfl (hb hby own_d3_6) rfl ((if0 _ _).trans (teq hc6).1) (by decide) (by decide) ?_
      show Steps p.tables e below (T1.setTop (mkF m 10 #[.val (.ref a1), .val (.int (Int32.ofNat x))] [])) _
      refine XS.aloadN X1.here hx rfl (hb hby own_d3_10) rfl rfl ?_
      show Steps p.tables e below (T1.setTop (mkF m 11 #[.val (.ref a1), .val (.int (Int32.ofNat x))] [(.ref a1)])) _
      refine st4 _ ?_
      show Steps p.tables e below (T4.setTop (mkF m 14 #[.val (.ref a1), .val (.int (Int32.ofNat x))] [(.ref wt)])) _
      refine XS.iloadN X4.here hx rfl (hb hby own_d3_14) rfl ?_
      show Steps p.tables e below (T4.setTop (mkF m 15 #[.val (.ref a1), .val (.int (Int32.ofNat x))] [(.int (Int32.ofNat x)), (.ref wt)])) _
      refine XS.iconst X4.here hx rfl (hb hby own_d3_15) ?_
      show Steps p.tables e below (T4.setTop (mkF m 16 #[.val (.ref a1), .val (.int (Int32.ofNat x))] [(.int (1 : Int32)), (.int (Int32.ofNat x)), (.ref wt)])) _
      refine st5 _ ?_
      show Steps p.tables e below (T5.setTop (mkF m 17 #[.val (.ref a1), .val (.int (Int32.ofNat x))] [])) _
      refine XS.aloadN X5.here hx rfl (hb hby own_d3_17) rfl rfl ?_
      show Steps p.tables e below (T5.setTop (mkF m 18 #[.val (.ref a1), .val (.int (Int32.ofNat x))] [(.ref a1)])) _
      refine st9 _ ?_
      show Steps p.tables e below (T9.setTop (mkF m 21 #[.val (.ref a1), .val (.int (Int32.ofNat x))] [(.ref bl)])) _
      refine XS.aloadN X9.here hx rfl (hb hby own_d3_21) rfl rfl ?_
      show Steps p.tables e below (T9.setTop (mkF m 22 #[.val (.ref a1), .val (.int (Int32.ofNat x))] [(.ref a1), (.ref bl)])) _
      refine XS.dup X9.here hx rfl (hb hby own_d3_22) rfl rfl ?_
      show Steps p.tables e below (T9.setTop (mkF m 23 #[.val (.ref a1), .val (.int (Int32.ofNat x))] [(.ref a1), (.ref a1), (.ref bl)])) _
      refine st10 _ ?_
      show Steps p.tables e below (T10.setTop (mkF m 26 #[.val (.ref a1), .val (.int (Int32.ofNat x))] [(.int (Int32.ofNat q.length)), (.ref a1), (.ref bl)])) _
      refine XS.dupX1 X10.here hx rfl (hb hby own_d3_26) rfl rfl rfl ?_
      show Steps p.tables e below (T10.setTop (mkF m 27 #[.val (.ref a1), .val (.int (Int32.ofNat x))] [(.int (Int32.ofNat q.length)), (.ref a1), (.int (Int32.ofNat q.length)), (.ref bl)])) _
      refine XS.iconst X10.here hx rfl (hb hby own_d3_27) ?_
      show Steps p.tables e below (T10.setTop (mkF m 28 #[.val (.ref a1), .val (.int (Int32.ofNat x))] [(.int (1 : Int32)), (.int (Int32.ofNat q.length)), (.ref a1), (.int (Int32.ofNat q.length)), (.ref bl)])) _
      refine XS.iadd X10.here hx rfl (hb hby own_d3_28) rfl ?_
      show Steps p.tables e below (T10.setTop (mkF m 29 #[.val (.ref a1), .val (.int (Int32.ofNat x))] [(.int ((Int32.ofNat q.length) + (1 : Int32))), (.ref a1), (.int (Int32.ofNat q.length)), (.ref bl)])) _
      refine st11 _ ?_
      show Steps p.tables e below (T11.setTop (mkF m 32 #[.val (.ref a1), .val (.int (Int32.ofNat x))] [(.int (Int32.ofNat q.length)), (.ref bl)])) _
      refine XS.iloadN X11.here hx rfl (hb hby own_d3_32) rfl ?_
      show Steps p.tables e below (T11.setTop (mkF m 33 #[.val (.ref a1), .val (.int (Int32.ofNat x))] [(.int (Int32.ofNat x)), (.int (Int32.ofNat q.length)), (.ref bl)])) _
      refine st15 _ ?_
      show Steps p.tables e below (T15.setTop (mkF m 34 #[.val (.ref a1), .val (.int (Int32.ofNat x))] [])) _
      exact X15.returnOut hx Bd.returns (hb hby own_d3_34) hr
    · show own_Q3 Z a1 x bl wt n q h0 n0 _ T15.heap _
      rw [e15]
      have e1 : own_add q x = q ++ [x] := if_neg hm
      refine ⟨rfl, N18, K16, ?_⟩
      rw [e1]
      refine ⟨E_a1, F_blocks, F_isWaiting, by rw [List.length_append, List.length_singleton, Int32.ofNat_add]; exact F_count, ⟨fun i => if i = q.length then Int32.ofNat x else bf i, V_bl.congr (fun i hi => ?_), fun i hi => ?_⟩, V_wt.congr (fun i hi => ?_)⟩
      · by_cases w : i = q.length <;> simp [w]
      · rw [own_gadd q x i hi]
        by_cases w : i = q.length
        · simp [w]
        · simp only [w, if_false]
          refine hbf i ?_
          rw [List.length_append, List.length_singleton] at hi
          omega
      · rw [own_wadd]
        by_cases w : i = x
        · simp only [w, if_true]; rfl
        · simp only [w, if_false]
  case neg =>
    obtain ⟨fs, hr, hrun, hended, hW, hsame⟩ := X1.leave (v := none) (fun _ => rfl) (BodyLoose.notSynchronized Bd)
    refine ⟨_, _, pre3 _ ?_, hrun, hended, _, _, rfl, ?_, ⟨_, rfl⟩, hW, hsame.mono (by decide) (by decide)⟩
    · skip
      show Steps p.tables e below (T1.setTop (mkF m 6 #[.val (.ref a1), .val (.int (Int32.ofNat x))] [(.int (own_w q x))])) _
      refine XS.ifNo X1.here hx rfl (hb hby own_d3_6) rfl ((if0 _ _).trans (feq hc6).1) ?_
      show Steps p.tables e below (T1.setTop (mkF m 9 #[.val (.ref a1), .val (.int (Int32.ofNat x))] [])) _
      exact X1.returnOut hx Bd.returns (hb hby own_d3_9) hr
    · show own_Q3 Z a1 x bl wt n q h0 n0 _ T1.heap _
      rw [e1]
      have hm : x ∈ q := Decidable.of_not_not fun w => hc6 (own_w0.mpr w)
      have e1 : own_add q x = q := if_pos hm
      refine ⟨rfl, N0, K0, ?_⟩
      rw [e1]
      exact ⟨E_a1, F_blocks, F_isWaiting, F_count, ⟨bf, V_bl, hbf⟩, V_wt⟩
theorem own_d4_0 : decode method_2_code 0 = .ok (.iload_n 1, 1) := by decide +kernel
theorem own_d4_1 : decode method_2_code 1 = .ok (.ifCond .le 12, 3) := by decide +kernel
theorem own_d4_4 : decode method_2_code 4 = .ok (.aload_n 0, 1) := by decide +kernel
theorem own_d4_5 : decode method_2_code 5 = .ok (.iconst 0, 1) := by decide +kernel
theorem own_d4_6 : decode method_2_code 6 = .ok (.iaload, 1) := by decide +kernel
theorem own_d4_7 : decode method_2_code 7 = .ok (.iload_n 2, 1) := by decide +kernel
theorem own_d4_8 : decode method_2_code 8 = .ok (.if_icmp .ne 5, 3) := by decide +kernel
theorem own_d4_11 : decode method_2_code 11 = .ok (.iload_n 1, 1) := by decide +kernel
theorem own_d4_12 : decode method_2_code 12 = .ok (.ireturn, 1) := by decide +kernel
theorem own_d4_13 : decode method_2_code 13 = .ok (.iload_n 1, 1) := by decide +kernel
theorem own_d4_14 : decode method_2_code 14 = .ok (.iconst 1, 1) := by decide +kernel
theorem own_d4_15 : decode method_2_code 15 = .ok (.if_icmp .le 12, 3) := by decide +kernel
theorem own_d4_18 : decode method_2_code 18 = .ok (.aload_n 0, 1) := by decide +kernel
theorem own_d4_19 : decode method_2_code 19 = .ok (.iconst 1, 1) := by decide +kernel
theorem own_d4_20 : decode method_2_code 20 = .ok (.iaload, 1) := by decide +kernel
theorem own_d4_21 : decode method_2_code 21 = .ok (.iload_n 2, 1) := by decide +kernel
theorem own_d4_22 : decode method_2_code 22 = .ok (.if_icmp .ne 5, 3) := by decide +kernel
theorem own_d4_25 : decode method_2_code 25 = .ok (.iload_n 1, 1) := by decide +kernel
theorem own_d4_26 : decode method_2_code 26 = .ok (.ireturn, 1) := by decide +kernel
theorem own_d4_27 : decode method_2_code 27 = .ok (.iload_n 1, 1) := by decide +kernel
theorem own_d4_28 : decode method_2_code 28 = .ok (.iconst 2, 1) := by decide +kernel
theorem own_d4_29 : decode method_2_code 29 = .ok (.if_icmp .le 12, 3) := by decide +kernel
theorem own_d4_32 : decode method_2_code 32 = .ok (.aload_n 0, 1) := by decide +kernel
theorem own_d4_33 : decode method_2_code 33 = .ok (.iconst 2, 1) := by decide +kernel
theorem own_d4_34 : decode method_2_code 34 = .ok (.iaload, 1) := by decide +kernel
theorem own_d4_35 : decode method_2_code 35 = .ok (.iload_n 2, 1) := by decide +kernel
theorem own_d4_36 : decode method_2_code 36 = .ok (.if_icmp .ne 5, 3) := by decide +kernel
theorem own_d4_39 : decode method_2_code 39 = .ok (.iload_n 1, 1) := by decide +kernel
theorem own_d4_40 : decode method_2_code 40 = .ok (.ireturn, 1) := by decide +kernel
theorem own_d4_41 : decode method_2_code 41 = .ok (.iload_n 1, 1) := by decide +kernel
theorem own_d4_42 : decode method_2_code 42 = .ok (.iconst 3, 1) := by decide +kernel
theorem own_d4_43 : decode method_2_code 43 = .ok (.if_icmp .le 12, 3) := by decide +kernel
theorem own_d4_46 : decode method_2_code 46 = .ok (.aload_n 0, 1) := by decide +kernel
theorem own_d4_47 : decode method_2_code 47 = .ok (.iconst 3, 1) := by decide +kernel
theorem own_d4_48 : decode method_2_code 48 = .ok (.iaload, 1) := by decide +kernel
theorem own_d4_49 : decode method_2_code 49 = .ok (.iload_n 2, 1) := by decide +kernel
theorem own_d4_50 : decode method_2_code 50 = .ok (.if_icmp .ne 5, 3) := by decide +kernel
theorem own_d4_53 : decode method_2_code 53 = .ok (.iload_n 1, 1) := by decide +kernel
theorem own_d4_54 : decode method_2_code 54 = .ok (.ireturn, 1) := by decide +kernel
theorem own_d4_55 : decode method_2_code 55 = .ok (.aload_n 0, 1) := by decide +kernel
theorem own_d4_56 : decode method_2_code 56 = .ok (.iload_n 1, 1) := by decide +kernel
theorem own_d4_57 : decode method_2_code 57 = .ok (.iload_n 2, 1) := by decide +kernel
theorem own_d4_58 : decode method_2_code 58 = .ok (.iastore, 1) := by decide +kernel
theorem own_d4_59 : decode method_2_code 59 = .ok (.iload_n 1, 1) := by decide +kernel
theorem own_d4_60 : decode method_2_code 60 = .ok (.iconst 1, 1) := by decide +kernel
theorem own_d4_61 : decode method_2_code 61 = .ok (.iadd, 1) := by decide +kernel
theorem own_d4_62 : decode method_2_code 62 = .ok (.ireturn, 1) := by decide +kernel
theorem own_pn1 : plainName "com/example/wary_observer/waryobserver/equivalence/SplittersAddPinLaw" = true := by first | (simp [plainName, overriddenIn]; done) | decide +kernel
theorem own_ef4 (m : MethodId) (x0 : Addr) (x1 : Int32) (x2 : Int32) : entryFrame m #[(.ref x0), (.int x1), (.int x2)] 3 = mkF m 0 #[.val (.ref x0), .val (.int x1), .val (.int x2)] [] := by first | (simp [entryFrame, mkF, argsToLocals, Value.category]; done) | rfl
def own_Q4 (Z : State) (sa : Addr) (q : List Nat) (x : Nat) (h0 : Heap) (n0 : Nat) (v : Option Value) (h : Heap) (L : List Loc) : Prop := v = some (.int (Int32.ofNat (own_add q x).length)) ∧ Fr n0 L ∧ Keep h0 h [sa] ∧ own_T Z sa (own_add q x) h
set_option maxRecDepth 65536 in
set_option maxHeartbeats 40000000 in
theorem own_rm4 (l : Launch) (Z : State) (a0 : Array Value) (hw : ∀ d ∈ tables_1, d.before a0 Z = true) (ws : List Jvm.Cond) (sa : Addr) (q : List Nat) (x : Nat) (h0 : Heap) (n0 : Nat) (Z0 : n0 ≤ h0.size) (g_sa : n0 ≤ sa) (hT : own_T Z sa q h0) (hl4 : q.length ≤ 4) (hx4 : x < 4) (hall : ∀ y, y ∈ q → y < 4) :
    MetFree l (⟨"com/example/wary_observer/waryobserver/equivalence/SplittersAddPinLaw", "push", "([III)I"⟩ : MethodName) (head1 (Jvm.Cond.code (⟨"com/example/wary_observer/waryobserver/equivalence/SplittersAddPinLaw", "push", "([III)I"⟩ : MethodName) method_2_code 3 (some .int) :: ws) ({ frames := 0, cells := 0, slots := 0, locals := 0 } : Room)) (fun a U => a = #[(.ref sa), (.int (Int32.ofNat q.length)), (.int (Int32.ofNat x))] ∧ Z.Warmed39 U.vm ∧ U.heap = h0) (fun _ _ _ _ _ => True) (fun _ U o U' => ∃ v L, o = .returned v ∧ own_Q4 Z sa q x h0 n0 v U'.heap L ∧ FrameEnd U o U' L ({ frames := 0, cells := 0, slots := 0, locals := 0 } : Room).cells ({ frames := 0, cells := 0, slots := 0, locals := 0 } : Room).slots) := by
  refine MetFree.of_bodySF (plainFor_of_name own_pn1) hisR ?_
  intro p e s m args below meth c s₁ Bd hml0 hP hK
  obtain ⟨rfl, hZ, hh⟩ := hP
  have hx := Bd.exec
  have hby := Bd.bytes
  have hml : c.maxLocals = 3 := hml0
  have hown : s.vm.findClass "com/example/wary_observer/waryobserver/equivalence/SplittersAddPinLaw" = some m.cls := findClass_of_methodNamed Bd.named
  have hnm := (name_of_methodNamed Bd.named Bd.method).1
  have X0 : Stand p l e ({ frames := 0, cells := 0, slots := 0, locals := 0 } : Room) s m #[(.ref sa), (.int (Int32.ofNat q.length)), (.int (Int32.ofNat x))] below meth c s₁ [] 0 0 := Stand.of_body Bd
  have e0 : s₁.heap = h0 := by rw [← hh, Bd.state]; rfl
  have N0 := Fr.nil n0
  have K0 := Keep.refl h0 [sa]
  have pre0 : ∀ t, Steps p.tables e below (s₁.setTop (mkF m 0 #[.val (.ref sa), .val (.int (Int32.ofNat q.length)), .val (.int (Int32.ofNat x))] [])) t → Steps p.tables e below (s₁.setTop (entryFrame m #[(.ref sa), (.int (Int32.ofNat q.length)), (.int (Int32.ofNat x))] 3)) t := fun t kt0 => castTop (own_ef4 m (sa) ((Int32.ofNat q.length)) ((Int32.ofNat x))) kt0
  obtain ⟨sf, V_sa, hsf⟩ := hT
  have hqs : ∀ i, i < q.length → q.getD i 0 < 2 ^ 31 := fun i hi => by have := hall _ (own_mem hi rfl); omega
  have pre1 : ∀ t, Steps p.tables e below (s₁.setTop (mkF m 1 #[.val (.ref sa), .val (.int (Int32.ofNat q.length)), .val (.int (Int32.ofNat x))] [(.int (Int32.ofNat q.length))])) t → Steps p.tables e below (s₁.setTop (entryFrame m #[(.ref sa), (.int (Int32.ofNat q.length)), (.int (Int32.ofNat x))] 3)) t := by
    intro t kt
    refine pre0 t ?_
    show Steps p.tables e below (s₁.setTop (mkF m 0 #[.val (.ref sa), .val (.int (Int32.ofNat q.length)), .val (.int (Int32.ofNat x))] [])) _
    refine XS.iloadN X0.here hx rfl (hb hby own_d4_0) rfl ?_
    exact kt
  by_cases hc1 : (0 : Int32) < (Int32.ofNat q.length)
  case pos =>
    have ld2 := (own_ldI X0 hx hZ e0 V_sa (j := (0 : Int32)) (by decide) (k := 0) rfl (by decide) (v := (.int (sf 0))) rfl (g := (mkF m 6 #[.val (.ref sa), .val (.int (Int32.ofNat q.length)), .val (.int (Int32.ofNat x))] [(.int (0 : Int32)), (.ref sa)])) rfl rfl (hb hby own_d4_6))
    have pre3 : ∀ t, Steps p.tables e below (s₁.setTop (mkF m 8 #[.val (.ref sa), .val (.int (Int32.ofNat q.length)), .val (.int (Int32.ofNat x))] [(.int (Int32.ofNat x)), (.int (sf 0))])) t → Steps p.tables e below (s₁.setTop (entryFrame m #[(.ref sa), (.int (Int32.ofNat q.length)), (.int (Int32.ofNat x))] 3)) t := by
      intro t kt
      refine pre1 t ?_
      show Steps p.tables e below (s₁.setTop (mkF m 1 #[.val (.ref sa), .val (.int (Int32.ofNat q.length)), .val (.int (Int32.ofNat x))] [(.int (Int32.ofNat q.length))])) _
      refine XS.ifNo X0.here hx rfl (hb hby own_d4_1) rfl ((if0 _ _).trans (tlt hc1).2.2.2) ?_
      show Steps p.tables e below (s₁.setTop (mkF m 4 #[.val (.ref sa), .val (.int (Int32.ofNat q.length)), .val (.int (Int32.ofNat x))] [])) _
      refine XS.aloadN X0.here hx rfl (hb hby own_d4_4) rfl rfl ?_
      show Steps p.tables e below (s₁.setTop (mkF m 5 #[.val (.ref sa), .val (.int (Int32.ofNat q.length)), .val (.int (Int32.ofNat x))] [(.ref sa)])) _
      refine XS.iconst X0.here hx rfl (hb hby own_d4_5) ?_
      show Steps p.tables e below (s₁.setTop (mkF m 6 #[.val (.ref sa), .val (.int (Int32.ofNat q.length)), .val (.int (Int32.ofNat x))] [(.int (0 : Int32)), (.ref sa)])) _
      refine ld2 _ ?_
      show Steps p.tables e below (s₁.setTop (mkF m 7 #[.val (.ref sa), .val (.int (Int32.ofNat q.length)), .val (.int (Int32.ofNat x))] [(.int (sf 0))])) _
      refine XS.iloadN X0.here hx rfl (hb hby own_d4_7) rfl ?_
      exact kt
    by_cases hc8 : (sf 0) = (Int32.ofNat x)
    case pos =>
      obtain ⟨fs, hr, hrun, hended, hW, hsame⟩ := X0.leave (v := some (.int (Int32.ofNat q.length))) (fun h => by rw [Bd.returns] at h; cases h) (BodyLoose.notSynchronized Bd)
      refine ⟨_, _, pre3 _ ?_, hrun, hended, _, _, rfl, ?_, ⟨_, rfl⟩, hW, hsame.mono (by decide) (by decide)⟩
      · skip
        show Steps p.tables e below (s₁.setTop (mkF m 8 #[.val (.ref sa), .val (.int (Int32.ofNat q.length)), .val (.int (Int32.ofNat x))] [(.int (Int32.ofNat x)), (.int (sf 0))])) _
        refine XS.icmpNo X0.here hx rfl (hb hby own_d4_8) rfl (teq hc8).2 ?_
        show Steps p.tables e below (s₁.setTop (mkF m 11 #[.val (.ref sa), .val (.int (Int32.ofNat q.length)), .val (.int (Int32.ofNat x))] [])) _
        refine XS.iloadN X0.here hx rfl (hb hby own_d4_11) rfl ?_
        show Steps p.tables e below (s₁.setTop (mkF m 12 #[.val (.ref sa), .val (.int (Int32.ofNat q.length)), .val (.int (Int32.ofNat x))] [(.int (Int32.ofNat q.length))])) _
        exact retI X0 hx Bd.returns (hb hby own_d4_12) hr
      · show own_Q4 Z sa q x h0 n0 _ s₁.heap _
        rw [e0]
        have k0 : 0 < q.length := (own_ltn (by decide) (by omega)).mp hc1
        have e0_ : q.getD 0 0 = x := (own_eqn (hqs 0 k0) (by omega)).mp ((hsf 0 k0).symm.trans hc8)
        have hm : x ∈ q := own_mem k0 e0_
        have e1 : own_add q x = q := if_pos hm
        refine ⟨?_, N0, K0, ?_⟩
        · rw [e1]
        · rw [e1]; exact ⟨sf, V_sa, hsf⟩
    case neg =>
      have pre4 : ∀ t, Steps p.tables e below (s₁.setTop (mkF m 15 #[.val (.ref sa), .val (.int (Int32.ofNat q.length)), .val (.int (Int32.ofNat x))] [(.int (1 : Int32)), (.int (Int32.ofNat q.length))])) t → Steps p.tables e below (s₁.setTop (entryFrame m #[(.ref sa), (.int (Int32.ofNat q.length)), (.int (Int32.ofNat x))] 3)) t := by
        intro t kt
        refine pre3 t ?_
        show Steps p.tables e below (s₁.setTop (mkF m 8 #[.val (.ref sa), .val (.int (Int32.ofNat q.length)), .val (.int (Int32.ofNat x))] [(.int (Int32.ofNat x)), (.int (sf 0))])) _
        refine XS.icmpYes X0.here hx rfl (pc0 := 8) (pc' := 13) rfl (hb hby own_d4_8) rfl (feq hc8).2 (by decide) (by decide) ?_
        show Steps p.tables e below (s₁.setTop (mkF m 13 #[.val (.ref sa), .val (.int (Int32.ofNat q.length)), .val (.int (Int32.ofNat x))] [])) _
        refine XS.iloadN X0.here hx rfl (hb hby own_d4_13) rfl ?_
        show Steps p.tables e below (s₁.setTop (mkF m 14 #[.val (.ref sa), .val (.int (Int32.ofNat q.length)), .val (.int (Int32.ofNat x))] [(.int (Int32.ofNat q.length))])) _
        refine XS.iconst X0.here hx rfl (hb hby own_d4_14) ?_
        exact kt
      by_cases hc15 : (1 : Int32) < (Int32.ofNat q.length)
      case pos =>
        have ld5 := (own_ldI X0 hx hZ e0 V_sa (j := (1 : Int32)) (by decide) (k := 1) rfl (by decide) (v := (.int (sf 1))) rfl (g := (mkF m 20 #[.val (.ref sa), .val (.int (Int32.ofNat q.length)), .val (.int (Int32.ofNat x))] [(.int (1 : Int32)), (.ref sa)])) rfl rfl (hb hby own_d4_20))
        have pre6 : ∀ t, Steps p.tables e below (s₁.setTop (mkF m 22 #[.val (.ref sa), .val (.int (Int32.ofNat q.length)), .val (.int (Int32.ofNat x))] [(.int (Int32.ofNat x)), (.int (sf 1))])) t → Steps p.tables e below (s₁.setTop (entryFrame m #[(.ref sa), (.int (Int32.ofNat q.length)), (.int (Int32.ofNat x))] 3)) t := by
          intro t kt
          refine pre4 t ?_
          show Steps p.tables e below (s₁.setTop (mkF m 15 #[.val (.ref sa), .val (.int (Int32.ofNat q.length)), .val (.int (Int32.ofNat x))] [(.int (1 : Int32)), (.int (Int32.ofNat q.length))])) _
          refine XS.icmpNo X0.here hx rfl (hb hby own_d4_15) rfl (tlt hc15).2.2.2 ?_
          show Steps p.tables e below (s₁.setTop (mkF m 18 #[.val (.ref sa), .val (.int (Int32.ofNat q.length)), .val (.int (Int32.ofNat x))] [])) _
          refine XS.aloadN X0.here hx rfl (hb hby own_d4_18) rfl rfl ?_
          show Steps p.tables e below (s₁.setTop (mkF m 19 #[.val (.ref sa), .val (.int (Int32.ofNat q.length)), .val (.int (Int32.ofNat x))] [(.ref sa)])) _
          refine XS.iconst X0.here hx rfl (hb hby own_d4_19) ?_
          show Steps p.tables e below (s₁.setTop (mkF m 20 #[.val (.ref sa), .val (.int (Int32.ofNat q.length)), .val (.int (Int32.ofNat x))] [(.int (1 : Int32)), (.ref sa)])) _
          refine ld5 _ ?_
          show Steps p.tables e below (s₁.setTop (mkF m 21 #[.val (.ref sa), .val (.int (Int32.ofNat q.length)), .val (.int (Int32.ofNat x))] [(.int (sf 1))])) _
          refine XS.iloadN X0.here hx rfl (hb hby own_d4_21) rfl ?_
          exact kt
        by_cases hc22 : (sf 1) = (Int32.ofNat x)
        case pos =>
          obtain ⟨fs, hr, hrun, hended, hW, hsame⟩ := X0.leave (v := some (.int (Int32.ofNat q.length))) (fun h => by rw [Bd.returns] at h; cases h) (BodyLoose.notSynchronized Bd)
          refine ⟨_, _, pre6 _ ?_, hrun, hended, _, _, rfl, ?_, ⟨_, rfl⟩, hW, hsame.mono (by decide) (by decide)⟩
          · skip
            show Steps p.tables e below (s₁.setTop (mkF m 22 #[.val (.ref sa), .val (.int (Int32.ofNat q.length)), .val (.int (Int32.ofNat x))] [(.int (Int32.ofNat x)), (.int (sf 1))])) _
            refine XS.icmpNo X0.here hx rfl (hb hby own_d4_22) rfl (teq hc22).2 ?_
            show Steps p.tables e below (s₁.setTop (mkF m 25 #[.val (.ref sa), .val (.int (Int32.ofNat q.length)), .val (.int (Int32.ofNat x))] [])) _
            refine XS.iloadN X0.here hx rfl (hb hby own_d4_25) rfl ?_
            show Steps p.tables e below (s₁.setTop (mkF m 26 #[.val (.ref sa), .val (.int (Int32.ofNat q.length)), .val (.int (Int32.ofNat x))] [(.int (Int32.ofNat q.length))])) _
            exact retI X0 hx Bd.returns (hb hby own_d4_26) hr
          · show own_Q4 Z sa q x h0 n0 _ s₁.heap _
            rw [e0]
            have k0 : 0 < q.length := (own_ltn (by decide) (by omega)).mp hc1
            have e0_ : ¬ q.getD 0 0 = x := fun w => hc8 ((hsf 0 k0).trans (congrArg Int32.ofNat w))
            have k1 : 1 < q.length := (own_ltn (by decide) (by omega)).mp hc15
            have e1_ : q.getD 1 0 = x := (own_eqn (hqs 1 k1) (by omega)).mp ((hsf 1 k1).symm.trans hc22)
            have hm : x ∈ q := own_mem k1 e1_
            have e1 : own_add q x = q := if_pos hm
            refine ⟨?_, N0, K0, ?_⟩
            · rw [e1]
            · rw [e1]; exact ⟨sf, V_sa, hsf⟩
        case neg =>
          have pre7 : ∀ t, Steps p.tables e below (s₁.setTop (mkF m 29 #[.val (.ref sa), .val (.int (Int32.ofNat q.length)), .val (.int (Int32.ofNat x))] [(.int (2 : Int32)), (.int (Int32.ofNat q.length))])) t → Steps p.tables e below (s₁.setTop (entryFrame m #[(.ref sa), (.int (Int32.ofNat q.length)), (.int (Int32.ofNat x))] 3)) t := by
            intro t kt
            refine pre6 t ?_
            show Steps p.tables e below (s₁.setTop (mkF m 22 #[.val (.ref sa), .val (.int (Int32.ofNat q.length)), .val (.int (Int32.ofNat x))] [(.int (Int32.ofNat x)), (.int (sf 1))])) _
            refine XS.icmpYes X0.here hx rfl (pc0 := 22) (pc' := 27) rfl (hb hby own_d4_22) rfl (feq hc22).2 (by decide) (by decide) ?_
            show Steps p.tables e below (s₁.setTop (mkF m 27 #[.val (.ref sa), .val (.int (Int32.ofNat q.length)), .val (.int (Int32.ofNat x))] [])) _
            refine XS.iloadN X0.here hx rfl (hb hby own_d4_27) rfl ?_
            show Steps p.tables e below (s₁.setTop (mkF m 28 #[.val (.ref sa), .val (.int (Int32.ofNat q.length)), .val (.int (Int32.ofNat x))] [(.int (Int32.ofNat q.length))])) _
            refine XS.iconst X0.here hx rfl (hb hby own_d4_28) ?_
            exact kt
          by_cases hc29 : (2 : Int32) < (Int32.ofNat q.length)
          case pos =>
            have ld8 := (own_ldI X0 hx hZ e0 V_sa (j := (2 : Int32)) (by decide) (k := 2) rfl (by decide) (v := (.int (sf 2))) rfl (g := (mkF m 34 #[.val (.ref sa), .val (.int (Int32.ofNat q.length)), .val (.int (Int32.ofNat x))] [(.int (2 : Int32)), (.ref sa)])) rfl rfl (hb hby own_d4_34))
            have pre9 : ∀ t, Steps p.tables e below (s₁.setTop (mkF m 36 #[.val (.ref sa), .val (.int (Int32.ofNat q.length)), .val (.int (Int32.ofNat x))] [(.int (Int32.ofNat x)), (.int (sf 2))])) t → Steps p.tables e below (s₁.setTop (entryFrame m #[(.ref sa), (.int (Int32.ofNat q.length)), (.int (Int32.ofNat x))] 3)) t := by
              intro t kt
              refine pre7 t ?_
              show Steps p.tables e below (s₁.setTop (mkF m 29 #[.val (.ref sa), .val (.int (Int32.ofNat q.length)), .val (.int (Int32.ofNat x))] [(.int (2 : Int32)), (.int (Int32.ofNat q.length))])) _
              refine XS.icmpNo X0.here hx rfl (hb hby own_d4_29) rfl (tlt hc29).2.2.2 ?_
              show Steps p.tables e below (s₁.setTop (mkF m 32 #[.val (.ref sa), .val (.int (Int32.ofNat q.length)), .val (.int (Int32.ofNat x))] [])) _
              refine XS.aloadN X0.here hx rfl (hb hby own_d4_32) rfl rfl ?_
              show Steps p.tables e below (s₁.setTop (mkF m 33 #[.val (.ref sa), .val (.int (Int32.ofNat q.length)), .val (.int (Int32.ofNat x))] [(.ref sa)])) _
              refine XS.iconst X0.here hx rfl (hb hby own_d4_33) ?_
              show Steps p.tables e below (s₁.setTop (mkF m 34 #[.val (.ref sa), .val (.int (Int32.ofNat q.length)), .val (.int (Int32.ofNat x))] [(.int (2 : Int32)), (.ref sa)])) _
              refine ld8 _ ?_
              show Steps p.tables e below (s₁.setTop (mkF m 35 #[.val (.ref sa), .val (.int (Int32.ofNat q.length)), .val (.int (Int32.ofNat x))] [(.int (sf 2))])) _
              refine XS.iloadN X0.here hx rfl (hb hby own_d4_35) rfl ?_
              exact kt
            by_cases hc36 : (sf 2) = (Int32.ofNat x)
            case pos =>
              obtain ⟨fs, hr, hrun, hended, hW, hsame⟩ := X0.leave (v := some (.int (Int32.ofNat q.length))) (fun h => by rw [Bd.returns] at h; cases h) (BodyLoose.notSynchronized Bd)
              refine ⟨_, _, pre9 _ ?_, hrun, hended, _, _, rfl, ?_, ⟨_, rfl⟩, hW, hsame.mono (by decide) (by decide)⟩
              · skip
                show Steps p.tables e below (s₁.setTop (mkF m 36 #[.val (.ref sa), .val (.int (Int32.ofNat q.length)), .val (.int (Int32.ofNat x))] [(.int (Int32.ofNat x)), (.int (sf 2))])) _
                refine XS.icmpNo X0.here hx rfl (hb hby own_d4_36) rfl (teq hc36).2 ?_
                show Steps p.tables e below (s₁.setTop (mkF m 39 #[.val (.ref sa), .val (.int (Int32.ofNat q.length)), .val (.int (Int32.ofNat x))] [])) _
                refine XS.iloadN X0.here hx rfl (hb hby own_d4_39) rfl ?_
                show Steps p.tables e below (s₁.setTop (mkF m 40 #[.val (.ref sa), .val (.int (Int32.ofNat q.length)), .val (.int (Int32.ofNat x))] [(.int (Int32.ofNat q.length))])) _
                exact retI X0 hx Bd.returns (hb hby own_d4_40) hr
              · show own_Q4 Z sa q x h0 n0 _ s₁.heap _
                rw [e0]
                have k0 : 0 < q.length := (own_ltn (by decide) (by omega)).mp hc1
                have e0_ : ¬ q.getD 0 0 = x := fun w => hc8 ((hsf 0 k0).trans (congrArg Int32.ofNat w))
                have k1 : 1 < q.length := (own_ltn (by decide) (by omega)).mp hc15
                have e1_ : ¬ q.getD 1 0 = x := fun w => hc22 ((hsf 1 k1).trans (congrArg Int32.ofNat w))
                have k2 : 2 < q.length := (own_ltn (by decide) (by omega)).mp hc29
                have e2_ : q.getD 2 0 = x := (own_eqn (hqs 2 k2) (by omega)).mp ((hsf 2 k2).symm.trans hc36)
                have hm : x ∈ q := own_mem k2 e2_
                have e1 : own_add q x = q := if_pos hm
                refine ⟨?_, N0, K0, ?_⟩
                · rw [e1]
                · rw [e1]; exact ⟨sf, V_sa, hsf⟩
            case neg =>
              have pre10 : ∀ t, Steps p.tables e below (s₁.setTop (mkF m 43 #[.val (.ref sa), .val (.int (Int32.ofNat q.length)), .val (.int (Int32.ofNat x))] [(.int (3 : Int32)), (.int (Int32.ofNat q.length))])) t → Steps p.tables e below (s₁.setTop (entryFrame m #[(.ref sa), (.int (Int32.ofNat q.length)), (.int (Int32.ofNat x))] 3)) t := by
                intro t kt
                refine pre9 t ?_
                show Steps p.tables e below (s₁.setTop (mkF m 36 #[.val (.ref sa), .val (.int (Int32.ofNat q.length)), .val (.int (Int32.ofNat x))] [(.int (Int32.ofNat x)), (.int (sf 2))])) _
                refine XS.icmpYes X0.here hx rfl (pc0 := 36) (pc' := 41) rfl (hb hby own_d4_36) rfl (feq hc36).2 (by decide) (by decide) ?_
                show Steps p.tables e below (s₁.setTop (mkF m 41 #[.val (.ref sa), .val (.int (Int32.ofNat q.length)), .val (.int (Int32.ofNat x))] [])) _
                refine XS.iloadN X0.here hx rfl (hb hby own_d4_41) rfl ?_
                show Steps p.tables e below (s₁.setTop (mkF m 42 #[.val (.ref sa), .val (.int (Int32.ofNat q.length)), .val (.int (Int32.ofNat x))] [(.int (Int32.ofNat q.length))])) _
                refine XS.iconst X0.here hx rfl (hb hby own_d4_42) ?_
                exact kt
              by_cases hc43 : (3 : Int32) < (Int32.ofNat q.length)
              case pos =>
                have ld11 := (own_ldI X0 hx hZ e0 V_sa (j := (3 : Int32)) (by decide) (k := 3) rfl (by decide) (v := (.int (sf 3))) rfl (g := (mkF m 48 #[.val (.ref sa), .val (.int (Int32.ofNat q.length)), .val (.int (Int32.ofNat x))] [(.int (3 : Int32)), (.ref sa)])) rfl rfl (hb hby own_d4_48))
                have pre12 : ∀ t, Steps p.tables e below (s₁.setTop (mkF m 50 #[.val (.ref sa), .val (.int (Int32.ofNat q.length)), .val (.int (Int32.ofNat x))] [(.int (Int32.ofNat x)), (.int (sf 3))])) t → Steps p.tables e below (s₁.setTop (entryFrame m #[(.ref sa), (.int (Int32.ofNat q.length)), (.int (Int32.ofNat x))] 3)) t := by
                  intro t kt
                  refine pre10 t ?_
                  show Steps p.tables e below (s₁.setTop (mkF m 43 #[.val (.ref sa), .val (.int (Int32.ofNat q.length)), .val (.int (Int32.ofNat x))] [(.int (3 : Int32)), (.int (Int32.ofNat q.length))])) _
                  refine XS.icmpNo X0.here hx rfl (hb hby own_d4_43) rfl (tlt hc43).2.2.2 ?_
                  show Steps p.tables e below (s₁.setTop (mkF m 46 #[.val (.ref sa), .val (.int (Int32.ofNat q.length)), .val (.int (Int32.ofNat x))] [])) _
                  refine XS.aloadN X0.here hx rfl (hb hby own_d4_46) rfl rfl ?_
                  show Steps p.tables e below (s₁.setTop (mkF m 47 #[.val (.ref sa), .val (.int (Int32.ofNat q.length)), .val (.int (Int32.ofNat x))] [(.ref sa)])) _
                  refine XS.iconst X0.here hx rfl (hb hby own_d4_47) ?_
                  show Steps p.tables e below (s₁.setTop (mkF m 48 #[.val (.ref sa), .val (.int (Int32.ofNat q.length)), .val (.int (Int32.ofNat x))] [(.int (3 : Int32)), (.ref sa)])) _
                  refine ld11 _ ?_
                  show Steps p.tables e below (s₁.setTop (mkF m 49 #[.val (.ref sa), .val (.int (Int32.ofNat q.length)), .val (.int (Int32.ofNat x))] [(.int (sf 3))])) _
                  refine XS.iloadN X0.here hx rfl (hb hby own_d4_49) rfl ?_
                  exact kt
                by_cases hc50 : (sf 3) = (Int32.ofNat x)
                case pos =>
                  obtain ⟨fs, hr, hrun, hended, hW, hsame⟩ := X0.leave (v := some (.int (Int32.ofNat q.length))) (fun h => by rw [Bd.returns] at h; cases h) (BodyLoose.notSynchronized Bd)
                  refine ⟨_, _, pre12 _ ?_, hrun, hended, _, _, rfl, ?_, ⟨_, rfl⟩, hW, hsame.mono (by decide) (by decide)⟩
                  · skip
                    show Steps p.tables e below (s₁.setTop (mkF m 50 #[.val (.ref sa), .val (.int (Int32.ofNat q.length)), .val (.int (Int32.ofNat x))] [(.int (Int32.ofNat x)), (.int (sf 3))])) _
                    refine XS.icmpNo X0.here hx rfl (hb hby own_d4_50) rfl (teq hc50).2 ?_
                    show Steps p.tables e below (s₁.setTop (mkF m 53 #[.val (.ref sa), .val (.int (Int32.ofNat q.length)), .val (.int (Int32.ofNat x))] [])) _
                    refine XS.iloadN X0.here hx rfl (hb hby own_d4_53) rfl ?_
                    show Steps p.tables e below (s₁.setTop (mkF m 54 #[.val (.ref sa), .val (.int (Int32.ofNat q.length)), .val (.int (Int32.ofNat x))] [(.int (Int32.ofNat q.length))])) _
                    exact retI X0 hx Bd.returns (hb hby own_d4_54) hr
                  · show own_Q4 Z sa q x h0 n0 _ s₁.heap _
                    rw [e0]
                    have k0 : 0 < q.length := (own_ltn (by decide) (by omega)).mp hc1
                    have e0_ : ¬ q.getD 0 0 = x := fun w => hc8 ((hsf 0 k0).trans (congrArg Int32.ofNat w))
                    have k1 : 1 < q.length := (own_ltn (by decide) (by omega)).mp hc15
                    have e1_ : ¬ q.getD 1 0 = x := fun w => hc22 ((hsf 1 k1).trans (congrArg Int32.ofNat w))
                    have k2 : 2 < q.length := (own_ltn (by decide) (by omega)).mp hc29
                    have e2_ : ¬ q.getD 2 0 = x := fun w => hc36 ((hsf 2 k2).trans (congrArg Int32.ofNat w))
                    have k3 : 3 < q.length := (own_ltn (by decide) (by omega)).mp hc43
                    have e3_ : q.getD 3 0 = x := (own_eqn (hqs 3 k3) (by omega)).mp ((hsf 3 k3).symm.trans hc50)
                    have hm : x ∈ q := own_mem k3 e3_
                    have e1 : own_add q x = q := if_pos hm
                    refine ⟨?_, N0, K0, ?_⟩
                    · rw [e1]
                    · rw [e1]; exact ⟨sf, V_sa, hsf⟩
                case neg =>
                  obtain ⟨T13, h13, X13, e13, W13, V13, st13⟩ := own_stI X0 hx hZ e0 V_sa (j := (Int32.ofNat q.length)) (own_ix (by omega)).1 (k := q.length) (own_ix (by omega)).2 (by omega) (g := (mkF m 58 #[.val (.ref sa), .val (.int (Int32.ofNat q.length)), .val (.int (Int32.ofNat x))] [(.int (Int32.ofNat x)), (.int (Int32.ofNat q.length)), (.ref sa)])) rfl rfl (hb hby own_d4_58)
                  have K14 := K0.wr W13 (Or.inl (List.mem_of_getElem? (i := 0) rfl))
                  have Z15 := Nat.le_trans Z0 (Keep.of_wr W13).1
                  have N16 := Fr.snoc X13 N0 g_sa
                  have V_sa := V13
                  obtain ⟨fs, hr, hrun, hended, hW, hsame⟩ := X13.leave (v := some (.int ((Int32.ofNat q.length) + (1 : Int32)))) (fun h => by rw [Bd.returns] at h; cases h) (BodyLoose.notSynchronized Bd)
                  refine ⟨_, _, pre12 _ ?_, hrun, hended, _, _, rfl, ?_, ⟨_, rfl⟩, hW, hsame.mono (by decide) (by decide)⟩
                  · skip
                    show Steps p.tables e below (s₁.setTop (mkF m 50 #[.val (.ref sa), .val (.int (Int32.ofNat q.length)), .val (.int (Int32.ofNat x))] [(.int (Int32.ofNat x)), (.int (sf 3))])) _
                    refine XS.icmpYes X0.here hx rfl (pc0 := 50) (pc' := 55) rfl (hb hby own_d4_50) rfl (feq hc50).2 (by decide) (by decide) ?_
                    show Steps p.tables e below (s₁.setTop (mkF m 55 #[.val (.ref sa), .val (.int (Int32.ofNat q.length)), .val (.int (Int32.ofNat x))] [])) _
                    refine XS.aloadN X0.here hx rfl (hb hby own_d4_55) rfl rfl ?_
                    show Steps p.tables e below (s₁.setTop (mkF m 56 #[.val (.ref sa), .val (.int (Int32.ofNat q.length)), .val (.int (Int32.ofNat x))] [(.ref sa)])) _
                    refine XS.iloadN X0.here hx rfl (hb hby own_d4_56) rfl ?_
                    show Steps p.tables e below (s₁.setTop (mkF m 57 #[.val (.ref sa), .val (.int (Int32.ofNat q.length)), .val (.int (Int32.ofNat x))] [(.int (Int32.ofNat q.length)), (.ref sa)])) _
                    refine XS.iloadN X0.here hx rfl (hb hby own_d4_57) rfl ?_
                    show Steps p.tables e below (s₁.setTop (mkF m 58 #[.val (.ref sa), .val (.int (Int32.ofNat q.length)), .val (.int (Int32.ofNat x))] [(.int (Int32.ofNat x)), (.int (Int32.ofNat q.length)), (.ref sa)])) _
                    refine st13 _ ?_
                    show Steps p.tables e below (T13.setTop (mkF m 59 #[.val (.ref sa), .val (.int (Int32.ofNat q.length)), .val (.int (Int32.ofNat x))] [])) _
                    refine XS.iloadN X13.here hx rfl (hb hby own_d4_59) rfl ?_
                    show Steps p.tables e below (T13.setTop (mkF m 60 #[.val (.ref sa), .val (.int (Int32.ofNat q.length)), .val (.int (Int32.ofNat x))] [(.int (Int32.ofNat q.length))])) _
                    refine XS.iconst X13.here hx rfl (hb hby own_d4_60) ?_
                    show Steps p.tables e below (T13.setTop (mkF m 61 #[.val (.ref sa), .val (.int (Int32.ofNat q.length)), .val (.int (Int32.ofNat x))] [(.int (1 : Int32)), (.int (Int32.ofNat q.length))])) _
                    refine XS.iadd X13.here hx rfl (hb hby own_d4_61) rfl ?_
                    show Steps p.tables e below (T13.setTop (mkF m 62 #[.val (.ref sa), .val (.int (Int32.ofNat q.length)), .val (.int (Int32.ofNat x))] [(.int ((Int32.ofNat q.length) + (1 : Int32)))])) _
                    exact retI X13 hx Bd.returns (hb hby own_d4_62) hr
                  · show own_Q4 Z sa q x h0 n0 _ T13.heap _
                    rw [e13]
                    have k0 : 0 < q.length := (own_ltn (by decide) (by omega)).mp hc1
                    have e0_ : ¬ q.getD 0 0 = x := fun w => hc8 ((hsf 0 k0).trans (congrArg Int32.ofNat w))
                    have k1 : 1 < q.length := (own_ltn (by decide) (by omega)).mp hc15
                    have e1_ : ¬ q.getD 1 0 = x := fun w => hc22 ((hsf 1 k1).trans (congrArg Int32.ofNat w))
                    have k2 : 2 < q.length := (own_ltn (by decide) (by omega)).mp hc29
                    have e2_ : ¬ q.getD 2 0 = x := fun w => hc36 ((hsf 2 k2).trans (congrArg Int32.ofNat w))
                    have k3 : 3 < q.length := (own_ltn (by decide) (by omega)).mp hc43
                    have e3_ : ¬ q.getD 3 0 = x := fun w => hc50 ((hsf 3 k3).trans (congrArg Int32.ofNat w))
                    have hm : x ∉ q := own_nmem hl4 (fun w => by first | exact absurd w k0 | exact e0_) (fun w => by first | exact absurd w k1 | exact e1_) (fun w => by first | exact absurd w k2 | exact e2_) (fun w => by first | exact absurd w k3 | exact e3_)
                    have e1 : own_add q x = q ++ [x] := if_neg hm
                    refine ⟨?_, N16, K14, ?_⟩
                    · rw [e1, List.length_append, List.length_singleton, Int32.ofNat_add]; rfl
                    · rw [e1]
                      refine ⟨fun i => if i = q.length then Int32.ofNat x else sf i, V_sa.congr (fun i hi => ?_), fun i hi => ?_⟩
                      · by_cases w : i = q.length <;> simp [w]
                      · rw [own_gadd q x i hi]
                        by_cases w : i = q.length
                        · simp [w]
                        · simp only [w, if_false]
                          refine hsf i ?_
                          rw [List.length_append, List.length_singleton] at hi
                          omega
              case neg =>
                obtain ⟨T17, h17, X17, e17, W17, V17, st17⟩ := own_stI X0 hx hZ e0 V_sa (j := (Int32.ofNat q.length)) (own_ix (by omega)).1 (k := q.length) (own_ix (by omega)).2 (by omega) (g := (mkF m 58 #[.val (.ref sa), .val (.int (Int32.ofNat q.length)), .val (.int (Int32.ofNat x))] [(.int (Int32.ofNat x)), (.int (Int32.ofNat q.length)), (.ref sa)])) rfl rfl (hb hby own_d4_58)
                have K18 := K0.wr W17 (Or.inl (List.mem_of_getElem? (i := 0) rfl))
                have Z19 := Nat.le_trans Z0 (Keep.of_wr W17).1
                have N20 := Fr.snoc X17 N0 g_sa
                have V_sa := V17
                obtain ⟨fs, hr, hrun, hended, hW, hsame⟩ := X17.leave (v := some (.int ((Int32.ofNat q.length) + (1 : Int32)))) (fun h => by rw [Bd.returns] at h; cases h) (BodyLoose.notSynchronized Bd)
                refine ⟨_, _, pre10 _ ?_, hrun, hended, _, _, rfl, ?_, ⟨_, rfl⟩, hW, hsame.mono (by decide) (by decide)⟩
                · skip
                  show Steps p.tables e below (s₁.setTop (mkF m 43 #[.val (.ref sa), .val (.int (Int32.ofNat q.length)), .val (.int (Int32.ofNat x))] [(.int (3 : Int32)), (.int (Int32.ofNat q.length))])) _
                  refine XS.icmpYes X0.here hx rfl (pc0 := 43) (pc' := 55) rfl (hb hby own_d4_43) rfl (flt hc43).2.2.2 (by decide) (by decide) ?_
                  show Steps p.tables e below (s₁.setTop (mkF m 55 #[.val (.ref sa), .val (.int (Int32.ofNat q.length)), .val (.int (Int32.ofNat x))] [])) _
                  refine XS.aloadN X0.here hx rfl (hb hby own_d4_55) rfl rfl ?_
                  show Steps p.tables e below (s₁.setTop (mkF m 56 #[.val (.ref sa), .val (.int (Int32.ofNat q.length)), .val (.int (Int32.ofNat x))] [(.ref sa)])) _
                  refine XS.iloadN X0.here hx rfl (hb hby own_d4_56) rfl ?_
                  show Steps p.tables e below (s₁.setTop (mkF m 57 #[.val (.ref sa), .val (.int (Int32.ofNat q.length)), .val (.int (Int32.ofNat x))] [(.int (Int32.ofNat q.length)), (.ref sa)])) _
                  refine XS.iloadN X0.here hx rfl (hb hby own_d4_57) rfl ?_
                  show Steps p.tables e below (s₁.setTop (mkF m 58 #[.val (.ref sa), .val (.int (Int32.ofNat q.length)), .val (.int (Int32.ofNat x))] [(.int (Int32.ofNat x)), (.int (Int32.ofNat q.length)), (.ref sa)])) _
                  refine st17 _ ?_
                  show Steps p.tables e below (T17.setTop (mkF m 59 #[.val (.ref sa), .val (.int (Int32.ofNat q.length)), .val (.int (Int32.ofNat x))] [])) _
                  refine XS.iloadN X17.here hx rfl (hb hby own_d4_59) rfl ?_
                  show Steps p.tables e below (T17.setTop (mkF m 60 #[.val (.ref sa), .val (.int (Int32.ofNat q.length)), .val (.int (Int32.ofNat x))] [(.int (Int32.ofNat q.length))])) _
                  refine XS.iconst X17.here hx rfl (hb hby own_d4_60) ?_
                  show Steps p.tables e below (T17.setTop (mkF m 61 #[.val (.ref sa), .val (.int (Int32.ofNat q.length)), .val (.int (Int32.ofNat x))] [(.int (1 : Int32)), (.int (Int32.ofNat q.length))])) _
                  refine XS.iadd X17.here hx rfl (hb hby own_d4_61) rfl ?_
                  show Steps p.tables e below (T17.setTop (mkF m 62 #[.val (.ref sa), .val (.int (Int32.ofNat q.length)), .val (.int (Int32.ofNat x))] [(.int ((Int32.ofNat q.length) + (1 : Int32)))])) _
                  exact retI X17 hx Bd.returns (hb hby own_d4_62) hr
                · show own_Q4 Z sa q x h0 n0 _ T17.heap _
                  rw [e17]
                  have k0 : 0 < q.length := (own_ltn (by decide) (by omega)).mp hc1
                  have e0_ : ¬ q.getD 0 0 = x := fun w => hc8 ((hsf 0 k0).trans (congrArg Int32.ofNat w))
                  have k1 : 1 < q.length := (own_ltn (by decide) (by omega)).mp hc15
                  have e1_ : ¬ q.getD 1 0 = x := fun w => hc22 ((hsf 1 k1).trans (congrArg Int32.ofNat w))
                  have k2 : 2 < q.length := (own_ltn (by decide) (by omega)).mp hc29
                  have e2_ : ¬ q.getD 2 0 = x := fun w => hc36 ((hsf 2 k2).trans (congrArg Int32.ofNat w))
                  have k3 : ¬ 3 < q.length := fun w => hc43 ((own_ltn (by decide) (by omega)).mpr w)
                  have hm : x ∉ q := own_nmem hl4 (fun w => by first | exact absurd w k0 | exact e0_) (fun w => by first | exact absurd w k1 | exact e1_) (fun w => by first | exact absurd w k2 | exact e2_) (fun w => by first | exact absurd w k3 | exact e3_)
                  have e1 : own_add q x = q ++ [x] := if_neg hm
                  refine ⟨?_, N20, K18, ?_⟩
                  · rw [e1, List.length_append, List.length_singleton, Int32.ofNat_add]; rfl
                  · rw [e1]
                    refine ⟨fun i => if i = q.length then Int32.ofNat x else sf i, V_sa.congr (fun i hi => ?_), fun i hi => ?_⟩
                    · by_cases w : i = q.length <;> simp [w]
                    · rw [own_gadd q x i hi]
                      by_cases w : i = q.length
                      · simp [w]
                      · simp only [w, if_false]
                        refine hsf i ?_
                        rw [List.length_append, List.length_singleton] at hi
                        omega
          case neg =>
            have pre21 : ∀ t, Steps p.tables e below (s₁.setTop (mkF m 43 #[.val (.ref sa), .val (.int (Int32.ofNat q.length)), .val (.int (Int32.ofNat x))] [(.int (3 : Int32)), (.int (Int32.ofNat q.length))])) t → Steps p.tables e below (s₁.setTop (entryFrame m #[(.ref sa), (.int (Int32.ofNat q.length)), (.int (Int32.ofNat x))] 3)) t := by
              intro t kt
              refine pre7 t ?_
              show Steps p.tables e below (s₁.setTop (mkF m 29 #[.val (.ref sa), .val (.int (Int32.ofNat q.length)), .val (.int (Int32.ofNat x))] [(.int (2 : Int32)), (.int (Int32.ofNat q.length))])) _
              refine XS.icmpYes X0.here hx rfl (pc0 := 29) (pc' := 41) rfl (hb hby own_d4_29) rfl (flt hc29).2.2.2 (by decide) (by decide) ?_
              show Steps p.tables e below (s₁.setTop (mkF m 41 #[.val (.ref sa), .val (.int (Int32.ofNat q.length)), .val (.int (Int32.ofNat x))] [])) _
              refine XS.iloadN X0.here hx rfl (hb hby own_d4_41) rfl ?_
              show Steps p.tables e below (s₁.setTop (mkF m 42 #[.val (.ref sa), .val (.int (Int32.ofNat q.length)), .val (.int (Int32.ofNat x))] [(.int (Int32.ofNat q.length))])) _
              refine XS.iconst X0.here hx rfl (hb hby own_d4_42) ?_
              exact kt
            by_cases hc43_2 : (3 : Int32) < (Int32.ofNat q.length)
            case pos =>
              have ld22 := (own_ldI X0 hx hZ e0 V_sa (j := (3 : Int32)) (by decide) (k := 3) rfl (by decide) (v := (.int (sf 3))) rfl (g := (mkF m 48 #[.val (.ref sa), .val (.int (Int32.ofNat q.length)), .val (.int (Int32.ofNat x))] [(.int (3 : Int32)), (.ref sa)])) rfl rfl (hb hby own_d4_48))
              have pre23 : ∀ t, Steps p.tables e below (s₁.setTop (mkF m 50 #[.val (.ref sa), .val (.int (Int32.ofNat q.length)), .val (.int (Int32.ofNat x))] [(.int (Int32.ofNat x)), (.int (sf 3))])) t → Steps p.tables e below (s₁.setTop (entryFrame m #[(.ref sa), (.int (Int32.ofNat q.length)), (.int (Int32.ofNat x))] 3)) t := by
                intro t kt
                refine pre21 t ?_
                show Steps p.tables e below (s₁.setTop (mkF m 43 #[.val (.ref sa), .val (.int (Int32.ofNat q.length)), .val (.int (Int32.ofNat x))] [(.int (3 : Int32)), (.int (Int32.ofNat q.length))])) _
                refine XS.icmpNo X0.here hx rfl (hb hby own_d4_43) rfl (tlt hc43_2).2.2.2 ?_
                show Steps p.tables e below (s₁.setTop (mkF m 46 #[.val (.ref sa), .val (.int (Int32.ofNat q.length)), .val (.int (Int32.ofNat x))] [])) _
                refine XS.aloadN X0.here hx rfl (hb hby own_d4_46) rfl rfl ?_
                show Steps p.tables e below (s₁.setTop (mkF m 47 #[.val (.ref sa), .val (.int (Int32.ofNat q.length)), .val (.int (Int32.ofNat x))] [(.ref sa)])) _
                refine XS.iconst X0.here hx rfl (hb hby own_d4_47) ?_
                show Steps p.tables e below (s₁.setTop (mkF m 48 #[.val (.ref sa), .val (.int (Int32.ofNat q.length)), .val (.int (Int32.ofNat x))] [(.int (3 : Int32)), (.ref sa)])) _
                refine ld22 _ ?_
                show Steps p.tables e below (s₁.setTop (mkF m 49 #[.val (.ref sa), .val (.int (Int32.ofNat q.length)), .val (.int (Int32.ofNat x))] [(.int (sf 3))])) _
                refine XS.iloadN X0.here hx rfl (hb hby own_d4_49) rfl ?_
                exact kt
              by_cases hc50_2 : (sf 3) = (Int32.ofNat x)
              case pos =>
                obtain ⟨fs, hr, hrun, hended, hW, hsame⟩ := X0.leave (v := some (.int (Int32.ofNat q.length))) (fun h => by rw [Bd.returns] at h; cases h) (BodyLoose.notSynchronized Bd)
                refine ⟨_, _, pre23 _ ?_, hrun, hended, _, _, rfl, ?_, ⟨_, rfl⟩, hW, hsame.mono (by decide) (by decide)⟩
                · skip
                  show Steps p.tables e below (s₁.setTop (mkF m 50 #[.val (.ref sa), .val (.int (Int32.ofNat q.length)), .val (.int (Int32.ofNat x))] [(.int (Int32.ofNat x)), (.int (sf 3))])) _
                  refine XS.icmpNo X0.here hx rfl (hb hby own_d4_50) rfl (teq hc50_2).2 ?_
                  show Steps p.tables e below (s₁.setTop (mkF m 53 #[.val (.ref sa), .val (.int (Int32.ofNat q.length)), .val (.int (Int32.ofNat x))] [])) _
                  refine XS.iloadN X0.here hx rfl (hb hby own_d4_53) rfl ?_
                  show Steps p.tables e below (s₁.setTop (mkF m 54 #[.val (.ref sa), .val (.int (Int32.ofNat q.length)), .val (.int (Int32.ofNat x))] [(.int (Int32.ofNat q.length))])) _
                  exact retI X0 hx Bd.returns (hb hby own_d4_54) hr
                · show own_Q4 Z sa q x h0 n0 _ s₁.heap _
                  rw [e0]
                  have k0 : 0 < q.length := (own_ltn (by decide) (by omega)).mp hc1
                  have e0_ : ¬ q.getD 0 0 = x := fun w => hc8 ((hsf 0 k0).trans (congrArg Int32.ofNat w))
                  have k1 : 1 < q.length := (own_ltn (by decide) (by omega)).mp hc15
                  have e1_ : ¬ q.getD 1 0 = x := fun w => hc22 ((hsf 1 k1).trans (congrArg Int32.ofNat w))
                  have k2 : ¬ 2 < q.length := fun w => hc29 ((own_ltn (by decide) (by omega)).mpr w)
                  have k3 : 3 < q.length := (own_ltn (by decide) (by omega)).mp hc43_2
                  have e3_ : q.getD 3 0 = x := (own_eqn (hqs 3 k3) (by omega)).mp ((hsf 3 k3).symm.trans hc50_2)
                  have hm : x ∈ q := own_mem k3 e3_
                  have e1 : own_add q x = q := if_pos hm
                  refine ⟨?_, N0, K0, ?_⟩
                  · rw [e1]
                  · rw [e1]; exact ⟨sf, V_sa, hsf⟩
              case neg =>
                obtain ⟨T24, h24, X24, e24, W24, V24, st24⟩ := own_stI X0 hx hZ e0 V_sa (j := (Int32.ofNat q.length)) (own_ix (by omega)).1 (k := q.length) (own_ix (by omega)).2 (by omega) (g := (mkF m 58 #[.val (.ref sa), .val (.int (Int32.ofNat q.length)), .val (.int (Int32.ofNat x))] [(.int (Int32.ofNat x)), (.int (Int32.ofNat q.length)), (.ref sa)])) rfl rfl (hb hby own_d4_58)
                have K25 := K0.wr W24 (Or.inl (List.mem_of_getElem? (i := 0) rfl))
                have Z26 := Nat.le_trans Z0 (Keep.of_wr W24).1
                have N27 := Fr.snoc X24 N0 g_sa
                have V_sa := V24
                obtain ⟨fs, hr, hrun, hended, hW, hsame⟩ := X24.leave (v := some (.int ((Int32.ofNat q.length) + (1 : Int32)))) (fun h => by rw [Bd.returns] at h; cases h) (BodyLoose.notSynchronized Bd)
                refine ⟨_, _, pre23 _ ?_, hrun, hended, _, _, rfl, ?_, ⟨_, rfl⟩, hW, hsame.mono (by decide) (by decide)⟩
                · skip
                  show Steps p.tables e below (s₁.setTop (mkF m 50 #[.val (.ref sa), .val (.int (Int32.ofNat q.length)), .val (.int (Int32.ofNat x))] [(.int (Int32.ofNat x)), (.int (sf 3))])) _
                  refine XS.icmpYes X0.here hx rfl (pc0 := 50) (pc' := 55) rfl (hb hby own_d4_50) rfl (feq hc50_2).2 (by decide) (by decide) ?_
                  show Steps p.tables e below (s₁.setTop (mkF m 55 #[.val (.ref sa), .val (.int (Int32.ofNat q.length)), .val (.int (Int32.ofNat x))] [])) _
                  refine XS.aloadN X0.here hx rfl (hb hby own_d4_55) rfl rfl ?_
                  show Steps p.tables e below (s₁.setTop (mkF m 56 #[.val (.ref sa), .val (.int (Int32.ofNat q.length)), .val (.int (Int32.ofNat x))] [(.ref sa)])) _
                  refine XS.iloadN X0.here hx rfl (hb hby own_d4_56) rfl ?_
                  show Steps p.tables e below (s₁.setTop (mkF m 57 #[.val (.ref sa), .val (.int (Int32.ofNat q.length)), .val (.int (Int32.ofNat x))] [(.int (Int32.ofNat q.length)), (.ref sa)])) _
                  refine XS.iloadN X0.here hx rfl (hb hby own_d4_57) rfl ?_
                  show Steps p.tables e below (s₁.setTop (mkF m 58 #[.val (.ref sa), .val (.int (Int32.ofNat q.length)), .val (.int (Int32.ofNat x))] [(.int (Int32.ofNat x)), (.int (Int32.ofNat q.length)), (.ref sa)])) _
                  refine st24 _ ?_
                  show Steps p.tables e below (T24.setTop (mkF m 59 #[.val (.ref sa), .val (.int (Int32.ofNat q.length)), .val (.int (Int32.ofNat x))] [])) _
                  refine XS.iloadN X24.here hx rfl (hb hby own_d4_59) rfl ?_
                  show Steps p.tables e below (T24.setTop (mkF m 60 #[.val (.ref sa), .val (.int (Int32.ofNat q.length)), .val (.int (Int32.ofNat x))] [(.int (Int32.ofNat q.length))])) _
                  refine XS.iconst X24.here hx rfl (hb hby own_d4_60) ?_
                  show Steps p.tables e below (T24.setTop (mkF m 61 #[.val (.ref sa), .val (.int (Int32.ofNat q.length)), .val (.int (Int32.ofNat x))] [(.int (1 : Int32)), (.int (Int32.ofNat q.length))])) _
                  refine XS.iadd X24.here hx rfl (hb hby own_d4_61) rfl ?_
                  show Steps p.tables e below (T24.setTop (mkF m 62 #[.val (.ref sa), .val (.int (Int32.ofNat q.length)), .val (.int (Int32.ofNat x))] [(.int ((Int32.ofNat q.length) + (1 : Int32)))])) _
                  exact retI X24 hx Bd.returns (hb hby own_d4_62) hr
                · show own_Q4 Z sa q x h0 n0 _ T24.heap _
                  rw [e24]
                  have k0 : 0 < q.length := (own_ltn (by decide) (by omega)).mp hc1
                  have e0_ : ¬ q.getD 0 0 = x := fun w => hc8 ((hsf 0 k0).trans (congrArg Int32.ofNat w))
                  have k1 : 1 < q.length := (own_ltn (by decide) (by omega)).mp hc15
                  have e1_ : ¬ q.getD 1 0 = x := fun w => hc22 ((hsf 1 k1).trans (congrArg Int32.ofNat w))
                  have k2 : ¬ 2 < q.length := fun w => hc29 ((own_ltn (by decide) (by omega)).mpr w)
                  have k3 : 3 < q.length := (own_ltn (by decide) (by omega)).mp hc43_2
                  have e3_ : ¬ q.getD 3 0 = x := fun w => hc50_2 ((hsf 3 k3).trans (congrArg Int32.ofNat w))
                  have hm : x ∉ q := own_nmem hl4 (fun w => by first | exact absurd w k0 | exact e0_) (fun w => by first | exact absurd w k1 | exact e1_) (fun w => by first | exact absurd w k2 | exact e2_) (fun w => by first | exact absurd w k3 | exact e3_)
                  have e1 : own_add q x = q ++ [x] := if_neg hm
                  refine ⟨?_, N27, K25, ?_⟩
                  · rw [e1, List.length_append, List.length_singleton, Int32.ofNat_add]; rfl
                  · rw [e1]
                    refine ⟨fun i => if i = q.length then Int32.ofNat x else sf i, V_sa.congr (fun i hi => ?_), fun i hi => ?_⟩
                    · by_cases w : i = q.length <;> simp [w]
                    · rw [own_gadd q x i hi]
                      by_cases w : i = q.length
                      · simp [w]
                      · simp only [w, if_false]
                        refine hsf i ?_
                        rw [List.length_append, List.length_singleton] at hi
                        omega
            case neg =>
              obtain ⟨T28, h28, X28, e28, W28, V28, st28⟩ := own_stI X0 hx hZ e0 V_sa (j := (Int32.ofNat q.length)) (own_ix (by omega)).1 (k := q.length) (own_ix (by omega)).2 (by omega) (g := (mkF m 58 #[.val (.ref sa), .val (.int (Int32.ofNat q.length)), .val (.int (Int32.ofNat x))] [(.int (Int32.ofNat x)), (.int (Int32.ofNat q.length)), (.ref sa)])) rfl rfl (hb hby own_d4_58)
              have K29 := K0.wr W28 (Or.inl (List.mem_of_getElem? (i := 0) rfl))
              have Z30 := Nat.le_trans Z0 (Keep.of_wr W28).1
              have N31 := Fr.snoc X28 N0 g_sa
              have V_sa := V28
              obtain ⟨fs, hr, hrun, hended, hW, hsame⟩ := X28.leave (v := some (.int ((Int32.ofNat q.length) + (1 : Int32)))) (fun h => by rw [Bd.returns] at h; cases h) (BodyLoose.notSynchronized Bd)
              refine ⟨_, _, pre21 _ ?_, hrun, hended, _, _, rfl, ?_, ⟨_, rfl⟩, hW, hsame.mono (by decide) (by decide)⟩
              · skip
                show Steps p.tables e below (s₁.setTop (mkF m 43 #[.val (.ref sa), .val (.int (Int32.ofNat q.length)), .val (.int (Int32.ofNat x))] [(.int (3 : Int32)), (.int (Int32.ofNat q.length))])) _
                refine XS.icmpYes X0.here hx rfl (pc0 := 43) (pc' := 55) rfl (hb hby own_d4_43) rfl (flt hc43_2).2.2.2 (by decide) (by decide) ?_
                show Steps p.tables e below (s₁.setTop (mkF m 55 #[.val (.ref sa), .val (.int (Int32.ofNat q.length)), .val (.int (Int32.ofNat x))] [])) _
                refine XS.aloadN X0.here hx rfl (hb hby own_d4_55) rfl rfl ?_
                show Steps p.tables e below (s₁.setTop (mkF m 56 #[.val (.ref sa), .val (.int (Int32.ofNat q.length)), .val (.int (Int32.ofNat x))] [(.ref sa)])) _
                refine XS.iloadN X0.here hx rfl (hb hby own_d4_56) rfl ?_
                show Steps p.tables e below (s₁.setTop (mkF m 57 #[.val (.ref sa), .val (.int (Int32.ofNat q.length)), .val (.int (Int32.ofNat x))] [(.int (Int32.ofNat q.length)), (.ref sa)])) _
                refine XS.iloadN X0.here hx rfl (hb hby own_d4_57) rfl ?_
                show Steps p.tables e below (s₁.setTop (mkF m 58 #[.val (.ref sa), .val (.int (Int32.ofNat q.length)), .val (.int (Int32.ofNat x))] [(.int (Int32.ofNat x)), (.int (Int32.ofNat q.length)), (.ref sa)])) _
                refine st28 _ ?_
                show Steps p.tables e below (T28.setTop (mkF m 59 #[.val (.ref sa), .val (.int (Int32.ofNat q.length)), .val (.int (Int32.ofNat x))] [])) _
                refine XS.iloadN X28.here hx rfl (hb hby own_d4_59) rfl ?_
                show Steps p.tables e below (T28.setTop (mkF m 60 #[.val (.ref sa), .val (.int (Int32.ofNat q.length)), .val (.int (Int32.ofNat x))] [(.int (Int32.ofNat q.length))])) _
                refine XS.iconst X28.here hx rfl (hb hby own_d4_60) ?_
                show Steps p.tables e below (T28.setTop (mkF m 61 #[.val (.ref sa), .val (.int (Int32.ofNat q.length)), .val (.int (Int32.ofNat x))] [(.int (1 : Int32)), (.int (Int32.ofNat q.length))])) _
                refine XS.iadd X28.here hx rfl (hb hby own_d4_61) rfl ?_
                show Steps p.tables e below (T28.setTop (mkF m 62 #[.val (.ref sa), .val (.int (Int32.ofNat q.length)), .val (.int (Int32.ofNat x))] [(.int ((Int32.ofNat q.length) + (1 : Int32)))])) _
                exact retI X28 hx Bd.returns (hb hby own_d4_62) hr
              · show own_Q4 Z sa q x h0 n0 _ T28.heap _
                rw [e28]
                have k0 : 0 < q.length := (own_ltn (by decide) (by omega)).mp hc1
                have e0_ : ¬ q.getD 0 0 = x := fun w => hc8 ((hsf 0 k0).trans (congrArg Int32.ofNat w))
                have k1 : 1 < q.length := (own_ltn (by decide) (by omega)).mp hc15
                have e1_ : ¬ q.getD 1 0 = x := fun w => hc22 ((hsf 1 k1).trans (congrArg Int32.ofNat w))
                have k2 : ¬ 2 < q.length := fun w => hc29 ((own_ltn (by decide) (by omega)).mpr w)
                have k3 : ¬ 3 < q.length := fun w => hc43_2 ((own_ltn (by decide) (by omega)).mpr w)
                have hm : x ∉ q := own_nmem hl4 (fun w => by first | exact absurd w k0 | exact e0_) (fun w => by first | exact absurd w k1 | exact e1_) (fun w => by first | exact absurd w k2 | exact e2_) (fun w => by first | exact absurd w k3 | exact e3_)
                have e1 : own_add q x = q ++ [x] := if_neg hm
                refine ⟨?_, N31, K29, ?_⟩
                · rw [e1, List.length_append, List.length_singleton, Int32.ofNat_add]; rfl
                · rw [e1]
                  refine ⟨fun i => if i = q.length then Int32.ofNat x else sf i, V_sa.congr (fun i hi => ?_), fun i hi => ?_⟩
                  · by_cases w : i = q.length <;> simp [w]
                  · rw [own_gadd q x i hi]
                    by_cases w : i = q.length
                    · simp [w]
                    · simp only [w, if_false]
                      refine hsf i ?_
                      rw [List.length_append, List.length_singleton] at hi
                      omega
      case neg =>
        have pre32 : ∀ t, Steps p.tables e below (s₁.setTop (mkF m 29 #[.val (.ref sa), .val (.int (Int32.ofNat q.length)), .val (.int (Int32.ofNat x))] [(.int (2 : Int32)), (.int (Int32.ofNat q.length))])) t → Steps p.tables e below (s₁.setTop (entryFrame m #[(.ref sa), (.int (Int32.ofNat q.length)), (.int (Int32.ofNat x))] 3)) t := by
          intro t kt
          refine pre4 t ?_
          show Steps p.tables e below (s₁.setTop (mkF m 15 #[.val (.ref sa), .val (.int (Int32.ofNat q.length)), .val (.int (Int32.ofNat x))] [(.int (1 : Int32)), (.int (Int32.ofNat q.length))])) _
          refine XS.icmpYes X0.here hx rfl (pc0 := 15) (pc' := 27) rfl (hb hby own_d4_15) rfl (flt hc15).2.2.2 (by decide) (by decide) ?_
          show Steps p.tables e below (s₁.setTop (mkF m 27 #[.val (.ref sa), .val (.int (Int32.ofNat q.length)), .val (.int (Int32.ofNat x))] [])) _
          refine XS.iloadN X0.here hx rfl (hb hby own_d4_27) rfl ?_
          show Steps p.tables e below (s₁.setTop (mkF m 28 #[.val (.ref sa), .val (.int (Int32.ofNat q.length)), .val (.int (Int32.ofNat x))] [(.int (Int32.ofNat q.length))])) _
          refine XS.iconst X0.here hx rfl (hb hby own_d4_28) ?_
          exact kt
        by_cases hc29_2 : (2 : Int32) < (Int32.ofNat q.length)
        case pos =>
          have ld33 := (own_ldI X0 hx hZ e0 V_sa (j := (2 : Int32)) (by decide) (k := 2) rfl (by decide) (v := (.int (sf 2))) rfl (g := (mkF m 34 #[.val (.ref sa), .val (.int (Int32.ofNat q.length)), .val (.int (Int32.ofNat x))] [(.int (2 : Int32)), (.ref sa)])) rfl rfl (hb hby own_d4_34))
          have pre34 : ∀ t, Steps p.tables e below (s₁.setTop (mkF m 36 #[.val (.ref sa), .val (.int (Int32.ofNat q.length)), .val (.int (Int32.ofNat x))] [(.int (Int32.ofNat x)), (.int (sf 2))])) t → Steps p.tables e below (s₁.setTop (entryFrame m #[(.ref sa), (.int (Int32.ofNat q.length)), (.int (Int32.ofNat x))] 3)) t := by
            intro t kt
            refine pre32 t ?_
            show Steps p.tables e below (s₁.setTop (mkF m 29 #[.val (.ref sa), .val (.int (Int32.ofNat q.length)), .val (.int (Int32.ofNat x))] [(.int (2 : Int32)), (.int (Int32.ofNat q.length))])) _
            refine XS.icmpNo X0.here hx rfl (hb hby own_d4_29) rfl (tlt hc29_2).2.2.2 ?_
            show Steps p.tables e below (s₁.setTop (mkF m 32 #[.val (.ref sa), .val (.int (Int32.ofNat q.length)), .val (.int (Int32.ofNat x))] [])) _
            refine XS.aloadN X0.here hx rfl (hb hby own_d4_32) rfl rfl ?_
            show Steps p.tables e below (s₁.setTop (mkF m 33 #[.val (.ref sa), .val (.int (Int32.ofNat q.length)), .val (.int (Int32.ofNat x))] [(.ref sa)])) _
            refine XS.iconst X0.here hx rfl (hb hby own_d4_33) ?_
            show Steps p.tables e below (s₁.setTop (mkF m 34 #[.val (.ref sa), .val (.int (Int32.ofNat q.length)), .val (.int (Int32.ofNat x))] [(.int (2 : Int32)), (.ref sa)])) _
            refine ld33 _ ?_
            show Steps p.tables e below (s₁.setTop (mkF m 35 #[.val (.ref sa), .val (.int (Int32.ofNat q.length)), .val (.int (Int32.ofNat x))] [(.int (sf 2))])) _
            refine XS.iloadN X0.here hx rfl (hb hby own_d4_35) rfl ?_
            exact kt
          by_cases hc36_2 : (sf 2) = (Int32.ofNat x)
          case pos =>
            obtain ⟨fs, hr, hrun, hended, hW, hsame⟩ := X0.leave (v := some (.int (Int32.ofNat q.length))) (fun h => by rw [Bd.returns] at h; cases h) (BodyLoose.notSynchronized Bd)
            refine ⟨_, _, pre34 _ ?_, hrun, hended, _, _, rfl, ?_, ⟨_, rfl⟩, hW, hsame.mono (by decide) (by decide)⟩
            · skip
              show Steps p.tables e below (s₁.setTop (mkF m 36 #[.val (.ref sa), .val (.int (Int32.ofNat q.length)), .val (.int (Int32.ofNat x))] [(.int (Int32.ofNat x)), (.int (sf 2))])) _
              refine XS.icmpNo X0.here hx rfl (hb hby own_d4_36) rfl (teq hc36_2).2 ?_
              show Steps p.tables e below (s₁.setTop (mkF m 39 #[.val (.ref sa), .val (.int (Int32.ofNat q.length)), .val (.int (Int32.ofNat x))] [])) _
              refine XS.iloadN X0.here hx rfl (hb hby own_d4_39) rfl ?_
              show Steps p.tables e below (s₁.setTop (mkF m 40 #[.val (.ref sa), .val (.int (Int32.ofNat q.length)), .val (.int (Int32.ofNat x))] [(.int (Int32.ofNat q.length))])) _
              exact retI X0 hx Bd.returns (hb hby own_d4_40) hr
            · show own_Q4 Z sa q x h0 n0 _ s₁.heap _
              rw [e0]
              have k0 : 0 < q.length := (own_ltn (by decide) (by omega)).mp hc1
              have e0_ : ¬ q.getD 0 0 = x := fun w => hc8 ((hsf 0 k0).trans (congrArg Int32.ofNat w))
              have k1 : ¬ 1 < q.length := fun w => hc15 ((own_ltn (by decide) (by omega)).mpr w)
              have k2 : 2 < q.length := (own_ltn (by decide) (by omega)).mp hc29_2
              have e2_ : q.getD 2 0 = x := (own_eqn (hqs 2 k2) (by omega)).mp ((hsf 2 k2).symm.trans hc36_2)
              have hm : x ∈ q := own_mem k2 e2_
              have e1 : own_add q x = q := if_pos hm
              refine ⟨?_, N0, K0, ?_⟩
              · rw [e1]
              · rw [e1]; exact ⟨sf, V_sa, hsf⟩
          case neg =>
            have pre35 : ∀ t, Steps p.tables e below (s₁.setTop (mkF m 43 #[.val (.ref sa), .val (.int (Int32.ofNat q.length)), .val (.int (Int32.ofNat x))] [(.int (3 : Int32)), (.int (Int32.ofNat q.length))])) t → Steps p.tables e below (s₁.setTop (entryFrame m #[(.ref sa), (.int (Int32.ofNat q.length)), (.int (Int32.ofNat x))] 3)) t := by
              intro t kt
              refine pre34 t ?_
              show Steps p.tables e below (s₁.setTop (mkF m 36 #[.val (.ref sa), .val (.int (Int32.ofNat q.length)), .val (.int (Int32.ofNat x))] [(.int (Int32.ofNat x)), (.int (sf 2))])) _
              refine XS.icmpYes X0.here hx rfl (pc0 := 36) (pc' := 41) rfl (hb hby own_d4_36) rfl (feq hc36_2).2 (by decide) (by decide) ?_
              show Steps p.tables e below (s₁.setTop (mkF m 41 #[.val (.ref sa), .val (.int (Int32.ofNat q.length)), .val (.int (Int32.ofNat x))] [])) _
              refine XS.iloadN X0.here hx rfl (hb hby own_d4_41) rfl ?_
              show Steps p.tables e below (s₁.setTop (mkF m 42 #[.val (.ref sa), .val (.int (Int32.ofNat q.length)), .val (.int (Int32.ofNat x))] [(.int (Int32.ofNat q.length))])) _
              refine XS.iconst X0.here hx rfl (hb hby own_d4_42) ?_
              exact kt
            by_cases hc43_3 : (3 : Int32) < (Int32.ofNat q.length)
            case pos =>
              have ld36 := (own_ldI X0 hx hZ e0 V_sa (j := (3 : Int32)) (by decide) (k := 3) rfl (by decide) (v := (.int (sf 3))) rfl (g := (mkF m 48 #[.val (.ref sa), .val (.int (Int32.ofNat q.length)), .val (.int (Int32.ofNat x))] [(.int (3 : Int32)), (.ref sa)])) rfl rfl (hb hby own_d4_48))
              have pre37 : ∀ t, Steps p.tables e below (s₁.setTop (mkF m 50 #[.val (.ref sa), .val (.int (Int32.ofNat q.length)), .val (.int (Int32.ofNat x))] [(.int (Int32.ofNat x)), (.int (sf 3))])) t → Steps p.tables e below (s₁.setTop (entryFrame m #[(.ref sa), (.int (Int32.ofNat q.length)), (.int (Int32.ofNat x))] 3)) t := by
                intro t kt
                refine pre35 t ?_
                show Steps p.tables e below (s₁.setTop (mkF m 43 #[.val (.ref sa), .val (.int (Int32.ofNat q.length)), .val (.int (Int32.ofNat x))] [(.int (3 : Int32)), (.int (Int32.ofNat q.length))])) _
                refine XS.icmpNo X0.here hx rfl (hb hby own_d4_43) rfl (tlt hc43_3).2.2.2 ?_
                show Steps p.tables e below (s₁.setTop (mkF m 46 #[.val (.ref sa), .val (.int (Int32.ofNat q.length)), .val (.int (Int32.ofNat x))] [])) _
                refine XS.aloadN X0.here hx rfl (hb hby own_d4_46) rfl rfl ?_
                show Steps p.tables e below (s₁.setTop (mkF m 47 #[.val (.ref sa), .val (.int (Int32.ofNat q.length)), .val (.int (Int32.ofNat x))] [(.ref sa)])) _
                refine XS.iconst X0.here hx rfl (hb hby own_d4_47) ?_
                show Steps p.tables e below (s₁.setTop (mkF m 48 #[.val (.ref sa), .val (.int (Int32.ofNat q.length)), .val (.int (Int32.ofNat x))] [(.int (3 : Int32)), (.ref sa)])) _
                refine ld36 _ ?_
                show Steps p.tables e below (s₁.setTop (mkF m 49 #[.val (.ref sa), .val (.int (Int32.ofNat q.length)), .val (.int (Int32.ofNat x))] [(.int (sf 3))])) _
                refine XS.iloadN X0.here hx rfl (hb hby own_d4_49) rfl ?_
                exact kt
              by_cases hc50_3 : (sf 3) = (Int32.ofNat x)
              case pos =>
                obtain ⟨fs, hr, hrun, hended, hW, hsame⟩ := X0.leave (v := some (.int (Int32.ofNat q.length))) (fun h => by rw [Bd.returns] at h; cases h) (BodyLoose.notSynchronized Bd)
                refine ⟨_, _, pre37 _ ?_, hrun, hended, _, _, rfl, ?_, ⟨_, rfl⟩, hW, hsame.mono (by decide) (by decide)⟩
                · skip
                  show Steps p.tables e below (s₁.setTop (mkF m 50 #[.val (.ref sa), .val (.int (Int32.ofNat q.length)), .val (.int (Int32.ofNat x))] [(.int (Int32.ofNat x)), (.int (sf 3))])) _
                  refine XS.icmpNo X0.here hx rfl (hb hby own_d4_50) rfl (teq hc50_3).2 ?_
                  show Steps p.tables e below (s₁.setTop (mkF m 53 #[.val (.ref sa), .val (.int (Int32.ofNat q.length)), .val (.int (Int32.ofNat x))] [])) _
                  refine XS.iloadN X0.here hx rfl (hb hby own_d4_53) rfl ?_
                  show Steps p.tables e below (s₁.setTop (mkF m 54 #[.val (.ref sa), .val (.int (Int32.ofNat q.length)), .val (.int (Int32.ofNat x))] [(.int (Int32.ofNat q.length))])) _
                  exact retI X0 hx Bd.returns (hb hby own_d4_54) hr
                · show own_Q4 Z sa q x h0 n0 _ s₁.heap _
                  rw [e0]
                  have k0 : 0 < q.length := (own_ltn (by decide) (by omega)).mp hc1
                  have e0_ : ¬ q.getD 0 0 = x := fun w => hc8 ((hsf 0 k0).trans (congrArg Int32.ofNat w))
                  have k1 : ¬ 1 < q.length := fun w => hc15 ((own_ltn (by decide) (by omega)).mpr w)
                  have k2 : 2 < q.length := (own_ltn (by decide) (by omega)).mp hc29_2
                  have e2_ : ¬ q.getD 2 0 = x := fun w => hc36_2 ((hsf 2 k2).trans (congrArg Int32.ofNat w))
                  have k3 : 3 < q.length := (own_ltn (by decide) (by omega)).mp hc43_3
                  have e3_ : q.getD 3 0 = x := (own_eqn (hqs 3 k3) (by omega)).mp ((hsf 3 k3).symm.trans hc50_3)
                  have hm : x ∈ q := own_mem k3 e3_
                  have e1 : own_add q x = q := if_pos hm
                  refine ⟨?_, N0, K0, ?_⟩
                  · rw [e1]
                  · rw [e1]; exact ⟨sf, V_sa, hsf⟩
              case neg =>
                obtain ⟨T38, h38, X38, e38, W38, V38, st38⟩ := own_stI X0 hx hZ e0 V_sa (j := (Int32.ofNat q.length)) (own_ix (by omega)).1 (k := q.length) (own_ix (by omega)).2 (by omega) (g := (mkF m 58 #[.val (.ref sa), .val (.int (Int32.ofNat q.length)), .val (.int (Int32.ofNat x))] [(.int (Int32.ofNat x)), (.int (Int32.ofNat q.length)), (.ref sa)])) rfl rfl (hb hby own_d4_58)
                have K39 := K0.wr W38 (Or.inl (List.mem_of_getElem? (i := 0) rfl))
                have Z40 := Nat.le_trans Z0 (Keep.of_wr W38).1
                have N41 := Fr.snoc X38 N0 g_sa
                have V_sa := V38
                obtain ⟨fs, hr, hrun, hended, hW, hsame⟩ := X38.leave (v := some (.int ((Int32.ofNat q.length) + (1 : Int32)))) (fun h => by rw [Bd.returns] at h; cases h) (BodyLoose.notSynchronized Bd)
                refine ⟨_, _, pre37 _ ?_, hrun, hended, _, _, rfl, ?_, ⟨_, rfl⟩, hW, hsame.mono (by decide) (by decide)⟩
                · skip
                  show Steps p.tables e below (s₁.setTop (mkF m 50 #[.val (.ref sa), .val (.int (Int32.ofNat q.length)), .val (.int (Int32.ofNat x))] [(.int (Int32.ofNat x)), (.int (sf 3))])) _
                  refine XS.icmpYes X0.here hx rfl (pc0 := 50) (pc' := 55) rfl (hb hby own_d4_50) rfl (feq hc50_3).2 (by decide) (by decide) ?_
                  show Steps p.tables e below (s₁.setTop (mkF m 55 #[.val (.ref sa), .val (.int (Int32.ofNat q.length)), .val (.int (Int32.ofNat x))] [])) _
                  refine XS.aloadN X0.here hx rfl (hb hby own_d4_55) rfl rfl ?_
                  show Steps p.tables e below (s₁.setTop (mkF m 56 #[.val (.ref sa), .val (.int (Int32.ofNat q.length)), .val (.int (Int32.ofNat x))] [(.ref sa)])) _
                  refine XS.iloadN X0.here hx rfl (hb hby own_d4_56) rfl ?_
                  show Steps p.tables e below (s₁.setTop (mkF m 57 #[.val (.ref sa), .val (.int (Int32.ofNat q.length)), .val (.int (Int32.ofNat x))] [(.int (Int32.ofNat q.length)), (.ref sa)])) _
                  refine XS.iloadN X0.here hx rfl (hb hby own_d4_57) rfl ?_
                  show Steps p.tables e below (s₁.setTop (mkF m 58 #[.val (.ref sa), .val (.int (Int32.ofNat q.length)), .val (.int (Int32.ofNat x))] [(.int (Int32.ofNat x)), (.int (Int32.ofNat q.length)), (.ref sa)])) _
                  refine st38 _ ?_
                  show Steps p.tables e below (T38.setTop (mkF m 59 #[.val (.ref sa), .val (.int (Int32.ofNat q.length)), .val (.int (Int32.ofNat x))] [])) _
                  refine XS.iloadN X38.here hx rfl (hb hby own_d4_59) rfl ?_
                  show Steps p.tables e below (T38.setTop (mkF m 60 #[.val (.ref sa), .val (.int (Int32.ofNat q.length)), .val (.int (Int32.ofNat x))] [(.int (Int32.ofNat q.length))])) _
                  refine XS.iconst X38.here hx rfl (hb hby own_d4_60) ?_
                  show Steps p.tables e below (T38.setTop (mkF m 61 #[.val (.ref sa), .val (.int (Int32.ofNat q.length)), .val (.int (Int32.ofNat x))] [(.int (1 : Int32)), (.int (Int32.ofNat q.length))])) _
                  refine XS.iadd X38.here hx rfl (hb hby own_d4_61) rfl ?_
                  show Steps p.tables e below (T38.setTop (mkF m 62 #[.val (.ref sa), .val (.int (Int32.ofNat q.length)), .val (.int (Int32.ofNat x))] [(.int ((Int32.ofNat q.length) + (1 : Int32)))])) _
                  exact retI X38 hx Bd.returns (hb hby own_d4_62) hr
                · show own_Q4 Z sa q x h0 n0 _ T38.heap _
                  rw [e38]
                  have k0 : 0 < q.length := (own_ltn (by decide) (by omega)).mp hc1
                  have e0_ : ¬ q.getD 0 0 = x := fun w => hc8 ((hsf 0 k0).trans (congrArg Int32.ofNat w))
                  have k1 : ¬ 1 < q.length := fun w => hc15 ((own_ltn (by decide) (by omega)).mpr w)
                  have k2 : 2 < q.length := (own_ltn (by decide) (by omega)).mp hc29_2
                  have e2_ : ¬ q.getD 2 0 = x := fun w => hc36_2 ((hsf 2 k2).trans (congrArg Int32.ofNat w))
                  have k3 : 3 < q.length := (own_ltn (by decide) (by omega)).mp hc43_3
                  have e3_ : ¬ q.getD 3 0 = x := fun w => hc50_3 ((hsf 3 k3).trans (congrArg Int32.ofNat w))
                  have hm : x ∉ q := own_nmem hl4 (fun w => by first | exact absurd w k0 | exact e0_) (fun w => by first | exact absurd w k1 | exact e1_) (fun w => by first | exact absurd w k2 | exact e2_) (fun w => by first | exact absurd w k3 | exact e3_)
                  have e1 : own_add q x = q ++ [x] := if_neg hm
                  refine ⟨?_, N41, K39, ?_⟩
                  · rw [e1, List.length_append, List.length_singleton, Int32.ofNat_add]; rfl
                  · rw [e1]
                    refine ⟨fun i => if i = q.length then Int32.ofNat x else sf i, V_sa.congr (fun i hi => ?_), fun i hi => ?_⟩
                    · by_cases w : i = q.length <;> simp [w]
                    · rw [own_gadd q x i hi]
                      by_cases w : i = q.length
                      · simp [w]
                      · simp only [w, if_false]
                        refine hsf i ?_
                        rw [List.length_append, List.length_singleton] at hi
                        omega
            case neg =>
              obtain ⟨T42, h42, X42, e42, W42, V42, st42⟩ := own_stI X0 hx hZ e0 V_sa (j := (Int32.ofNat q.length)) (own_ix (by omega)).1 (k := q.length) (own_ix (by omega)).2 (by omega) (g := (mkF m 58 #[.val (.ref sa), .val (.int (Int32.ofNat q.length)), .val (.int (Int32.ofNat x))] [(.int (Int32.ofNat x)), (.int (Int32.ofNat q.length)), (.ref sa)])) rfl rfl (hb hby own_d4_58)
              have K43 := K0.wr W42 (Or.inl (List.mem_of_getElem? (i := 0) rfl))
              have Z44 := Nat.le_trans Z0 (Keep.of_wr W42).1
              have N45 := Fr.snoc X42 N0 g_sa
              have V_sa := V42
              obtain ⟨fs, hr, hrun, hended, hW, hsame⟩ := X42.leave (v := some (.int ((Int32.ofNat q.length) + (1 : Int32)))) (fun h => by rw [Bd.returns] at h; cases h) (BodyLoose.notSynchronized Bd)
              refine ⟨_, _, pre35 _ ?_, hrun, hended, _, _, rfl, ?_, ⟨_, rfl⟩, hW, hsame.mono (by decide) (by decide)⟩
              · skip
                show Steps p.tables e below (s₁.setTop (mkF m 43 #[.val (.ref sa), .val (.int (Int32.ofNat q.length)), .val (.int (Int32.ofNat x))] [(.int (3 : Int32)), (.int (Int32.ofNat q.length))])) _
                refine XS.icmpYes X0.here hx rfl (pc0 := 43) (pc' := 55) rfl (hb hby own_d4_43) rfl (flt hc43_3).2.2.2 (by decide) (by decide) ?_
                show Steps p.tables e below (s₁.setTop (mkF m 55 #[.val (.ref sa), .val (.int (Int32.ofNat q.length)), .val (.int (Int32.ofNat x))] [])) _
                refine XS.aloadN X0.here hx rfl (hb hby own_d4_55) rfl rfl ?_
                show Steps p.tables e below (s₁.setTop (mkF m 56 #[.val (.ref sa), .val (.int (Int32.ofNat q.length)), .val (.int (Int32.ofNat x))] [(.ref sa)])) _
                refine XS.iloadN X0.here hx rfl (hb hby own_d4_56) rfl ?_
                show Steps p.tables e below (s₁.setTop (mkF m 57 #[.val (.ref sa), .val (.int (Int32.ofNat q.length)), .val (.int (Int32.ofNat x))] [(.int (Int32.ofNat q.length)), (.ref sa)])) _
                refine XS.iloadN X0.here hx rfl (hb hby own_d4_57) rfl ?_
                show Steps p.tables e below (s₁.setTop (mkF m 58 #[.val (.ref sa), .val (.int (Int32.ofNat q.length)), .val (.int (Int32.ofNat x))] [(.int (Int32.ofNat x)), (.int (Int32.ofNat q.length)), (.ref sa)])) _
                refine st42 _ ?_
                show Steps p.tables e below (T42.setTop (mkF m 59 #[.val (.ref sa), .val (.int (Int32.ofNat q.length)), .val (.int (Int32.ofNat x))] [])) _
                refine XS.iloadN X42.here hx rfl (hb hby own_d4_59) rfl ?_
                show Steps p.tables e below (T42.setTop (mkF m 60 #[.val (.ref sa), .val (.int (Int32.ofNat q.length)), .val (.int (Int32.ofNat x))] [(.int (Int32.ofNat q.length))])) _
                refine XS.iconst X42.here hx rfl (hb hby own_d4_60) ?_
                show Steps p.tables e below (T42.setTop (mkF m 61 #[.val (.ref sa), .val (.int (Int32.ofNat q.length)), .val (.int (Int32.ofNat x))] [(.int (1 : Int32)), (.int (Int32.ofNat q.length))])) _
                refine XS.iadd X42.here hx rfl (hb hby own_d4_61) rfl ?_
                show Steps p.tables e below (T42.setTop (mkF m 62 #[.val (.ref sa), .val (.int (Int32.ofNat q.length)), .val (.int (Int32.ofNat x))] [(.int ((Int32.ofNat q.length) + (1 : Int32)))])) _
                exact retI X42 hx Bd.returns (hb hby own_d4_62) hr
              · show own_Q4 Z sa q x h0 n0 _ T42.heap _
                rw [e42]
                have k0 : 0 < q.length := (own_ltn (by decide) (by omega)).mp hc1
                have e0_ : ¬ q.getD 0 0 = x := fun w => hc8 ((hsf 0 k0).trans (congrArg Int32.ofNat w))
                have k1 : ¬ 1 < q.length := fun w => hc15 ((own_ltn (by decide) (by omega)).mpr w)
                have k2 : 2 < q.length := (own_ltn (by decide) (by omega)).mp hc29_2
                have e2_ : ¬ q.getD 2 0 = x := fun w => hc36_2 ((hsf 2 k2).trans (congrArg Int32.ofNat w))
                have k3 : ¬ 3 < q.length := fun w => hc43_3 ((own_ltn (by decide) (by omega)).mpr w)
                have hm : x ∉ q := own_nmem hl4 (fun w => by first | exact absurd w k0 | exact e0_) (fun w => by first | exact absurd w k1 | exact e1_) (fun w => by first | exact absurd w k2 | exact e2_) (fun w => by first | exact absurd w k3 | exact e3_)
                have e1 : own_add q x = q ++ [x] := if_neg hm
                refine ⟨?_, N45, K43, ?_⟩
                · rw [e1, List.length_append, List.length_singleton, Int32.ofNat_add]; rfl
                · rw [e1]
                  refine ⟨fun i => if i = q.length then Int32.ofNat x else sf i, V_sa.congr (fun i hi => ?_), fun i hi => ?_⟩
                  · by_cases w : i = q.length <;> simp [w]
                  · rw [own_gadd q x i hi]
                    by_cases w : i = q.length
                    · simp [w]
                    · simp only [w, if_false]
                      refine hsf i ?_
                      rw [List.length_append, List.length_singleton] at hi
                      omega
        case neg =>
          have pre46 : ∀ t, Steps p.tables e below (s₁.setTop (mkF m 43 #[.val (.ref sa), .val (.int (Int32.ofNat q.length)), .val (.int (Int32.ofNat x))] [(.int (3 : Int32)), (.int (Int32.ofNat q.length))])) t → Steps p.tables e below (s₁.setTop (entryFrame m #[(.ref sa), (.int (Int32.ofNat q.length)), (.int (Int32.ofNat x))] 3)) t := by
            intro t kt
            refine pre32 t ?_
            show Steps p.tables e below (s₁.setTop (mkF m 29 #[.val (.ref sa), .val (.int (Int32.ofNat q.length)), .val (.int (Int32.ofNat x))] [(.int (2 : Int32)), (.int (Int32.ofNat q.length))])) _
            refine XS.icmpYes X0.here hx rfl (pc0 := 29) (pc' := 41) rfl (hb hby own_d4_29) rfl (flt hc29_2).2.2.2 (by decide) (by decide) ?_
            show Steps p.tables e below (s₁.setTop (mkF m 41 #[.val (.ref sa), .val (.int (Int32.ofNat q.length)), .val (.int (Int32.ofNat x))] [])) _
            refine XS.iloadN X0.here hx rfl (hb hby own_d4_41) rfl ?_
            show Steps p.tables e below (s₁.setTop (mkF m 42 #[.val (.ref sa), .val (.int (Int32.ofNat q.length)), .val (.int (Int32.ofNat x))] [(.int (Int32.ofNat q.length))])) _
            refine XS.iconst X0.here hx rfl (hb hby own_d4_42) ?_
            exact kt
          by_cases hc43_4 : (3 : Int32) < (Int32.ofNat q.length)
          case pos =>
            have ld47 := (own_ldI X0 hx hZ e0 V_sa (j := (3 : Int32)) (by decide) (k := 3) rfl (by decide) (v := (.int (sf 3))) rfl (g := (mkF m 48 #[.val (.ref sa), .val (.int (Int32.ofNat q.length)), .val (.int (Int32.ofNat x))] [(.int (3 : Int32)), (.ref sa)])) rfl rfl (hb hby own_d4_48))
            have pre48 : ∀ t, Steps p.tables e below (s₁.setTop (mkF m 50 #[.val (.ref sa), .val (.int (Int32.ofNat q.length)), .val (.int (Int32.ofNat x))] [(.int (Int32.ofNat x)), (.int (sf 3))])) t → Steps p.tables e below (s₁.setTop (entryFrame m #[(.ref sa), (.int (Int32.ofNat q.length)), (.int (Int32.ofNat x))] 3)) t := by
              intro t kt
              refine pre46 t ?_
              show Steps p.tables e below (s₁.setTop (mkF m 43 #[.val (.ref sa), .val (.int (Int32.ofNat q.length)), .val (.int (Int32.ofNat x))] [(.int (3 : Int32)), (.int (Int32.ofNat q.length))])) _
              refine XS.icmpNo X0.here hx rfl (hb hby own_d4_43) rfl (tlt hc43_4).2.2.2 ?_
              show Steps p.tables e below (s₁.setTop (mkF m 46 #[.val (.ref sa), .val (.int (Int32.ofNat q.length)), .val (.int (Int32.ofNat x))] [])) _
              refine XS.aloadN X0.here hx rfl (hb hby own_d4_46) rfl rfl ?_
              show Steps p.tables e below (s₁.setTop (mkF m 47 #[.val (.ref sa), .val (.int (Int32.ofNat q.length)), .val (.int (Int32.ofNat x))] [(.ref sa)])) _
              refine XS.iconst X0.here hx rfl (hb hby own_d4_47) ?_
              show Steps p.tables e below (s₁.setTop (mkF m 48 #[.val (.ref sa), .val (.int (Int32.ofNat q.length)), .val (.int (Int32.ofNat x))] [(.int (3 : Int32)), (.ref sa)])) _
              refine ld47 _ ?_
              show Steps p.tables e below (s₁.setTop (mkF m 49 #[.val (.ref sa), .val (.int (Int32.ofNat q.length)), .val (.int (Int32.ofNat x))] [(.int (sf 3))])) _
              refine XS.iloadN X0.here hx rfl (hb hby own_d4_49) rfl ?_
              exact kt
            by_cases hc50_4 : (sf 3) = (Int32.ofNat x)
            case pos =>
              obtain ⟨fs, hr, hrun, hended, hW, hsame⟩ := X0.leave (v := some (.int (Int32.ofNat q.length))) (fun h => by rw [Bd.returns] at h; cases h) (BodyLoose.notSynchronized Bd)
              refine ⟨_, _, pre48 _ ?_, hrun, hended, _, _, rfl, ?_, ⟨_, rfl⟩, hW, hsame.mono (by decide) (by decide)⟩
              · skip
                show Steps p.tables e below (s₁.setTop (mkF m 50 #[.val (.ref sa), .val (.int (Int32.ofNat q.length)), .val (.int (Int32.ofNat x))] [(.int (Int32.ofNat x)), (.int (sf 3))])) _
                refine XS.icmpNo X0.here hx rfl (hb hby own_d4_50) rfl (teq hc50_4).2 ?_
                show Steps p.tables e below (s₁.setTop (mkF m 53 #[.val (.ref sa), .val (.int (Int32.ofNat q.length)), .val (.int (Int32.ofNat x))] [])) _
                refine XS.iloadN X0.here hx rfl (hb hby own_d4_53) rfl ?_
                show Steps p.tables e below (s₁.setTop (mkF m 54 #[.val (.ref sa), .val (.int (Int32.ofNat q.length)), .val (.int (Int32.ofNat x))] [(.int (Int32.ofNat q.length))])) _
                exact retI X0 hx Bd.returns (hb hby own_d4_54) hr
              · show own_Q4 Z sa q x h0 n0 _ s₁.heap _
                rw [e0]
                have k0 : 0 < q.length := (own_ltn (by decide) (by omega)).mp hc1
                have e0_ : ¬ q.getD 0 0 = x := fun w => hc8 ((hsf 0 k0).trans (congrArg Int32.ofNat w))
                have k1 : ¬ 1 < q.length := fun w => hc15 ((own_ltn (by decide) (by omega)).mpr w)
                have k2 : ¬ 2 < q.length := fun w => hc29_2 ((own_ltn (by decide) (by omega)).mpr w)
                have k3 : 3 < q.length := (own_ltn (by decide) (by omega)).mp hc43_4
                have e3_ : q.getD 3 0 = x := (own_eqn (hqs 3 k3) (by omega)).mp ((hsf 3 k3).symm.trans hc50_4)
                have hm : x ∈ q := own_mem k3 e3_
                have e1 : own_add q x = q := if_pos hm
                refine ⟨?_, N0, K0, ?_⟩
                · rw [e1]
                · rw [e1]; exact ⟨sf, V_sa, hsf⟩
            case neg =>
              obtain ⟨T49, h49, X49, e49, W49, V49, st49⟩ := own_stI X0 hx hZ e0 V_sa (j := (Int32.ofNat q.length)) (own_ix (by omega)).1 (k := q.length) (own_ix (by omega)).2 (by omega) (g := (mkF m 58 #[.val (.ref sa), .val (.int (Int32.ofNat q.length)), .val (.int (Int32.ofNat x))] [(.int (Int32.ofNat x)), (.int (Int32.ofNat q.length)), (.ref sa)])) rfl rfl (hb hby own_d4_58)
              have K50 := K0.wr W49 (Or.inl (List.mem_of_getElem? (i := 0) rfl))
              have Z51 := Nat.le_trans Z0 (Keep.of_wr W49).1
              have N52 := Fr.snoc X49 N0 g_sa
              have V_sa := V49
              obtain ⟨fs, hr, hrun, hended, hW, hsame⟩ := X49.leave (v := some (.int ((Int32.ofNat q.length) + (1 : Int32)))) (fun h => by rw [Bd.returns] at h; cases h) (BodyLoose.notSynchronized Bd)
              refine ⟨_, _, pre48 _ ?_, hrun, hended, _, _, rfl, ?_, ⟨_, rfl⟩, hW, hsame.mono (by decide) (by decide)⟩
              · skip
                show Steps p.tables e below (s₁.setTop (mkF m 50 #[.val (.ref sa), .val (.int (Int32.ofNat q.length)), .val (.int (Int32.ofNat x))] [(.int (Int32.ofNat x)), (.int (sf 3))])) _
                refine XS.icmpYes X0.here hx rfl (pc0 := 50) (pc' := 55) rfl (hb hby own_d4_50) rfl (feq hc50_4).2 (by decide) (by decide) ?_
                show Steps p.tables e below (s₁.setTop (mkF m 55 #[.val (.ref sa), .val (.int (Int32.ofNat q.length)), .val (.int (Int32.ofNat x))] [])) _
                refine XS.aloadN X0.here hx rfl (hb hby own_d4_55) rfl rfl ?_
                show Steps p.tables e below (s₁.setTop (mkF m 56 #[.val (.ref sa), .val (.int (Int32.ofNat q.length)), .val (.int (Int32.ofNat x))] [(.ref sa)])) _
                refine XS.iloadN X0.here hx rfl (hb hby own_d4_56) rfl ?_
                show Steps p.tables e below (s₁.setTop (mkF m 57 #[.val (.ref sa), .val (.int (Int32.ofNat q.length)), .val (.int (Int32.ofNat x))] [(.int (Int32.ofNat q.length)), (.ref sa)])) _
                refine XS.iloadN X0.here hx rfl (hb hby own_d4_57) rfl ?_
                show Steps p.tables e below (s₁.setTop (mkF m 58 #[.val (.ref sa), .val (.int (Int32.ofNat q.length)), .val (.int (Int32.ofNat x))] [(.int (Int32.ofNat x)), (.int (Int32.ofNat q.length)), (.ref sa)])) _
                refine st49 _ ?_
                show Steps p.tables e below (T49.setTop (mkF m 59 #[.val (.ref sa), .val (.int (Int32.ofNat q.length)), .val (.int (Int32.ofNat x))] [])) _
                refine XS.iloadN X49.here hx rfl (hb hby own_d4_59) rfl ?_
                show Steps p.tables e below (T49.setTop (mkF m 60 #[.val (.ref sa), .val (.int (Int32.ofNat q.length)), .val (.int (Int32.ofNat x))] [(.int (Int32.ofNat q.length))])) _
                refine XS.iconst X49.here hx rfl (hb hby own_d4_60) ?_
                show Steps p.tables e below (T49.setTop (mkF m 61 #[.val (.ref sa), .val (.int (Int32.ofNat q.length)), .val (.int (Int32.ofNat x))] [(.int (1 : Int32)), (.int (Int32.ofNat q.length))])) _
                refine XS.iadd X49.here hx rfl (hb hby own_d4_61) rfl ?_
                show Steps p.tables e below (T49.setTop (mkF m 62 #[.val (.ref sa), .val (.int (Int32.ofNat q.length)), .val (.int (Int32.ofNat x))] [(.int ((Int32.ofNat q.length) + (1 : Int32)))])) _
                exact retI X49 hx Bd.returns (hb hby own_d4_62) hr
              · show own_Q4 Z sa q x h0 n0 _ T49.heap _
                rw [e49]
                have k0 : 0 < q.length := (own_ltn (by decide) (by omega)).mp hc1
                have e0_ : ¬ q.getD 0 0 = x := fun w => hc8 ((hsf 0 k0).trans (congrArg Int32.ofNat w))
                have k1 : ¬ 1 < q.length := fun w => hc15 ((own_ltn (by decide) (by omega)).mpr w)
                have k2 : ¬ 2 < q.length := fun w => hc29_2 ((own_ltn (by decide) (by omega)).mpr w)
                have k3 : 3 < q.length := (own_ltn (by decide) (by omega)).mp hc43_4
                have e3_ : ¬ q.getD 3 0 = x := fun w => hc50_4 ((hsf 3 k3).trans (congrArg Int32.ofNat w))
                have hm : x ∉ q := own_nmem hl4 (fun w => by first | exact absurd w k0 | exact e0_) (fun w => by first | exact absurd w k1 | exact e1_) (fun w => by first | exact absurd w k2 | exact e2_) (fun w => by first | exact absurd w k3 | exact e3_)
                have e1 : own_add q x = q ++ [x] := if_neg hm
                refine ⟨?_, N52, K50, ?_⟩
                · rw [e1, List.length_append, List.length_singleton, Int32.ofNat_add]; rfl
                · rw [e1]
                  refine ⟨fun i => if i = q.length then Int32.ofNat x else sf i, V_sa.congr (fun i hi => ?_), fun i hi => ?_⟩
                  · by_cases w : i = q.length <;> simp [w]
                  · rw [own_gadd q x i hi]
                    by_cases w : i = q.length
                    · simp [w]
                    · simp only [w, if_false]
                      refine hsf i ?_
                      rw [List.length_append, List.length_singleton] at hi
                      omega
          case neg =>
            obtain ⟨T53, h53, X53, e53, W53, V53, st53⟩ := own_stI X0 hx hZ e0 V_sa (j := (Int32.ofNat q.length)) (own_ix (by omega)).1 (k := q.length) (own_ix (by omega)).2 (by omega) (g := (mkF m 58 #[.val (.ref sa), .val (.int (Int32.ofNat q.length)), .val (.int (Int32.ofNat x))] [(.int (Int32.ofNat x)), (.int (Int32.ofNat q.length)), (.ref sa)])) rfl rfl (hb hby own_d4_58)
            have K54 := K0.wr W53 (Or.inl (List.mem_of_getElem? (i := 0) rfl))
            have Z55 := Nat.le_trans Z0 (Keep.of_wr W53).1
            have N56 := Fr.snoc X53 N0 g_sa
            have V_sa := V53
            obtain ⟨fs, hr, hrun, hended, hW, hsame⟩ := X53.leave (v := some (.int ((Int32.ofNat q.length) + (1 : Int32)))) (fun h => by rw [Bd.returns] at h; cases h) (BodyLoose.notSynchronized Bd)
            refine ⟨_, _, pre46 _ ?_, hrun, hended, _, _, rfl, ?_, ⟨_, rfl⟩, hW, hsame.mono (by decide) (by decide)⟩
            · skip
              show Steps p.tables e below (s₁.setTop (mkF m 43 #[.val (.ref sa), .val (.int (Int32.ofNat q.length)), .val (.int (Int32.ofNat x))] [(.int (3 : Int32)), (.int (Int32.ofNat q.length))])) _
              refine XS.icmpYes X0.here hx rfl (pc0 := 43) (pc' := 55) rfl (hb hby own_d4_43) rfl (flt hc43_4).2.2.2 (by decide) (by decide) ?_
              show Steps p.tables e below (s₁.setTop (mkF m 55 #[.val (.ref sa), .val (.int (Int32.ofNat q.length)), .val (.int (Int32.ofNat x))] [])) _
              refine XS.aloadN X0.here hx rfl (hb hby own_d4_55) rfl rfl ?_
              show Steps p.tables e below (s₁.setTop (mkF m 56 #[.val (.ref sa), .val (.int (Int32.ofNat q.length)), .val (.int (Int32.ofNat x))] [(.ref sa)])) _
              refine XS.iloadN X0.here hx rfl (hb hby own_d4_56) rfl ?_
              show Steps p.tables e below (s₁.setTop (mkF m 57 #[.val (.ref sa), .val (.int (Int32.ofNat q.length)), .val (.int (Int32.ofNat x))] [(.int (Int32.ofNat q.length)), (.ref sa)])) _
              refine XS.iloadN X0.here hx rfl (hb hby own_d4_57) rfl ?_
              show Steps p.tables e below (s₁.setTop (mkF m 58 #[.val (.ref sa), .val (.int (Int32.ofNat q.length)), .val (.int (Int32.ofNat x))] [(.int (Int32.ofNat x)), (.int (Int32.ofNat q.length)), (.ref sa)])) _
              refine st53 _ ?_
              show Steps p.tables e below (T53.setTop (mkF m 59 #[.val (.ref sa), .val (.int (Int32.ofNat q.length)), .val (.int (Int32.ofNat x))] [])) _
              refine XS.iloadN X53.here hx rfl (hb hby own_d4_59) rfl ?_
              show Steps p.tables e below (T53.setTop (mkF m 60 #[.val (.ref sa), .val (.int (Int32.ofNat q.length)), .val (.int (Int32.ofNat x))] [(.int (Int32.ofNat q.length))])) _
              refine XS.iconst X53.here hx rfl (hb hby own_d4_60) ?_
              show Steps p.tables e below (T53.setTop (mkF m 61 #[.val (.ref sa), .val (.int (Int32.ofNat q.length)), .val (.int (Int32.ofNat x))] [(.int (1 : Int32)), (.int (Int32.ofNat q.length))])) _
              refine XS.iadd X53.here hx rfl (hb hby own_d4_61) rfl ?_
              show Steps p.tables e below (T53.setTop (mkF m 62 #[.val (.ref sa), .val (.int (Int32.ofNat q.length)), .val (.int (Int32.ofNat x))] [(.int ((Int32.ofNat q.length) + (1 : Int32)))])) _
              exact retI X53 hx Bd.returns (hb hby own_d4_62) hr
            · show own_Q4 Z sa q x h0 n0 _ T53.heap _
              rw [e53]
              have k0 : 0 < q.length := (own_ltn (by decide) (by omega)).mp hc1
              have e0_ : ¬ q.getD 0 0 = x := fun w => hc8 ((hsf 0 k0).trans (congrArg Int32.ofNat w))
              have k1 : ¬ 1 < q.length := fun w => hc15 ((own_ltn (by decide) (by omega)).mpr w)
              have k2 : ¬ 2 < q.length := fun w => hc29_2 ((own_ltn (by decide) (by omega)).mpr w)
              have k3 : ¬ 3 < q.length := fun w => hc43_4 ((own_ltn (by decide) (by omega)).mpr w)
              have hm : x ∉ q := own_nmem hl4 (fun w => by first | exact absurd w k0 | exact e0_) (fun w => by first | exact absurd w k1 | exact e1_) (fun w => by first | exact absurd w k2 | exact e2_) (fun w => by first | exact absurd w k3 | exact e3_)
              have e1 : own_add q x = q ++ [x] := if_neg hm
              refine ⟨?_, N56, K54, ?_⟩
              · rw [e1, List.length_append, List.length_singleton, Int32.ofNat_add]; rfl
              · rw [e1]
                refine ⟨fun i => if i = q.length then Int32.ofNat x else sf i, V_sa.congr (fun i hi => ?_), fun i hi => ?_⟩
                · by_cases w : i = q.length <;> simp [w]
                · rw [own_gadd q x i hi]
                  by_cases w : i = q.length
                  · simp [w]
                  · simp only [w, if_false]
                    refine hsf i ?_
                    rw [List.length_append, List.length_singleton] at hi
                    omega
  case neg =>
    have pre57 : ∀ t, Steps p.tables e below (s₁.setTop (mkF m 15 #[.val (.ref sa), .val (.int (Int32.ofNat q.length)), .val (.int (Int32.ofNat x))] [(.int (1 : Int32)), (.int (Int32.ofNat q.length))])) t → Steps p.tables e below (s₁.setTop (entryFrame m #[(.ref sa), (.int (Int32.ofNat q.length)), (.int (Int32.ofNat x))] 3)) t := by
      intro t kt
      refine pre1 t ?_
      show Steps p.tables e below (s₁.setTop (mkF m 1 #[.val (.ref sa), .val (.int (Int32.ofNat q.length)), .val (.int (Int32.ofNat x))] [(.int (Int32.ofNat q.length))])) _
      refine XS.ifYes X0.here hx rfl (pc0 := 1) (pc' := 13) rfl (hb hby own_d4_1) rfl ((if0 _ _).trans (flt hc1).2.2.2) (by decide) (by decide) ?_
      show Steps p.tables e below (s₁.setTop (mkF m 13 #[.val (.ref sa), .val (.int (Int32.ofNat q.length)), .val (.int (Int32.ofNat x))] [])) _
      refine XS.iloadN X0.here hx rfl (hb hby own_d4_13) rfl ?_
      show Steps p.tables e below (s₁.setTop (mkF m 14 #[.val (.ref sa), .val (.int (Int32.ofNat q.length)), .val (.int (Int32.ofNat x))] [(.int (Int32.ofNat q.length))])) _
      refine XS.iconst X0.here hx rfl (hb hby own_d4_14) ?_
      exact kt
    by_cases hc15_2 : (1 : Int32) < (Int32.ofNat q.length)
    case pos =>
      have ld58 := (own_ldI X0 hx hZ e0 V_sa (j := (1 : Int32)) (by decide) (k := 1) rfl (by decide) (v := (.int (sf 1))) rfl (g := (mkF m 20 #[.val (.ref sa), .val (.int (Int32.ofNat q.length)), .val (.int (Int32.ofNat x))] [(.int (1 : Int32)), (.ref sa)])) rfl rfl (hb hby own_d4_20))
      have pre59 : ∀ t, Steps p.tables e below (s₁.setTop (mkF m 22 #[.val (.ref sa), .val (.int (Int32.ofNat q.length)), .val (.int (Int32.ofNat x))] [(.int (Int32.ofNat x)), (.int (sf 1))])) t → Steps p.tables e below (s₁.setTop (entryFrame m #[(.ref sa), (.int (Int32.ofNat q.length)), (.int (Int32.ofNat x))] 3)) t := by
        intro t kt
        refine pre57 t ?_
        show Steps p.tables e below (s₁.setTop (mkF m 15 #[.val (.ref sa), .val (.int (Int32.ofNat q.length)), .val (.int (Int32.ofNat x))] [(.int (1 : Int32)), (.int (Int32.ofNat q.length))])) _
        refine XS.icmpNo X0.here hx rfl (hb hby own_d4_15) rfl (tlt hc15_2).2.2.2 ?_
        show Steps p.tables e below (s₁.setTop (mkF m 18 #[.val (.ref sa), .val (.int (Int32.ofNat q.length)), .val (.int (Int32.ofNat x))] [])) _
        refine XS.aloadN X0.here hx rfl (hb hby own_d4_18) rfl rfl ?_
        show Steps p.tables e below (s₁.setTop (mkF m 19 #[.val (.ref sa), .val (.int (Int32.ofNat q.length)), .val (.int (Int32.ofNat x))] [(.ref sa)])) _
        refine XS.iconst X0.here hx rfl (hb hby own_d4_19) ?_
        show Steps p.tables e below (s₁.setTop (mkF m 20 #[.val (.ref sa), .val (.int (Int32.ofNat q.length)), .val (.int (Int32.ofNat x))] [(.int (1 : Int32)), (.ref sa)])) _
        refine ld58 _ ?_
        show Steps p.tables e below (s₁.setTop (mkF m 21 #[.val (.ref sa), .val (.int (Int32.ofNat q.length)), .val (.int (Int32.ofNat x))] [(.int (sf 1))])) _
        refine XS.iloadN X0.here hx rfl (hb hby own_d4_21) rfl ?_
        exact kt
      by_cases hc22_2 : (sf 1) = (Int32.ofNat x)
      case pos =>
        obtain ⟨fs, hr, hrun, hended, hW, hsame⟩ := X0.leave (v := some (.int (Int32.ofNat q.length))) (fun h => by rw [Bd.returns] at h; cases h) (BodyLoose.notSynchronized Bd)
        refine ⟨_, _, pre59 _ ?_, hrun, hended, _, _, rfl, ?_, ⟨_, rfl⟩, hW, hsame.mono (by decide) (by decide)⟩
        · skip
          show Steps p.tables e below (s₁.setTop (mkF m 22 #[.val (.ref sa), .val (.int (Int32.ofNat q.length)), .val (.int (Int32.ofNat x))] [(.int (Int32.ofNat x)), (.int (sf 1))])) _
          refine XS.icmpNo X0.here hx rfl (hb hby own_d4_22) rfl (teq hc22_2).2 ?_
          show Steps p.tables e below (s₁.setTop (mkF m 25 #[.val (.ref sa), .val (.int (Int32.ofNat q.length)), .val (.int (Int32.ofNat x))] [])) _
          refine XS.iloadN X0.here hx rfl (hb hby own_d4_25) rfl ?_
          show Steps p.tables e below (s₁.setTop (mkF m 26 #[.val (.ref sa), .val (.int (Int32.ofNat q.length)), .val (.int (Int32.ofNat x))] [(.int (Int32.ofNat q.length))])) _
          exact retI X0 hx Bd.returns (hb hby own_d4_26) hr
        · show own_Q4 Z sa q x h0 n0 _ s₁.heap _
          rw [e0]
          have k0 : ¬ 0 < q.length := fun w => hc1 ((own_ltn (by decide) (by omega)).mpr w)
          have k1 : 1 < q.length := (own_ltn (by decide) (by omega)).mp hc15_2
          have e1_ : q.getD 1 0 = x := (own_eqn (hqs 1 k1) (by omega)).mp ((hsf 1 k1).symm.trans hc22_2)
          have hm : x ∈ q := own_mem k1 e1_
          have e1 : own_add q x = q := if_pos hm
          refine ⟨?_, N0, K0, ?_⟩
          · rw [e1]
          · rw [e1]; exact ⟨sf, V_sa, hsf⟩
      case neg =>
        have pre60 : ∀ t, Steps p.tables e below (s₁.setTop (mkF m 29 #[.val (.ref sa), .val (.int (Int32.ofNat q.length)), .val (.int (Int32.ofNat x))] [(.int (2 : Int32)), (.int (Int32.ofNat q.length))])) t → Steps p.tables e below (s₁.setTop (entryFrame m #[(.ref sa), (.int (Int32.ofNat q.length)), (.int (Int32.ofNat x))] 3)) t := by
          intro t kt
          refine pre59 t ?_
          show Steps p.tables e below (s₁.setTop (mkF m 22 #[.val (.ref sa), .val (.int (Int32.ofNat q.length)), .val (.int (Int32.ofNat x))] [(.int (Int32.ofNat x)), (.int (sf 1))])) _
          refine XS.icmpYes X0.here hx rfl (pc0 := 22) (pc' := 27) rfl (hb hby own_d4_22) rfl (feq hc22_2).2 (by decide) (by decide) ?_
          show Steps p.tables e below (s₁.setTop (mkF m 27 #[.val (.ref sa), .val (.int (Int32.ofNat q.length)), .val (.int (Int32.ofNat x))] [])) _
          refine XS.iloadN X0.here hx rfl (hb hby own_d4_27) rfl ?_
          show Steps p.tables e below (s₁.setTop (mkF m 28 #[.val (.ref sa), .val (.int (Int32.ofNat q.length)), .val (.int (Int32.ofNat x))] [(.int (Int32.ofNat q.length))])) _
          refine XS.iconst X0.here hx rfl (hb hby own_d4_28) ?_
          exact kt
        by_cases hc29_3 : (2 : Int32) < (Int32.ofNat q.length)
        case pos =>
          have ld61 := (own_ldI X0 hx hZ e0 V_sa (j := (2 : Int32)) (by decide) (k := 2) rfl (by decide) (v := (.int (sf 2))) rfl (g := (mkF m 34 #[.val (.ref sa), .val (.int (Int32.ofNat q.length)), .val (.int (Int32.ofNat x))] [(.int (2 : Int32)), (.ref sa)])) rfl rfl (hb hby own_d4_34))
          have pre62 : ∀ t, Steps p.tables e below (s₁.setTop (mkF m 36 #[.val (.ref sa), .val (.int (Int32.ofNat q.length)), .val (.int (Int32.ofNat x))] [(.int (Int32.ofNat x)), (.int (sf 2))])) t → Steps p.tables e below (s₁.setTop (entryFrame m #[(.ref sa), (.int (Int32.ofNat q.length)), (.int (Int32.ofNat x))] 3)) t := by
            intro t kt
            refine pre60 t ?_
            show Steps p.tables e below (s₁.setTop (mkF m 29 #[.val (.ref sa), .val (.int (Int32.ofNat q.length)), .val (.int (Int32.ofNat x))] [(.int (2 : Int32)), (.int (Int32.ofNat q.length))])) _
            refine XS.icmpNo X0.here hx rfl (hb hby own_d4_29) rfl (tlt hc29_3).2.2.2 ?_
            show Steps p.tables e below (s₁.setTop (mkF m 32 #[.val (.ref sa), .val (.int (Int32.ofNat q.length)), .val (.int (Int32.ofNat x))] [])) _
            refine XS.aloadN X0.here hx rfl (hb hby own_d4_32) rfl rfl ?_
            show Steps p.tables e below (s₁.setTop (mkF m 33 #[.val (.ref sa), .val (.int (Int32.ofNat q.length)), .val (.int (Int32.ofNat x))] [(.ref sa)])) _
            refine XS.iconst X0.here hx rfl (hb hby own_d4_33) ?_
            show Steps p.tables e below (s₁.setTop (mkF m 34 #[.val (.ref sa), .val (.int (Int32.ofNat q.length)), .val (.int (Int32.ofNat x))] [(.int (2 : Int32)), (.ref sa)])) _
            refine ld61 _ ?_
            show Steps p.tables e below (s₁.setTop (mkF m 35 #[.val (.ref sa), .val (.int (Int32.ofNat q.length)), .val (.int (Int32.ofNat x))] [(.int (sf 2))])) _
            refine XS.iloadN X0.here hx rfl (hb hby own_d4_35) rfl ?_
            exact kt
          by_cases hc36_3 : (sf 2) = (Int32.ofNat x)
          case pos =>
            obtain ⟨fs, hr, hrun, hended, hW, hsame⟩ := X0.leave (v := some (.int (Int32.ofNat q.length))) (fun h => by rw [Bd.returns] at h; cases h) (BodyLoose.notSynchronized Bd)
            refine ⟨_, _, pre62 _ ?_, hrun, hended, _, _, rfl, ?_, ⟨_, rfl⟩, hW, hsame.mono (by decide) (by decide)⟩
            · skip
              show Steps p.tables e below (s₁.setTop (mkF m 36 #[.val (.ref sa), .val (.int (Int32.ofNat q.length)), .val (.int (Int32.ofNat x))] [(.int (Int32.ofNat x)), (.int (sf 2))])) _
              refine XS.icmpNo X0.here hx rfl (hb hby own_d4_36) rfl (teq hc36_3).2 ?_
              show Steps p.tables e below (s₁.setTop (mkF m 39 #[.val (.ref sa), .val (.int (Int32.ofNat q.length)), .val (.int (Int32.ofNat x))] [])) _
              refine XS.iloadN X0.here hx rfl (hb hby own_d4_39) rfl ?_
              show Steps p.tables e below (s₁.setTop (mkF m 40 #[.val (.ref sa), .val (.int (Int32.ofNat q.length)), .val (.int (Int32.ofNat x))] [(.int (Int32.ofNat q.length))])) _
              exact retI X0 hx Bd.returns (hb hby own_d4_40) hr
            · show own_Q4 Z sa q x h0 n0 _ s₁.heap _
              rw [e0]
              have k0 : ¬ 0 < q.length := fun w => hc1 ((own_ltn (by decide) (by omega)).mpr w)
              have k1 : 1 < q.length := (own_ltn (by decide) (by omega)).mp hc15_2
              have e1_ : ¬ q.getD 1 0 = x := fun w => hc22_2 ((hsf 1 k1).trans (congrArg Int32.ofNat w))
              have k2 : 2 < q.length := (own_ltn (by decide) (by omega)).mp hc29_3
              have e2_ : q.getD 2 0 = x := (own_eqn (hqs 2 k2) (by omega)).mp ((hsf 2 k2).symm.trans hc36_3)
              have hm : x ∈ q := own_mem k2 e2_
              have e1 : own_add q x = q := if_pos hm
              refine ⟨?_, N0, K0, ?_⟩
              · rw [e1]
              · rw [e1]; exact ⟨sf, V_sa, hsf⟩
          case neg =>
            have pre63 : ∀ t, Steps p.tables e below (s₁.setTop (mkF m 43 #[.val (.ref sa), .val (.int (Int32.ofNat q.length)), .val (.int (Int32.ofNat x))] [(.int (3 : Int32)), (.int (Int32.ofNat q.length))])) t → Steps p.tables e below (s₁.setTop (entryFrame m #[(.ref sa), (.int (Int32.ofNat q.length)), (.int (Int32.ofNat x))] 3)) t := by
              intro t kt
              refine pre62 t ?_
              show Steps p.tables e below (s₁.setTop (mkF m 36 #[.val (.ref sa), .val (.int (Int32.ofNat q.length)), .val (.int (Int32.ofNat x))] [(.int (Int32.ofNat x)), (.int (sf 2))])) _
              refine XS.icmpYes X0.here hx rfl (pc0 := 36) (pc' := 41) rfl (hb hby own_d4_36) rfl (feq hc36_3).2 (by decide) (by decide) ?_
              show Steps p.tables e below (s₁.setTop (mkF m 41 #[.val (.ref sa), .val (.int (Int32.ofNat q.length)), .val (.int (Int32.ofNat x))] [])) _
              refine XS.iloadN X0.here hx rfl (hb hby own_d4_41) rfl ?_
              show Steps p.tables e below (s₁.setTop (mkF m 42 #[.val (.ref sa), .val (.int (Int32.ofNat q.length)), .val (.int (Int32.ofNat x))] [(.int (Int32.ofNat q.length))])) _
              refine XS.iconst X0.here hx rfl (hb hby own_d4_42) ?_
              exact kt
            by_cases hc43_5 : (3 : Int32) < (Int32.ofNat q.length)
            case pos =>
              have ld64 := (own_ldI X0 hx hZ e0 V_sa (j := (3 : Int32)) (by decide) (k := 3) rfl (by decide) (v := (.int (sf 3))) rfl (g := (mkF m 48 #[.val (.ref sa), .val (.int (Int32.ofNat q.length)), .val (.int (Int32.ofNat x))] [(.int (3 : Int32)), (.ref sa)])) rfl rfl (hb hby own_d4_48))
              have pre65 : ∀ t, Steps p.tables e below (s₁.setTop (mkF m 50 #[.val (.ref sa), .val (.int (Int32.ofNat q.length)), .val (.int (Int32.ofNat x))] [(.int (Int32.ofNat x)), (.int (sf 3))])) t → Steps p.tables e below (s₁.setTop (entryFrame m #[(.ref sa), (.int (Int32.ofNat q.length)), (.int (Int32.ofNat x))] 3)) t := by
                intro t kt
                refine pre63 t ?_
                show Steps p.tables e below (s₁.setTop (mkF m 43 #[.val (.ref sa), .val (.int (Int32.ofNat q.length)), .val (.int (Int32.ofNat x))] [(.int (3 : Int32)), (.int (Int32.ofNat q.length))])) _
                refine XS.icmpNo X0.here hx rfl (hb hby own_d4_43) rfl (tlt hc43_5).2.2.2 ?_
                show Steps p.tables e below (s₁.setTop (mkF m 46 #[.val (.ref sa), .val (.int (Int32.ofNat q.length)), .val (.int (Int32.ofNat x))] [])) _
                refine XS.aloadN X0.here hx rfl (hb hby own_d4_46) rfl rfl ?_
                show Steps p.tables e below (s₁.setTop (mkF m 47 #[.val (.ref sa), .val (.int (Int32.ofNat q.length)), .val (.int (Int32.ofNat x))] [(.ref sa)])) _
                refine XS.iconst X0.here hx rfl (hb hby own_d4_47) ?_
                show Steps p.tables e below (s₁.setTop (mkF m 48 #[.val (.ref sa), .val (.int (Int32.ofNat q.length)), .val (.int (Int32.ofNat x))] [(.int (3 : Int32)), (.ref sa)])) _
                refine ld64 _ ?_
                show Steps p.tables e below (s₁.setTop (mkF m 49 #[.val (.ref sa), .val (.int (Int32.ofNat q.length)), .val (.int (Int32.ofNat x))] [(.int (sf 3))])) _
                refine XS.iloadN X0.here hx rfl (hb hby own_d4_49) rfl ?_
                exact kt
              by_cases hc50_5 : (sf 3) = (Int32.ofNat x)
              case pos =>
                obtain ⟨fs, hr, hrun, hended, hW, hsame⟩ := X0.leave (v := some (.int (Int32.ofNat q.length))) (fun h => by rw [Bd.returns] at h; cases h) (BodyLoose.notSynchronized Bd)
                refine ⟨_, _, pre65 _ ?_, hrun, hended, _, _, rfl, ?_, ⟨_, rfl⟩, hW, hsame.mono (by decide) (by decide)⟩
                · skip
                  show Steps p.tables e below (s₁.setTop (mkF m 50 #[.val (.ref sa), .val (.int (Int32.ofNat q.length)), .val (.int (Int32.ofNat x))] [(.int (Int32.ofNat x)), (.int (sf 3))])) _
                  refine XS.icmpNo X0.here hx rfl (hb hby own_d4_50) rfl (teq hc50_5).2 ?_
                  show Steps p.tables e below (s₁.setTop (mkF m 53 #[.val (.ref sa), .val (.int (Int32.ofNat q.length)), .val (.int (Int32.ofNat x))] [])) _
                  refine XS.iloadN X0.here hx rfl (hb hby own_d4_53) rfl ?_
                  show Steps p.tables e below (s₁.setTop (mkF m 54 #[.val (.ref sa), .val (.int (Int32.ofNat q.length)), .val (.int (Int32.ofNat x))] [(.int (Int32.ofNat q.length))])) _
                  exact retI X0 hx Bd.returns (hb hby own_d4_54) hr
                · show own_Q4 Z sa q x h0 n0 _ s₁.heap _
                  rw [e0]
                  have k0 : ¬ 0 < q.length := fun w => hc1 ((own_ltn (by decide) (by omega)).mpr w)
                  have k1 : 1 < q.length := (own_ltn (by decide) (by omega)).mp hc15_2
                  have e1_ : ¬ q.getD 1 0 = x := fun w => hc22_2 ((hsf 1 k1).trans (congrArg Int32.ofNat w))
                  have k2 : 2 < q.length := (own_ltn (by decide) (by omega)).mp hc29_3
                  have e2_ : ¬ q.getD 2 0 = x := fun w => hc36_3 ((hsf 2 k2).trans (congrArg Int32.ofNat w))
                  have k3 : 3 < q.length := (own_ltn (by decide) (by omega)).mp hc43_5
                  have e3_ : q.getD 3 0 = x := (own_eqn (hqs 3 k3) (by omega)).mp ((hsf 3 k3).symm.trans hc50_5)
                  have hm : x ∈ q := own_mem k3 e3_
                  have e1 : own_add q x = q := if_pos hm
                  refine ⟨?_, N0, K0, ?_⟩
                  · rw [e1]
                  · rw [e1]; exact ⟨sf, V_sa, hsf⟩
              case neg =>
                obtain ⟨T66, h66, X66, e66, W66, V66, st66⟩ := own_stI X0 hx hZ e0 V_sa (j := (Int32.ofNat q.length)) (own_ix (by omega)).1 (k := q.length) (own_ix (by omega)).2 (by omega) (g := (mkF m 58 #[.val (.ref sa), .val (.int (Int32.ofNat q.length)), .val (.int (Int32.ofNat x))] [(.int (Int32.ofNat x)), (.int (Int32.ofNat q.length)), (.ref sa)])) rfl rfl (hb hby own_d4_58)
                have K67 := K0.wr W66 (Or.inl (List.mem_of_getElem? (i := 0) rfl))
                have Z68 := Nat.le_trans Z0 (Keep.of_wr W66).1
                have N69 := Fr.snoc X66 N0 g_sa
                have V_sa := V66
                obtain ⟨fs, hr, hrun, hended, hW, hsame⟩ := X66.leave (v := some (.int ((Int32.ofNat q.length) + (1 : Int32)))) (fun h => by rw [Bd.returns] at h; cases h) (BodyLoose.notSynchronized Bd)
                refine ⟨_, _, pre65 _ ?_, hrun, hended, _, _, rfl, ?_, ⟨_, rfl⟩, hW, hsame.mono (by decide) (by decide)⟩
                · skip
                  show Steps p.tables e below (s₁.setTop (mkF m 50 #[.val (.ref sa), .val (.int (Int32.ofNat q.length)), .val (.int (Int32.ofNat x))] [(.int (Int32.ofNat x)), (.int (sf 3))])) _
                  refine XS.icmpYes X0.here hx rfl (pc0 := 50) (pc' := 55) rfl (hb hby own_d4_50) rfl (feq hc50_5).2 (by decide) (by decide) ?_
                  show Steps p.tables e below (s₁.setTop (mkF m 55 #[.val (.ref sa), .val (.int (Int32.ofNat q.length)), .val (.int (Int32.ofNat x))] [])) _
                  refine XS.aloadN X0.here hx rfl (hb hby own_d4_55) rfl rfl ?_
                  show Steps p.tables e below (s₁.setTop (mkF m 56 #[.val (.ref sa), .val (.int (Int32.ofNat q.length)), .val (.int (Int32.ofNat x))] [(.ref sa)])) _
                  refine XS.iloadN X0.here hx rfl (hb hby own_d4_56) rfl ?_
                  show Steps p.tables e below (s₁.setTop (mkF m 57 #[.val (.ref sa), .val (.int (Int32.ofNat q.length)), .val (.int (Int32.ofNat x))] [(.int (Int32.ofNat q.length)), (.ref sa)])) _
                  refine XS.iloadN X0.here hx rfl (hb hby own_d4_57) rfl ?_
                  show Steps p.tables e below (s₁.setTop (mkF m 58 #[.val (.ref sa), .val (.int (Int32.ofNat q.length)), .val (.int (Int32.ofNat x))] [(.int (Int32.ofNat x)), (.int (Int32.ofNat q.length)), (.ref sa)])) _
                  refine st66 _ ?_
                  show Steps p.tables e below (T66.setTop (mkF m 59 #[.val (.ref sa), .val (.int (Int32.ofNat q.length)), .val (.int (Int32.ofNat x))] [])) _
                  refine XS.iloadN X66.here hx rfl (hb hby own_d4_59) rfl ?_
                  show Steps p.tables e below (T66.setTop (mkF m 60 #[.val (.ref sa), .val (.int (Int32.ofNat q.length)), .val (.int (Int32.ofNat x))] [(.int (Int32.ofNat q.length))])) _
                  refine XS.iconst X66.here hx rfl (hb hby own_d4_60) ?_
                  show Steps p.tables e below (T66.setTop (mkF m 61 #[.val (.ref sa), .val (.int (Int32.ofNat q.length)), .val (.int (Int32.ofNat x))] [(.int (1 : Int32)), (.int (Int32.ofNat q.length))])) _
                  refine XS.iadd X66.here hx rfl (hb hby own_d4_61) rfl ?_
                  show Steps p.tables e below (T66.setTop (mkF m 62 #[.val (.ref sa), .val (.int (Int32.ofNat q.length)), .val (.int (Int32.ofNat x))] [(.int ((Int32.ofNat q.length) + (1 : Int32)))])) _
                  exact retI X66 hx Bd.returns (hb hby own_d4_62) hr
                · show own_Q4 Z sa q x h0 n0 _ T66.heap _
                  rw [e66]
                  have k0 : ¬ 0 < q.length := fun w => hc1 ((own_ltn (by decide) (by omega)).mpr w)
                  have k1 : 1 < q.length := (own_ltn (by decide) (by omega)).mp hc15_2
                  have e1_ : ¬ q.getD 1 0 = x := fun w => hc22_2 ((hsf 1 k1).trans (congrArg Int32.ofNat w))
                  have k2 : 2 < q.length := (own_ltn (by decide) (by omega)).mp hc29_3
                  have e2_ : ¬ q.getD 2 0 = x := fun w => hc36_3 ((hsf 2 k2).trans (congrArg Int32.ofNat w))
                  have k3 : 3 < q.length := (own_ltn (by decide) (by omega)).mp hc43_5
                  have e3_ : ¬ q.getD 3 0 = x := fun w => hc50_5 ((hsf 3 k3).trans (congrArg Int32.ofNat w))
                  have hm : x ∉ q := own_nmem hl4 (fun w => by first | exact absurd w k0 | exact e0_) (fun w => by first | exact absurd w k1 | exact e1_) (fun w => by first | exact absurd w k2 | exact e2_) (fun w => by first | exact absurd w k3 | exact e3_)
                  have e1 : own_add q x = q ++ [x] := if_neg hm
                  refine ⟨?_, N69, K67, ?_⟩
                  · rw [e1, List.length_append, List.length_singleton, Int32.ofNat_add]; rfl
                  · rw [e1]
                    refine ⟨fun i => if i = q.length then Int32.ofNat x else sf i, V_sa.congr (fun i hi => ?_), fun i hi => ?_⟩
                    · by_cases w : i = q.length <;> simp [w]
                    · rw [own_gadd q x i hi]
                      by_cases w : i = q.length
                      · simp [w]
                      · simp only [w, if_false]
                        refine hsf i ?_
                        rw [List.length_append, List.length_singleton] at hi
                        omega
            case neg =>
              obtain ⟨T70, h70, X70, e70, W70, V70, st70⟩ := own_stI X0 hx hZ e0 V_sa (j := (Int32.ofNat q.length)) (own_ix (by omega)).1 (k := q.length) (own_ix (by omega)).2 (by omega) (g := (mkF m 58 #[.val (.ref sa), .val (.int (Int32.ofNat q.length)), .val (.int (Int32.ofNat x))] [(.int (Int32.ofNat x)), (.int (Int32.ofNat q.length)), (.ref sa)])) rfl rfl (hb hby own_d4_58)
              have K71 := K0.wr W70 (Or.inl (List.mem_of_getElem? (i := 0) rfl))
              have Z72 := Nat.le_trans Z0 (Keep.of_wr W70).1
              have N73 := Fr.snoc X70 N0 g_sa
              have V_sa := V70
              obtain ⟨fs, hr, hrun, hended, hW, hsame⟩ := X70.leave (v := some (.int ((Int32.ofNat q.length) + (1 : Int32)))) (fun h => by rw [Bd.returns] at h; cases h) (BodyLoose.notSynchronized Bd)
              refine ⟨_, _, pre63 _ ?_, hrun, hended, _, _, rfl, ?_, ⟨_, rfl⟩, hW, hsame.mono (by decide) (by decide)⟩
              · skip
                show Steps p.tables e below (s₁.setTop (mkF m 43 #[.val (.ref sa), .val (.int (Int32.ofNat q.length)), .val (.int (Int32.ofNat x))] [(.int (3 : Int32)), (.int (Int32.ofNat q.length))])) _
                refine XS.icmpYes X0.here hx rfl (pc0 := 43) (pc' := 55) rfl (hb hby own_d4_43) rfl (flt hc43_5).2.2.2 (by decide) (by decide) ?_
                show Steps p.tables e below (s₁.setTop (mkF m 55 #[.val (.ref sa), .val (.int (Int32.ofNat q.length)), .val (.int (Int32.ofNat x))] [])) _
                refine XS.aloadN X0.here hx rfl (hb hby own_d4_55) rfl rfl ?_
                show Steps p.tables e below (s₁.setTop (mkF m 56 #[.val (.ref sa), .val (.int (Int32.ofNat q.length)), .val (.int (Int32.ofNat x))] [(.ref sa)])) _
                refine XS.iloadN X0.here hx rfl (hb hby own_d4_56) rfl ?_
                show Steps p.tables e below (s₁.setTop (mkF m 57 #[.val (.ref sa), .val (.int (Int32.ofNat q.length)), .val (.int (Int32.ofNat x))] [(.int (Int32.ofNat q.length)), (.ref sa)])) _
                refine XS.iloadN X0.here hx rfl (hb hby own_d4_57) rfl ?_
                show Steps p.tables e below (s₁.setTop (mkF m 58 #[.val (.ref sa), .val (.int (Int32.ofNat q.length)), .val (.int (Int32.ofNat x))] [(.int (Int32.ofNat x)), (.int (Int32.ofNat q.length)), (.ref sa)])) _
                refine st70 _ ?_
                show Steps p.tables e below (T70.setTop (mkF m 59 #[.val (.ref sa), .val (.int (Int32.ofNat q.length)), .val (.int (Int32.ofNat x))] [])) _
                refine XS.iloadN X70.here hx rfl (hb hby own_d4_59) rfl ?_
                show Steps p.tables e below (T70.setTop (mkF m 60 #[.val (.ref sa), .val (.int (Int32.ofNat q.length)), .val (.int (Int32.ofNat x))] [(.int (Int32.ofNat q.length))])) _
                refine XS.iconst X70.here hx rfl (hb hby own_d4_60) ?_
                show Steps p.tables e below (T70.setTop (mkF m 61 #[.val (.ref sa), .val (.int (Int32.ofNat q.length)), .val (.int (Int32.ofNat x))] [(.int (1 : Int32)), (.int (Int32.ofNat q.length))])) _
                refine XS.iadd X70.here hx rfl (hb hby own_d4_61) rfl ?_
                show Steps p.tables e below (T70.setTop (mkF m 62 #[.val (.ref sa), .val (.int (Int32.ofNat q.length)), .val (.int (Int32.ofNat x))] [(.int ((Int32.ofNat q.length) + (1 : Int32)))])) _
                exact retI X70 hx Bd.returns (hb hby own_d4_62) hr
              · show own_Q4 Z sa q x h0 n0 _ T70.heap _
                rw [e70]
                have k0 : ¬ 0 < q.length := fun w => hc1 ((own_ltn (by decide) (by omega)).mpr w)
                have k1 : 1 < q.length := (own_ltn (by decide) (by omega)).mp hc15_2
                have e1_ : ¬ q.getD 1 0 = x := fun w => hc22_2 ((hsf 1 k1).trans (congrArg Int32.ofNat w))
                have k2 : 2 < q.length := (own_ltn (by decide) (by omega)).mp hc29_3
                have e2_ : ¬ q.getD 2 0 = x := fun w => hc36_3 ((hsf 2 k2).trans (congrArg Int32.ofNat w))
                have k3 : ¬ 3 < q.length := fun w => hc43_5 ((own_ltn (by decide) (by omega)).mpr w)
                have hm : x ∉ q := own_nmem hl4 (fun w => by first | exact absurd w k0 | exact e0_) (fun w => by first | exact absurd w k1 | exact e1_) (fun w => by first | exact absurd w k2 | exact e2_) (fun w => by first | exact absurd w k3 | exact e3_)
                have e1 : own_add q x = q ++ [x] := if_neg hm
                refine ⟨?_, N73, K71, ?_⟩
                · rw [e1, List.length_append, List.length_singleton, Int32.ofNat_add]; rfl
                · rw [e1]
                  refine ⟨fun i => if i = q.length then Int32.ofNat x else sf i, V_sa.congr (fun i hi => ?_), fun i hi => ?_⟩
                  · by_cases w : i = q.length <;> simp [w]
                  · rw [own_gadd q x i hi]
                    by_cases w : i = q.length
                    · simp [w]
                    · simp only [w, if_false]
                      refine hsf i ?_
                      rw [List.length_append, List.length_singleton] at hi
                      omega
        case neg =>
          have pre74 : ∀ t, Steps p.tables e below (s₁.setTop (mkF m 43 #[.val (.ref sa), .val (.int (Int32.ofNat q.length)), .val (.int (Int32.ofNat x))] [(.int (3 : Int32)), (.int (Int32.ofNat q.length))])) t → Steps p.tables e below (s₁.setTop (entryFrame m #[(.ref sa), (.int (Int32.ofNat q.length)), (.int (Int32.ofNat x))] 3)) t := by
            intro t kt
            refine pre60 t ?_
            show Steps p.tables e below (s₁.setTop (mkF m 29 #[.val (.ref sa), .val (.int (Int32.ofNat q.length)), .val (.int (Int32.ofNat x))] [(.int (2 : Int32)), (.int (Int32.ofNat q.length))])) _
            refine XS.icmpYes X0.here hx rfl (pc0 := 29) (pc' := 41) rfl (hb hby own_d4_29) rfl (flt hc29_3).2.2.2 (by decide) (by decide) ?_
            show Steps p.tables e below (s₁.setTop (mkF m 41 #[.val (.ref sa), .val (.int (Int32.ofNat q.length)), .val (.int (Int32.ofNat x))] [])) _
            refine XS.iloadN X0.here hx rfl (hb hby own_d4_41) rfl ?_
            show Steps p.tables e below (s₁.setTop (mkF m 42 #[.val (.ref sa), .val (.int (Int32.ofNat q.length)), .val (.int (Int32.ofNat x))] [(.int (Int32.ofNat q.length))])) _
            refine XS.iconst X0.here hx rfl (hb hby own_d4_42) ?_
            exact kt
          by_cases hc43_6 : (3 : Int32) < (Int32.ofNat q.length)
          case pos =>
            have ld75 := (own_ldI X0 hx hZ e0 V_sa (j := (3 : Int32)) (by decide) (k := 3) rfl (by decide) (v := (.int (sf 3))) rfl (g := (mkF m 48 #[.val (.ref sa), .val (.int (Int32.ofNat q.length)), .val (.int (Int32.ofNat x))] [(.int (3 : Int32)), (.ref sa)])) rfl rfl (hb hby own_d4_48))
            have pre76 : ∀ t, Steps p.tables e below (s₁.setTop (mkF m 50 #[.val (.ref sa), .val (.int (Int32.ofNat q.length)), .val (.int (Int32.ofNat x))] [(.int (Int32.ofNat x)), (.int (sf 3))])) t → Steps p.tables e below (s₁.setTop (entryFrame m #[(.ref sa), (.int (Int32.ofNat q.length)), (.int (Int32.ofNat x))] 3)) t := by
              intro t kt
              refine pre74 t ?_
              show Steps p.tables e below (s₁.setTop (mkF m 43 #[.val (.ref sa), .val (.int (Int32.ofNat q.length)), .val (.int (Int32.ofNat x))] [(.int (3 : Int32)), (.int (Int32.ofNat q.length))])) _
              refine XS.icmpNo X0.here hx rfl (hb hby own_d4_43) rfl (tlt hc43_6).2.2.2 ?_
              show Steps p.tables e below (s₁.setTop (mkF m 46 #[.val (.ref sa), .val (.int (Int32.ofNat q.length)), .val (.int (Int32.ofNat x))] [])) _
              refine XS.aloadN X0.here hx rfl (hb hby own_d4_46) rfl rfl ?_
              show Steps p.tables e below (s₁.setTop (mkF m 47 #[.val (.ref sa), .val (.int (Int32.ofNat q.length)), .val (.int (Int32.ofNat x))] [(.ref sa)])) _
              refine XS.iconst X0.here hx rfl (hb hby own_d4_47) ?_
              show Steps p.tables e below (s₁.setTop (mkF m 48 #[.val (.ref sa), .val (.int (Int32.ofNat q.length)), .val (.int (Int32.ofNat x))] [(.int (3 : Int32)), (.ref sa)])) _
              refine ld75 _ ?_
              show Steps p.tables e below (s₁.setTop (mkF m 49 #[.val (.ref sa), .val (.int (Int32.ofNat q.length)), .val (.int (Int32.ofNat x))] [(.int (sf 3))])) _
              refine XS.iloadN X0.here hx rfl (hb hby own_d4_49) rfl ?_
              exact kt
            by_cases hc50_6 : (sf 3) = (Int32.ofNat x)
            case pos =>
              obtain ⟨fs, hr, hrun, hended, hW, hsame⟩ := X0.leave (v := some (.int (Int32.ofNat q.length))) (fun h => by rw [Bd.returns] at h; cases h) (BodyLoose.notSynchronized Bd)
              refine ⟨_, _, pre76 _ ?_, hrun, hended, _, _, rfl, ?_, ⟨_, rfl⟩, hW, hsame.mono (by decide) (by decide)⟩
              · skip
                show Steps p.tables e below (s₁.setTop (mkF m 50 #[.val (.ref sa), .val (.int (Int32.ofNat q.length)), .val (.int (Int32.ofNat x))] [(.int (Int32.ofNat x)), (.int (sf 3))])) _
                refine XS.icmpNo X0.here hx rfl (hb hby own_d4_50) rfl (teq hc50_6).2 ?_
                show Steps p.tables e below (s₁.setTop (mkF m 53 #[.val (.ref sa), .val (.int (Int32.ofNat q.length)), .val (.int (Int32.ofNat x))] [])) _
                refine XS.iloadN X0.here hx rfl (hb hby own_d4_53) rfl ?_
                show Steps p.tables e below (s₁.setTop (mkF m 54 #[.val (.ref sa), .val (.int (Int32.ofNat q.length)), .val (.int (Int32.ofNat x))] [(.int (Int32.ofNat q.length))])) _
                exact retI X0 hx Bd.returns (hb hby own_d4_54) hr
              · show own_Q4 Z sa q x h0 n0 _ s₁.heap _
                rw [e0]
                have k0 : ¬ 0 < q.length := fun w => hc1 ((own_ltn (by decide) (by omega)).mpr w)
                have k1 : 1 < q.length := (own_ltn (by decide) (by omega)).mp hc15_2
                have e1_ : ¬ q.getD 1 0 = x := fun w => hc22_2 ((hsf 1 k1).trans (congrArg Int32.ofNat w))
                have k2 : ¬ 2 < q.length := fun w => hc29_3 ((own_ltn (by decide) (by omega)).mpr w)
                have k3 : 3 < q.length := (own_ltn (by decide) (by omega)).mp hc43_6
                have e3_ : q.getD 3 0 = x := (own_eqn (hqs 3 k3) (by omega)).mp ((hsf 3 k3).symm.trans hc50_6)
                have hm : x ∈ q := own_mem k3 e3_
                have e1 : own_add q x = q := if_pos hm
                refine ⟨?_, N0, K0, ?_⟩
                · rw [e1]
                · rw [e1]; exact ⟨sf, V_sa, hsf⟩
            case neg =>
              obtain ⟨T77, h77, X77, e77, W77, V77, st77⟩ := own_stI X0 hx hZ e0 V_sa (j := (Int32.ofNat q.length)) (own_ix (by omega)).1 (k := q.length) (own_ix (by omega)).2 (by omega) (g := (mkF m 58 #[.val (.ref sa), .val (.int (Int32.ofNat q.length)), .val (.int (Int32.ofNat x))] [(.int (Int32.ofNat x)), (.int (Int32.ofNat q.length)), (.ref sa)])) rfl rfl (hb hby own_d4_58)
              have K78 := K0.wr W77 (Or.inl (List.mem_of_getElem? (i := 0) rfl))
              have Z79 := Nat.le_trans Z0 (Keep.of_wr W77).1
              have N80 := Fr.snoc X77 N0 g_sa
              have V_sa := V77
              obtain ⟨fs, hr, hrun, hended, hW, hsame⟩ := X77.leave (v := some (.int ((Int32.ofNat q.length) + (1 : Int32)))) (fun h => by rw [Bd.returns] at h; cases h) (BodyLoose.notSynchronized Bd)
              refine ⟨_, _, pre76 _ ?_, hrun, hended, _, _, rfl, ?_, ⟨_, rfl⟩, hW, hsame.mono (by decide) (by decide)⟩
              · skip
                show Steps p.tables e below (s₁.setTop (mkF m 50 #[.val (.ref sa), .val (.int (Int32.ofNat q.length)), .val (.int (Int32.ofNat x))] [(.int (Int32.ofNat x)), (.int (sf 3))])) _
                refine XS.icmpYes X0.here hx rfl (pc0 := 50) (pc' := 55) rfl (hb hby own_d4_50) rfl (feq hc50_6).2 (by decide) (by decide) ?_
                show Steps p.tables e below (s₁.setTop (mkF m 55 #[.val (.ref sa), .val (.int (Int32.ofNat q.length)), .val (.int (Int32.ofNat x))] [])) _
                refine XS.aloadN X0.here hx rfl (hb hby own_d4_55) rfl rfl ?_
                show Steps p.tables e below (s₁.setTop (mkF m 56 #[.val (.ref sa), .val (.int (Int32.ofNat q.length)), .val (.int (Int32.ofNat x))] [(.ref sa)])) _
                refine XS.iloadN X0.here hx rfl (hb hby own_d4_56) rfl ?_
                show Steps p.tables e below (s₁.setTop (mkF m 57 #[.val (.ref sa), .val (.int (Int32.ofNat q.length)), .val (.int (Int32.ofNat x))] [(.int (Int32.ofNat q.length)), (.ref sa)])) _
                refine XS.iloadN X0.here hx rfl (hb hby own_d4_57) rfl ?_
                show Steps p.tables e below (s₁.setTop (mkF m 58 #[.val (.ref sa), .val (.int (Int32.ofNat q.length)), .val (.int (Int32.ofNat x))] [(.int (Int32.ofNat x)), (.int (Int32.ofNat q.length)), (.ref sa)])) _
                refine st77 _ ?_
                show Steps p.tables e below (T77.setTop (mkF m 59 #[.val (.ref sa), .val (.int (Int32.ofNat q.length)), .val (.int (Int32.ofNat x))] [])) _
                refine XS.iloadN X77.here hx rfl (hb hby own_d4_59) rfl ?_
                show Steps p.tables e below (T77.setTop (mkF m 60 #[.val (.ref sa), .val (.int (Int32.ofNat q.length)), .val (.int (Int32.ofNat x))] [(.int (Int32.ofNat q.length))])) _
                refine XS.iconst X77.here hx rfl (hb hby own_d4_60) ?_
                show Steps p.tables e below (T77.setTop (mkF m 61 #[.val (.ref sa), .val (.int (Int32.ofNat q.length)), .val (.int (Int32.ofNat x))] [(.int (1 : Int32)), (.int (Int32.ofNat q.length))])) _
                refine XS.iadd X77.here hx rfl (hb hby own_d4_61) rfl ?_
                show Steps p.tables e below (T77.setTop (mkF m 62 #[.val (.ref sa), .val (.int (Int32.ofNat q.length)), .val (.int (Int32.ofNat x))] [(.int ((Int32.ofNat q.length) + (1 : Int32)))])) _
                exact retI X77 hx Bd.returns (hb hby own_d4_62) hr
              · show own_Q4 Z sa q x h0 n0 _ T77.heap _
                rw [e77]
                have k0 : ¬ 0 < q.length := fun w => hc1 ((own_ltn (by decide) (by omega)).mpr w)
                have k1 : 1 < q.length := (own_ltn (by decide) (by omega)).mp hc15_2
                have e1_ : ¬ q.getD 1 0 = x := fun w => hc22_2 ((hsf 1 k1).trans (congrArg Int32.ofNat w))
                have k2 : ¬ 2 < q.length := fun w => hc29_3 ((own_ltn (by decide) (by omega)).mpr w)
                have k3 : 3 < q.length := (own_ltn (by decide) (by omega)).mp hc43_6
                have e3_ : ¬ q.getD 3 0 = x := fun w => hc50_6 ((hsf 3 k3).trans (congrArg Int32.ofNat w))
                have hm : x ∉ q := own_nmem hl4 (fun w => by first | exact absurd w k0 | exact e0_) (fun w => by first | exact absurd w k1 | exact e1_) (fun w => by first | exact absurd w k2 | exact e2_) (fun w => by first | exact absurd w k3 | exact e3_)
                have e1 : own_add q x = q ++ [x] := if_neg hm
                refine ⟨?_, N80, K78, ?_⟩
                · rw [e1, List.length_append, List.length_singleton, Int32.ofNat_add]; rfl
                · rw [e1]
                  refine ⟨fun i => if i = q.length then Int32.ofNat x else sf i, V_sa.congr (fun i hi => ?_), fun i hi => ?_⟩
                  · by_cases w : i = q.length <;> simp [w]
                  · rw [own_gadd q x i hi]
                    by_cases w : i = q.length
                    · simp [w]
                    · simp only [w, if_false]
                      refine hsf i ?_
                      rw [List.length_append, List.length_singleton] at hi
                      omega
          case neg =>
            obtain ⟨T81, h81, X81, e81, W81, V81, st81⟩ := own_stI X0 hx hZ e0 V_sa (j := (Int32.ofNat q.length)) (own_ix (by omega)).1 (k := q.length) (own_ix (by omega)).2 (by omega) (g := (mkF m 58 #[.val (.ref sa), .val (.int (Int32.ofNat q.length)), .val (.int (Int32.ofNat x))] [(.int (Int32.ofNat x)), (.int (Int32.ofNat q.length)), (.ref sa)])) rfl rfl (hb hby own_d4_58)
            have K82 := K0.wr W81 (Or.inl (List.mem_of_getElem? (i := 0) rfl))
            have Z83 := Nat.le_trans Z0 (Keep.of_wr W81).1
            have N84 := Fr.snoc X81 N0 g_sa
            have V_sa := V81
            obtain ⟨fs, hr, hrun, hended, hW, hsame⟩ := X81.leave (v := some (.int ((Int32.ofNat q.length) + (1 : Int32)))) (fun h => by rw [Bd.returns] at h; cases h) (BodyLoose.notSynchronized Bd)
            refine ⟨_, _, pre74 _ ?_, hrun, hended, _, _, rfl, ?_, ⟨_, rfl⟩, hW, hsame.mono (by decide) (by decide)⟩
            · skip
              show Steps p.tables e below (s₁.setTop (mkF m 43 #[.val (.ref sa), .val (.int (Int32.ofNat q.length)), .val (.int (Int32.ofNat x))] [(.int (3 : Int32)), (.int (Int32.ofNat q.length))])) _
              refine XS.icmpYes X0.here hx rfl (pc0 := 43) (pc' := 55) rfl (hb hby own_d4_43) rfl (flt hc43_6).2.2.2 (by decide) (by decide) ?_
              show Steps p.tables e below (s₁.setTop (mkF m 55 #[.val (.ref sa), .val (.int (Int32.ofNat q.length)), .val (.int (Int32.ofNat x))] [])) _
              refine XS.aloadN X0.here hx rfl (hb hby own_d4_55) rfl rfl ?_
              show Steps p.tables e below (s₁.setTop (mkF m 56 #[.val (.ref sa), .val (.int (Int32.ofNat q.length)), .val (.int (Int32.ofNat x))] [(.ref sa)])) _
              refine XS.iloadN X0.here hx rfl (hb hby own_d4_56) rfl ?_
              show Steps p.tables e below (s₁.setTop (mkF m 57 #[.val (.ref sa), .val (.int (Int32.ofNat q.length)), .val (.int (Int32.ofNat x))] [(.int (Int32.ofNat q.length)), (.ref sa)])) _
              refine XS.iloadN X0.here hx rfl (hb hby own_d4_57) rfl ?_
              show Steps p.tables e below (s₁.setTop (mkF m 58 #[.val (.ref sa), .val (.int (Int32.ofNat q.length)), .val (.int (Int32.ofNat x))] [(.int (Int32.ofNat x)), (.int (Int32.ofNat q.length)), (.ref sa)])) _
              refine st81 _ ?_
              show Steps p.tables e below (T81.setTop (mkF m 59 #[.val (.ref sa), .val (.int (Int32.ofNat q.length)), .val (.int (Int32.ofNat x))] [])) _
              refine XS.iloadN X81.here hx rfl (hb hby own_d4_59) rfl ?_
              show Steps p.tables e below (T81.setTop (mkF m 60 #[.val (.ref sa), .val (.int (Int32.ofNat q.length)), .val (.int (Int32.ofNat x))] [(.int (Int32.ofNat q.length))])) _
              refine XS.iconst X81.here hx rfl (hb hby own_d4_60) ?_
              show Steps p.tables e below (T81.setTop (mkF m 61 #[.val (.ref sa), .val (.int (Int32.ofNat q.length)), .val (.int (Int32.ofNat x))] [(.int (1 : Int32)), (.int (Int32.ofNat q.length))])) _
              refine XS.iadd X81.here hx rfl (hb hby own_d4_61) rfl ?_
              show Steps p.tables e below (T81.setTop (mkF m 62 #[.val (.ref sa), .val (.int (Int32.ofNat q.length)), .val (.int (Int32.ofNat x))] [(.int ((Int32.ofNat q.length) + (1 : Int32)))])) _
              exact retI X81 hx Bd.returns (hb hby own_d4_62) hr
            · show own_Q4 Z sa q x h0 n0 _ T81.heap _
              rw [e81]
              have k0 : ¬ 0 < q.length := fun w => hc1 ((own_ltn (by decide) (by omega)).mpr w)
              have k1 : 1 < q.length := (own_ltn (by decide) (by omega)).mp hc15_2
              have e1_ : ¬ q.getD 1 0 = x := fun w => hc22_2 ((hsf 1 k1).trans (congrArg Int32.ofNat w))
              have k2 : ¬ 2 < q.length := fun w => hc29_3 ((own_ltn (by decide) (by omega)).mpr w)
              have k3 : ¬ 3 < q.length := fun w => hc43_6 ((own_ltn (by decide) (by omega)).mpr w)
              have hm : x ∉ q := own_nmem hl4 (fun w => by first | exact absurd w k0 | exact e0_) (fun w => by first | exact absurd w k1 | exact e1_) (fun w => by first | exact absurd w k2 | exact e2_) (fun w => by first | exact absurd w k3 | exact e3_)
              have e1 : own_add q x = q ++ [x] := if_neg hm
              refine ⟨?_, N84, K82, ?_⟩
              · rw [e1, List.length_append, List.length_singleton, Int32.ofNat_add]; rfl
              · rw [e1]
                refine ⟨fun i => if i = q.length then Int32.ofNat x else sf i, V_sa.congr (fun i hi => ?_), fun i hi => ?_⟩
                · by_cases w : i = q.length <;> simp [w]
                · rw [own_gadd q x i hi]
                  by_cases w : i = q.length
                  · simp [w]
                  · simp only [w, if_false]
                    refine hsf i ?_
                    rw [List.length_append, List.length_singleton] at hi
                    omega
    case neg =>
      have pre85 : ∀ t, Steps p.tables e below (s₁.setTop (mkF m 29 #[.val (.ref sa), .val (.int (Int32.ofNat q.length)), .val (.int (Int32.ofNat x))] [(.int (2 : Int32)), (.int (Int32.ofNat q.length))])) t → Steps p.tables e below (s₁.setTop (entryFrame m #[(.ref sa), (.int (Int32.ofNat q.length)), (.int (Int32.ofNat x))] 3)) t := by
        intro t kt
        refine pre57 t ?_
        show Steps p.tables e below (s₁.setTop (mkF m 15 #[.val (.ref sa), .val (.int (Int32.ofNat q.length)), .val (.int (Int32.ofNat x))] [(.int (1 : Int32)), (.int (Int32.ofNat q.length))])) _
        refine XS.icmpYes X0.here hx rfl (pc0 := 15) (pc' := 27) rfl (hb hby own_d4_15) rfl (flt hc15_2).2.2.2 (by decide) (by decide) ?_
        show Steps p.tables e below (s₁.setTop (mkF m 27 #[.val (.ref sa), .val (.int (Int32.ofNat q.length)), .val (.int (Int32.ofNat x))] [])) _
        refine XS.iloadN X0.here hx rfl (hb hby own_d4_27) rfl ?_
        show Steps p.tables e below (s₁.setTop (mkF m 28 #[.val (.ref sa), .val (.int (Int32.ofNat q.length)), .val (.int (Int32.ofNat x))] [(.int (Int32.ofNat q.length))])) _
        refine XS.iconst X0.here hx rfl (hb hby own_d4_28) ?_
        exact kt
      by_cases hc29_4 : (2 : Int32) < (Int32.ofNat q.length)
      case pos =>
        have ld86 := (own_ldI X0 hx hZ e0 V_sa (j := (2 : Int32)) (by decide) (k := 2) rfl (by decide) (v := (.int (sf 2))) rfl (g := (mkF m 34 #[.val (.ref sa), .val (.int (Int32.ofNat q.length)), .val (.int (Int32.ofNat x))] [(.int (2 : Int32)), (.ref sa)])) rfl rfl (hb hby own_d4_34))
        have pre87 : ∀ t, Steps p.tables e below (s₁.setTop (mkF m 36 #[.val (.ref sa), .val (.int (Int32.ofNat q.length)), .val (.int (Int32.ofNat x))] [(.int (Int32.ofNat x)), (.int (sf 2))])) t → Steps p.tables e below (s₁.setTop (entryFrame m #[(.ref sa), (.int (Int32.ofNat q.length)), (.int (Int32.ofNat x))] 3)) t := by
          intro t kt
          refine pre85 t ?_
          show Steps p.tables e below (s₁.setTop (mkF m 29 #[.val (.ref sa), .val (.int (Int32.ofNat q.length)), .val (.int (Int32.ofNat x))] [(.int (2 : Int32)), (.int (Int32.ofNat q.length))])) _
          refine XS.icmpNo X0.here hx rfl (hb hby own_d4_29) rfl (tlt hc29_4).2.2.2 ?_
          show Steps p.tables e below (s₁.setTop (mkF m 32 #[.val (.ref sa), .val (.int (Int32.ofNat q.length)), .val (.int (Int32.ofNat x))] [])) _
          refine XS.aloadN X0.here hx rfl (hb hby own_d4_32) rfl rfl ?_
          show Steps p.tables e below (s₁.setTop (mkF m 33 #[.val (.ref sa), .val (.int (Int32.ofNat q.length)), .val (.int (Int32.ofNat x))] [(.ref sa)])) _
          refine XS.iconst X0.here hx rfl (hb hby own_d4_33) ?_
          show Steps p.tables e below (s₁.setTop (mkF m 34 #[.val (.ref sa), .val (.int (Int32.ofNat q.length)), .val (.int (Int32.ofNat x))] [(.int (2 : Int32)), (.ref sa)])) _
          refine ld86 _ ?_
          show Steps p.tables e below (s₁.setTop (mkF m 35 #[.val (.ref sa), .val (.int (Int32.ofNat q.length)), .val (.int (Int32.ofNat x))] [(.int (sf 2))])) _
          refine XS.iloadN X0.here hx rfl (hb hby own_d4_35) rfl ?_
          exact kt
        by_cases hc36_4 : (sf 2) = (Int32.ofNat x)
        case pos =>
          obtain ⟨fs, hr, hrun, hended, hW, hsame⟩ := X0.leave (v := some (.int (Int32.ofNat q.length))) (fun h => by rw [Bd.returns] at h; cases h) (BodyLoose.notSynchronized Bd)
          refine ⟨_, _, pre87 _ ?_, hrun, hended, _, _, rfl, ?_, ⟨_, rfl⟩, hW, hsame.mono (by decide) (by decide)⟩
          · skip
            show Steps p.tables e below (s₁.setTop (mkF m 36 #[.val (.ref sa), .val (.int (Int32.ofNat q.length)), .val (.int (Int32.ofNat x))] [(.int (Int32.ofNat x)), (.int (sf 2))])) _
            refine XS.icmpNo X0.here hx rfl (hb hby own_d4_36) rfl (teq hc36_4).2 ?_
            show Steps p.tables e below (s₁.setTop (mkF m 39 #[.val (.ref sa), .val (.int (Int32.ofNat q.length)), .val (.int (Int32.ofNat x))] [])) _
            refine XS.iloadN X0.here hx rfl (hb hby own_d4_39) rfl ?_
            show Steps p.tables e below (s₁.setTop (mkF m 40 #[.val (.ref sa), .val (.int (Int32.ofNat q.length)), .val (.int (Int32.ofNat x))] [(.int (Int32.ofNat q.length))])) _
            exact retI X0 hx Bd.returns (hb hby own_d4_40) hr
          · show own_Q4 Z sa q x h0 n0 _ s₁.heap _
            rw [e0]
            have k0 : ¬ 0 < q.length := fun w => hc1 ((own_ltn (by decide) (by omega)).mpr w)
            have k1 : ¬ 1 < q.length := fun w => hc15_2 ((own_ltn (by decide) (by omega)).mpr w)
            have k2 : 2 < q.length := (own_ltn (by decide) (by omega)).mp hc29_4
            have e2_ : q.getD 2 0 = x := (own_eqn (hqs 2 k2) (by omega)).mp ((hsf 2 k2).symm.trans hc36_4)
            have hm : x ∈ q := own_mem k2 e2_
            have e1 : own_add q x = q := if_pos hm
            refine ⟨?_, N0, K0, ?_⟩
            · rw [e1]
            · rw [e1]; exact ⟨sf, V_sa, hsf⟩
        case neg =>
          have pre88 : ∀ t, Steps p.tables e below (s₁.setTop (mkF m 43 #[.val (.ref sa), .val (.int (Int32.ofNat q.length)), .val (.int (Int32.ofNat x))] [(.int (3 : Int32)), (.int (Int32.ofNat q.length))])) t → Steps p.tables e below (s₁.setTop (entryFrame m #[(.ref sa), (.int (Int32.ofNat q.length)), (.int (Int32.ofNat x))] 3)) t := by
            intro t kt
            refine pre87 t ?_
            show Steps p.tables e below (s₁.setTop (mkF m 36 #[.val (.ref sa), .val (.int (Int32.ofNat q.length)), .val (.int (Int32.ofNat x))] [(.int (Int32.ofNat x)), (.int (sf 2))])) _
            refine XS.icmpYes X0.here hx rfl (pc0 := 36) (pc' := 41) rfl (hb hby own_d4_36) rfl (feq hc36_4).2 (by decide) (by decide) ?_
            show Steps p.tables e below (s₁.setTop (mkF m 41 #[.val (.ref sa), .val (.int (Int32.ofNat q.length)), .val (.int (Int32.ofNat x))] [])) _
            refine XS.iloadN X0.here hx rfl (hb hby own_d4_41) rfl ?_
            show Steps p.tables e below (s₁.setTop (mkF m 42 #[.val (.ref sa), .val (.int (Int32.ofNat q.length)), .val (.int (Int32.ofNat x))] [(.int (Int32.ofNat q.length))])) _
            refine XS.iconst X0.here hx rfl (hb hby own_d4_42) ?_
            exact kt
          by_cases hc43_7 : (3 : Int32) < (Int32.ofNat q.length)
          case pos =>
            have ld89 := (own_ldI X0 hx hZ e0 V_sa (j := (3 : Int32)) (by decide) (k := 3) rfl (by decide) (v := (.int (sf 3))) rfl (g := (mkF m 48 #[.val (.ref sa), .val (.int (Int32.ofNat q.length)), .val (.int (Int32.ofNat x))] [(.int (3 : Int32)), (.ref sa)])) rfl rfl (hb hby own_d4_48))
            have pre90 : ∀ t, Steps p.tables e below (s₁.setTop (mkF m 50 #[.val (.ref sa), .val (.int (Int32.ofNat q.length)), .val (.int (Int32.ofNat x))] [(.int (Int32.ofNat x)), (.int (sf 3))])) t → Steps p.tables e below (s₁.setTop (entryFrame m #[(.ref sa), (.int (Int32.ofNat q.length)), (.int (Int32.ofNat x))] 3)) t := by
              intro t kt
              refine pre88 t ?_
              show Steps p.tables e below (s₁.setTop (mkF m 43 #[.val (.ref sa), .val (.int (Int32.ofNat q.length)), .val (.int (Int32.ofNat x))] [(.int (3 : Int32)), (.int (Int32.ofNat q.length))])) _
              refine XS.icmpNo X0.here hx rfl (hb hby own_d4_43) rfl (tlt hc43_7).2.2.2 ?_
              show Steps p.tables e below (s₁.setTop (mkF m 46 #[.val (.ref sa), .val (.int (Int32.ofNat q.length)), .val (.int (Int32.ofNat x))] [])) _
              refine XS.aloadN X0.here hx rfl (hb hby own_d4_46) rfl rfl ?_
              show Steps p.tables e below (s₁.setTop (mkF m 47 #[.val (.ref sa), .val (.int (Int32.ofNat q.length)), .val (.int (Int32.ofNat x))] [(.ref sa)])) _
              refine XS.iconst X0.here hx rfl (hb hby own_d4_47) ?_
              show Steps p.tables e below (s₁.setTop (mkF m 48 #[.val (.ref sa), .val (.int (Int32.ofNat q.length)), .val (.int (Int32.ofNat x))] [(.int (3 : Int32)), (.ref sa)])) _
              refine ld89 _ ?_
              show Steps p.tables e below (s₁.setTop (mkF m 49 #[.val (.ref sa), .val (.int (Int32.ofNat q.length)), .val (.int (Int32.ofNat x))] [(.int (sf 3))])) _
              refine XS.iloadN X0.here hx rfl (hb hby own_d4_49) rfl ?_
              exact kt
            by_cases hc50_7 : (sf 3) = (Int32.ofNat x)
            case pos =>
              obtain ⟨fs, hr, hrun, hended, hW, hsame⟩ := X0.leave (v := some (.int (Int32.ofNat q.length))) (fun h => by rw [Bd.returns] at h; cases h) (BodyLoose.notSynchronized Bd)
              refine ⟨_, _, pre90 _ ?_, hrun, hended, _, _, rfl, ?_, ⟨_, rfl⟩, hW, hsame.mono (by decide) (by decide)⟩
              · skip
                show Steps p.tables e below (s₁.setTop (mkF m 50 #[.val (.ref sa), .val (.int (Int32.ofNat q.length)), .val (.int (Int32.ofNat x))] [(.int (Int32.ofNat x)), (.int (sf 3))])) _
                refine XS.icmpNo X0.here hx rfl (hb hby own_d4_50) rfl (teq hc50_7).2 ?_
                show Steps p.tables e below (s₁.setTop (mkF m 53 #[.val (.ref sa), .val (.int (Int32.ofNat q.length)), .val (.int (Int32.ofNat x))] [])) _
                refine XS.iloadN X0.here hx rfl (hb hby own_d4_53) rfl ?_
                show Steps p.tables e below (s₁.setTop (mkF m 54 #[.val (.ref sa), .val (.int (Int32.ofNat q.length)), .val (.int (Int32.ofNat x))] [(.int (Int32.ofNat q.length))])) _
                exact retI X0 hx Bd.returns (hb hby own_d4_54) hr
              · show own_Q4 Z sa q x h0 n0 _ s₁.heap _
                rw [e0]
                have k0 : ¬ 0 < q.length := fun w => hc1 ((own_ltn (by decide) (by omega)).mpr w)
                have k1 : ¬ 1 < q.length := fun w => hc15_2 ((own_ltn (by decide) (by omega)).mpr w)
                have k2 : 2 < q.length := (own_ltn (by decide) (by omega)).mp hc29_4
                have e2_ : ¬ q.getD 2 0 = x := fun w => hc36_4 ((hsf 2 k2).trans (congrArg Int32.ofNat w))
                have k3 : 3 < q.length := (own_ltn (by decide) (by omega)).mp hc43_7
                have e3_ : q.getD 3 0 = x := (own_eqn (hqs 3 k3) (by omega)).mp ((hsf 3 k3).symm.trans hc50_7)
                have hm : x ∈ q := own_mem k3 e3_
                have e1 : own_add q x = q := if_pos hm
                refine ⟨?_, N0, K0, ?_⟩
                · rw [e1]
                · rw [e1]; exact ⟨sf, V_sa, hsf⟩
            case neg =>
              obtain ⟨T91, h91, X91, e91, W91, V91, st91⟩ := own_stI X0 hx hZ e0 V_sa (j := (Int32.ofNat q.length)) (own_ix (by omega)).1 (k := q.length) (own_ix (by omega)).2 (by omega) (g := (mkF m 58 #[.val (.ref sa), .val (.int (Int32.ofNat q.length)), .val (.int (Int32.ofNat x))] [(.int (Int32.ofNat x)), (.int (Int32.ofNat q.length)), (.ref sa)])) rfl rfl (hb hby own_d4_58)
              have K92 := K0.wr W91 (Or.inl (List.mem_of_getElem? (i := 0) rfl))
              have Z93 := Nat.le_trans Z0 (Keep.of_wr W91).1
              have N94 := Fr.snoc X91 N0 g_sa
              have V_sa := V91
              obtain ⟨fs, hr, hrun, hended, hW, hsame⟩ := X91.leave (v := some (.int ((Int32.ofNat q.length) + (1 : Int32)))) (fun h => by rw [Bd.returns] at h; cases h) (BodyLoose.notSynchronized Bd)
              refine ⟨_, _, pre90 _ ?_, hrun, hended, _, _, rfl, ?_, ⟨_, rfl⟩, hW, hsame.mono (by decide) (by decide)⟩
              · skip
                show Steps p.tables e below (s₁.setTop (mkF m 50 #[.val (.ref sa), .val (.int (Int32.ofNat q.length)), .val (.int (Int32.ofNat x))] [(.int (Int32.ofNat x)), (.int (sf 3))])) _
                refine XS.icmpYes X0.here hx rfl (pc0 := 50) (pc' := 55) rfl (hb hby own_d4_50) rfl (feq hc50_7).2 (by decide) (by decide) ?_
                show Steps p.tables e below (s₁.setTop (mkF m 55 #[.val (.ref sa), .val (.int (Int32.ofNat q.length)), .val (.int (Int32.ofNat x))] [])) _
                refine XS.aloadN X0.here hx rfl (hb hby own_d4_55) rfl rfl ?_
                show Steps p.tables e below (s₁.setTop (mkF m 56 #[.val (.ref sa), .val (.int (Int32.ofNat q.length)), .val (.int (Int32.ofNat x))] [(.ref sa)])) _
                refine XS.iloadN X0.here hx rfl (hb hby own_d4_56) rfl ?_
                show Steps p.tables e below (s₁.setTop (mkF m 57 #[.val (.ref sa), .val (.int (Int32.ofNat q.length)), .val (.int (Int32.ofNat x))] [(.int (Int32.ofNat q.length)), (.ref sa)])) _
                refine XS.iloadN X0.here hx rfl (hb hby own_d4_57) rfl ?_
                show Steps p.tables e below (s₁.setTop (mkF m 58 #[.val (.ref sa), .val (.int (Int32.ofNat q.length)), .val (.int (Int32.ofNat x))] [(.int (Int32.ofNat x)), (.int (Int32.ofNat q.length)), (.ref sa)])) _
                refine st91 _ ?_
                show Steps p.tables e below (T91.setTop (mkF m 59 #[.val (.ref sa), .val (.int (Int32.ofNat q.length)), .val (.int (Int32.ofNat x))] [])) _
                refine XS.iloadN X91.here hx rfl (hb hby own_d4_59) rfl ?_
                show Steps p.tables e below (T91.setTop (mkF m 60 #[.val (.ref sa), .val (.int (Int32.ofNat q.length)), .val (.int (Int32.ofNat x))] [(.int (Int32.ofNat q.length))])) _
                refine XS.iconst X91.here hx rfl (hb hby own_d4_60) ?_
                show Steps p.tables e below (T91.setTop (mkF m 61 #[.val (.ref sa), .val (.int (Int32.ofNat q.length)), .val (.int (Int32.ofNat x))] [(.int (1 : Int32)), (.int (Int32.ofNat q.length))])) _
                refine XS.iadd X91.here hx rfl (hb hby own_d4_61) rfl ?_
                show Steps p.tables e below (T91.setTop (mkF m 62 #[.val (.ref sa), .val (.int (Int32.ofNat q.length)), .val (.int (Int32.ofNat x))] [(.int ((Int32.ofNat q.length) + (1 : Int32)))])) _
                exact retI X91 hx Bd.returns (hb hby own_d4_62) hr
              · show own_Q4 Z sa q x h0 n0 _ T91.heap _
                rw [e91]
                have k0 : ¬ 0 < q.length := fun w => hc1 ((own_ltn (by decide) (by omega)).mpr w)
                have k1 : ¬ 1 < q.length := fun w => hc15_2 ((own_ltn (by decide) (by omega)).mpr w)
                have k2 : 2 < q.length := (own_ltn (by decide) (by omega)).mp hc29_4
                have e2_ : ¬ q.getD 2 0 = x := fun w => hc36_4 ((hsf 2 k2).trans (congrArg Int32.ofNat w))
                have k3 : 3 < q.length := (own_ltn (by decide) (by omega)).mp hc43_7
                have e3_ : ¬ q.getD 3 0 = x := fun w => hc50_7 ((hsf 3 k3).trans (congrArg Int32.ofNat w))
                have hm : x ∉ q := own_nmem hl4 (fun w => by first | exact absurd w k0 | exact e0_) (fun w => by first | exact absurd w k1 | exact e1_) (fun w => by first | exact absurd w k2 | exact e2_) (fun w => by first | exact absurd w k3 | exact e3_)
                have e1 : own_add q x = q ++ [x] := if_neg hm
                refine ⟨?_, N94, K92, ?_⟩
                · rw [e1, List.length_append, List.length_singleton, Int32.ofNat_add]; rfl
                · rw [e1]
                  refine ⟨fun i => if i = q.length then Int32.ofNat x else sf i, V_sa.congr (fun i hi => ?_), fun i hi => ?_⟩
                  · by_cases w : i = q.length <;> simp [w]
                  · rw [own_gadd q x i hi]
                    by_cases w : i = q.length
                    · simp [w]
                    · simp only [w, if_false]
                      refine hsf i ?_
                      rw [List.length_append, List.length_singleton] at hi
                      omega
          case neg =>
            obtain ⟨T95, h95, X95, e95, W95, V95, st95⟩ := own_stI X0 hx hZ e0 V_sa (j := (Int32.ofNat q.length)) (own_ix (by omega)).1 (k := q.length) (own_ix (by omega)).2 (by omega) (g := (mkF m 58 #[.val (.ref sa), .val (.int (Int32.ofNat q.length)), .val (.int (Int32.ofNat x))] [(.int (Int32.ofNat x)), (.int (Int32.ofNat q.length)), (.ref sa)])) rfl rfl (hb hby own_d4_58)
            have K96 := K0.wr W95 (Or.inl (List.mem_of_getElem? (i := 0) rfl))
            have Z97 := Nat.le_trans Z0 (Keep.of_wr W95).1
            have N98 := Fr.snoc X95 N0 g_sa
            have V_sa := V95
            obtain ⟨fs, hr, hrun, hended, hW, hsame⟩ := X95.leave (v := some (.int ((Int32.ofNat q.length) + (1 : Int32)))) (fun h => by rw [Bd.returns] at h; cases h) (BodyLoose.notSynchronized Bd)
            refine ⟨_, _, pre88 _ ?_, hrun, hended, _, _, rfl, ?_, ⟨_, rfl⟩, hW, hsame.mono (by decide) (by decide)⟩
            · skip
              show Steps p.tables e below (s₁.setTop (mkF m 43 #[.val (.ref sa), .val (.int (Int32.ofNat q.length)), .val (.int (Int32.ofNat x))] [(.int (3 : Int32)), (.int (Int32.ofNat q.length))])) _
              refine XS.icmpYes X0.here hx rfl (pc0 := 43) (pc' := 55) rfl (hb hby own_d4_43) rfl (flt hc43_7).2.2.2 (by decide) (by decide) ?_
              show Steps p.tables e below (s₁.setTop (mkF m 55 #[.val (.ref sa), .val (.int (Int32.ofNat q.length)), .val (.int (Int32.ofNat x))] [])) _
              refine XS.aloadN X0.here hx rfl (hb hby own_d4_55) rfl rfl ?_
              show Steps p.tables e below (s₁.setTop (mkF m 56 #[.val (.ref sa), .val (.int (Int32.ofNat q.length)), .val (.int (Int32.ofNat x))] [(.ref sa)])) _
              refine XS.iloadN X0.here hx rfl (hb hby own_d4_56) rfl ?_
              show Steps p.tables e below (s₁.setTop (mkF m 57 #[.val (.ref sa), .val (.int (Int32.ofNat q.length)), .val (.int (Int32.ofNat x))] [(.int (Int32.ofNat q.length)), (.ref sa)])) _
              refine XS.iloadN X0.here hx rfl (hb hby own_d4_57) rfl ?_
              show Steps p.tables e below (s₁.setTop (mkF m 58 #[.val (.ref sa), .val (.int (Int32.ofNat q.length)), .val (.int (Int32.ofNat x))] [(.int (Int32.ofNat x)), (.int (Int32.ofNat q.length)), (.ref sa)])) _
              refine st95 _ ?_
              show Steps p.tables e below (T95.setTop (mkF m 59 #[.val (.ref sa), .val (.int (Int32.ofNat q.length)), .val (.int (Int32.ofNat x))] [])) _
              refine XS.iloadN X95.here hx rfl (hb hby own_d4_59) rfl ?_
              show Steps p.tables e below (T95.setTop (mkF m 60 #[.val (.ref sa), .val (.int (Int32.ofNat q.length)), .val (.int (Int32.ofNat x))] [(.int (Int32.ofNat q.length))])) _
              refine XS.iconst X95.here hx rfl (hb hby own_d4_60) ?_
              show Steps p.tables e below (T95.setTop (mkF m 61 #[.val (.ref sa), .val (.int (Int32.ofNat q.length)), .val (.int (Int32.ofNat x))] [(.int (1 : Int32)), (.int (Int32.ofNat q.length))])) _
              refine XS.iadd X95.here hx rfl (hb hby own_d4_61) rfl ?_
              show Steps p.tables e below (T95.setTop (mkF m 62 #[.val (.ref sa), .val (.int (Int32.ofNat q.length)), .val (.int (Int32.ofNat x))] [(.int ((Int32.ofNat q.length) + (1 : Int32)))])) _
              exact retI X95 hx Bd.returns (hb hby own_d4_62) hr
            · show own_Q4 Z sa q x h0 n0 _ T95.heap _
              rw [e95]
              have k0 : ¬ 0 < q.length := fun w => hc1 ((own_ltn (by decide) (by omega)).mpr w)
              have k1 : ¬ 1 < q.length := fun w => hc15_2 ((own_ltn (by decide) (by omega)).mpr w)
              have k2 : 2 < q.length := (own_ltn (by decide) (by omega)).mp hc29_4
              have e2_ : ¬ q.getD 2 0 = x := fun w => hc36_4 ((hsf 2 k2).trans (congrArg Int32.ofNat w))
              have k3 : ¬ 3 < q.length := fun w => hc43_7 ((own_ltn (by decide) (by omega)).mpr w)
              have hm : x ∉ q := own_nmem hl4 (fun w => by first | exact absurd w k0 | exact e0_) (fun w => by first | exact absurd w k1 | exact e1_) (fun w => by first | exact absurd w k2 | exact e2_) (fun w => by first | exact absurd w k3 | exact e3_)
              have e1 : own_add q x = q ++ [x] := if_neg hm
              refine ⟨?_, N98, K96, ?_⟩
              · rw [e1, List.length_append, List.length_singleton, Int32.ofNat_add]; rfl
              · rw [e1]
                refine ⟨fun i => if i = q.length then Int32.ofNat x else sf i, V_sa.congr (fun i hi => ?_), fun i hi => ?_⟩
                · by_cases w : i = q.length <;> simp [w]
                · rw [own_gadd q x i hi]
                  by_cases w : i = q.length
                  · simp [w]
                  · simp only [w, if_false]
                    refine hsf i ?_
                    rw [List.length_append, List.length_singleton] at hi
                    omega
      case neg =>
        have pre99 : ∀ t, Steps p.tables e below (s₁.setTop (mkF m 43 #[.val (.ref sa), .val (.int (Int32.ofNat q.length)), .val (.int (Int32.ofNat x))] [(.int (3 : Int32)), (.int (Int32.ofNat q.length))])) t → Steps p.tables e below (s₁.setTop (entryFrame m #[(.ref sa), (.int (Int32.ofNat q.length)), (.int (Int32.ofNat x))] 3)) t := by
          intro t kt
          refine pre85 t ?_
          show Steps p.tables e below (s₁.setTop (mkF m 29 #[.val (.ref sa), .val (.int (Int32.ofNat q.length)), .val (.int (Int32.ofNat x))] [(.int (2 : Int32)), (.int (Int32.ofNat q.length))])) _
          refine XS.icmpYes X0.here hx rfl (pc0 := 29) (pc' := 41) rfl (hb hby own_d4_29) rfl (flt hc29_4).2.2.2 (by decide) (by decide) ?_
          show Steps p.tables e below (s₁.setTop (mkF m 41 #[.val (.ref sa), .val (.int (Int32.ofNat q.length)), .val (.int (Int32.ofNat x))] [])) _
          refine XS.iloadN X0.here hx rfl (hb hby own_d4_41) rfl ?_
          show Steps p.tables e below (s₁.setTop (mkF m 42 #[.val (.ref sa), .val (.int (Int32.ofNat q.length)), .val (.int (Int32.ofNat x))] [(.int (Int32.ofNat q.length))])) _
          refine XS.iconst X0.here hx rfl (hb hby own_d4_42) ?_
          exact kt
        by_cases hc43_8 : (3 : Int32) < (Int32.ofNat q.length)
        case pos =>
          have ld100 := (own_ldI X0 hx hZ e0 V_sa (j := (3 : Int32)) (by decide) (k := 3) rfl (by decide) (v := (.int (sf 3))) rfl (g := (mkF m 48 #[.val (.ref sa), .val (.int (Int32.ofNat q.length)), .val (.int (Int32.ofNat x))] [(.int (3 : Int32)), (.ref sa)])) rfl rfl (hb hby own_d4_48))
          have pre101 : ∀ t, Steps p.tables e below (s₁.setTop (mkF m 50 #[.val (.ref sa), .val (.int (Int32.ofNat q.length)), .val (.int (Int32.ofNat x))] [(.int (Int32.ofNat x)), (.int (sf 3))])) t → Steps p.tables e below (s₁.setTop (entryFrame m #[(.ref sa), (.int (Int32.ofNat q.length)), (.int (Int32.ofNat x))] 3)) t := by
            intro t kt
            refine pre99 t ?_
            show Steps p.tables e below (s₁.setTop (mkF m 43 #[.val (.ref sa), .val (.int (Int32.ofNat q.length)), .val (.int (Int32.ofNat x))] [(.int (3 : Int32)), (.int (Int32.ofNat q.length))])) _
            refine XS.icmpNo X0.here hx rfl (hb hby own_d4_43) rfl (tlt hc43_8).2.2.2 ?_
            show Steps p.tables e below (s₁.setTop (mkF m 46 #[.val (.ref sa), .val (.int (Int32.ofNat q.length)), .val (.int (Int32.ofNat x))] [])) _
            refine XS.aloadN X0.here hx rfl (hb hby own_d4_46) rfl rfl ?_
            show Steps p.tables e below (s₁.setTop (mkF m 47 #[.val (.ref sa), .val (.int (Int32.ofNat q.length)), .val (.int (Int32.ofNat x))] [(.ref sa)])) _
            refine XS.iconst X0.here hx rfl (hb hby own_d4_47) ?_
            show Steps p.tables e below (s₁.setTop (mkF m 48 #[.val (.ref sa), .val (.int (Int32.ofNat q.length)), .val (.int (Int32.ofNat x))] [(.int (3 : Int32)), (.ref sa)])) _
            refine ld100 _ ?_
            show Steps p.tables e below (s₁.setTop (mkF m 49 #[.val (.ref sa), .val (.int (Int32.ofNat q.length)), .val (.int (Int32.ofNat x))] [(.int (sf 3))])) _
            refine XS.iloadN X0.here hx rfl (hb hby own_d4_49) rfl ?_
            exact kt
          by_cases hc50_8 : (sf 3) = (Int32.ofNat x)
          case pos =>
            obtain ⟨fs, hr, hrun, hended, hW, hsame⟩ := X0.leave (v := some (.int (Int32.ofNat q.length))) (fun h => by rw [Bd.returns] at h; cases h) (BodyLoose.notSynchronized Bd)
            refine ⟨_, _, pre101 _ ?_, hrun, hended, _, _, rfl, ?_, ⟨_, rfl⟩, hW, hsame.mono (by decide) (by decide)⟩
            · skip
              show Steps p.tables e below (s₁.setTop (mkF m 50 #[.val (.ref sa), .val (.int (Int32.ofNat q.length)), .val (.int (Int32.ofNat x))] [(.int (Int32.ofNat x)), (.int (sf 3))])) _
              refine XS.icmpNo X0.here hx rfl (hb hby own_d4_50) rfl (teq hc50_8).2 ?_
              show Steps p.tables e below (s₁.setTop (mkF m 53 #[.val (.ref sa), .val (.int (Int32.ofNat q.length)), .val (.int (Int32.ofNat x))] [])) _
              refine XS.iloadN X0.here hx rfl (hb hby own_d4_53) rfl ?_
              show Steps p.tables e below (s₁.setTop (mkF m 54 #[.val (.ref sa), .val (.int (Int32.ofNat q.length)), .val (.int (Int32.ofNat x))] [(.int (Int32.ofNat q.length))])) _
              exact retI X0 hx Bd.returns (hb hby own_d4_54) hr
            · show own_Q4 Z sa q x h0 n0 _ s₁.heap _
              rw [e0]
              have k0 : ¬ 0 < q.length := fun w => hc1 ((own_ltn (by decide) (by omega)).mpr w)
              have k1 : ¬ 1 < q.length := fun w => hc15_2 ((own_ltn (by decide) (by omega)).mpr w)
              have k2 : ¬ 2 < q.length := fun w => hc29_4 ((own_ltn (by decide) (by omega)).mpr w)
              have k3 : 3 < q.length := (own_ltn (by decide) (by omega)).mp hc43_8
              have e3_ : q.getD 3 0 = x := (own_eqn (hqs 3 k3) (by omega)).mp ((hsf 3 k3).symm.trans hc50_8)
              have hm : x ∈ q := own_mem k3 e3_
              have e1 : own_add q x = q := if_pos hm
              refine ⟨?_, N0, K0, ?_⟩
              · rw [e1]
              · rw [e1]; exact ⟨sf, V_sa, hsf⟩
          case neg =>
            obtain ⟨T102, h102, X102, e102, W102, V102, st102⟩ := own_stI X0 hx hZ e0 V_sa (j := (Int32.ofNat q.length)) (own_ix (by omega)).1 (k := q.length) (own_ix (by omega)).2 (by omega) (g := (mkF m 58 #[.val (.ref sa), .val (.int (Int32.ofNat q.length)), .val (.int (Int32.ofNat x))] [(.int (Int32.ofNat x)), (.int (Int32.ofNat q.length)), (.ref sa)])) rfl rfl (hb hby own_d4_58)
            have K103 := K0.wr W102 (Or.inl (List.mem_of_getElem? (i := 0) rfl))
            have Z104 := Nat.le_trans Z0 (Keep.of_wr W102).1
            have N105 := Fr.snoc X102 N0 g_sa
            have V_sa := V102
            obtain ⟨fs, hr, hrun, hended, hW, hsame⟩ := X102.leave (v := some (.int ((Int32.ofNat q.length) + (1 : Int32)))) (fun h => by rw [Bd.returns] at h; cases h) (BodyLoose.notSynchronized Bd)
            refine ⟨_, _, pre101 _ ?_, hrun, hended, _, _, rfl, ?_, ⟨_, rfl⟩, hW, hsame.mono (by decide) (by decide)⟩
            · skip
              show Steps p.tables e below (s₁.setTop (mkF m 50 #[.val (.ref sa), .val (.int (Int32.ofNat q.length)), .val (.int (Int32.ofNat x))] [(.int (Int32.ofNat x)), (.int (sf 3))])) _
              refine XS.icmpYes X0.here hx rfl (pc0 := 50) (pc' := 55) rfl (hb hby own_d4_50) rfl (feq hc50_8).2 (by decide) (by decide) ?_
              show Steps p.tables e below (s₁.setTop (mkF m 55 #[.val (.ref sa), .val (.int (Int32.ofNat q.length)), .val (.int (Int32.ofNat x))] [])) _
              refine XS.aloadN X0.here hx rfl (hb hby own_d4_55) rfl rfl ?_
              show Steps p.tables e below (s₁.setTop (mkF m 56 #[.val (.ref sa), .val (.int (Int32.ofNat q.length)), .val (.int (Int32.ofNat x))] [(.ref sa)])) _
              refine XS.iloadN X0.here hx rfl (hb hby own_d4_56) rfl ?_
              show Steps p.tables e below (s₁.setTop (mkF m 57 #[.val (.ref sa), .val (.int (Int32.ofNat q.length)), .val (.int (Int32.ofNat x))] [(.int (Int32.ofNat q.length)), (.ref sa)])) _
              refine XS.iloadN X0.here hx rfl (hb hby own_d4_57) rfl ?_
              show Steps p.tables e below (s₁.setTop (mkF m 58 #[.val (.ref sa), .val (.int (Int32.ofNat q.length)), .val (.int (Int32.ofNat x))] [(.int (Int32.ofNat x)), (.int (Int32.ofNat q.length)), (.ref sa)])) _
              refine st102 _ ?_
              show Steps p.tables e below (T102.setTop (mkF m 59 #[.val (.ref sa), .val (.int (Int32.ofNat q.length)), .val (.int (Int32.ofNat x))] [])) _
              refine XS.iloadN X102.here hx rfl (hb hby own_d4_59) rfl ?_
              show Steps p.tables e below (T102.setTop (mkF m 60 #[.val (.ref sa), .val (.int (Int32.ofNat q.length)), .val (.int (Int32.ofNat x))] [(.int (Int32.ofNat q.length))])) _
              refine XS.iconst X102.here hx rfl (hb hby own_d4_60) ?_
              show Steps p.tables e below (T102.setTop (mkF m 61 #[.val (.ref sa), .val (.int (Int32.ofNat q.length)), .val (.int (Int32.ofNat x))] [(.int (1 : Int32)), (.int (Int32.ofNat q.length))])) _
              refine XS.iadd X102.here hx rfl (hb hby own_d4_61) rfl ?_
              show Steps p.tables e below (T102.setTop (mkF m 62 #[.val (.ref sa), .val (.int (Int32.ofNat q.length)), .val (.int (Int32.ofNat x))] [(.int ((Int32.ofNat q.length) + (1 : Int32)))])) _
              exact retI X102 hx Bd.returns (hb hby own_d4_62) hr
            · show own_Q4 Z sa q x h0 n0 _ T102.heap _
              rw [e102]
              have k0 : ¬ 0 < q.length := fun w => hc1 ((own_ltn (by decide) (by omega)).mpr w)
              have k1 : ¬ 1 < q.length := fun w => hc15_2 ((own_ltn (by decide) (by omega)).mpr w)
              have k2 : ¬ 2 < q.length := fun w => hc29_4 ((own_ltn (by decide) (by omega)).mpr w)
              have k3 : 3 < q.length := (own_ltn (by decide) (by omega)).mp hc43_8
              have e3_ : ¬ q.getD 3 0 = x := fun w => hc50_8 ((hsf 3 k3).trans (congrArg Int32.ofNat w))
              have hm : x ∉ q := own_nmem hl4 (fun w => by first | exact absurd w k0 | exact e0_) (fun w => by first | exact absurd w k1 | exact e1_) (fun w => by first | exact absurd w k2 | exact e2_) (fun w => by first | exact absurd w k3 | exact e3_)
              have e1 : own_add q x = q ++ [x] := if_neg hm
              refine ⟨?_, N105, K103, ?_⟩
              · rw [e1, List.length_append, List.length_singleton, Int32.ofNat_add]; rfl
              · rw [e1]
                refine ⟨fun i => if i = q.length then Int32.ofNat x else sf i, V_sa.congr (fun i hi => ?_), fun i hi => ?_⟩
                · by_cases w : i = q.length <;> simp [w]
                · rw [own_gadd q x i hi]
                  by_cases w : i = q.length
                  · simp [w]
                  · simp only [w, if_false]
                    refine hsf i ?_
                    rw [List.length_append, List.length_singleton] at hi
                    omega
        case neg =>
          obtain ⟨T106, h106, X106, e106, W106, V106, st106⟩ := own_stI X0 hx hZ e0 V_sa (j := (Int32.ofNat q.length)) (own_ix (by omega)).1 (k := q.length) (own_ix (by omega)).2 (by omega) (g := (mkF m 58 #[.val (.ref sa), .val (.int (Int32.ofNat q.length)), .val (.int (Int32.ofNat x))] [(.int (Int32.ofNat x)), (.int (Int32.ofNat q.length)), (.ref sa)])) rfl rfl (hb hby own_d4_58)
          have K107 := K0.wr W106 (Or.inl (List.mem_of_getElem? (i := 0) rfl))
          have Z108 := Nat.le_trans Z0 (Keep.of_wr W106).1
          have N109 := Fr.snoc X106 N0 g_sa
          have V_sa := V106
          obtain ⟨fs, hr, hrun, hended, hW, hsame⟩ := X106.leave (v := some (.int ((Int32.ofNat q.length) + (1 : Int32)))) (fun h => by rw [Bd.returns] at h; cases h) (BodyLoose.notSynchronized Bd)
          refine ⟨_, _, pre99 _ ?_, hrun, hended, _, _, rfl, ?_, ⟨_, rfl⟩, hW, hsame.mono (by decide) (by decide)⟩
          · skip
            show Steps p.tables e below (s₁.setTop (mkF m 43 #[.val (.ref sa), .val (.int (Int32.ofNat q.length)), .val (.int (Int32.ofNat x))] [(.int (3 : Int32)), (.int (Int32.ofNat q.length))])) _
            refine XS.icmpYes X0.here hx rfl (pc0 := 43) (pc' := 55) rfl (hb hby own_d4_43) rfl (flt hc43_8).2.2.2 (by decide) (by decide) ?_
            show Steps p.tables e below (s₁.setTop (mkF m 55 #[.val (.ref sa), .val (.int (Int32.ofNat q.length)), .val (.int (Int32.ofNat x))] [])) _
            refine XS.aloadN X0.here hx rfl (hb hby own_d4_55) rfl rfl ?_
            show Steps p.tables e below (s₁.setTop (mkF m 56 #[.val (.ref sa), .val (.int (Int32.ofNat q.length)), .val (.int (Int32.ofNat x))] [(.ref sa)])) _
            refine XS.iloadN X0.here hx rfl (hb hby own_d4_56) rfl ?_
            show Steps p.tables e below (s₁.setTop (mkF m 57 #[.val (.ref sa), .val (.int (Int32.ofNat q.length)), .val (.int (Int32.ofNat x))] [(.int (Int32.ofNat q.length)), (.ref sa)])) _
            refine XS.iloadN X0.here hx rfl (hb hby own_d4_57) rfl ?_
            show Steps p.tables e below (s₁.setTop (mkF m 58 #[.val (.ref sa), .val (.int (Int32.ofNat q.length)), .val (.int (Int32.ofNat x))] [(.int (Int32.ofNat x)), (.int (Int32.ofNat q.length)), (.ref sa)])) _
            refine st106 _ ?_
            show Steps p.tables e below (T106.setTop (mkF m 59 #[.val (.ref sa), .val (.int (Int32.ofNat q.length)), .val (.int (Int32.ofNat x))] [])) _
            refine XS.iloadN X106.here hx rfl (hb hby own_d4_59) rfl ?_
            show Steps p.tables e below (T106.setTop (mkF m 60 #[.val (.ref sa), .val (.int (Int32.ofNat q.length)), .val (.int (Int32.ofNat x))] [(.int (Int32.ofNat q.length))])) _
            refine XS.iconst X106.here hx rfl (hb hby own_d4_60) ?_
            show Steps p.tables e below (T106.setTop (mkF m 61 #[.val (.ref sa), .val (.int (Int32.ofNat q.length)), .val (.int (Int32.ofNat x))] [(.int (1 : Int32)), (.int (Int32.ofNat q.length))])) _
            refine XS.iadd X106.here hx rfl (hb hby own_d4_61) rfl ?_
            show Steps p.tables e below (T106.setTop (mkF m 62 #[.val (.ref sa), .val (.int (Int32.ofNat q.length)), .val (.int (Int32.ofNat x))] [(.int ((Int32.ofNat q.length) + (1 : Int32)))])) _
            exact retI X106 hx Bd.returns (hb hby own_d4_62) hr
          · show own_Q4 Z sa q x h0 n0 _ T106.heap _
            rw [e106]
            have k0 : ¬ 0 < q.length := fun w => hc1 ((own_ltn (by decide) (by omega)).mpr w)
            have k1 : ¬ 1 < q.length := fun w => hc15_2 ((own_ltn (by decide) (by omega)).mpr w)
            have k2 : ¬ 2 < q.length := fun w => hc29_4 ((own_ltn (by decide) (by omega)).mpr w)
            have k3 : ¬ 3 < q.length := fun w => hc43_8 ((own_ltn (by decide) (by omega)).mpr w)
            have hm : x ∉ q := own_nmem hl4 (fun w => by first | exact absurd w k0 | exact e0_) (fun w => by first | exact absurd w k1 | exact e1_) (fun w => by first | exact absurd w k2 | exact e2_) (fun w => by first | exact absurd w k3 | exact e3_)
            have e1 : own_add q x = q ++ [x] := if_neg hm
            refine ⟨?_, N109, K107, ?_⟩
            · rw [e1, List.length_append, List.length_singleton, Int32.ofNat_add]; rfl
            · rw [e1]
              refine ⟨fun i => if i = q.length then Int32.ofNat x else sf i, V_sa.congr (fun i hi => ?_), fun i hi => ?_⟩
              · by_cases w : i = q.length <;> simp [w]
              · rw [own_gadd q x i hi]
                by_cases w : i = q.length
                · simp [w]
                · simp only [w, if_false]
                  refine hsf i ?_
                  rw [List.length_append, List.length_singleton] at hi
                  omega
theorem own_d5_0 : decode prog_48_method_4_code 0 = .ok (.aload_n 0, 1) := by decide +kernel
theorem own_d5_1 : decode prog_48_method_4_code 1 = .ok (.getfield 7, 3) := by decide +kernel
theorem own_d5_4 : decode prog_48_method_4_code 4 = .ok (.aload_n 0, 1) := by decide +kernel
theorem own_d5_5 : decode prog_48_method_4_code 5 = .ok (.dup, 1) := by decide +kernel
theorem own_d5_6 : decode prog_48_method_4_code 6 = .ok (.getfield 17, 3) := by decide +kernel
theorem own_d5_9 : decode prog_48_method_4_code 9 = .ok (.iconst 1, 1) := by decide +kernel
theorem own_d5_10 : decode prog_48_method_4_code 10 = .ok (.isub, 1) := by decide +kernel
theorem own_d5_11 : decode prog_48_method_4_code 11 = .ok (.dup_x1, 1) := by decide +kernel
theorem own_d5_12 : decode prog_48_method_4_code 12 = .ok (.putfield 17, 3) := by decide +kernel
theorem own_d5_15 : decode prog_48_method_4_code 15 = .ok (.iaload, 1) := by decide +kernel
theorem own_d5_16 : decode prog_48_method_4_code 16 = .ok (.istore_n 1, 1) := by decide +kernel
theorem own_d5_17 : decode prog_48_method_4_code 17 = .ok (.aload_n 0, 1) := by decide +kernel
theorem own_d5_18 : decode prog_48_method_4_code 18 = .ok (.getfield 13, 3) := by decide +kernel
theorem own_d5_21 : decode prog_48_method_4_code 21 = .ok (.iload_n 1, 1) := by decide +kernel
theorem own_d5_22 : decode prog_48_method_4_code 22 = .ok (.iconst 0, 1) := by decide +kernel
theorem own_d5_23 : decode prog_48_method_4_code 23 = .ok (.bastore, 1) := by decide +kernel
theorem own_d5_24 : decode prog_48_method_4_code 24 = .ok (.iload_n 1, 1) := by decide +kernel
theorem own_d5_25 : decode prog_48_method_4_code 25 = .ok (.ireturn, 1) := by decide +kernel
theorem own_ef5 (m : MethodId) (x0 : Addr) : entryFrame m #[(.ref x0)] 2 = mkF m 0 #[.val (.ref x0), .unset] [] := by first | (simp [entryFrame, mkF, argsToLocals, Value.category]; done) | rfl
def own_Q5 (Z : State) (a1 : Addr) (bl : Addr) (wt : Addr) (n : Nat) (q : List Nat) (h0 : Heap) (n0 : Nat) (v : Option Value) (h : Heap) (L : List Loc) : Prop := v = some (.int (Int32.ofNat (own_lst q))) ∧ Fr n0 L ∧ Keep h0 h [a1, bl, wt] ∧ own_B Z a1 bl wt n q.dropLast h
set_option maxRecDepth 65536 in
set_option maxHeartbeats 40000000 in
theorem own_rm5 (l : Launch) (Z : State) (a0 : Array Value) (hw : ∀ d ∈ tables_1, d.before a0 Z = true) (ws : List Jvm.Cond) (a1 : Addr) (bl : Addr) (wt : Addr) (n : Nat) (q : List Nat) (h0 : Heap) (n0 : Nat) (Z0 : n0 ≤ h0.size) (g_a1 : n0 ≤ a1) (o1 : a1 < bl) (o2 : bl < wt) (hn4 : n ≤ 4) (hB : own_B Z a1 bl wt n q h0) (hq : 1 ≤ q.length) (ht : own_tok n q) :
    MetFree l (⟨"com/example/wary_observer/waryobserver/equivalence/Splitters", "take", "()I"⟩ : MethodName) (head1 (Jvm.Cond.code (⟨"com/example/wary_observer/waryobserver/equivalence/Splitters", "take", "()I"⟩ : MethodName) prog_48_method_4_code 2 (some .int) :: ws) ({ frames := 0, cells := 0, slots := 0, locals := 0 } : Room)) (fun a U => a = #[(.ref a1)] ∧ Z.Warmed39 U.vm ∧ U.heap = h0) (fun _ _ _ _ _ => True) (fun _ U o U' => ∃ v L, o = .returned v ∧ own_Q5 Z a1 bl wt n q h0 n0 v U'.heap L ∧ FrameEnd U o U' L ({ frames := 0, cells := 0, slots := 0, locals := 0 } : Room).cells ({ frames := 0, cells := 0, slots := 0, locals := 0 } : Room).slots) := by
  refine MetFree.of_bodySF (plainFor_of_name own_pn0) hisR ?_
  intro p e s m args below meth c s₁ Bd hml0 hP hK
  obtain ⟨rfl, hZ, hh⟩ := hP
  have hx := Bd.exec
  have hby := Bd.bytes
  have hml : c.maxLocals = 2 := hml0
  have hown : s.vm.findClass "com/example/wary_observer/waryobserver/equivalence/Splitters" = some m.cls := findClass_of_methodNamed Bd.named
  have hnm := (name_of_methodNamed Bd.named Bd.method).1
  have X0 : Stand p l e ({ frames := 0, cells := 0, slots := 0, locals := 0 } : Room) s m #[(.ref a1)] below meth c s₁ [] 0 0 := Stand.of_body Bd
  have e0 : s₁.heap = h0 := by rw [← hh, Bd.state]; rfl
  have N0 := Fr.nil n0
  have K0 := Keep.refl h0 [a1, bl, wt]
  have pre0 : ∀ t, Steps p.tables e below (s₁.setTop (mkF m 0 #[.val (.ref a1), .unset] [])) t → Steps p.tables e below (s₁.setTop (entryFrame m #[(.ref a1)] 2)) t := fun t kt0 => castTop (own_ef5 m (a1)) kt0
  obtain ⟨E_a1, F_blocks, F_isWaiting, F_count, ⟨bf, V_bl, hbf⟩, V_wt⟩ := hB
  have ne_ab : a1 ≠ bl := Nat.ne_of_lt o1
  have ne_bw : bl ≠ wt := Nat.ne_of_lt o2
  have ne_aw : a1 ≠ wt := Nat.ne_of_lt (Nat.lt_trans o1 o2)
  have g_bl : n0 ≤ bl := Nat.le_trans g_a1 (Nat.le_of_lt o1)
  have g_wt : n0 ≤ wt := Nat.le_trans g_bl (Nat.le_of_lt o2)
  have hl4 := ht.1
  obtain ⟨T1, X1, e1, st1⟩ := getF X0 hx hZ hown (host := "") (Or.inl (hw _ (List.mem_of_getElem? (i := 11) rfl))) Via.refl e0 F_blocks (g := (mkF m 1 #[.val (.ref a1), .unset] [(.ref a1)])) rfl rfl (hb hby own_d5_1)
  obtain ⟨T2, X2, e2, st2⟩ := getF X1 hx hZ hown (host := "") (Or.inl (hw _ (List.mem_of_getElem? (i := 21) rfl))) Via.refl e1 F_count (g := (mkF m 6 #[.val (.ref a1), .unset] [(.ref a1), (.ref a1), (.ref bl)])) rfl rfl (hb hby own_d5_6)
  have pre3 : ∀ t, Steps p.tables e below (T2.setTop (mkF m 11 #[.val (.ref a1), .unset] [(.int ((Int32.ofNat q.length) - (1 : Int32))), (.ref a1), (.ref bl)])) t → Steps p.tables e below (s₁.setTop (entryFrame m #[(.ref a1)] 2)) t := by
    intro t kt
    refine pre0 t ?_
    show Steps p.tables e below (s₁.setTop (mkF m 0 #[.val (.ref a1), .unset] [])) _
    refine XS.aloadN X0.here hx rfl (hb hby own_d5_0) rfl rfl ?_
    show Steps p.tables e below (s₁.setTop (mkF m 1 #[.val (.ref a1), .unset] [(.ref a1)])) _
    refine st1 _ ?_
    show Steps p.tables e below (T1.setTop (mkF m 4 #[.val (.ref a1), .unset] [(.ref bl)])) _
    refine XS.aloadN X1.here hx rfl (hb hby own_d5_4) rfl rfl ?_
    show Steps p.tables e below (T1.setTop (mkF m 5 #[.val (.ref a1), .unset] [(.ref a1), (.ref bl)])) _
    refine XS.dup X1.here hx rfl (hb hby own_d5_5) rfl rfl ?_
    show Steps p.tables e below (T1.setTop (mkF m 6 #[.val (.ref a1), .unset] [(.ref a1), (.ref a1), (.ref bl)])) _
    refine st2 _ ?_
    show Steps p.tables e below (T2.setTop (mkF m 9 #[.val (.ref a1), .unset] [(.int (Int32.ofNat q.length)), (.ref a1), (.ref bl)])) _
    refine XS.iconst X2.here hx rfl (hb hby own_d5_9) ?_
    show Steps p.tables e below (T2.setTop (mkF m 10 #[.val (.ref a1), .unset] [(.int (1 : Int32)), (.int (Int32.ofNat q.length)), (.ref a1), (.ref bl)])) _
    refine XS.isub X2.here hx rfl (hb hby own_d5_10) rfl ?_
    exact kt
  have pre4 : ∀ t, Steps p.tables e below (T2.setTop (mkF m 11 #[.val (.ref a1), .unset] [(.int (Int32.ofNat (q.length - 1))), (.ref a1), (.ref bl)])) t → Steps p.tables e below (s₁.setTop (entryFrame m #[(.ref a1)] 2)) t := by rw [(own_dec hq : (Int32.ofNat (q.length - 1)) = ((Int32.ofNat q.length) - (1 : Int32)))]; exact pre3
  obtain ⟨T5, h5, X5, e5, W5, st5⟩ := putF X2 hx hZ hown (host := "") (Or.inl (hw _ (List.mem_of_getElem? (i := 21) rfl))) Via.refl e2 F_count E_a1 (Or.inl (hw _ (List.mem_of_getElem? (i := 22) rfl))) (hw _ (List.mem_of_getElem? (i := 2) rfl)) (ty := .int) (by decide) rfl rfl (g := (mkF m 12 #[.val (.ref a1), .unset] [(.int (Int32.ofNat (q.length - 1))), (.ref a1), (.int (Int32.ofNat (q.length - 1))), (.ref bl)])) rfl rfl (hb hby own_d5_12)
  have E_a1 := E_a1.wr W5
  have F_blocks := F_blocks.other W5 (Or.inr (slot_ne (Or.inr (hw _ (List.mem_of_getElem? (i := 12) rfl))) (Or.inl (hw _ (List.mem_of_getElem? (i := 22) rfl))) (by decide) (t := (.array .int)) (t' := .int) (by decide) (by decide)))
  have F_isWaiting := F_isWaiting.other W5 (Or.inr (slot_ne (Or.inr (hw _ (List.mem_of_getElem? (i := 15) rfl))) (Or.inl (hw _ (List.mem_of_getElem? (i := 22) rfl))) (by decide) (t := (.array .boolean)) (t' := .int) (by decide) (by decide)))
  have F_count := F_count.same W5
  have V_bl := V_bl.other W5 (Ne.symm ne_ab)
  have V_wt := V_wt.other W5 (Ne.symm ne_aw)
  have K6 := K0.wr W5 (Or.inl (List.mem_of_getElem? (i := 0) rfl))
  have Z7 := Nat.le_trans Z0 (Keep.of_wr W5).1
  have N8 := Fr.snoc X5 N0 g_a1
  have ld9 := (own_ldI X5 hx hZ e5 V_bl (j := (Int32.ofNat (q.length - 1))) (own_ix (by omega)).1 (k := (q.length - 1)) (own_ix (by omega)).2 (by omega) (v := (.int (Int32.ofNat (own_lst q)))) (congrArg Value.int (hbf _ (by omega))) (g := (mkF m 15 #[.val (.ref a1), .unset] [(.int (Int32.ofNat (q.length - 1))), (.ref bl)])) rfl rfl (hb hby own_d5_15))
  obtain ⟨T10, X10, e10, st10⟩ := getF X5 hx hZ hown (host := "") (Or.inl (hw _ (List.mem_of_getElem? (i := 14) rfl))) Via.refl e5 F_isWaiting (g := (mkF m 18 #[.val (.ref a1), .val (.int (Int32.ofNat (own_lst q)))] [(.ref a1)])) rfl rfl (hb hby own_d5_18)
  obtain ⟨T11, h11, X11, e11, W11, V11, st11⟩ := own_stZ X10 hx hZ e10 V_wt (j := (Int32.ofNat (own_lst q))) (own_ix (Nat.lt_of_lt_of_le ht.2.1 (by omega))).1 (k := (own_lst q)) (own_ix (Nat.lt_of_lt_of_le ht.2.1 (by omega))).2 ht.2.1 (g := (mkF m 23 #[.val (.ref a1), .val (.int (Int32.ofNat (own_lst q)))] [(.int (0 : Int32)), (.int (Int32.ofNat (own_lst q))), (.ref wt)])) rfl rfl (hb hby own_d5_23)
  have E_a1 := E_a1.wr W11
  have F_blocks := F_blocks.other W11 (Or.inl ne_aw)
  have F_isWaiting := F_isWaiting.other W11 (Or.inl ne_aw)
  have F_count := F_count.other W11 (Or.inl ne_aw)
  have V_bl := V_bl.other W11 ne_bw
  have K12 := K6.wr W11 (Or.inl (List.mem_of_getElem? (i := 2) rfl))
  have Z13 := Nat.le_trans Z7 (Keep.of_wr W11).1
  have N14 := Fr.snoc X11 N8 g_wt
  have V_wt := V11
  obtain ⟨fs, hr, hrun, hended, hW, hsame⟩ := X11.leave (v := some (.int (Int32.ofNat (own_lst q)))) (fun h => by rw [Bd.returns] at h; cases h) (BodyLoose.notSynchronized Bd)
  refine ⟨_, _, pre4 _ ?_, hrun, hended, _, _, rfl, ?_, ⟨_, rfl⟩, hW, hsame.mono (by decide) (by decide)⟩
  · skip
    show Steps p.tables e below (T2.setTop (mkF m 11 #[.val (.ref a1), .unset] [(.int (Int32.ofNat (q.length - 1))), (.ref a1), (.ref bl)])) _
    refine XS.dupX1 X2.here hx rfl (hb hby own_d5_11) rfl rfl rfl ?_
    show Steps p.tables e below (T2.setTop (mkF m 12 #[.val (.ref a1), .unset] [(.int (Int32.ofNat (q.length - 1))), (.ref a1), (.int (Int32.ofNat (q.length - 1))), (.ref bl)])) _
    refine st5 _ ?_
    show Steps p.tables e below (T5.setTop (mkF m 15 #[.val (.ref a1), .unset] [(.int (Int32.ofNat (q.length - 1))), (.ref bl)])) _
    refine ld9 _ ?_
    show Steps p.tables e below (T5.setTop (mkF m 16 #[.val (.ref a1), .unset] [(.int (Int32.ofNat (own_lst q)))])) _
    refine XS.istoreN X5.here hx rfl (hb hby own_d5_16) rfl (l' := #[.val (.ref a1), .val (.int (Int32.ofNat (own_lst q)))]) rfl ?_
    show Steps p.tables e below (T5.setTop (mkF m 17 #[.val (.ref a1), .val (.int (Int32.ofNat (own_lst q)))] [])) _
    refine XS.aloadN X5.here hx rfl (hb hby own_d5_17) rfl rfl ?_
    show Steps p.tables e below (T5.setTop (mkF m 18 #[.val (.ref a1), .val (.int (Int32.ofNat (own_lst q)))] [(.ref a1)])) _
    refine st10 _ ?_
    show Steps p.tables e below (T10.setTop (mkF m 21 #[.val (.ref a1), .val (.int (Int32.ofNat (own_lst q)))] [(.ref wt)])) _
    refine XS.iloadN X10.here hx rfl (hb hby own_d5_21) rfl ?_
    show Steps p.tables e below (T10.setTop (mkF m 22 #[.val (.ref a1), .val (.int (Int32.ofNat (own_lst q)))] [(.int (Int32.ofNat (own_lst q))), (.ref wt)])) _
    refine XS.iconst X10.here hx rfl (hb hby own_d5_22) ?_
    show Steps p.tables e below (T10.setTop (mkF m 23 #[.val (.ref a1), .val (.int (Int32.ofNat (own_lst q)))] [(.int (0 : Int32)), (.int (Int32.ofNat (own_lst q))), (.ref wt)])) _
    refine st11 _ ?_
    show Steps p.tables e below (T11.setTop (mkF m 24 #[.val (.ref a1), .val (.int (Int32.ofNat (own_lst q)))] [])) _
    refine XS.iloadN X11.here hx rfl (hb hby own_d5_24) rfl ?_
    show Steps p.tables e below (T11.setTop (mkF m 25 #[.val (.ref a1), .val (.int (Int32.ofNat (own_lst q)))] [(.int (Int32.ofNat (own_lst q)))])) _
    exact retI X11 hx Bd.returns (hb hby own_d5_25) hr
  · show own_Q5 Z a1 bl wt n q h0 n0 _ T11.heap _
    rw [e11]
    refine ⟨rfl, N14, K12, E_a1, F_blocks, F_isWaiting, ?_, ⟨bf, V_bl, fun i hi => ?_⟩, V_wt.congr (fun i hi => ?_)⟩
    · rw [List.length_dropLast]; exact F_count
    · rw [own_gdrop q i hi]; exact hbf i (by rw [List.length_dropLast] at hi; omega)
    · have w2 := ht.2.2 ⟨i, Nat.lt_of_lt_of_le hi hn4⟩ hi
      rw [show own_w q.dropLast i = _ from w2]
      by_cases w : i = own_lst q
      · simp only [w, if_true]; rfl
      · simp only [w, if_false]
theorem own_d6_0 : decode prog_48_method_3_code 0 = .ok (.aload_n 0, 1) := by decide +kernel
theorem own_d6_1 : decode prog_48_method_3_code 1 = .ok (.getfield 17, 3) := by decide +kernel
theorem own_d6_4 : decode prog_48_method_3_code 4 = .ok (.ifCond .ne 7, 3) := by decide +kernel
theorem own_d6_7 : decode prog_48_method_3_code 7 = .ok (.iconst 1, 1) := by decide +kernel
theorem own_d6_8 : decode prog_48_method_3_code 8 = .ok (.goto 4, 3) := by decide +kernel
theorem own_d6_12 : decode prog_48_method_3_code 12 = .ok (.ireturn, 1) := by decide +kernel
theorem own_ef6 (m : MethodId) (x0 : Addr) : entryFrame m #[(.ref x0)] 1 = mkF m 0 #[.val (.ref x0)] [] := by first | (simp [entryFrame, mkF, argsToLocals, Value.category]; done) | rfl
def own_Q6 (Z : State) (a1 : Addr) (h0 : Heap) (n0 : Nat) (v : Option Value) (h : Heap) (L : List Loc) : Prop := v = some (.int (1 : Int32)) ∧ Fr n0 L ∧ h = h0
set_option maxRecDepth 65536 in
set_option maxHeartbeats 40000000 in
theorem own_rm6 (l : Launch) (Z : State) (a0 : Array Value) (hw : ∀ d ∈ tables_1, d.before a0 Z = true) (ws : List Jvm.Cond) (a1 : Addr) (h0 : Heap) (n0 : Nat) (Z0 : n0 ≤ h0.size) (F_count : Fld Z h0 a1 "com/example/wary_observer/waryobserver/equivalence/Splitters" "count" "I" (.int (0 : Int32))) :
    MetFree l (⟨"com/example/wary_observer/waryobserver/equivalence/Splitters", "isEmpty", "()Z"⟩ : MethodName) (head1 (Jvm.Cond.code (⟨"com/example/wary_observer/waryobserver/equivalence/Splitters", "isEmpty", "()Z"⟩ : MethodName) prog_48_method_3_code 1 (some .boolean) :: ws) ({ frames := 0, cells := 0, slots := 0, locals := 0 } : Room)) (fun a U => a = #[(.ref a1)] ∧ Z.Warmed39 U.vm ∧ U.heap = h0) (fun _ _ _ _ _ => True) (fun _ U o U' => ∃ v L, o = .returned v ∧ own_Q6 Z a1 h0 n0 v U'.heap L ∧ FrameEnd U o U' L ({ frames := 0, cells := 0, slots := 0, locals := 0 } : Room).cells ({ frames := 0, cells := 0, slots := 0, locals := 0 } : Room).slots) := by
  refine MetFree.of_bodySF (plainFor_of_name own_pn0) hisR ?_
  intro p e s m args below meth c s₁ Bd hml0 hP hK
  obtain ⟨rfl, hZ, hh⟩ := hP
  have hx := Bd.exec
  have hby := Bd.bytes
  have hml : c.maxLocals = 1 := hml0
  have hown : s.vm.findClass "com/example/wary_observer/waryobserver/equivalence/Splitters" = some m.cls := findClass_of_methodNamed Bd.named
  have hnm := (name_of_methodNamed Bd.named Bd.method).1
  have X0 : Stand p l e ({ frames := 0, cells := 0, slots := 0, locals := 0 } : Room) s m #[(.ref a1)] below meth c s₁ [] 0 0 := Stand.of_body Bd
  have e0 : s₁.heap = h0 := by rw [← hh, Bd.state]; rfl
  have N0 := Fr.nil n0
  have K0 := Keep.refl h0 []
  have pre0 : ∀ t, Steps p.tables e below (s₁.setTop (mkF m 0 #[.val (.ref a1)] [])) t → Steps p.tables e below (s₁.setTop (entryFrame m #[(.ref a1)] 1)) t := fun t kt0 => castTop (own_ef6 m (a1)) kt0
  obtain ⟨T1, X1, e1, st1⟩ := getF X0 hx hZ hown (host := "") (Or.inl (hw _ (List.mem_of_getElem? (i := 21) rfl))) Via.refl e0 F_count (g := (mkF m 1 #[.val (.ref a1)] [(.ref a1)])) rfl rfl (hb hby own_d6_1)
  obtain ⟨fs, hr, hrun, hended, hW, hsame⟩ := X1.leave (v := some (.int (1 : Int32))) (fun h => by rw [Bd.returns] at h; cases h) (BodyLoose.notSynchronized Bd)
  refine ⟨_, _, pre0 _ ?_, hrun, hended, _, _, rfl, ?_, ⟨_, rfl⟩, hW, hsame.mono (by decide) (by decide)⟩
  · skip
    show Steps p.tables e below (s₁.setTop (mkF m 0 #[.val (.ref a1)] [])) _
    refine XS.aloadN X0.here hx rfl (hb hby own_d6_0) rfl rfl ?_
    show Steps p.tables e below (s₁.setTop (mkF m 1 #[.val (.ref a1)] [(.ref a1)])) _
    refine st1 _ ?_
    show Steps p.tables e below (T1.setTop (mkF m 4 #[.val (.ref a1)] [(.int (0 : Int32))])) _
    refine XS.ifNo X1.here hx rfl (hb hby own_d6_4) rfl ((if0 _ _).trans (teq rfl).2) ?_
    show Steps p.tables e below (T1.setTop (mkF m 7 #[.val (.ref a1)] [])) _
    refine XS.iconst X1.here hx rfl (hb hby own_d6_7) ?_
    show Steps p.tables e below (T1.setTop (mkF m 8 #[.val (.ref a1)] [(.int (1 : Int32))])) _
    refine XS.goto X1.here hx rfl (pc0 := 8) (pc' := 12) rfl (hb hby own_d6_8) (by decide) (by decide) ?_
    show Steps p.tables e below (T1.setTop (mkF m 12 #[.val (.ref a1)] [(.int (1 : Int32))])) _
    exact retN X1 hx (t := .boolean) Bd.returns (by simp) (hb hby own_d6_12) hr
  · show own_Q6 Z a1 h0 n0 _ T1.heap _
    rw [e1]
    exact ⟨rfl, N0, rfl⟩
theorem own_pd0 : parseMethodDescriptor "(I)V" = some ⟨[.int], none⟩ := by decide +kernel
theorem own_pd1 : parseMethodDescriptor "([III)I" = some ⟨[(.array .int), .int, .int], some .int⟩ := by decide +kernel
theorem own_pd2 : parseMethodDescriptor "()Z" = some ⟨[], some .boolean⟩ := by decide +kernel
theorem own_pd3 : parseMethodDescriptor "()I" = some ⟨[], some .int⟩ := by decide +kernel
theorem own_ef0 (m : MethodId) (x0 : Int32) (x1 : Int32) (x2 : Int32) (x3 : Int32) (x4 : Int32) (x5 : Int32) : entryFrame m #[(.int x0), (.int x1), (.int x2), (.int x3), (.int x4), (.int x5)] maxLocals = mkF m 0 #[.val (.int x0), .val (.int x1), .val (.int x2), .val (.int x3), .val (.int x4), .val (.int x5), .unset, .unset, .unset, .unset, .unset, .unset, .unset, .unset, .unset, .unset] [] := by first | (simp [entryFrame, mkF, argsToLocals, Value.category, maxLocals]; done) | rfl
def own_Q0 (Z : State) (a1 : Int32) (a2 : Int32) (a3 : Int32) (a4 : Int32) (a5 : Int32) (a6 : Int32) (h0 : Heap) (n0 : Nat) (v : Option Value) (h : Heap) (L : List Loc) : Prop := v = some (.int 1) ∧ Fr n0 L
set_option maxRecDepth 65536 in
set_option maxHeartbeats 40000000 in
theorem own_rm0 (l : Launch) (Z : State) (a0 : Array Value) (hw : ∀ d ∈ tables_1, d.before a0 Z = true) (ws : List Jvm.Cond) (a1 : Int32) (a2 : Int32) (a3 : Int32) (a4 : Int32) (a5 : Int32) (a6 : Int32) (h0 : Heap) (n0 : Nat) (Z0 : n0 ≤ h0.size) :
    MetFree l x (head1 (Jvm.Cond.code x code maxLocals ret :: ws) room_1) (fun a U => a = #[(.int a1), (.int a2), (.int a3), (.int a4), (.int a5), (.int a6)] ∧ Z.Warmed39 U.vm ∧ U.heap = h0) (fun _ _ _ _ _ => True) (fun _ U o U' => ∃ v L, o = .returned v ∧ own_Q0 Z a1 a2 a3 a4 a5 a6 h0 n0 v U'.heap L ∧ FrameEnd U o U' L room_1.cells room_1.slots) := by
  refine MetFree.of_bodySF (plainFor_of_name own_pn1) hisR ?_
  intro p e s m args below meth c s₁ Bd hml0 hP hK
  obtain ⟨rfl, hZ, hh⟩ := hP
  have hx := Bd.exec
  have hby := Bd.bytes
  have hml : c.maxLocals = 16 := hml0
  have hown : s.vm.findClass "com/example/wary_observer/waryobserver/equivalence/SplittersAddPinLaw" = some m.cls := findClass_of_methodNamed Bd.named
  have hnm := (name_of_methodNamed Bd.named Bd.method).1
  have X0 : Stand p l e room_1 s m #[(.int a1), (.int a2), (.int a3), (.int a4), (.int a5), (.int a6)] below meth c s₁ [] 0 0 := Stand.of_body Bd
  have e0 : s₁.heap = h0 := by rw [← hh, Bd.state]; rfl
  have N0 := Fr.nil n0
  have K0 := Keep.refl h0 []
  have pre0 : ∀ t, Steps p.tables e below (s₁.setTop (mkF m 0 #[.val (.int a1), .val (.int a2), .val (.int a3), .val (.int a4), .val (.int a5), .val (.int a6), .unset, .unset, .unset, .unset, .unset, .unset, .unset, .unset, .unset, .unset] [])) t → Steps p.tables e below (s₁.setTop (entryFrame m #[(.int a1), (.int a2), (.int a3), (.int a4), (.int a5), (.int a6)] maxLocals)) t := fun t kt0 => castTop (own_ef0 m (a1) (a2) (a3) (a4) (a5) (a6)) kt0
  obtain ⟨nf, hnf⟩ := own_nn a1
  have hn4 : nf.1 + 1 ≤ 4 := nf.2
  have pre1 : ∀ t, Steps p.tables e below (s₁.setTop (mkF m 7 #[.val (.int a1), .val (.int a2), .val (.int a3), .val (.int a4), .val (.int a5), .val (.int a6), .val (.int ((1 : Int32) + (a1 &&& (3 : Int32)))), .unset, .unset, .unset, .unset, .unset, .unset, .unset, .unset, .unset] [])) t → Steps p.tables e below (s₁.setTop (entryFrame m #[(.int a1), (.int a2), (.int a3), (.int a4), (.int a5), (.int a6)] maxLocals)) t := by
    intro t kt
    refine pre0 t ?_
    show Steps p.tables e below (s₁.setTop (mkF m 0 #[.val (.int a1), .val (.int a2), .val (.int a3), .val (.int a4), .val (.int a5), .val (.int a6), .unset, .unset, .unset, .unset, .unset, .unset, .unset, .unset, .unset, .unset] [])) _
    refine XS.iconst X0.here hx rfl (hb hby at_0) ?_
    show Steps p.tables e below (s₁.setTop (mkF m 1 #[.val (.int a1), .val (.int a2), .val (.int a3), .val (.int a4), .val (.int a5), .val (.int a6), .unset, .unset, .unset, .unset, .unset, .unset, .unset, .unset, .unset, .unset] [(.int (1 : Int32))])) _
    refine XS.iloadN X0.here hx rfl (hb hby at_1) rfl ?_
    show Steps p.tables e below (s₁.setTop (mkF m 2 #[.val (.int a1), .val (.int a2), .val (.int a3), .val (.int a4), .val (.int a5), .val (.int a6), .unset, .unset, .unset, .unset, .unset, .unset, .unset, .unset, .unset, .unset] [(.int a1), (.int (1 : Int32))])) _
    refine XS.iconst X0.here hx rfl (hb hby at_2) ?_
    show Steps p.tables e below (s₁.setTop (mkF m 3 #[.val (.int a1), .val (.int a2), .val (.int a3), .val (.int a4), .val (.int a5), .val (.int a6), .unset, .unset, .unset, .unset, .unset, .unset, .unset, .unset, .unset, .unset] [(.int (3 : Int32)), (.int a1), (.int (1 : Int32))])) _
    refine XS.iand X0.here hx rfl (hb hby at_3) rfl ?_
    show Steps p.tables e below (s₁.setTop (mkF m 4 #[.val (.int a1), .val (.int a2), .val (.int a3), .val (.int a4), .val (.int a5), .val (.int a6), .unset, .unset, .unset, .unset, .unset, .unset, .unset, .unset, .unset, .unset] [(.int (a1 &&& (3 : Int32))), (.int (1 : Int32))])) _
    refine XS.iadd X0.here hx rfl (hb hby at_4) rfl ?_
    show Steps p.tables e below (s₁.setTop (mkF m 5 #[.val (.int a1), .val (.int a2), .val (.int a3), .val (.int a4), .val (.int a5), .val (.int a6), .unset, .unset, .unset, .unset, .unset, .unset, .unset, .unset, .unset, .unset] [(.int ((1 : Int32) + (a1 &&& (3 : Int32))))])) _
    refine XS.istore X0.here hx rfl (hb hby at_5) rfl (l' := #[.val (.int a1), .val (.int a2), .val (.int a3), .val (.int a4), .val (.int a5), .val (.int a6), .val (.int ((1 : Int32) + (a1 &&& (3 : Int32)))), .unset, .unset, .unset, .unset, .unset, .unset, .unset, .unset, .unset]) rfl ?_
    exact kt
  have pre2 : ∀ t, Steps p.tables e below (s₁.setTop (mkF m 7 #[.val (.int a1), .val (.int a2), .val (.int a3), .val (.int a4), .val (.int a5), .val (.int a6), .val (.int (Int32.ofNat (nf.1 + 1))), .unset, .unset, .unset, .unset, .unset, .unset, .unset, .unset, .unset] [])) t → Steps p.tables e below (s₁.setTop (entryFrame m #[(.int a1), (.int a2), (.int a3), (.int a4), (.int a5), (.int a6)] maxLocals)) t := by rw [(hnf : (Int32.ofNat (nf.1 + 1)) = ((1 : Int32) + (a1 &&& (3 : Int32))))]; exact pre1
  obtain ⟨xa, hxae, hxal⟩ := own_xx a2 nf
  have pre3 : ∀ t, Steps p.tables e below (s₁.setTop (mkF m 16 #[.val (.int a1), .val (.int a2), .val (.int a3), .val (.int a4), .val (.int a5), .val (.int a6), .val (.int (Int32.ofNat (nf.1 + 1))), .val (.int ((a2 &&& (2147483647 : Int32)) % (Int32.ofNat (nf.1 + 1)))), .unset, .unset, .unset, .unset, .unset, .unset, .unset, .unset] [])) t → Steps p.tables e below (s₁.setTop (entryFrame m #[(.int a1), (.int a2), (.int a3), (.int a4), (.int a5), (.int a6)] maxLocals)) t := by
    intro t kt
    refine pre2 t ?_
    show Steps p.tables e below (s₁.setTop (mkF m 7 #[.val (.int a1), .val (.int a2), .val (.int a3), .val (.int a4), .val (.int a5), .val (.int a6), .val (.int (Int32.ofNat (nf.1 + 1))), .unset, .unset, .unset, .unset, .unset, .unset, .unset, .unset, .unset] [])) _
    refine XS.iloadN X0.here hx rfl (hb hby at_7) rfl ?_
    show Steps p.tables e below (s₁.setTop (mkF m 8 #[.val (.int a1), .val (.int a2), .val (.int a3), .val (.int a4), .val (.int a5), .val (.int a6), .val (.int (Int32.ofNat (nf.1 + 1))), .unset, .unset, .unset, .unset, .unset, .unset, .unset, .unset, .unset] [(.int a2)])) _
    refine X0.ldcInt hx hown (mvT hZ (hw _ (List.mem_of_getElem? (i := 0) rfl))) (g := (mkF m 8 #[.val (.int a1), .val (.int a2), .val (.int a3), .val (.int a4), .val (.int a5), .val (.int a6), .val (.int (Int32.ofNat (nf.1 + 1))), .unset, .unset, .unset, .unset, .unset, .unset, .unset, .unset, .unset] [(.int a2)])) rfl (hb hby at_8) _ ?_
    show Steps p.tables e below (s₁.setTop (mkF m 10 #[.val (.int a1), .val (.int a2), .val (.int a3), .val (.int a4), .val (.int a5), .val (.int a6), .val (.int (Int32.ofNat (nf.1 + 1))), .unset, .unset, .unset, .unset, .unset, .unset, .unset, .unset, .unset] [(.int (2147483647 : Int32)), (.int a2)])) _
    refine XS.iand X0.here hx rfl (hb hby at_10) rfl ?_
    show Steps p.tables e below (s₁.setTop (mkF m 11 #[.val (.int a1), .val (.int a2), .val (.int a3), .val (.int a4), .val (.int a5), .val (.int a6), .val (.int (Int32.ofNat (nf.1 + 1))), .unset, .unset, .unset, .unset, .unset, .unset, .unset, .unset, .unset] [(.int (a2 &&& (2147483647 : Int32)))])) _
    refine XS.iload X0.here hx rfl (hb hby at_11) rfl ?_
    show Steps p.tables e below (s₁.setTop (mkF m 13 #[.val (.int a1), .val (.int a2), .val (.int a3), .val (.int a4), .val (.int a5), .val (.int a6), .val (.int (Int32.ofNat (nf.1 + 1))), .unset, .unset, .unset, .unset, .unset, .unset, .unset, .unset, .unset] [(.int (Int32.ofNat (nf.1 + 1))), (.int (a2 &&& (2147483647 : Int32)))])) _
    refine iremM X0 hx rfl (hb hby at_13) rfl (own_ne0 nf) ?_
    show Steps p.tables e below (s₁.setTop (mkF m 14 #[.val (.int a1), .val (.int a2), .val (.int a3), .val (.int a4), .val (.int a5), .val (.int a6), .val (.int (Int32.ofNat (nf.1 + 1))), .unset, .unset, .unset, .unset, .unset, .unset, .unset, .unset, .unset] [(.int ((a2 &&& (2147483647 : Int32)) % (Int32.ofNat (nf.1 + 1))))])) _
    refine XS.istore X0.here hx rfl (hb hby at_14) rfl (l' := #[.val (.int a1), .val (.int a2), .val (.int a3), .val (.int a4), .val (.int a5), .val (.int a6), .val (.int (Int32.ofNat (nf.1 + 1))), .val (.int ((a2 &&& (2147483647 : Int32)) % (Int32.ofNat (nf.1 + 1)))), .unset, .unset, .unset, .unset, .unset, .unset, .unset, .unset]) rfl ?_
    exact kt
  have pre4 : ∀ t, Steps p.tables e below (s₁.setTop (mkF m 16 #[.val (.int a1), .val (.int a2), .val (.int a3), .val (.int a4), .val (.int a5), .val (.int a6), .val (.int (Int32.ofNat (nf.1 + 1))), .val (.int (Int32.ofNat xa.1)), .unset, .unset, .unset, .unset, .unset, .unset, .unset, .unset] [])) t → Steps p.tables e below (s₁.setTop (entryFrame m #[(.int a1), (.int a2), (.int a3), (.int a4), (.int a5), (.int a6)] maxLocals)) t := by rw [(hxae : (Int32.ofNat xa.1) = ((a2 &&& (2147483647 : Int32)) % (Int32.ofNat (nf.1 + 1))))]; exact pre3
  obtain ⟨xb, hxbe, hxbl⟩ := own_xx a3 nf
  have pre5 : ∀ t, Steps p.tables e below (s₁.setTop (mkF m 25 #[.val (.int a1), .val (.int a2), .val (.int a3), .val (.int a4), .val (.int a5), .val (.int a6), .val (.int (Int32.ofNat (nf.1 + 1))), .val (.int (Int32.ofNat xa.1)), .val (.int ((a3 &&& (2147483647 : Int32)) % (Int32.ofNat (nf.1 + 1)))), .unset, .unset, .unset, .unset, .unset, .unset, .unset] [])) t → Steps p.tables e below (s₁.setTop (entryFrame m #[(.int a1), (.int a2), (.int a3), (.int a4), (.int a5), (.int a6)] maxLocals)) t := by
    intro t kt
    refine pre4 t ?_
    show Steps p.tables e below (s₁.setTop (mkF m 16 #[.val (.int a1), .val (.int a2), .val (.int a3), .val (.int a4), .val (.int a5), .val (.int a6), .val (.int (Int32.ofNat (nf.1 + 1))), .val (.int (Int32.ofNat xa.1)), .unset, .unset, .unset, .unset, .unset, .unset, .unset, .unset] [])) _
    refine XS.iloadN X0.here hx rfl (hb hby at_16) rfl ?_
    show Steps p.tables e below (s₁.setTop (mkF m 17 #[.val (.int a1), .val (.int a2), .val (.int a3), .val (.int a4), .val (.int a5), .val (.int a6), .val (.int (Int32.ofNat (nf.1 + 1))), .val (.int (Int32.ofNat xa.1)), .unset, .unset, .unset, .unset, .unset, .unset, .unset, .unset] [(.int a3)])) _
    refine X0.ldcInt hx hown (mvT hZ (hw _ (List.mem_of_getElem? (i := 0) rfl))) (g := (mkF m 17 #[.val (.int a1), .val (.int a2), .val (.int a3), .val (.int a4), .val (.int a5), .val (.int a6), .val (.int (Int32.ofNat (nf.1 + 1))), .val (.int (Int32.ofNat xa.1)), .unset, .unset, .unset, .unset, .unset, .unset, .unset, .unset] [(.int a3)])) rfl (hb hby at_17) _ ?_
    show Steps p.tables e below (s₁.setTop (mkF m 19 #[.val (.int a1), .val (.int a2), .val (.int a3), .val (.int a4), .val (.int a5), .val (.int a6), .val (.int (Int32.ofNat (nf.1 + 1))), .val (.int (Int32.ofNat xa.1)), .unset, .unset, .unset, .unset, .unset, .unset, .unset, .unset] [(.int (2147483647 : Int32)), (.int a3)])) _
    refine XS.iand X0.here hx rfl (hb hby at_19) rfl ?_
    show Steps p.tables e below (s₁.setTop (mkF m 20 #[.val (.int a1), .val (.int a2), .val (.int a3), .val (.int a4), .val (.int a5), .val (.int a6), .val (.int (Int32.ofNat (nf.1 + 1))), .val (.int (Int32.ofNat xa.1)), .unset, .unset, .unset, .unset, .unset, .unset, .unset, .unset] [(.int (a3 &&& (2147483647 : Int32)))])) _
    refine XS.iload X0.here hx rfl (hb hby at_20) rfl ?_
    show Steps p.tables e below (s₁.setTop (mkF m 22 #[.val (.int a1), .val (.int a2), .val (.int a3), .val (.int a4), .val (.int a5), .val (.int a6), .val (.int (Int32.ofNat (nf.1 + 1))), .val (.int (Int32.ofNat xa.1)), .unset, .unset, .unset, .unset, .unset, .unset, .unset, .unset] [(.int (Int32.ofNat (nf.1 + 1))), (.int (a3 &&& (2147483647 : Int32)))])) _
    refine iremM X0 hx rfl (hb hby at_22) rfl (own_ne0 nf) ?_
    show Steps p.tables e below (s₁.setTop (mkF m 23 #[.val (.int a1), .val (.int a2), .val (.int a3), .val (.int a4), .val (.int a5), .val (.int a6), .val (.int (Int32.ofNat (nf.1 + 1))), .val (.int (Int32.ofNat xa.1)), .unset, .unset, .unset, .unset, .unset, .unset, .unset, .unset] [(.int ((a3 &&& (2147483647 : Int32)) % (Int32.ofNat (nf.1 + 1))))])) _
    refine XS.istore X0.here hx rfl (hb hby at_23) rfl (l' := #[.val (.int a1), .val (.int a2), .val (.int a3), .val (.int a4), .val (.int a5), .val (.int a6), .val (.int (Int32.ofNat (nf.1 + 1))), .val (.int (Int32.ofNat xa.1)), .val (.int ((a3 &&& (2147483647 : Int32)) % (Int32.ofNat (nf.1 + 1)))), .unset, .unset, .unset, .unset, .unset, .unset, .unset]) rfl ?_
    exact kt
  have pre6 : ∀ t, Steps p.tables e below (s₁.setTop (mkF m 25 #[.val (.int a1), .val (.int a2), .val (.int a3), .val (.int a4), .val (.int a5), .val (.int a6), .val (.int (Int32.ofNat (nf.1 + 1))), .val (.int (Int32.ofNat xa.1)), .val (.int (Int32.ofNat xb.1)), .unset, .unset, .unset, .unset, .unset, .unset, .unset] [])) t → Steps p.tables e below (s₁.setTop (entryFrame m #[(.int a1), (.int a2), (.int a3), (.int a4), (.int a5), (.int a6)] maxLocals)) t := by rw [(hxbe : (Int32.ofNat xb.1) = ((a3 &&& (2147483647 : Int32)) % (Int32.ofNat (nf.1 + 1))))]; exact pre5
  obtain ⟨xc, hxce, hxcl⟩ := own_xx a4 nf
  have pre7 : ∀ t, Steps p.tables e below (s₁.setTop (mkF m 34 #[.val (.int a1), .val (.int a2), .val (.int a3), .val (.int a4), .val (.int a5), .val (.int a6), .val (.int (Int32.ofNat (nf.1 + 1))), .val (.int (Int32.ofNat xa.1)), .val (.int (Int32.ofNat xb.1)), .val (.int ((a4 &&& (2147483647 : Int32)) % (Int32.ofNat (nf.1 + 1)))), .unset, .unset, .unset, .unset, .unset, .unset] [])) t → Steps p.tables e below (s₁.setTop (entryFrame m #[(.int a1), (.int a2), (.int a3), (.int a4), (.int a5), (.int a6)] maxLocals)) t := by
    intro t kt
    refine pre6 t ?_
    show Steps p.tables e below (s₁.setTop (mkF m 25 #[.val (.int a1), .val (.int a2), .val (.int a3), .val (.int a4), .val (.int a5), .val (.int a6), .val (.int (Int32.ofNat (nf.1 + 1))), .val (.int (Int32.ofNat xa.1)), .val (.int (Int32.ofNat xb.1)), .unset, .unset, .unset, .unset, .unset, .unset, .unset] [])) _
    refine XS.iloadN X0.here hx rfl (hb hby at_25) rfl ?_
    show Steps p.tables e below (s₁.setTop (mkF m 26 #[.val (.int a1), .val (.int a2), .val (.int a3), .val (.int a4), .val (.int a5), .val (.int a6), .val (.int (Int32.ofNat (nf.1 + 1))), .val (.int (Int32.ofNat xa.1)), .val (.int (Int32.ofNat xb.1)), .unset, .unset, .unset, .unset, .unset, .unset, .unset] [(.int a4)])) _
    refine X0.ldcInt hx hown (mvT hZ (hw _ (List.mem_of_getElem? (i := 0) rfl))) (g := (mkF m 26 #[.val (.int a1), .val (.int a2), .val (.int a3), .val (.int a4), .val (.int a5), .val (.int a6), .val (.int (Int32.ofNat (nf.1 + 1))), .val (.int (Int32.ofNat xa.1)), .val (.int (Int32.ofNat xb.1)), .unset, .unset, .unset, .unset, .unset, .unset, .unset] [(.int a4)])) rfl (hb hby at_26) _ ?_
    show Steps p.tables e below (s₁.setTop (mkF m 28 #[.val (.int a1), .val (.int a2), .val (.int a3), .val (.int a4), .val (.int a5), .val (.int a6), .val (.int (Int32.ofNat (nf.1 + 1))), .val (.int (Int32.ofNat xa.1)), .val (.int (Int32.ofNat xb.1)), .unset, .unset, .unset, .unset, .unset, .unset, .unset] [(.int (2147483647 : Int32)), (.int a4)])) _
    refine XS.iand X0.here hx rfl (hb hby at_28) rfl ?_
    show Steps p.tables e below (s₁.setTop (mkF m 29 #[.val (.int a1), .val (.int a2), .val (.int a3), .val (.int a4), .val (.int a5), .val (.int a6), .val (.int (Int32.ofNat (nf.1 + 1))), .val (.int (Int32.ofNat xa.1)), .val (.int (Int32.ofNat xb.1)), .unset, .unset, .unset, .unset, .unset, .unset, .unset] [(.int (a4 &&& (2147483647 : Int32)))])) _
    refine XS.iload X0.here hx rfl (hb hby at_29) rfl ?_
    show Steps p.tables e below (s₁.setTop (mkF m 31 #[.val (.int a1), .val (.int a2), .val (.int a3), .val (.int a4), .val (.int a5), .val (.int a6), .val (.int (Int32.ofNat (nf.1 + 1))), .val (.int (Int32.ofNat xa.1)), .val (.int (Int32.ofNat xb.1)), .unset, .unset, .unset, .unset, .unset, .unset, .unset] [(.int (Int32.ofNat (nf.1 + 1))), (.int (a4 &&& (2147483647 : Int32)))])) _
    refine iremM X0 hx rfl (hb hby at_31) rfl (own_ne0 nf) ?_
    show Steps p.tables e below (s₁.setTop (mkF m 32 #[.val (.int a1), .val (.int a2), .val (.int a3), .val (.int a4), .val (.int a5), .val (.int a6), .val (.int (Int32.ofNat (nf.1 + 1))), .val (.int (Int32.ofNat xa.1)), .val (.int (Int32.ofNat xb.1)), .unset, .unset, .unset, .unset, .unset, .unset, .unset] [(.int ((a4 &&& (2147483647 : Int32)) % (Int32.ofNat (nf.1 + 1))))])) _
    refine XS.istore X0.here hx rfl (hb hby at_32) rfl (l' := #[.val (.int a1), .val (.int a2), .val (.int a3), .val (.int a4), .val (.int a5), .val (.int a6), .val (.int (Int32.ofNat (nf.1 + 1))), .val (.int (Int32.ofNat xa.1)), .val (.int (Int32.ofNat xb.1)), .val (.int ((a4 &&& (2147483647 : Int32)) % (Int32.ofNat (nf.1 + 1)))), .unset, .unset, .unset, .unset, .unset, .unset]) rfl ?_
    exact kt
  have pre8 : ∀ t, Steps p.tables e below (s₁.setTop (mkF m 34 #[.val (.int a1), .val (.int a2), .val (.int a3), .val (.int a4), .val (.int a5), .val (.int a6), .val (.int (Int32.ofNat (nf.1 + 1))), .val (.int (Int32.ofNat xa.1)), .val (.int (Int32.ofNat xb.1)), .val (.int (Int32.ofNat xc.1)), .unset, .unset, .unset, .unset, .unset, .unset] [])) t → Steps p.tables e below (s₁.setTop (entryFrame m #[(.int a1), (.int a2), (.int a3), (.int a4), (.int a5), (.int a6)] maxLocals)) t := by rw [(hxce : (Int32.ofNat xc.1) = ((a4 &&& (2147483647 : Int32)) % (Int32.ofNat (nf.1 + 1))))]; exact pre7
  obtain ⟨xd, hxde, hxdl⟩ := own_xx a5 nf
  have pre9 : ∀ t, Steps p.tables e below (s₁.setTop (mkF m 44 #[.val (.int a1), .val (.int a2), .val (.int a3), .val (.int a4), .val (.int a5), .val (.int a6), .val (.int (Int32.ofNat (nf.1 + 1))), .val (.int (Int32.ofNat xa.1)), .val (.int (Int32.ofNat xb.1)), .val (.int (Int32.ofNat xc.1)), .val (.int ((a5 &&& (2147483647 : Int32)) % (Int32.ofNat (nf.1 + 1)))), .unset, .unset, .unset, .unset, .unset] [])) t → Steps p.tables e below (s₁.setTop (entryFrame m #[(.int a1), (.int a2), (.int a3), (.int a4), (.int a5), (.int a6)] maxLocals)) t := by
    intro t kt
    refine pre8 t ?_
    show Steps p.tables e below (s₁.setTop (mkF m 34 #[.val (.int a1), .val (.int a2), .val (.int a3), .val (.int a4), .val (.int a5), .val (.int a6), .val (.int (Int32.ofNat (nf.1 + 1))), .val (.int (Int32.ofNat xa.1)), .val (.int (Int32.ofNat xb.1)), .val (.int (Int32.ofNat xc.1)), .unset, .unset, .unset, .unset, .unset, .unset] [])) _
    refine XS.iload X0.here hx rfl (hb hby at_34) rfl ?_
    show Steps p.tables e below (s₁.setTop (mkF m 36 #[.val (.int a1), .val (.int a2), .val (.int a3), .val (.int a4), .val (.int a5), .val (.int a6), .val (.int (Int32.ofNat (nf.1 + 1))), .val (.int (Int32.ofNat xa.1)), .val (.int (Int32.ofNat xb.1)), .val (.int (Int32.ofNat xc.1)), .unset, .unset, .unset, .unset, .unset, .unset] [(.int a5)])) _
    refine X0.ldcInt hx hown (mvT hZ (hw _ (List.mem_of_getElem? (i := 0) rfl))) (g := (mkF m 36 #[.val (.int a1), .val (.int a2), .val (.int a3), .val (.int a4), .val (.int a5), .val (.int a6), .val (.int (Int32.ofNat (nf.1 + 1))), .val (.int (Int32.ofNat xa.1)), .val (.int (Int32.ofNat xb.1)), .val (.int (Int32.ofNat xc.1)), .unset, .unset, .unset, .unset, .unset, .unset] [(.int a5)])) rfl (hb hby at_36) _ ?_
    show Steps p.tables e below (s₁.setTop (mkF m 38 #[.val (.int a1), .val (.int a2), .val (.int a3), .val (.int a4), .val (.int a5), .val (.int a6), .val (.int (Int32.ofNat (nf.1 + 1))), .val (.int (Int32.ofNat xa.1)), .val (.int (Int32.ofNat xb.1)), .val (.int (Int32.ofNat xc.1)), .unset, .unset, .unset, .unset, .unset, .unset] [(.int (2147483647 : Int32)), (.int a5)])) _
    refine XS.iand X0.here hx rfl (hb hby at_38) rfl ?_
    show Steps p.tables e below (s₁.setTop (mkF m 39 #[.val (.int a1), .val (.int a2), .val (.int a3), .val (.int a4), .val (.int a5), .val (.int a6), .val (.int (Int32.ofNat (nf.1 + 1))), .val (.int (Int32.ofNat xa.1)), .val (.int (Int32.ofNat xb.1)), .val (.int (Int32.ofNat xc.1)), .unset, .unset, .unset, .unset, .unset, .unset] [(.int (a5 &&& (2147483647 : Int32)))])) _
    refine XS.iload X0.here hx rfl (hb hby at_39) rfl ?_
    show Steps p.tables e below (s₁.setTop (mkF m 41 #[.val (.int a1), .val (.int a2), .val (.int a3), .val (.int a4), .val (.int a5), .val (.int a6), .val (.int (Int32.ofNat (nf.1 + 1))), .val (.int (Int32.ofNat xa.1)), .val (.int (Int32.ofNat xb.1)), .val (.int (Int32.ofNat xc.1)), .unset, .unset, .unset, .unset, .unset, .unset] [(.int (Int32.ofNat (nf.1 + 1))), (.int (a5 &&& (2147483647 : Int32)))])) _
    refine iremM X0 hx rfl (hb hby at_41) rfl (own_ne0 nf) ?_
    show Steps p.tables e below (s₁.setTop (mkF m 42 #[.val (.int a1), .val (.int a2), .val (.int a3), .val (.int a4), .val (.int a5), .val (.int a6), .val (.int (Int32.ofNat (nf.1 + 1))), .val (.int (Int32.ofNat xa.1)), .val (.int (Int32.ofNat xb.1)), .val (.int (Int32.ofNat xc.1)), .unset, .unset, .unset, .unset, .unset, .unset] [(.int ((a5 &&& (2147483647 : Int32)) % (Int32.ofNat (nf.1 + 1))))])) _
    refine XS.istore X0.here hx rfl (hb hby at_42) rfl (l' := #[.val (.int a1), .val (.int a2), .val (.int a3), .val (.int a4), .val (.int a5), .val (.int a6), .val (.int (Int32.ofNat (nf.1 + 1))), .val (.int (Int32.ofNat xa.1)), .val (.int (Int32.ofNat xb.1)), .val (.int (Int32.ofNat xc.1)), .val (.int ((a5 &&& (2147483647 : Int32)) % (Int32.ofNat (nf.1 + 1)))), .unset, .unset, .unset, .unset, .unset]) rfl ?_
    exact kt
  have pre10 : ∀ t, Steps p.tables e below (s₁.setTop (mkF m 44 #[.val (.int a1), .val (.int a2), .val (.int a3), .val (.int a4), .val (.int a5), .val (.int a6), .val (.int (Int32.ofNat (nf.1 + 1))), .val (.int (Int32.ofNat xa.1)), .val (.int (Int32.ofNat xb.1)), .val (.int (Int32.ofNat xc.1)), .val (.int (Int32.ofNat xd.1)), .unset, .unset, .unset, .unset, .unset] [])) t → Steps p.tables e below (s₁.setTop (entryFrame m #[(.int a1), (.int a2), (.int a3), (.int a4), (.int a5), (.int a6)] maxLocals)) t := by rw [(hxde : (Int32.ofNat xd.1) = ((a5 &&& (2147483647 : Int32)) % (Int32.ofNat (nf.1 + 1))))]; exact pre9
  have pre11 : ∀ t, Steps p.tables e below (s₁.setTop (mkF m 48 #[.val (.int a1), .val (.int a2), .val (.int a3), .val (.int a4), .val (.int a5), .val (.int a6), .val (.int (Int32.ofNat (nf.1 + 1))), .val (.int (Int32.ofNat xa.1)), .val (.int (Int32.ofNat xb.1)), .val (.int (Int32.ofNat xc.1)), .val (.int (Int32.ofNat xd.1)), .unset, .unset, .unset, .unset, .unset] [(.int (a6 &&& (1 : Int32)))])) t → Steps p.tables e below (s₁.setTop (entryFrame m #[(.int a1), (.int a2), (.int a3), (.int a4), (.int a5), (.int a6)] maxLocals)) t := by
    intro t kt
    refine pre10 t ?_
    show Steps p.tables e below (s₁.setTop (mkF m 44 #[.val (.int a1), .val (.int a2), .val (.int a3), .val (.int a4), .val (.int a5), .val (.int a6), .val (.int (Int32.ofNat (nf.1 + 1))), .val (.int (Int32.ofNat xa.1)), .val (.int (Int32.ofNat xb.1)), .val (.int (Int32.ofNat xc.1)), .val (.int (Int32.ofNat xd.1)), .unset, .unset, .unset, .unset, .unset] [])) _
    refine XS.iload X0.here hx rfl (hb hby at_44) rfl ?_
    show Steps p.tables e below (s₁.setTop (mkF m 46 #[.val (.int a1), .val (.int a2), .val (.int a3), .val (.int a4), .val (.int a5), .val (.int a6), .val (.int (Int32.ofNat (nf.1 + 1))), .val (.int (Int32.ofNat xa.1)), .val (.int (Int32.ofNat xb.1)), .val (.int (Int32.ofNat xc.1)), .val (.int (Int32.ofNat xd.1)), .unset, .unset, .unset, .unset, .unset] [(.int a6)])) _
    refine XS.iconst X0.here hx rfl (hb hby at_46) ?_
    show Steps p.tables e below (s₁.setTop (mkF m 47 #[.val (.int a1), .val (.int a2), .val (.int a3), .val (.int a4), .val (.int a5), .val (.int a6), .val (.int (Int32.ofNat (nf.1 + 1))), .val (.int (Int32.ofNat xa.1)), .val (.int (Int32.ofNat xb.1)), .val (.int (Int32.ofNat xc.1)), .val (.int (Int32.ofNat xd.1)), .unset, .unset, .unset, .unset, .unset] [(.int (1 : Int32)), (.int a6)])) _
    refine XS.iand X0.here hx rfl (hb hby at_47) rfl ?_
    exact kt
  obtain ⟨T12, Lc12, md, X12, e12, N12, hp12, pre12⟩ : ∃ (T12 : State) (Lc12 : List Loc) (md : Int32), Stand p l e room_1 s m #[(.int a1), (.int a2), (.int a3), (.int a4), (.int a5), (.int a6)] below meth c T12 Lc12 0 0 ∧ T12.heap = h0 ∧ Fr n0 Lc12 ∧ (True) ∧ ∀ t, Steps p.tables e below (T12.setTop (mkF m 56 #[.val (.int a1), .val (.int a2), .val (.int a3), .val (.int a4), .val (.int a5), .val (.int a6), .val (.int (Int32.ofNat (nf.1 + 1))), .val (.int (Int32.ofNat xa.1)), .val (.int (Int32.ofNat xb.1)), .val (.int (Int32.ofNat xc.1)), .val (.int (Int32.ofNat xd.1)), .unset, .unset, .unset, .unset, .unset] [(.int md)])) t → Steps p.tables e below (s₁.setTop (entryFrame m #[(.int a1), (.int a2), (.int a3), (.int a4), (.int a5), (.int a6)] maxLocals)) t := by
    by_cases hc48 : (a6 &&& (1 : Int32)) = (0 : Int32)
    case pos =>
      have pre13 : ∀ t, Steps p.tables e below (s₁.setTop (mkF m 56 #[.val (.int a1), .val (.int a2), .val (.int a3), .val (.int a4), .val (.int a5), .val (.int a6), .val (.int (Int32.ofNat (nf.1 + 1))), .val (.int (Int32.ofNat xa.1)), .val (.int (Int32.ofNat xb.1)), .val (.int (Int32.ofNat xc.1)), .val (.int (Int32.ofNat xd.1)), .unset, .unset, .unset, .unset, .unset] [(.int (0 : Int32))])) t → Steps p.tables e below (s₁.setTop (entryFrame m #[(.int a1), (.int a2), (.int a3), (.int a4), (.int a5), (.int a6)] maxLocals)) t := by
        intro t kt
        refine pre11 t ?_
        show Steps p.tables e below (s₁.setTop (mkF m 48 #[.val (.int a1), .val (.int a2), .val (.int a3), .val (.int a4), .val (.int a5), .val (.int a6), .val (.int (Int32.ofNat (nf.1 + 1))), .val (.int (Int32.ofNat xa.1)), .val (.int (Int32.ofNat xb.1)), .val (.int (Int32.ofNat xc.1)), .val (.int (Int32.ofNat xd.1)), .unset, .unset, .unset, .unset, .unset] [(.int (a6 &&& (1 : Int32)))])) _
        refine XS.ifYes X0.here hx rfl (pc0 := 48) (pc' := 55) rfl (hb hby at_48) rfl ((if0 _ _).trans (teq hc48).1) (by decide) (by decide) ?_
        show Steps p.tables e below (s₁.setTop (mkF m 55 #[.val (.int a1), .val (.int a2), .val (.int a3), .val (.int a4), .val (.int a5), .val (.int a6), .val (.int (Int32.ofNat (nf.1 + 1))), .val (.int (Int32.ofNat xa.1)), .val (.int (Int32.ofNat xb.1)), .val (.int (Int32.ofNat xc.1)), .val (.int (Int32.ofNat xd.1)), .unset, .unset, .unset, .unset, .unset] [])) _
        refine XS.iconst X0.here hx rfl (hb hby at_55) ?_
        exact kt
      exact ⟨s₁, _, (0 : Int32), X0, e0, N0, trivial, pre13⟩
    case neg =>
      have pre14 : ∀ t, Steps p.tables e below (s₁.setTop (mkF m 56 #[.val (.int a1), .val (.int a2), .val (.int a3), .val (.int a4), .val (.int a5), .val (.int a6), .val (.int (Int32.ofNat (nf.1 + 1))), .val (.int (Int32.ofNat xa.1)), .val (.int (Int32.ofNat xb.1)), .val (.int (Int32.ofNat xc.1)), .val (.int (Int32.ofNat xd.1)), .unset, .unset, .unset, .unset, .unset] [(.int (1 : Int32))])) t → Steps p.tables e below (s₁.setTop (entryFrame m #[(.int a1), (.int a2), (.int a3), (.int a4), (.int a5), (.int a6)] maxLocals)) t := by
        intro t kt
        refine pre11 t ?_
        show Steps p.tables e below (s₁.setTop (mkF m 48 #[.val (.int a1), .val (.int a2), .val (.int a3), .val (.int a4), .val (.int a5), .val (.int a6), .val (.int (Int32.ofNat (nf.1 + 1))), .val (.int (Int32.ofNat xa.1)), .val (.int (Int32.ofNat xb.1)), .val (.int (Int32.ofNat xc.1)), .val (.int (Int32.ofNat xd.1)), .unset, .unset, .unset, .unset, .unset] [(.int (a6 &&& (1 : Int32)))])) _
        refine XS.ifNo X0.here hx rfl (hb hby at_48) rfl ((if0 _ _).trans (feq hc48).1) ?_
        show Steps p.tables e below (s₁.setTop (mkF m 51 #[.val (.int a1), .val (.int a2), .val (.int a3), .val (.int a4), .val (.int a5), .val (.int a6), .val (.int (Int32.ofNat (nf.1 + 1))), .val (.int (Int32.ofNat xa.1)), .val (.int (Int32.ofNat xb.1)), .val (.int (Int32.ofNat xc.1)), .val (.int (Int32.ofNat xd.1)), .unset, .unset, .unset, .unset, .unset] [])) _
        refine XS.iconst X0.here hx rfl (hb hby at_51) ?_
        show Steps p.tables e below (s₁.setTop (mkF m 52 #[.val (.int a1), .val (.int a2), .val (.int a3), .val (.int a4), .val (.int a5), .val (.int a6), .val (.int (Int32.ofNat (nf.1 + 1))), .val (.int (Int32.ofNat xa.1)), .val (.int (Int32.ofNat xb.1)), .val (.int (Int32.ofNat xc.1)), .val (.int (Int32.ofNat xd.1)), .unset, .unset, .unset, .unset, .unset] [(.int (1 : Int32))])) _
        refine XS.goto X0.here hx rfl (pc0 := 52) (pc' := 56) rfl (hb hby at_52) (by decide) (by decide) ?_
        exact kt
      exact ⟨s₁, _, (1 : Int32), X0, e0, N0, trivial, pre14⟩
  obtain ⟨T15, h15, X15, e15, E15, A15, D15, -, st15⟩ := newO X12 hx hZ hown (hw _ (List.mem_of_getElem? (i := 1) rfl)) (hw _ (List.mem_of_getElem? (i := 2) rfl)) (hw _ (List.mem_of_getElem? (i := 3) rfl)) e12 (g := (mkF m 58 #[.val (.int a1), .val (.int a2), .val (.int a3), .val (.int a4), .val (.int a5), .val (.int a6), .val (.int (Int32.ofNat (nf.1 + 1))), .val (.int (Int32.ofNat xa.1)), .val (.int (Int32.ofNat xb.1)), .val (.int (Int32.ofNat xc.1)), .val (.int (Int32.ofNat xd.1)), .val (.int md), .unset, .unset, .unset, .unset] [])) rfl (hb hby at_58) (by decide) (by decide)
  obtain ⟨ob, g15⟩ : ∃ z, z = h0.size := ⟨_, rfl⟩
  rw [← g15] at A15 D15 st15
  have g_ob : n0 ≤ ob := by rw [g15]; exact Z0
  have Z16 := Nat.le_trans Z0 E15.1
  have E_ob := A15
  have F_blocks_ob : Fld Z h15 ob "com/example/wary_observer/waryobserver/equivalence/Splitters" "blocks" "[I" .null := D15 (Or.inr (hw _ (List.mem_of_getElem? (i := 12) rfl))) (ty := (.array .int)) (by decide)
  have F_isWaiting_ob : Fld Z h15 ob "com/example/wary_observer/waryobserver/equivalence/Splitters" "isWaiting" "[Z" .null := D15 (Or.inr (hw _ (List.mem_of_getElem? (i := 15) rfl))) (ty := (.array .boolean)) (by decide)
  have F_count_ob : Fld Z h15 ob "com/example/wary_observer/waryobserver/equivalence/Splitters" "count" "I" (.int (0 : Int32)) := D15 (Or.inl (hw _ (List.mem_of_getElem? (i := 22) rfl))) (ty := .int) (by decide)
  obtain ⟨_, _, ⟨T17, L17, k17, n17⟩, -, X17, ⟨Lc17, hQ17, l17, y17, z17⟩, st17⟩ := X15.specialBack hx (y := (⟨"com/example/wary_observer/waryobserver/equivalence/Splitters", "<init>", "(I)V"⟩ : MethodName)) rfl hown (mvT hZ (hw _ (List.mem_of_getElem? (i := 4) rfl))) (mvT hZ (hw _ (List.mem_of_getElem? (i := 5) rfl))) (mvT hZ (hw _ (List.mem_of_getElem? (i := 6) rfl))) (by decide) (backOf (W := 1) (own_rm1 l Z a0 hw [] ob (nf.1 + 1) h15 n0 Z16 E_ob F_blocks_ob F_isWaiting_ob F_count_ob g_ob hn4) hZ (hw _ (List.mem_of_getElem? (i := 6) rfl)) (hw _ (List.mem_of_getElem? (i := 3) rfl)) (by decide) (by decide)) (g := (mkF m 64 #[.val (.int a1), .val (.int a2), .val (.int a3), .val (.int a4), .val (.int a5), .val (.int a6), .val (.int (Int32.ofNat (nf.1 + 1))), .val (.int (Int32.ofNat xa.1)), .val (.int (Int32.ofNat xb.1)), .val (.int (Int32.ofNat xc.1)), .val (.int (Int32.ofNat xd.1)), .val (.int md), .unset, .unset, .unset, .unset] [(.int (Int32.ofNat (nf.1 + 1))), (.ref ob), (.ref ob)])) rfl (by rw [hml]; rfl) (Steps.refl _) (a := ob) (argsL := [(.int (Int32.ofNat (nf.1 + 1)))]) (rest := [(.ref ob)]) (lenOf own_pd0 rfl) rfl (by show 2 * 0 + _ ≤ _; exact Nat.le_of_eq rfl) (hb hby at_64) (fun _ _ => ⟨rfl, e15, (by decide : 1 + 2 ≤ _), (by decide : 3 + 8 ≤ _)⟩)
  dsimp only [Pt.U, Pt.locs, Pt.cells, Pt.slots] at X17 l17 y17 z17 st17 hQ17
  subst l17 y17 z17
  obtain ⟨rfl, Nq17, Kq17, bl, wt, o1, o2, sz_bl, PB⟩ := hQ17
  have N17 := Fr.app N12 Nq17
  have E_ob := E_ob.keep Kq17
  have Z17 := Nat.le_trans Z16 Kq17.1
  obtain ⟨lt_bl0, lt_wt0⟩ := PB.lts
  obtain ⟨T18, h18, k18, X18, e18, E18, A18, st18⟩ := newP X17 hx hZ (hw _ (List.mem_of_getElem? (i := 10) rfl)) rfl (g := (mkF m 70 #[.val (.int a1), .val (.int a2), .val (.int a3), .val (.int a4), .val (.int a5), .val (.int a6), .val (.int (Int32.ofNat (nf.1 + 1))), .val (.int (Int32.ofNat xa.1)), .val (.int (Int32.ofNat xb.1)), .val (.int (Int32.ofNat xc.1)), .val (.int (Int32.ofNat xd.1)), .val (.int md), .val (.ref ob), .unset, .unset, .unset] [(.int (5 : Int32))])) rfl (hb hby at_70) rfl (by decide) (cap := 5) (by decide) (by decide) (by decide) (by decide)
  obtain ⟨sa, g18⟩ : ∃ z, z = T17.heap.size := ⟨_, rfl⟩
  rw [← g18] at A18 st18
  have lt_ob_sa : ob < sa := by rw [g18]; exact E_ob.lt
  have ne_ob_sa : ob ≠ sa := Nat.ne_of_lt lt_ob_sa
  have g_sa : n0 ≤ sa := by rw [g18]; exact Z17
  have E_ob := E_ob.ext E18
  have PB := PB.ext E18
  have Z19 := Nat.le_trans Z17 E18.1
  have V_sa : own_AF Z h18 sa .int 5 (fun _ => .int (0 : Int32)) := own_AF.new A18 (by decide) (by decide)
  have ne_bl_sa : bl ≠ sa := by rw [g18]; exact Nat.ne_of_lt lt_bl0
  have ne_wt_sa : wt ≠ sa := by rw [g18]; exact Nat.ne_of_lt lt_wt0
  have PT : own_T Z sa [] h18 := ⟨fun _ => 0, V_sa, fun i hi => absurd hi (Nat.not_lt_zero i)⟩
  have hall : ∀ y, y ∈ ([] : List Nat) → y < 4 := fun y hy => absurd hy (List.not_mem_nil)
  have r1 := (own_fins nf xa xb xc xd hxal hxbl hxcl hxdl).1
  obtain ⟨cq20, kq20, q20a, q20b, q20c⟩ := isOf hZ e18 E_ob
  obtain ⟨_, _, ⟨T20, L20, k20, n20⟩, -, X20, ⟨Lc20, hQ20, l20, y20, z20⟩, st20⟩ := X18.virtualBack hx (y := (⟨"com/example/wary_observer/waryobserver/equivalence/Splitters", "add", "(I)V"⟩ : MethodName)) (z := (⟨"com/example/wary_observer/waryobserver/equivalence/Splitters", "add", "(I)V"⟩ : MethodName)) hown (mvT hZ (hw _ (List.mem_of_getElem? (i := 16) rfl))) (mvT hZ (hw _ (List.mem_of_getElem? (i := 17) rfl))) (notFace_of_selects (args := #[]) (mvT hZ (hw _ (List.mem_of_getElem? (i := 19) rfl)))) (mvT hZ (hw _ (List.mem_of_getElem? (i := 19) rfl))) (mvT hZ (hw _ (List.mem_of_getElem? (i := 18) rfl))) (by decide) (backOf (W := 0) (own_rm3 l Z a0 hw [] ob xa.1 bl wt (nf.1 + 1) ([] : List Nat) h18 n0 Z19 g_ob o1 o2 hn4 PB hxal r1) hZ (hw _ (List.mem_of_getElem? (i := 20) rfl)) (hw _ (List.mem_of_getElem? (i := 3) rfl)) (by decide) (by decide)) q20a q20c (g := (mkF m 81 #[.val (.int a1), .val (.int a2), .val (.int a3), .val (.int a4), .val (.int a5), .val (.int a6), .val (.int (Int32.ofNat (nf.1 + 1))), .val (.int (Int32.ofNat xa.1)), .val (.int (Int32.ofNat xb.1)), .val (.int (Int32.ofNat xc.1)), .val (.int (Int32.ofNat xd.1)), .val (.int md), .val (.ref ob), .val (.ref sa), .val (.int (0 : Int32)), .unset] [(.int (Int32.ofNat xa.1)), (.ref ob)])) rfl (by rw [hml]; rfl) (Steps.refl _) (argsL := [(.int (Int32.ofNat xa.1))]) (rest := []) (lenOf own_pd0 rfl) rfl (by show 2 * 0 + _ ≤ _; exact Nat.le_of_eq rfl) (hb hby at_81) (fun _ _ => ⟨rfl, e18, (by decide : 4 + 0 ≤ _), (by decide : 16 + 0 ≤ _)⟩)
  dsimp only [Pt.U, Pt.locs, Pt.cells, Pt.slots] at X20 l20 y20 z20 st20 hQ20
  subst l20 y20 z20
  obtain ⟨rfl, Nq20, Kq20, PB⟩ := hQ20
  have N20 := Fr.app N17 Nq20
  have E_ob := E_ob.keep Kq20
  have PT := PT.keep Kq20 (ninS (Ne.symm ne_ob_sa) (ninS (Ne.symm ne_bl_sa) (ninS (Ne.symm ne_wt_sa) nin0)))
  have Z20 := Nat.le_trans Z19 Kq20.1
  obtain ⟨_, _, ⟨T21, L21, k21, n21⟩, -, X21, ⟨Lc21, hQ21, l21, y21, z21⟩, st21⟩ := Jvm.LawKit.callS X20 hx (y := (⟨"com/example/wary_observer/waryobserver/equivalence/SplittersAddPinLaw", "push", "([III)I"⟩ : MethodName)) hown (mvT hZ (hw _ (List.mem_of_getElem? (i := 23) rfl))) (mvT hZ (hw _ (List.mem_of_getElem? (i := 24) rfl))) (mvT hZ (hw _ (List.mem_of_getElem? (i := 25) rfl))) (mvT hZ (hw _ (List.mem_of_getElem? (i := 26) rfl))) (by decide) (backOf (W := 0) (own_rm4 l Z a0 hw [] sa ([] : List Nat) xa.1 T20.heap n0 Z20 g_sa PT (r1).1 xa.2 hall) hZ (hw _ (List.mem_of_getElem? (i := 26) rfl)) (hw _ (List.mem_of_getElem? (i := 25) rfl)) (by decide) (by decide)) (g := (mkF m 90 #[.val (.int a1), .val (.int a2), .val (.int a3), .val (.int a4), .val (.int a5), .val (.int a6), .val (.int (Int32.ofNat (nf.1 + 1))), .val (.int (Int32.ofNat xa.1)), .val (.int (Int32.ofNat xb.1)), .val (.int (Int32.ofNat xc.1)), .val (.int (Int32.ofNat xd.1)), .val (.int md), .val (.ref ob), .val (.ref sa), .val (.int (0 : Int32)), .unset] [(.int (Int32.ofNat xa.1)), (.int (0 : Int32)), (.ref sa)])) rfl (by rw [hml]; rfl) (argsL := [(.ref sa), (.int (0 : Int32)), (.int (Int32.ofNat xa.1))]) (rest := []) (lenOf own_pd1 rfl) rfl (by show 2 * 0 + _ ≤ _; exact Nat.le_of_eq rfl) (hb hby at_90) (fun _ _ => ⟨rfl, rfl, (by decide : 4 + 0 ≤ _), (by decide : 16 + 0 ≤ _)⟩)
  dsimp only [Pt.U, Pt.locs, Pt.cells, Pt.slots] at X21 l21 y21 z21 st21 hQ21
  subst l21 y21 z21
  obtain ⟨rfl, Nq21, Kq21, PT⟩ := hQ21
  have N21 := Fr.app N20 Nq21
  have E_ob := E_ob.keep Kq21
  have PB := PB.keep Kq21 (ninS ne_ob_sa nin0) (ninS ne_bl_sa nin0) (ninS ne_wt_sa nin0)
  have Z21 := Nat.le_trans Z20 Kq21.1
  have hall := own_all_add hall xa.2
  obtain ⟨q1_, he1⟩ : ∃ z : List Nat, z = (own_add ([] : List Nat) xa.1) := ⟨_, rfl⟩
  rw [← he1] at PB PT hall
  have pre22 : ∀ t, Steps p.tables e below (T21.setTop (mkF m 93 #[.val (.int a1), .val (.int a2), .val (.int a3), .val (.int a4), .val (.int a5), .val (.int a6), .val (.int (Int32.ofNat (nf.1 + 1))), .val (.int (Int32.ofNat xa.1)), .val (.int (Int32.ofNat xb.1)), .val (.int (Int32.ofNat xc.1)), .val (.int (Int32.ofNat xd.1)), .val (.int md), .val (.ref ob), .val (.ref sa), .val (.int (0 : Int32)), .unset] [(.int (Int32.ofNat (own_add ([] : List Nat) xa.1).length))])) t → Steps p.tables e below (s₁.setTop (entryFrame m #[(.int a1), (.int a2), (.int a3), (.int a4), (.int a5), (.int a6)] maxLocals)) t := by
    intro t kt
    refine pre12 t ?_
    show Steps p.tables e below (T12.setTop (mkF m 56 #[.val (.int a1), .val (.int a2), .val (.int a3), .val (.int a4), .val (.int a5), .val (.int a6), .val (.int (Int32.ofNat (nf.1 + 1))), .val (.int (Int32.ofNat xa.1)), .val (.int (Int32.ofNat xb.1)), .val (.int (Int32.ofNat xc.1)), .val (.int (Int32.ofNat xd.1)), .unset, .unset, .unset, .unset, .unset] [(.int md)])) _
    refine XS.istore X12.here hx rfl (hb hby at_56) rfl (l' := #[.val (.int a1), .val (.int a2), .val (.int a3), .val (.int a4), .val (.int a5), .val (.int a6), .val (.int (Int32.ofNat (nf.1 + 1))), .val (.int (Int32.ofNat xa.1)), .val (.int (Int32.ofNat xb.1)), .val (.int (Int32.ofNat xc.1)), .val (.int (Int32.ofNat xd.1)), .val (.int md), .unset, .unset, .unset, .unset]) rfl ?_
    show Steps p.tables e below (T12.setTop (mkF m 58 #[.val (.int a1), .val (.int a2), .val (.int a3), .val (.int a4), .val (.int a5), .val (.int a6), .val (.int (Int32.ofNat (nf.1 + 1))), .val (.int (Int32.ofNat xa.1)), .val (.int (Int32.ofNat xb.1)), .val (.int (Int32.ofNat xc.1)), .val (.int (Int32.ofNat xd.1)), .val (.int md), .unset, .unset, .unset, .unset] [])) _
    refine st15 _ ?_
    show Steps p.tables e below (T15.setTop (mkF m 61 #[.val (.int a1), .val (.int a2), .val (.int a3), .val (.int a4), .val (.int a5), .val (.int a6), .val (.int (Int32.ofNat (nf.1 + 1))), .val (.int (Int32.ofNat xa.1)), .val (.int (Int32.ofNat xb.1)), .val (.int (Int32.ofNat xc.1)), .val (.int (Int32.ofNat xd.1)), .val (.int md), .unset, .unset, .unset, .unset] [(.ref ob)])) _
    refine XS.dup X15.here hx rfl (hb hby at_61) rfl rfl ?_
    show Steps p.tables e below (T15.setTop (mkF m 62 #[.val (.int a1), .val (.int a2), .val (.int a3), .val (.int a4), .val (.int a5), .val (.int a6), .val (.int (Int32.ofNat (nf.1 + 1))), .val (.int (Int32.ofNat xa.1)), .val (.int (Int32.ofNat xb.1)), .val (.int (Int32.ofNat xc.1)), .val (.int (Int32.ofNat xd.1)), .val (.int md), .unset, .unset, .unset, .unset] [(.ref ob), (.ref ob)])) _
    refine XS.iload X15.here hx rfl (hb hby at_62) rfl ?_
    show Steps p.tables e below (T15.setTop (mkF m 64 #[.val (.int a1), .val (.int a2), .val (.int a3), .val (.int a4), .val (.int a5), .val (.int a6), .val (.int (Int32.ofNat (nf.1 + 1))), .val (.int (Int32.ofNat xa.1)), .val (.int (Int32.ofNat xb.1)), .val (.int (Int32.ofNat xc.1)), .val (.int (Int32.ofNat xd.1)), .val (.int md), .unset, .unset, .unset, .unset] [(.int (Int32.ofNat (nf.1 + 1))), (.ref ob), (.ref ob)])) _
    refine st17.trans ?_
    show Steps p.tables e below (T17.setTop (mkF m 67 #[.val (.int a1), .val (.int a2), .val (.int a3), .val (.int a4), .val (.int a5), .val (.int a6), .val (.int (Int32.ofNat (nf.1 + 1))), .val (.int (Int32.ofNat xa.1)), .val (.int (Int32.ofNat xb.1)), .val (.int (Int32.ofNat xc.1)), .val (.int (Int32.ofNat xd.1)), .val (.int md), .unset, .unset, .unset, .unset] [(.ref ob)])) _
    refine XS.astore X17.here hx rfl (hb hby at_67) rfl rfl (l' := #[.val (.int a1), .val (.int a2), .val (.int a3), .val (.int a4), .val (.int a5), .val (.int a6), .val (.int (Int32.ofNat (nf.1 + 1))), .val (.int (Int32.ofNat xa.1)), .val (.int (Int32.ofNat xb.1)), .val (.int (Int32.ofNat xc.1)), .val (.int (Int32.ofNat xd.1)), .val (.int md), .val (.ref ob), .unset, .unset, .unset]) rfl ?_
    show Steps p.tables e below (T17.setTop (mkF m 69 #[.val (.int a1), .val (.int a2), .val (.int a3), .val (.int a4), .val (.int a5), .val (.int a6), .val (.int (Int32.ofNat (nf.1 + 1))), .val (.int (Int32.ofNat xa.1)), .val (.int (Int32.ofNat xb.1)), .val (.int (Int32.ofNat xc.1)), .val (.int (Int32.ofNat xd.1)), .val (.int md), .val (.ref ob), .unset, .unset, .unset] [])) _
    refine XS.iconst X17.here hx rfl (hb hby at_69) ?_
    show Steps p.tables e below (T17.setTop (mkF m 70 #[.val (.int a1), .val (.int a2), .val (.int a3), .val (.int a4), .val (.int a5), .val (.int a6), .val (.int (Int32.ofNat (nf.1 + 1))), .val (.int (Int32.ofNat xa.1)), .val (.int (Int32.ofNat xb.1)), .val (.int (Int32.ofNat xc.1)), .val (.int (Int32.ofNat xd.1)), .val (.int md), .val (.ref ob), .unset, .unset, .unset] [(.int (5 : Int32))])) _
    refine st18 _ ?_
    show Steps p.tables e below (T18.setTop (mkF m 72 #[.val (.int a1), .val (.int a2), .val (.int a3), .val (.int a4), .val (.int a5), .val (.int a6), .val (.int (Int32.ofNat (nf.1 + 1))), .val (.int (Int32.ofNat xa.1)), .val (.int (Int32.ofNat xb.1)), .val (.int (Int32.ofNat xc.1)), .val (.int (Int32.ofNat xd.1)), .val (.int md), .val (.ref ob), .unset, .unset, .unset] [(.ref sa)])) _
    refine XS.astore X18.here hx rfl (hb hby at_72) rfl rfl (l' := #[.val (.int a1), .val (.int a2), .val (.int a3), .val (.int a4), .val (.int a5), .val (.int a6), .val (.int (Int32.ofNat (nf.1 + 1))), .val (.int (Int32.ofNat xa.1)), .val (.int (Int32.ofNat xb.1)), .val (.int (Int32.ofNat xc.1)), .val (.int (Int32.ofNat xd.1)), .val (.int md), .val (.ref ob), .val (.ref sa), .unset, .unset]) rfl ?_
    show Steps p.tables e below (T18.setTop (mkF m 74 #[.val (.int a1), .val (.int a2), .val (.int a3), .val (.int a4), .val (.int a5), .val (.int a6), .val (.int (Int32.ofNat (nf.1 + 1))), .val (.int (Int32.ofNat xa.1)), .val (.int (Int32.ofNat xb.1)), .val (.int (Int32.ofNat xc.1)), .val (.int (Int32.ofNat xd.1)), .val (.int md), .val (.ref ob), .val (.ref sa), .unset, .unset] [])) _
    refine XS.iconst X18.here hx rfl (hb hby at_74) ?_
    show Steps p.tables e below (T18.setTop (mkF m 75 #[.val (.int a1), .val (.int a2), .val (.int a3), .val (.int a4), .val (.int a5), .val (.int a6), .val (.int (Int32.ofNat (nf.1 + 1))), .val (.int (Int32.ofNat xa.1)), .val (.int (Int32.ofNat xb.1)), .val (.int (Int32.ofNat xc.1)), .val (.int (Int32.ofNat xd.1)), .val (.int md), .val (.ref ob), .val (.ref sa), .unset, .unset] [(.int (0 : Int32))])) _
    refine XS.istore X18.here hx rfl (hb hby at_75) rfl (l' := #[.val (.int a1), .val (.int a2), .val (.int a3), .val (.int a4), .val (.int a5), .val (.int a6), .val (.int (Int32.ofNat (nf.1 + 1))), .val (.int (Int32.ofNat xa.1)), .val (.int (Int32.ofNat xb.1)), .val (.int (Int32.ofNat xc.1)), .val (.int (Int32.ofNat xd.1)), .val (.int md), .val (.ref ob), .val (.ref sa), .val (.int (0 : Int32)), .unset]) rfl ?_
    show Steps p.tables e below (T18.setTop (mkF m 77 #[.val (.int a1), .val (.int a2), .val (.int a3), .val (.int a4), .val (.int a5), .val (.int a6), .val (.int (Int32.ofNat (nf.1 + 1))), .val (.int (Int32.ofNat xa.1)), .val (.int (Int32.ofNat xb.1)), .val (.int (Int32.ofNat xc.1)), .val (.int (Int32.ofNat xd.1)), .val (.int md), .val (.ref ob), .val (.ref sa), .val (.int (0 : Int32)), .unset] [])) _
    refine XS.aload X18.here hx rfl (hb hby at_77) rfl rfl ?_
    show Steps p.tables e below (T18.setTop (mkF m 79 #[.val (.int a1), .val (.int a2), .val (.int a3), .val (.int a4), .val (.int a5), .val (.int a6), .val (.int (Int32.ofNat (nf.1 + 1))), .val (.int (Int32.ofNat xa.1)), .val (.int (Int32.ofNat xb.1)), .val (.int (Int32.ofNat xc.1)), .val (.int (Int32.ofNat xd.1)), .val (.int md), .val (.ref ob), .val (.ref sa), .val (.int (0 : Int32)), .unset] [(.ref ob)])) _
    refine XS.iload X18.here hx rfl (hb hby at_79) rfl ?_
    show Steps p.tables e below (T18.setTop (mkF m 81 #[.val (.int a1), .val (.int a2), .val (.int a3), .val (.int a4), .val (.int a5), .val (.int a6), .val (.int (Int32.ofNat (nf.1 + 1))), .val (.int (Int32.ofNat xa.1)), .val (.int (Int32.ofNat xb.1)), .val (.int (Int32.ofNat xc.1)), .val (.int (Int32.ofNat xd.1)), .val (.int md), .val (.ref ob), .val (.ref sa), .val (.int (0 : Int32)), .unset] [(.int (Int32.ofNat xa.1)), (.ref ob)])) _
    refine st20.trans ?_
    show Steps p.tables e below (T20.setTop (mkF m 84 #[.val (.int a1), .val (.int a2), .val (.int a3), .val (.int a4), .val (.int a5), .val (.int a6), .val (.int (Int32.ofNat (nf.1 + 1))), .val (.int (Int32.ofNat xa.1)), .val (.int (Int32.ofNat xb.1)), .val (.int (Int32.ofNat xc.1)), .val (.int (Int32.ofNat xd.1)), .val (.int md), .val (.ref ob), .val (.ref sa), .val (.int (0 : Int32)), .unset] [])) _
    refine XS.aload X20.here hx rfl (hb hby at_84) rfl rfl ?_
    show Steps p.tables e below (T20.setTop (mkF m 86 #[.val (.int a1), .val (.int a2), .val (.int a3), .val (.int a4), .val (.int a5), .val (.int a6), .val (.int (Int32.ofNat (nf.1 + 1))), .val (.int (Int32.ofNat xa.1)), .val (.int (Int32.ofNat xb.1)), .val (.int (Int32.ofNat xc.1)), .val (.int (Int32.ofNat xd.1)), .val (.int md), .val (.ref ob), .val (.ref sa), .val (.int (0 : Int32)), .unset] [(.ref sa)])) _
    refine XS.iload X20.here hx rfl (hb hby at_86) rfl ?_
    show Steps p.tables e below (T20.setTop (mkF m 88 #[.val (.int a1), .val (.int a2), .val (.int a3), .val (.int a4), .val (.int a5), .val (.int a6), .val (.int (Int32.ofNat (nf.1 + 1))), .val (.int (Int32.ofNat xa.1)), .val (.int (Int32.ofNat xb.1)), .val (.int (Int32.ofNat xc.1)), .val (.int (Int32.ofNat xd.1)), .val (.int md), .val (.ref ob), .val (.ref sa), .val (.int (0 : Int32)), .unset] [(.int (0 : Int32)), (.ref sa)])) _
    refine XS.iload X20.here hx rfl (hb hby at_88) rfl ?_
    show Steps p.tables e below (T20.setTop (mkF m 90 #[.val (.int a1), .val (.int a2), .val (.int a3), .val (.int a4), .val (.int a5), .val (.int a6), .val (.int (Int32.ofNat (nf.1 + 1))), .val (.int (Int32.ofNat xa.1)), .val (.int (Int32.ofNat xb.1)), .val (.int (Int32.ofNat xc.1)), .val (.int (Int32.ofNat xd.1)), .val (.int md), .val (.ref ob), .val (.ref sa), .val (.int (0 : Int32)), .unset] [(.int (Int32.ofNat xa.1)), (.int (0 : Int32)), (.ref sa)])) _
    refine st21 _ ?_
    exact kt
  have pre23 : ∀ t, Steps p.tables e below (T21.setTop (mkF m 93 #[.val (.int a1), .val (.int a2), .val (.int a3), .val (.int a4), .val (.int a5), .val (.int a6), .val (.int (Int32.ofNat (nf.1 + 1))), .val (.int (Int32.ofNat xa.1)), .val (.int (Int32.ofNat xb.1)), .val (.int (Int32.ofNat xc.1)), .val (.int (Int32.ofNat xd.1)), .val (.int md), .val (.ref ob), .val (.ref sa), .val (.int (0 : Int32)), .unset] [(.int (Int32.ofNat q1_.length))])) t → Steps p.tables e below (s₁.setTop (entryFrame m #[(.int a1), (.int a2), (.int a3), (.int a4), (.int a5), (.int a6)] maxLocals)) t := by rw [(by rw [he1] : (Int32.ofNat q1_.length) = (Int32.ofNat (own_add ([] : List Nat) xa.1).length))]; exact pre22
  have r2 : own_room (nf.1 + 1) q1_ xb.1 := by rw [he1]; exact (own_fins nf xa xb xc xd hxal hxbl hxcl hxdl).2.1
  obtain ⟨cq24, kq24, q24a, q24b, q24c⟩ := isOf hZ rfl E_ob
  obtain ⟨_, _, ⟨T24, L24, k24, n24⟩, -, X24, ⟨Lc24, hQ24, l24, y24, z24⟩, st24⟩ := X21.virtualBack hx (y := (⟨"com/example/wary_observer/waryobserver/equivalence/Splitters", "add", "(I)V"⟩ : MethodName)) (z := (⟨"com/example/wary_observer/waryobserver/equivalence/Splitters", "add", "(I)V"⟩ : MethodName)) hown (mvT hZ (hw _ (List.mem_of_getElem? (i := 16) rfl))) (mvT hZ (hw _ (List.mem_of_getElem? (i := 17) rfl))) (notFace_of_selects (args := #[]) (mvT hZ (hw _ (List.mem_of_getElem? (i := 19) rfl)))) (mvT hZ (hw _ (List.mem_of_getElem? (i := 19) rfl))) (mvT hZ (hw _ (List.mem_of_getElem? (i := 18) rfl))) (by decide) (backOf (W := 0) (own_rm3 l Z a0 hw [] ob xb.1 bl wt (nf.1 + 1) q1_ T21.heap n0 Z21 g_ob o1 o2 hn4 PB hxbl r2) hZ (hw _ (List.mem_of_getElem? (i := 20) rfl)) (hw _ (List.mem_of_getElem? (i := 3) rfl)) (by decide) (by decide)) q24a q24c (g := (mkF m 99 #[.val (.int a1), .val (.int a2), .val (.int a3), .val (.int a4), .val (.int a5), .val (.int a6), .val (.int (Int32.ofNat (nf.1 + 1))), .val (.int (Int32.ofNat xa.1)), .val (.int (Int32.ofNat xb.1)), .val (.int (Int32.ofNat xc.1)), .val (.int (Int32.ofNat xd.1)), .val (.int md), .val (.ref ob), .val (.ref sa), .val (.int (Int32.ofNat q1_.length)), .unset] [(.int (Int32.ofNat xb.1)), (.ref ob)])) rfl (by rw [hml]; rfl) (Steps.refl _) (argsL := [(.int (Int32.ofNat xb.1))]) (rest := []) (lenOf own_pd0 rfl) rfl (by show 2 * 0 + _ ≤ _; exact Nat.le_of_eq rfl) (hb hby at_99) (fun _ _ => ⟨rfl, rfl, (by decide : 4 + 0 ≤ _), (by decide : 16 + 0 ≤ _)⟩)
  dsimp only [Pt.U, Pt.locs, Pt.cells, Pt.slots] at X24 l24 y24 z24 st24 hQ24
  subst l24 y24 z24
  obtain ⟨rfl, Nq24, Kq24, PB⟩ := hQ24
  have N24 := Fr.app N21 Nq24
  have E_ob := E_ob.keep Kq24
  have PT := PT.keep Kq24 (ninS (Ne.symm ne_ob_sa) (ninS (Ne.symm ne_bl_sa) (ninS (Ne.symm ne_wt_sa) nin0)))
  have Z24 := Nat.le_trans Z21 Kq24.1
  obtain ⟨_, _, ⟨T25, L25, k25, n25⟩, -, X25, ⟨Lc25, hQ25, l25, y25, z25⟩, st25⟩ := Jvm.LawKit.callS X24 hx (y := (⟨"com/example/wary_observer/waryobserver/equivalence/SplittersAddPinLaw", "push", "([III)I"⟩ : MethodName)) hown (mvT hZ (hw _ (List.mem_of_getElem? (i := 23) rfl))) (mvT hZ (hw _ (List.mem_of_getElem? (i := 24) rfl))) (mvT hZ (hw _ (List.mem_of_getElem? (i := 25) rfl))) (mvT hZ (hw _ (List.mem_of_getElem? (i := 26) rfl))) (by decide) (backOf (W := 0) (own_rm4 l Z a0 hw [] sa q1_ xb.1 T24.heap n0 Z24 g_sa PT (r2).1 xb.2 hall) hZ (hw _ (List.mem_of_getElem? (i := 26) rfl)) (hw _ (List.mem_of_getElem? (i := 25) rfl)) (by decide) (by decide)) (g := (mkF m 108 #[.val (.int a1), .val (.int a2), .val (.int a3), .val (.int a4), .val (.int a5), .val (.int a6), .val (.int (Int32.ofNat (nf.1 + 1))), .val (.int (Int32.ofNat xa.1)), .val (.int (Int32.ofNat xb.1)), .val (.int (Int32.ofNat xc.1)), .val (.int (Int32.ofNat xd.1)), .val (.int md), .val (.ref ob), .val (.ref sa), .val (.int (Int32.ofNat q1_.length)), .unset] [(.int (Int32.ofNat xb.1)), (.int (Int32.ofNat q1_.length)), (.ref sa)])) rfl (by rw [hml]; rfl) (argsL := [(.ref sa), (.int (Int32.ofNat q1_.length)), (.int (Int32.ofNat xb.1))]) (rest := []) (lenOf own_pd1 rfl) rfl (by show 2 * 0 + _ ≤ _; exact Nat.le_of_eq rfl) (hb hby at_108) (fun _ _ => ⟨rfl, rfl, (by decide : 4 + 0 ≤ _), (by decide : 16 + 0 ≤ _)⟩)
  dsimp only [Pt.U, Pt.locs, Pt.cells, Pt.slots] at X25 l25 y25 z25 st25 hQ25
  subst l25 y25 z25
  obtain ⟨rfl, Nq25, Kq25, PT⟩ := hQ25
  have N25 := Fr.app N24 Nq25
  have E_ob := E_ob.keep Kq25
  have PB := PB.keep Kq25 (ninS ne_ob_sa nin0) (ninS ne_bl_sa nin0) (ninS ne_wt_sa nin0)
  have Z25 := Nat.le_trans Z24 Kq25.1
  have hall := own_all_add hall xb.2
  obtain ⟨q2_, he2⟩ : ∃ z : List Nat, z = (own_add q1_ xb.1) := ⟨_, rfl⟩
  rw [← he2] at PB PT hall
  have pre26 : ∀ t, Steps p.tables e below (T25.setTop (mkF m 111 #[.val (.int a1), .val (.int a2), .val (.int a3), .val (.int a4), .val (.int a5), .val (.int a6), .val (.int (Int32.ofNat (nf.1 + 1))), .val (.int (Int32.ofNat xa.1)), .val (.int (Int32.ofNat xb.1)), .val (.int (Int32.ofNat xc.1)), .val (.int (Int32.ofNat xd.1)), .val (.int md), .val (.ref ob), .val (.ref sa), .val (.int (Int32.ofNat q1_.length)), .unset] [(.int (Int32.ofNat (own_add q1_ xb.1).length))])) t → Steps p.tables e below (s₁.setTop (entryFrame m #[(.int a1), (.int a2), (.int a3), (.int a4), (.int a5), (.int a6)] maxLocals)) t := by
    intro t kt
    refine pre23 t ?_
    show Steps p.tables e below (T21.setTop (mkF m 93 #[.val (.int a1), .val (.int a2), .val (.int a3), .val (.int a4), .val (.int a5), .val (.int a6), .val (.int (Int32.ofNat (nf.1 + 1))), .val (.int (Int32.ofNat xa.1)), .val (.int (Int32.ofNat xb.1)), .val (.int (Int32.ofNat xc.1)), .val (.int (Int32.ofNat xd.1)), .val (.int md), .val (.ref ob), .val (.ref sa), .val (.int (0 : Int32)), .unset] [(.int (Int32.ofNat q1_.length))])) _
    refine XS.istore X21.here hx rfl (hb hby at_93) rfl (l' := #[.val (.int a1), .val (.int a2), .val (.int a3), .val (.int a4), .val (.int a5), .val (.int a6), .val (.int (Int32.ofNat (nf.1 + 1))), .val (.int (Int32.ofNat xa.1)), .val (.int (Int32.ofNat xb.1)), .val (.int (Int32.ofNat xc.1)), .val (.int (Int32.ofNat xd.1)), .val (.int md), .val (.ref ob), .val (.ref sa), .val (.int (Int32.ofNat q1_.length)), .unset]) rfl ?_
    show Steps p.tables e below (T21.setTop (mkF m 95 #[.val (.int a1), .val (.int a2), .val (.int a3), .val (.int a4), .val (.int a5), .val (.int a6), .val (.int (Int32.ofNat (nf.1 + 1))), .val (.int (Int32.ofNat xa.1)), .val (.int (Int32.ofNat xb.1)), .val (.int (Int32.ofNat xc.1)), .val (.int (Int32.ofNat xd.1)), .val (.int md), .val (.ref ob), .val (.ref sa), .val (.int (Int32.ofNat q1_.length)), .unset] [])) _
    refine XS.aload X21.here hx rfl (hb hby at_95) rfl rfl ?_
    show Steps p.tables e below (T21.setTop (mkF m 97 #[.val (.int a1), .val (.int a2), .val (.int a3), .val (.int a4), .val (.int a5), .val (.int a6), .val (.int (Int32.ofNat (nf.1 + 1))), .val (.int (Int32.ofNat xa.1)), .val (.int (Int32.ofNat xb.1)), .val (.int (Int32.ofNat xc.1)), .val (.int (Int32.ofNat xd.1)), .val (.int md), .val (.ref ob), .val (.ref sa), .val (.int (Int32.ofNat q1_.length)), .unset] [(.ref ob)])) _
    refine XS.iload X21.here hx rfl (hb hby at_97) rfl ?_
    show Steps p.tables e below (T21.setTop (mkF m 99 #[.val (.int a1), .val (.int a2), .val (.int a3), .val (.int a4), .val (.int a5), .val (.int a6), .val (.int (Int32.ofNat (nf.1 + 1))), .val (.int (Int32.ofNat xa.1)), .val (.int (Int32.ofNat xb.1)), .val (.int (Int32.ofNat xc.1)), .val (.int (Int32.ofNat xd.1)), .val (.int md), .val (.ref ob), .val (.ref sa), .val (.int (Int32.ofNat q1_.length)), .unset] [(.int (Int32.ofNat xb.1)), (.ref ob)])) _
    refine st24.trans ?_
    show Steps p.tables e below (T24.setTop (mkF m 102 #[.val (.int a1), .val (.int a2), .val (.int a3), .val (.int a4), .val (.int a5), .val (.int a6), .val (.int (Int32.ofNat (nf.1 + 1))), .val (.int (Int32.ofNat xa.1)), .val (.int (Int32.ofNat xb.1)), .val (.int (Int32.ofNat xc.1)), .val (.int (Int32.ofNat xd.1)), .val (.int md), .val (.ref ob), .val (.ref sa), .val (.int (Int32.ofNat q1_.length)), .unset] [])) _
    refine XS.aload X24.here hx rfl (hb hby at_102) rfl rfl ?_
    show Steps p.tables e below (T24.setTop (mkF m 104 #[.val (.int a1), .val (.int a2), .val (.int a3), .val (.int a4), .val (.int a5), .val (.int a6), .val (.int (Int32.ofNat (nf.1 + 1))), .val (.int (Int32.ofNat xa.1)), .val (.int (Int32.ofNat xb.1)), .val (.int (Int32.ofNat xc.1)), .val (.int (Int32.ofNat xd.1)), .val (.int md), .val (.ref ob), .val (.ref sa), .val (.int (Int32.ofNat q1_.length)), .unset] [(.ref sa)])) _
    refine XS.iload X24.here hx rfl (hb hby at_104) rfl ?_
    show Steps p.tables e below (T24.setTop (mkF m 106 #[.val (.int a1), .val (.int a2), .val (.int a3), .val (.int a4), .val (.int a5), .val (.int a6), .val (.int (Int32.ofNat (nf.1 + 1))), .val (.int (Int32.ofNat xa.1)), .val (.int (Int32.ofNat xb.1)), .val (.int (Int32.ofNat xc.1)), .val (.int (Int32.ofNat xd.1)), .val (.int md), .val (.ref ob), .val (.ref sa), .val (.int (Int32.ofNat q1_.length)), .unset] [(.int (Int32.ofNat q1_.length)), (.ref sa)])) _
    refine XS.iload X24.here hx rfl (hb hby at_106) rfl ?_
    show Steps p.tables e below (T24.setTop (mkF m 108 #[.val (.int a1), .val (.int a2), .val (.int a3), .val (.int a4), .val (.int a5), .val (.int a6), .val (.int (Int32.ofNat (nf.1 + 1))), .val (.int (Int32.ofNat xa.1)), .val (.int (Int32.ofNat xb.1)), .val (.int (Int32.ofNat xc.1)), .val (.int (Int32.ofNat xd.1)), .val (.int md), .val (.ref ob), .val (.ref sa), .val (.int (Int32.ofNat q1_.length)), .unset] [(.int (Int32.ofNat xb.1)), (.int (Int32.ofNat q1_.length)), (.ref sa)])) _
    refine st25 _ ?_
    exact kt
  have pre27 : ∀ t, Steps p.tables e below (T25.setTop (mkF m 111 #[.val (.int a1), .val (.int a2), .val (.int a3), .val (.int a4), .val (.int a5), .val (.int a6), .val (.int (Int32.ofNat (nf.1 + 1))), .val (.int (Int32.ofNat xa.1)), .val (.int (Int32.ofNat xb.1)), .val (.int (Int32.ofNat xc.1)), .val (.int (Int32.ofNat xd.1)), .val (.int md), .val (.ref ob), .val (.ref sa), .val (.int (Int32.ofNat q1_.length)), .unset] [(.int (Int32.ofNat q2_.length))])) t → Steps p.tables e below (s₁.setTop (entryFrame m #[(.int a1), (.int a2), (.int a3), (.int a4), (.int a5), (.int a6)] maxLocals)) t := by rw [(by rw [he2] : (Int32.ofNat q2_.length) = (Int32.ofNat (own_add q1_ xb.1).length))]; exact pre26
  have r3 : own_room (nf.1 + 1) q2_ xc.1 := by rw [he2, he1]; exact (own_fins nf xa xb xc xd hxal hxbl hxcl hxdl).2.2.1
  obtain ⟨cq28, kq28, q28a, q28b, q28c⟩ := isOf hZ rfl E_ob
  obtain ⟨_, _, ⟨T28, L28, k28, n28⟩, -, X28, ⟨Lc28, hQ28, l28, y28, z28⟩, st28⟩ := X25.virtualBack hx (y := (⟨"com/example/wary_observer/waryobserver/equivalence/Splitters", "add", "(I)V"⟩ : MethodName)) (z := (⟨"com/example/wary_observer/waryobserver/equivalence/Splitters", "add", "(I)V"⟩ : MethodName)) hown (mvT hZ (hw _ (List.mem_of_getElem? (i := 16) rfl))) (mvT hZ (hw _ (List.mem_of_getElem? (i := 17) rfl))) (notFace_of_selects (args := #[]) (mvT hZ (hw _ (List.mem_of_getElem? (i := 19) rfl)))) (mvT hZ (hw _ (List.mem_of_getElem? (i := 19) rfl))) (mvT hZ (hw _ (List.mem_of_getElem? (i := 18) rfl))) (by decide) (backOf (W := 0) (own_rm3 l Z a0 hw [] ob xc.1 bl wt (nf.1 + 1) q2_ T25.heap n0 Z25 g_ob o1 o2 hn4 PB hxcl r3) hZ (hw _ (List.mem_of_getElem? (i := 20) rfl)) (hw _ (List.mem_of_getElem? (i := 3) rfl)) (by decide) (by decide)) q28a q28c (g := (mkF m 117 #[.val (.int a1), .val (.int a2), .val (.int a3), .val (.int a4), .val (.int a5), .val (.int a6), .val (.int (Int32.ofNat (nf.1 + 1))), .val (.int (Int32.ofNat xa.1)), .val (.int (Int32.ofNat xb.1)), .val (.int (Int32.ofNat xc.1)), .val (.int (Int32.ofNat xd.1)), .val (.int md), .val (.ref ob), .val (.ref sa), .val (.int (Int32.ofNat q2_.length)), .unset] [(.int (Int32.ofNat xc.1)), (.ref ob)])) rfl (by rw [hml]; rfl) (Steps.refl _) (argsL := [(.int (Int32.ofNat xc.1))]) (rest := []) (lenOf own_pd0 rfl) rfl (by show 2 * 0 + _ ≤ _; exact Nat.le_of_eq rfl) (hb hby at_117) (fun _ _ => ⟨rfl, rfl, (by decide : 4 + 0 ≤ _), (by decide : 16 + 0 ≤ _)⟩)
  dsimp only [Pt.U, Pt.locs, Pt.cells, Pt.slots] at X28 l28 y28 z28 st28 hQ28
  subst l28 y28 z28
  obtain ⟨rfl, Nq28, Kq28, PB⟩ := hQ28
  have N28 := Fr.app N25 Nq28
  have E_ob := E_ob.keep Kq28
  have PT := PT.keep Kq28 (ninS (Ne.symm ne_ob_sa) (ninS (Ne.symm ne_bl_sa) (ninS (Ne.symm ne_wt_sa) nin0)))
  have Z28 := Nat.le_trans Z25 Kq28.1
  obtain ⟨_, _, ⟨T29, L29, k29, n29⟩, -, X29, ⟨Lc29, hQ29, l29, y29, z29⟩, st29⟩ := Jvm.LawKit.callS X28 hx (y := (⟨"com/example/wary_observer/waryobserver/equivalence/SplittersAddPinLaw", "push", "([III)I"⟩ : MethodName)) hown (mvT hZ (hw _ (List.mem_of_getElem? (i := 23) rfl))) (mvT hZ (hw _ (List.mem_of_getElem? (i := 24) rfl))) (mvT hZ (hw _ (List.mem_of_getElem? (i := 25) rfl))) (mvT hZ (hw _ (List.mem_of_getElem? (i := 26) rfl))) (by decide) (backOf (W := 0) (own_rm4 l Z a0 hw [] sa q2_ xc.1 T28.heap n0 Z28 g_sa PT (r3).1 xc.2 hall) hZ (hw _ (List.mem_of_getElem? (i := 26) rfl)) (hw _ (List.mem_of_getElem? (i := 25) rfl)) (by decide) (by decide)) (g := (mkF m 126 #[.val (.int a1), .val (.int a2), .val (.int a3), .val (.int a4), .val (.int a5), .val (.int a6), .val (.int (Int32.ofNat (nf.1 + 1))), .val (.int (Int32.ofNat xa.1)), .val (.int (Int32.ofNat xb.1)), .val (.int (Int32.ofNat xc.1)), .val (.int (Int32.ofNat xd.1)), .val (.int md), .val (.ref ob), .val (.ref sa), .val (.int (Int32.ofNat q2_.length)), .unset] [(.int (Int32.ofNat xc.1)), (.int (Int32.ofNat q2_.length)), (.ref sa)])) rfl (by rw [hml]; rfl) (argsL := [(.ref sa), (.int (Int32.ofNat q2_.length)), (.int (Int32.ofNat xc.1))]) (rest := []) (lenOf own_pd1 rfl) rfl (by show 2 * 0 + _ ≤ _; exact Nat.le_of_eq rfl) (hb hby at_126) (fun _ _ => ⟨rfl, rfl, (by decide : 4 + 0 ≤ _), (by decide : 16 + 0 ≤ _)⟩)
  dsimp only [Pt.U, Pt.locs, Pt.cells, Pt.slots] at X29 l29 y29 z29 st29 hQ29
  subst l29 y29 z29
  obtain ⟨rfl, Nq29, Kq29, PT⟩ := hQ29
  have N29 := Fr.app N28 Nq29
  have E_ob := E_ob.keep Kq29
  have PB := PB.keep Kq29 (ninS ne_ob_sa nin0) (ninS ne_bl_sa nin0) (ninS ne_wt_sa nin0)
  have Z29 := Nat.le_trans Z28 Kq29.1
  have hall := own_all_add hall xc.2
  obtain ⟨q3_, he3⟩ : ∃ z : List Nat, z = (own_add q2_ xc.1) := ⟨_, rfl⟩
  rw [← he3] at PB PT hall
  have pre30 : ∀ t, Steps p.tables e below (T29.setTop (mkF m 129 #[.val (.int a1), .val (.int a2), .val (.int a3), .val (.int a4), .val (.int a5), .val (.int a6), .val (.int (Int32.ofNat (nf.1 + 1))), .val (.int (Int32.ofNat xa.1)), .val (.int (Int32.ofNat xb.1)), .val (.int (Int32.ofNat xc.1)), .val (.int (Int32.ofNat xd.1)), .val (.int md), .val (.ref ob), .val (.ref sa), .val (.int (Int32.ofNat q2_.length)), .unset] [(.int (Int32.ofNat (own_add q2_ xc.1).length))])) t → Steps p.tables e below (s₁.setTop (entryFrame m #[(.int a1), (.int a2), (.int a3), (.int a4), (.int a5), (.int a6)] maxLocals)) t := by
    intro t kt
    refine pre27 t ?_
    show Steps p.tables e below (T25.setTop (mkF m 111 #[.val (.int a1), .val (.int a2), .val (.int a3), .val (.int a4), .val (.int a5), .val (.int a6), .val (.int (Int32.ofNat (nf.1 + 1))), .val (.int (Int32.ofNat xa.1)), .val (.int (Int32.ofNat xb.1)), .val (.int (Int32.ofNat xc.1)), .val (.int (Int32.ofNat xd.1)), .val (.int md), .val (.ref ob), .val (.ref sa), .val (.int (Int32.ofNat q1_.length)), .unset] [(.int (Int32.ofNat q2_.length))])) _
    refine XS.istore X25.here hx rfl (hb hby at_111) rfl (l' := #[.val (.int a1), .val (.int a2), .val (.int a3), .val (.int a4), .val (.int a5), .val (.int a6), .val (.int (Int32.ofNat (nf.1 + 1))), .val (.int (Int32.ofNat xa.1)), .val (.int (Int32.ofNat xb.1)), .val (.int (Int32.ofNat xc.1)), .val (.int (Int32.ofNat xd.1)), .val (.int md), .val (.ref ob), .val (.ref sa), .val (.int (Int32.ofNat q2_.length)), .unset]) rfl ?_
    show Steps p.tables e below (T25.setTop (mkF m 113 #[.val (.int a1), .val (.int a2), .val (.int a3), .val (.int a4), .val (.int a5), .val (.int a6), .val (.int (Int32.ofNat (nf.1 + 1))), .val (.int (Int32.ofNat xa.1)), .val (.int (Int32.ofNat xb.1)), .val (.int (Int32.ofNat xc.1)), .val (.int (Int32.ofNat xd.1)), .val (.int md), .val (.ref ob), .val (.ref sa), .val (.int (Int32.ofNat q2_.length)), .unset] [])) _
    refine XS.aload X25.here hx rfl (hb hby at_113) rfl rfl ?_
    show Steps p.tables e below (T25.setTop (mkF m 115 #[.val (.int a1), .val (.int a2), .val (.int a3), .val (.int a4), .val (.int a5), .val (.int a6), .val (.int (Int32.ofNat (nf.1 + 1))), .val (.int (Int32.ofNat xa.1)), .val (.int (Int32.ofNat xb.1)), .val (.int (Int32.ofNat xc.1)), .val (.int (Int32.ofNat xd.1)), .val (.int md), .val (.ref ob), .val (.ref sa), .val (.int (Int32.ofNat q2_.length)), .unset] [(.ref ob)])) _
    refine XS.iload X25.here hx rfl (hb hby at_115) rfl ?_
    show Steps p.tables e below (T25.setTop (mkF m 117 #[.val (.int a1), .val (.int a2), .val (.int a3), .val (.int a4), .val (.int a5), .val (.int a6), .val (.int (Int32.ofNat (nf.1 + 1))), .val (.int (Int32.ofNat xa.1)), .val (.int (Int32.ofNat xb.1)), .val (.int (Int32.ofNat xc.1)), .val (.int (Int32.ofNat xd.1)), .val (.int md), .val (.ref ob), .val (.ref sa), .val (.int (Int32.ofNat q2_.length)), .unset] [(.int (Int32.ofNat xc.1)), (.ref ob)])) _
    refine st28.trans ?_
    show Steps p.tables e below (T28.setTop (mkF m 120 #[.val (.int a1), .val (.int a2), .val (.int a3), .val (.int a4), .val (.int a5), .val (.int a6), .val (.int (Int32.ofNat (nf.1 + 1))), .val (.int (Int32.ofNat xa.1)), .val (.int (Int32.ofNat xb.1)), .val (.int (Int32.ofNat xc.1)), .val (.int (Int32.ofNat xd.1)), .val (.int md), .val (.ref ob), .val (.ref sa), .val (.int (Int32.ofNat q2_.length)), .unset] [])) _
    refine XS.aload X28.here hx rfl (hb hby at_120) rfl rfl ?_
    show Steps p.tables e below (T28.setTop (mkF m 122 #[.val (.int a1), .val (.int a2), .val (.int a3), .val (.int a4), .val (.int a5), .val (.int a6), .val (.int (Int32.ofNat (nf.1 + 1))), .val (.int (Int32.ofNat xa.1)), .val (.int (Int32.ofNat xb.1)), .val (.int (Int32.ofNat xc.1)), .val (.int (Int32.ofNat xd.1)), .val (.int md), .val (.ref ob), .val (.ref sa), .val (.int (Int32.ofNat q2_.length)), .unset] [(.ref sa)])) _
    refine XS.iload X28.here hx rfl (hb hby at_122) rfl ?_
    show Steps p.tables e below (T28.setTop (mkF m 124 #[.val (.int a1), .val (.int a2), .val (.int a3), .val (.int a4), .val (.int a5), .val (.int a6), .val (.int (Int32.ofNat (nf.1 + 1))), .val (.int (Int32.ofNat xa.1)), .val (.int (Int32.ofNat xb.1)), .val (.int (Int32.ofNat xc.1)), .val (.int (Int32.ofNat xd.1)), .val (.int md), .val (.ref ob), .val (.ref sa), .val (.int (Int32.ofNat q2_.length)), .unset] [(.int (Int32.ofNat q2_.length)), (.ref sa)])) _
    refine XS.iload X28.here hx rfl (hb hby at_124) rfl ?_
    show Steps p.tables e below (T28.setTop (mkF m 126 #[.val (.int a1), .val (.int a2), .val (.int a3), .val (.int a4), .val (.int a5), .val (.int a6), .val (.int (Int32.ofNat (nf.1 + 1))), .val (.int (Int32.ofNat xa.1)), .val (.int (Int32.ofNat xb.1)), .val (.int (Int32.ofNat xc.1)), .val (.int (Int32.ofNat xd.1)), .val (.int md), .val (.ref ob), .val (.ref sa), .val (.int (Int32.ofNat q2_.length)), .unset] [(.int (Int32.ofNat xc.1)), (.int (Int32.ofNat q2_.length)), (.ref sa)])) _
    refine st29 _ ?_
    exact kt
  have pre31 : ∀ t, Steps p.tables e below (T29.setTop (mkF m 129 #[.val (.int a1), .val (.int a2), .val (.int a3), .val (.int a4), .val (.int a5), .val (.int a6), .val (.int (Int32.ofNat (nf.1 + 1))), .val (.int (Int32.ofNat xa.1)), .val (.int (Int32.ofNat xb.1)), .val (.int (Int32.ofNat xc.1)), .val (.int (Int32.ofNat xd.1)), .val (.int md), .val (.ref ob), .val (.ref sa), .val (.int (Int32.ofNat q2_.length)), .unset] [(.int (Int32.ofNat q3_.length))])) t → Steps p.tables e below (s₁.setTop (entryFrame m #[(.int a1), (.int a2), (.int a3), (.int a4), (.int a5), (.int a6)] maxLocals)) t := by rw [(by rw [he3] : (Int32.ofNat q3_.length) = (Int32.ofNat (own_add q2_ xc.1).length))]; exact pre30
  have z3 : q3_ ≠ [] := by rw [he3, he2, he1]; exact (own_fins nf xa xb xc xd hxal hxbl hxcl hxdl).2.2.2.1.1
  have t3 : own_tok (nf.1 + 1) q3_ := by rw [he3, he2, he1]; exact (own_fins nf xa xb xc xd hxal hxbl hxcl hxdl).2.2.2.1.2.1
  have r4 : own_room (nf.1 + 1) q3_ xd.1 := by rw [he3, he2, he1]; exact (own_fins nf xa xb xc xd hxal hxbl hxcl hxdl).2.2.2.2.1
  have r5 : own_room (nf.1 + 1) q3_.dropLast xd.1 := by rw [he3, he2, he1]; exact (own_fins nf xa xb xc xd hxal hxbl hxcl hxdl).2.2.2.2.2.1
  have pre32 : ∀ t, Steps p.tables e below (T29.setTop (mkF m 133 #[.val (.int a1), .val (.int a2), .val (.int a3), .val (.int a4), .val (.int a5), .val (.int a6), .val (.int (Int32.ofNat (nf.1 + 1))), .val (.int (Int32.ofNat xa.1)), .val (.int (Int32.ofNat xb.1)), .val (.int (Int32.ofNat xc.1)), .val (.int (Int32.ofNat xd.1)), .val (.int md), .val (.ref ob), .val (.ref sa), .val (.int (Int32.ofNat q3_.length)), .unset] [(.int md)])) t → Steps p.tables e below (s₁.setTop (entryFrame m #[(.int a1), (.int a2), (.int a3), (.int a4), (.int a5), (.int a6)] maxLocals)) t := by
    intro t kt
    refine pre31 t ?_
    show Steps p.tables e below (T29.setTop (mkF m 129 #[.val (.int a1), .val (.int a2), .val (.int a3), .val (.int a4), .val (.int a5), .val (.int a6), .val (.int (Int32.ofNat (nf.1 + 1))), .val (.int (Int32.ofNat xa.1)), .val (.int (Int32.ofNat xb.1)), .val (.int (Int32.ofNat xc.1)), .val (.int (Int32.ofNat xd.1)), .val (.int md), .val (.ref ob), .val (.ref sa), .val (.int (Int32.ofNat q2_.length)), .unset] [(.int (Int32.ofNat q3_.length))])) _
    refine XS.istore X29.here hx rfl (hb hby at_129) rfl (l' := #[.val (.int a1), .val (.int a2), .val (.int a3), .val (.int a4), .val (.int a5), .val (.int a6), .val (.int (Int32.ofNat (nf.1 + 1))), .val (.int (Int32.ofNat xa.1)), .val (.int (Int32.ofNat xb.1)), .val (.int (Int32.ofNat xc.1)), .val (.int (Int32.ofNat xd.1)), .val (.int md), .val (.ref ob), .val (.ref sa), .val (.int (Int32.ofNat q3_.length)), .unset]) rfl ?_
    show Steps p.tables e below (T29.setTop (mkF m 131 #[.val (.int a1), .val (.int a2), .val (.int a3), .val (.int a4), .val (.int a5), .val (.int a6), .val (.int (Int32.ofNat (nf.1 + 1))), .val (.int (Int32.ofNat xa.1)), .val (.int (Int32.ofNat xb.1)), .val (.int (Int32.ofNat xc.1)), .val (.int (Int32.ofNat xd.1)), .val (.int md), .val (.ref ob), .val (.ref sa), .val (.int (Int32.ofNat q3_.length)), .unset] [])) _
    refine XS.iload X29.here hx rfl (hb hby at_131) rfl ?_
    exact kt
  by_cases hc133 : md = (0 : Int32)
  case pos =>
    obtain ⟨cq33, kq33, q33a, q33b, q33c⟩ := isOf hZ rfl E_ob
    obtain ⟨_, _, ⟨T33, L33, k33, n33⟩, -, X33, ⟨Lc33, hQ33, l33, y33, z33⟩, st33⟩ := X29.virtualBack hx (y := (⟨"com/example/wary_observer/waryobserver/equivalence/Splitters", "add", "(I)V"⟩ : MethodName)) (z := (⟨"com/example/wary_observer/waryobserver/equivalence/Splitters", "add", "(I)V"⟩ : MethodName)) hown (mvT hZ (hw _ (List.mem_of_getElem? (i := 16) rfl))) (mvT hZ (hw _ (List.mem_of_getElem? (i := 17) rfl))) (notFace_of_selects (args := #[]) (mvT hZ (hw _ (List.mem_of_getElem? (i := 19) rfl)))) (mvT hZ (hw _ (List.mem_of_getElem? (i := 19) rfl))) (mvT hZ (hw _ (List.mem_of_getElem? (i := 18) rfl))) (by decide) (backOf (W := 0) (own_rm3 l Z a0 hw [] ob xd.1 bl wt (nf.1 + 1) q3_ T29.heap n0 Z29 g_ob o1 o2 hn4 PB hxdl r4) hZ (hw _ (List.mem_of_getElem? (i := 20) rfl)) (hw _ (List.mem_of_getElem? (i := 3) rfl)) (by decide) (by decide)) q33a q33c (g := (mkF m 167 #[.val (.int a1), .val (.int a2), .val (.int a3), .val (.int a4), .val (.int a5), .val (.int a6), .val (.int (Int32.ofNat (nf.1 + 1))), .val (.int (Int32.ofNat xa.1)), .val (.int (Int32.ofNat xb.1)), .val (.int (Int32.ofNat xc.1)), .val (.int (Int32.ofNat xd.1)), .val (.int md), .val (.ref ob), .val (.ref sa), .val (.int (Int32.ofNat q3_.length)), .unset] [(.int (Int32.ofNat xd.1)), (.ref ob)])) rfl (by rw [hml]; rfl) (Steps.refl _) (argsL := [(.int (Int32.ofNat xd.1))]) (rest := []) (lenOf own_pd0 rfl) rfl (by show 2 * 0 + _ ≤ _; exact Nat.le_of_eq rfl) (hb hby at_167) (fun _ _ => ⟨rfl, rfl, (by decide : 4 + 0 ≤ _), (by decide : 16 + 0 ≤ _)⟩)
    dsimp only [Pt.U, Pt.locs, Pt.cells, Pt.slots] at X33 l33 y33 z33 st33 hQ33
    subst l33 y33 z33
    obtain ⟨rfl, Nq33, Kq33, PB⟩ := hQ33
    have N33 := Fr.app N29 Nq33
    have E_ob := E_ob.keep Kq33
    have PT := PT.keep Kq33 (ninS (Ne.symm ne_ob_sa) (ninS (Ne.symm ne_bl_sa) (ninS (Ne.symm ne_wt_sa) nin0)))
    have Z33 := Nat.le_trans Z29 Kq33.1
    obtain ⟨_, _, ⟨T34, L34, k34, n34⟩, -, X34, ⟨Lc34, hQ34, l34, y34, z34⟩, st34⟩ := Jvm.LawKit.callS X33 hx (y := (⟨"com/example/wary_observer/waryobserver/equivalence/SplittersAddPinLaw", "push", "([III)I"⟩ : MethodName)) hown (mvT hZ (hw _ (List.mem_of_getElem? (i := 23) rfl))) (mvT hZ (hw _ (List.mem_of_getElem? (i := 24) rfl))) (mvT hZ (hw _ (List.mem_of_getElem? (i := 25) rfl))) (mvT hZ (hw _ (List.mem_of_getElem? (i := 26) rfl))) (by decide) (backOf (W := 0) (own_rm4 l Z a0 hw [] sa q3_ xd.1 T33.heap n0 Z33 g_sa PT (r4).1 xd.2 hall) hZ (hw _ (List.mem_of_getElem? (i := 26) rfl)) (hw _ (List.mem_of_getElem? (i := 25) rfl)) (by decide) (by decide)) (g := (mkF m 176 #[.val (.int a1), .val (.int a2), .val (.int a3), .val (.int a4), .val (.int a5), .val (.int a6), .val (.int (Int32.ofNat (nf.1 + 1))), .val (.int (Int32.ofNat xa.1)), .val (.int (Int32.ofNat xb.1)), .val (.int (Int32.ofNat xc.1)), .val (.int (Int32.ofNat xd.1)), .val (.int md), .val (.ref ob), .val (.ref sa), .val (.int (Int32.ofNat q3_.length)), .unset] [(.int (Int32.ofNat xd.1)), (.int (Int32.ofNat q3_.length)), (.ref sa)])) rfl (by rw [hml]; rfl) (argsL := [(.ref sa), (.int (Int32.ofNat q3_.length)), (.int (Int32.ofNat xd.1))]) (rest := []) (lenOf own_pd1 rfl) rfl (by show 2 * 0 + _ ≤ _; exact Nat.le_of_eq rfl) (hb hby at_176) (fun _ _ => ⟨rfl, rfl, (by decide : 4 + 0 ≤ _), (by decide : 16 + 0 ≤ _)⟩)
    dsimp only [Pt.U, Pt.locs, Pt.cells, Pt.slots] at X34 l34 y34 z34 st34 hQ34
    subst l34 y34 z34
    obtain ⟨rfl, Nq34, Kq34, PT⟩ := hQ34
    have N34 := Fr.app N33 Nq34
    have E_ob := E_ob.keep Kq34
    have PB := PB.keep Kq34 (ninS ne_ob_sa nin0) (ninS ne_bl_sa nin0) (ninS ne_wt_sa nin0)
    have Z34 := Nat.le_trans Z33 Kq34.1
    have hall := own_all_add hall xd.2
    obtain ⟨q4_, he4⟩ : ∃ z : List Nat, z = (own_add q3_ xd.1) := ⟨_, rfl⟩
    rw [← he4] at PB PT hall
    have pre35 : ∀ t, Steps p.tables e below (T34.setTop (mkF m 179 #[.val (.int a1), .val (.int a2), .val (.int a3), .val (.int a4), .val (.int a5), .val (.int a6), .val (.int (Int32.ofNat (nf.1 + 1))), .val (.int (Int32.ofNat xa.1)), .val (.int (Int32.ofNat xb.1)), .val (.int (Int32.ofNat xc.1)), .val (.int (Int32.ofNat xd.1)), .val (.int md), .val (.ref ob), .val (.ref sa), .val (.int (Int32.ofNat q3_.length)), .unset] [(.int (Int32.ofNat (own_add q3_ xd.1).length))])) t → Steps p.tables e below (s₁.setTop (entryFrame m #[(.int a1), (.int a2), (.int a3), (.int a4), (.int a5), (.int a6)] maxLocals)) t := by
      intro t kt
      refine pre32 t ?_
      show Steps p.tables e below (T29.setTop (mkF m 133 #[.val (.int a1), .val (.int a2), .val (.int a3), .val (.int a4), .val (.int a5), .val (.int a6), .val (.int (Int32.ofNat (nf.1 + 1))), .val (.int (Int32.ofNat xa.1)), .val (.int (Int32.ofNat xb.1)), .val (.int (Int32.ofNat xc.1)), .val (.int (Int32.ofNat xd.1)), .val (.int md), .val (.ref ob), .val (.ref sa), .val (.int (Int32.ofNat q3_.length)), .unset] [(.int md)])) _
      refine XS.ifYes X29.here hx rfl (pc0 := 133) (pc' := 163) rfl (hb hby at_133) rfl ((if0 _ _).trans (teq hc133).1) (by decide) (by decide) ?_
      show Steps p.tables e below (T29.setTop (mkF m 163 #[.val (.int a1), .val (.int a2), .val (.int a3), .val (.int a4), .val (.int a5), .val (.int a6), .val (.int (Int32.ofNat (nf.1 + 1))), .val (.int (Int32.ofNat xa.1)), .val (.int (Int32.ofNat xb.1)), .val (.int (Int32.ofNat xc.1)), .val (.int (Int32.ofNat xd.1)), .val (.int md), .val (.ref ob), .val (.ref sa), .val (.int (Int32.ofNat q3_.length)), .unset] [])) _
      refine XS.aload X29.here hx rfl (hb hby at_163) rfl rfl ?_
      show Steps p.tables e below (T29.setTop (mkF m 165 #[.val (.int a1), .val (.int a2), .val (.int a3), .val (.int a4), .val (.int a5), .val (.int a6), .val (.int (Int32.ofNat (nf.1 + 1))), .val (.int (Int32.ofNat xa.1)), .val (.int (Int32.ofNat xb.1)), .val (.int (Int32.ofNat xc.1)), .val (.int (Int32.ofNat xd.1)), .val (.int md), .val (.ref ob), .val (.ref sa), .val (.int (Int32.ofNat q3_.length)), .unset] [(.ref ob)])) _
      refine XS.iload X29.here hx rfl (hb hby at_165) rfl ?_
      show Steps p.tables e below (T29.setTop (mkF m 167 #[.val (.int a1), .val (.int a2), .val (.int a3), .val (.int a4), .val (.int a5), .val (.int a6), .val (.int (Int32.ofNat (nf.1 + 1))), .val (.int (Int32.ofNat xa.1)), .val (.int (Int32.ofNat xb.1)), .val (.int (Int32.ofNat xc.1)), .val (.int (Int32.ofNat xd.1)), .val (.int md), .val (.ref ob), .val (.ref sa), .val (.int (Int32.ofNat q3_.length)), .unset] [(.int (Int32.ofNat xd.1)), (.ref ob)])) _
      refine st33.trans ?_
      show Steps p.tables e below (T33.setTop (mkF m 170 #[.val (.int a1), .val (.int a2), .val (.int a3), .val (.int a4), .val (.int a5), .val (.int a6), .val (.int (Int32.ofNat (nf.1 + 1))), .val (.int (Int32.ofNat xa.1)), .val (.int (Int32.ofNat xb.1)), .val (.int (Int32.ofNat xc.1)), .val (.int (Int32.ofNat xd.1)), .val (.int md), .val (.ref ob), .val (.ref sa), .val (.int (Int32.ofNat q3_.length)), .unset] [])) _
      refine XS.aload X33.here hx rfl (hb hby at_170) rfl rfl ?_
      show Steps p.tables e below (T33.setTop (mkF m 172 #[.val (.int a1), .val (.int a2), .val (.int a3), .val (.int a4), .val (.int a5), .val (.int a6), .val (.int (Int32.ofNat (nf.1 + 1))), .val (.int (Int32.ofNat xa.1)), .val (.int (Int32.ofNat xb.1)), .val (.int (Int32.ofNat xc.1)), .val (.int (Int32.ofNat xd.1)), .val (.int md), .val (.ref ob), .val (.ref sa), .val (.int (Int32.ofNat q3_.length)), .unset] [(.ref sa)])) _
      refine XS.iload X33.here hx rfl (hb hby at_172) rfl ?_
      show Steps p.tables e below (T33.setTop (mkF m 174 #[.val (.int a1), .val (.int a2), .val (.int a3), .val (.int a4), .val (.int a5), .val (.int a6), .val (.int (Int32.ofNat (nf.1 + 1))), .val (.int (Int32.ofNat xa.1)), .val (.int (Int32.ofNat xb.1)), .val (.int (Int32.ofNat xc.1)), .val (.int (Int32.ofNat xd.1)), .val (.int md), .val (.ref ob), .val (.ref sa), .val (.int (Int32.ofNat q3_.length)), .unset] [(.int (Int32.ofNat q3_.length)), (.ref sa)])) _
      refine XS.iload X33.here hx rfl (hb hby at_174) rfl ?_
      show Steps p.tables e below (T33.setTop (mkF m 176 #[.val (.int a1), .val (.int a2), .val (.int a3), .val (.int a4), .val (.int a5), .val (.int a6), .val (.int (Int32.ofNat (nf.1 + 1))), .val (.int (Int32.ofNat xa.1)), .val (.int (Int32.ofNat xb.1)), .val (.int (Int32.ofNat xc.1)), .val (.int (Int32.ofNat xd.1)), .val (.int md), .val (.ref ob), .val (.ref sa), .val (.int (Int32.ofNat q3_.length)), .unset] [(.int (Int32.ofNat xd.1)), (.int (Int32.ofNat q3_.length)), (.ref sa)])) _
      refine st34 _ ?_
      exact kt
    have pre36 : ∀ t, Steps p.tables e below (T34.setTop (mkF m 179 #[.val (.int a1), .val (.int a2), .val (.int a3), .val (.int a4), .val (.int a5), .val (.int a6), .val (.int (Int32.ofNat (nf.1 + 1))), .val (.int (Int32.ofNat xa.1)), .val (.int (Int32.ofNat xb.1)), .val (.int (Int32.ofNat xc.1)), .val (.int (Int32.ofNat xd.1)), .val (.int md), .val (.ref ob), .val (.ref sa), .val (.int (Int32.ofNat q3_.length)), .unset] [(.int (Int32.ofNat q4_.length))])) t → Steps p.tables e below (s₁.setTop (entryFrame m #[(.int a1), (.int a2), (.int a3), (.int a4), (.int a5), (.int a6)] maxLocals)) t := by rw [(by rw [he4] : (Int32.ofNat q4_.length) = (Int32.ofNat (own_add q3_ xd.1).length))]; exact pre35
    have tl : own_tail (nf.1 + 1) q4_ := by rw [he4, he3, he2, he1]; exact (own_fins nf xa xb xc xd hxal hxbl hxcl hxdl).2.2.2.2.2.2.1
    obtain ⟨len4, c0, c1, c2, c3⟩ := tl
    have pre37 : ∀ t, Steps p.tables e below (T34.setTop (mkF m 184 #[.val (.int a1), .val (.int a2), .val (.int a3), .val (.int a4), .val (.int a5), .val (.int a6), .val (.int (Int32.ofNat (nf.1 + 1))), .val (.int (Int32.ofNat xa.1)), .val (.int (Int32.ofNat xb.1)), .val (.int (Int32.ofNat xc.1)), .val (.int (Int32.ofNat xd.1)), .val (.int md), .val (.ref ob), .val (.ref sa), .val (.int (Int32.ofNat q4_.length)), .unset] [(.int (1 : Int32)), (.int (Int32.ofNat q4_.length))])) t → Steps p.tables e below (s₁.setTop (entryFrame m #[(.int a1), (.int a2), (.int a3), (.int a4), (.int a5), (.int a6)] maxLocals)) t := by
      intro t kt
      refine pre36 t ?_
      show Steps p.tables e below (T34.setTop (mkF m 179 #[.val (.int a1), .val (.int a2), .val (.int a3), .val (.int a4), .val (.int a5), .val (.int a6), .val (.int (Int32.ofNat (nf.1 + 1))), .val (.int (Int32.ofNat xa.1)), .val (.int (Int32.ofNat xb.1)), .val (.int (Int32.ofNat xc.1)), .val (.int (Int32.ofNat xd.1)), .val (.int md), .val (.ref ob), .val (.ref sa), .val (.int (Int32.ofNat q3_.length)), .unset] [(.int (Int32.ofNat q4_.length))])) _
      refine XS.istore X34.here hx rfl (hb hby at_179) rfl (l' := #[.val (.int a1), .val (.int a2), .val (.int a3), .val (.int a4), .val (.int a5), .val (.int a6), .val (.int (Int32.ofNat (nf.1 + 1))), .val (.int (Int32.ofNat xa.1)), .val (.int (Int32.ofNat xb.1)), .val (.int (Int32.ofNat xc.1)), .val (.int (Int32.ofNat xd.1)), .val (.int md), .val (.ref ob), .val (.ref sa), .val (.int (Int32.ofNat q4_.length)), .unset]) rfl ?_
      show Steps p.tables e below (T34.setTop (mkF m 181 #[.val (.int a1), .val (.int a2), .val (.int a3), .val (.int a4), .val (.int a5), .val (.int a6), .val (.int (Int32.ofNat (nf.1 + 1))), .val (.int (Int32.ofNat xa.1)), .val (.int (Int32.ofNat xb.1)), .val (.int (Int32.ofNat xc.1)), .val (.int (Int32.ofNat xd.1)), .val (.int md), .val (.ref ob), .val (.ref sa), .val (.int (Int32.ofNat q4_.length)), .unset] [])) _
      refine XS.iload X34.here hx rfl (hb hby at_181) rfl ?_
      show Steps p.tables e below (T34.setTop (mkF m 183 #[.val (.int a1), .val (.int a2), .val (.int a3), .val (.int a4), .val (.int a5), .val (.int a6), .val (.int (Int32.ofNat (nf.1 + 1))), .val (.int (Int32.ofNat xa.1)), .val (.int (Int32.ofNat xb.1)), .val (.int (Int32.ofNat xc.1)), .val (.int (Int32.ofNat xd.1)), .val (.int md), .val (.ref ob), .val (.ref sa), .val (.int (Int32.ofNat q4_.length)), .unset] [(.int (Int32.ofNat q4_.length))])) _
      refine XS.iconst X34.here hx rfl (hb hby at_183) ?_
      exact kt
    by_cases hc184 : (Int32.ofNat q4_.length) < (1 : Int32)
    case pos =>
      have hl0 : q4_.length = 0 := own_lt1 (by omega) hc184
      have F0 : Fld Z T34.heap ob "com/example/wary_observer/waryobserver/equivalence/Splitters" "count" "I" (.int (0 : Int32)) := by have w := PB.2.2.2.1; rw [hl0] at w; exact w
      obtain ⟨cq38, kq38, q38a, q38b, q38c⟩ := isOf hZ rfl E_ob
      obtain ⟨_, _, ⟨T38, L38, k38, n38⟩, -, X38, ⟨Lc38, hQ38, l38, y38, z38⟩, st38⟩ := X34.virtualBack hx (y := (⟨"com/example/wary_observer/waryobserver/equivalence/Splitters", "isEmpty", "()Z"⟩ : MethodName)) (z := (⟨"com/example/wary_observer/waryobserver/equivalence/Splitters", "isEmpty", "()Z"⟩ : MethodName)) hown (mvT hZ (hw _ (List.mem_of_getElem? (i := 32) rfl))) (mvT hZ (hw _ (List.mem_of_getElem? (i := 33) rfl))) (notFace_of_selects (args := #[]) (mvT hZ (hw _ (List.mem_of_getElem? (i := 35) rfl)))) (mvT hZ (hw _ (List.mem_of_getElem? (i := 35) rfl))) (mvT hZ (hw _ (List.mem_of_getElem? (i := 34) rfl))) (by decide) (backOf (W := 0) (own_rm6 l Z a0 hw [] ob T34.heap n0 Z34 F0) hZ (hw _ (List.mem_of_getElem? (i := 36) rfl)) (hw _ (List.mem_of_getElem? (i := 3) rfl)) (by decide) (by decide)) q38a q38c (g := (mkF m 315 #[.val (.int a1), .val (.int a2), .val (.int a3), .val (.int a4), .val (.int a5), .val (.int a6), .val (.int (Int32.ofNat (nf.1 + 1))), .val (.int (Int32.ofNat xa.1)), .val (.int (Int32.ofNat xb.1)), .val (.int (Int32.ofNat xc.1)), .val (.int (Int32.ofNat xd.1)), .val (.int md), .val (.ref ob), .val (.ref sa), .val (.int (Int32.ofNat q4_.length)), .unset] [(.ref ob)])) rfl (by rw [hml]; rfl) (Steps.refl _) (argsL := []) (rest := []) (lenOf own_pd2 rfl) rfl (by show 2 * 0 + _ ≤ _; exact Nat.le_of_eq rfl) (hb hby at_315) (fun _ _ => ⟨rfl, rfl, (by decide : 4 + 0 ≤ _), (by decide : 16 + 0 ≤ _)⟩)
      dsimp only [Pt.U, Pt.locs, Pt.cells, Pt.slots] at X38 l38 y38 z38 st38 hQ38
      subst l38 y38 z38
      obtain ⟨rfl, Nq38, eq38⟩ := hQ38
      have N38 := Fr.app N34 Nq38
      obtain ⟨fs, hr, hrun, hended, hW, hsame⟩ := X38.leave (v := some (.int (1 : Int32))) (fun h => by rw [Bd.returns] at h; cases h) (BodyLoose.notSynchronized Bd)
      refine ⟨_, _, pre37 _ ?_, hrun, hended, _, _, rfl, ?_, ⟨_, rfl⟩, hW, hsame.mono (by decide) (by decide)⟩
      · skip
        show Steps p.tables e below (T34.setTop (mkF m 184 #[.val (.int a1), .val (.int a2), .val (.int a3), .val (.int a4), .val (.int a5), .val (.int a6), .val (.int (Int32.ofNat (nf.1 + 1))), .val (.int (Int32.ofNat xa.1)), .val (.int (Int32.ofNat xb.1)), .val (.int (Int32.ofNat xc.1)), .val (.int (Int32.ofNat xd.1)), .val (.int md), .val (.ref ob), .val (.ref sa), .val (.int (Int32.ofNat q4_.length)), .unset] [(.int (1 : Int32)), (.int (Int32.ofNat q4_.length))])) _
        refine XS.icmpYes X34.here hx rfl (pc0 := 184) (pc' := 214) rfl (hb hby at_184) rfl (tlt hc184).1 (by decide) (by decide) ?_
        show Steps p.tables e below (T34.setTop (mkF m 214 #[.val (.int a1), .val (.int a2), .val (.int a3), .val (.int a4), .val (.int a5), .val (.int a6), .val (.int (Int32.ofNat (nf.1 + 1))), .val (.int (Int32.ofNat xa.1)), .val (.int (Int32.ofNat xb.1)), .val (.int (Int32.ofNat xc.1)), .val (.int (Int32.ofNat xd.1)), .val (.int md), .val (.ref ob), .val (.ref sa), .val (.int (Int32.ofNat q4_.length)), .unset] [])) _
        refine XS.iload X34.here hx rfl (hb hby at_214) rfl ?_
        show Steps p.tables e below (T34.setTop (mkF m 216 #[.val (.int a1), .val (.int a2), .val (.int a3), .val (.int a4), .val (.int a5), .val (.int a6), .val (.int (Int32.ofNat (nf.1 + 1))), .val (.int (Int32.ofNat xa.1)), .val (.int (Int32.ofNat xb.1)), .val (.int (Int32.ofNat xc.1)), .val (.int (Int32.ofNat xd.1)), .val (.int md), .val (.ref ob), .val (.ref sa), .val (.int (Int32.ofNat q4_.length)), .unset] [(.int (Int32.ofNat q4_.length))])) _
        refine XS.iconst X34.here hx rfl (hb hby at_216) ?_
        show Steps p.tables e below (T34.setTop (mkF m 217 #[.val (.int a1), .val (.int a2), .val (.int a3), .val (.int a4), .val (.int a5), .val (.int a6), .val (.int (Int32.ofNat (nf.1 + 1))), .val (.int (Int32.ofNat xa.1)), .val (.int (Int32.ofNat xb.1)), .val (.int (Int32.ofNat xc.1)), .val (.int (Int32.ofNat xd.1)), .val (.int md), .val (.ref ob), .val (.ref sa), .val (.int (Int32.ofNat q4_.length)), .unset] [(.int (1 : Int32)), (.int (Int32.ofNat q4_.length))])) _
        refine XS.icmpYes X34.here hx rfl (pc0 := 217) (pc' := 247) rfl (hb hby at_217) rfl (tlt hc184).1 (by decide) (by decide) ?_
        show Steps p.tables e below (T34.setTop (mkF m 247 #[.val (.int a1), .val (.int a2), .val (.int a3), .val (.int a4), .val (.int a5), .val (.int a6), .val (.int (Int32.ofNat (nf.1 + 1))), .val (.int (Int32.ofNat xa.1)), .val (.int (Int32.ofNat xb.1)), .val (.int (Int32.ofNat xc.1)), .val (.int (Int32.ofNat xd.1)), .val (.int md), .val (.ref ob), .val (.ref sa), .val (.int (Int32.ofNat q4_.length)), .unset] [])) _
        refine XS.iload X34.here hx rfl (hb hby at_247) rfl ?_
        show Steps p.tables e below (T34.setTop (mkF m 249 #[.val (.int a1), .val (.int a2), .val (.int a3), .val (.int a4), .val (.int a5), .val (.int a6), .val (.int (Int32.ofNat (nf.1 + 1))), .val (.int (Int32.ofNat xa.1)), .val (.int (Int32.ofNat xb.1)), .val (.int (Int32.ofNat xc.1)), .val (.int (Int32.ofNat xd.1)), .val (.int md), .val (.ref ob), .val (.ref sa), .val (.int (Int32.ofNat q4_.length)), .unset] [(.int (Int32.ofNat q4_.length))])) _
        refine XS.iconst X34.here hx rfl (hb hby at_249) ?_
        show Steps p.tables e below (T34.setTop (mkF m 250 #[.val (.int a1), .val (.int a2), .val (.int a3), .val (.int a4), .val (.int a5), .val (.int a6), .val (.int (Int32.ofNat (nf.1 + 1))), .val (.int (Int32.ofNat xa.1)), .val (.int (Int32.ofNat xb.1)), .val (.int (Int32.ofNat xc.1)), .val (.int (Int32.ofNat xd.1)), .val (.int md), .val (.ref ob), .val (.ref sa), .val (.int (Int32.ofNat q4_.length)), .unset] [(.int (1 : Int32)), (.int (Int32.ofNat q4_.length))])) _
        refine XS.icmpYes X34.here hx rfl (pc0 := 250) (pc' := 280) rfl (hb hby at_250) rfl (tlt hc184).1 (by decide) (by decide) ?_
        show Steps p.tables e below (T34.setTop (mkF m 280 #[.val (.int a1), .val (.int a2), .val (.int a3), .val (.int a4), .val (.int a5), .val (.int a6), .val (.int (Int32.ofNat (nf.1 + 1))), .val (.int (Int32.ofNat xa.1)), .val (.int (Int32.ofNat xb.1)), .val (.int (Int32.ofNat xc.1)), .val (.int (Int32.ofNat xd.1)), .val (.int md), .val (.ref ob), .val (.ref sa), .val (.int (Int32.ofNat q4_.length)), .unset] [])) _
        refine XS.iload X34.here hx rfl (hb hby at_280) rfl ?_
        show Steps p.tables e below (T34.setTop (mkF m 282 #[.val (.int a1), .val (.int a2), .val (.int a3), .val (.int a4), .val (.int a5), .val (.int a6), .val (.int (Int32.ofNat (nf.1 + 1))), .val (.int (Int32.ofNat xa.1)), .val (.int (Int32.ofNat xb.1)), .val (.int (Int32.ofNat xc.1)), .val (.int (Int32.ofNat xd.1)), .val (.int md), .val (.ref ob), .val (.ref sa), .val (.int (Int32.ofNat q4_.length)), .unset] [(.int (Int32.ofNat q4_.length))])) _
        refine XS.iconst X34.here hx rfl (hb hby at_282) ?_
        show Steps p.tables e below (T34.setTop (mkF m 283 #[.val (.int a1), .val (.int a2), .val (.int a3), .val (.int a4), .val (.int a5), .val (.int a6), .val (.int (Int32.ofNat (nf.1 + 1))), .val (.int (Int32.ofNat xa.1)), .val (.int (Int32.ofNat xb.1)), .val (.int (Int32.ofNat xc.1)), .val (.int (Int32.ofNat xd.1)), .val (.int md), .val (.ref ob), .val (.ref sa), .val (.int (Int32.ofNat q4_.length)), .unset] [(.int (1 : Int32)), (.int (Int32.ofNat q4_.length))])) _
        refine XS.icmpYes X34.here hx rfl (pc0 := 283) (pc' := 313) rfl (hb hby at_283) rfl (tlt hc184).1 (by decide) (by decide) ?_
        show Steps p.tables e below (T34.setTop (mkF m 313 #[.val (.int a1), .val (.int a2), .val (.int a3), .val (.int a4), .val (.int a5), .val (.int a6), .val (.int (Int32.ofNat (nf.1 + 1))), .val (.int (Int32.ofNat xa.1)), .val (.int (Int32.ofNat xb.1)), .val (.int (Int32.ofNat xc.1)), .val (.int (Int32.ofNat xd.1)), .val (.int md), .val (.ref ob), .val (.ref sa), .val (.int (Int32.ofNat q4_.length)), .unset] [])) _
        refine XS.aload X34.here hx rfl (hb hby at_313) rfl rfl ?_
        show Steps p.tables e below (T34.setTop (mkF m 315 #[.val (.int a1), .val (.int a2), .val (.int a3), .val (.int a4), .val (.int a5), .val (.int a6), .val (.int (Int32.ofNat (nf.1 + 1))), .val (.int (Int32.ofNat xa.1)), .val (.int (Int32.ofNat xb.1)), .val (.int (Int32.ofNat xc.1)), .val (.int (Int32.ofNat xd.1)), .val (.int md), .val (.ref ob), .val (.ref sa), .val (.int (Int32.ofNat q4_.length)), .unset] [(.ref ob)])) _
        refine st38.trans ?_
        show Steps p.tables e below (T38.setTop (mkF m 318 #[.val (.int a1), .val (.int a2), .val (.int a3), .val (.int a4), .val (.int a5), .val (.int a6), .val (.int (Int32.ofNat (nf.1 + 1))), .val (.int (Int32.ofNat xa.1)), .val (.int (Int32.ofNat xb.1)), .val (.int (Int32.ofNat xc.1)), .val (.int (Int32.ofNat xd.1)), .val (.int md), .val (.ref ob), .val (.ref sa), .val (.int (Int32.ofNat q4_.length)), .unset] [(.int (1 : Int32))])) _
        exact retN X38 hx (t := .boolean) Bd.returns (by simp) (hb hby at_318) hr
      · show own_Q0 Z a1 a2 a3 a4 a5 a6 h0 n0 _ T38.heap _
        rw [eq38]
        exact ⟨rfl, N38⟩
    case neg =>
      have hq1 : 1 ≤ q4_.length := own_nlt1 (by omega) hc184
      have hq3 : own_tok (nf.1 + 1) q4_ := c0 (own_nn1 hq1)
      have hq2 := hq3.1
      obtain ⟨cq39, kq39, q39a, q39b, q39c⟩ := isOf hZ rfl E_ob
      obtain ⟨_, _, ⟨T39, L39, k39, n39⟩, -, X39, ⟨Lc39, hQ39, l39, y39, z39⟩, st39⟩ := X34.virtualBack hx (y := (⟨"com/example/wary_observer/waryobserver/equivalence/Splitters", "take", "()I"⟩ : MethodName)) (z := (⟨"com/example/wary_observer/waryobserver/equivalence/Splitters", "take", "()I"⟩ : MethodName)) hown (mvT hZ (hw _ (List.mem_of_getElem? (i := 27) rfl))) (mvT hZ (hw _ (List.mem_of_getElem? (i := 28) rfl))) (notFace_of_selects (args := #[]) (mvT hZ (hw _ (List.mem_of_getElem? (i := 30) rfl)))) (mvT hZ (hw _ (List.mem_of_getElem? (i := 30) rfl))) (mvT hZ (hw _ (List.mem_of_getElem? (i := 29) rfl))) (by decide) (backOf (W := 0) (own_rm5 l Z a0 hw [] ob bl wt (nf.1 + 1) q4_ T34.heap n0 Z34 g_ob o1 o2 hn4 PB hq1 hq3) hZ (hw _ (List.mem_of_getElem? (i := 31) rfl)) (hw _ (List.mem_of_getElem? (i := 3) rfl)) (by decide) (by decide)) q39a q39c (g := (mkF m 189 #[.val (.int a1), .val (.int a2), .val (.int a3), .val (.int a4), .val (.int a5), .val (.int a6), .val (.int (Int32.ofNat (nf.1 + 1))), .val (.int (Int32.ofNat xa.1)), .val (.int (Int32.ofNat xb.1)), .val (.int (Int32.ofNat xc.1)), .val (.int (Int32.ofNat xd.1)), .val (.int md), .val (.ref ob), .val (.ref sa), .val (.int (Int32.ofNat q4_.length)), .unset] [(.ref ob)])) rfl (by rw [hml]; rfl) (Steps.refl _) (argsL := []) (rest := []) (lenOf own_pd3 rfl) rfl (by show 2 * 0 + _ ≤ _; exact Nat.le_of_eq rfl) (hb hby at_189) (fun _ _ => ⟨rfl, rfl, (by decide : 4 + 0 ≤ _), (by decide : 16 + 0 ≤ _)⟩)
      dsimp only [Pt.U, Pt.locs, Pt.cells, Pt.slots] at X39 l39 y39 z39 st39 hQ39
      subst l39 y39 z39
      obtain ⟨rfl, Nq39, Kq39, PB⟩ := hQ39
      have N39 := Fr.app N34 Nq39
      have E_ob := E_ob.keep Kq39
      have PT := PT.keep Kq39 (ninS (Ne.symm ne_ob_sa) (ninS (Ne.symm ne_bl_sa) (ninS (Ne.symm ne_wt_sa) nin0)))
      have Z39 := Nat.le_trans Z34 Kq39.1
      have pre40 : ∀ t, Steps p.tables e below (T39.setTop (mkF m 202 #[.val (.int a1), .val (.int a2), .val (.int a3), .val (.int a4), .val (.int a5), .val (.int a6), .val (.int (Int32.ofNat (nf.1 + 1))), .val (.int (Int32.ofNat xa.1)), .val (.int (Int32.ofNat xb.1)), .val (.int (Int32.ofNat xc.1)), .val (.int (Int32.ofNat xd.1)), .val (.int md), .val (.ref ob), .val (.ref sa), .val (.int (Int32.ofNat q4_.length)), .val (.int (Int32.ofNat (own_lst q4_)))] [(.int ((Int32.ofNat q4_.length) - (1 : Int32))), (.ref sa), (.int (Int32.ofNat (own_lst q4_)))])) t → Steps p.tables e below (s₁.setTop (entryFrame m #[(.int a1), (.int a2), (.int a3), (.int a4), (.int a5), (.int a6)] maxLocals)) t := by
        intro t kt
        refine pre37 t ?_
        show Steps p.tables e below (T34.setTop (mkF m 184 #[.val (.int a1), .val (.int a2), .val (.int a3), .val (.int a4), .val (.int a5), .val (.int a6), .val (.int (Int32.ofNat (nf.1 + 1))), .val (.int (Int32.ofNat xa.1)), .val (.int (Int32.ofNat xb.1)), .val (.int (Int32.ofNat xc.1)), .val (.int (Int32.ofNat xd.1)), .val (.int md), .val (.ref ob), .val (.ref sa), .val (.int (Int32.ofNat q4_.length)), .unset] [(.int (1 : Int32)), (.int (Int32.ofNat q4_.length))])) _
        refine XS.icmpNo X34.here hx rfl (hb hby at_184) rfl (flt hc184).1 ?_
        show Steps p.tables e below (T34.setTop (mkF m 187 #[.val (.int a1), .val (.int a2), .val (.int a3), .val (.int a4), .val (.int a5), .val (.int a6), .val (.int (Int32.ofNat (nf.1 + 1))), .val (.int (Int32.ofNat xa.1)), .val (.int (Int32.ofNat xb.1)), .val (.int (Int32.ofNat xc.1)), .val (.int (Int32.ofNat xd.1)), .val (.int md), .val (.ref ob), .val (.ref sa), .val (.int (Int32.ofNat q4_.length)), .unset] [])) _
        refine XS.aload X34.here hx rfl (hb hby at_187) rfl rfl ?_
        show Steps p.tables e below (T34.setTop (mkF m 189 #[.val (.int a1), .val (.int a2), .val (.int a3), .val (.int a4), .val (.int a5), .val (.int a6), .val (.int (Int32.ofNat (nf.1 + 1))), .val (.int (Int32.ofNat xa.1)), .val (.int (Int32.ofNat xb.1)), .val (.int (Int32.ofNat xc.1)), .val (.int (Int32.ofNat xd.1)), .val (.int md), .val (.ref ob), .val (.ref sa), .val (.int (Int32.ofNat q4_.length)), .unset] [(.ref ob)])) _
        refine st39.trans ?_
        show Steps p.tables e below (T39.setTop (mkF m 192 #[.val (.int a1), .val (.int a2), .val (.int a3), .val (.int a4), .val (.int a5), .val (.int a6), .val (.int (Int32.ofNat (nf.1 + 1))), .val (.int (Int32.ofNat xa.1)), .val (.int (Int32.ofNat xb.1)), .val (.int (Int32.ofNat xc.1)), .val (.int (Int32.ofNat xd.1)), .val (.int md), .val (.ref ob), .val (.ref sa), .val (.int (Int32.ofNat q4_.length)), .unset] [(.int (Int32.ofNat (own_lst q4_)))])) _
        refine XS.istore X39.here hx rfl (hb hby at_192) rfl (l' := #[.val (.int a1), .val (.int a2), .val (.int a3), .val (.int a4), .val (.int a5), .val (.int a6), .val (.int (Int32.ofNat (nf.1 + 1))), .val (.int (Int32.ofNat xa.1)), .val (.int (Int32.ofNat xb.1)), .val (.int (Int32.ofNat xc.1)), .val (.int (Int32.ofNat xd.1)), .val (.int md), .val (.ref ob), .val (.ref sa), .val (.int (Int32.ofNat q4_.length)), .val (.int (Int32.ofNat (own_lst q4_)))]) rfl ?_
        show Steps p.tables e below (T39.setTop (mkF m 194 #[.val (.int a1), .val (.int a2), .val (.int a3), .val (.int a4), .val (.int a5), .val (.int a6), .val (.int (Int32.ofNat (nf.1 + 1))), .val (.int (Int32.ofNat xa.1)), .val (.int (Int32.ofNat xb.1)), .val (.int (Int32.ofNat xc.1)), .val (.int (Int32.ofNat xd.1)), .val (.int md), .val (.ref ob), .val (.ref sa), .val (.int (Int32.ofNat q4_.length)), .val (.int (Int32.ofNat (own_lst q4_)))] [])) _
        refine XS.iload X39.here hx rfl (hb hby at_194) rfl ?_
        show Steps p.tables e below (T39.setTop (mkF m 196 #[.val (.int a1), .val (.int a2), .val (.int a3), .val (.int a4), .val (.int a5), .val (.int a6), .val (.int (Int32.ofNat (nf.1 + 1))), .val (.int (Int32.ofNat xa.1)), .val (.int (Int32.ofNat xb.1)), .val (.int (Int32.ofNat xc.1)), .val (.int (Int32.ofNat xd.1)), .val (.int md), .val (.ref ob), .val (.ref sa), .val (.int (Int32.ofNat q4_.length)), .val (.int (Int32.ofNat (own_lst q4_)))] [(.int (Int32.ofNat (own_lst q4_)))])) _
        refine XS.aload X39.here hx rfl (hb hby at_196) rfl rfl ?_
        show Steps p.tables e below (T39.setTop (mkF m 198 #[.val (.int a1), .val (.int a2), .val (.int a3), .val (.int a4), .val (.int a5), .val (.int a6), .val (.int (Int32.ofNat (nf.1 + 1))), .val (.int (Int32.ofNat xa.1)), .val (.int (Int32.ofNat xb.1)), .val (.int (Int32.ofNat xc.1)), .val (.int (Int32.ofNat xd.1)), .val (.int md), .val (.ref ob), .val (.ref sa), .val (.int (Int32.ofNat q4_.length)), .val (.int (Int32.ofNat (own_lst q4_)))] [(.ref sa), (.int (Int32.ofNat (own_lst q4_)))])) _
        refine XS.iload X39.here hx rfl (hb hby at_198) rfl ?_
        show Steps p.tables e below (T39.setTop (mkF m 200 #[.val (.int a1), .val (.int a2), .val (.int a3), .val (.int a4), .val (.int a5), .val (.int a6), .val (.int (Int32.ofNat (nf.1 + 1))), .val (.int (Int32.ofNat xa.1)), .val (.int (Int32.ofNat xb.1)), .val (.int (Int32.ofNat xc.1)), .val (.int (Int32.ofNat xd.1)), .val (.int md), .val (.ref ob), .val (.ref sa), .val (.int (Int32.ofNat q4_.length)), .val (.int (Int32.ofNat (own_lst q4_)))] [(.int (Int32.ofNat q4_.length)), (.ref sa), (.int (Int32.ofNat (own_lst q4_)))])) _
        refine XS.iconst X39.here hx rfl (hb hby at_200) ?_
        show Steps p.tables e below (T39.setTop (mkF m 201 #[.val (.int a1), .val (.int a2), .val (.int a3), .val (.int a4), .val (.int a5), .val (.int a6), .val (.int (Int32.ofNat (nf.1 + 1))), .val (.int (Int32.ofNat xa.1)), .val (.int (Int32.ofNat xb.1)), .val (.int (Int32.ofNat xc.1)), .val (.int (Int32.ofNat xd.1)), .val (.int md), .val (.ref ob), .val (.ref sa), .val (.int (Int32.ofNat q4_.length)), .val (.int (Int32.ofNat (own_lst q4_)))] [(.int (1 : Int32)), (.int (Int32.ofNat q4_.length)), (.ref sa), (.int (Int32.ofNat (own_lst q4_)))])) _
        refine XS.isub X39.here hx rfl (hb hby at_201) rfl ?_
        exact kt
      have pre41 : ∀ t, Steps p.tables e below (T39.setTop (mkF m 202 #[.val (.int a1), .val (.int a2), .val (.int a3), .val (.int a4), .val (.int a5), .val (.int a6), .val (.int (Int32.ofNat (nf.1 + 1))), .val (.int (Int32.ofNat xa.1)), .val (.int (Int32.ofNat xb.1)), .val (.int (Int32.ofNat xc.1)), .val (.int (Int32.ofNat xd.1)), .val (.int md), .val (.ref ob), .val (.ref sa), .val (.int (Int32.ofNat q4_.length)), .val (.int (Int32.ofNat (own_lst q4_)))] [(.int (Int32.ofNat (q4_.length - 1))), (.ref sa), (.int (Int32.ofNat (own_lst q4_)))])) t → Steps p.tables e below (s₁.setTop (entryFrame m #[(.int a1), (.int a2), (.int a3), (.int a4), (.int a5), (.int a6)] maxLocals)) t := by rw [(own_dec hq1 : (Int32.ofNat (q4_.length - 1)) = ((Int32.ofNat q4_.length) - (1 : Int32)))]; exact pre40
      obtain ⟨sf, V_sa, hsf⟩ := PT
      have ld42 := (own_ldI X39 hx hZ rfl V_sa (j := (Int32.ofNat (q4_.length - 1))) (own_ix (by omega)).1 (k := (q4_.length - 1)) (own_ix (by omega)).2 (by omega) (v := (.int (Int32.ofNat (own_lst q4_)))) (congrArg Value.int (hsf _ (by omega))) (g := (mkF m 202 #[.val (.int a1), .val (.int a2), .val (.int a3), .val (.int a4), .val (.int a5), .val (.int a6), .val (.int (Int32.ofNat (nf.1 + 1))), .val (.int (Int32.ofNat xa.1)), .val (.int (Int32.ofNat xb.1)), .val (.int (Int32.ofNat xc.1)), .val (.int (Int32.ofNat xd.1)), .val (.int md), .val (.ref ob), .val (.ref sa), .val (.int (Int32.ofNat q4_.length)), .val (.int (Int32.ofNat (own_lst q4_)))] [(.int (Int32.ofNat (q4_.length - 1))), (.ref sa), (.int (Int32.ofNat (own_lst q4_)))])) rfl rfl (hb hby at_202))
      have PT : own_T Z sa q4_.dropLast T39.heap := own_T.drop ⟨sf, V_sa, hsf⟩
      have hall := own_all_drop hall
      obtain ⟨q5_, he5⟩ : ∃ z : List Nat, z = q4_.dropLast := ⟨_, rfl⟩
      rw [← he5] at PB PT hall
      have pre43 : ∀ t, Steps p.tables e below (T39.setTop (mkF m 214 #[.val (.int a1), .val (.int a2), .val (.int a3), .val (.int a4), .val (.int a5), .val (.int a6), .val (.int (Int32.ofNat (nf.1 + 1))), .val (.int (Int32.ofNat xa.1)), .val (.int (Int32.ofNat xb.1)), .val (.int (Int32.ofNat xc.1)), .val (.int (Int32.ofNat xd.1)), .val (.int md), .val (.ref ob), .val (.ref sa), .val (.int ((Int32.ofNat q4_.length) - (1 : Int32))), .val (.int (Int32.ofNat (own_lst q4_)))] [])) t → Steps p.tables e below (s₁.setTop (entryFrame m #[(.int a1), (.int a2), (.int a3), (.int a4), (.int a5), (.int a6)] maxLocals)) t := by
        intro t kt
        refine pre41 t ?_
        show Steps p.tables e below (T39.setTop (mkF m 202 #[.val (.int a1), .val (.int a2), .val (.int a3), .val (.int a4), .val (.int a5), .val (.int a6), .val (.int (Int32.ofNat (nf.1 + 1))), .val (.int (Int32.ofNat xa.1)), .val (.int (Int32.ofNat xb.1)), .val (.int (Int32.ofNat xc.1)), .val (.int (Int32.ofNat xd.1)), .val (.int md), .val (.ref ob), .val (.ref sa), .val (.int (Int32.ofNat q4_.length)), .val (.int (Int32.ofNat (own_lst q4_)))] [(.int (Int32.ofNat (q4_.length - 1))), (.ref sa), (.int (Int32.ofNat (own_lst q4_)))])) _
        refine ld42 _ ?_
        show Steps p.tables e below (T39.setTop (mkF m 203 #[.val (.int a1), .val (.int a2), .val (.int a3), .val (.int a4), .val (.int a5), .val (.int a6), .val (.int (Int32.ofNat (nf.1 + 1))), .val (.int (Int32.ofNat xa.1)), .val (.int (Int32.ofNat xb.1)), .val (.int (Int32.ofNat xc.1)), .val (.int (Int32.ofNat xd.1)), .val (.int md), .val (.ref ob), .val (.ref sa), .val (.int (Int32.ofNat q4_.length)), .val (.int (Int32.ofNat (own_lst q4_)))] [(.int (Int32.ofNat (own_lst q4_))), (.int (Int32.ofNat (own_lst q4_)))])) _
        refine XS.icmpYes X39.here hx rfl (pc0 := 203) (pc' := 208) rfl (hb hby at_203) rfl (teq rfl).1 (by decide) (by decide) ?_
        show Steps p.tables e below (T39.setTop (mkF m 208 #[.val (.int a1), .val (.int a2), .val (.int a3), .val (.int a4), .val (.int a5), .val (.int a6), .val (.int (Int32.ofNat (nf.1 + 1))), .val (.int (Int32.ofNat xa.1)), .val (.int (Int32.ofNat xb.1)), .val (.int (Int32.ofNat xc.1)), .val (.int (Int32.ofNat xd.1)), .val (.int md), .val (.ref ob), .val (.ref sa), .val (.int (Int32.ofNat q4_.length)), .val (.int (Int32.ofNat (own_lst q4_)))] [])) _
        refine XS.iload X39.here hx rfl (hb hby at_208) rfl ?_
        show Steps p.tables e below (T39.setTop (mkF m 210 #[.val (.int a1), .val (.int a2), .val (.int a3), .val (.int a4), .val (.int a5), .val (.int a6), .val (.int (Int32.ofNat (nf.1 + 1))), .val (.int (Int32.ofNat xa.1)), .val (.int (Int32.ofNat xb.1)), .val (.int (Int32.ofNat xc.1)), .val (.int (Int32.ofNat xd.1)), .val (.int md), .val (.ref ob), .val (.ref sa), .val (.int (Int32.ofNat q4_.length)), .val (.int (Int32.ofNat (own_lst q4_)))] [(.int (Int32.ofNat q4_.length))])) _
        refine XS.iconst X39.here hx rfl (hb hby at_210) ?_
        show Steps p.tables e below (T39.setTop (mkF m 211 #[.val (.int a1), .val (.int a2), .val (.int a3), .val (.int a4), .val (.int a5), .val (.int a6), .val (.int (Int32.ofNat (nf.1 + 1))), .val (.int (Int32.ofNat xa.1)), .val (.int (Int32.ofNat xb.1)), .val (.int (Int32.ofNat xc.1)), .val (.int (Int32.ofNat xd.1)), .val (.int md), .val (.ref ob), .val (.ref sa), .val (.int (Int32.ofNat q4_.length)), .val (.int (Int32.ofNat (own_lst q4_)))] [(.int (1 : Int32)), (.int (Int32.ofNat q4_.length))])) _
        refine XS.isub X39.here hx rfl (hb hby at_211) rfl ?_
        show Steps p.tables e below (T39.setTop (mkF m 212 #[.val (.int a1), .val (.int a2), .val (.int a3), .val (.int a4), .val (.int a5), .val (.int a6), .val (.int (Int32.ofNat (nf.1 + 1))), .val (.int (Int32.ofNat xa.1)), .val (.int (Int32.ofNat xb.1)), .val (.int (Int32.ofNat xc.1)), .val (.int (Int32.ofNat xd.1)), .val (.int md), .val (.ref ob), .val (.ref sa), .val (.int (Int32.ofNat q4_.length)), .val (.int (Int32.ofNat (own_lst q4_)))] [(.int ((Int32.ofNat q4_.length) - (1 : Int32)))])) _
        refine XS.istore X39.here hx rfl (hb hby at_212) rfl (l' := #[.val (.int a1), .val (.int a2), .val (.int a3), .val (.int a4), .val (.int a5), .val (.int a6), .val (.int (Int32.ofNat (nf.1 + 1))), .val (.int (Int32.ofNat xa.1)), .val (.int (Int32.ofNat xb.1)), .val (.int (Int32.ofNat xc.1)), .val (.int (Int32.ofNat xd.1)), .val (.int md), .val (.ref ob), .val (.ref sa), .val (.int ((Int32.ofNat q4_.length) - (1 : Int32))), .val (.int (Int32.ofNat (own_lst q4_)))]) rfl ?_
        exact kt
      have pre44 : ∀ t, Steps p.tables e below (T39.setTop (mkF m 214 #[.val (.int a1), .val (.int a2), .val (.int a3), .val (.int a4), .val (.int a5), .val (.int a6), .val (.int (Int32.ofNat (nf.1 + 1))), .val (.int (Int32.ofNat xa.1)), .val (.int (Int32.ofNat xb.1)), .val (.int (Int32.ofNat xc.1)), .val (.int (Int32.ofNat xd.1)), .val (.int md), .val (.ref ob), .val (.ref sa), .val (.int (Int32.ofNat q5_.length)), .val (.int (Int32.ofNat (own_lst q4_)))] [])) t → Steps p.tables e below (s₁.setTop (entryFrame m #[(.int a1), (.int a2), (.int a3), (.int a4), (.int a5), (.int a6)] maxLocals)) t := by rw [(by rw [he5, List.length_dropLast]; exact own_dec hq1 : (Int32.ofNat q5_.length) = ((Int32.ofNat q4_.length) - (1 : Int32)))]; exact pre43
      have len4 : q5_.length ≤ 3 := by rw [he5]; exact own_dl len4
      rw [← he5] at c1
      rw [← he5] at c2
      rw [← he5] at c3
      have pre45 : ∀ t, Steps p.tables e below (T39.setTop (mkF m 217 #[.val (.int a1), .val (.int a2), .val (.int a3), .val (.int a4), .val (.int a5), .val (.int a6), .val (.int (Int32.ofNat (nf.1 + 1))), .val (.int (Int32.ofNat xa.1)), .val (.int (Int32.ofNat xb.1)), .val (.int (Int32.ofNat xc.1)), .val (.int (Int32.ofNat xd.1)), .val (.int md), .val (.ref ob), .val (.ref sa), .val (.int (Int32.ofNat q5_.length)), .val (.int (Int32.ofNat (own_lst q4_)))] [(.int (1 : Int32)), (.int (Int32.ofNat q5_.length))])) t → Steps p.tables e below (s₁.setTop (entryFrame m #[(.int a1), (.int a2), (.int a3), (.int a4), (.int a5), (.int a6)] maxLocals)) t := by
        intro t kt
        refine pre44 t ?_
        show Steps p.tables e below (T39.setTop (mkF m 214 #[.val (.int a1), .val (.int a2), .val (.int a3), .val (.int a4), .val (.int a5), .val (.int a6), .val (.int (Int32.ofNat (nf.1 + 1))), .val (.int (Int32.ofNat xa.1)), .val (.int (Int32.ofNat xb.1)), .val (.int (Int32.ofNat xc.1)), .val (.int (Int32.ofNat xd.1)), .val (.int md), .val (.ref ob), .val (.ref sa), .val (.int (Int32.ofNat q5_.length)), .val (.int (Int32.ofNat (own_lst q4_)))] [])) _
        refine XS.iload X39.here hx rfl (hb hby at_214) rfl ?_
        show Steps p.tables e below (T39.setTop (mkF m 216 #[.val (.int a1), .val (.int a2), .val (.int a3), .val (.int a4), .val (.int a5), .val (.int a6), .val (.int (Int32.ofNat (nf.1 + 1))), .val (.int (Int32.ofNat xa.1)), .val (.int (Int32.ofNat xb.1)), .val (.int (Int32.ofNat xc.1)), .val (.int (Int32.ofNat xd.1)), .val (.int md), .val (.ref ob), .val (.ref sa), .val (.int (Int32.ofNat q5_.length)), .val (.int (Int32.ofNat (own_lst q4_)))] [(.int (Int32.ofNat q5_.length))])) _
        refine XS.iconst X39.here hx rfl (hb hby at_216) ?_
        exact kt
      by_cases hc217 : (Int32.ofNat q5_.length) < (1 : Int32)
      case pos =>
        have hl0 : q5_.length = 0 := own_lt1 (by omega) hc217
        have F0 : Fld Z T39.heap ob "com/example/wary_observer/waryobserver/equivalence/Splitters" "count" "I" (.int (0 : Int32)) := by have w := PB.2.2.2.1; rw [hl0] at w; exact w
        obtain ⟨cq46, kq46, q46a, q46b, q46c⟩ := isOf hZ rfl E_ob
        obtain ⟨_, _, ⟨T46, L46, k46, n46⟩, -, X46, ⟨Lc46, hQ46, l46, y46, z46⟩, st46⟩ := X39.virtualBack hx (y := (⟨"com/example/wary_observer/waryobserver/equivalence/Splitters", "isEmpty", "()Z"⟩ : MethodName)) (z := (⟨"com/example/wary_observer/waryobserver/equivalence/Splitters", "isEmpty", "()Z"⟩ : MethodName)) hown (mvT hZ (hw _ (List.mem_of_getElem? (i := 32) rfl))) (mvT hZ (hw _ (List.mem_of_getElem? (i := 33) rfl))) (notFace_of_selects (args := #[]) (mvT hZ (hw _ (List.mem_of_getElem? (i := 35) rfl)))) (mvT hZ (hw _ (List.mem_of_getElem? (i := 35) rfl))) (mvT hZ (hw _ (List.mem_of_getElem? (i := 34) rfl))) (by decide) (backOf (W := 0) (own_rm6 l Z a0 hw [] ob T39.heap n0 Z39 F0) hZ (hw _ (List.mem_of_getElem? (i := 36) rfl)) (hw _ (List.mem_of_getElem? (i := 3) rfl)) (by decide) (by decide)) q46a q46c (g := (mkF m 315 #[.val (.int a1), .val (.int a2), .val (.int a3), .val (.int a4), .val (.int a5), .val (.int a6), .val (.int (Int32.ofNat (nf.1 + 1))), .val (.int (Int32.ofNat xa.1)), .val (.int (Int32.ofNat xb.1)), .val (.int (Int32.ofNat xc.1)), .val (.int (Int32.ofNat xd.1)), .val (.int md), .val (.ref ob), .val (.ref sa), .val (.int (Int32.ofNat q5_.length)), .val (.int (Int32.ofNat (own_lst q4_)))] [(.ref ob)])) rfl (by rw [hml]; rfl) (Steps.refl _) (argsL := []) (rest := []) (lenOf own_pd2 rfl) rfl (by show 2 * 0 + _ ≤ _; exact Nat.le_of_eq rfl) (hb hby at_315) (fun _ _ => ⟨rfl, rfl, (by decide : 4 + 0 ≤ _), (by decide : 16 + 0 ≤ _)⟩)
        dsimp only [Pt.U, Pt.locs, Pt.cells, Pt.slots] at X46 l46 y46 z46 st46 hQ46
        subst l46 y46 z46
        obtain ⟨rfl, Nq46, eq46⟩ := hQ46
        have N46 := Fr.app N39 Nq46
        obtain ⟨fs, hr, hrun, hended, hW, hsame⟩ := X46.leave (v := some (.int (1 : Int32))) (fun h => by rw [Bd.returns] at h; cases h) (BodyLoose.notSynchronized Bd)
        refine ⟨_, _, pre45 _ ?_, hrun, hended, _, _, rfl, ?_, ⟨_, rfl⟩, hW, hsame.mono (by decide) (by decide)⟩
        · skip
          show Steps p.tables e below (T39.setTop (mkF m 217 #[.val (.int a1), .val (.int a2), .val (.int a3), .val (.int a4), .val (.int a5), .val (.int a6), .val (.int (Int32.ofNat (nf.1 + 1))), .val (.int (Int32.ofNat xa.1)), .val (.int (Int32.ofNat xb.1)), .val (.int (Int32.ofNat xc.1)), .val (.int (Int32.ofNat xd.1)), .val (.int md), .val (.ref ob), .val (.ref sa), .val (.int (Int32.ofNat q5_.length)), .val (.int (Int32.ofNat (own_lst q4_)))] [(.int (1 : Int32)), (.int (Int32.ofNat q5_.length))])) _
          refine XS.icmpYes X39.here hx rfl (pc0 := 217) (pc' := 247) rfl (hb hby at_217) rfl (tlt hc217).1 (by decide) (by decide) ?_
          show Steps p.tables e below (T39.setTop (mkF m 247 #[.val (.int a1), .val (.int a2), .val (.int a3), .val (.int a4), .val (.int a5), .val (.int a6), .val (.int (Int32.ofNat (nf.1 + 1))), .val (.int (Int32.ofNat xa.1)), .val (.int (Int32.ofNat xb.1)), .val (.int (Int32.ofNat xc.1)), .val (.int (Int32.ofNat xd.1)), .val (.int md), .val (.ref ob), .val (.ref sa), .val (.int (Int32.ofNat q5_.length)), .val (.int (Int32.ofNat (own_lst q4_)))] [])) _
          refine XS.iload X39.here hx rfl (hb hby at_247) rfl ?_
          show Steps p.tables e below (T39.setTop (mkF m 249 #[.val (.int a1), .val (.int a2), .val (.int a3), .val (.int a4), .val (.int a5), .val (.int a6), .val (.int (Int32.ofNat (nf.1 + 1))), .val (.int (Int32.ofNat xa.1)), .val (.int (Int32.ofNat xb.1)), .val (.int (Int32.ofNat xc.1)), .val (.int (Int32.ofNat xd.1)), .val (.int md), .val (.ref ob), .val (.ref sa), .val (.int (Int32.ofNat q5_.length)), .val (.int (Int32.ofNat (own_lst q4_)))] [(.int (Int32.ofNat q5_.length))])) _
          refine XS.iconst X39.here hx rfl (hb hby at_249) ?_
          show Steps p.tables e below (T39.setTop (mkF m 250 #[.val (.int a1), .val (.int a2), .val (.int a3), .val (.int a4), .val (.int a5), .val (.int a6), .val (.int (Int32.ofNat (nf.1 + 1))), .val (.int (Int32.ofNat xa.1)), .val (.int (Int32.ofNat xb.1)), .val (.int (Int32.ofNat xc.1)), .val (.int (Int32.ofNat xd.1)), .val (.int md), .val (.ref ob), .val (.ref sa), .val (.int (Int32.ofNat q5_.length)), .val (.int (Int32.ofNat (own_lst q4_)))] [(.int (1 : Int32)), (.int (Int32.ofNat q5_.length))])) _
          refine XS.icmpYes X39.here hx rfl (pc0 := 250) (pc' := 280) rfl (hb hby at_250) rfl (tlt hc217).1 (by decide) (by decide) ?_
          show Steps p.tables e below (T39.setTop (mkF m 280 #[.val (.int a1), .val (.int a2), .val (.int a3), .val (.int a4), .val (.int a5), .val (.int a6), .val (.int (Int32.ofNat (nf.1 + 1))), .val (.int (Int32.ofNat xa.1)), .val (.int (Int32.ofNat xb.1)), .val (.int (Int32.ofNat xc.1)), .val (.int (Int32.ofNat xd.1)), .val (.int md), .val (.ref ob), .val (.ref sa), .val (.int (Int32.ofNat q5_.length)), .val (.int (Int32.ofNat (own_lst q4_)))] [])) _
          refine XS.iload X39.here hx rfl (hb hby at_280) rfl ?_
          show Steps p.tables e below (T39.setTop (mkF m 282 #[.val (.int a1), .val (.int a2), .val (.int a3), .val (.int a4), .val (.int a5), .val (.int a6), .val (.int (Int32.ofNat (nf.1 + 1))), .val (.int (Int32.ofNat xa.1)), .val (.int (Int32.ofNat xb.1)), .val (.int (Int32.ofNat xc.1)), .val (.int (Int32.ofNat xd.1)), .val (.int md), .val (.ref ob), .val (.ref sa), .val (.int (Int32.ofNat q5_.length)), .val (.int (Int32.ofNat (own_lst q4_)))] [(.int (Int32.ofNat q5_.length))])) _
          refine XS.iconst X39.here hx rfl (hb hby at_282) ?_
          show Steps p.tables e below (T39.setTop (mkF m 283 #[.val (.int a1), .val (.int a2), .val (.int a3), .val (.int a4), .val (.int a5), .val (.int a6), .val (.int (Int32.ofNat (nf.1 + 1))), .val (.int (Int32.ofNat xa.1)), .val (.int (Int32.ofNat xb.1)), .val (.int (Int32.ofNat xc.1)), .val (.int (Int32.ofNat xd.1)), .val (.int md), .val (.ref ob), .val (.ref sa), .val (.int (Int32.ofNat q5_.length)), .val (.int (Int32.ofNat (own_lst q4_)))] [(.int (1 : Int32)), (.int (Int32.ofNat q5_.length))])) _
          refine XS.icmpYes X39.here hx rfl (pc0 := 283) (pc' := 313) rfl (hb hby at_283) rfl (tlt hc217).1 (by decide) (by decide) ?_
          show Steps p.tables e below (T39.setTop (mkF m 313 #[.val (.int a1), .val (.int a2), .val (.int a3), .val (.int a4), .val (.int a5), .val (.int a6), .val (.int (Int32.ofNat (nf.1 + 1))), .val (.int (Int32.ofNat xa.1)), .val (.int (Int32.ofNat xb.1)), .val (.int (Int32.ofNat xc.1)), .val (.int (Int32.ofNat xd.1)), .val (.int md), .val (.ref ob), .val (.ref sa), .val (.int (Int32.ofNat q5_.length)), .val (.int (Int32.ofNat (own_lst q4_)))] [])) _
          refine XS.aload X39.here hx rfl (hb hby at_313) rfl rfl ?_
          show Steps p.tables e below (T39.setTop (mkF m 315 #[.val (.int a1), .val (.int a2), .val (.int a3), .val (.int a4), .val (.int a5), .val (.int a6), .val (.int (Int32.ofNat (nf.1 + 1))), .val (.int (Int32.ofNat xa.1)), .val (.int (Int32.ofNat xb.1)), .val (.int (Int32.ofNat xc.1)), .val (.int (Int32.ofNat xd.1)), .val (.int md), .val (.ref ob), .val (.ref sa), .val (.int (Int32.ofNat q5_.length)), .val (.int (Int32.ofNat (own_lst q4_)))] [(.ref ob)])) _
          refine st46.trans ?_
          show Steps p.tables e below (T46.setTop (mkF m 318 #[.val (.int a1), .val (.int a2), .val (.int a3), .val (.int a4), .val (.int a5), .val (.int a6), .val (.int (Int32.ofNat (nf.1 + 1))), .val (.int (Int32.ofNat xa.1)), .val (.int (Int32.ofNat xb.1)), .val (.int (Int32.ofNat xc.1)), .val (.int (Int32.ofNat xd.1)), .val (.int md), .val (.ref ob), .val (.ref sa), .val (.int (Int32.ofNat q5_.length)), .val (.int (Int32.ofNat (own_lst q4_)))] [(.int (1 : Int32))])) _
          exact retN X46 hx (t := .boolean) Bd.returns (by simp) (hb hby at_318) hr
        · show own_Q0 Z a1 a2 a3 a4 a5 a6 h0 n0 _ T46.heap _
          rw [eq46]
          exact ⟨rfl, N46⟩
      case neg =>
        have hq1 : 1 ≤ q5_.length := own_nlt1 (by omega) hc217
        have hq3 : own_tok (nf.1 + 1) q5_ := c1 (own_nn1 hq1)
        have hq2 := hq3.1
        obtain ⟨cq47, kq47, q47a, q47b, q47c⟩ := isOf hZ rfl E_ob
        obtain ⟨_, _, ⟨T47, L47, k47, n47⟩, -, X47, ⟨Lc47, hQ47, l47, y47, z47⟩, st47⟩ := X39.virtualBack hx (y := (⟨"com/example/wary_observer/waryobserver/equivalence/Splitters", "take", "()I"⟩ : MethodName)) (z := (⟨"com/example/wary_observer/waryobserver/equivalence/Splitters", "take", "()I"⟩ : MethodName)) hown (mvT hZ (hw _ (List.mem_of_getElem? (i := 27) rfl))) (mvT hZ (hw _ (List.mem_of_getElem? (i := 28) rfl))) (notFace_of_selects (args := #[]) (mvT hZ (hw _ (List.mem_of_getElem? (i := 30) rfl)))) (mvT hZ (hw _ (List.mem_of_getElem? (i := 30) rfl))) (mvT hZ (hw _ (List.mem_of_getElem? (i := 29) rfl))) (by decide) (backOf (W := 0) (own_rm5 l Z a0 hw [] ob bl wt (nf.1 + 1) q5_ T39.heap n0 Z39 g_ob o1 o2 hn4 PB hq1 hq3) hZ (hw _ (List.mem_of_getElem? (i := 31) rfl)) (hw _ (List.mem_of_getElem? (i := 3) rfl)) (by decide) (by decide)) q47a q47c (g := (mkF m 222 #[.val (.int a1), .val (.int a2), .val (.int a3), .val (.int a4), .val (.int a5), .val (.int a6), .val (.int (Int32.ofNat (nf.1 + 1))), .val (.int (Int32.ofNat xa.1)), .val (.int (Int32.ofNat xb.1)), .val (.int (Int32.ofNat xc.1)), .val (.int (Int32.ofNat xd.1)), .val (.int md), .val (.ref ob), .val (.ref sa), .val (.int (Int32.ofNat q5_.length)), .val (.int (Int32.ofNat (own_lst q4_)))] [(.ref ob)])) rfl (by rw [hml]; rfl) (Steps.refl _) (argsL := []) (rest := []) (lenOf own_pd3 rfl) rfl (by show 2 * 0 + _ ≤ _; exact Nat.le_of_eq rfl) (hb hby at_222) (fun _ _ => ⟨rfl, rfl, (by decide : 4 + 0 ≤ _), (by decide : 16 + 0 ≤ _)⟩)
        dsimp only [Pt.U, Pt.locs, Pt.cells, Pt.slots] at X47 l47 y47 z47 st47 hQ47
        subst l47 y47 z47
        obtain ⟨rfl, Nq47, Kq47, PB⟩ := hQ47
        have N47 := Fr.app N39 Nq47
        have E_ob := E_ob.keep Kq47
        have PT := PT.keep Kq47 (ninS (Ne.symm ne_ob_sa) (ninS (Ne.symm ne_bl_sa) (ninS (Ne.symm ne_wt_sa) nin0)))
        have Z47 := Nat.le_trans Z39 Kq47.1
        have pre48 : ∀ t, Steps p.tables e below (T47.setTop (mkF m 235 #[.val (.int a1), .val (.int a2), .val (.int a3), .val (.int a4), .val (.int a5), .val (.int a6), .val (.int (Int32.ofNat (nf.1 + 1))), .val (.int (Int32.ofNat xa.1)), .val (.int (Int32.ofNat xb.1)), .val (.int (Int32.ofNat xc.1)), .val (.int (Int32.ofNat xd.1)), .val (.int md), .val (.ref ob), .val (.ref sa), .val (.int (Int32.ofNat q5_.length)), .val (.int (Int32.ofNat (own_lst q5_)))] [(.int ((Int32.ofNat q5_.length) - (1 : Int32))), (.ref sa), (.int (Int32.ofNat (own_lst q5_)))])) t → Steps p.tables e below (s₁.setTop (entryFrame m #[(.int a1), (.int a2), (.int a3), (.int a4), (.int a5), (.int a6)] maxLocals)) t := by
          intro t kt
          refine pre45 t ?_
          show Steps p.tables e below (T39.setTop (mkF m 217 #[.val (.int a1), .val (.int a2), .val (.int a3), .val (.int a4), .val (.int a5), .val (.int a6), .val (.int (Int32.ofNat (nf.1 + 1))), .val (.int (Int32.ofNat xa.1)), .val (.int (Int32.ofNat xb.1)), .val (.int (Int32.ofNat xc.1)), .val (.int (Int32.ofNat xd.1)), .val (.int md), .val (.ref ob), .val (.ref sa), .val (.int (Int32.ofNat q5_.length)), .val (.int (Int32.ofNat (own_lst q4_)))] [(.int (1 : Int32)), (.int (Int32.ofNat q5_.length))])) _
          refine XS.icmpNo X39.here hx rfl (hb hby at_217) rfl (flt hc217).1 ?_
          show Steps p.tables e below (T39.setTop (mkF m 220 #[.val (.int a1), .val (.int a2), .val (.int a3), .val (.int a4), .val (.int a5), .val (.int a6), .val (.int (Int32.ofNat (nf.1 + 1))), .val (.int (Int32.ofNat xa.1)), .val (.int (Int32.ofNat xb.1)), .val (.int (Int32.ofNat xc.1)), .val (.int (Int32.ofNat xd.1)), .val (.int md), .val (.ref ob), .val (.ref sa), .val (.int (Int32.ofNat q5_.length)), .val (.int (Int32.ofNat (own_lst q4_)))] [])) _
          refine XS.aload X39.here hx rfl (hb hby at_220) rfl rfl ?_
          show Steps p.tables e below (T39.setTop (mkF m 222 #[.val (.int a1), .val (.int a2), .val (.int a3), .val (.int a4), .val (.int a5), .val (.int a6), .val (.int (Int32.ofNat (nf.1 + 1))), .val (.int (Int32.ofNat xa.1)), .val (.int (Int32.ofNat xb.1)), .val (.int (Int32.ofNat xc.1)), .val (.int (Int32.ofNat xd.1)), .val (.int md), .val (.ref ob), .val (.ref sa), .val (.int (Int32.ofNat q5_.length)), .val (.int (Int32.ofNat (own_lst q4_)))] [(.ref ob)])) _
          refine st47.trans ?_
          show Steps p.tables e below (T47.setTop (mkF m 225 #[.val (.int a1), .val (.int a2), .val (.int a3), .val (.int a4), .val (.int a5), .val (.int a6), .val (.int (Int32.ofNat (nf.1 + 1))), .val (.int (Int32.ofNat xa.1)), .val (.int (Int32.ofNat xb.1)), .val (.int (Int32.ofNat xc.1)), .val (.int (Int32.ofNat xd.1)), .val (.int md), .val (.ref ob), .val (.ref sa), .val (.int (Int32.ofNat q5_.length)), .val (.int (Int32.ofNat (own_lst q4_)))] [(.int (Int32.ofNat (own_lst q5_)))])) _
          refine XS.istore X47.here hx rfl (hb hby at_225) rfl (l' := #[.val (.int a1), .val (.int a2), .val (.int a3), .val (.int a4), .val (.int a5), .val (.int a6), .val (.int (Int32.ofNat (nf.1 + 1))), .val (.int (Int32.ofNat xa.1)), .val (.int (Int32.ofNat xb.1)), .val (.int (Int32.ofNat xc.1)), .val (.int (Int32.ofNat xd.1)), .val (.int md), .val (.ref ob), .val (.ref sa), .val (.int (Int32.ofNat q5_.length)), .val (.int (Int32.ofNat (own_lst q5_)))]) rfl ?_
          show Steps p.tables e below (T47.setTop (mkF m 227 #[.val (.int a1), .val (.int a2), .val (.int a3), .val (.int a4), .val (.int a5), .val (.int a6), .val (.int (Int32.ofNat (nf.1 + 1))), .val (.int (Int32.ofNat xa.1)), .val (.int (Int32.ofNat xb.1)), .val (.int (Int32.ofNat xc.1)), .val (.int (Int32.ofNat xd.1)), .val (.int md), .val (.ref ob), .val (.ref sa), .val (.int (Int32.ofNat q5_.length)), .val (.int (Int32.ofNat (own_lst q5_)))] [])) _
          refine XS.iload X47.here hx rfl (hb hby at_227) rfl ?_
          show Steps p.tables e below (T47.setTop (mkF m 229 #[.val (.int a1), .val (.int a2), .val (.int a3), .val (.int a4), .val (.int a5), .val (.int a6), .val (.int (Int32.ofNat (nf.1 + 1))), .val (.int (Int32.ofNat xa.1)), .val (.int (Int32.ofNat xb.1)), .val (.int (Int32.ofNat xc.1)), .val (.int (Int32.ofNat xd.1)), .val (.int md), .val (.ref ob), .val (.ref sa), .val (.int (Int32.ofNat q5_.length)), .val (.int (Int32.ofNat (own_lst q5_)))] [(.int (Int32.ofNat (own_lst q5_)))])) _
          refine XS.aload X47.here hx rfl (hb hby at_229) rfl rfl ?_
          show Steps p.tables e below (T47.setTop (mkF m 231 #[.val (.int a1), .val (.int a2), .val (.int a3), .val (.int a4), .val (.int a5), .val (.int a6), .val (.int (Int32.ofNat (nf.1 + 1))), .val (.int (Int32.ofNat xa.1)), .val (.int (Int32.ofNat xb.1)), .val (.int (Int32.ofNat xc.1)), .val (.int (Int32.ofNat xd.1)), .val (.int md), .val (.ref ob), .val (.ref sa), .val (.int (Int32.ofNat q5_.length)), .val (.int (Int32.ofNat (own_lst q5_)))] [(.ref sa), (.int (Int32.ofNat (own_lst q5_)))])) _
          refine XS.iload X47.here hx rfl (hb hby at_231) rfl ?_
          show Steps p.tables e below (T47.setTop (mkF m 233 #[.val (.int a1), .val (.int a2), .val (.int a3), .val (.int a4), .val (.int a5), .val (.int a6), .val (.int (Int32.ofNat (nf.1 + 1))), .val (.int (Int32.ofNat xa.1)), .val (.int (Int32.ofNat xb.1)), .val (.int (Int32.ofNat xc.1)), .val (.int (Int32.ofNat xd.1)), .val (.int md), .val (.ref ob), .val (.ref sa), .val (.int (Int32.ofNat q5_.length)), .val (.int (Int32.ofNat (own_lst q5_)))] [(.int (Int32.ofNat q5_.length)), (.ref sa), (.int (Int32.ofNat (own_lst q5_)))])) _
          refine XS.iconst X47.here hx rfl (hb hby at_233) ?_
          show Steps p.tables e below (T47.setTop (mkF m 234 #[.val (.int a1), .val (.int a2), .val (.int a3), .val (.int a4), .val (.int a5), .val (.int a6), .val (.int (Int32.ofNat (nf.1 + 1))), .val (.int (Int32.ofNat xa.1)), .val (.int (Int32.ofNat xb.1)), .val (.int (Int32.ofNat xc.1)), .val (.int (Int32.ofNat xd.1)), .val (.int md), .val (.ref ob), .val (.ref sa), .val (.int (Int32.ofNat q5_.length)), .val (.int (Int32.ofNat (own_lst q5_)))] [(.int (1 : Int32)), (.int (Int32.ofNat q5_.length)), (.ref sa), (.int (Int32.ofNat (own_lst q5_)))])) _
          refine XS.isub X47.here hx rfl (hb hby at_234) rfl ?_
          exact kt
        have pre49 : ∀ t, Steps p.tables e below (T47.setTop (mkF m 235 #[.val (.int a1), .val (.int a2), .val (.int a3), .val (.int a4), .val (.int a5), .val (.int a6), .val (.int (Int32.ofNat (nf.1 + 1))), .val (.int (Int32.ofNat xa.1)), .val (.int (Int32.ofNat xb.1)), .val (.int (Int32.ofNat xc.1)), .val (.int (Int32.ofNat xd.1)), .val (.int md), .val (.ref ob), .val (.ref sa), .val (.int (Int32.ofNat q5_.length)), .val (.int (Int32.ofNat (own_lst q5_)))] [(.int (Int32.ofNat (q5_.length - 1))), (.ref sa), (.int (Int32.ofNat (own_lst q5_)))])) t → Steps p.tables e below (s₁.setTop (entryFrame m #[(.int a1), (.int a2), (.int a3), (.int a4), (.int a5), (.int a6)] maxLocals)) t := by rw [(own_dec hq1 : (Int32.ofNat (q5_.length - 1)) = ((Int32.ofNat q5_.length) - (1 : Int32)))]; exact pre48
        obtain ⟨sf, V_sa, hsf⟩ := PT
        have ld50 := (own_ldI X47 hx hZ rfl V_sa (j := (Int32.ofNat (q5_.length - 1))) (own_ix (by omega)).1 (k := (q5_.length - 1)) (own_ix (by omega)).2 (by omega) (v := (.int (Int32.ofNat (own_lst q5_)))) (congrArg Value.int (hsf _ (by omega))) (g := (mkF m 235 #[.val (.int a1), .val (.int a2), .val (.int a3), .val (.int a4), .val (.int a5), .val (.int a6), .val (.int (Int32.ofNat (nf.1 + 1))), .val (.int (Int32.ofNat xa.1)), .val (.int (Int32.ofNat xb.1)), .val (.int (Int32.ofNat xc.1)), .val (.int (Int32.ofNat xd.1)), .val (.int md), .val (.ref ob), .val (.ref sa), .val (.int (Int32.ofNat q5_.length)), .val (.int (Int32.ofNat (own_lst q5_)))] [(.int (Int32.ofNat (q5_.length - 1))), (.ref sa), (.int (Int32.ofNat (own_lst q5_)))])) rfl rfl (hb hby at_235))
        have PT : own_T Z sa q5_.dropLast T47.heap := own_T.drop ⟨sf, V_sa, hsf⟩
        have hall := own_all_drop hall
        obtain ⟨q6_, he6⟩ : ∃ z : List Nat, z = q5_.dropLast := ⟨_, rfl⟩
        rw [← he6] at PB PT hall
        have pre51 : ∀ t, Steps p.tables e below (T47.setTop (mkF m 247 #[.val (.int a1), .val (.int a2), .val (.int a3), .val (.int a4), .val (.int a5), .val (.int a6), .val (.int (Int32.ofNat (nf.1 + 1))), .val (.int (Int32.ofNat xa.1)), .val (.int (Int32.ofNat xb.1)), .val (.int (Int32.ofNat xc.1)), .val (.int (Int32.ofNat xd.1)), .val (.int md), .val (.ref ob), .val (.ref sa), .val (.int ((Int32.ofNat q5_.length) - (1 : Int32))), .val (.int (Int32.ofNat (own_lst q5_)))] [])) t → Steps p.tables e below (s₁.setTop (entryFrame m #[(.int a1), (.int a2), (.int a3), (.int a4), (.int a5), (.int a6)] maxLocals)) t := by
          intro t kt
          refine pre49 t ?_
          show Steps p.tables e below (T47.setTop (mkF m 235 #[.val (.int a1), .val (.int a2), .val (.int a3), .val (.int a4), .val (.int a5), .val (.int a6), .val (.int (Int32.ofNat (nf.1 + 1))), .val (.int (Int32.ofNat xa.1)), .val (.int (Int32.ofNat xb.1)), .val (.int (Int32.ofNat xc.1)), .val (.int (Int32.ofNat xd.1)), .val (.int md), .val (.ref ob), .val (.ref sa), .val (.int (Int32.ofNat q5_.length)), .val (.int (Int32.ofNat (own_lst q5_)))] [(.int (Int32.ofNat (q5_.length - 1))), (.ref sa), (.int (Int32.ofNat (own_lst q5_)))])) _
          refine ld50 _ ?_
          show Steps p.tables e below (T47.setTop (mkF m 236 #[.val (.int a1), .val (.int a2), .val (.int a3), .val (.int a4), .val (.int a5), .val (.int a6), .val (.int (Int32.ofNat (nf.1 + 1))), .val (.int (Int32.ofNat xa.1)), .val (.int (Int32.ofNat xb.1)), .val (.int (Int32.ofNat xc.1)), .val (.int (Int32.ofNat xd.1)), .val (.int md), .val (.ref ob), .val (.ref sa), .val (.int (Int32.ofNat q5_.length)), .val (.int (Int32.ofNat (own_lst q5_)))] [(.int (Int32.ofNat (own_lst q5_))), (.int (Int32.ofNat (own_lst q5_)))])) _
          refine XS.icmpYes X47.here hx rfl (pc0 := 236) (pc' := 241) rfl (hb hby at_236) rfl (teq rfl).1 (by decide) (by decide) ?_
          show Steps p.tables e below (T47.setTop (mkF m 241 #[.val (.int a1), .val (.int a2), .val (.int a3), .val (.int a4), .val (.int a5), .val (.int a6), .val (.int (Int32.ofNat (nf.1 + 1))), .val (.int (Int32.ofNat xa.1)), .val (.int (Int32.ofNat xb.1)), .val (.int (Int32.ofNat xc.1)), .val (.int (Int32.ofNat xd.1)), .val (.int md), .val (.ref ob), .val (.ref sa), .val (.int (Int32.ofNat q5_.length)), .val (.int (Int32.ofNat (own_lst q5_)))] [])) _
          refine XS.iload X47.here hx rfl (hb hby at_241) rfl ?_
          show Steps p.tables e below (T47.setTop (mkF m 243 #[.val (.int a1), .val (.int a2), .val (.int a3), .val (.int a4), .val (.int a5), .val (.int a6), .val (.int (Int32.ofNat (nf.1 + 1))), .val (.int (Int32.ofNat xa.1)), .val (.int (Int32.ofNat xb.1)), .val (.int (Int32.ofNat xc.1)), .val (.int (Int32.ofNat xd.1)), .val (.int md), .val (.ref ob), .val (.ref sa), .val (.int (Int32.ofNat q5_.length)), .val (.int (Int32.ofNat (own_lst q5_)))] [(.int (Int32.ofNat q5_.length))])) _
          refine XS.iconst X47.here hx rfl (hb hby at_243) ?_
          show Steps p.tables e below (T47.setTop (mkF m 244 #[.val (.int a1), .val (.int a2), .val (.int a3), .val (.int a4), .val (.int a5), .val (.int a6), .val (.int (Int32.ofNat (nf.1 + 1))), .val (.int (Int32.ofNat xa.1)), .val (.int (Int32.ofNat xb.1)), .val (.int (Int32.ofNat xc.1)), .val (.int (Int32.ofNat xd.1)), .val (.int md), .val (.ref ob), .val (.ref sa), .val (.int (Int32.ofNat q5_.length)), .val (.int (Int32.ofNat (own_lst q5_)))] [(.int (1 : Int32)), (.int (Int32.ofNat q5_.length))])) _
          refine XS.isub X47.here hx rfl (hb hby at_244) rfl ?_
          show Steps p.tables e below (T47.setTop (mkF m 245 #[.val (.int a1), .val (.int a2), .val (.int a3), .val (.int a4), .val (.int a5), .val (.int a6), .val (.int (Int32.ofNat (nf.1 + 1))), .val (.int (Int32.ofNat xa.1)), .val (.int (Int32.ofNat xb.1)), .val (.int (Int32.ofNat xc.1)), .val (.int (Int32.ofNat xd.1)), .val (.int md), .val (.ref ob), .val (.ref sa), .val (.int (Int32.ofNat q5_.length)), .val (.int (Int32.ofNat (own_lst q5_)))] [(.int ((Int32.ofNat q5_.length) - (1 : Int32)))])) _
          refine XS.istore X47.here hx rfl (hb hby at_245) rfl (l' := #[.val (.int a1), .val (.int a2), .val (.int a3), .val (.int a4), .val (.int a5), .val (.int a6), .val (.int (Int32.ofNat (nf.1 + 1))), .val (.int (Int32.ofNat xa.1)), .val (.int (Int32.ofNat xb.1)), .val (.int (Int32.ofNat xc.1)), .val (.int (Int32.ofNat xd.1)), .val (.int md), .val (.ref ob), .val (.ref sa), .val (.int ((Int32.ofNat q5_.length) - (1 : Int32))), .val (.int (Int32.ofNat (own_lst q5_)))]) rfl ?_
          exact kt
        have pre52 : ∀ t, Steps p.tables e below (T47.setTop (mkF m 247 #[.val (.int a1), .val (.int a2), .val (.int a3), .val (.int a4), .val (.int a5), .val (.int a6), .val (.int (Int32.ofNat (nf.1 + 1))), .val (.int (Int32.ofNat xa.1)), .val (.int (Int32.ofNat xb.1)), .val (.int (Int32.ofNat xc.1)), .val (.int (Int32.ofNat xd.1)), .val (.int md), .val (.ref ob), .val (.ref sa), .val (.int (Int32.ofNat q6_.length)), .val (.int (Int32.ofNat (own_lst q5_)))] [])) t → Steps p.tables e below (s₁.setTop (entryFrame m #[(.int a1), (.int a2), (.int a3), (.int a4), (.int a5), (.int a6)] maxLocals)) t := by rw [(by rw [he6, List.length_dropLast]; exact own_dec hq1 : (Int32.ofNat q6_.length) = ((Int32.ofNat q5_.length) - (1 : Int32)))]; exact pre51
        have len4 : q6_.length ≤ 2 := by rw [he6]; exact own_dl len4
        rw [← he6] at c2
        rw [← he6] at c3
        have pre53 : ∀ t, Steps p.tables e below (T47.setTop (mkF m 250 #[.val (.int a1), .val (.int a2), .val (.int a3), .val (.int a4), .val (.int a5), .val (.int a6), .val (.int (Int32.ofNat (nf.1 + 1))), .val (.int (Int32.ofNat xa.1)), .val (.int (Int32.ofNat xb.1)), .val (.int (Int32.ofNat xc.1)), .val (.int (Int32.ofNat xd.1)), .val (.int md), .val (.ref ob), .val (.ref sa), .val (.int (Int32.ofNat q6_.length)), .val (.int (Int32.ofNat (own_lst q5_)))] [(.int (1 : Int32)), (.int (Int32.ofNat q6_.length))])) t → Steps p.tables e below (s₁.setTop (entryFrame m #[(.int a1), (.int a2), (.int a3), (.int a4), (.int a5), (.int a6)] maxLocals)) t := by
          intro t kt
          refine pre52 t ?_
          show Steps p.tables e below (T47.setTop (mkF m 247 #[.val (.int a1), .val (.int a2), .val (.int a3), .val (.int a4), .val (.int a5), .val (.int a6), .val (.int (Int32.ofNat (nf.1 + 1))), .val (.int (Int32.ofNat xa.1)), .val (.int (Int32.ofNat xb.1)), .val (.int (Int32.ofNat xc.1)), .val (.int (Int32.ofNat xd.1)), .val (.int md), .val (.ref ob), .val (.ref sa), .val (.int (Int32.ofNat q6_.length)), .val (.int (Int32.ofNat (own_lst q5_)))] [])) _
          refine XS.iload X47.here hx rfl (hb hby at_247) rfl ?_
          show Steps p.tables e below (T47.setTop (mkF m 249 #[.val (.int a1), .val (.int a2), .val (.int a3), .val (.int a4), .val (.int a5), .val (.int a6), .val (.int (Int32.ofNat (nf.1 + 1))), .val (.int (Int32.ofNat xa.1)), .val (.int (Int32.ofNat xb.1)), .val (.int (Int32.ofNat xc.1)), .val (.int (Int32.ofNat xd.1)), .val (.int md), .val (.ref ob), .val (.ref sa), .val (.int (Int32.ofNat q6_.length)), .val (.int (Int32.ofNat (own_lst q5_)))] [(.int (Int32.ofNat q6_.length))])) _
          refine XS.iconst X47.here hx rfl (hb hby at_249) ?_
          exact kt
        by_cases hc250 : (Int32.ofNat q6_.length) < (1 : Int32)
        case pos =>
          have hl0 : q6_.length = 0 := own_lt1 (by omega) hc250
          have F0 : Fld Z T47.heap ob "com/example/wary_observer/waryobserver/equivalence/Splitters" "count" "I" (.int (0 : Int32)) := by have w := PB.2.2.2.1; rw [hl0] at w; exact w
          obtain ⟨cq54, kq54, q54a, q54b, q54c⟩ := isOf hZ rfl E_ob
          obtain ⟨_, _, ⟨T54, L54, k54, n54⟩, -, X54, ⟨Lc54, hQ54, l54, y54, z54⟩, st54⟩ := X47.virtualBack hx (y := (⟨"com/example/wary_observer/waryobserver/equivalence/Splitters", "isEmpty", "()Z"⟩ : MethodName)) (z := (⟨"com/example/wary_observer/waryobserver/equivalence/Splitters", "isEmpty", "()Z"⟩ : MethodName)) hown (mvT hZ (hw _ (List.mem_of_getElem? (i := 32) rfl))) (mvT hZ (hw _ (List.mem_of_getElem? (i := 33) rfl))) (notFace_of_selects (args := #[]) (mvT hZ (hw _ (List.mem_of_getElem? (i := 35) rfl)))) (mvT hZ (hw _ (List.mem_of_getElem? (i := 35) rfl))) (mvT hZ (hw _ (List.mem_of_getElem? (i := 34) rfl))) (by decide) (backOf (W := 0) (own_rm6 l Z a0 hw [] ob T47.heap n0 Z47 F0) hZ (hw _ (List.mem_of_getElem? (i := 36) rfl)) (hw _ (List.mem_of_getElem? (i := 3) rfl)) (by decide) (by decide)) q54a q54c (g := (mkF m 315 #[.val (.int a1), .val (.int a2), .val (.int a3), .val (.int a4), .val (.int a5), .val (.int a6), .val (.int (Int32.ofNat (nf.1 + 1))), .val (.int (Int32.ofNat xa.1)), .val (.int (Int32.ofNat xb.1)), .val (.int (Int32.ofNat xc.1)), .val (.int (Int32.ofNat xd.1)), .val (.int md), .val (.ref ob), .val (.ref sa), .val (.int (Int32.ofNat q6_.length)), .val (.int (Int32.ofNat (own_lst q5_)))] [(.ref ob)])) rfl (by rw [hml]; rfl) (Steps.refl _) (argsL := []) (rest := []) (lenOf own_pd2 rfl) rfl (by show 2 * 0 + _ ≤ _; exact Nat.le_of_eq rfl) (hb hby at_315) (fun _ _ => ⟨rfl, rfl, (by decide : 4 + 0 ≤ _), (by decide : 16 + 0 ≤ _)⟩)
          dsimp only [Pt.U, Pt.locs, Pt.cells, Pt.slots] at X54 l54 y54 z54 st54 hQ54
          subst l54 y54 z54
          obtain ⟨rfl, Nq54, eq54⟩ := hQ54
          have N54 := Fr.app N47 Nq54
          obtain ⟨fs, hr, hrun, hended, hW, hsame⟩ := X54.leave (v := some (.int (1 : Int32))) (fun h => by rw [Bd.returns] at h; cases h) (BodyLoose.notSynchronized Bd)
          refine ⟨_, _, pre53 _ ?_, hrun, hended, _, _, rfl, ?_, ⟨_, rfl⟩, hW, hsame.mono (by decide) (by decide)⟩
          · skip
            show Steps p.tables e below (T47.setTop (mkF m 250 #[.val (.int a1), .val (.int a2), .val (.int a3), .val (.int a4), .val (.int a5), .val (.int a6), .val (.int (Int32.ofNat (nf.1 + 1))), .val (.int (Int32.ofNat xa.1)), .val (.int (Int32.ofNat xb.1)), .val (.int (Int32.ofNat xc.1)), .val (.int (Int32.ofNat xd.1)), .val (.int md), .val (.ref ob), .val (.ref sa), .val (.int (Int32.ofNat q6_.length)), .val (.int (Int32.ofNat (own_lst q5_)))] [(.int (1 : Int32)), (.int (Int32.ofNat q6_.length))])) _
            refine XS.icmpYes X47.here hx rfl (pc0 := 250) (pc' := 280) rfl (hb hby at_250) rfl (tlt hc250).1 (by decide) (by decide) ?_
            show Steps p.tables e below (T47.setTop (mkF m 280 #[.val (.int a1), .val (.int a2), .val (.int a3), .val (.int a4), .val (.int a5), .val (.int a6), .val (.int (Int32.ofNat (nf.1 + 1))), .val (.int (Int32.ofNat xa.1)), .val (.int (Int32.ofNat xb.1)), .val (.int (Int32.ofNat xc.1)), .val (.int (Int32.ofNat xd.1)), .val (.int md), .val (.ref ob), .val (.ref sa), .val (.int (Int32.ofNat q6_.length)), .val (.int (Int32.ofNat (own_lst q5_)))] [])) _
            refine XS.iload X47.here hx rfl (hb hby at_280) rfl ?_
            show Steps p.tables e below (T47.setTop (mkF m 282 #[.val (.int a1), .val (.int a2), .val (.int a3), .val (.int a4), .val (.int a5), .val (.int a6), .val (.int (Int32.ofNat (nf.1 + 1))), .val (.int (Int32.ofNat xa.1)), .val (.int (Int32.ofNat xb.1)), .val (.int (Int32.ofNat xc.1)), .val (.int (Int32.ofNat xd.1)), .val (.int md), .val (.ref ob), .val (.ref sa), .val (.int (Int32.ofNat q6_.length)), .val (.int (Int32.ofNat (own_lst q5_)))] [(.int (Int32.ofNat q6_.length))])) _
            refine XS.iconst X47.here hx rfl (hb hby at_282) ?_
            show Steps p.tables e below (T47.setTop (mkF m 283 #[.val (.int a1), .val (.int a2), .val (.int a3), .val (.int a4), .val (.int a5), .val (.int a6), .val (.int (Int32.ofNat (nf.1 + 1))), .val (.int (Int32.ofNat xa.1)), .val (.int (Int32.ofNat xb.1)), .val (.int (Int32.ofNat xc.1)), .val (.int (Int32.ofNat xd.1)), .val (.int md), .val (.ref ob), .val (.ref sa), .val (.int (Int32.ofNat q6_.length)), .val (.int (Int32.ofNat (own_lst q5_)))] [(.int (1 : Int32)), (.int (Int32.ofNat q6_.length))])) _
            refine XS.icmpYes X47.here hx rfl (pc0 := 283) (pc' := 313) rfl (hb hby at_283) rfl (tlt hc250).1 (by decide) (by decide) ?_
            show Steps p.tables e below (T47.setTop (mkF m 313 #[.val (.int a1), .val (.int a2), .val (.int a3), .val (.int a4), .val (.int a5), .val (.int a6), .val (.int (Int32.ofNat (nf.1 + 1))), .val (.int (Int32.ofNat xa.1)), .val (.int (Int32.ofNat xb.1)), .val (.int (Int32.ofNat xc.1)), .val (.int (Int32.ofNat xd.1)), .val (.int md), .val (.ref ob), .val (.ref sa), .val (.int (Int32.ofNat q6_.length)), .val (.int (Int32.ofNat (own_lst q5_)))] [])) _
            refine XS.aload X47.here hx rfl (hb hby at_313) rfl rfl ?_
            show Steps p.tables e below (T47.setTop (mkF m 315 #[.val (.int a1), .val (.int a2), .val (.int a3), .val (.int a4), .val (.int a5), .val (.int a6), .val (.int (Int32.ofNat (nf.1 + 1))), .val (.int (Int32.ofNat xa.1)), .val (.int (Int32.ofNat xb.1)), .val (.int (Int32.ofNat xc.1)), .val (.int (Int32.ofNat xd.1)), .val (.int md), .val (.ref ob), .val (.ref sa), .val (.int (Int32.ofNat q6_.length)), .val (.int (Int32.ofNat (own_lst q5_)))] [(.ref ob)])) _
            refine st54.trans ?_
            show Steps p.tables e below (T54.setTop (mkF m 318 #[.val (.int a1), .val (.int a2), .val (.int a3), .val (.int a4), .val (.int a5), .val (.int a6), .val (.int (Int32.ofNat (nf.1 + 1))), .val (.int (Int32.ofNat xa.1)), .val (.int (Int32.ofNat xb.1)), .val (.int (Int32.ofNat xc.1)), .val (.int (Int32.ofNat xd.1)), .val (.int md), .val (.ref ob), .val (.ref sa), .val (.int (Int32.ofNat q6_.length)), .val (.int (Int32.ofNat (own_lst q5_)))] [(.int (1 : Int32))])) _
            exact retN X54 hx (t := .boolean) Bd.returns (by simp) (hb hby at_318) hr
          · show own_Q0 Z a1 a2 a3 a4 a5 a6 h0 n0 _ T54.heap _
            rw [eq54]
            exact ⟨rfl, N54⟩
        case neg =>
          have hq1 : 1 ≤ q6_.length := own_nlt1 (by omega) hc250
          have hq3 : own_tok (nf.1 + 1) q6_ := c2 (own_nn1 hq1)
          have hq2 := hq3.1
          obtain ⟨cq55, kq55, q55a, q55b, q55c⟩ := isOf hZ rfl E_ob
          obtain ⟨_, _, ⟨T55, L55, k55, n55⟩, -, X55, ⟨Lc55, hQ55, l55, y55, z55⟩, st55⟩ := X47.virtualBack hx (y := (⟨"com/example/wary_observer/waryobserver/equivalence/Splitters", "take", "()I"⟩ : MethodName)) (z := (⟨"com/example/wary_observer/waryobserver/equivalence/Splitters", "take", "()I"⟩ : MethodName)) hown (mvT hZ (hw _ (List.mem_of_getElem? (i := 27) rfl))) (mvT hZ (hw _ (List.mem_of_getElem? (i := 28) rfl))) (notFace_of_selects (args := #[]) (mvT hZ (hw _ (List.mem_of_getElem? (i := 30) rfl)))) (mvT hZ (hw _ (List.mem_of_getElem? (i := 30) rfl))) (mvT hZ (hw _ (List.mem_of_getElem? (i := 29) rfl))) (by decide) (backOf (W := 0) (own_rm5 l Z a0 hw [] ob bl wt (nf.1 + 1) q6_ T47.heap n0 Z47 g_ob o1 o2 hn4 PB hq1 hq3) hZ (hw _ (List.mem_of_getElem? (i := 31) rfl)) (hw _ (List.mem_of_getElem? (i := 3) rfl)) (by decide) (by decide)) q55a q55c (g := (mkF m 255 #[.val (.int a1), .val (.int a2), .val (.int a3), .val (.int a4), .val (.int a5), .val (.int a6), .val (.int (Int32.ofNat (nf.1 + 1))), .val (.int (Int32.ofNat xa.1)), .val (.int (Int32.ofNat xb.1)), .val (.int (Int32.ofNat xc.1)), .val (.int (Int32.ofNat xd.1)), .val (.int md), .val (.ref ob), .val (.ref sa), .val (.int (Int32.ofNat q6_.length)), .val (.int (Int32.ofNat (own_lst q5_)))] [(.ref ob)])) rfl (by rw [hml]; rfl) (Steps.refl _) (argsL := []) (rest := []) (lenOf own_pd3 rfl) rfl (by show 2 * 0 + _ ≤ _; exact Nat.le_of_eq rfl) (hb hby at_255) (fun _ _ => ⟨rfl, rfl, (by decide : 4 + 0 ≤ _), (by decide : 16 + 0 ≤ _)⟩)
          dsimp only [Pt.U, Pt.locs, Pt.cells, Pt.slots] at X55 l55 y55 z55 st55 hQ55
          subst l55 y55 z55
          obtain ⟨rfl, Nq55, Kq55, PB⟩ := hQ55
          have N55 := Fr.app N47 Nq55
          have E_ob := E_ob.keep Kq55
          have PT := PT.keep Kq55 (ninS (Ne.symm ne_ob_sa) (ninS (Ne.symm ne_bl_sa) (ninS (Ne.symm ne_wt_sa) nin0)))
          have Z55 := Nat.le_trans Z47 Kq55.1
          have pre56 : ∀ t, Steps p.tables e below (T55.setTop (mkF m 268 #[.val (.int a1), .val (.int a2), .val (.int a3), .val (.int a4), .val (.int a5), .val (.int a6), .val (.int (Int32.ofNat (nf.1 + 1))), .val (.int (Int32.ofNat xa.1)), .val (.int (Int32.ofNat xb.1)), .val (.int (Int32.ofNat xc.1)), .val (.int (Int32.ofNat xd.1)), .val (.int md), .val (.ref ob), .val (.ref sa), .val (.int (Int32.ofNat q6_.length)), .val (.int (Int32.ofNat (own_lst q6_)))] [(.int ((Int32.ofNat q6_.length) - (1 : Int32))), (.ref sa), (.int (Int32.ofNat (own_lst q6_)))])) t → Steps p.tables e below (s₁.setTop (entryFrame m #[(.int a1), (.int a2), (.int a3), (.int a4), (.int a5), (.int a6)] maxLocals)) t := by
            intro t kt
            refine pre53 t ?_
            show Steps p.tables e below (T47.setTop (mkF m 250 #[.val (.int a1), .val (.int a2), .val (.int a3), .val (.int a4), .val (.int a5), .val (.int a6), .val (.int (Int32.ofNat (nf.1 + 1))), .val (.int (Int32.ofNat xa.1)), .val (.int (Int32.ofNat xb.1)), .val (.int (Int32.ofNat xc.1)), .val (.int (Int32.ofNat xd.1)), .val (.int md), .val (.ref ob), .val (.ref sa), .val (.int (Int32.ofNat q6_.length)), .val (.int (Int32.ofNat (own_lst q5_)))] [(.int (1 : Int32)), (.int (Int32.ofNat q6_.length))])) _
            refine XS.icmpNo X47.here hx rfl (hb hby at_250) rfl (flt hc250).1 ?_
            show Steps p.tables e below (T47.setTop (mkF m 253 #[.val (.int a1), .val (.int a2), .val (.int a3), .val (.int a4), .val (.int a5), .val (.int a6), .val (.int (Int32.ofNat (nf.1 + 1))), .val (.int (Int32.ofNat xa.1)), .val (.int (Int32.ofNat xb.1)), .val (.int (Int32.ofNat xc.1)), .val (.int (Int32.ofNat xd.1)), .val (.int md), .val (.ref ob), .val (.ref sa), .val (.int (Int32.ofNat q6_.length)), .val (.int (Int32.ofNat (own_lst q5_)))] [])) _
            refine XS.aload X47.here hx rfl (hb hby at_253) rfl rfl ?_
            show Steps p.tables e below (T47.setTop (mkF m 255 #[.val (.int a1), .val (.int a2), .val (.int a3), .val (.int a4), .val (.int a5), .val (.int a6), .val (.int (Int32.ofNat (nf.1 + 1))), .val (.int (Int32.ofNat xa.1)), .val (.int (Int32.ofNat xb.1)), .val (.int (Int32.ofNat xc.1)), .val (.int (Int32.ofNat xd.1)), .val (.int md), .val (.ref ob), .val (.ref sa), .val (.int (Int32.ofNat q6_.length)), .val (.int (Int32.ofNat (own_lst q5_)))] [(.ref ob)])) _
            refine st55.trans ?_
            show Steps p.tables e below (T55.setTop (mkF m 258 #[.val (.int a1), .val (.int a2), .val (.int a3), .val (.int a4), .val (.int a5), .val (.int a6), .val (.int (Int32.ofNat (nf.1 + 1))), .val (.int (Int32.ofNat xa.1)), .val (.int (Int32.ofNat xb.1)), .val (.int (Int32.ofNat xc.1)), .val (.int (Int32.ofNat xd.1)), .val (.int md), .val (.ref ob), .val (.ref sa), .val (.int (Int32.ofNat q6_.length)), .val (.int (Int32.ofNat (own_lst q5_)))] [(.int (Int32.ofNat (own_lst q6_)))])) _
            refine XS.istore X55.here hx rfl (hb hby at_258) rfl (l' := #[.val (.int a1), .val (.int a2), .val (.int a3), .val (.int a4), .val (.int a5), .val (.int a6), .val (.int (Int32.ofNat (nf.1 + 1))), .val (.int (Int32.ofNat xa.1)), .val (.int (Int32.ofNat xb.1)), .val (.int (Int32.ofNat xc.1)), .val (.int (Int32.ofNat xd.1)), .val (.int md), .val (.ref ob), .val (.ref sa), .val (.int (Int32.ofNat q6_.length)), .val (.int (Int32.ofNat (own_lst q6_)))]) rfl ?_
            show Steps p.tables e below (T55.setTop (mkF m 260 #[.val (.int a1), .val (.int a2), .val (.int a3), .val (.int a4), .val (.int a5), .val (.int a6), .val (.int (Int32.ofNat (nf.1 + 1))), .val (.int (Int32.ofNat xa.1)), .val (.int (Int32.ofNat xb.1)), .val (.int (Int32.ofNat xc.1)), .val (.int (Int32.ofNat xd.1)), .val (.int md), .val (.ref ob), .val (.ref sa), .val (.int (Int32.ofNat q6_.length)), .val (.int (Int32.ofNat (own_lst q6_)))] [])) _
            refine XS.iload X55.here hx rfl (hb hby at_260) rfl ?_
            show Steps p.tables e below (T55.setTop (mkF m 262 #[.val (.int a1), .val (.int a2), .val (.int a3), .val (.int a4), .val (.int a5), .val (.int a6), .val (.int (Int32.ofNat (nf.1 + 1))), .val (.int (Int32.ofNat xa.1)), .val (.int (Int32.ofNat xb.1)), .val (.int (Int32.ofNat xc.1)), .val (.int (Int32.ofNat xd.1)), .val (.int md), .val (.ref ob), .val (.ref sa), .val (.int (Int32.ofNat q6_.length)), .val (.int (Int32.ofNat (own_lst q6_)))] [(.int (Int32.ofNat (own_lst q6_)))])) _
            refine XS.aload X55.here hx rfl (hb hby at_262) rfl rfl ?_
            show Steps p.tables e below (T55.setTop (mkF m 264 #[.val (.int a1), .val (.int a2), .val (.int a3), .val (.int a4), .val (.int a5), .val (.int a6), .val (.int (Int32.ofNat (nf.1 + 1))), .val (.int (Int32.ofNat xa.1)), .val (.int (Int32.ofNat xb.1)), .val (.int (Int32.ofNat xc.1)), .val (.int (Int32.ofNat xd.1)), .val (.int md), .val (.ref ob), .val (.ref sa), .val (.int (Int32.ofNat q6_.length)), .val (.int (Int32.ofNat (own_lst q6_)))] [(.ref sa), (.int (Int32.ofNat (own_lst q6_)))])) _
            refine XS.iload X55.here hx rfl (hb hby at_264) rfl ?_
            show Steps p.tables e below (T55.setTop (mkF m 266 #[.val (.int a1), .val (.int a2), .val (.int a3), .val (.int a4), .val (.int a5), .val (.int a6), .val (.int (Int32.ofNat (nf.1 + 1))), .val (.int (Int32.ofNat xa.1)), .val (.int (Int32.ofNat xb.1)), .val (.int (Int32.ofNat xc.1)), .val (.int (Int32.ofNat xd.1)), .val (.int md), .val (.ref ob), .val (.ref sa), .val (.int (Int32.ofNat q6_.length)), .val (.int (Int32.ofNat (own_lst q6_)))] [(.int (Int32.ofNat q6_.length)), (.ref sa), (.int (Int32.ofNat (own_lst q6_)))])) _
            refine XS.iconst X55.here hx rfl (hb hby at_266) ?_
            show Steps p.tables e below (T55.setTop (mkF m 267 #[.val (.int a1), .val (.int a2), .val (.int a3), .val (.int a4), .val (.int a5), .val (.int a6), .val (.int (Int32.ofNat (nf.1 + 1))), .val (.int (Int32.ofNat xa.1)), .val (.int (Int32.ofNat xb.1)), .val (.int (Int32.ofNat xc.1)), .val (.int (Int32.ofNat xd.1)), .val (.int md), .val (.ref ob), .val (.ref sa), .val (.int (Int32.ofNat q6_.length)), .val (.int (Int32.ofNat (own_lst q6_)))] [(.int (1 : Int32)), (.int (Int32.ofNat q6_.length)), (.ref sa), (.int (Int32.ofNat (own_lst q6_)))])) _
            refine XS.isub X55.here hx rfl (hb hby at_267) rfl ?_
            exact kt
          have pre57 : ∀ t, Steps p.tables e below (T55.setTop (mkF m 268 #[.val (.int a1), .val (.int a2), .val (.int a3), .val (.int a4), .val (.int a5), .val (.int a6), .val (.int (Int32.ofNat (nf.1 + 1))), .val (.int (Int32.ofNat xa.1)), .val (.int (Int32.ofNat xb.1)), .val (.int (Int32.ofNat xc.1)), .val (.int (Int32.ofNat xd.1)), .val (.int md), .val (.ref ob), .val (.ref sa), .val (.int (Int32.ofNat q6_.length)), .val (.int (Int32.ofNat (own_lst q6_)))] [(.int (Int32.ofNat (q6_.length - 1))), (.ref sa), (.int (Int32.ofNat (own_lst q6_)))])) t → Steps p.tables e below (s₁.setTop (entryFrame m #[(.int a1), (.int a2), (.int a3), (.int a4), (.int a5), (.int a6)] maxLocals)) t := by rw [(own_dec hq1 : (Int32.ofNat (q6_.length - 1)) = ((Int32.ofNat q6_.length) - (1 : Int32)))]; exact pre56
          obtain ⟨sf, V_sa, hsf⟩ := PT
          have ld58 := (own_ldI X55 hx hZ rfl V_sa (j := (Int32.ofNat (q6_.length - 1))) (own_ix (by omega)).1 (k := (q6_.length - 1)) (own_ix (by omega)).2 (by omega) (v := (.int (Int32.ofNat (own_lst q6_)))) (congrArg Value.int (hsf _ (by omega))) (g := (mkF m 268 #[.val (.int a1), .val (.int a2), .val (.int a3), .val (.int a4), .val (.int a5), .val (.int a6), .val (.int (Int32.ofNat (nf.1 + 1))), .val (.int (Int32.ofNat xa.1)), .val (.int (Int32.ofNat xb.1)), .val (.int (Int32.ofNat xc.1)), .val (.int (Int32.ofNat xd.1)), .val (.int md), .val (.ref ob), .val (.ref sa), .val (.int (Int32.ofNat q6_.length)), .val (.int (Int32.ofNat (own_lst q6_)))] [(.int (Int32.ofNat (q6_.length - 1))), (.ref sa), (.int (Int32.ofNat (own_lst q6_)))])) rfl rfl (hb hby at_268))
          have PT : own_T Z sa q6_.dropLast T55.heap := own_T.drop ⟨sf, V_sa, hsf⟩
          have hall := own_all_drop hall
          obtain ⟨q7_, he7⟩ : ∃ z : List Nat, z = q6_.dropLast := ⟨_, rfl⟩
          rw [← he7] at PB PT hall
          have pre59 : ∀ t, Steps p.tables e below (T55.setTop (mkF m 280 #[.val (.int a1), .val (.int a2), .val (.int a3), .val (.int a4), .val (.int a5), .val (.int a6), .val (.int (Int32.ofNat (nf.1 + 1))), .val (.int (Int32.ofNat xa.1)), .val (.int (Int32.ofNat xb.1)), .val (.int (Int32.ofNat xc.1)), .val (.int (Int32.ofNat xd.1)), .val (.int md), .val (.ref ob), .val (.ref sa), .val (.int ((Int32.ofNat q6_.length) - (1 : Int32))), .val (.int (Int32.ofNat (own_lst q6_)))] [])) t → Steps p.tables e below (s₁.setTop (entryFrame m #[(.int a1), (.int a2), (.int a3), (.int a4), (.int a5), (.int a6)] maxLocals)) t := by
            intro t kt
            refine pre57 t ?_
            show Steps p.tables e below (T55.setTop (mkF m 268 #[.val (.int a1), .val (.int a2), .val (.int a3), .val (.int a4), .val (.int a5), .val (.int a6), .val (.int (Int32.ofNat (nf.1 + 1))), .val (.int (Int32.ofNat xa.1)), .val (.int (Int32.ofNat xb.1)), .val (.int (Int32.ofNat xc.1)), .val (.int (Int32.ofNat xd.1)), .val (.int md), .val (.ref ob), .val (.ref sa), .val (.int (Int32.ofNat q6_.length)), .val (.int (Int32.ofNat (own_lst q6_)))] [(.int (Int32.ofNat (q6_.length - 1))), (.ref sa), (.int (Int32.ofNat (own_lst q6_)))])) _
            refine ld58 _ ?_
            show Steps p.tables e below (T55.setTop (mkF m 269 #[.val (.int a1), .val (.int a2), .val (.int a3), .val (.int a4), .val (.int a5), .val (.int a6), .val (.int (Int32.ofNat (nf.1 + 1))), .val (.int (Int32.ofNat xa.1)), .val (.int (Int32.ofNat xb.1)), .val (.int (Int32.ofNat xc.1)), .val (.int (Int32.ofNat xd.1)), .val (.int md), .val (.ref ob), .val (.ref sa), .val (.int (Int32.ofNat q6_.length)), .val (.int (Int32.ofNat (own_lst q6_)))] [(.int (Int32.ofNat (own_lst q6_))), (.int (Int32.ofNat (own_lst q6_)))])) _
            refine XS.icmpYes X55.here hx rfl (pc0 := 269) (pc' := 274) rfl (hb hby at_269) rfl (teq rfl).1 (by decide) (by decide) ?_
            show Steps p.tables e below (T55.setTop (mkF m 274 #[.val (.int a1), .val (.int a2), .val (.int a3), .val (.int a4), .val (.int a5), .val (.int a6), .val (.int (Int32.ofNat (nf.1 + 1))), .val (.int (Int32.ofNat xa.1)), .val (.int (Int32.ofNat xb.1)), .val (.int (Int32.ofNat xc.1)), .val (.int (Int32.ofNat xd.1)), .val (.int md), .val (.ref ob), .val (.ref sa), .val (.int (Int32.ofNat q6_.length)), .val (.int (Int32.ofNat (own_lst q6_)))] [])) _
            refine XS.iload X55.here hx rfl (hb hby at_274) rfl ?_
            show Steps p.tables e below (T55.setTop (mkF m 276 #[.val (.int a1), .val (.int a2), .val (.int a3), .val (.int a4), .val (.int a5), .val (.int a6), .val (.int (Int32.ofNat (nf.1 + 1))), .val (.int (Int32.ofNat xa.1)), .val (.int (Int32.ofNat xb.1)), .val (.int (Int32.ofNat xc.1)), .val (.int (Int32.ofNat xd.1)), .val (.int md), .val (.ref ob), .val (.ref sa), .val (.int (Int32.ofNat q6_.length)), .val (.int (Int32.ofNat (own_lst q6_)))] [(.int (Int32.ofNat q6_.length))])) _
            refine XS.iconst X55.here hx rfl (hb hby at_276) ?_
            show Steps p.tables e below (T55.setTop (mkF m 277 #[.val (.int a1), .val (.int a2), .val (.int a3), .val (.int a4), .val (.int a5), .val (.int a6), .val (.int (Int32.ofNat (nf.1 + 1))), .val (.int (Int32.ofNat xa.1)), .val (.int (Int32.ofNat xb.1)), .val (.int (Int32.ofNat xc.1)), .val (.int (Int32.ofNat xd.1)), .val (.int md), .val (.ref ob), .val (.ref sa), .val (.int (Int32.ofNat q6_.length)), .val (.int (Int32.ofNat (own_lst q6_)))] [(.int (1 : Int32)), (.int (Int32.ofNat q6_.length))])) _
            refine XS.isub X55.here hx rfl (hb hby at_277) rfl ?_
            show Steps p.tables e below (T55.setTop (mkF m 278 #[.val (.int a1), .val (.int a2), .val (.int a3), .val (.int a4), .val (.int a5), .val (.int a6), .val (.int (Int32.ofNat (nf.1 + 1))), .val (.int (Int32.ofNat xa.1)), .val (.int (Int32.ofNat xb.1)), .val (.int (Int32.ofNat xc.1)), .val (.int (Int32.ofNat xd.1)), .val (.int md), .val (.ref ob), .val (.ref sa), .val (.int (Int32.ofNat q6_.length)), .val (.int (Int32.ofNat (own_lst q6_)))] [(.int ((Int32.ofNat q6_.length) - (1 : Int32)))])) _
            refine XS.istore X55.here hx rfl (hb hby at_278) rfl (l' := #[.val (.int a1), .val (.int a2), .val (.int a3), .val (.int a4), .val (.int a5), .val (.int a6), .val (.int (Int32.ofNat (nf.1 + 1))), .val (.int (Int32.ofNat xa.1)), .val (.int (Int32.ofNat xb.1)), .val (.int (Int32.ofNat xc.1)), .val (.int (Int32.ofNat xd.1)), .val (.int md), .val (.ref ob), .val (.ref sa), .val (.int ((Int32.ofNat q6_.length) - (1 : Int32))), .val (.int (Int32.ofNat (own_lst q6_)))]) rfl ?_
            exact kt
          have pre60 : ∀ t, Steps p.tables e below (T55.setTop (mkF m 280 #[.val (.int a1), .val (.int a2), .val (.int a3), .val (.int a4), .val (.int a5), .val (.int a6), .val (.int (Int32.ofNat (nf.1 + 1))), .val (.int (Int32.ofNat xa.1)), .val (.int (Int32.ofNat xb.1)), .val (.int (Int32.ofNat xc.1)), .val (.int (Int32.ofNat xd.1)), .val (.int md), .val (.ref ob), .val (.ref sa), .val (.int (Int32.ofNat q7_.length)), .val (.int (Int32.ofNat (own_lst q6_)))] [])) t → Steps p.tables e below (s₁.setTop (entryFrame m #[(.int a1), (.int a2), (.int a3), (.int a4), (.int a5), (.int a6)] maxLocals)) t := by rw [(by rw [he7, List.length_dropLast]; exact own_dec hq1 : (Int32.ofNat q7_.length) = ((Int32.ofNat q6_.length) - (1 : Int32)))]; exact pre59
          have len4 : q7_.length ≤ 1 := by rw [he7]; exact own_dl len4
          rw [← he7] at c3
          have pre61 : ∀ t, Steps p.tables e below (T55.setTop (mkF m 283 #[.val (.int a1), .val (.int a2), .val (.int a3), .val (.int a4), .val (.int a5), .val (.int a6), .val (.int (Int32.ofNat (nf.1 + 1))), .val (.int (Int32.ofNat xa.1)), .val (.int (Int32.ofNat xb.1)), .val (.int (Int32.ofNat xc.1)), .val (.int (Int32.ofNat xd.1)), .val (.int md), .val (.ref ob), .val (.ref sa), .val (.int (Int32.ofNat q7_.length)), .val (.int (Int32.ofNat (own_lst q6_)))] [(.int (1 : Int32)), (.int (Int32.ofNat q7_.length))])) t → Steps p.tables e below (s₁.setTop (entryFrame m #[(.int a1), (.int a2), (.int a3), (.int a4), (.int a5), (.int a6)] maxLocals)) t := by
            intro t kt
            refine pre60 t ?_
            show Steps p.tables e below (T55.setTop (mkF m 280 #[.val (.int a1), .val (.int a2), .val (.int a3), .val (.int a4), .val (.int a5), .val (.int a6), .val (.int (Int32.ofNat (nf.1 + 1))), .val (.int (Int32.ofNat xa.1)), .val (.int (Int32.ofNat xb.1)), .val (.int (Int32.ofNat xc.1)), .val (.int (Int32.ofNat xd.1)), .val (.int md), .val (.ref ob), .val (.ref sa), .val (.int (Int32.ofNat q7_.length)), .val (.int (Int32.ofNat (own_lst q6_)))] [])) _
            refine XS.iload X55.here hx rfl (hb hby at_280) rfl ?_
            show Steps p.tables e below (T55.setTop (mkF m 282 #[.val (.int a1), .val (.int a2), .val (.int a3), .val (.int a4), .val (.int a5), .val (.int a6), .val (.int (Int32.ofNat (nf.1 + 1))), .val (.int (Int32.ofNat xa.1)), .val (.int (Int32.ofNat xb.1)), .val (.int (Int32.ofNat xc.1)), .val (.int (Int32.ofNat xd.1)), .val (.int md), .val (.ref ob), .val (.ref sa), .val (.int (Int32.ofNat q7_.length)), .val (.int (Int32.ofNat (own_lst q6_)))] [(.int (Int32.ofNat q7_.length))])) _
            refine XS.iconst X55.here hx rfl (hb hby at_282) ?_
            exact kt
          by_cases hc283 : (Int32.ofNat q7_.length) < (1 : Int32)
          case pos =>
            have hl0 : q7_.length = 0 := own_lt1 (by omega) hc283
            have F0 : Fld Z T55.heap ob "com/example/wary_observer/waryobserver/equivalence/Splitters" "count" "I" (.int (0 : Int32)) := by have w := PB.2.2.2.1; rw [hl0] at w; exact w
            obtain ⟨cq62, kq62, q62a, q62b, q62c⟩ := isOf hZ rfl E_ob
            obtain ⟨_, _, ⟨T62, L62, k62, n62⟩, -, X62, ⟨Lc62, hQ62, l62, y62, z62⟩, st62⟩ := X55.virtualBack hx (y := (⟨"com/example/wary_observer/waryobserver/equivalence/Splitters", "isEmpty", "()Z"⟩ : MethodName)) (z := (⟨"com/example/wary_observer/waryobserver/equivalence/Splitters", "isEmpty", "()Z"⟩ : MethodName)) hown (mvT hZ (hw _ (List.mem_of_getElem? (i := 32) rfl))) (mvT hZ (hw _ (List.mem_of_getElem? (i := 33) rfl))) (notFace_of_selects (args := #[]) (mvT hZ (hw _ (List.mem_of_getElem? (i := 35) rfl)))) (mvT hZ (hw _ (List.mem_of_getElem? (i := 35) rfl))) (mvT hZ (hw _ (List.mem_of_getElem? (i := 34) rfl))) (by decide) (backOf (W := 0) (own_rm6 l Z a0 hw [] ob T55.heap n0 Z55 F0) hZ (hw _ (List.mem_of_getElem? (i := 36) rfl)) (hw _ (List.mem_of_getElem? (i := 3) rfl)) (by decide) (by decide)) q62a q62c (g := (mkF m 315 #[.val (.int a1), .val (.int a2), .val (.int a3), .val (.int a4), .val (.int a5), .val (.int a6), .val (.int (Int32.ofNat (nf.1 + 1))), .val (.int (Int32.ofNat xa.1)), .val (.int (Int32.ofNat xb.1)), .val (.int (Int32.ofNat xc.1)), .val (.int (Int32.ofNat xd.1)), .val (.int md), .val (.ref ob), .val (.ref sa), .val (.int (Int32.ofNat q7_.length)), .val (.int (Int32.ofNat (own_lst q6_)))] [(.ref ob)])) rfl (by rw [hml]; rfl) (Steps.refl _) (argsL := []) (rest := []) (lenOf own_pd2 rfl) rfl (by show 2 * 0 + _ ≤ _; exact Nat.le_of_eq rfl) (hb hby at_315) (fun _ _ => ⟨rfl, rfl, (by decide : 4 + 0 ≤ _), (by decide : 16 + 0 ≤ _)⟩)
            dsimp only [Pt.U, Pt.locs, Pt.cells, Pt.slots] at X62 l62 y62 z62 st62 hQ62
            subst l62 y62 z62
            obtain ⟨rfl, Nq62, eq62⟩ := hQ62
            have N62 := Fr.app N55 Nq62
            obtain ⟨fs, hr, hrun, hended, hW, hsame⟩ := X62.leave (v := some (.int (1 : Int32))) (fun h => by rw [Bd.returns] at h; cases h) (BodyLoose.notSynchronized Bd)
            refine ⟨_, _, pre61 _ ?_, hrun, hended, _, _, rfl, ?_, ⟨_, rfl⟩, hW, hsame.mono (by decide) (by decide)⟩
            · skip
              show Steps p.tables e below (T55.setTop (mkF m 283 #[.val (.int a1), .val (.int a2), .val (.int a3), .val (.int a4), .val (.int a5), .val (.int a6), .val (.int (Int32.ofNat (nf.1 + 1))), .val (.int (Int32.ofNat xa.1)), .val (.int (Int32.ofNat xb.1)), .val (.int (Int32.ofNat xc.1)), .val (.int (Int32.ofNat xd.1)), .val (.int md), .val (.ref ob), .val (.ref sa), .val (.int (Int32.ofNat q7_.length)), .val (.int (Int32.ofNat (own_lst q6_)))] [(.int (1 : Int32)), (.int (Int32.ofNat q7_.length))])) _
              refine XS.icmpYes X55.here hx rfl (pc0 := 283) (pc' := 313) rfl (hb hby at_283) rfl (tlt hc283).1 (by decide) (by decide) ?_
              show Steps p.tables e below (T55.setTop (mkF m 313 #[.val (.int a1), .val (.int a2), .val (.int a3), .val (.int a4), .val (.int a5), .val (.int a6), .val (.int (Int32.ofNat (nf.1 + 1))), .val (.int (Int32.ofNat xa.1)), .val (.int (Int32.ofNat xb.1)), .val (.int (Int32.ofNat xc.1)), .val (.int (Int32.ofNat xd.1)), .val (.int md), .val (.ref ob), .val (.ref sa), .val (.int (Int32.ofNat q7_.length)), .val (.int (Int32.ofNat (own_lst q6_)))] [])) _
              refine XS.aload X55.here hx rfl (hb hby at_313) rfl rfl ?_
              show Steps p.tables e below (T55.setTop (mkF m 315 #[.val (.int a1), .val (.int a2), .val (.int a3), .val (.int a4), .val (.int a5), .val (.int a6), .val (.int (Int32.ofNat (nf.1 + 1))), .val (.int (Int32.ofNat xa.1)), .val (.int (Int32.ofNat xb.1)), .val (.int (Int32.ofNat xc.1)), .val (.int (Int32.ofNat xd.1)), .val (.int md), .val (.ref ob), .val (.ref sa), .val (.int (Int32.ofNat q7_.length)), .val (.int (Int32.ofNat (own_lst q6_)))] [(.ref ob)])) _
              refine st62.trans ?_
              show Steps p.tables e below (T62.setTop (mkF m 318 #[.val (.int a1), .val (.int a2), .val (.int a3), .val (.int a4), .val (.int a5), .val (.int a6), .val (.int (Int32.ofNat (nf.1 + 1))), .val (.int (Int32.ofNat xa.1)), .val (.int (Int32.ofNat xb.1)), .val (.int (Int32.ofNat xc.1)), .val (.int (Int32.ofNat xd.1)), .val (.int md), .val (.ref ob), .val (.ref sa), .val (.int (Int32.ofNat q7_.length)), .val (.int (Int32.ofNat (own_lst q6_)))] [(.int (1 : Int32))])) _
              exact retN X62 hx (t := .boolean) Bd.returns (by simp) (hb hby at_318) hr
            · show own_Q0 Z a1 a2 a3 a4 a5 a6 h0 n0 _ T62.heap _
              rw [eq62]
              exact ⟨rfl, N62⟩
          case neg =>
            have hq1 : 1 ≤ q7_.length := own_nlt1 (by omega) hc283
            have hq3 : own_tok (nf.1 + 1) q7_ := c3 (own_nn1 hq1)
            have hq2 := hq3.1
            obtain ⟨cq63, kq63, q63a, q63b, q63c⟩ := isOf hZ rfl E_ob
            obtain ⟨_, _, ⟨T63, L63, k63, n63⟩, -, X63, ⟨Lc63, hQ63, l63, y63, z63⟩, st63⟩ := X55.virtualBack hx (y := (⟨"com/example/wary_observer/waryobserver/equivalence/Splitters", "take", "()I"⟩ : MethodName)) (z := (⟨"com/example/wary_observer/waryobserver/equivalence/Splitters", "take", "()I"⟩ : MethodName)) hown (mvT hZ (hw _ (List.mem_of_getElem? (i := 27) rfl))) (mvT hZ (hw _ (List.mem_of_getElem? (i := 28) rfl))) (notFace_of_selects (args := #[]) (mvT hZ (hw _ (List.mem_of_getElem? (i := 30) rfl)))) (mvT hZ (hw _ (List.mem_of_getElem? (i := 30) rfl))) (mvT hZ (hw _ (List.mem_of_getElem? (i := 29) rfl))) (by decide) (backOf (W := 0) (own_rm5 l Z a0 hw [] ob bl wt (nf.1 + 1) q7_ T55.heap n0 Z55 g_ob o1 o2 hn4 PB hq1 hq3) hZ (hw _ (List.mem_of_getElem? (i := 31) rfl)) (hw _ (List.mem_of_getElem? (i := 3) rfl)) (by decide) (by decide)) q63a q63c (g := (mkF m 288 #[.val (.int a1), .val (.int a2), .val (.int a3), .val (.int a4), .val (.int a5), .val (.int a6), .val (.int (Int32.ofNat (nf.1 + 1))), .val (.int (Int32.ofNat xa.1)), .val (.int (Int32.ofNat xb.1)), .val (.int (Int32.ofNat xc.1)), .val (.int (Int32.ofNat xd.1)), .val (.int md), .val (.ref ob), .val (.ref sa), .val (.int (Int32.ofNat q7_.length)), .val (.int (Int32.ofNat (own_lst q6_)))] [(.ref ob)])) rfl (by rw [hml]; rfl) (Steps.refl _) (argsL := []) (rest := []) (lenOf own_pd3 rfl) rfl (by show 2 * 0 + _ ≤ _; exact Nat.le_of_eq rfl) (hb hby at_288) (fun _ _ => ⟨rfl, rfl, (by decide : 4 + 0 ≤ _), (by decide : 16 + 0 ≤ _)⟩)
            dsimp only [Pt.U, Pt.locs, Pt.cells, Pt.slots] at X63 l63 y63 z63 st63 hQ63
            subst l63 y63 z63
            obtain ⟨rfl, Nq63, Kq63, PB⟩ := hQ63
            have N63 := Fr.app N55 Nq63
            have E_ob := E_ob.keep Kq63
            have PT := PT.keep Kq63 (ninS (Ne.symm ne_ob_sa) (ninS (Ne.symm ne_bl_sa) (ninS (Ne.symm ne_wt_sa) nin0)))
            have Z63 := Nat.le_trans Z55 Kq63.1
            have pre64 : ∀ t, Steps p.tables e below (T63.setTop (mkF m 301 #[.val (.int a1), .val (.int a2), .val (.int a3), .val (.int a4), .val (.int a5), .val (.int a6), .val (.int (Int32.ofNat (nf.1 + 1))), .val (.int (Int32.ofNat xa.1)), .val (.int (Int32.ofNat xb.1)), .val (.int (Int32.ofNat xc.1)), .val (.int (Int32.ofNat xd.1)), .val (.int md), .val (.ref ob), .val (.ref sa), .val (.int (Int32.ofNat q7_.length)), .val (.int (Int32.ofNat (own_lst q7_)))] [(.int ((Int32.ofNat q7_.length) - (1 : Int32))), (.ref sa), (.int (Int32.ofNat (own_lst q7_)))])) t → Steps p.tables e below (s₁.setTop (entryFrame m #[(.int a1), (.int a2), (.int a3), (.int a4), (.int a5), (.int a6)] maxLocals)) t := by
              intro t kt
              refine pre61 t ?_
              show Steps p.tables e below (T55.setTop (mkF m 283 #[.val (.int a1), .val (.int a2), .val (.int a3), .val (.int a4), .val (.int a5), .val (.int a6), .val (.int (Int32.ofNat (nf.1 + 1))), .val (.int (Int32.ofNat xa.1)), .val (.int (Int32.ofNat xb.1)), .val (.int (Int32.ofNat xc.1)), .val (.int (Int32.ofNat xd.1)), .val (.int md), .val (.ref ob), .val (.ref sa), .val (.int (Int32.ofNat q7_.length)), .val (.int (Int32.ofNat (own_lst q6_)))] [(.int (1 : Int32)), (.int (Int32.ofNat q7_.length))])) _
              refine XS.icmpNo X55.here hx rfl (hb hby at_283) rfl (flt hc283).1 ?_
              show Steps p.tables e below (T55.setTop (mkF m 286 #[.val (.int a1), .val (.int a2), .val (.int a3), .val (.int a4), .val (.int a5), .val (.int a6), .val (.int (Int32.ofNat (nf.1 + 1))), .val (.int (Int32.ofNat xa.1)), .val (.int (Int32.ofNat xb.1)), .val (.int (Int32.ofNat xc.1)), .val (.int (Int32.ofNat xd.1)), .val (.int md), .val (.ref ob), .val (.ref sa), .val (.int (Int32.ofNat q7_.length)), .val (.int (Int32.ofNat (own_lst q6_)))] [])) _
              refine XS.aload X55.here hx rfl (hb hby at_286) rfl rfl ?_
              show Steps p.tables e below (T55.setTop (mkF m 288 #[.val (.int a1), .val (.int a2), .val (.int a3), .val (.int a4), .val (.int a5), .val (.int a6), .val (.int (Int32.ofNat (nf.1 + 1))), .val (.int (Int32.ofNat xa.1)), .val (.int (Int32.ofNat xb.1)), .val (.int (Int32.ofNat xc.1)), .val (.int (Int32.ofNat xd.1)), .val (.int md), .val (.ref ob), .val (.ref sa), .val (.int (Int32.ofNat q7_.length)), .val (.int (Int32.ofNat (own_lst q6_)))] [(.ref ob)])) _
              refine st63.trans ?_
              show Steps p.tables e below (T63.setTop (mkF m 291 #[.val (.int a1), .val (.int a2), .val (.int a3), .val (.int a4), .val (.int a5), .val (.int a6), .val (.int (Int32.ofNat (nf.1 + 1))), .val (.int (Int32.ofNat xa.1)), .val (.int (Int32.ofNat xb.1)), .val (.int (Int32.ofNat xc.1)), .val (.int (Int32.ofNat xd.1)), .val (.int md), .val (.ref ob), .val (.ref sa), .val (.int (Int32.ofNat q7_.length)), .val (.int (Int32.ofNat (own_lst q6_)))] [(.int (Int32.ofNat (own_lst q7_)))])) _
              refine XS.istore X63.here hx rfl (hb hby at_291) rfl (l' := #[.val (.int a1), .val (.int a2), .val (.int a3), .val (.int a4), .val (.int a5), .val (.int a6), .val (.int (Int32.ofNat (nf.1 + 1))), .val (.int (Int32.ofNat xa.1)), .val (.int (Int32.ofNat xb.1)), .val (.int (Int32.ofNat xc.1)), .val (.int (Int32.ofNat xd.1)), .val (.int md), .val (.ref ob), .val (.ref sa), .val (.int (Int32.ofNat q7_.length)), .val (.int (Int32.ofNat (own_lst q7_)))]) rfl ?_
              show Steps p.tables e below (T63.setTop (mkF m 293 #[.val (.int a1), .val (.int a2), .val (.int a3), .val (.int a4), .val (.int a5), .val (.int a6), .val (.int (Int32.ofNat (nf.1 + 1))), .val (.int (Int32.ofNat xa.1)), .val (.int (Int32.ofNat xb.1)), .val (.int (Int32.ofNat xc.1)), .val (.int (Int32.ofNat xd.1)), .val (.int md), .val (.ref ob), .val (.ref sa), .val (.int (Int32.ofNat q7_.length)), .val (.int (Int32.ofNat (own_lst q7_)))] [])) _
              refine XS.iload X63.here hx rfl (hb hby at_293) rfl ?_
              show Steps p.tables e below (T63.setTop (mkF m 295 #[.val (.int a1), .val (.int a2), .val (.int a3), .val (.int a4), .val (.int a5), .val (.int a6), .val (.int (Int32.ofNat (nf.1 + 1))), .val (.int (Int32.ofNat xa.1)), .val (.int (Int32.ofNat xb.1)), .val (.int (Int32.ofNat xc.1)), .val (.int (Int32.ofNat xd.1)), .val (.int md), .val (.ref ob), .val (.ref sa), .val (.int (Int32.ofNat q7_.length)), .val (.int (Int32.ofNat (own_lst q7_)))] [(.int (Int32.ofNat (own_lst q7_)))])) _
              refine XS.aload X63.here hx rfl (hb hby at_295) rfl rfl ?_
              show Steps p.tables e below (T63.setTop (mkF m 297 #[.val (.int a1), .val (.int a2), .val (.int a3), .val (.int a4), .val (.int a5), .val (.int a6), .val (.int (Int32.ofNat (nf.1 + 1))), .val (.int (Int32.ofNat xa.1)), .val (.int (Int32.ofNat xb.1)), .val (.int (Int32.ofNat xc.1)), .val (.int (Int32.ofNat xd.1)), .val (.int md), .val (.ref ob), .val (.ref sa), .val (.int (Int32.ofNat q7_.length)), .val (.int (Int32.ofNat (own_lst q7_)))] [(.ref sa), (.int (Int32.ofNat (own_lst q7_)))])) _
              refine XS.iload X63.here hx rfl (hb hby at_297) rfl ?_
              show Steps p.tables e below (T63.setTop (mkF m 299 #[.val (.int a1), .val (.int a2), .val (.int a3), .val (.int a4), .val (.int a5), .val (.int a6), .val (.int (Int32.ofNat (nf.1 + 1))), .val (.int (Int32.ofNat xa.1)), .val (.int (Int32.ofNat xb.1)), .val (.int (Int32.ofNat xc.1)), .val (.int (Int32.ofNat xd.1)), .val (.int md), .val (.ref ob), .val (.ref sa), .val (.int (Int32.ofNat q7_.length)), .val (.int (Int32.ofNat (own_lst q7_)))] [(.int (Int32.ofNat q7_.length)), (.ref sa), (.int (Int32.ofNat (own_lst q7_)))])) _
              refine XS.iconst X63.here hx rfl (hb hby at_299) ?_
              show Steps p.tables e below (T63.setTop (mkF m 300 #[.val (.int a1), .val (.int a2), .val (.int a3), .val (.int a4), .val (.int a5), .val (.int a6), .val (.int (Int32.ofNat (nf.1 + 1))), .val (.int (Int32.ofNat xa.1)), .val (.int (Int32.ofNat xb.1)), .val (.int (Int32.ofNat xc.1)), .val (.int (Int32.ofNat xd.1)), .val (.int md), .val (.ref ob), .val (.ref sa), .val (.int (Int32.ofNat q7_.length)), .val (.int (Int32.ofNat (own_lst q7_)))] [(.int (1 : Int32)), (.int (Int32.ofNat q7_.length)), (.ref sa), (.int (Int32.ofNat (own_lst q7_)))])) _
              refine XS.isub X63.here hx rfl (hb hby at_300) rfl ?_
              exact kt
            have pre65 : ∀ t, Steps p.tables e below (T63.setTop (mkF m 301 #[.val (.int a1), .val (.int a2), .val (.int a3), .val (.int a4), .val (.int a5), .val (.int a6), .val (.int (Int32.ofNat (nf.1 + 1))), .val (.int (Int32.ofNat xa.1)), .val (.int (Int32.ofNat xb.1)), .val (.int (Int32.ofNat xc.1)), .val (.int (Int32.ofNat xd.1)), .val (.int md), .val (.ref ob), .val (.ref sa), .val (.int (Int32.ofNat q7_.length)), .val (.int (Int32.ofNat (own_lst q7_)))] [(.int (Int32.ofNat (q7_.length - 1))), (.ref sa), (.int (Int32.ofNat (own_lst q7_)))])) t → Steps p.tables e below (s₁.setTop (entryFrame m #[(.int a1), (.int a2), (.int a3), (.int a4), (.int a5), (.int a6)] maxLocals)) t := by rw [(own_dec hq1 : (Int32.ofNat (q7_.length - 1)) = ((Int32.ofNat q7_.length) - (1 : Int32)))]; exact pre64
            obtain ⟨sf, V_sa, hsf⟩ := PT
            have ld66 := (own_ldI X63 hx hZ rfl V_sa (j := (Int32.ofNat (q7_.length - 1))) (own_ix (by omega)).1 (k := (q7_.length - 1)) (own_ix (by omega)).2 (by omega) (v := (.int (Int32.ofNat (own_lst q7_)))) (congrArg Value.int (hsf _ (by omega))) (g := (mkF m 301 #[.val (.int a1), .val (.int a2), .val (.int a3), .val (.int a4), .val (.int a5), .val (.int a6), .val (.int (Int32.ofNat (nf.1 + 1))), .val (.int (Int32.ofNat xa.1)), .val (.int (Int32.ofNat xb.1)), .val (.int (Int32.ofNat xc.1)), .val (.int (Int32.ofNat xd.1)), .val (.int md), .val (.ref ob), .val (.ref sa), .val (.int (Int32.ofNat q7_.length)), .val (.int (Int32.ofNat (own_lst q7_)))] [(.int (Int32.ofNat (q7_.length - 1))), (.ref sa), (.int (Int32.ofNat (own_lst q7_)))])) rfl rfl (hb hby at_301))
            have PT : own_T Z sa q7_.dropLast T63.heap := own_T.drop ⟨sf, V_sa, hsf⟩
            have hall := own_all_drop hall
            obtain ⟨q8_, he8⟩ : ∃ z : List Nat, z = q7_.dropLast := ⟨_, rfl⟩
            rw [← he8] at PB PT hall
            have pre67 : ∀ t, Steps p.tables e below (T63.setTop (mkF m 313 #[.val (.int a1), .val (.int a2), .val (.int a3), .val (.int a4), .val (.int a5), .val (.int a6), .val (.int (Int32.ofNat (nf.1 + 1))), .val (.int (Int32.ofNat xa.1)), .val (.int (Int32.ofNat xb.1)), .val (.int (Int32.ofNat xc.1)), .val (.int (Int32.ofNat xd.1)), .val (.int md), .val (.ref ob), .val (.ref sa), .val (.int ((Int32.ofNat q7_.length) - (1 : Int32))), .val (.int (Int32.ofNat (own_lst q7_)))] [])) t → Steps p.tables e below (s₁.setTop (entryFrame m #[(.int a1), (.int a2), (.int a3), (.int a4), (.int a5), (.int a6)] maxLocals)) t := by
              intro t kt
              refine pre65 t ?_
              show Steps p.tables e below (T63.setTop (mkF m 301 #[.val (.int a1), .val (.int a2), .val (.int a3), .val (.int a4), .val (.int a5), .val (.int a6), .val (.int (Int32.ofNat (nf.1 + 1))), .val (.int (Int32.ofNat xa.1)), .val (.int (Int32.ofNat xb.1)), .val (.int (Int32.ofNat xc.1)), .val (.int (Int32.ofNat xd.1)), .val (.int md), .val (.ref ob), .val (.ref sa), .val (.int (Int32.ofNat q7_.length)), .val (.int (Int32.ofNat (own_lst q7_)))] [(.int (Int32.ofNat (q7_.length - 1))), (.ref sa), (.int (Int32.ofNat (own_lst q7_)))])) _
              refine ld66 _ ?_
              show Steps p.tables e below (T63.setTop (mkF m 302 #[.val (.int a1), .val (.int a2), .val (.int a3), .val (.int a4), .val (.int a5), .val (.int a6), .val (.int (Int32.ofNat (nf.1 + 1))), .val (.int (Int32.ofNat xa.1)), .val (.int (Int32.ofNat xb.1)), .val (.int (Int32.ofNat xc.1)), .val (.int (Int32.ofNat xd.1)), .val (.int md), .val (.ref ob), .val (.ref sa), .val (.int (Int32.ofNat q7_.length)), .val (.int (Int32.ofNat (own_lst q7_)))] [(.int (Int32.ofNat (own_lst q7_))), (.int (Int32.ofNat (own_lst q7_)))])) _
              refine XS.icmpYes X63.here hx rfl (pc0 := 302) (pc' := 307) rfl (hb hby at_302) rfl (teq rfl).1 (by decide) (by decide) ?_
              show Steps p.tables e below (T63.setTop (mkF m 307 #[.val (.int a1), .val (.int a2), .val (.int a3), .val (.int a4), .val (.int a5), .val (.int a6), .val (.int (Int32.ofNat (nf.1 + 1))), .val (.int (Int32.ofNat xa.1)), .val (.int (Int32.ofNat xb.1)), .val (.int (Int32.ofNat xc.1)), .val (.int (Int32.ofNat xd.1)), .val (.int md), .val (.ref ob), .val (.ref sa), .val (.int (Int32.ofNat q7_.length)), .val (.int (Int32.ofNat (own_lst q7_)))] [])) _
              refine XS.iload X63.here hx rfl (hb hby at_307) rfl ?_
              show Steps p.tables e below (T63.setTop (mkF m 309 #[.val (.int a1), .val (.int a2), .val (.int a3), .val (.int a4), .val (.int a5), .val (.int a6), .val (.int (Int32.ofNat (nf.1 + 1))), .val (.int (Int32.ofNat xa.1)), .val (.int (Int32.ofNat xb.1)), .val (.int (Int32.ofNat xc.1)), .val (.int (Int32.ofNat xd.1)), .val (.int md), .val (.ref ob), .val (.ref sa), .val (.int (Int32.ofNat q7_.length)), .val (.int (Int32.ofNat (own_lst q7_)))] [(.int (Int32.ofNat q7_.length))])) _
              refine XS.iconst X63.here hx rfl (hb hby at_309) ?_
              show Steps p.tables e below (T63.setTop (mkF m 310 #[.val (.int a1), .val (.int a2), .val (.int a3), .val (.int a4), .val (.int a5), .val (.int a6), .val (.int (Int32.ofNat (nf.1 + 1))), .val (.int (Int32.ofNat xa.1)), .val (.int (Int32.ofNat xb.1)), .val (.int (Int32.ofNat xc.1)), .val (.int (Int32.ofNat xd.1)), .val (.int md), .val (.ref ob), .val (.ref sa), .val (.int (Int32.ofNat q7_.length)), .val (.int (Int32.ofNat (own_lst q7_)))] [(.int (1 : Int32)), (.int (Int32.ofNat q7_.length))])) _
              refine XS.isub X63.here hx rfl (hb hby at_310) rfl ?_
              show Steps p.tables e below (T63.setTop (mkF m 311 #[.val (.int a1), .val (.int a2), .val (.int a3), .val (.int a4), .val (.int a5), .val (.int a6), .val (.int (Int32.ofNat (nf.1 + 1))), .val (.int (Int32.ofNat xa.1)), .val (.int (Int32.ofNat xb.1)), .val (.int (Int32.ofNat xc.1)), .val (.int (Int32.ofNat xd.1)), .val (.int md), .val (.ref ob), .val (.ref sa), .val (.int (Int32.ofNat q7_.length)), .val (.int (Int32.ofNat (own_lst q7_)))] [(.int ((Int32.ofNat q7_.length) - (1 : Int32)))])) _
              refine XS.istore X63.here hx rfl (hb hby at_311) rfl (l' := #[.val (.int a1), .val (.int a2), .val (.int a3), .val (.int a4), .val (.int a5), .val (.int a6), .val (.int (Int32.ofNat (nf.1 + 1))), .val (.int (Int32.ofNat xa.1)), .val (.int (Int32.ofNat xb.1)), .val (.int (Int32.ofNat xc.1)), .val (.int (Int32.ofNat xd.1)), .val (.int md), .val (.ref ob), .val (.ref sa), .val (.int ((Int32.ofNat q7_.length) - (1 : Int32))), .val (.int (Int32.ofNat (own_lst q7_)))]) rfl ?_
              exact kt
            have pre68 : ∀ t, Steps p.tables e below (T63.setTop (mkF m 313 #[.val (.int a1), .val (.int a2), .val (.int a3), .val (.int a4), .val (.int a5), .val (.int a6), .val (.int (Int32.ofNat (nf.1 + 1))), .val (.int (Int32.ofNat xa.1)), .val (.int (Int32.ofNat xb.1)), .val (.int (Int32.ofNat xc.1)), .val (.int (Int32.ofNat xd.1)), .val (.int md), .val (.ref ob), .val (.ref sa), .val (.int (Int32.ofNat q8_.length)), .val (.int (Int32.ofNat (own_lst q7_)))] [])) t → Steps p.tables e below (s₁.setTop (entryFrame m #[(.int a1), (.int a2), (.int a3), (.int a4), (.int a5), (.int a6)] maxLocals)) t := by rw [(by rw [he8, List.length_dropLast]; exact own_dec hq1 : (Int32.ofNat q8_.length) = ((Int32.ofNat q7_.length) - (1 : Int32)))]; exact pre67
            have len4 : q8_.length ≤ 0 := by rw [he8]; exact own_dl len4
            have hl0 : q8_.length = 0 := by omega
            have F0 : Fld Z T63.heap ob "com/example/wary_observer/waryobserver/equivalence/Splitters" "count" "I" (.int (0 : Int32)) := by have w := PB.2.2.2.1; rw [hl0] at w; exact w
            obtain ⟨cq69, kq69, q69a, q69b, q69c⟩ := isOf hZ rfl E_ob
            obtain ⟨_, _, ⟨T69, L69, k69, n69⟩, -, X69, ⟨Lc69, hQ69, l69, y69, z69⟩, st69⟩ := X63.virtualBack hx (y := (⟨"com/example/wary_observer/waryobserver/equivalence/Splitters", "isEmpty", "()Z"⟩ : MethodName)) (z := (⟨"com/example/wary_observer/waryobserver/equivalence/Splitters", "isEmpty", "()Z"⟩ : MethodName)) hown (mvT hZ (hw _ (List.mem_of_getElem? (i := 32) rfl))) (mvT hZ (hw _ (List.mem_of_getElem? (i := 33) rfl))) (notFace_of_selects (args := #[]) (mvT hZ (hw _ (List.mem_of_getElem? (i := 35) rfl)))) (mvT hZ (hw _ (List.mem_of_getElem? (i := 35) rfl))) (mvT hZ (hw _ (List.mem_of_getElem? (i := 34) rfl))) (by decide) (backOf (W := 0) (own_rm6 l Z a0 hw [] ob T63.heap n0 Z63 F0) hZ (hw _ (List.mem_of_getElem? (i := 36) rfl)) (hw _ (List.mem_of_getElem? (i := 3) rfl)) (by decide) (by decide)) q69a q69c (g := (mkF m 315 #[.val (.int a1), .val (.int a2), .val (.int a3), .val (.int a4), .val (.int a5), .val (.int a6), .val (.int (Int32.ofNat (nf.1 + 1))), .val (.int (Int32.ofNat xa.1)), .val (.int (Int32.ofNat xb.1)), .val (.int (Int32.ofNat xc.1)), .val (.int (Int32.ofNat xd.1)), .val (.int md), .val (.ref ob), .val (.ref sa), .val (.int (Int32.ofNat q8_.length)), .val (.int (Int32.ofNat (own_lst q7_)))] [(.ref ob)])) rfl (by rw [hml]; rfl) (Steps.refl _) (argsL := []) (rest := []) (lenOf own_pd2 rfl) rfl (by show 2 * 0 + _ ≤ _; exact Nat.le_of_eq rfl) (hb hby at_315) (fun _ _ => ⟨rfl, rfl, (by decide : 4 + 0 ≤ _), (by decide : 16 + 0 ≤ _)⟩)
            dsimp only [Pt.U, Pt.locs, Pt.cells, Pt.slots] at X69 l69 y69 z69 st69 hQ69
            subst l69 y69 z69
            obtain ⟨rfl, Nq69, eq69⟩ := hQ69
            have N69 := Fr.app N63 Nq69
            obtain ⟨fs, hr, hrun, hended, hW, hsame⟩ := X69.leave (v := some (.int (1 : Int32))) (fun h => by rw [Bd.returns] at h; cases h) (BodyLoose.notSynchronized Bd)
            refine ⟨_, _, pre68 _ ?_, hrun, hended, _, _, rfl, ?_, ⟨_, rfl⟩, hW, hsame.mono (by decide) (by decide)⟩
            · skip
              show Steps p.tables e below (T63.setTop (mkF m 313 #[.val (.int a1), .val (.int a2), .val (.int a3), .val (.int a4), .val (.int a5), .val (.int a6), .val (.int (Int32.ofNat (nf.1 + 1))), .val (.int (Int32.ofNat xa.1)), .val (.int (Int32.ofNat xb.1)), .val (.int (Int32.ofNat xc.1)), .val (.int (Int32.ofNat xd.1)), .val (.int md), .val (.ref ob), .val (.ref sa), .val (.int (Int32.ofNat q8_.length)), .val (.int (Int32.ofNat (own_lst q7_)))] [])) _
              refine XS.aload X63.here hx rfl (hb hby at_313) rfl rfl ?_
              show Steps p.tables e below (T63.setTop (mkF m 315 #[.val (.int a1), .val (.int a2), .val (.int a3), .val (.int a4), .val (.int a5), .val (.int a6), .val (.int (Int32.ofNat (nf.1 + 1))), .val (.int (Int32.ofNat xa.1)), .val (.int (Int32.ofNat xb.1)), .val (.int (Int32.ofNat xc.1)), .val (.int (Int32.ofNat xd.1)), .val (.int md), .val (.ref ob), .val (.ref sa), .val (.int (Int32.ofNat q8_.length)), .val (.int (Int32.ofNat (own_lst q7_)))] [(.ref ob)])) _
              refine st69.trans ?_
              show Steps p.tables e below (T69.setTop (mkF m 318 #[.val (.int a1), .val (.int a2), .val (.int a3), .val (.int a4), .val (.int a5), .val (.int a6), .val (.int (Int32.ofNat (nf.1 + 1))), .val (.int (Int32.ofNat xa.1)), .val (.int (Int32.ofNat xb.1)), .val (.int (Int32.ofNat xc.1)), .val (.int (Int32.ofNat xd.1)), .val (.int md), .val (.ref ob), .val (.ref sa), .val (.int (Int32.ofNat q8_.length)), .val (.int (Int32.ofNat (own_lst q7_)))] [(.int (1 : Int32))])) _
              exact retN X69 hx (t := .boolean) Bd.returns (by simp) (hb hby at_318) hr
            · show own_Q0 Z a1 a2 a3 a4 a5 a6 h0 n0 _ T69.heap _
              rw [eq69]
              exact ⟨rfl, N69⟩
  case neg =>
    have hq1 : 1 ≤ q3_.length := own_len1 z3
    have hq3 : own_tok (nf.1 + 1) q3_ := t3
    have hq2 := hq3.1
    obtain ⟨cq70, kq70, q70a, q70b, q70c⟩ := isOf hZ rfl E_ob
    obtain ⟨_, _, ⟨T70, L70, k70, n70⟩, -, X70, ⟨Lc70, hQ70, l70, y70, z70⟩, st70⟩ := X29.virtualBack hx (y := (⟨"com/example/wary_observer/waryobserver/equivalence/Splitters", "take", "()I"⟩ : MethodName)) (z := (⟨"com/example/wary_observer/waryobserver/equivalence/Splitters", "take", "()I"⟩ : MethodName)) hown (mvT hZ (hw _ (List.mem_of_getElem? (i := 27) rfl))) (mvT hZ (hw _ (List.mem_of_getElem? (i := 28) rfl))) (notFace_of_selects (args := #[]) (mvT hZ (hw _ (List.mem_of_getElem? (i := 30) rfl)))) (mvT hZ (hw _ (List.mem_of_getElem? (i := 30) rfl))) (mvT hZ (hw _ (List.mem_of_getElem? (i := 29) rfl))) (by decide) (backOf (W := 0) (own_rm5 l Z a0 hw [] ob bl wt (nf.1 + 1) q3_ T29.heap n0 Z29 g_ob o1 o2 hn4 PB hq1 hq3) hZ (hw _ (List.mem_of_getElem? (i := 31) rfl)) (hw _ (List.mem_of_getElem? (i := 3) rfl)) (by decide) (by decide)) q70a q70c (g := (mkF m 138 #[.val (.int a1), .val (.int a2), .val (.int a3), .val (.int a4), .val (.int a5), .val (.int a6), .val (.int (Int32.ofNat (nf.1 + 1))), .val (.int (Int32.ofNat xa.1)), .val (.int (Int32.ofNat xb.1)), .val (.int (Int32.ofNat xc.1)), .val (.int (Int32.ofNat xd.1)), .val (.int md), .val (.ref ob), .val (.ref sa), .val (.int (Int32.ofNat q3_.length)), .unset] [(.ref ob)])) rfl (by rw [hml]; rfl) (Steps.refl _) (argsL := []) (rest := []) (lenOf own_pd3 rfl) rfl (by show 2 * 0 + _ ≤ _; exact Nat.le_of_eq rfl) (hb hby at_138) (fun _ _ => ⟨rfl, rfl, (by decide : 4 + 0 ≤ _), (by decide : 16 + 0 ≤ _)⟩)
    dsimp only [Pt.U, Pt.locs, Pt.cells, Pt.slots] at X70 l70 y70 z70 st70 hQ70
    subst l70 y70 z70
    obtain ⟨rfl, Nq70, Kq70, PB⟩ := hQ70
    have N70 := Fr.app N29 Nq70
    have E_ob := E_ob.keep Kq70
    have PT := PT.keep Kq70 (ninS (Ne.symm ne_ob_sa) (ninS (Ne.symm ne_bl_sa) (ninS (Ne.symm ne_wt_sa) nin0)))
    have Z70 := Nat.le_trans Z29 Kq70.1
    have pre71 : ∀ t, Steps p.tables e below (T70.setTop (mkF m 151 #[.val (.int a1), .val (.int a2), .val (.int a3), .val (.int a4), .val (.int a5), .val (.int a6), .val (.int (Int32.ofNat (nf.1 + 1))), .val (.int (Int32.ofNat xa.1)), .val (.int (Int32.ofNat xb.1)), .val (.int (Int32.ofNat xc.1)), .val (.int (Int32.ofNat xd.1)), .val (.int md), .val (.ref ob), .val (.ref sa), .val (.int (Int32.ofNat q3_.length)), .val (.int (Int32.ofNat (own_lst q3_)))] [(.int ((Int32.ofNat q3_.length) - (1 : Int32))), (.ref sa), (.int (Int32.ofNat (own_lst q3_)))])) t → Steps p.tables e below (s₁.setTop (entryFrame m #[(.int a1), (.int a2), (.int a3), (.int a4), (.int a5), (.int a6)] maxLocals)) t := by
      intro t kt
      refine pre32 t ?_
      show Steps p.tables e below (T29.setTop (mkF m 133 #[.val (.int a1), .val (.int a2), .val (.int a3), .val (.int a4), .val (.int a5), .val (.int a6), .val (.int (Int32.ofNat (nf.1 + 1))), .val (.int (Int32.ofNat xa.1)), .val (.int (Int32.ofNat xb.1)), .val (.int (Int32.ofNat xc.1)), .val (.int (Int32.ofNat xd.1)), .val (.int md), .val (.ref ob), .val (.ref sa), .val (.int (Int32.ofNat q3_.length)), .unset] [(.int md)])) _
      refine XS.ifNo X29.here hx rfl (hb hby at_133) rfl ((if0 _ _).trans (feq hc133).1) ?_
      show Steps p.tables e below (T29.setTop (mkF m 136 #[.val (.int a1), .val (.int a2), .val (.int a3), .val (.int a4), .val (.int a5), .val (.int a6), .val (.int (Int32.ofNat (nf.1 + 1))), .val (.int (Int32.ofNat xa.1)), .val (.int (Int32.ofNat xb.1)), .val (.int (Int32.ofNat xc.1)), .val (.int (Int32.ofNat xd.1)), .val (.int md), .val (.ref ob), .val (.ref sa), .val (.int (Int32.ofNat q3_.length)), .unset] [])) _
      refine XS.aload X29.here hx rfl (hb hby at_136) rfl rfl ?_
      show Steps p.tables e below (T29.setTop (mkF m 138 #[.val (.int a1), .val (.int a2), .val (.int a3), .val (.int a4), .val (.int a5), .val (.int a6), .val (.int (Int32.ofNat (nf.1 + 1))), .val (.int (Int32.ofNat xa.1)), .val (.int (Int32.ofNat xb.1)), .val (.int (Int32.ofNat xc.1)), .val (.int (Int32.ofNat xd.1)), .val (.int md), .val (.ref ob), .val (.ref sa), .val (.int (Int32.ofNat q3_.length)), .unset] [(.ref ob)])) _
      refine st70.trans ?_
      show Steps p.tables e below (T70.setTop (mkF m 141 #[.val (.int a1), .val (.int a2), .val (.int a3), .val (.int a4), .val (.int a5), .val (.int a6), .val (.int (Int32.ofNat (nf.1 + 1))), .val (.int (Int32.ofNat xa.1)), .val (.int (Int32.ofNat xb.1)), .val (.int (Int32.ofNat xc.1)), .val (.int (Int32.ofNat xd.1)), .val (.int md), .val (.ref ob), .val (.ref sa), .val (.int (Int32.ofNat q3_.length)), .unset] [(.int (Int32.ofNat (own_lst q3_)))])) _
      refine XS.istore X70.here hx rfl (hb hby at_141) rfl (l' := #[.val (.int a1), .val (.int a2), .val (.int a3), .val (.int a4), .val (.int a5), .val (.int a6), .val (.int (Int32.ofNat (nf.1 + 1))), .val (.int (Int32.ofNat xa.1)), .val (.int (Int32.ofNat xb.1)), .val (.int (Int32.ofNat xc.1)), .val (.int (Int32.ofNat xd.1)), .val (.int md), .val (.ref ob), .val (.ref sa), .val (.int (Int32.ofNat q3_.length)), .val (.int (Int32.ofNat (own_lst q3_)))]) rfl ?_
      show Steps p.tables e below (T70.setTop (mkF m 143 #[.val (.int a1), .val (.int a2), .val (.int a3), .val (.int a4), .val (.int a5), .val (.int a6), .val (.int (Int32.ofNat (nf.1 + 1))), .val (.int (Int32.ofNat xa.1)), .val (.int (Int32.ofNat xb.1)), .val (.int (Int32.ofNat xc.1)), .val (.int (Int32.ofNat xd.1)), .val (.int md), .val (.ref ob), .val (.ref sa), .val (.int (Int32.ofNat q3_.length)), .val (.int (Int32.ofNat (own_lst q3_)))] [])) _
      refine XS.iload X70.here hx rfl (hb hby at_143) rfl ?_
      show Steps p.tables e below (T70.setTop (mkF m 145 #[.val (.int a1), .val (.int a2), .val (.int a3), .val (.int a4), .val (.int a5), .val (.int a6), .val (.int (Int32.ofNat (nf.1 + 1))), .val (.int (Int32.ofNat xa.1)), .val (.int (Int32.ofNat xb.1)), .val (.int (Int32.ofNat xc.1)), .val (.int (Int32.ofNat xd.1)), .val (.int md), .val (.ref ob), .val (.ref sa), .val (.int (Int32.ofNat q3_.length)), .val (.int (Int32.ofNat (own_lst q3_)))] [(.int (Int32.ofNat (own_lst q3_)))])) _
      refine XS.aload X70.here hx rfl (hb hby at_145) rfl rfl ?_
      show Steps p.tables e below (T70.setTop (mkF m 147 #[.val (.int a1), .val (.int a2), .val (.int a3), .val (.int a4), .val (.int a5), .val (.int a6), .val (.int (Int32.ofNat (nf.1 + 1))), .val (.int (Int32.ofNat xa.1)), .val (.int (Int32.ofNat xb.1)), .val (.int (Int32.ofNat xc.1)), .val (.int (Int32.ofNat xd.1)), .val (.int md), .val (.ref ob), .val (.ref sa), .val (.int (Int32.ofNat q3_.length)), .val (.int (Int32.ofNat (own_lst q3_)))] [(.ref sa), (.int (Int32.ofNat (own_lst q3_)))])) _
      refine XS.iload X70.here hx rfl (hb hby at_147) rfl ?_
      show Steps p.tables e below (T70.setTop (mkF m 149 #[.val (.int a1), .val (.int a2), .val (.int a3), .val (.int a4), .val (.int a5), .val (.int a6), .val (.int (Int32.ofNat (nf.1 + 1))), .val (.int (Int32.ofNat xa.1)), .val (.int (Int32.ofNat xb.1)), .val (.int (Int32.ofNat xc.1)), .val (.int (Int32.ofNat xd.1)), .val (.int md), .val (.ref ob), .val (.ref sa), .val (.int (Int32.ofNat q3_.length)), .val (.int (Int32.ofNat (own_lst q3_)))] [(.int (Int32.ofNat q3_.length)), (.ref sa), (.int (Int32.ofNat (own_lst q3_)))])) _
      refine XS.iconst X70.here hx rfl (hb hby at_149) ?_
      show Steps p.tables e below (T70.setTop (mkF m 150 #[.val (.int a1), .val (.int a2), .val (.int a3), .val (.int a4), .val (.int a5), .val (.int a6), .val (.int (Int32.ofNat (nf.1 + 1))), .val (.int (Int32.ofNat xa.1)), .val (.int (Int32.ofNat xb.1)), .val (.int (Int32.ofNat xc.1)), .val (.int (Int32.ofNat xd.1)), .val (.int md), .val (.ref ob), .val (.ref sa), .val (.int (Int32.ofNat q3_.length)), .val (.int (Int32.ofNat (own_lst q3_)))] [(.int (1 : Int32)), (.int (Int32.ofNat q3_.length)), (.ref sa), (.int (Int32.ofNat (own_lst q3_)))])) _
      refine XS.isub X70.here hx rfl (hb hby at_150) rfl ?_
      exact kt
    have pre72 : ∀ t, Steps p.tables e below (T70.setTop (mkF m 151 #[.val (.int a1), .val (.int a2), .val (.int a3), .val (.int a4), .val (.int a5), .val (.int a6), .val (.int (Int32.ofNat (nf.1 + 1))), .val (.int (Int32.ofNat xa.1)), .val (.int (Int32.ofNat xb.1)), .val (.int (Int32.ofNat xc.1)), .val (.int (Int32.ofNat xd.1)), .val (.int md), .val (.ref ob), .val (.ref sa), .val (.int (Int32.ofNat q3_.length)), .val (.int (Int32.ofNat (own_lst q3_)))] [(.int (Int32.ofNat (q3_.length - 1))), (.ref sa), (.int (Int32.ofNat (own_lst q3_)))])) t → Steps p.tables e below (s₁.setTop (entryFrame m #[(.int a1), (.int a2), (.int a3), (.int a4), (.int a5), (.int a6)] maxLocals)) t := by rw [(own_dec hq1 : (Int32.ofNat (q3_.length - 1)) = ((Int32.ofNat q3_.length) - (1 : Int32)))]; exact pre71
    obtain ⟨sf, V_sa, hsf⟩ := PT
    have ld73 := (own_ldI X70 hx hZ rfl V_sa (j := (Int32.ofNat (q3_.length - 1))) (own_ix (by omega)).1 (k := (q3_.length - 1)) (own_ix (by omega)).2 (by omega) (v := (.int (Int32.ofNat (own_lst q3_)))) (congrArg Value.int (hsf _ (by omega))) (g := (mkF m 151 #[.val (.int a1), .val (.int a2), .val (.int a3), .val (.int a4), .val (.int a5), .val (.int a6), .val (.int (Int32.ofNat (nf.1 + 1))), .val (.int (Int32.ofNat xa.1)), .val (.int (Int32.ofNat xb.1)), .val (.int (Int32.ofNat xc.1)), .val (.int (Int32.ofNat xd.1)), .val (.int md), .val (.ref ob), .val (.ref sa), .val (.int (Int32.ofNat q3_.length)), .val (.int (Int32.ofNat (own_lst q3_)))] [(.int (Int32.ofNat (q3_.length - 1))), (.ref sa), (.int (Int32.ofNat (own_lst q3_)))])) rfl rfl (hb hby at_151))
    have PT : own_T Z sa q3_.dropLast T70.heap := own_T.drop ⟨sf, V_sa, hsf⟩
    have hall := own_all_drop hall
    obtain ⟨q4_, he4⟩ : ∃ z : List Nat, z = q3_.dropLast := ⟨_, rfl⟩
    rw [← he4] at PB PT hall
    have pre74 : ∀ t, Steps p.tables e below (T70.setTop (mkF m 163 #[.val (.int a1), .val (.int a2), .val (.int a3), .val (.int a4), .val (.int a5), .val (.int a6), .val (.int (Int32.ofNat (nf.1 + 1))), .val (.int (Int32.ofNat xa.1)), .val (.int (Int32.ofNat xb.1)), .val (.int (Int32.ofNat xc.1)), .val (.int (Int32.ofNat xd.1)), .val (.int md), .val (.ref ob), .val (.ref sa), .val (.int ((Int32.ofNat q3_.length) - (1 : Int32))), .val (.int (Int32.ofNat (own_lst q3_)))] [])) t → Steps p.tables e below (s₁.setTop (entryFrame m #[(.int a1), (.int a2), (.int a3), (.int a4), (.int a5), (.int a6)] maxLocals)) t := by
      intro t kt
      refine pre72 t ?_
      show Steps p.tables e below (T70.setTop (mkF m 151 #[.val (.int a1), .val (.int a2), .val (.int a3), .val (.int a4), .val (.int a5), .val (.int a6), .val (.int (Int32.ofNat (nf.1 + 1))), .val (.int (Int32.ofNat xa.1)), .val (.int (Int32.ofNat xb.1)), .val (.int (Int32.ofNat xc.1)), .val (.int (Int32.ofNat xd.1)), .val (.int md), .val (.ref ob), .val (.ref sa), .val (.int (Int32.ofNat q3_.length)), .val (.int (Int32.ofNat (own_lst q3_)))] [(.int (Int32.ofNat (q3_.length - 1))), (.ref sa), (.int (Int32.ofNat (own_lst q3_)))])) _
      refine ld73 _ ?_
      show Steps p.tables e below (T70.setTop (mkF m 152 #[.val (.int a1), .val (.int a2), .val (.int a3), .val (.int a4), .val (.int a5), .val (.int a6), .val (.int (Int32.ofNat (nf.1 + 1))), .val (.int (Int32.ofNat xa.1)), .val (.int (Int32.ofNat xb.1)), .val (.int (Int32.ofNat xc.1)), .val (.int (Int32.ofNat xd.1)), .val (.int md), .val (.ref ob), .val (.ref sa), .val (.int (Int32.ofNat q3_.length)), .val (.int (Int32.ofNat (own_lst q3_)))] [(.int (Int32.ofNat (own_lst q3_))), (.int (Int32.ofNat (own_lst q3_)))])) _
      refine XS.icmpYes X70.here hx rfl (pc0 := 152) (pc' := 157) rfl (hb hby at_152) rfl (teq rfl).1 (by decide) (by decide) ?_
      show Steps p.tables e below (T70.setTop (mkF m 157 #[.val (.int a1), .val (.int a2), .val (.int a3), .val (.int a4), .val (.int a5), .val (.int a6), .val (.int (Int32.ofNat (nf.1 + 1))), .val (.int (Int32.ofNat xa.1)), .val (.int (Int32.ofNat xb.1)), .val (.int (Int32.ofNat xc.1)), .val (.int (Int32.ofNat xd.1)), .val (.int md), .val (.ref ob), .val (.ref sa), .val (.int (Int32.ofNat q3_.length)), .val (.int (Int32.ofNat (own_lst q3_)))] [])) _
      refine XS.iload X70.here hx rfl (hb hby at_157) rfl ?_
      show Steps p.tables e below (T70.setTop (mkF m 159 #[.val (.int a1), .val (.int a2), .val (.int a3), .val (.int a4), .val (.int a5), .val (.int a6), .val (.int (Int32.ofNat (nf.1 + 1))), .val (.int (Int32.ofNat xa.1)), .val (.int (Int32.ofNat xb.1)), .val (.int (Int32.ofNat xc.1)), .val (.int (Int32.ofNat xd.1)), .val (.int md), .val (.ref ob), .val (.ref sa), .val (.int (Int32.ofNat q3_.length)), .val (.int (Int32.ofNat (own_lst q3_)))] [(.int (Int32.ofNat q3_.length))])) _
      refine XS.iconst X70.here hx rfl (hb hby at_159) ?_
      show Steps p.tables e below (T70.setTop (mkF m 160 #[.val (.int a1), .val (.int a2), .val (.int a3), .val (.int a4), .val (.int a5), .val (.int a6), .val (.int (Int32.ofNat (nf.1 + 1))), .val (.int (Int32.ofNat xa.1)), .val (.int (Int32.ofNat xb.1)), .val (.int (Int32.ofNat xc.1)), .val (.int (Int32.ofNat xd.1)), .val (.int md), .val (.ref ob), .val (.ref sa), .val (.int (Int32.ofNat q3_.length)), .val (.int (Int32.ofNat (own_lst q3_)))] [(.int (1 : Int32)), (.int (Int32.ofNat q3_.length))])) _
      refine XS.isub X70.here hx rfl (hb hby at_160) rfl ?_
      show Steps p.tables e below (T70.setTop (mkF m 161 #[.val (.int a1), .val (.int a2), .val (.int a3), .val (.int a4), .val (.int a5), .val (.int a6), .val (.int (Int32.ofNat (nf.1 + 1))), .val (.int (Int32.ofNat xa.1)), .val (.int (Int32.ofNat xb.1)), .val (.int (Int32.ofNat xc.1)), .val (.int (Int32.ofNat xd.1)), .val (.int md), .val (.ref ob), .val (.ref sa), .val (.int (Int32.ofNat q3_.length)), .val (.int (Int32.ofNat (own_lst q3_)))] [(.int ((Int32.ofNat q3_.length) - (1 : Int32)))])) _
      refine XS.istore X70.here hx rfl (hb hby at_161) rfl (l' := #[.val (.int a1), .val (.int a2), .val (.int a3), .val (.int a4), .val (.int a5), .val (.int a6), .val (.int (Int32.ofNat (nf.1 + 1))), .val (.int (Int32.ofNat xa.1)), .val (.int (Int32.ofNat xb.1)), .val (.int (Int32.ofNat xc.1)), .val (.int (Int32.ofNat xd.1)), .val (.int md), .val (.ref ob), .val (.ref sa), .val (.int ((Int32.ofNat q3_.length) - (1 : Int32))), .val (.int (Int32.ofNat (own_lst q3_)))]) rfl ?_
      exact kt
    have pre75 : ∀ t, Steps p.tables e below (T70.setTop (mkF m 163 #[.val (.int a1), .val (.int a2), .val (.int a3), .val (.int a4), .val (.int a5), .val (.int a6), .val (.int (Int32.ofNat (nf.1 + 1))), .val (.int (Int32.ofNat xa.1)), .val (.int (Int32.ofNat xb.1)), .val (.int (Int32.ofNat xc.1)), .val (.int (Int32.ofNat xd.1)), .val (.int md), .val (.ref ob), .val (.ref sa), .val (.int (Int32.ofNat q4_.length)), .val (.int (Int32.ofNat (own_lst q3_)))] [])) t → Steps p.tables e below (s₁.setTop (entryFrame m #[(.int a1), (.int a2), (.int a3), (.int a4), (.int a5), (.int a6)] maxLocals)) t := by rw [(by rw [he4, List.length_dropLast]; exact own_dec hq1 : (Int32.ofNat q4_.length) = ((Int32.ofNat q3_.length) - (1 : Int32)))]; exact pre74
    rw [← he4] at r5
    obtain ⟨cq76, kq76, q76a, q76b, q76c⟩ := isOf hZ rfl E_ob
    obtain ⟨_, _, ⟨T76, L76, k76, n76⟩, -, X76, ⟨Lc76, hQ76, l76, y76, z76⟩, st76⟩ := X70.virtualBack hx (y := (⟨"com/example/wary_observer/waryobserver/equivalence/Splitters", "add", "(I)V"⟩ : MethodName)) (z := (⟨"com/example/wary_observer/waryobserver/equivalence/Splitters", "add", "(I)V"⟩ : MethodName)) hown (mvT hZ (hw _ (List.mem_of_getElem? (i := 16) rfl))) (mvT hZ (hw _ (List.mem_of_getElem? (i := 17) rfl))) (notFace_of_selects (args := #[]) (mvT hZ (hw _ (List.mem_of_getElem? (i := 19) rfl)))) (mvT hZ (hw _ (List.mem_of_getElem? (i := 19) rfl))) (mvT hZ (hw _ (List.mem_of_getElem? (i := 18) rfl))) (by decide) (backOf (W := 0) (own_rm3 l Z a0 hw [] ob xd.1 bl wt (nf.1 + 1) q4_ T70.heap n0 Z70 g_ob o1 o2 hn4 PB hxdl r5) hZ (hw _ (List.mem_of_getElem? (i := 20) rfl)) (hw _ (List.mem_of_getElem? (i := 3) rfl)) (by decide) (by decide)) q76a q76c (g := (mkF m 167 #[.val (.int a1), .val (.int a2), .val (.int a3), .val (.int a4), .val (.int a5), .val (.int a6), .val (.int (Int32.ofNat (nf.1 + 1))), .val (.int (Int32.ofNat xa.1)), .val (.int (Int32.ofNat xb.1)), .val (.int (Int32.ofNat xc.1)), .val (.int (Int32.ofNat xd.1)), .val (.int md), .val (.ref ob), .val (.ref sa), .val (.int (Int32.ofNat q4_.length)), .val (.int (Int32.ofNat (own_lst q3_)))] [(.int (Int32.ofNat xd.1)), (.ref ob)])) rfl (by rw [hml]; rfl) (Steps.refl _) (argsL := [(.int (Int32.ofNat xd.1))]) (rest := []) (lenOf own_pd0 rfl) rfl (by show 2 * 0 + _ ≤ _; exact Nat.le_of_eq rfl) (hb hby at_167) (fun _ _ => ⟨rfl, rfl, (by decide : 4 + 0 ≤ _), (by decide : 16 + 0 ≤ _)⟩)
    dsimp only [Pt.U, Pt.locs, Pt.cells, Pt.slots] at X76 l76 y76 z76 st76 hQ76
    subst l76 y76 z76
    obtain ⟨rfl, Nq76, Kq76, PB⟩ := hQ76
    have N76 := Fr.app N70 Nq76
    have E_ob := E_ob.keep Kq76
    have PT := PT.keep Kq76 (ninS (Ne.symm ne_ob_sa) (ninS (Ne.symm ne_bl_sa) (ninS (Ne.symm ne_wt_sa) nin0)))
    have Z76 := Nat.le_trans Z70 Kq76.1
    obtain ⟨_, _, ⟨T77, L77, k77, n77⟩, -, X77, ⟨Lc77, hQ77, l77, y77, z77⟩, st77⟩ := Jvm.LawKit.callS X76 hx (y := (⟨"com/example/wary_observer/waryobserver/equivalence/SplittersAddPinLaw", "push", "([III)I"⟩ : MethodName)) hown (mvT hZ (hw _ (List.mem_of_getElem? (i := 23) rfl))) (mvT hZ (hw _ (List.mem_of_getElem? (i := 24) rfl))) (mvT hZ (hw _ (List.mem_of_getElem? (i := 25) rfl))) (mvT hZ (hw _ (List.mem_of_getElem? (i := 26) rfl))) (by decide) (backOf (W := 0) (own_rm4 l Z a0 hw [] sa q4_ xd.1 T76.heap n0 Z76 g_sa PT (r5).1 xd.2 hall) hZ (hw _ (List.mem_of_getElem? (i := 26) rfl)) (hw _ (List.mem_of_getElem? (i := 25) rfl)) (by decide) (by decide)) (g := (mkF m 176 #[.val (.int a1), .val (.int a2), .val (.int a3), .val (.int a4), .val (.int a5), .val (.int a6), .val (.int (Int32.ofNat (nf.1 + 1))), .val (.int (Int32.ofNat xa.1)), .val (.int (Int32.ofNat xb.1)), .val (.int (Int32.ofNat xc.1)), .val (.int (Int32.ofNat xd.1)), .val (.int md), .val (.ref ob), .val (.ref sa), .val (.int (Int32.ofNat q4_.length)), .val (.int (Int32.ofNat (own_lst q3_)))] [(.int (Int32.ofNat xd.1)), (.int (Int32.ofNat q4_.length)), (.ref sa)])) rfl (by rw [hml]; rfl) (argsL := [(.ref sa), (.int (Int32.ofNat q4_.length)), (.int (Int32.ofNat xd.1))]) (rest := []) (lenOf own_pd1 rfl) rfl (by show 2 * 0 + _ ≤ _; exact Nat.le_of_eq rfl) (hb hby at_176) (fun _ _ => ⟨rfl, rfl, (by decide : 4 + 0 ≤ _), (by decide : 16 + 0 ≤ _)⟩)
    dsimp only [Pt.U, Pt.locs, Pt.cells, Pt.slots] at X77 l77 y77 z77 st77 hQ77
    subst l77 y77 z77
    obtain ⟨rfl, Nq77, Kq77, PT⟩ := hQ77
    have N77 := Fr.app N76 Nq77
    have E_ob := E_ob.keep Kq77
    have PB := PB.keep Kq77 (ninS ne_ob_sa nin0) (ninS ne_bl_sa nin0) (ninS ne_wt_sa nin0)
    have Z77 := Nat.le_trans Z76 Kq77.1
    have hall := own_all_add hall xd.2
    obtain ⟨q5_, he5⟩ : ∃ z : List Nat, z = (own_add q4_ xd.1) := ⟨_, rfl⟩
    rw [← he5] at PB PT hall
    have pre78 : ∀ t, Steps p.tables e below (T77.setTop (mkF m 179 #[.val (.int a1), .val (.int a2), .val (.int a3), .val (.int a4), .val (.int a5), .val (.int a6), .val (.int (Int32.ofNat (nf.1 + 1))), .val (.int (Int32.ofNat xa.1)), .val (.int (Int32.ofNat xb.1)), .val (.int (Int32.ofNat xc.1)), .val (.int (Int32.ofNat xd.1)), .val (.int md), .val (.ref ob), .val (.ref sa), .val (.int (Int32.ofNat q4_.length)), .val (.int (Int32.ofNat (own_lst q3_)))] [(.int (Int32.ofNat (own_add q4_ xd.1).length))])) t → Steps p.tables e below (s₁.setTop (entryFrame m #[(.int a1), (.int a2), (.int a3), (.int a4), (.int a5), (.int a6)] maxLocals)) t := by
      intro t kt
      refine pre75 t ?_
      show Steps p.tables e below (T70.setTop (mkF m 163 #[.val (.int a1), .val (.int a2), .val (.int a3), .val (.int a4), .val (.int a5), .val (.int a6), .val (.int (Int32.ofNat (nf.1 + 1))), .val (.int (Int32.ofNat xa.1)), .val (.int (Int32.ofNat xb.1)), .val (.int (Int32.ofNat xc.1)), .val (.int (Int32.ofNat xd.1)), .val (.int md), .val (.ref ob), .val (.ref sa), .val (.int (Int32.ofNat q4_.length)), .val (.int (Int32.ofNat (own_lst q3_)))] [])) _
      refine XS.aload X70.here hx rfl (hb hby at_163) rfl rfl ?_
      show Steps p.tables e below (T70.setTop (mkF m 165 #[.val (.int a1), .val (.int a2), .val (.int a3), .val (.int a4), .val (.int a5), .val (.int a6), .val (.int (Int32.ofNat (nf.1 + 1))), .val (.int (Int32.ofNat xa.1)), .val (.int (Int32.ofNat xb.1)), .val (.int (Int32.ofNat xc.1)), .val (.int (Int32.ofNat xd.1)), .val (.int md), .val (.ref ob), .val (.ref sa), .val (.int (Int32.ofNat q4_.length)), .val (.int (Int32.ofNat (own_lst q3_)))] [(.ref ob)])) _
      refine XS.iload X70.here hx rfl (hb hby at_165) rfl ?_
      show Steps p.tables e below (T70.setTop (mkF m 167 #[.val (.int a1), .val (.int a2), .val (.int a3), .val (.int a4), .val (.int a5), .val (.int a6), .val (.int (Int32.ofNat (nf.1 + 1))), .val (.int (Int32.ofNat xa.1)), .val (.int (Int32.ofNat xb.1)), .val (.int (Int32.ofNat xc.1)), .val (.int (Int32.ofNat xd.1)), .val (.int md), .val (.ref ob), .val (.ref sa), .val (.int (Int32.ofNat q4_.length)), .val (.int (Int32.ofNat (own_lst q3_)))] [(.int (Int32.ofNat xd.1)), (.ref ob)])) _
      refine st76.trans ?_
      show Steps p.tables e below (T76.setTop (mkF m 170 #[.val (.int a1), .val (.int a2), .val (.int a3), .val (.int a4), .val (.int a5), .val (.int a6), .val (.int (Int32.ofNat (nf.1 + 1))), .val (.int (Int32.ofNat xa.1)), .val (.int (Int32.ofNat xb.1)), .val (.int (Int32.ofNat xc.1)), .val (.int (Int32.ofNat xd.1)), .val (.int md), .val (.ref ob), .val (.ref sa), .val (.int (Int32.ofNat q4_.length)), .val (.int (Int32.ofNat (own_lst q3_)))] [])) _
      refine XS.aload X76.here hx rfl (hb hby at_170) rfl rfl ?_
      show Steps p.tables e below (T76.setTop (mkF m 172 #[.val (.int a1), .val (.int a2), .val (.int a3), .val (.int a4), .val (.int a5), .val (.int a6), .val (.int (Int32.ofNat (nf.1 + 1))), .val (.int (Int32.ofNat xa.1)), .val (.int (Int32.ofNat xb.1)), .val (.int (Int32.ofNat xc.1)), .val (.int (Int32.ofNat xd.1)), .val (.int md), .val (.ref ob), .val (.ref sa), .val (.int (Int32.ofNat q4_.length)), .val (.int (Int32.ofNat (own_lst q3_)))] [(.ref sa)])) _
      refine XS.iload X76.here hx rfl (hb hby at_172) rfl ?_
      show Steps p.tables e below (T76.setTop (mkF m 174 #[.val (.int a1), .val (.int a2), .val (.int a3), .val (.int a4), .val (.int a5), .val (.int a6), .val (.int (Int32.ofNat (nf.1 + 1))), .val (.int (Int32.ofNat xa.1)), .val (.int (Int32.ofNat xb.1)), .val (.int (Int32.ofNat xc.1)), .val (.int (Int32.ofNat xd.1)), .val (.int md), .val (.ref ob), .val (.ref sa), .val (.int (Int32.ofNat q4_.length)), .val (.int (Int32.ofNat (own_lst q3_)))] [(.int (Int32.ofNat q4_.length)), (.ref sa)])) _
      refine XS.iload X76.here hx rfl (hb hby at_174) rfl ?_
      show Steps p.tables e below (T76.setTop (mkF m 176 #[.val (.int a1), .val (.int a2), .val (.int a3), .val (.int a4), .val (.int a5), .val (.int a6), .val (.int (Int32.ofNat (nf.1 + 1))), .val (.int (Int32.ofNat xa.1)), .val (.int (Int32.ofNat xb.1)), .val (.int (Int32.ofNat xc.1)), .val (.int (Int32.ofNat xd.1)), .val (.int md), .val (.ref ob), .val (.ref sa), .val (.int (Int32.ofNat q4_.length)), .val (.int (Int32.ofNat (own_lst q3_)))] [(.int (Int32.ofNat xd.1)), (.int (Int32.ofNat q4_.length)), (.ref sa)])) _
      refine st77 _ ?_
      exact kt
    have pre79 : ∀ t, Steps p.tables e below (T77.setTop (mkF m 179 #[.val (.int a1), .val (.int a2), .val (.int a3), .val (.int a4), .val (.int a5), .val (.int a6), .val (.int (Int32.ofNat (nf.1 + 1))), .val (.int (Int32.ofNat xa.1)), .val (.int (Int32.ofNat xb.1)), .val (.int (Int32.ofNat xc.1)), .val (.int (Int32.ofNat xd.1)), .val (.int md), .val (.ref ob), .val (.ref sa), .val (.int (Int32.ofNat q4_.length)), .val (.int (Int32.ofNat (own_lst q3_)))] [(.int (Int32.ofNat q5_.length))])) t → Steps p.tables e below (s₁.setTop (entryFrame m #[(.int a1), (.int a2), (.int a3), (.int a4), (.int a5), (.int a6)] maxLocals)) t := by rw [(by rw [he5] : (Int32.ofNat q5_.length) = (Int32.ofNat (own_add q4_ xd.1).length))]; exact pre78
    have tl : own_tail (nf.1 + 1) q5_ := by rw [he5, he4, he3, he2, he1]; exact (own_fins nf xa xb xc xd hxal hxbl hxcl hxdl).2.2.2.2.2.2.2
    obtain ⟨len4, c0, c1, c2, c3⟩ := tl
    have pre80 : ∀ t, Steps p.tables e below (T77.setTop (mkF m 184 #[.val (.int a1), .val (.int a2), .val (.int a3), .val (.int a4), .val (.int a5), .val (.int a6), .val (.int (Int32.ofNat (nf.1 + 1))), .val (.int (Int32.ofNat xa.1)), .val (.int (Int32.ofNat xb.1)), .val (.int (Int32.ofNat xc.1)), .val (.int (Int32.ofNat xd.1)), .val (.int md), .val (.ref ob), .val (.ref sa), .val (.int (Int32.ofNat q5_.length)), .val (.int (Int32.ofNat (own_lst q3_)))] [(.int (1 : Int32)), (.int (Int32.ofNat q5_.length))])) t → Steps p.tables e below (s₁.setTop (entryFrame m #[(.int a1), (.int a2), (.int a3), (.int a4), (.int a5), (.int a6)] maxLocals)) t := by
      intro t kt
      refine pre79 t ?_
      show Steps p.tables e below (T77.setTop (mkF m 179 #[.val (.int a1), .val (.int a2), .val (.int a3), .val (.int a4), .val (.int a5), .val (.int a6), .val (.int (Int32.ofNat (nf.1 + 1))), .val (.int (Int32.ofNat xa.1)), .val (.int (Int32.ofNat xb.1)), .val (.int (Int32.ofNat xc.1)), .val (.int (Int32.ofNat xd.1)), .val (.int md), .val (.ref ob), .val (.ref sa), .val (.int (Int32.ofNat q4_.length)), .val (.int (Int32.ofNat (own_lst q3_)))] [(.int (Int32.ofNat q5_.length))])) _
      refine XS.istore X77.here hx rfl (hb hby at_179) rfl (l' := #[.val (.int a1), .val (.int a2), .val (.int a3), .val (.int a4), .val (.int a5), .val (.int a6), .val (.int (Int32.ofNat (nf.1 + 1))), .val (.int (Int32.ofNat xa.1)), .val (.int (Int32.ofNat xb.1)), .val (.int (Int32.ofNat xc.1)), .val (.int (Int32.ofNat xd.1)), .val (.int md), .val (.ref ob), .val (.ref sa), .val (.int (Int32.ofNat q5_.length)), .val (.int (Int32.ofNat (own_lst q3_)))]) rfl ?_
      show Steps p.tables e below (T77.setTop (mkF m 181 #[.val (.int a1), .val (.int a2), .val (.int a3), .val (.int a4), .val (.int a5), .val (.int a6), .val (.int (Int32.ofNat (nf.1 + 1))), .val (.int (Int32.ofNat xa.1)), .val (.int (Int32.ofNat xb.1)), .val (.int (Int32.ofNat xc.1)), .val (.int (Int32.ofNat xd.1)), .val (.int md), .val (.ref ob), .val (.ref sa), .val (.int (Int32.ofNat q5_.length)), .val (.int (Int32.ofNat (own_lst q3_)))] [])) _
      refine XS.iload X77.here hx rfl (hb hby at_181) rfl ?_
      show Steps p.tables e below (T77.setTop (mkF m 183 #[.val (.int a1), .val (.int a2), .val (.int a3), .val (.int a4), .val (.int a5), .val (.int a6), .val (.int (Int32.ofNat (nf.1 + 1))), .val (.int (Int32.ofNat xa.1)), .val (.int (Int32.ofNat xb.1)), .val (.int (Int32.ofNat xc.1)), .val (.int (Int32.ofNat xd.1)), .val (.int md), .val (.ref ob), .val (.ref sa), .val (.int (Int32.ofNat q5_.length)), .val (.int (Int32.ofNat (own_lst q3_)))] [(.int (Int32.ofNat q5_.length))])) _
      refine XS.iconst X77.here hx rfl (hb hby at_183) ?_
      exact kt
    by_cases hc184_2 : (Int32.ofNat q5_.length) < (1 : Int32)
    case pos =>
      have hl0 : q5_.length = 0 := own_lt1 (by omega) hc184_2
      have F0 : Fld Z T77.heap ob "com/example/wary_observer/waryobserver/equivalence/Splitters" "count" "I" (.int (0 : Int32)) := by have w := PB.2.2.2.1; rw [hl0] at w; exact w
      obtain ⟨cq81, kq81, q81a, q81b, q81c⟩ := isOf hZ rfl E_ob
      obtain ⟨_, _, ⟨T81, L81, k81, n81⟩, -, X81, ⟨Lc81, hQ81, l81, y81, z81⟩, st81⟩ := X77.virtualBack hx (y := (⟨"com/example/wary_observer/waryobserver/equivalence/Splitters", "isEmpty", "()Z"⟩ : MethodName)) (z := (⟨"com/example/wary_observer/waryobserver/equivalence/Splitters", "isEmpty", "()Z"⟩ : MethodName)) hown (mvT hZ (hw _ (List.mem_of_getElem? (i := 32) rfl))) (mvT hZ (hw _ (List.mem_of_getElem? (i := 33) rfl))) (notFace_of_selects (args := #[]) (mvT hZ (hw _ (List.mem_of_getElem? (i := 35) rfl)))) (mvT hZ (hw _ (List.mem_of_getElem? (i := 35) rfl))) (mvT hZ (hw _ (List.mem_of_getElem? (i := 34) rfl))) (by decide) (backOf (W := 0) (own_rm6 l Z a0 hw [] ob T77.heap n0 Z77 F0) hZ (hw _ (List.mem_of_getElem? (i := 36) rfl)) (hw _ (List.mem_of_getElem? (i := 3) rfl)) (by decide) (by decide)) q81a q81c (g := (mkF m 315 #[.val (.int a1), .val (.int a2), .val (.int a3), .val (.int a4), .val (.int a5), .val (.int a6), .val (.int (Int32.ofNat (nf.1 + 1))), .val (.int (Int32.ofNat xa.1)), .val (.int (Int32.ofNat xb.1)), .val (.int (Int32.ofNat xc.1)), .val (.int (Int32.ofNat xd.1)), .val (.int md), .val (.ref ob), .val (.ref sa), .val (.int (Int32.ofNat q5_.length)), .val (.int (Int32.ofNat (own_lst q3_)))] [(.ref ob)])) rfl (by rw [hml]; rfl) (Steps.refl _) (argsL := []) (rest := []) (lenOf own_pd2 rfl) rfl (by show 2 * 0 + _ ≤ _; exact Nat.le_of_eq rfl) (hb hby at_315) (fun _ _ => ⟨rfl, rfl, (by decide : 4 + 0 ≤ _), (by decide : 16 + 0 ≤ _)⟩)
      dsimp only [Pt.U, Pt.locs, Pt.cells, Pt.slots] at X81 l81 y81 z81 st81 hQ81
      subst l81 y81 z81
      obtain ⟨rfl, Nq81, eq81⟩ := hQ81
      have N81 := Fr.app N77 Nq81
      obtain ⟨fs, hr, hrun, hended, hW, hsame⟩ := X81.leave (v := some (.int (1 : Int32))) (fun h => by rw [Bd.returns] at h; cases h) (BodyLoose.notSynchronized Bd)
      refine ⟨_, _, pre80 _ ?_, hrun, hended, _, _, rfl, ?_, ⟨_, rfl⟩, hW, hsame.mono (by decide) (by decide)⟩
      · skip
        show Steps p.tables e below (T77.setTop (mkF m 184 #[.val (.int a1), .val (.int a2), .val (.int a3), .val (.int a4), .val (.int a5), .val (.int a6), .val (.int (Int32.ofNat (nf.1 + 1))), .val (.int (Int32.ofNat xa.1)), .val (.int (Int32.ofNat xb.1)), .val (.int (Int32.ofNat xc.1)), .val (.int (Int32.ofNat xd.1)), .val (.int md), .val (.ref ob), .val (.ref sa), .val (.int (Int32.ofNat q5_.length)), .val (.int (Int32.ofNat (own_lst q3_)))] [(.int (1 : Int32)), (.int (Int32.ofNat q5_.length))])) _
        refine XS.icmpYes X77.here hx rfl (pc0 := 184) (pc' := 214) rfl (hb hby at_184) rfl (tlt hc184_2).1 (by decide) (by decide) ?_
        show Steps p.tables e below (T77.setTop (mkF m 214 #[.val (.int a1), .val (.int a2), .val (.int a3), .val (.int a4), .val (.int a5), .val (.int a6), .val (.int (Int32.ofNat (nf.1 + 1))), .val (.int (Int32.ofNat xa.1)), .val (.int (Int32.ofNat xb.1)), .val (.int (Int32.ofNat xc.1)), .val (.int (Int32.ofNat xd.1)), .val (.int md), .val (.ref ob), .val (.ref sa), .val (.int (Int32.ofNat q5_.length)), .val (.int (Int32.ofNat (own_lst q3_)))] [])) _
        refine XS.iload X77.here hx rfl (hb hby at_214) rfl ?_
        show Steps p.tables e below (T77.setTop (mkF m 216 #[.val (.int a1), .val (.int a2), .val (.int a3), .val (.int a4), .val (.int a5), .val (.int a6), .val (.int (Int32.ofNat (nf.1 + 1))), .val (.int (Int32.ofNat xa.1)), .val (.int (Int32.ofNat xb.1)), .val (.int (Int32.ofNat xc.1)), .val (.int (Int32.ofNat xd.1)), .val (.int md), .val (.ref ob), .val (.ref sa), .val (.int (Int32.ofNat q5_.length)), .val (.int (Int32.ofNat (own_lst q3_)))] [(.int (Int32.ofNat q5_.length))])) _
        refine XS.iconst X77.here hx rfl (hb hby at_216) ?_
        show Steps p.tables e below (T77.setTop (mkF m 217 #[.val (.int a1), .val (.int a2), .val (.int a3), .val (.int a4), .val (.int a5), .val (.int a6), .val (.int (Int32.ofNat (nf.1 + 1))), .val (.int (Int32.ofNat xa.1)), .val (.int (Int32.ofNat xb.1)), .val (.int (Int32.ofNat xc.1)), .val (.int (Int32.ofNat xd.1)), .val (.int md), .val (.ref ob), .val (.ref sa), .val (.int (Int32.ofNat q5_.length)), .val (.int (Int32.ofNat (own_lst q3_)))] [(.int (1 : Int32)), (.int (Int32.ofNat q5_.length))])) _
        refine XS.icmpYes X77.here hx rfl (pc0 := 217) (pc' := 247) rfl (hb hby at_217) rfl (tlt hc184_2).1 (by decide) (by decide) ?_
        show Steps p.tables e below (T77.setTop (mkF m 247 #[.val (.int a1), .val (.int a2), .val (.int a3), .val (.int a4), .val (.int a5), .val (.int a6), .val (.int (Int32.ofNat (nf.1 + 1))), .val (.int (Int32.ofNat xa.1)), .val (.int (Int32.ofNat xb.1)), .val (.int (Int32.ofNat xc.1)), .val (.int (Int32.ofNat xd.1)), .val (.int md), .val (.ref ob), .val (.ref sa), .val (.int (Int32.ofNat q5_.length)), .val (.int (Int32.ofNat (own_lst q3_)))] [])) _
        refine XS.iload X77.here hx rfl (hb hby at_247) rfl ?_
        show Steps p.tables e below (T77.setTop (mkF m 249 #[.val (.int a1), .val (.int a2), .val (.int a3), .val (.int a4), .val (.int a5), .val (.int a6), .val (.int (Int32.ofNat (nf.1 + 1))), .val (.int (Int32.ofNat xa.1)), .val (.int (Int32.ofNat xb.1)), .val (.int (Int32.ofNat xc.1)), .val (.int (Int32.ofNat xd.1)), .val (.int md), .val (.ref ob), .val (.ref sa), .val (.int (Int32.ofNat q5_.length)), .val (.int (Int32.ofNat (own_lst q3_)))] [(.int (Int32.ofNat q5_.length))])) _
        refine XS.iconst X77.here hx rfl (hb hby at_249) ?_
        show Steps p.tables e below (T77.setTop (mkF m 250 #[.val (.int a1), .val (.int a2), .val (.int a3), .val (.int a4), .val (.int a5), .val (.int a6), .val (.int (Int32.ofNat (nf.1 + 1))), .val (.int (Int32.ofNat xa.1)), .val (.int (Int32.ofNat xb.1)), .val (.int (Int32.ofNat xc.1)), .val (.int (Int32.ofNat xd.1)), .val (.int md), .val (.ref ob), .val (.ref sa), .val (.int (Int32.ofNat q5_.length)), .val (.int (Int32.ofNat (own_lst q3_)))] [(.int (1 : Int32)), (.int (Int32.ofNat q5_.length))])) _
        refine XS.icmpYes X77.here hx rfl (pc0 := 250) (pc' := 280) rfl (hb hby at_250) rfl (tlt hc184_2).1 (by decide) (by decide) ?_
        show Steps p.tables e below (T77.setTop (mkF m 280 #[.val (.int a1), .val (.int a2), .val (.int a3), .val (.int a4), .val (.int a5), .val (.int a6), .val (.int (Int32.ofNat (nf.1 + 1))), .val (.int (Int32.ofNat xa.1)), .val (.int (Int32.ofNat xb.1)), .val (.int (Int32.ofNat xc.1)), .val (.int (Int32.ofNat xd.1)), .val (.int md), .val (.ref ob), .val (.ref sa), .val (.int (Int32.ofNat q5_.length)), .val (.int (Int32.ofNat (own_lst q3_)))] [])) _
        refine XS.iload X77.here hx rfl (hb hby at_280) rfl ?_
        show Steps p.tables e below (T77.setTop (mkF m 282 #[.val (.int a1), .val (.int a2), .val (.int a3), .val (.int a4), .val (.int a5), .val (.int a6), .val (.int (Int32.ofNat (nf.1 + 1))), .val (.int (Int32.ofNat xa.1)), .val (.int (Int32.ofNat xb.1)), .val (.int (Int32.ofNat xc.1)), .val (.int (Int32.ofNat xd.1)), .val (.int md), .val (.ref ob), .val (.ref sa), .val (.int (Int32.ofNat q5_.length)), .val (.int (Int32.ofNat (own_lst q3_)))] [(.int (Int32.ofNat q5_.length))])) _
        refine XS.iconst X77.here hx rfl (hb hby at_282) ?_
        show Steps p.tables e below (T77.setTop (mkF m 283 #[.val (.int a1), .val (.int a2), .val (.int a3), .val (.int a4), .val (.int a5), .val (.int a6), .val (.int (Int32.ofNat (nf.1 + 1))), .val (.int (Int32.ofNat xa.1)), .val (.int (Int32.ofNat xb.1)), .val (.int (Int32.ofNat xc.1)), .val (.int (Int32.ofNat xd.1)), .val (.int md), .val (.ref ob), .val (.ref sa), .val (.int (Int32.ofNat q5_.length)), .val (.int (Int32.ofNat (own_lst q3_)))] [(.int (1 : Int32)), (.int (Int32.ofNat q5_.length))])) _
        refine XS.icmpYes X77.here hx rfl (pc0 := 283) (pc' := 313) rfl (hb hby at_283) rfl (tlt hc184_2).1 (by decide) (by decide) ?_
        show Steps p.tables e below (T77.setTop (mkF m 313 #[.val (.int a1), .val (.int a2), .val (.int a3), .val (.int a4), .val (.int a5), .val (.int a6), .val (.int (Int32.ofNat (nf.1 + 1))), .val (.int (Int32.ofNat xa.1)), .val (.int (Int32.ofNat xb.1)), .val (.int (Int32.ofNat xc.1)), .val (.int (Int32.ofNat xd.1)), .val (.int md), .val (.ref ob), .val (.ref sa), .val (.int (Int32.ofNat q5_.length)), .val (.int (Int32.ofNat (own_lst q3_)))] [])) _
        refine XS.aload X77.here hx rfl (hb hby at_313) rfl rfl ?_
        show Steps p.tables e below (T77.setTop (mkF m 315 #[.val (.int a1), .val (.int a2), .val (.int a3), .val (.int a4), .val (.int a5), .val (.int a6), .val (.int (Int32.ofNat (nf.1 + 1))), .val (.int (Int32.ofNat xa.1)), .val (.int (Int32.ofNat xb.1)), .val (.int (Int32.ofNat xc.1)), .val (.int (Int32.ofNat xd.1)), .val (.int md), .val (.ref ob), .val (.ref sa), .val (.int (Int32.ofNat q5_.length)), .val (.int (Int32.ofNat (own_lst q3_)))] [(.ref ob)])) _
        refine st81.trans ?_
        show Steps p.tables e below (T81.setTop (mkF m 318 #[.val (.int a1), .val (.int a2), .val (.int a3), .val (.int a4), .val (.int a5), .val (.int a6), .val (.int (Int32.ofNat (nf.1 + 1))), .val (.int (Int32.ofNat xa.1)), .val (.int (Int32.ofNat xb.1)), .val (.int (Int32.ofNat xc.1)), .val (.int (Int32.ofNat xd.1)), .val (.int md), .val (.ref ob), .val (.ref sa), .val (.int (Int32.ofNat q5_.length)), .val (.int (Int32.ofNat (own_lst q3_)))] [(.int (1 : Int32))])) _
        exact retN X81 hx (t := .boolean) Bd.returns (by simp) (hb hby at_318) hr
      · show own_Q0 Z a1 a2 a3 a4 a5 a6 h0 n0 _ T81.heap _
        rw [eq81]
        exact ⟨rfl, N81⟩
    case neg =>
      have hq1 : 1 ≤ q5_.length := own_nlt1 (by omega) hc184_2
      have hq3 : own_tok (nf.1 + 1) q5_ := c0 (own_nn1 hq1)
      have hq2 := hq3.1
      obtain ⟨cq82, kq82, q82a, q82b, q82c⟩ := isOf hZ rfl E_ob
      obtain ⟨_, _, ⟨T82, L82, k82, n82⟩, -, X82, ⟨Lc82, hQ82, l82, y82, z82⟩, st82⟩ := X77.virtualBack hx (y := (⟨"com/example/wary_observer/waryobserver/equivalence/Splitters", "take", "()I"⟩ : MethodName)) (z := (⟨"com/example/wary_observer/waryobserver/equivalence/Splitters", "take", "()I"⟩ : MethodName)) hown (mvT hZ (hw _ (List.mem_of_getElem? (i := 27) rfl))) (mvT hZ (hw _ (List.mem_of_getElem? (i := 28) rfl))) (notFace_of_selects (args := #[]) (mvT hZ (hw _ (List.mem_of_getElem? (i := 30) rfl)))) (mvT hZ (hw _ (List.mem_of_getElem? (i := 30) rfl))) (mvT hZ (hw _ (List.mem_of_getElem? (i := 29) rfl))) (by decide) (backOf (W := 0) (own_rm5 l Z a0 hw [] ob bl wt (nf.1 + 1) q5_ T77.heap n0 Z77 g_ob o1 o2 hn4 PB hq1 hq3) hZ (hw _ (List.mem_of_getElem? (i := 31) rfl)) (hw _ (List.mem_of_getElem? (i := 3) rfl)) (by decide) (by decide)) q82a q82c (g := (mkF m 189 #[.val (.int a1), .val (.int a2), .val (.int a3), .val (.int a4), .val (.int a5), .val (.int a6), .val (.int (Int32.ofNat (nf.1 + 1))), .val (.int (Int32.ofNat xa.1)), .val (.int (Int32.ofNat xb.1)), .val (.int (Int32.ofNat xc.1)), .val (.int (Int32.ofNat xd.1)), .val (.int md), .val (.ref ob), .val (.ref sa), .val (.int (Int32.ofNat q5_.length)), .val (.int (Int32.ofNat (own_lst q3_)))] [(.ref ob)])) rfl (by rw [hml]; rfl) (Steps.refl _) (argsL := []) (rest := []) (lenOf own_pd3 rfl) rfl (by show 2 * 0 + _ ≤ _; exact Nat.le_of_eq rfl) (hb hby at_189) (fun _ _ => ⟨rfl, rfl, (by decide : 4 + 0 ≤ _), (by decide : 16 + 0 ≤ _)⟩)
      dsimp only [Pt.U, Pt.locs, Pt.cells, Pt.slots] at X82 l82 y82 z82 st82 hQ82
      subst l82 y82 z82
      obtain ⟨rfl, Nq82, Kq82, PB⟩ := hQ82
      have N82 := Fr.app N77 Nq82
      have E_ob := E_ob.keep Kq82
      have PT := PT.keep Kq82 (ninS (Ne.symm ne_ob_sa) (ninS (Ne.symm ne_bl_sa) (ninS (Ne.symm ne_wt_sa) nin0)))
      have Z82 := Nat.le_trans Z77 Kq82.1
      have pre83 : ∀ t, Steps p.tables e below (T82.setTop (mkF m 202 #[.val (.int a1), .val (.int a2), .val (.int a3), .val (.int a4), .val (.int a5), .val (.int a6), .val (.int (Int32.ofNat (nf.1 + 1))), .val (.int (Int32.ofNat xa.1)), .val (.int (Int32.ofNat xb.1)), .val (.int (Int32.ofNat xc.1)), .val (.int (Int32.ofNat xd.1)), .val (.int md), .val (.ref ob), .val (.ref sa), .val (.int (Int32.ofNat q5_.length)), .val (.int (Int32.ofNat (own_lst q5_)))] [(.int ((Int32.ofNat q5_.length) - (1 : Int32))), (.ref sa), (.int (Int32.ofNat (own_lst q5_)))])) t → Steps p.tables e below (s₁.setTop (entryFrame m #[(.int a1), (.int a2), (.int a3), (.int a4), (.int a5), (.int a6)] maxLocals)) t := by
        intro t kt
        refine pre80 t ?_
        show Steps p.tables e below (T77.setTop (mkF m 184 #[.val (.int a1), .val (.int a2), .val (.int a3), .val (.int a4), .val (.int a5), .val (.int a6), .val (.int (Int32.ofNat (nf.1 + 1))), .val (.int (Int32.ofNat xa.1)), .val (.int (Int32.ofNat xb.1)), .val (.int (Int32.ofNat xc.1)), .val (.int (Int32.ofNat xd.1)), .val (.int md), .val (.ref ob), .val (.ref sa), .val (.int (Int32.ofNat q5_.length)), .val (.int (Int32.ofNat (own_lst q3_)))] [(.int (1 : Int32)), (.int (Int32.ofNat q5_.length))])) _
        refine XS.icmpNo X77.here hx rfl (hb hby at_184) rfl (flt hc184_2).1 ?_
        show Steps p.tables e below (T77.setTop (mkF m 187 #[.val (.int a1), .val (.int a2), .val (.int a3), .val (.int a4), .val (.int a5), .val (.int a6), .val (.int (Int32.ofNat (nf.1 + 1))), .val (.int (Int32.ofNat xa.1)), .val (.int (Int32.ofNat xb.1)), .val (.int (Int32.ofNat xc.1)), .val (.int (Int32.ofNat xd.1)), .val (.int md), .val (.ref ob), .val (.ref sa), .val (.int (Int32.ofNat q5_.length)), .val (.int (Int32.ofNat (own_lst q3_)))] [])) _
        refine XS.aload X77.here hx rfl (hb hby at_187) rfl rfl ?_
        show Steps p.tables e below (T77.setTop (mkF m 189 #[.val (.int a1), .val (.int a2), .val (.int a3), .val (.int a4), .val (.int a5), .val (.int a6), .val (.int (Int32.ofNat (nf.1 + 1))), .val (.int (Int32.ofNat xa.1)), .val (.int (Int32.ofNat xb.1)), .val (.int (Int32.ofNat xc.1)), .val (.int (Int32.ofNat xd.1)), .val (.int md), .val (.ref ob), .val (.ref sa), .val (.int (Int32.ofNat q5_.length)), .val (.int (Int32.ofNat (own_lst q3_)))] [(.ref ob)])) _
        refine st82.trans ?_
        show Steps p.tables e below (T82.setTop (mkF m 192 #[.val (.int a1), .val (.int a2), .val (.int a3), .val (.int a4), .val (.int a5), .val (.int a6), .val (.int (Int32.ofNat (nf.1 + 1))), .val (.int (Int32.ofNat xa.1)), .val (.int (Int32.ofNat xb.1)), .val (.int (Int32.ofNat xc.1)), .val (.int (Int32.ofNat xd.1)), .val (.int md), .val (.ref ob), .val (.ref sa), .val (.int (Int32.ofNat q5_.length)), .val (.int (Int32.ofNat (own_lst q3_)))] [(.int (Int32.ofNat (own_lst q5_)))])) _
        refine XS.istore X82.here hx rfl (hb hby at_192) rfl (l' := #[.val (.int a1), .val (.int a2), .val (.int a3), .val (.int a4), .val (.int a5), .val (.int a6), .val (.int (Int32.ofNat (nf.1 + 1))), .val (.int (Int32.ofNat xa.1)), .val (.int (Int32.ofNat xb.1)), .val (.int (Int32.ofNat xc.1)), .val (.int (Int32.ofNat xd.1)), .val (.int md), .val (.ref ob), .val (.ref sa), .val (.int (Int32.ofNat q5_.length)), .val (.int (Int32.ofNat (own_lst q5_)))]) rfl ?_
        show Steps p.tables e below (T82.setTop (mkF m 194 #[.val (.int a1), .val (.int a2), .val (.int a3), .val (.int a4), .val (.int a5), .val (.int a6), .val (.int (Int32.ofNat (nf.1 + 1))), .val (.int (Int32.ofNat xa.1)), .val (.int (Int32.ofNat xb.1)), .val (.int (Int32.ofNat xc.1)), .val (.int (Int32.ofNat xd.1)), .val (.int md), .val (.ref ob), .val (.ref sa), .val (.int (Int32.ofNat q5_.length)), .val (.int (Int32.ofNat (own_lst q5_)))] [])) _
        refine XS.iload X82.here hx rfl (hb hby at_194) rfl ?_
        show Steps p.tables e below (T82.setTop (mkF m 196 #[.val (.int a1), .val (.int a2), .val (.int a3), .val (.int a4), .val (.int a5), .val (.int a6), .val (.int (Int32.ofNat (nf.1 + 1))), .val (.int (Int32.ofNat xa.1)), .val (.int (Int32.ofNat xb.1)), .val (.int (Int32.ofNat xc.1)), .val (.int (Int32.ofNat xd.1)), .val (.int md), .val (.ref ob), .val (.ref sa), .val (.int (Int32.ofNat q5_.length)), .val (.int (Int32.ofNat (own_lst q5_)))] [(.int (Int32.ofNat (own_lst q5_)))])) _
        refine XS.aload X82.here hx rfl (hb hby at_196) rfl rfl ?_
        show Steps p.tables e below (T82.setTop (mkF m 198 #[.val (.int a1), .val (.int a2), .val (.int a3), .val (.int a4), .val (.int a5), .val (.int a6), .val (.int (Int32.ofNat (nf.1 + 1))), .val (.int (Int32.ofNat xa.1)), .val (.int (Int32.ofNat xb.1)), .val (.int (Int32.ofNat xc.1)), .val (.int (Int32.ofNat xd.1)), .val (.int md), .val (.ref ob), .val (.ref sa), .val (.int (Int32.ofNat q5_.length)), .val (.int (Int32.ofNat (own_lst q5_)))] [(.ref sa), (.int (Int32.ofNat (own_lst q5_)))])) _
        refine XS.iload X82.here hx rfl (hb hby at_198) rfl ?_
        show Steps p.tables e below (T82.setTop (mkF m 200 #[.val (.int a1), .val (.int a2), .val (.int a3), .val (.int a4), .val (.int a5), .val (.int a6), .val (.int (Int32.ofNat (nf.1 + 1))), .val (.int (Int32.ofNat xa.1)), .val (.int (Int32.ofNat xb.1)), .val (.int (Int32.ofNat xc.1)), .val (.int (Int32.ofNat xd.1)), .val (.int md), .val (.ref ob), .val (.ref sa), .val (.int (Int32.ofNat q5_.length)), .val (.int (Int32.ofNat (own_lst q5_)))] [(.int (Int32.ofNat q5_.length)), (.ref sa), (.int (Int32.ofNat (own_lst q5_)))])) _
        refine XS.iconst X82.here hx rfl (hb hby at_200) ?_
        show Steps p.tables e below (T82.setTop (mkF m 201 #[.val (.int a1), .val (.int a2), .val (.int a3), .val (.int a4), .val (.int a5), .val (.int a6), .val (.int (Int32.ofNat (nf.1 + 1))), .val (.int (Int32.ofNat xa.1)), .val (.int (Int32.ofNat xb.1)), .val (.int (Int32.ofNat xc.1)), .val (.int (Int32.ofNat xd.1)), .val (.int md), .val (.ref ob), .val (.ref sa), .val (.int (Int32.ofNat q5_.length)), .val (.int (Int32.ofNat (own_lst q5_)))] [(.int (1 : Int32)), (.int (Int32.ofNat q5_.length)), (.ref sa), (.int (Int32.ofNat (own_lst q5_)))])) _
        refine XS.isub X82.here hx rfl (hb hby at_201) rfl ?_
        exact kt
      have pre84 : ∀ t, Steps p.tables e below (T82.setTop (mkF m 202 #[.val (.int a1), .val (.int a2), .val (.int a3), .val (.int a4), .val (.int a5), .val (.int a6), .val (.int (Int32.ofNat (nf.1 + 1))), .val (.int (Int32.ofNat xa.1)), .val (.int (Int32.ofNat xb.1)), .val (.int (Int32.ofNat xc.1)), .val (.int (Int32.ofNat xd.1)), .val (.int md), .val (.ref ob), .val (.ref sa), .val (.int (Int32.ofNat q5_.length)), .val (.int (Int32.ofNat (own_lst q5_)))] [(.int (Int32.ofNat (q5_.length - 1))), (.ref sa), (.int (Int32.ofNat (own_lst q5_)))])) t → Steps p.tables e below (s₁.setTop (entryFrame m #[(.int a1), (.int a2), (.int a3), (.int a4), (.int a5), (.int a6)] maxLocals)) t := by rw [(own_dec hq1 : (Int32.ofNat (q5_.length - 1)) = ((Int32.ofNat q5_.length) - (1 : Int32)))]; exact pre83
      obtain ⟨sf, V_sa, hsf⟩ := PT
      have ld85 := (own_ldI X82 hx hZ rfl V_sa (j := (Int32.ofNat (q5_.length - 1))) (own_ix (by omega)).1 (k := (q5_.length - 1)) (own_ix (by omega)).2 (by omega) (v := (.int (Int32.ofNat (own_lst q5_)))) (congrArg Value.int (hsf _ (by omega))) (g := (mkF m 202 #[.val (.int a1), .val (.int a2), .val (.int a3), .val (.int a4), .val (.int a5), .val (.int a6), .val (.int (Int32.ofNat (nf.1 + 1))), .val (.int (Int32.ofNat xa.1)), .val (.int (Int32.ofNat xb.1)), .val (.int (Int32.ofNat xc.1)), .val (.int (Int32.ofNat xd.1)), .val (.int md), .val (.ref ob), .val (.ref sa), .val (.int (Int32.ofNat q5_.length)), .val (.int (Int32.ofNat (own_lst q5_)))] [(.int (Int32.ofNat (q5_.length - 1))), (.ref sa), (.int (Int32.ofNat (own_lst q5_)))])) rfl rfl (hb hby at_202))
      have PT : own_T Z sa q5_.dropLast T82.heap := own_T.drop ⟨sf, V_sa, hsf⟩
      have hall := own_all_drop hall
      obtain ⟨q6_, he6⟩ : ∃ z : List Nat, z = q5_.dropLast := ⟨_, rfl⟩
      rw [← he6] at PB PT hall
      have pre86 : ∀ t, Steps p.tables e below (T82.setTop (mkF m 214 #[.val (.int a1), .val (.int a2), .val (.int a3), .val (.int a4), .val (.int a5), .val (.int a6), .val (.int (Int32.ofNat (nf.1 + 1))), .val (.int (Int32.ofNat xa.1)), .val (.int (Int32.ofNat xb.1)), .val (.int (Int32.ofNat xc.1)), .val (.int (Int32.ofNat xd.1)), .val (.int md), .val (.ref ob), .val (.ref sa), .val (.int ((Int32.ofNat q5_.length) - (1 : Int32))), .val (.int (Int32.ofNat (own_lst q5_)))] [])) t → Steps p.tables e below (s₁.setTop (entryFrame m #[(.int a1), (.int a2), (.int a3), (.int a4), (.int a5), (.int a6)] maxLocals)) t := by
        intro t kt
        refine pre84 t ?_
        show Steps p.tables e below (T82.setTop (mkF m 202 #[.val (.int a1), .val (.int a2), .val (.int a3), .val (.int a4), .val (.int a5), .val (.int a6), .val (.int (Int32.ofNat (nf.1 + 1))), .val (.int (Int32.ofNat xa.1)), .val (.int (Int32.ofNat xb.1)), .val (.int (Int32.ofNat xc.1)), .val (.int (Int32.ofNat xd.1)), .val (.int md), .val (.ref ob), .val (.ref sa), .val (.int (Int32.ofNat q5_.length)), .val (.int (Int32.ofNat (own_lst q5_)))] [(.int (Int32.ofNat (q5_.length - 1))), (.ref sa), (.int (Int32.ofNat (own_lst q5_)))])) _
        refine ld85 _ ?_
        show Steps p.tables e below (T82.setTop (mkF m 203 #[.val (.int a1), .val (.int a2), .val (.int a3), .val (.int a4), .val (.int a5), .val (.int a6), .val (.int (Int32.ofNat (nf.1 + 1))), .val (.int (Int32.ofNat xa.1)), .val (.int (Int32.ofNat xb.1)), .val (.int (Int32.ofNat xc.1)), .val (.int (Int32.ofNat xd.1)), .val (.int md), .val (.ref ob), .val (.ref sa), .val (.int (Int32.ofNat q5_.length)), .val (.int (Int32.ofNat (own_lst q5_)))] [(.int (Int32.ofNat (own_lst q5_))), (.int (Int32.ofNat (own_lst q5_)))])) _
        refine XS.icmpYes X82.here hx rfl (pc0 := 203) (pc' := 208) rfl (hb hby at_203) rfl (teq rfl).1 (by decide) (by decide) ?_
        show Steps p.tables e below (T82.setTop (mkF m 208 #[.val (.int a1), .val (.int a2), .val (.int a3), .val (.int a4), .val (.int a5), .val (.int a6), .val (.int (Int32.ofNat (nf.1 + 1))), .val (.int (Int32.ofNat xa.1)), .val (.int (Int32.ofNat xb.1)), .val (.int (Int32.ofNat xc.1)), .val (.int (Int32.ofNat xd.1)), .val (.int md), .val (.ref ob), .val (.ref sa), .val (.int (Int32.ofNat q5_.length)), .val (.int (Int32.ofNat (own_lst q5_)))] [])) _
        refine XS.iload X82.here hx rfl (hb hby at_208) rfl ?_
        show Steps p.tables e below (T82.setTop (mkF m 210 #[.val (.int a1), .val (.int a2), .val (.int a3), .val (.int a4), .val (.int a5), .val (.int a6), .val (.int (Int32.ofNat (nf.1 + 1))), .val (.int (Int32.ofNat xa.1)), .val (.int (Int32.ofNat xb.1)), .val (.int (Int32.ofNat xc.1)), .val (.int (Int32.ofNat xd.1)), .val (.int md), .val (.ref ob), .val (.ref sa), .val (.int (Int32.ofNat q5_.length)), .val (.int (Int32.ofNat (own_lst q5_)))] [(.int (Int32.ofNat q5_.length))])) _
        refine XS.iconst X82.here hx rfl (hb hby at_210) ?_
        show Steps p.tables e below (T82.setTop (mkF m 211 #[.val (.int a1), .val (.int a2), .val (.int a3), .val (.int a4), .val (.int a5), .val (.int a6), .val (.int (Int32.ofNat (nf.1 + 1))), .val (.int (Int32.ofNat xa.1)), .val (.int (Int32.ofNat xb.1)), .val (.int (Int32.ofNat xc.1)), .val (.int (Int32.ofNat xd.1)), .val (.int md), .val (.ref ob), .val (.ref sa), .val (.int (Int32.ofNat q5_.length)), .val (.int (Int32.ofNat (own_lst q5_)))] [(.int (1 : Int32)), (.int (Int32.ofNat q5_.length))])) _
        refine XS.isub X82.here hx rfl (hb hby at_211) rfl ?_
        show Steps p.tables e below (T82.setTop (mkF m 212 #[.val (.int a1), .val (.int a2), .val (.int a3), .val (.int a4), .val (.int a5), .val (.int a6), .val (.int (Int32.ofNat (nf.1 + 1))), .val (.int (Int32.ofNat xa.1)), .val (.int (Int32.ofNat xb.1)), .val (.int (Int32.ofNat xc.1)), .val (.int (Int32.ofNat xd.1)), .val (.int md), .val (.ref ob), .val (.ref sa), .val (.int (Int32.ofNat q5_.length)), .val (.int (Int32.ofNat (own_lst q5_)))] [(.int ((Int32.ofNat q5_.length) - (1 : Int32)))])) _
        refine XS.istore X82.here hx rfl (hb hby at_212) rfl (l' := #[.val (.int a1), .val (.int a2), .val (.int a3), .val (.int a4), .val (.int a5), .val (.int a6), .val (.int (Int32.ofNat (nf.1 + 1))), .val (.int (Int32.ofNat xa.1)), .val (.int (Int32.ofNat xb.1)), .val (.int (Int32.ofNat xc.1)), .val (.int (Int32.ofNat xd.1)), .val (.int md), .val (.ref ob), .val (.ref sa), .val (.int ((Int32.ofNat q5_.length) - (1 : Int32))), .val (.int (Int32.ofNat (own_lst q5_)))]) rfl ?_
        exact kt
      have pre87 : ∀ t, Steps p.tables e below (T82.setTop (mkF m 214 #[.val (.int a1), .val (.int a2), .val (.int a3), .val (.int a4), .val (.int a5), .val (.int a6), .val (.int (Int32.ofNat (nf.1 + 1))), .val (.int (Int32.ofNat xa.1)), .val (.int (Int32.ofNat xb.1)), .val (.int (Int32.ofNat xc.1)), .val (.int (Int32.ofNat xd.1)), .val (.int md), .val (.ref ob), .val (.ref sa), .val (.int (Int32.ofNat q6_.length)), .val (.int (Int32.ofNat (own_lst q5_)))] [])) t → Steps p.tables e below (s₁.setTop (entryFrame m #[(.int a1), (.int a2), (.int a3), (.int a4), (.int a5), (.int a6)] maxLocals)) t := by rw [(by rw [he6, List.length_dropLast]; exact own_dec hq1 : (Int32.ofNat q6_.length) = ((Int32.ofNat q5_.length) - (1 : Int32)))]; exact pre86
      have len4 : q6_.length ≤ 3 := by rw [he6]; exact own_dl len4
      rw [← he6] at c1
      rw [← he6] at c2
      rw [← he6] at c3
      have pre88 : ∀ t, Steps p.tables e below (T82.setTop (mkF m 217 #[.val (.int a1), .val (.int a2), .val (.int a3), .val (.int a4), .val (.int a5), .val (.int a6), .val (.int (Int32.ofNat (nf.1 + 1))), .val (.int (Int32.ofNat xa.1)), .val (.int (Int32.ofNat xb.1)), .val (.int (Int32.ofNat xc.1)), .val (.int (Int32.ofNat xd.1)), .val (.int md), .val (.ref ob), .val (.ref sa), .val (.int (Int32.ofNat q6_.length)), .val (.int (Int32.ofNat (own_lst q5_)))] [(.int (1 : Int32)), (.int (Int32.ofNat q6_.length))])) t → Steps p.tables e below (s₁.setTop (entryFrame m #[(.int a1), (.int a2), (.int a3), (.int a4), (.int a5), (.int a6)] maxLocals)) t := by
        intro t kt
        refine pre87 t ?_
        show Steps p.tables e below (T82.setTop (mkF m 214 #[.val (.int a1), .val (.int a2), .val (.int a3), .val (.int a4), .val (.int a5), .val (.int a6), .val (.int (Int32.ofNat (nf.1 + 1))), .val (.int (Int32.ofNat xa.1)), .val (.int (Int32.ofNat xb.1)), .val (.int (Int32.ofNat xc.1)), .val (.int (Int32.ofNat xd.1)), .val (.int md), .val (.ref ob), .val (.ref sa), .val (.int (Int32.ofNat q6_.length)), .val (.int (Int32.ofNat (own_lst q5_)))] [])) _
        refine XS.iload X82.here hx rfl (hb hby at_214) rfl ?_
        show Steps p.tables e below (T82.setTop (mkF m 216 #[.val (.int a1), .val (.int a2), .val (.int a3), .val (.int a4), .val (.int a5), .val (.int a6), .val (.int (Int32.ofNat (nf.1 + 1))), .val (.int (Int32.ofNat xa.1)), .val (.int (Int32.ofNat xb.1)), .val (.int (Int32.ofNat xc.1)), .val (.int (Int32.ofNat xd.1)), .val (.int md), .val (.ref ob), .val (.ref sa), .val (.int (Int32.ofNat q6_.length)), .val (.int (Int32.ofNat (own_lst q5_)))] [(.int (Int32.ofNat q6_.length))])) _
        refine XS.iconst X82.here hx rfl (hb hby at_216) ?_
        exact kt
      by_cases hc217_2 : (Int32.ofNat q6_.length) < (1 : Int32)
      case pos =>
        have hl0 : q6_.length = 0 := own_lt1 (by omega) hc217_2
        have F0 : Fld Z T82.heap ob "com/example/wary_observer/waryobserver/equivalence/Splitters" "count" "I" (.int (0 : Int32)) := by have w := PB.2.2.2.1; rw [hl0] at w; exact w
        obtain ⟨cq89, kq89, q89a, q89b, q89c⟩ := isOf hZ rfl E_ob
        obtain ⟨_, _, ⟨T89, L89, k89, n89⟩, -, X89, ⟨Lc89, hQ89, l89, y89, z89⟩, st89⟩ := X82.virtualBack hx (y := (⟨"com/example/wary_observer/waryobserver/equivalence/Splitters", "isEmpty", "()Z"⟩ : MethodName)) (z := (⟨"com/example/wary_observer/waryobserver/equivalence/Splitters", "isEmpty", "()Z"⟩ : MethodName)) hown (mvT hZ (hw _ (List.mem_of_getElem? (i := 32) rfl))) (mvT hZ (hw _ (List.mem_of_getElem? (i := 33) rfl))) (notFace_of_selects (args := #[]) (mvT hZ (hw _ (List.mem_of_getElem? (i := 35) rfl)))) (mvT hZ (hw _ (List.mem_of_getElem? (i := 35) rfl))) (mvT hZ (hw _ (List.mem_of_getElem? (i := 34) rfl))) (by decide) (backOf (W := 0) (own_rm6 l Z a0 hw [] ob T82.heap n0 Z82 F0) hZ (hw _ (List.mem_of_getElem? (i := 36) rfl)) (hw _ (List.mem_of_getElem? (i := 3) rfl)) (by decide) (by decide)) q89a q89c (g := (mkF m 315 #[.val (.int a1), .val (.int a2), .val (.int a3), .val (.int a4), .val (.int a5), .val (.int a6), .val (.int (Int32.ofNat (nf.1 + 1))), .val (.int (Int32.ofNat xa.1)), .val (.int (Int32.ofNat xb.1)), .val (.int (Int32.ofNat xc.1)), .val (.int (Int32.ofNat xd.1)), .val (.int md), .val (.ref ob), .val (.ref sa), .val (.int (Int32.ofNat q6_.length)), .val (.int (Int32.ofNat (own_lst q5_)))] [(.ref ob)])) rfl (by rw [hml]; rfl) (Steps.refl _) (argsL := []) (rest := []) (lenOf own_pd2 rfl) rfl (by show 2 * 0 + _ ≤ _; exact Nat.le_of_eq rfl) (hb hby at_315) (fun _ _ => ⟨rfl, rfl, (by decide : 4 + 0 ≤ _), (by decide : 16 + 0 ≤ _)⟩)
        dsimp only [Pt.U, Pt.locs, Pt.cells, Pt.slots] at X89 l89 y89 z89 st89 hQ89
        subst l89 y89 z89
        obtain ⟨rfl, Nq89, eq89⟩ := hQ89
        have N89 := Fr.app N82 Nq89
        obtain ⟨fs, hr, hrun, hended, hW, hsame⟩ := X89.leave (v := some (.int (1 : Int32))) (fun h => by rw [Bd.returns] at h; cases h) (BodyLoose.notSynchronized Bd)
        refine ⟨_, _, pre88 _ ?_, hrun, hended, _, _, rfl, ?_, ⟨_, rfl⟩, hW, hsame.mono (by decide) (by decide)⟩
        · skip
          show Steps p.tables e below (T82.setTop (mkF m 217 #[.val (.int a1), .val (.int a2), .val (.int a3), .val (.int a4), .val (.int a5), .val (.int a6), .val (.int (Int32.ofNat (nf.1 + 1))), .val (.int (Int32.ofNat xa.1)), .val (.int (Int32.ofNat xb.1)), .val (.int (Int32.ofNat xc.1)), .val (.int (Int32.ofNat xd.1)), .val (.int md), .val (.ref ob), .val (.ref sa), .val (.int (Int32.ofNat q6_.length)), .val (.int (Int32.ofNat (own_lst q5_)))] [(.int (1 : Int32)), (.int (Int32.ofNat q6_.length))])) _
          refine XS.icmpYes X82.here hx rfl (pc0 := 217) (pc' := 247) rfl (hb hby at_217) rfl (tlt hc217_2).1 (by decide) (by decide) ?_
          show Steps p.tables e below (T82.setTop (mkF m 247 #[.val (.int a1), .val (.int a2), .val (.int a3), .val (.int a4), .val (.int a5), .val (.int a6), .val (.int (Int32.ofNat (nf.1 + 1))), .val (.int (Int32.ofNat xa.1)), .val (.int (Int32.ofNat xb.1)), .val (.int (Int32.ofNat xc.1)), .val (.int (Int32.ofNat xd.1)), .val (.int md), .val (.ref ob), .val (.ref sa), .val (.int (Int32.ofNat q6_.length)), .val (.int (Int32.ofNat (own_lst q5_)))] [])) _
          refine XS.iload X82.here hx rfl (hb hby at_247) rfl ?_
          show Steps p.tables e below (T82.setTop (mkF m 249 #[.val (.int a1), .val (.int a2), .val (.int a3), .val (.int a4), .val (.int a5), .val (.int a6), .val (.int (Int32.ofNat (nf.1 + 1))), .val (.int (Int32.ofNat xa.1)), .val (.int (Int32.ofNat xb.1)), .val (.int (Int32.ofNat xc.1)), .val (.int (Int32.ofNat xd.1)), .val (.int md), .val (.ref ob), .val (.ref sa), .val (.int (Int32.ofNat q6_.length)), .val (.int (Int32.ofNat (own_lst q5_)))] [(.int (Int32.ofNat q6_.length))])) _
          refine XS.iconst X82.here hx rfl (hb hby at_249) ?_
          show Steps p.tables e below (T82.setTop (mkF m 250 #[.val (.int a1), .val (.int a2), .val (.int a3), .val (.int a4), .val (.int a5), .val (.int a6), .val (.int (Int32.ofNat (nf.1 + 1))), .val (.int (Int32.ofNat xa.1)), .val (.int (Int32.ofNat xb.1)), .val (.int (Int32.ofNat xc.1)), .val (.int (Int32.ofNat xd.1)), .val (.int md), .val (.ref ob), .val (.ref sa), .val (.int (Int32.ofNat q6_.length)), .val (.int (Int32.ofNat (own_lst q5_)))] [(.int (1 : Int32)), (.int (Int32.ofNat q6_.length))])) _
          refine XS.icmpYes X82.here hx rfl (pc0 := 250) (pc' := 280) rfl (hb hby at_250) rfl (tlt hc217_2).1 (by decide) (by decide) ?_
          show Steps p.tables e below (T82.setTop (mkF m 280 #[.val (.int a1), .val (.int a2), .val (.int a3), .val (.int a4), .val (.int a5), .val (.int a6), .val (.int (Int32.ofNat (nf.1 + 1))), .val (.int (Int32.ofNat xa.1)), .val (.int (Int32.ofNat xb.1)), .val (.int (Int32.ofNat xc.1)), .val (.int (Int32.ofNat xd.1)), .val (.int md), .val (.ref ob), .val (.ref sa), .val (.int (Int32.ofNat q6_.length)), .val (.int (Int32.ofNat (own_lst q5_)))] [])) _
          refine XS.iload X82.here hx rfl (hb hby at_280) rfl ?_
          show Steps p.tables e below (T82.setTop (mkF m 282 #[.val (.int a1), .val (.int a2), .val (.int a3), .val (.int a4), .val (.int a5), .val (.int a6), .val (.int (Int32.ofNat (nf.1 + 1))), .val (.int (Int32.ofNat xa.1)), .val (.int (Int32.ofNat xb.1)), .val (.int (Int32.ofNat xc.1)), .val (.int (Int32.ofNat xd.1)), .val (.int md), .val (.ref ob), .val (.ref sa), .val (.int (Int32.ofNat q6_.length)), .val (.int (Int32.ofNat (own_lst q5_)))] [(.int (Int32.ofNat q6_.length))])) _
          refine XS.iconst X82.here hx rfl (hb hby at_282) ?_
          show Steps p.tables e below (T82.setTop (mkF m 283 #[.val (.int a1), .val (.int a2), .val (.int a3), .val (.int a4), .val (.int a5), .val (.int a6), .val (.int (Int32.ofNat (nf.1 + 1))), .val (.int (Int32.ofNat xa.1)), .val (.int (Int32.ofNat xb.1)), .val (.int (Int32.ofNat xc.1)), .val (.int (Int32.ofNat xd.1)), .val (.int md), .val (.ref ob), .val (.ref sa), .val (.int (Int32.ofNat q6_.length)), .val (.int (Int32.ofNat (own_lst q5_)))] [(.int (1 : Int32)), (.int (Int32.ofNat q6_.length))])) _
          refine XS.icmpYes X82.here hx rfl (pc0 := 283) (pc' := 313) rfl (hb hby at_283) rfl (tlt hc217_2).1 (by decide) (by decide) ?_
          show Steps p.tables e below (T82.setTop (mkF m 313 #[.val (.int a1), .val (.int a2), .val (.int a3), .val (.int a4), .val (.int a5), .val (.int a6), .val (.int (Int32.ofNat (nf.1 + 1))), .val (.int (Int32.ofNat xa.1)), .val (.int (Int32.ofNat xb.1)), .val (.int (Int32.ofNat xc.1)), .val (.int (Int32.ofNat xd.1)), .val (.int md), .val (.ref ob), .val (.ref sa), .val (.int (Int32.ofNat q6_.length)), .val (.int (Int32.ofNat (own_lst q5_)))] [])) _
          refine XS.aload X82.here hx rfl (hb hby at_313) rfl rfl ?_
          show Steps p.tables e below (T82.setTop (mkF m 315 #[.val (.int a1), .val (.int a2), .val (.int a3), .val (.int a4), .val (.int a5), .val (.int a6), .val (.int (Int32.ofNat (nf.1 + 1))), .val (.int (Int32.ofNat xa.1)), .val (.int (Int32.ofNat xb.1)), .val (.int (Int32.ofNat xc.1)), .val (.int (Int32.ofNat xd.1)), .val (.int md), .val (.ref ob), .val (.ref sa), .val (.int (Int32.ofNat q6_.length)), .val (.int (Int32.ofNat (own_lst q5_)))] [(.ref ob)])) _
          refine st89.trans ?_
          show Steps p.tables e below (T89.setTop (mkF m 318 #[.val (.int a1), .val (.int a2), .val (.int a3), .val (.int a4), .val (.int a5), .val (.int a6), .val (.int (Int32.ofNat (nf.1 + 1))), .val (.int (Int32.ofNat xa.1)), .val (.int (Int32.ofNat xb.1)), .val (.int (Int32.ofNat xc.1)), .val (.int (Int32.ofNat xd.1)), .val (.int md), .val (.ref ob), .val (.ref sa), .val (.int (Int32.ofNat q6_.length)), .val (.int (Int32.ofNat (own_lst q5_)))] [(.int (1 : Int32))])) _
          exact retN X89 hx (t := .boolean) Bd.returns (by simp) (hb hby at_318) hr
        · show own_Q0 Z a1 a2 a3 a4 a5 a6 h0 n0 _ T89.heap _
          rw [eq89]
          exact ⟨rfl, N89⟩
      case neg =>
        have hq1 : 1 ≤ q6_.length := own_nlt1 (by omega) hc217_2
        have hq3 : own_tok (nf.1 + 1) q6_ := c1 (own_nn1 hq1)
        have hq2 := hq3.1
        obtain ⟨cq90, kq90, q90a, q90b, q90c⟩ := isOf hZ rfl E_ob
        obtain ⟨_, _, ⟨T90, L90, k90, n90⟩, -, X90, ⟨Lc90, hQ90, l90, y90, z90⟩, st90⟩ := X82.virtualBack hx (y := (⟨"com/example/wary_observer/waryobserver/equivalence/Splitters", "take", "()I"⟩ : MethodName)) (z := (⟨"com/example/wary_observer/waryobserver/equivalence/Splitters", "take", "()I"⟩ : MethodName)) hown (mvT hZ (hw _ (List.mem_of_getElem? (i := 27) rfl))) (mvT hZ (hw _ (List.mem_of_getElem? (i := 28) rfl))) (notFace_of_selects (args := #[]) (mvT hZ (hw _ (List.mem_of_getElem? (i := 30) rfl)))) (mvT hZ (hw _ (List.mem_of_getElem? (i := 30) rfl))) (mvT hZ (hw _ (List.mem_of_getElem? (i := 29) rfl))) (by decide) (backOf (W := 0) (own_rm5 l Z a0 hw [] ob bl wt (nf.1 + 1) q6_ T82.heap n0 Z82 g_ob o1 o2 hn4 PB hq1 hq3) hZ (hw _ (List.mem_of_getElem? (i := 31) rfl)) (hw _ (List.mem_of_getElem? (i := 3) rfl)) (by decide) (by decide)) q90a q90c (g := (mkF m 222 #[.val (.int a1), .val (.int a2), .val (.int a3), .val (.int a4), .val (.int a5), .val (.int a6), .val (.int (Int32.ofNat (nf.1 + 1))), .val (.int (Int32.ofNat xa.1)), .val (.int (Int32.ofNat xb.1)), .val (.int (Int32.ofNat xc.1)), .val (.int (Int32.ofNat xd.1)), .val (.int md), .val (.ref ob), .val (.ref sa), .val (.int (Int32.ofNat q6_.length)), .val (.int (Int32.ofNat (own_lst q5_)))] [(.ref ob)])) rfl (by rw [hml]; rfl) (Steps.refl _) (argsL := []) (rest := []) (lenOf own_pd3 rfl) rfl (by show 2 * 0 + _ ≤ _; exact Nat.le_of_eq rfl) (hb hby at_222) (fun _ _ => ⟨rfl, rfl, (by decide : 4 + 0 ≤ _), (by decide : 16 + 0 ≤ _)⟩)
        dsimp only [Pt.U, Pt.locs, Pt.cells, Pt.slots] at X90 l90 y90 z90 st90 hQ90
        subst l90 y90 z90
        obtain ⟨rfl, Nq90, Kq90, PB⟩ := hQ90
        have N90 := Fr.app N82 Nq90
        have E_ob := E_ob.keep Kq90
        have PT := PT.keep Kq90 (ninS (Ne.symm ne_ob_sa) (ninS (Ne.symm ne_bl_sa) (ninS (Ne.symm ne_wt_sa) nin0)))
        have Z90 := Nat.le_trans Z82 Kq90.1
        have pre91 : ∀ t, Steps p.tables e below (T90.setTop (mkF m 235 #[.val (.int a1), .val (.int a2), .val (.int a3), .val (.int a4), .val (.int a5), .val (.int a6), .val (.int (Int32.ofNat (nf.1 + 1))), .val (.int (Int32.ofNat xa.1)), .val (.int (Int32.ofNat xb.1)), .val (.int (Int32.ofNat xc.1)), .val (.int (Int32.ofNat xd.1)), .val (.int md), .val (.ref ob), .val (.ref sa), .val (.int (Int32.ofNat q6_.length)), .val (.int (Int32.ofNat (own_lst q6_)))] [(.int ((Int32.ofNat q6_.length) - (1 : Int32))), (.ref sa), (.int (Int32.ofNat (own_lst q6_)))])) t → Steps p.tables e below (s₁.setTop (entryFrame m #[(.int a1), (.int a2), (.int a3), (.int a4), (.int a5), (.int a6)] maxLocals)) t := by
          intro t kt
          refine pre88 t ?_
          show Steps p.tables e below (T82.setTop (mkF m 217 #[.val (.int a1), .val (.int a2), .val (.int a3), .val (.int a4), .val (.int a5), .val (.int a6), .val (.int (Int32.ofNat (nf.1 + 1))), .val (.int (Int32.ofNat xa.1)), .val (.int (Int32.ofNat xb.1)), .val (.int (Int32.ofNat xc.1)), .val (.int (Int32.ofNat xd.1)), .val (.int md), .val (.ref ob), .val (.ref sa), .val (.int (Int32.ofNat q6_.length)), .val (.int (Int32.ofNat (own_lst q5_)))] [(.int (1 : Int32)), (.int (Int32.ofNat q6_.length))])) _
          refine XS.icmpNo X82.here hx rfl (hb hby at_217) rfl (flt hc217_2).1 ?_
          show Steps p.tables e below (T82.setTop (mkF m 220 #[.val (.int a1), .val (.int a2), .val (.int a3), .val (.int a4), .val (.int a5), .val (.int a6), .val (.int (Int32.ofNat (nf.1 + 1))), .val (.int (Int32.ofNat xa.1)), .val (.int (Int32.ofNat xb.1)), .val (.int (Int32.ofNat xc.1)), .val (.int (Int32.ofNat xd.1)), .val (.int md), .val (.ref ob), .val (.ref sa), .val (.int (Int32.ofNat q6_.length)), .val (.int (Int32.ofNat (own_lst q5_)))] [])) _
          refine XS.aload X82.here hx rfl (hb hby at_220) rfl rfl ?_
          show Steps p.tables e below (T82.setTop (mkF m 222 #[.val (.int a1), .val (.int a2), .val (.int a3), .val (.int a4), .val (.int a5), .val (.int a6), .val (.int (Int32.ofNat (nf.1 + 1))), .val (.int (Int32.ofNat xa.1)), .val (.int (Int32.ofNat xb.1)), .val (.int (Int32.ofNat xc.1)), .val (.int (Int32.ofNat xd.1)), .val (.int md), .val (.ref ob), .val (.ref sa), .val (.int (Int32.ofNat q6_.length)), .val (.int (Int32.ofNat (own_lst q5_)))] [(.ref ob)])) _
          refine st90.trans ?_
          show Steps p.tables e below (T90.setTop (mkF m 225 #[.val (.int a1), .val (.int a2), .val (.int a3), .val (.int a4), .val (.int a5), .val (.int a6), .val (.int (Int32.ofNat (nf.1 + 1))), .val (.int (Int32.ofNat xa.1)), .val (.int (Int32.ofNat xb.1)), .val (.int (Int32.ofNat xc.1)), .val (.int (Int32.ofNat xd.1)), .val (.int md), .val (.ref ob), .val (.ref sa), .val (.int (Int32.ofNat q6_.length)), .val (.int (Int32.ofNat (own_lst q5_)))] [(.int (Int32.ofNat (own_lst q6_)))])) _
          refine XS.istore X90.here hx rfl (hb hby at_225) rfl (l' := #[.val (.int a1), .val (.int a2), .val (.int a3), .val (.int a4), .val (.int a5), .val (.int a6), .val (.int (Int32.ofNat (nf.1 + 1))), .val (.int (Int32.ofNat xa.1)), .val (.int (Int32.ofNat xb.1)), .val (.int (Int32.ofNat xc.1)), .val (.int (Int32.ofNat xd.1)), .val (.int md), .val (.ref ob), .val (.ref sa), .val (.int (Int32.ofNat q6_.length)), .val (.int (Int32.ofNat (own_lst q6_)))]) rfl ?_
          show Steps p.tables e below (T90.setTop (mkF m 227 #[.val (.int a1), .val (.int a2), .val (.int a3), .val (.int a4), .val (.int a5), .val (.int a6), .val (.int (Int32.ofNat (nf.1 + 1))), .val (.int (Int32.ofNat xa.1)), .val (.int (Int32.ofNat xb.1)), .val (.int (Int32.ofNat xc.1)), .val (.int (Int32.ofNat xd.1)), .val (.int md), .val (.ref ob), .val (.ref sa), .val (.int (Int32.ofNat q6_.length)), .val (.int (Int32.ofNat (own_lst q6_)))] [])) _
          refine XS.iload X90.here hx rfl (hb hby at_227) rfl ?_
          show Steps p.tables e below (T90.setTop (mkF m 229 #[.val (.int a1), .val (.int a2), .val (.int a3), .val (.int a4), .val (.int a5), .val (.int a6), .val (.int (Int32.ofNat (nf.1 + 1))), .val (.int (Int32.ofNat xa.1)), .val (.int (Int32.ofNat xb.1)), .val (.int (Int32.ofNat xc.1)), .val (.int (Int32.ofNat xd.1)), .val (.int md), .val (.ref ob), .val (.ref sa), .val (.int (Int32.ofNat q6_.length)), .val (.int (Int32.ofNat (own_lst q6_)))] [(.int (Int32.ofNat (own_lst q6_)))])) _
          refine XS.aload X90.here hx rfl (hb hby at_229) rfl rfl ?_
          show Steps p.tables e below (T90.setTop (mkF m 231 #[.val (.int a1), .val (.int a2), .val (.int a3), .val (.int a4), .val (.int a5), .val (.int a6), .val (.int (Int32.ofNat (nf.1 + 1))), .val (.int (Int32.ofNat xa.1)), .val (.int (Int32.ofNat xb.1)), .val (.int (Int32.ofNat xc.1)), .val (.int (Int32.ofNat xd.1)), .val (.int md), .val (.ref ob), .val (.ref sa), .val (.int (Int32.ofNat q6_.length)), .val (.int (Int32.ofNat (own_lst q6_)))] [(.ref sa), (.int (Int32.ofNat (own_lst q6_)))])) _
          refine XS.iload X90.here hx rfl (hb hby at_231) rfl ?_
          show Steps p.tables e below (T90.setTop (mkF m 233 #[.val (.int a1), .val (.int a2), .val (.int a3), .val (.int a4), .val (.int a5), .val (.int a6), .val (.int (Int32.ofNat (nf.1 + 1))), .val (.int (Int32.ofNat xa.1)), .val (.int (Int32.ofNat xb.1)), .val (.int (Int32.ofNat xc.1)), .val (.int (Int32.ofNat xd.1)), .val (.int md), .val (.ref ob), .val (.ref sa), .val (.int (Int32.ofNat q6_.length)), .val (.int (Int32.ofNat (own_lst q6_)))] [(.int (Int32.ofNat q6_.length)), (.ref sa), (.int (Int32.ofNat (own_lst q6_)))])) _
          refine XS.iconst X90.here hx rfl (hb hby at_233) ?_
          show Steps p.tables e below (T90.setTop (mkF m 234 #[.val (.int a1), .val (.int a2), .val (.int a3), .val (.int a4), .val (.int a5), .val (.int a6), .val (.int (Int32.ofNat (nf.1 + 1))), .val (.int (Int32.ofNat xa.1)), .val (.int (Int32.ofNat xb.1)), .val (.int (Int32.ofNat xc.1)), .val (.int (Int32.ofNat xd.1)), .val (.int md), .val (.ref ob), .val (.ref sa), .val (.int (Int32.ofNat q6_.length)), .val (.int (Int32.ofNat (own_lst q6_)))] [(.int (1 : Int32)), (.int (Int32.ofNat q6_.length)), (.ref sa), (.int (Int32.ofNat (own_lst q6_)))])) _
          refine XS.isub X90.here hx rfl (hb hby at_234) rfl ?_
          exact kt
        have pre92 : ∀ t, Steps p.tables e below (T90.setTop (mkF m 235 #[.val (.int a1), .val (.int a2), .val (.int a3), .val (.int a4), .val (.int a5), .val (.int a6), .val (.int (Int32.ofNat (nf.1 + 1))), .val (.int (Int32.ofNat xa.1)), .val (.int (Int32.ofNat xb.1)), .val (.int (Int32.ofNat xc.1)), .val (.int (Int32.ofNat xd.1)), .val (.int md), .val (.ref ob), .val (.ref sa), .val (.int (Int32.ofNat q6_.length)), .val (.int (Int32.ofNat (own_lst q6_)))] [(.int (Int32.ofNat (q6_.length - 1))), (.ref sa), (.int (Int32.ofNat (own_lst q6_)))])) t → Steps p.tables e below (s₁.setTop (entryFrame m #[(.int a1), (.int a2), (.int a3), (.int a4), (.int a5), (.int a6)] maxLocals)) t := by rw [(own_dec hq1 : (Int32.ofNat (q6_.length - 1)) = ((Int32.ofNat q6_.length) - (1 : Int32)))]; exact pre91
        obtain ⟨sf, V_sa, hsf⟩ := PT
        have ld93 := (own_ldI X90 hx hZ rfl V_sa (j := (Int32.ofNat (q6_.length - 1))) (own_ix (by omega)).1 (k := (q6_.length - 1)) (own_ix (by omega)).2 (by omega) (v := (.int (Int32.ofNat (own_lst q6_)))) (congrArg Value.int (hsf _ (by omega))) (g := (mkF m 235 #[.val (.int a1), .val (.int a2), .val (.int a3), .val (.int a4), .val (.int a5), .val (.int a6), .val (.int (Int32.ofNat (nf.1 + 1))), .val (.int (Int32.ofNat xa.1)), .val (.int (Int32.ofNat xb.1)), .val (.int (Int32.ofNat xc.1)), .val (.int (Int32.ofNat xd.1)), .val (.int md), .val (.ref ob), .val (.ref sa), .val (.int (Int32.ofNat q6_.length)), .val (.int (Int32.ofNat (own_lst q6_)))] [(.int (Int32.ofNat (q6_.length - 1))), (.ref sa), (.int (Int32.ofNat (own_lst q6_)))])) rfl rfl (hb hby at_235))
        have PT : own_T Z sa q6_.dropLast T90.heap := own_T.drop ⟨sf, V_sa, hsf⟩
        have hall := own_all_drop hall
        obtain ⟨q7_, he7⟩ : ∃ z : List Nat, z = q6_.dropLast := ⟨_, rfl⟩
        rw [← he7] at PB PT hall
        have pre94 : ∀ t, Steps p.tables e below (T90.setTop (mkF m 247 #[.val (.int a1), .val (.int a2), .val (.int a3), .val (.int a4), .val (.int a5), .val (.int a6), .val (.int (Int32.ofNat (nf.1 + 1))), .val (.int (Int32.ofNat xa.1)), .val (.int (Int32.ofNat xb.1)), .val (.int (Int32.ofNat xc.1)), .val (.int (Int32.ofNat xd.1)), .val (.int md), .val (.ref ob), .val (.ref sa), .val (.int ((Int32.ofNat q6_.length) - (1 : Int32))), .val (.int (Int32.ofNat (own_lst q6_)))] [])) t → Steps p.tables e below (s₁.setTop (entryFrame m #[(.int a1), (.int a2), (.int a3), (.int a4), (.int a5), (.int a6)] maxLocals)) t := by
          intro t kt
          refine pre92 t ?_
          show Steps p.tables e below (T90.setTop (mkF m 235 #[.val (.int a1), .val (.int a2), .val (.int a3), .val (.int a4), .val (.int a5), .val (.int a6), .val (.int (Int32.ofNat (nf.1 + 1))), .val (.int (Int32.ofNat xa.1)), .val (.int (Int32.ofNat xb.1)), .val (.int (Int32.ofNat xc.1)), .val (.int (Int32.ofNat xd.1)), .val (.int md), .val (.ref ob), .val (.ref sa), .val (.int (Int32.ofNat q6_.length)), .val (.int (Int32.ofNat (own_lst q6_)))] [(.int (Int32.ofNat (q6_.length - 1))), (.ref sa), (.int (Int32.ofNat (own_lst q6_)))])) _
          refine ld93 _ ?_
          show Steps p.tables e below (T90.setTop (mkF m 236 #[.val (.int a1), .val (.int a2), .val (.int a3), .val (.int a4), .val (.int a5), .val (.int a6), .val (.int (Int32.ofNat (nf.1 + 1))), .val (.int (Int32.ofNat xa.1)), .val (.int (Int32.ofNat xb.1)), .val (.int (Int32.ofNat xc.1)), .val (.int (Int32.ofNat xd.1)), .val (.int md), .val (.ref ob), .val (.ref sa), .val (.int (Int32.ofNat q6_.length)), .val (.int (Int32.ofNat (own_lst q6_)))] [(.int (Int32.ofNat (own_lst q6_))), (.int (Int32.ofNat (own_lst q6_)))])) _
          refine XS.icmpYes X90.here hx rfl (pc0 := 236) (pc' := 241) rfl (hb hby at_236) rfl (teq rfl).1 (by decide) (by decide) ?_
          show Steps p.tables e below (T90.setTop (mkF m 241 #[.val (.int a1), .val (.int a2), .val (.int a3), .val (.int a4), .val (.int a5), .val (.int a6), .val (.int (Int32.ofNat (nf.1 + 1))), .val (.int (Int32.ofNat xa.1)), .val (.int (Int32.ofNat xb.1)), .val (.int (Int32.ofNat xc.1)), .val (.int (Int32.ofNat xd.1)), .val (.int md), .val (.ref ob), .val (.ref sa), .val (.int (Int32.ofNat q6_.length)), .val (.int (Int32.ofNat (own_lst q6_)))] [])) _
          refine XS.iload X90.here hx rfl (hb hby at_241) rfl ?_
          show Steps p.tables e below (T90.setTop (mkF m 243 #[.val (.int a1), .val (.int a2), .val (.int a3), .val (.int a4), .val (.int a5), .val (.int a6), .val (.int (Int32.ofNat (nf.1 + 1))), .val (.int (Int32.ofNat xa.1)), .val (.int (Int32.ofNat xb.1)), .val (.int (Int32.ofNat xc.1)), .val (.int (Int32.ofNat xd.1)), .val (.int md), .val (.ref ob), .val (.ref sa), .val (.int (Int32.ofNat q6_.length)), .val (.int (Int32.ofNat (own_lst q6_)))] [(.int (Int32.ofNat q6_.length))])) _
          refine XS.iconst X90.here hx rfl (hb hby at_243) ?_
          show Steps p.tables e below (T90.setTop (mkF m 244 #[.val (.int a1), .val (.int a2), .val (.int a3), .val (.int a4), .val (.int a5), .val (.int a6), .val (.int (Int32.ofNat (nf.1 + 1))), .val (.int (Int32.ofNat xa.1)), .val (.int (Int32.ofNat xb.1)), .val (.int (Int32.ofNat xc.1)), .val (.int (Int32.ofNat xd.1)), .val (.int md), .val (.ref ob), .val (.ref sa), .val (.int (Int32.ofNat q6_.length)), .val (.int (Int32.ofNat (own_lst q6_)))] [(.int (1 : Int32)), (.int (Int32.ofNat q6_.length))])) _
          refine XS.isub X90.here hx rfl (hb hby at_244) rfl ?_
          show Steps p.tables e below (T90.setTop (mkF m 245 #[.val (.int a1), .val (.int a2), .val (.int a3), .val (.int a4), .val (.int a5), .val (.int a6), .val (.int (Int32.ofNat (nf.1 + 1))), .val (.int (Int32.ofNat xa.1)), .val (.int (Int32.ofNat xb.1)), .val (.int (Int32.ofNat xc.1)), .val (.int (Int32.ofNat xd.1)), .val (.int md), .val (.ref ob), .val (.ref sa), .val (.int (Int32.ofNat q6_.length)), .val (.int (Int32.ofNat (own_lst q6_)))] [(.int ((Int32.ofNat q6_.length) - (1 : Int32)))])) _
          refine XS.istore X90.here hx rfl (hb hby at_245) rfl (l' := #[.val (.int a1), .val (.int a2), .val (.int a3), .val (.int a4), .val (.int a5), .val (.int a6), .val (.int (Int32.ofNat (nf.1 + 1))), .val (.int (Int32.ofNat xa.1)), .val (.int (Int32.ofNat xb.1)), .val (.int (Int32.ofNat xc.1)), .val (.int (Int32.ofNat xd.1)), .val (.int md), .val (.ref ob), .val (.ref sa), .val (.int ((Int32.ofNat q6_.length) - (1 : Int32))), .val (.int (Int32.ofNat (own_lst q6_)))]) rfl ?_
          exact kt
        have pre95 : ∀ t, Steps p.tables e below (T90.setTop (mkF m 247 #[.val (.int a1), .val (.int a2), .val (.int a3), .val (.int a4), .val (.int a5), .val (.int a6), .val (.int (Int32.ofNat (nf.1 + 1))), .val (.int (Int32.ofNat xa.1)), .val (.int (Int32.ofNat xb.1)), .val (.int (Int32.ofNat xc.1)), .val (.int (Int32.ofNat xd.1)), .val (.int md), .val (.ref ob), .val (.ref sa), .val (.int (Int32.ofNat q7_.length)), .val (.int (Int32.ofNat (own_lst q6_)))] [])) t → Steps p.tables e below (s₁.setTop (entryFrame m #[(.int a1), (.int a2), (.int a3), (.int a4), (.int a5), (.int a6)] maxLocals)) t := by rw [(by rw [he7, List.length_dropLast]; exact own_dec hq1 : (Int32.ofNat q7_.length) = ((Int32.ofNat q6_.length) - (1 : Int32)))]; exact pre94
        have len4 : q7_.length ≤ 2 := by rw [he7]; exact own_dl len4
        rw [← he7] at c2
        rw [← he7] at c3
        have pre96 : ∀ t, Steps p.tables e below (T90.setTop (mkF m 250 #[.val (.int a1), .val (.int a2), .val (.int a3), .val (.int a4), .val (.int a5), .val (.int a6), .val (.int (Int32.ofNat (nf.1 + 1))), .val (.int (Int32.ofNat xa.1)), .val (.int (Int32.ofNat xb.1)), .val (.int (Int32.ofNat xc.1)), .val (.int (Int32.ofNat xd.1)), .val (.int md), .val (.ref ob), .val (.ref sa), .val (.int (Int32.ofNat q7_.length)), .val (.int (Int32.ofNat (own_lst q6_)))] [(.int (1 : Int32)), (.int (Int32.ofNat q7_.length))])) t → Steps p.tables e below (s₁.setTop (entryFrame m #[(.int a1), (.int a2), (.int a3), (.int a4), (.int a5), (.int a6)] maxLocals)) t := by
          intro t kt
          refine pre95 t ?_
          show Steps p.tables e below (T90.setTop (mkF m 247 #[.val (.int a1), .val (.int a2), .val (.int a3), .val (.int a4), .val (.int a5), .val (.int a6), .val (.int (Int32.ofNat (nf.1 + 1))), .val (.int (Int32.ofNat xa.1)), .val (.int (Int32.ofNat xb.1)), .val (.int (Int32.ofNat xc.1)), .val (.int (Int32.ofNat xd.1)), .val (.int md), .val (.ref ob), .val (.ref sa), .val (.int (Int32.ofNat q7_.length)), .val (.int (Int32.ofNat (own_lst q6_)))] [])) _
          refine XS.iload X90.here hx rfl (hb hby at_247) rfl ?_
          show Steps p.tables e below (T90.setTop (mkF m 249 #[.val (.int a1), .val (.int a2), .val (.int a3), .val (.int a4), .val (.int a5), .val (.int a6), .val (.int (Int32.ofNat (nf.1 + 1))), .val (.int (Int32.ofNat xa.1)), .val (.int (Int32.ofNat xb.1)), .val (.int (Int32.ofNat xc.1)), .val (.int (Int32.ofNat xd.1)), .val (.int md), .val (.ref ob), .val (.ref sa), .val (.int (Int32.ofNat q7_.length)), .val (.int (Int32.ofNat (own_lst q6_)))] [(.int (Int32.ofNat q7_.length))])) _
          refine XS.iconst X90.here hx rfl (hb hby at_249) ?_
          exact kt
        by_cases hc250_2 : (Int32.ofNat q7_.length) < (1 : Int32)
        case pos =>
          have hl0 : q7_.length = 0 := own_lt1 (by omega) hc250_2
          have F0 : Fld Z T90.heap ob "com/example/wary_observer/waryobserver/equivalence/Splitters" "count" "I" (.int (0 : Int32)) := by have w := PB.2.2.2.1; rw [hl0] at w; exact w
          obtain ⟨cq97, kq97, q97a, q97b, q97c⟩ := isOf hZ rfl E_ob
          obtain ⟨_, _, ⟨T97, L97, k97, n97⟩, -, X97, ⟨Lc97, hQ97, l97, y97, z97⟩, st97⟩ := X90.virtualBack hx (y := (⟨"com/example/wary_observer/waryobserver/equivalence/Splitters", "isEmpty", "()Z"⟩ : MethodName)) (z := (⟨"com/example/wary_observer/waryobserver/equivalence/Splitters", "isEmpty", "()Z"⟩ : MethodName)) hown (mvT hZ (hw _ (List.mem_of_getElem? (i := 32) rfl))) (mvT hZ (hw _ (List.mem_of_getElem? (i := 33) rfl))) (notFace_of_selects (args := #[]) (mvT hZ (hw _ (List.mem_of_getElem? (i := 35) rfl)))) (mvT hZ (hw _ (List.mem_of_getElem? (i := 35) rfl))) (mvT hZ (hw _ (List.mem_of_getElem? (i := 34) rfl))) (by decide) (backOf (W := 0) (own_rm6 l Z a0 hw [] ob T90.heap n0 Z90 F0) hZ (hw _ (List.mem_of_getElem? (i := 36) rfl)) (hw _ (List.mem_of_getElem? (i := 3) rfl)) (by decide) (by decide)) q97a q97c (g := (mkF m 315 #[.val (.int a1), .val (.int a2), .val (.int a3), .val (.int a4), .val (.int a5), .val (.int a6), .val (.int (Int32.ofNat (nf.1 + 1))), .val (.int (Int32.ofNat xa.1)), .val (.int (Int32.ofNat xb.1)), .val (.int (Int32.ofNat xc.1)), .val (.int (Int32.ofNat xd.1)), .val (.int md), .val (.ref ob), .val (.ref sa), .val (.int (Int32.ofNat q7_.length)), .val (.int (Int32.ofNat (own_lst q6_)))] [(.ref ob)])) rfl (by rw [hml]; rfl) (Steps.refl _) (argsL := []) (rest := []) (lenOf own_pd2 rfl) rfl (by show 2 * 0 + _ ≤ _; exact Nat.le_of_eq rfl) (hb hby at_315) (fun _ _ => ⟨rfl, rfl, (by decide : 4 + 0 ≤ _), (by decide : 16 + 0 ≤ _)⟩)
          dsimp only [Pt.U, Pt.locs, Pt.cells, Pt.slots] at X97 l97 y97 z97 st97 hQ97
          subst l97 y97 z97
          obtain ⟨rfl, Nq97, eq97⟩ := hQ97
          have N97 := Fr.app N90 Nq97
          obtain ⟨fs, hr, hrun, hended, hW, hsame⟩ := X97.leave (v := some (.int (1 : Int32))) (fun h => by rw [Bd.returns] at h; cases h) (BodyLoose.notSynchronized Bd)
          refine ⟨_, _, pre96 _ ?_, hrun, hended, _, _, rfl, ?_, ⟨_, rfl⟩, hW, hsame.mono (by decide) (by decide)⟩
          · skip
            show Steps p.tables e below (T90.setTop (mkF m 250 #[.val (.int a1), .val (.int a2), .val (.int a3), .val (.int a4), .val (.int a5), .val (.int a6), .val (.int (Int32.ofNat (nf.1 + 1))), .val (.int (Int32.ofNat xa.1)), .val (.int (Int32.ofNat xb.1)), .val (.int (Int32.ofNat xc.1)), .val (.int (Int32.ofNat xd.1)), .val (.int md), .val (.ref ob), .val (.ref sa), .val (.int (Int32.ofNat q7_.length)), .val (.int (Int32.ofNat (own_lst q6_)))] [(.int (1 : Int32)), (.int (Int32.ofNat q7_.length))])) _
            refine XS.icmpYes X90.here hx rfl (pc0 := 250) (pc' := 280) rfl (hb hby at_250) rfl (tlt hc250_2).1 (by decide) (by decide) ?_
            show Steps p.tables e below (T90.setTop (mkF m 280 #[.val (.int a1), .val (.int a2), .val (.int a3), .val (.int a4), .val (.int a5), .val (.int a6), .val (.int (Int32.ofNat (nf.1 + 1))), .val (.int (Int32.ofNat xa.1)), .val (.int (Int32.ofNat xb.1)), .val (.int (Int32.ofNat xc.1)), .val (.int (Int32.ofNat xd.1)), .val (.int md), .val (.ref ob), .val (.ref sa), .val (.int (Int32.ofNat q7_.length)), .val (.int (Int32.ofNat (own_lst q6_)))] [])) _
            refine XS.iload X90.here hx rfl (hb hby at_280) rfl ?_
            show Steps p.tables e below (T90.setTop (mkF m 282 #[.val (.int a1), .val (.int a2), .val (.int a3), .val (.int a4), .val (.int a5), .val (.int a6), .val (.int (Int32.ofNat (nf.1 + 1))), .val (.int (Int32.ofNat xa.1)), .val (.int (Int32.ofNat xb.1)), .val (.int (Int32.ofNat xc.1)), .val (.int (Int32.ofNat xd.1)), .val (.int md), .val (.ref ob), .val (.ref sa), .val (.int (Int32.ofNat q7_.length)), .val (.int (Int32.ofNat (own_lst q6_)))] [(.int (Int32.ofNat q7_.length))])) _
            refine XS.iconst X90.here hx rfl (hb hby at_282) ?_
            show Steps p.tables e below (T90.setTop (mkF m 283 #[.val (.int a1), .val (.int a2), .val (.int a3), .val (.int a4), .val (.int a5), .val (.int a6), .val (.int (Int32.ofNat (nf.1 + 1))), .val (.int (Int32.ofNat xa.1)), .val (.int (Int32.ofNat xb.1)), .val (.int (Int32.ofNat xc.1)), .val (.int (Int32.ofNat xd.1)), .val (.int md), .val (.ref ob), .val (.ref sa), .val (.int (Int32.ofNat q7_.length)), .val (.int (Int32.ofNat (own_lst q6_)))] [(.int (1 : Int32)), (.int (Int32.ofNat q7_.length))])) _
            refine XS.icmpYes X90.here hx rfl (pc0 := 283) (pc' := 313) rfl (hb hby at_283) rfl (tlt hc250_2).1 (by decide) (by decide) ?_
            show Steps p.tables e below (T90.setTop (mkF m 313 #[.val (.int a1), .val (.int a2), .val (.int a3), .val (.int a4), .val (.int a5), .val (.int a6), .val (.int (Int32.ofNat (nf.1 + 1))), .val (.int (Int32.ofNat xa.1)), .val (.int (Int32.ofNat xb.1)), .val (.int (Int32.ofNat xc.1)), .val (.int (Int32.ofNat xd.1)), .val (.int md), .val (.ref ob), .val (.ref sa), .val (.int (Int32.ofNat q7_.length)), .val (.int (Int32.ofNat (own_lst q6_)))] [])) _
            refine XS.aload X90.here hx rfl (hb hby at_313) rfl rfl ?_
            show Steps p.tables e below (T90.setTop (mkF m 315 #[.val (.int a1), .val (.int a2), .val (.int a3), .val (.int a4), .val (.int a5), .val (.int a6), .val (.int (Int32.ofNat (nf.1 + 1))), .val (.int (Int32.ofNat xa.1)), .val (.int (Int32.ofNat xb.1)), .val (.int (Int32.ofNat xc.1)), .val (.int (Int32.ofNat xd.1)), .val (.int md), .val (.ref ob), .val (.ref sa), .val (.int (Int32.ofNat q7_.length)), .val (.int (Int32.ofNat (own_lst q6_)))] [(.ref ob)])) _
            refine st97.trans ?_
            show Steps p.tables e below (T97.setTop (mkF m 318 #[.val (.int a1), .val (.int a2), .val (.int a3), .val (.int a4), .val (.int a5), .val (.int a6), .val (.int (Int32.ofNat (nf.1 + 1))), .val (.int (Int32.ofNat xa.1)), .val (.int (Int32.ofNat xb.1)), .val (.int (Int32.ofNat xc.1)), .val (.int (Int32.ofNat xd.1)), .val (.int md), .val (.ref ob), .val (.ref sa), .val (.int (Int32.ofNat q7_.length)), .val (.int (Int32.ofNat (own_lst q6_)))] [(.int (1 : Int32))])) _
            exact retN X97 hx (t := .boolean) Bd.returns (by simp) (hb hby at_318) hr
          · show own_Q0 Z a1 a2 a3 a4 a5 a6 h0 n0 _ T97.heap _
            rw [eq97]
            exact ⟨rfl, N97⟩
        case neg =>
          have hq1 : 1 ≤ q7_.length := own_nlt1 (by omega) hc250_2
          have hq3 : own_tok (nf.1 + 1) q7_ := c2 (own_nn1 hq1)
          have hq2 := hq3.1
          obtain ⟨cq98, kq98, q98a, q98b, q98c⟩ := isOf hZ rfl E_ob
          obtain ⟨_, _, ⟨T98, L98, k98, n98⟩, -, X98, ⟨Lc98, hQ98, l98, y98, z98⟩, st98⟩ := X90.virtualBack hx (y := (⟨"com/example/wary_observer/waryobserver/equivalence/Splitters", "take", "()I"⟩ : MethodName)) (z := (⟨"com/example/wary_observer/waryobserver/equivalence/Splitters", "take", "()I"⟩ : MethodName)) hown (mvT hZ (hw _ (List.mem_of_getElem? (i := 27) rfl))) (mvT hZ (hw _ (List.mem_of_getElem? (i := 28) rfl))) (notFace_of_selects (args := #[]) (mvT hZ (hw _ (List.mem_of_getElem? (i := 30) rfl)))) (mvT hZ (hw _ (List.mem_of_getElem? (i := 30) rfl))) (mvT hZ (hw _ (List.mem_of_getElem? (i := 29) rfl))) (by decide) (backOf (W := 0) (own_rm5 l Z a0 hw [] ob bl wt (nf.1 + 1) q7_ T90.heap n0 Z90 g_ob o1 o2 hn4 PB hq1 hq3) hZ (hw _ (List.mem_of_getElem? (i := 31) rfl)) (hw _ (List.mem_of_getElem? (i := 3) rfl)) (by decide) (by decide)) q98a q98c (g := (mkF m 255 #[.val (.int a1), .val (.int a2), .val (.int a3), .val (.int a4), .val (.int a5), .val (.int a6), .val (.int (Int32.ofNat (nf.1 + 1))), .val (.int (Int32.ofNat xa.1)), .val (.int (Int32.ofNat xb.1)), .val (.int (Int32.ofNat xc.1)), .val (.int (Int32.ofNat xd.1)), .val (.int md), .val (.ref ob), .val (.ref sa), .val (.int (Int32.ofNat q7_.length)), .val (.int (Int32.ofNat (own_lst q6_)))] [(.ref ob)])) rfl (by rw [hml]; rfl) (Steps.refl _) (argsL := []) (rest := []) (lenOf own_pd3 rfl) rfl (by show 2 * 0 + _ ≤ _; exact Nat.le_of_eq rfl) (hb hby at_255) (fun _ _ => ⟨rfl, rfl, (by decide : 4 + 0 ≤ _), (by decide : 16 + 0 ≤ _)⟩)
          dsimp only [Pt.U, Pt.locs, Pt.cells, Pt.slots] at X98 l98 y98 z98 st98 hQ98
          subst l98 y98 z98
          obtain ⟨rfl, Nq98, Kq98, PB⟩ := hQ98
          have N98 := Fr.app N90 Nq98
          have E_ob := E_ob.keep Kq98
          have PT := PT.keep Kq98 (ninS (Ne.symm ne_ob_sa) (ninS (Ne.symm ne_bl_sa) (ninS (Ne.symm ne_wt_sa) nin0)))
          have Z98 := Nat.le_trans Z90 Kq98.1
          have pre99 : ∀ t, Steps p.tables e below (T98.setTop (mkF m 268 #[.val (.int a1), .val (.int a2), .val (.int a3), .val (.int a4), .val (.int a5), .val (.int a6), .val (.int (Int32.ofNat (nf.1 + 1))), .val (.int (Int32.ofNat xa.1)), .val (.int (Int32.ofNat xb.1)), .val (.int (Int32.ofNat xc.1)), .val (.int (Int32.ofNat xd.1)), .val (.int md), .val (.ref ob), .val (.ref sa), .val (.int (Int32.ofNat q7_.length)), .val (.int (Int32.ofNat (own_lst q7_)))] [(.int ((Int32.ofNat q7_.length) - (1 : Int32))), (.ref sa), (.int (Int32.ofNat (own_lst q7_)))])) t → Steps p.tables e below (s₁.setTop (entryFrame m #[(.int a1), (.int a2), (.int a3), (.int a4), (.int a5), (.int a6)] maxLocals)) t := by
            intro t kt
            refine pre96 t ?_
            show Steps p.tables e below (T90.setTop (mkF m 250 #[.val (.int a1), .val (.int a2), .val (.int a3), .val (.int a4), .val (.int a5), .val (.int a6), .val (.int (Int32.ofNat (nf.1 + 1))), .val (.int (Int32.ofNat xa.1)), .val (.int (Int32.ofNat xb.1)), .val (.int (Int32.ofNat xc.1)), .val (.int (Int32.ofNat xd.1)), .val (.int md), .val (.ref ob), .val (.ref sa), .val (.int (Int32.ofNat q7_.length)), .val (.int (Int32.ofNat (own_lst q6_)))] [(.int (1 : Int32)), (.int (Int32.ofNat q7_.length))])) _
            refine XS.icmpNo X90.here hx rfl (hb hby at_250) rfl (flt hc250_2).1 ?_
            show Steps p.tables e below (T90.setTop (mkF m 253 #[.val (.int a1), .val (.int a2), .val (.int a3), .val (.int a4), .val (.int a5), .val (.int a6), .val (.int (Int32.ofNat (nf.1 + 1))), .val (.int (Int32.ofNat xa.1)), .val (.int (Int32.ofNat xb.1)), .val (.int (Int32.ofNat xc.1)), .val (.int (Int32.ofNat xd.1)), .val (.int md), .val (.ref ob), .val (.ref sa), .val (.int (Int32.ofNat q7_.length)), .val (.int (Int32.ofNat (own_lst q6_)))] [])) _
            refine XS.aload X90.here hx rfl (hb hby at_253) rfl rfl ?_
            show Steps p.tables e below (T90.setTop (mkF m 255 #[.val (.int a1), .val (.int a2), .val (.int a3), .val (.int a4), .val (.int a5), .val (.int a6), .val (.int (Int32.ofNat (nf.1 + 1))), .val (.int (Int32.ofNat xa.1)), .val (.int (Int32.ofNat xb.1)), .val (.int (Int32.ofNat xc.1)), .val (.int (Int32.ofNat xd.1)), .val (.int md), .val (.ref ob), .val (.ref sa), .val (.int (Int32.ofNat q7_.length)), .val (.int (Int32.ofNat (own_lst q6_)))] [(.ref ob)])) _
            refine st98.trans ?_
            show Steps p.tables e below (T98.setTop (mkF m 258 #[.val (.int a1), .val (.int a2), .val (.int a3), .val (.int a4), .val (.int a5), .val (.int a6), .val (.int (Int32.ofNat (nf.1 + 1))), .val (.int (Int32.ofNat xa.1)), .val (.int (Int32.ofNat xb.1)), .val (.int (Int32.ofNat xc.1)), .val (.int (Int32.ofNat xd.1)), .val (.int md), .val (.ref ob), .val (.ref sa), .val (.int (Int32.ofNat q7_.length)), .val (.int (Int32.ofNat (own_lst q6_)))] [(.int (Int32.ofNat (own_lst q7_)))])) _
            refine XS.istore X98.here hx rfl (hb hby at_258) rfl (l' := #[.val (.int a1), .val (.int a2), .val (.int a3), .val (.int a4), .val (.int a5), .val (.int a6), .val (.int (Int32.ofNat (nf.1 + 1))), .val (.int (Int32.ofNat xa.1)), .val (.int (Int32.ofNat xb.1)), .val (.int (Int32.ofNat xc.1)), .val (.int (Int32.ofNat xd.1)), .val (.int md), .val (.ref ob), .val (.ref sa), .val (.int (Int32.ofNat q7_.length)), .val (.int (Int32.ofNat (own_lst q7_)))]) rfl ?_
            show Steps p.tables e below (T98.setTop (mkF m 260 #[.val (.int a1), .val (.int a2), .val (.int a3), .val (.int a4), .val (.int a5), .val (.int a6), .val (.int (Int32.ofNat (nf.1 + 1))), .val (.int (Int32.ofNat xa.1)), .val (.int (Int32.ofNat xb.1)), .val (.int (Int32.ofNat xc.1)), .val (.int (Int32.ofNat xd.1)), .val (.int md), .val (.ref ob), .val (.ref sa), .val (.int (Int32.ofNat q7_.length)), .val (.int (Int32.ofNat (own_lst q7_)))] [])) _
            refine XS.iload X98.here hx rfl (hb hby at_260) rfl ?_
            show Steps p.tables e below (T98.setTop (mkF m 262 #[.val (.int a1), .val (.int a2), .val (.int a3), .val (.int a4), .val (.int a5), .val (.int a6), .val (.int (Int32.ofNat (nf.1 + 1))), .val (.int (Int32.ofNat xa.1)), .val (.int (Int32.ofNat xb.1)), .val (.int (Int32.ofNat xc.1)), .val (.int (Int32.ofNat xd.1)), .val (.int md), .val (.ref ob), .val (.ref sa), .val (.int (Int32.ofNat q7_.length)), .val (.int (Int32.ofNat (own_lst q7_)))] [(.int (Int32.ofNat (own_lst q7_)))])) _
            refine XS.aload X98.here hx rfl (hb hby at_262) rfl rfl ?_
            show Steps p.tables e below (T98.setTop (mkF m 264 #[.val (.int a1), .val (.int a2), .val (.int a3), .val (.int a4), .val (.int a5), .val (.int a6), .val (.int (Int32.ofNat (nf.1 + 1))), .val (.int (Int32.ofNat xa.1)), .val (.int (Int32.ofNat xb.1)), .val (.int (Int32.ofNat xc.1)), .val (.int (Int32.ofNat xd.1)), .val (.int md), .val (.ref ob), .val (.ref sa), .val (.int (Int32.ofNat q7_.length)), .val (.int (Int32.ofNat (own_lst q7_)))] [(.ref sa), (.int (Int32.ofNat (own_lst q7_)))])) _
            refine XS.iload X98.here hx rfl (hb hby at_264) rfl ?_
            show Steps p.tables e below (T98.setTop (mkF m 266 #[.val (.int a1), .val (.int a2), .val (.int a3), .val (.int a4), .val (.int a5), .val (.int a6), .val (.int (Int32.ofNat (nf.1 + 1))), .val (.int (Int32.ofNat xa.1)), .val (.int (Int32.ofNat xb.1)), .val (.int (Int32.ofNat xc.1)), .val (.int (Int32.ofNat xd.1)), .val (.int md), .val (.ref ob), .val (.ref sa), .val (.int (Int32.ofNat q7_.length)), .val (.int (Int32.ofNat (own_lst q7_)))] [(.int (Int32.ofNat q7_.length)), (.ref sa), (.int (Int32.ofNat (own_lst q7_)))])) _
            refine XS.iconst X98.here hx rfl (hb hby at_266) ?_
            show Steps p.tables e below (T98.setTop (mkF m 267 #[.val (.int a1), .val (.int a2), .val (.int a3), .val (.int a4), .val (.int a5), .val (.int a6), .val (.int (Int32.ofNat (nf.1 + 1))), .val (.int (Int32.ofNat xa.1)), .val (.int (Int32.ofNat xb.1)), .val (.int (Int32.ofNat xc.1)), .val (.int (Int32.ofNat xd.1)), .val (.int md), .val (.ref ob), .val (.ref sa), .val (.int (Int32.ofNat q7_.length)), .val (.int (Int32.ofNat (own_lst q7_)))] [(.int (1 : Int32)), (.int (Int32.ofNat q7_.length)), (.ref sa), (.int (Int32.ofNat (own_lst q7_)))])) _
            refine XS.isub X98.here hx rfl (hb hby at_267) rfl ?_
            exact kt
          have pre100 : ∀ t, Steps p.tables e below (T98.setTop (mkF m 268 #[.val (.int a1), .val (.int a2), .val (.int a3), .val (.int a4), .val (.int a5), .val (.int a6), .val (.int (Int32.ofNat (nf.1 + 1))), .val (.int (Int32.ofNat xa.1)), .val (.int (Int32.ofNat xb.1)), .val (.int (Int32.ofNat xc.1)), .val (.int (Int32.ofNat xd.1)), .val (.int md), .val (.ref ob), .val (.ref sa), .val (.int (Int32.ofNat q7_.length)), .val (.int (Int32.ofNat (own_lst q7_)))] [(.int (Int32.ofNat (q7_.length - 1))), (.ref sa), (.int (Int32.ofNat (own_lst q7_)))])) t → Steps p.tables e below (s₁.setTop (entryFrame m #[(.int a1), (.int a2), (.int a3), (.int a4), (.int a5), (.int a6)] maxLocals)) t := by rw [(own_dec hq1 : (Int32.ofNat (q7_.length - 1)) = ((Int32.ofNat q7_.length) - (1 : Int32)))]; exact pre99
          obtain ⟨sf, V_sa, hsf⟩ := PT
          have ld101 := (own_ldI X98 hx hZ rfl V_sa (j := (Int32.ofNat (q7_.length - 1))) (own_ix (by omega)).1 (k := (q7_.length - 1)) (own_ix (by omega)).2 (by omega) (v := (.int (Int32.ofNat (own_lst q7_)))) (congrArg Value.int (hsf _ (by omega))) (g := (mkF m 268 #[.val (.int a1), .val (.int a2), .val (.int a3), .val (.int a4), .val (.int a5), .val (.int a6), .val (.int (Int32.ofNat (nf.1 + 1))), .val (.int (Int32.ofNat xa.1)), .val (.int (Int32.ofNat xb.1)), .val (.int (Int32.ofNat xc.1)), .val (.int (Int32.ofNat xd.1)), .val (.int md), .val (.ref ob), .val (.ref sa), .val (.int (Int32.ofNat q7_.length)), .val (.int (Int32.ofNat (own_lst q7_)))] [(.int (Int32.ofNat (q7_.length - 1))), (.ref sa), (.int (Int32.ofNat (own_lst q7_)))])) rfl rfl (hb hby at_268))
          have PT : own_T Z sa q7_.dropLast T98.heap := own_T.drop ⟨sf, V_sa, hsf⟩
          have hall := own_all_drop hall
          obtain ⟨q8_, he8⟩ : ∃ z : List Nat, z = q7_.dropLast := ⟨_, rfl⟩
          rw [← he8] at PB PT hall
          have pre102 : ∀ t, Steps p.tables e below (T98.setTop (mkF m 280 #[.val (.int a1), .val (.int a2), .val (.int a3), .val (.int a4), .val (.int a5), .val (.int a6), .val (.int (Int32.ofNat (nf.1 + 1))), .val (.int (Int32.ofNat xa.1)), .val (.int (Int32.ofNat xb.1)), .val (.int (Int32.ofNat xc.1)), .val (.int (Int32.ofNat xd.1)), .val (.int md), .val (.ref ob), .val (.ref sa), .val (.int ((Int32.ofNat q7_.length) - (1 : Int32))), .val (.int (Int32.ofNat (own_lst q7_)))] [])) t → Steps p.tables e below (s₁.setTop (entryFrame m #[(.int a1), (.int a2), (.int a3), (.int a4), (.int a5), (.int a6)] maxLocals)) t := by
            intro t kt
            refine pre100 t ?_
            show Steps p.tables e below (T98.setTop (mkF m 268 #[.val (.int a1), .val (.int a2), .val (.int a3), .val (.int a4), .val (.int a5), .val (.int a6), .val (.int (Int32.ofNat (nf.1 + 1))), .val (.int (Int32.ofNat xa.1)), .val (.int (Int32.ofNat xb.1)), .val (.int (Int32.ofNat xc.1)), .val (.int (Int32.ofNat xd.1)), .val (.int md), .val (.ref ob), .val (.ref sa), .val (.int (Int32.ofNat q7_.length)), .val (.int (Int32.ofNat (own_lst q7_)))] [(.int (Int32.ofNat (q7_.length - 1))), (.ref sa), (.int (Int32.ofNat (own_lst q7_)))])) _
            refine ld101 _ ?_
            show Steps p.tables e below (T98.setTop (mkF m 269 #[.val (.int a1), .val (.int a2), .val (.int a3), .val (.int a4), .val (.int a5), .val (.int a6), .val (.int (Int32.ofNat (nf.1 + 1))), .val (.int (Int32.ofNat xa.1)), .val (.int (Int32.ofNat xb.1)), .val (.int (Int32.ofNat xc.1)), .val (.int (Int32.ofNat xd.1)), .val (.int md), .val (.ref ob), .val (.ref sa), .val (.int (Int32.ofNat q7_.length)), .val (.int (Int32.ofNat (own_lst q7_)))] [(.int (Int32.ofNat (own_lst q7_))), (.int (Int32.ofNat (own_lst q7_)))])) _
            refine XS.icmpYes X98.here hx rfl (pc0 := 269) (pc' := 274) rfl (hb hby at_269) rfl (teq rfl).1 (by decide) (by decide) ?_
            show Steps p.tables e below (T98.setTop (mkF m 274 #[.val (.int a1), .val (.int a2), .val (.int a3), .val (.int a4), .val (.int a5), .val (.int a6), .val (.int (Int32.ofNat (nf.1 + 1))), .val (.int (Int32.ofNat xa.1)), .val (.int (Int32.ofNat xb.1)), .val (.int (Int32.ofNat xc.1)), .val (.int (Int32.ofNat xd.1)), .val (.int md), .val (.ref ob), .val (.ref sa), .val (.int (Int32.ofNat q7_.length)), .val (.int (Int32.ofNat (own_lst q7_)))] [])) _
            refine XS.iload X98.here hx rfl (hb hby at_274) rfl ?_
            show Steps p.tables e below (T98.setTop (mkF m 276 #[.val (.int a1), .val (.int a2), .val (.int a3), .val (.int a4), .val (.int a5), .val (.int a6), .val (.int (Int32.ofNat (nf.1 + 1))), .val (.int (Int32.ofNat xa.1)), .val (.int (Int32.ofNat xb.1)), .val (.int (Int32.ofNat xc.1)), .val (.int (Int32.ofNat xd.1)), .val (.int md), .val (.ref ob), .val (.ref sa), .val (.int (Int32.ofNat q7_.length)), .val (.int (Int32.ofNat (own_lst q7_)))] [(.int (Int32.ofNat q7_.length))])) _
            refine XS.iconst X98.here hx rfl (hb hby at_276) ?_
            show Steps p.tables e below (T98.setTop (mkF m 277 #[.val (.int a1), .val (.int a2), .val (.int a3), .val (.int a4), .val (.int a5), .val (.int a6), .val (.int (Int32.ofNat (nf.1 + 1))), .val (.int (Int32.ofNat xa.1)), .val (.int (Int32.ofNat xb.1)), .val (.int (Int32.ofNat xc.1)), .val (.int (Int32.ofNat xd.1)), .val (.int md), .val (.ref ob), .val (.ref sa), .val (.int (Int32.ofNat q7_.length)), .val (.int (Int32.ofNat (own_lst q7_)))] [(.int (1 : Int32)), (.int (Int32.ofNat q7_.length))])) _
            refine XS.isub X98.here hx rfl (hb hby at_277) rfl ?_
            show Steps p.tables e below (T98.setTop (mkF m 278 #[.val (.int a1), .val (.int a2), .val (.int a3), .val (.int a4), .val (.int a5), .val (.int a6), .val (.int (Int32.ofNat (nf.1 + 1))), .val (.int (Int32.ofNat xa.1)), .val (.int (Int32.ofNat xb.1)), .val (.int (Int32.ofNat xc.1)), .val (.int (Int32.ofNat xd.1)), .val (.int md), .val (.ref ob), .val (.ref sa), .val (.int (Int32.ofNat q7_.length)), .val (.int (Int32.ofNat (own_lst q7_)))] [(.int ((Int32.ofNat q7_.length) - (1 : Int32)))])) _
            refine XS.istore X98.here hx rfl (hb hby at_278) rfl (l' := #[.val (.int a1), .val (.int a2), .val (.int a3), .val (.int a4), .val (.int a5), .val (.int a6), .val (.int (Int32.ofNat (nf.1 + 1))), .val (.int (Int32.ofNat xa.1)), .val (.int (Int32.ofNat xb.1)), .val (.int (Int32.ofNat xc.1)), .val (.int (Int32.ofNat xd.1)), .val (.int md), .val (.ref ob), .val (.ref sa), .val (.int ((Int32.ofNat q7_.length) - (1 : Int32))), .val (.int (Int32.ofNat (own_lst q7_)))]) rfl ?_
            exact kt
          have pre103 : ∀ t, Steps p.tables e below (T98.setTop (mkF m 280 #[.val (.int a1), .val (.int a2), .val (.int a3), .val (.int a4), .val (.int a5), .val (.int a6), .val (.int (Int32.ofNat (nf.1 + 1))), .val (.int (Int32.ofNat xa.1)), .val (.int (Int32.ofNat xb.1)), .val (.int (Int32.ofNat xc.1)), .val (.int (Int32.ofNat xd.1)), .val (.int md), .val (.ref ob), .val (.ref sa), .val (.int (Int32.ofNat q8_.length)), .val (.int (Int32.ofNat (own_lst q7_)))] [])) t → Steps p.tables e below (s₁.setTop (entryFrame m #[(.int a1), (.int a2), (.int a3), (.int a4), (.int a5), (.int a6)] maxLocals)) t := by rw [(by rw [he8, List.length_dropLast]; exact own_dec hq1 : (Int32.ofNat q8_.length) = ((Int32.ofNat q7_.length) - (1 : Int32)))]; exact pre102
          have len4 : q8_.length ≤ 1 := by rw [he8]; exact own_dl len4
          rw [← he8] at c3
          have pre104 : ∀ t, Steps p.tables e below (T98.setTop (mkF m 283 #[.val (.int a1), .val (.int a2), .val (.int a3), .val (.int a4), .val (.int a5), .val (.int a6), .val (.int (Int32.ofNat (nf.1 + 1))), .val (.int (Int32.ofNat xa.1)), .val (.int (Int32.ofNat xb.1)), .val (.int (Int32.ofNat xc.1)), .val (.int (Int32.ofNat xd.1)), .val (.int md), .val (.ref ob), .val (.ref sa), .val (.int (Int32.ofNat q8_.length)), .val (.int (Int32.ofNat (own_lst q7_)))] [(.int (1 : Int32)), (.int (Int32.ofNat q8_.length))])) t → Steps p.tables e below (s₁.setTop (entryFrame m #[(.int a1), (.int a2), (.int a3), (.int a4), (.int a5), (.int a6)] maxLocals)) t := by
            intro t kt
            refine pre103 t ?_
            show Steps p.tables e below (T98.setTop (mkF m 280 #[.val (.int a1), .val (.int a2), .val (.int a3), .val (.int a4), .val (.int a5), .val (.int a6), .val (.int (Int32.ofNat (nf.1 + 1))), .val (.int (Int32.ofNat xa.1)), .val (.int (Int32.ofNat xb.1)), .val (.int (Int32.ofNat xc.1)), .val (.int (Int32.ofNat xd.1)), .val (.int md), .val (.ref ob), .val (.ref sa), .val (.int (Int32.ofNat q8_.length)), .val (.int (Int32.ofNat (own_lst q7_)))] [])) _
            refine XS.iload X98.here hx rfl (hb hby at_280) rfl ?_
            show Steps p.tables e below (T98.setTop (mkF m 282 #[.val (.int a1), .val (.int a2), .val (.int a3), .val (.int a4), .val (.int a5), .val (.int a6), .val (.int (Int32.ofNat (nf.1 + 1))), .val (.int (Int32.ofNat xa.1)), .val (.int (Int32.ofNat xb.1)), .val (.int (Int32.ofNat xc.1)), .val (.int (Int32.ofNat xd.1)), .val (.int md), .val (.ref ob), .val (.ref sa), .val (.int (Int32.ofNat q8_.length)), .val (.int (Int32.ofNat (own_lst q7_)))] [(.int (Int32.ofNat q8_.length))])) _
            refine XS.iconst X98.here hx rfl (hb hby at_282) ?_
            exact kt
          by_cases hc283_2 : (Int32.ofNat q8_.length) < (1 : Int32)
          case pos =>
            have hl0 : q8_.length = 0 := own_lt1 (by omega) hc283_2
            have F0 : Fld Z T98.heap ob "com/example/wary_observer/waryobserver/equivalence/Splitters" "count" "I" (.int (0 : Int32)) := by have w := PB.2.2.2.1; rw [hl0] at w; exact w
            obtain ⟨cq105, kq105, q105a, q105b, q105c⟩ := isOf hZ rfl E_ob
            obtain ⟨_, _, ⟨T105, L105, k105, n105⟩, -, X105, ⟨Lc105, hQ105, l105, y105, z105⟩, st105⟩ := X98.virtualBack hx (y := (⟨"com/example/wary_observer/waryobserver/equivalence/Splitters", "isEmpty", "()Z"⟩ : MethodName)) (z := (⟨"com/example/wary_observer/waryobserver/equivalence/Splitters", "isEmpty", "()Z"⟩ : MethodName)) hown (mvT hZ (hw _ (List.mem_of_getElem? (i := 32) rfl))) (mvT hZ (hw _ (List.mem_of_getElem? (i := 33) rfl))) (notFace_of_selects (args := #[]) (mvT hZ (hw _ (List.mem_of_getElem? (i := 35) rfl)))) (mvT hZ (hw _ (List.mem_of_getElem? (i := 35) rfl))) (mvT hZ (hw _ (List.mem_of_getElem? (i := 34) rfl))) (by decide) (backOf (W := 0) (own_rm6 l Z a0 hw [] ob T98.heap n0 Z98 F0) hZ (hw _ (List.mem_of_getElem? (i := 36) rfl)) (hw _ (List.mem_of_getElem? (i := 3) rfl)) (by decide) (by decide)) q105a q105c (g := (mkF m 315 #[.val (.int a1), .val (.int a2), .val (.int a3), .val (.int a4), .val (.int a5), .val (.int a6), .val (.int (Int32.ofNat (nf.1 + 1))), .val (.int (Int32.ofNat xa.1)), .val (.int (Int32.ofNat xb.1)), .val (.int (Int32.ofNat xc.1)), .val (.int (Int32.ofNat xd.1)), .val (.int md), .val (.ref ob), .val (.ref sa), .val (.int (Int32.ofNat q8_.length)), .val (.int (Int32.ofNat (own_lst q7_)))] [(.ref ob)])) rfl (by rw [hml]; rfl) (Steps.refl _) (argsL := []) (rest := []) (lenOf own_pd2 rfl) rfl (by show 2 * 0 + _ ≤ _; exact Nat.le_of_eq rfl) (hb hby at_315) (fun _ _ => ⟨rfl, rfl, (by decide : 4 + 0 ≤ _), (by decide : 16 + 0 ≤ _)⟩)
            dsimp only [Pt.U, Pt.locs, Pt.cells, Pt.slots] at X105 l105 y105 z105 st105 hQ105
            subst l105 y105 z105
            obtain ⟨rfl, Nq105, eq105⟩ := hQ105
            have N105 := Fr.app N98 Nq105
            obtain ⟨fs, hr, hrun, hended, hW, hsame⟩ := X105.leave (v := some (.int (1 : Int32))) (fun h => by rw [Bd.returns] at h; cases h) (BodyLoose.notSynchronized Bd)
            refine ⟨_, _, pre104 _ ?_, hrun, hended, _, _, rfl, ?_, ⟨_, rfl⟩, hW, hsame.mono (by decide) (by decide)⟩
            · skip
              show Steps p.tables e below (T98.setTop (mkF m 283 #[.val (.int a1), .val (.int a2), .val (.int a3), .val (.int a4), .val (.int a5), .val (.int a6), .val (.int (Int32.ofNat (nf.1 + 1))), .val (.int (Int32.ofNat xa.1)), .val (.int (Int32.ofNat xb.1)), .val (.int (Int32.ofNat xc.1)), .val (.int (Int32.ofNat xd.1)), .val (.int md), .val (.ref ob), .val (.ref sa), .val (.int (Int32.ofNat q8_.length)), .val (.int (Int32.ofNat (own_lst q7_)))] [(.int (1 : Int32)), (.int (Int32.ofNat q8_.length))])) _
              refine XS.icmpYes X98.here hx rfl (pc0 := 283) (pc' := 313) rfl (hb hby at_283) rfl (tlt hc283_2).1 (by decide) (by decide) ?_
              show Steps p.tables e below (T98.setTop (mkF m 313 #[.val (.int a1), .val (.int a2), .val (.int a3), .val (.int a4), .val (.int a5), .val (.int a6), .val (.int (Int32.ofNat (nf.1 + 1))), .val (.int (Int32.ofNat xa.1)), .val (.int (Int32.ofNat xb.1)), .val (.int (Int32.ofNat xc.1)), .val (.int (Int32.ofNat xd.1)), .val (.int md), .val (.ref ob), .val (.ref sa), .val (.int (Int32.ofNat q8_.length)), .val (.int (Int32.ofNat (own_lst q7_)))] [])) _
              refine XS.aload X98.here hx rfl (hb hby at_313) rfl rfl ?_
              show Steps p.tables e below (T98.setTop (mkF m 315 #[.val (.int a1), .val (.int a2), .val (.int a3), .val (.int a4), .val (.int a5), .val (.int a6), .val (.int (Int32.ofNat (nf.1 + 1))), .val (.int (Int32.ofNat xa.1)), .val (.int (Int32.ofNat xb.1)), .val (.int (Int32.ofNat xc.1)), .val (.int (Int32.ofNat xd.1)), .val (.int md), .val (.ref ob), .val (.ref sa), .val (.int (Int32.ofNat q8_.length)), .val (.int (Int32.ofNat (own_lst q7_)))] [(.ref ob)])) _
              refine st105.trans ?_
              show Steps p.tables e below (T105.setTop (mkF m 318 #[.val (.int a1), .val (.int a2), .val (.int a3), .val (.int a4), .val (.int a5), .val (.int a6), .val (.int (Int32.ofNat (nf.1 + 1))), .val (.int (Int32.ofNat xa.1)), .val (.int (Int32.ofNat xb.1)), .val (.int (Int32.ofNat xc.1)), .val (.int (Int32.ofNat xd.1)), .val (.int md), .val (.ref ob), .val (.ref sa), .val (.int (Int32.ofNat q8_.length)), .val (.int (Int32.ofNat (own_lst q7_)))] [(.int (1 : Int32))])) _
              exact retN X105 hx (t := .boolean) Bd.returns (by simp) (hb hby at_318) hr
            · show own_Q0 Z a1 a2 a3 a4 a5 a6 h0 n0 _ T105.heap _
              rw [eq105]
              exact ⟨rfl, N105⟩
          case neg =>
            have hq1 : 1 ≤ q8_.length := own_nlt1 (by omega) hc283_2
            have hq3 : own_tok (nf.1 + 1) q8_ := c3 (own_nn1 hq1)
            have hq2 := hq3.1
            obtain ⟨cq106, kq106, q106a, q106b, q106c⟩ := isOf hZ rfl E_ob
            obtain ⟨_, _, ⟨T106, L106, k106, n106⟩, -, X106, ⟨Lc106, hQ106, l106, y106, z106⟩, st106⟩ := X98.virtualBack hx (y := (⟨"com/example/wary_observer/waryobserver/equivalence/Splitters", "take", "()I"⟩ : MethodName)) (z := (⟨"com/example/wary_observer/waryobserver/equivalence/Splitters", "take", "()I"⟩ : MethodName)) hown (mvT hZ (hw _ (List.mem_of_getElem? (i := 27) rfl))) (mvT hZ (hw _ (List.mem_of_getElem? (i := 28) rfl))) (notFace_of_selects (args := #[]) (mvT hZ (hw _ (List.mem_of_getElem? (i := 30) rfl)))) (mvT hZ (hw _ (List.mem_of_getElem? (i := 30) rfl))) (mvT hZ (hw _ (List.mem_of_getElem? (i := 29) rfl))) (by decide) (backOf (W := 0) (own_rm5 l Z a0 hw [] ob bl wt (nf.1 + 1) q8_ T98.heap n0 Z98 g_ob o1 o2 hn4 PB hq1 hq3) hZ (hw _ (List.mem_of_getElem? (i := 31) rfl)) (hw _ (List.mem_of_getElem? (i := 3) rfl)) (by decide) (by decide)) q106a q106c (g := (mkF m 288 #[.val (.int a1), .val (.int a2), .val (.int a3), .val (.int a4), .val (.int a5), .val (.int a6), .val (.int (Int32.ofNat (nf.1 + 1))), .val (.int (Int32.ofNat xa.1)), .val (.int (Int32.ofNat xb.1)), .val (.int (Int32.ofNat xc.1)), .val (.int (Int32.ofNat xd.1)), .val (.int md), .val (.ref ob), .val (.ref sa), .val (.int (Int32.ofNat q8_.length)), .val (.int (Int32.ofNat (own_lst q7_)))] [(.ref ob)])) rfl (by rw [hml]; rfl) (Steps.refl _) (argsL := []) (rest := []) (lenOf own_pd3 rfl) rfl (by show 2 * 0 + _ ≤ _; exact Nat.le_of_eq rfl) (hb hby at_288) (fun _ _ => ⟨rfl, rfl, (by decide : 4 + 0 ≤ _), (by decide : 16 + 0 ≤ _)⟩)
            dsimp only [Pt.U, Pt.locs, Pt.cells, Pt.slots] at X106 l106 y106 z106 st106 hQ106
            subst l106 y106 z106
            obtain ⟨rfl, Nq106, Kq106, PB⟩ := hQ106
            have N106 := Fr.app N98 Nq106
            have E_ob := E_ob.keep Kq106
            have PT := PT.keep Kq106 (ninS (Ne.symm ne_ob_sa) (ninS (Ne.symm ne_bl_sa) (ninS (Ne.symm ne_wt_sa) nin0)))
            have Z106 := Nat.le_trans Z98 Kq106.1
            have pre107 : ∀ t, Steps p.tables e below (T106.setTop (mkF m 301 #[.val (.int a1), .val (.int a2), .val (.int a3), .val (.int a4), .val (.int a5), .val (.int a6), .val (.int (Int32.ofNat (nf.1 + 1))), .val (.int (Int32.ofNat xa.1)), .val (.int (Int32.ofNat xb.1)), .val (.int (Int32.ofNat xc.1)), .val (.int (Int32.ofNat xd.1)), .val (.int md), .val (.ref ob), .val (.ref sa), .val (.int (Int32.ofNat q8_.length)), .val (.int (Int32.ofNat (own_lst q8_)))] [(.int ((Int32.ofNat q8_.length) - (1 : Int32))), (.ref sa), (.int (Int32.ofNat (own_lst q8_)))])) t → Steps p.tables e below (s₁.setTop (entryFrame m #[(.int a1), (.int a2), (.int a3), (.int a4), (.int a5), (.int a6)] maxLocals)) t := by
              intro t kt
              refine pre104 t ?_
              show Steps p.tables e below (T98.setTop (mkF m 283 #[.val (.int a1), .val (.int a2), .val (.int a3), .val (.int a4), .val (.int a5), .val (.int a6), .val (.int (Int32.ofNat (nf.1 + 1))), .val (.int (Int32.ofNat xa.1)), .val (.int (Int32.ofNat xb.1)), .val (.int (Int32.ofNat xc.1)), .val (.int (Int32.ofNat xd.1)), .val (.int md), .val (.ref ob), .val (.ref sa), .val (.int (Int32.ofNat q8_.length)), .val (.int (Int32.ofNat (own_lst q7_)))] [(.int (1 : Int32)), (.int (Int32.ofNat q8_.length))])) _
              refine XS.icmpNo X98.here hx rfl (hb hby at_283) rfl (flt hc283_2).1 ?_
              show Steps p.tables e below (T98.setTop (mkF m 286 #[.val (.int a1), .val (.int a2), .val (.int a3), .val (.int a4), .val (.int a5), .val (.int a6), .val (.int (Int32.ofNat (nf.1 + 1))), .val (.int (Int32.ofNat xa.1)), .val (.int (Int32.ofNat xb.1)), .val (.int (Int32.ofNat xc.1)), .val (.int (Int32.ofNat xd.1)), .val (.int md), .val (.ref ob), .val (.ref sa), .val (.int (Int32.ofNat q8_.length)), .val (.int (Int32.ofNat (own_lst q7_)))] [])) _
              refine XS.aload X98.here hx rfl (hb hby at_286) rfl rfl ?_
              show Steps p.tables e below (T98.setTop (mkF m 288 #[.val (.int a1), .val (.int a2), .val (.int a3), .val (.int a4), .val (.int a5), .val (.int a6), .val (.int (Int32.ofNat (nf.1 + 1))), .val (.int (Int32.ofNat xa.1)), .val (.int (Int32.ofNat xb.1)), .val (.int (Int32.ofNat xc.1)), .val (.int (Int32.ofNat xd.1)), .val (.int md), .val (.ref ob), .val (.ref sa), .val (.int (Int32.ofNat q8_.length)), .val (.int (Int32.ofNat (own_lst q7_)))] [(.ref ob)])) _
              refine st106.trans ?_
              show Steps p.tables e below (T106.setTop (mkF m 291 #[.val (.int a1), .val (.int a2), .val (.int a3), .val (.int a4), .val (.int a5), .val (.int a6), .val (.int (Int32.ofNat (nf.1 + 1))), .val (.int (Int32.ofNat xa.1)), .val (.int (Int32.ofNat xb.1)), .val (.int (Int32.ofNat xc.1)), .val (.int (Int32.ofNat xd.1)), .val (.int md), .val (.ref ob), .val (.ref sa), .val (.int (Int32.ofNat q8_.length)), .val (.int (Int32.ofNat (own_lst q7_)))] [(.int (Int32.ofNat (own_lst q8_)))])) _
              refine XS.istore X106.here hx rfl (hb hby at_291) rfl (l' := #[.val (.int a1), .val (.int a2), .val (.int a3), .val (.int a4), .val (.int a5), .val (.int a6), .val (.int (Int32.ofNat (nf.1 + 1))), .val (.int (Int32.ofNat xa.1)), .val (.int (Int32.ofNat xb.1)), .val (.int (Int32.ofNat xc.1)), .val (.int (Int32.ofNat xd.1)), .val (.int md), .val (.ref ob), .val (.ref sa), .val (.int (Int32.ofNat q8_.length)), .val (.int (Int32.ofNat (own_lst q8_)))]) rfl ?_
              show Steps p.tables e below (T106.setTop (mkF m 293 #[.val (.int a1), .val (.int a2), .val (.int a3), .val (.int a4), .val (.int a5), .val (.int a6), .val (.int (Int32.ofNat (nf.1 + 1))), .val (.int (Int32.ofNat xa.1)), .val (.int (Int32.ofNat xb.1)), .val (.int (Int32.ofNat xc.1)), .val (.int (Int32.ofNat xd.1)), .val (.int md), .val (.ref ob), .val (.ref sa), .val (.int (Int32.ofNat q8_.length)), .val (.int (Int32.ofNat (own_lst q8_)))] [])) _
              refine XS.iload X106.here hx rfl (hb hby at_293) rfl ?_
              show Steps p.tables e below (T106.setTop (mkF m 295 #[.val (.int a1), .val (.int a2), .val (.int a3), .val (.int a4), .val (.int a5), .val (.int a6), .val (.int (Int32.ofNat (nf.1 + 1))), .val (.int (Int32.ofNat xa.1)), .val (.int (Int32.ofNat xb.1)), .val (.int (Int32.ofNat xc.1)), .val (.int (Int32.ofNat xd.1)), .val (.int md), .val (.ref ob), .val (.ref sa), .val (.int (Int32.ofNat q8_.length)), .val (.int (Int32.ofNat (own_lst q8_)))] [(.int (Int32.ofNat (own_lst q8_)))])) _
              refine XS.aload X106.here hx rfl (hb hby at_295) rfl rfl ?_
              show Steps p.tables e below (T106.setTop (mkF m 297 #[.val (.int a1), .val (.int a2), .val (.int a3), .val (.int a4), .val (.int a5), .val (.int a6), .val (.int (Int32.ofNat (nf.1 + 1))), .val (.int (Int32.ofNat xa.1)), .val (.int (Int32.ofNat xb.1)), .val (.int (Int32.ofNat xc.1)), .val (.int (Int32.ofNat xd.1)), .val (.int md), .val (.ref ob), .val (.ref sa), .val (.int (Int32.ofNat q8_.length)), .val (.int (Int32.ofNat (own_lst q8_)))] [(.ref sa), (.int (Int32.ofNat (own_lst q8_)))])) _
              refine XS.iload X106.here hx rfl (hb hby at_297) rfl ?_
              show Steps p.tables e below (T106.setTop (mkF m 299 #[.val (.int a1), .val (.int a2), .val (.int a3), .val (.int a4), .val (.int a5), .val (.int a6), .val (.int (Int32.ofNat (nf.1 + 1))), .val (.int (Int32.ofNat xa.1)), .val (.int (Int32.ofNat xb.1)), .val (.int (Int32.ofNat xc.1)), .val (.int (Int32.ofNat xd.1)), .val (.int md), .val (.ref ob), .val (.ref sa), .val (.int (Int32.ofNat q8_.length)), .val (.int (Int32.ofNat (own_lst q8_)))] [(.int (Int32.ofNat q8_.length)), (.ref sa), (.int (Int32.ofNat (own_lst q8_)))])) _
              refine XS.iconst X106.here hx rfl (hb hby at_299) ?_
              show Steps p.tables e below (T106.setTop (mkF m 300 #[.val (.int a1), .val (.int a2), .val (.int a3), .val (.int a4), .val (.int a5), .val (.int a6), .val (.int (Int32.ofNat (nf.1 + 1))), .val (.int (Int32.ofNat xa.1)), .val (.int (Int32.ofNat xb.1)), .val (.int (Int32.ofNat xc.1)), .val (.int (Int32.ofNat xd.1)), .val (.int md), .val (.ref ob), .val (.ref sa), .val (.int (Int32.ofNat q8_.length)), .val (.int (Int32.ofNat (own_lst q8_)))] [(.int (1 : Int32)), (.int (Int32.ofNat q8_.length)), (.ref sa), (.int (Int32.ofNat (own_lst q8_)))])) _
              refine XS.isub X106.here hx rfl (hb hby at_300) rfl ?_
              exact kt
            have pre108 : ∀ t, Steps p.tables e below (T106.setTop (mkF m 301 #[.val (.int a1), .val (.int a2), .val (.int a3), .val (.int a4), .val (.int a5), .val (.int a6), .val (.int (Int32.ofNat (nf.1 + 1))), .val (.int (Int32.ofNat xa.1)), .val (.int (Int32.ofNat xb.1)), .val (.int (Int32.ofNat xc.1)), .val (.int (Int32.ofNat xd.1)), .val (.int md), .val (.ref ob), .val (.ref sa), .val (.int (Int32.ofNat q8_.length)), .val (.int (Int32.ofNat (own_lst q8_)))] [(.int (Int32.ofNat (q8_.length - 1))), (.ref sa), (.int (Int32.ofNat (own_lst q8_)))])) t → Steps p.tables e below (s₁.setTop (entryFrame m #[(.int a1), (.int a2), (.int a3), (.int a4), (.int a5), (.int a6)] maxLocals)) t := by rw [(own_dec hq1 : (Int32.ofNat (q8_.length - 1)) = ((Int32.ofNat q8_.length) - (1 : Int32)))]; exact pre107
            obtain ⟨sf, V_sa, hsf⟩ := PT
            have ld109 := (own_ldI X106 hx hZ rfl V_sa (j := (Int32.ofNat (q8_.length - 1))) (own_ix (by omega)).1 (k := (q8_.length - 1)) (own_ix (by omega)).2 (by omega) (v := (.int (Int32.ofNat (own_lst q8_)))) (congrArg Value.int (hsf _ (by omega))) (g := (mkF m 301 #[.val (.int a1), .val (.int a2), .val (.int a3), .val (.int a4), .val (.int a5), .val (.int a6), .val (.int (Int32.ofNat (nf.1 + 1))), .val (.int (Int32.ofNat xa.1)), .val (.int (Int32.ofNat xb.1)), .val (.int (Int32.ofNat xc.1)), .val (.int (Int32.ofNat xd.1)), .val (.int md), .val (.ref ob), .val (.ref sa), .val (.int (Int32.ofNat q8_.length)), .val (.int (Int32.ofNat (own_lst q8_)))] [(.int (Int32.ofNat (q8_.length - 1))), (.ref sa), (.int (Int32.ofNat (own_lst q8_)))])) rfl rfl (hb hby at_301))
            have PT : own_T Z sa q8_.dropLast T106.heap := own_T.drop ⟨sf, V_sa, hsf⟩
            have hall := own_all_drop hall
            obtain ⟨q9_, he9⟩ : ∃ z : List Nat, z = q8_.dropLast := ⟨_, rfl⟩
            rw [← he9] at PB PT hall
            have pre110 : ∀ t, Steps p.tables e below (T106.setTop (mkF m 313 #[.val (.int a1), .val (.int a2), .val (.int a3), .val (.int a4), .val (.int a5), .val (.int a6), .val (.int (Int32.ofNat (nf.1 + 1))), .val (.int (Int32.ofNat xa.1)), .val (.int (Int32.ofNat xb.1)), .val (.int (Int32.ofNat xc.1)), .val (.int (Int32.ofNat xd.1)), .val (.int md), .val (.ref ob), .val (.ref sa), .val (.int ((Int32.ofNat q8_.length) - (1 : Int32))), .val (.int (Int32.ofNat (own_lst q8_)))] [])) t → Steps p.tables e below (s₁.setTop (entryFrame m #[(.int a1), (.int a2), (.int a3), (.int a4), (.int a5), (.int a6)] maxLocals)) t := by
              intro t kt
              refine pre108 t ?_
              show Steps p.tables e below (T106.setTop (mkF m 301 #[.val (.int a1), .val (.int a2), .val (.int a3), .val (.int a4), .val (.int a5), .val (.int a6), .val (.int (Int32.ofNat (nf.1 + 1))), .val (.int (Int32.ofNat xa.1)), .val (.int (Int32.ofNat xb.1)), .val (.int (Int32.ofNat xc.1)), .val (.int (Int32.ofNat xd.1)), .val (.int md), .val (.ref ob), .val (.ref sa), .val (.int (Int32.ofNat q8_.length)), .val (.int (Int32.ofNat (own_lst q8_)))] [(.int (Int32.ofNat (q8_.length - 1))), (.ref sa), (.int (Int32.ofNat (own_lst q8_)))])) _
              refine ld109 _ ?_
              show Steps p.tables e below (T106.setTop (mkF m 302 #[.val (.int a1), .val (.int a2), .val (.int a3), .val (.int a4), .val (.int a5), .val (.int a6), .val (.int (Int32.ofNat (nf.1 + 1))), .val (.int (Int32.ofNat xa.1)), .val (.int (Int32.ofNat xb.1)), .val (.int (Int32.ofNat xc.1)), .val (.int (Int32.ofNat xd.1)), .val (.int md), .val (.ref ob), .val (.ref sa), .val (.int (Int32.ofNat q8_.length)), .val (.int (Int32.ofNat (own_lst q8_)))] [(.int (Int32.ofNat (own_lst q8_))), (.int (Int32.ofNat (own_lst q8_)))])) _
              refine XS.icmpYes X106.here hx rfl (pc0 := 302) (pc' := 307) rfl (hb hby at_302) rfl (teq rfl).1 (by decide) (by decide) ?_
              show Steps p.tables e below (T106.setTop (mkF m 307 #[.val (.int a1), .val (.int a2), .val (.int a3), .val (.int a4), .val (.int a5), .val (.int a6), .val (.int (Int32.ofNat (nf.1 + 1))), .val (.int (Int32.ofNat xa.1)), .val (.int (Int32.ofNat xb.1)), .val (.int (Int32.ofNat xc.1)), .val (.int (Int32.ofNat xd.1)), .val (.int md), .val (.ref ob), .val (.ref sa), .val (.int (Int32.ofNat q8_.length)), .val (.int (Int32.ofNat (own_lst q8_)))] [])) _
              refine XS.iload X106.here hx rfl (hb hby at_307) rfl ?_
              show Steps p.tables e below (T106.setTop (mkF m 309 #[.val (.int a1), .val (.int a2), .val (.int a3), .val (.int a4), .val (.int a5), .val (.int a6), .val (.int (Int32.ofNat (nf.1 + 1))), .val (.int (Int32.ofNat xa.1)), .val (.int (Int32.ofNat xb.1)), .val (.int (Int32.ofNat xc.1)), .val (.int (Int32.ofNat xd.1)), .val (.int md), .val (.ref ob), .val (.ref sa), .val (.int (Int32.ofNat q8_.length)), .val (.int (Int32.ofNat (own_lst q8_)))] [(.int (Int32.ofNat q8_.length))])) _
              refine XS.iconst X106.here hx rfl (hb hby at_309) ?_
              show Steps p.tables e below (T106.setTop (mkF m 310 #[.val (.int a1), .val (.int a2), .val (.int a3), .val (.int a4), .val (.int a5), .val (.int a6), .val (.int (Int32.ofNat (nf.1 + 1))), .val (.int (Int32.ofNat xa.1)), .val (.int (Int32.ofNat xb.1)), .val (.int (Int32.ofNat xc.1)), .val (.int (Int32.ofNat xd.1)), .val (.int md), .val (.ref ob), .val (.ref sa), .val (.int (Int32.ofNat q8_.length)), .val (.int (Int32.ofNat (own_lst q8_)))] [(.int (1 : Int32)), (.int (Int32.ofNat q8_.length))])) _
              refine XS.isub X106.here hx rfl (hb hby at_310) rfl ?_
              show Steps p.tables e below (T106.setTop (mkF m 311 #[.val (.int a1), .val (.int a2), .val (.int a3), .val (.int a4), .val (.int a5), .val (.int a6), .val (.int (Int32.ofNat (nf.1 + 1))), .val (.int (Int32.ofNat xa.1)), .val (.int (Int32.ofNat xb.1)), .val (.int (Int32.ofNat xc.1)), .val (.int (Int32.ofNat xd.1)), .val (.int md), .val (.ref ob), .val (.ref sa), .val (.int (Int32.ofNat q8_.length)), .val (.int (Int32.ofNat (own_lst q8_)))] [(.int ((Int32.ofNat q8_.length) - (1 : Int32)))])) _
              refine XS.istore X106.here hx rfl (hb hby at_311) rfl (l' := #[.val (.int a1), .val (.int a2), .val (.int a3), .val (.int a4), .val (.int a5), .val (.int a6), .val (.int (Int32.ofNat (nf.1 + 1))), .val (.int (Int32.ofNat xa.1)), .val (.int (Int32.ofNat xb.1)), .val (.int (Int32.ofNat xc.1)), .val (.int (Int32.ofNat xd.1)), .val (.int md), .val (.ref ob), .val (.ref sa), .val (.int ((Int32.ofNat q8_.length) - (1 : Int32))), .val (.int (Int32.ofNat (own_lst q8_)))]) rfl ?_
              exact kt
            have pre111 : ∀ t, Steps p.tables e below (T106.setTop (mkF m 313 #[.val (.int a1), .val (.int a2), .val (.int a3), .val (.int a4), .val (.int a5), .val (.int a6), .val (.int (Int32.ofNat (nf.1 + 1))), .val (.int (Int32.ofNat xa.1)), .val (.int (Int32.ofNat xb.1)), .val (.int (Int32.ofNat xc.1)), .val (.int (Int32.ofNat xd.1)), .val (.int md), .val (.ref ob), .val (.ref sa), .val (.int (Int32.ofNat q9_.length)), .val (.int (Int32.ofNat (own_lst q8_)))] [])) t → Steps p.tables e below (s₁.setTop (entryFrame m #[(.int a1), (.int a2), (.int a3), (.int a4), (.int a5), (.int a6)] maxLocals)) t := by rw [(by rw [he9, List.length_dropLast]; exact own_dec hq1 : (Int32.ofNat q9_.length) = ((Int32.ofNat q8_.length) - (1 : Int32)))]; exact pre110
            have len4 : q9_.length ≤ 0 := by rw [he9]; exact own_dl len4
            have hl0 : q9_.length = 0 := by omega
            have F0 : Fld Z T106.heap ob "com/example/wary_observer/waryobserver/equivalence/Splitters" "count" "I" (.int (0 : Int32)) := by have w := PB.2.2.2.1; rw [hl0] at w; exact w
            obtain ⟨cq112, kq112, q112a, q112b, q112c⟩ := isOf hZ rfl E_ob
            obtain ⟨_, _, ⟨T112, L112, k112, n112⟩, -, X112, ⟨Lc112, hQ112, l112, y112, z112⟩, st112⟩ := X106.virtualBack hx (y := (⟨"com/example/wary_observer/waryobserver/equivalence/Splitters", "isEmpty", "()Z"⟩ : MethodName)) (z := (⟨"com/example/wary_observer/waryobserver/equivalence/Splitters", "isEmpty", "()Z"⟩ : MethodName)) hown (mvT hZ (hw _ (List.mem_of_getElem? (i := 32) rfl))) (mvT hZ (hw _ (List.mem_of_getElem? (i := 33) rfl))) (notFace_of_selects (args := #[]) (mvT hZ (hw _ (List.mem_of_getElem? (i := 35) rfl)))) (mvT hZ (hw _ (List.mem_of_getElem? (i := 35) rfl))) (mvT hZ (hw _ (List.mem_of_getElem? (i := 34) rfl))) (by decide) (backOf (W := 0) (own_rm6 l Z a0 hw [] ob T106.heap n0 Z106 F0) hZ (hw _ (List.mem_of_getElem? (i := 36) rfl)) (hw _ (List.mem_of_getElem? (i := 3) rfl)) (by decide) (by decide)) q112a q112c (g := (mkF m 315 #[.val (.int a1), .val (.int a2), .val (.int a3), .val (.int a4), .val (.int a5), .val (.int a6), .val (.int (Int32.ofNat (nf.1 + 1))), .val (.int (Int32.ofNat xa.1)), .val (.int (Int32.ofNat xb.1)), .val (.int (Int32.ofNat xc.1)), .val (.int (Int32.ofNat xd.1)), .val (.int md), .val (.ref ob), .val (.ref sa), .val (.int (Int32.ofNat q9_.length)), .val (.int (Int32.ofNat (own_lst q8_)))] [(.ref ob)])) rfl (by rw [hml]; rfl) (Steps.refl _) (argsL := []) (rest := []) (lenOf own_pd2 rfl) rfl (by show 2 * 0 + _ ≤ _; exact Nat.le_of_eq rfl) (hb hby at_315) (fun _ _ => ⟨rfl, rfl, (by decide : 4 + 0 ≤ _), (by decide : 16 + 0 ≤ _)⟩)
            dsimp only [Pt.U, Pt.locs, Pt.cells, Pt.slots] at X112 l112 y112 z112 st112 hQ112
            subst l112 y112 z112
            obtain ⟨rfl, Nq112, eq112⟩ := hQ112
            have N112 := Fr.app N106 Nq112
            obtain ⟨fs, hr, hrun, hended, hW, hsame⟩ := X112.leave (v := some (.int (1 : Int32))) (fun h => by rw [Bd.returns] at h; cases h) (BodyLoose.notSynchronized Bd)
            refine ⟨_, _, pre111 _ ?_, hrun, hended, _, _, rfl, ?_, ⟨_, rfl⟩, hW, hsame.mono (by decide) (by decide)⟩
            · skip
              show Steps p.tables e below (T106.setTop (mkF m 313 #[.val (.int a1), .val (.int a2), .val (.int a3), .val (.int a4), .val (.int a5), .val (.int a6), .val (.int (Int32.ofNat (nf.1 + 1))), .val (.int (Int32.ofNat xa.1)), .val (.int (Int32.ofNat xb.1)), .val (.int (Int32.ofNat xc.1)), .val (.int (Int32.ofNat xd.1)), .val (.int md), .val (.ref ob), .val (.ref sa), .val (.int (Int32.ofNat q9_.length)), .val (.int (Int32.ofNat (own_lst q8_)))] [])) _
              refine XS.aload X106.here hx rfl (hb hby at_313) rfl rfl ?_
              show Steps p.tables e below (T106.setTop (mkF m 315 #[.val (.int a1), .val (.int a2), .val (.int a3), .val (.int a4), .val (.int a5), .val (.int a6), .val (.int (Int32.ofNat (nf.1 + 1))), .val (.int (Int32.ofNat xa.1)), .val (.int (Int32.ofNat xb.1)), .val (.int (Int32.ofNat xc.1)), .val (.int (Int32.ofNat xd.1)), .val (.int md), .val (.ref ob), .val (.ref sa), .val (.int (Int32.ofNat q9_.length)), .val (.int (Int32.ofNat (own_lst q8_)))] [(.ref ob)])) _
              refine st112.trans ?_
              show Steps p.tables e below (T112.setTop (mkF m 318 #[.val (.int a1), .val (.int a2), .val (.int a3), .val (.int a4), .val (.int a5), .val (.int a6), .val (.int (Int32.ofNat (nf.1 + 1))), .val (.int (Int32.ofNat xa.1)), .val (.int (Int32.ofNat xb.1)), .val (.int (Int32.ofNat xc.1)), .val (.int (Int32.ofNat xd.1)), .val (.int md), .val (.ref ob), .val (.ref sa), .val (.int (Int32.ofNat q9_.length)), .val (.int (Int32.ofNat (own_lst q8_)))] [(.int (1 : Int32))])) _
              exact retN X112 hx (t := .boolean) Bd.returns (by simp) (hb hby at_318) hr
            · show own_Q0 Z a1 a2 a3 a4 a5 a6 h0 n0 _ T112.heap _
              rw [eq112]
              exact ⟨rfl, N112⟩
set_option maxRecDepth 65536 in
set_option maxHeartbeats 40000000 in
theorem own_comes {Post : Tables → Env → Array Value → State → Outcome → State → Prop} (hpost : ∀ tb e args s v u, (limb_1_1.after args s (.returned v) u = true ∧ limb_1_2.after args s (.returned v) u = true ∧ True) → FrameEnd s (.returned v) u (Jvm.fieldLocs frame_1_writes args s ++ Jvm.arrayLocs frame_1_arrays args s ++ Jvm.staticLocs frame_1_statics s) 16 128 → Post tb e args s (.returned v) u) :
    ArmFor flags0 classFile x code maxLocals ret World_1 tables_1 room_1 Calls_1 rest_1 Pre_1 Post := by
  intro l hfl _ _ p e ha hc hk s m args below hf hA hF happ hP
  obtain ⟨hcalls, hrest, hpre⟩ := hP
  obtain ⟨-, -, -, hnamed, -, -, -, hat⟩ := (Spec.applies_iff hf).mp happ
  obtain ⟨hg, hn⟩ := and_e (Cond.before_iff.mp (show (Jvm.Cond.and given_1 narrow_1).before args s = true from hpre))
  obtain ⟨gc, ga0⟩ := and_e hg
  obtain ⟨gv0, ga1⟩ := and_e ga0
  obtain ⟨gv1, ga2⟩ := and_e ga1
  obtain ⟨gv2, ga3⟩ := and_e ga2
  obtain ⟨gv3, ga4⟩ := and_e ga3
  obtain ⟨gv4, ga5⟩ := and_e ga4
  obtain ⟨w0, w1, w2, w3, w4, w5, rfl⟩ : ∃ w0 w1 w2 w3 w4 w5 : Value, args = #[w0, w1, w2, w3, w4, w5] := by
    have hs : args.size = 6 := by simpa [Cond.value, given_1] using gc
    obtain ⟨L⟩ := args
    match L, hs with
    | [w0, w1, w2, w3, w4, w5], _ => exact ⟨w0, w1, w2, w3, w4, w5, rfl⟩
  have hw := fun d (hd : d ∈ tables_1) => atoms_spec (ws := Jvm.Cond.code x code maxLocals ret :: tables_1) hat d (List.mem_cons_of_mem _ hd)
  obtain ⟨i0, ei0⟩ := is_v gv0
  obtain rfl : w0 = (.int i0) := Option.some.inj ei0
  obtain ⟨i1, ei1⟩ := is_v gv1
  obtain rfl : w1 = (.int i1) := Option.some.inj ei1
  obtain ⟨i2, ei2⟩ := is_v gv2
  obtain rfl : w2 = (.int i2) := Option.some.inj ei2
  obtain ⟨i3, ei3⟩ := is_v gv3
  obtain rfl : w3 = (.int i3) := Option.some.inj ei3
  obtain ⟨i4, ei4⟩ := is_v gv4
  obtain rfl : w4 = (.int i4) := Option.some.inj ei4
  obtain ⟨i5, ei5⟩ := is_v ga5
  obtain rfl : w5 = (.int i5) := Option.some.inj ei5
  obtain ⟨n, o, h1, h2, h3, _, L, rfl, ⟨rfl, N⟩, hq⟩ := own_rm0 l s _ hw tables_1 i0 i1 i2 i3 i4 i5 s.heap s.heap.size (Nat.le_refl _) p e ha hc hk s m _ below hf ((Spec.applies_iff_loose hf).mp happ).1 ⟨rfl, State.Warmed39.refl s, rfl⟩ trivial
  refine ⟨n, _, h1, h2, h3, hpost _ _ _ _ _ _ ⟨Cond.after_iff.mpr rfl, Cond.after_iff.mpr (eq_i res_at (Term.int_eval (1)) rfl), trivial⟩ ⟨hq.1, hq.2.1, (hq.2.2.sift fun y hy => Or.inr (N y hy)).mono (by decide) (by decide)⟩⟩
theorem main_1_1 : Claimed_1_1 := own_comes fun _ _ _ _ _ _ h hF => ⟨h.1, hF⟩
theorem main_1_2 : Claimed_1_2 := own_comes fun _ _ _ _ _ _ h hF => ⟨h.2.1, hF⟩
end Jvm.Pilot.@@N@@
namespace Jvm.Pilot.@@N@@
open Jvm Jvm.ClassFile Sem Op Lib Jvm.Free Jvm.Stand Jvm.Pilot.@@N@@.Jvm.D
/-! MADE BY PROGRAM (witnessworld.py) out of the Statement's table words and the real class files: 11 classes; the members and pool entries that the words name. The judged class is class 1, her method 2. -/
namespace start1
open Jvm.ClassFile
def u (s : String) : CpInfo := .utf8 (stringToUtf16 s)
/-- a pool by its gaps: so many unusable entries, then the entry; so many at the end -/
def gap : Nat → List CpInfo → List CpInfo
  | 0, r => r
  | n + 1, r => .unusable :: gap n r
def poolList (es : List (Nat × CpInfo)) (last : Nat) : List CpInfo := es.foldr (fun e r => gap e.1 (e.2 :: r)) (gap last [])
def pool (es : List (Nat × CpInfo)) (last : Nat) : Array CpInfo := ⟨poolList es last⟩
def fileOf (pool : Array CpInfo) (this : Nat) (attrs : Array Attribute := #[]) (ms : Array MethodInfo := #[]) (fl : Nat := 33) (sup : Nat := 0) (ifs : Array Nat := #[]) (fds : Array FieldInfo := #[]) : ClassFile where
  minorVersion := 0
  majorVersion := 65
  constantPool := pool
  accessFlags := fl
  thisClass := this
  superClass := sup
  interfaces := ifs
  fields := fds
  methods := ms
  attributes := attrs
def plain (name : String) (sup : Option ClassId) : Class where
  name := name
  kind := .ordinary
  loader := none
  accessFlags := 33
  super := sup
  interfaces := #[]
  cf := none
  fields := #[]
  methods := #[]
  instanceTypes := #[]
  staticTypes := #[]
  resolved := #[]
  callSites := []
  init := .initialized
  statics := none
  mirror := none

def pool0 : Array CpInfo := pool [(5, u "<init>"), (0, u "()V"), (1, .class_ 10), (1, u "java/lang/Object")] 113

def k0c0 : Code := { maxStack := 0, maxLocals := 1, code := object_method_1_code, exceptionTable := #[], attributes := #[] }
def k0m0 : Method := { name := "<init>", desc := "()V", sig := { parameters := [], returnType := none }, accessFlags := 1, code := some k0c0 }
/-- java/lang/Object -/
def k0 : Class := { plain "java/lang/Object" none with
  accessFlags := 33
  interfaces := #[]
  cf := some (fileOf pool0 8 #[] #[{ accessFlags := 1, nameIndex := 5, descriptorIndex := 6, attributes := #[] }] 33 0 #[] #[])
  fields := #[]
  methods := #[k0m0]
  instanceTypes := #[]
  staticTypes := #[]
  resolved := Array.replicate 124 none
  statics := none }

def pool1 : Array CpInfo := pool [(2, .class_ 4), (1, u "java/lang/Object"), (0, u "<init>"), (0, u "()V"), (0, .integer 2147483647), (0, .class_ 9), (0, u "com/example/wary_observer/waryobserver/equivalence/Splitters"), (0, .methodref 8 11), (0, .nameAndType 5 12), (0, u "(I)V"), (0, .methodref 8 14), (0, .nameAndType 15 12), (0, u "add"), (0, .methodref 17 18), (0, .class_ 19), (0, .nameAndType 20 21), (0, u "com/example/wary_observer/waryobserver/equivalence/SplittersAddPinLaw"), (0, u "push"), (0, u "([III)I"), (0, .methodref 8 23), (0, .nameAndType 24 25), (0, u "take"), (0, u "()I"), (0, .methodref 8 27), (0, .nameAndType 28 29), (0, u "isEmpty"), (0, u "()Z"), (3, u "law"), (0, u "(IIIIII)Z")] 4

def k1m0 : Method := { name := "<init>", desc := "()V", sig := { parameters := [], returnType := none }, accessFlags := 1, code := none }
def k1c1 : Code := { maxStack := 3, maxLocals := 3, code := method_2_code, exceptionTable := #[], attributes := #[] }
def k1m1 : Method := { name := "push", desc := "([III)I", sig := { parameters := [(.array .int), .int, .int], returnType := some .int }, accessFlags := 10, code := some k1c1 }
def k1c2 : Code := { maxStack := 4, maxLocals := 16, code := code, exceptionTable := #[], attributes := #[] }
def k1m2 : Method := { name := "law", desc := "(IIIIII)Z", sig := { parameters := [.int, .int, .int, .int, .int, .int], returnType := some .boolean }, accessFlags := 9, code := some k1c2 }
/-- com/example/wary_observer/waryobserver/equivalence/SplittersAddPinLaw -/
def k1 : Class := { plain "com/example/wary_observer/waryobserver/equivalence/SplittersAddPinLaw" (some 0) with
  accessFlags := 49
  interfaces := #[]
  cf := some (fileOf pool1 17 #[] #[{ accessFlags := 1, nameIndex := 5, descriptorIndex := 6, attributes := #[] }, { accessFlags := 10, nameIndex := 20, descriptorIndex := 21, attributes := #[] }, { accessFlags := 9, nameIndex := 33, descriptorIndex := 34, attributes := #[] }] 49 2 #[] #[])
  fields := #[]
  methods := #[k1m0, k1m1, k1m2]
  instanceTypes := #[]
  staticTypes := #[]
  resolved := Array.replicate 39 none
  statics := none }

def pool2 : Array CpInfo := pool [(1, .methodref 2 3), (0, .class_ 4), (0, .nameAndType 5 6), (0, u "java/lang/Object"), (0, u "<init>"), (0, u "()V"), (0, .fieldref 8 9), (0, .class_ 10), (0, .nameAndType 11 12), (0, u "com/example/wary_observer/waryobserver/equivalence/Splitters"), (0, u "blocks"), (0, u "[I"), (0, .fieldref 8 14), (0, .nameAndType 15 16), (0, u "isWaiting"), (0, u "[Z"), (0, .fieldref 8 18), (0, .nameAndType 19 20), (0, u "count"), (0, u "I"), (0, u "(I)V"), (2, u "add"), (1, u "isEmpty"), (0, u "()Z"), (0, u "take"), (0, u "()I")] 2

def k2c0 : Code := { maxStack := 2, maxLocals := 2, code := prog_48_method_1_code, exceptionTable := #[], attributes := #[] }
def k2m0 : Method := { name := "<init>", desc := "(I)V", sig := { parameters := [.int], returnType := none }, accessFlags := 0, code := some k2c0 }
def k2c1 : Code := { maxStack := 5, maxLocals := 2, code := prog_48_method_2_code, exceptionTable := #[], attributes := #[] }
def k2m1 : Method := { name := "add", desc := "(I)V", sig := { parameters := [.int], returnType := none }, accessFlags := 0, code := some k2c1 }
def k2c2 : Code := { maxStack := 1, maxLocals := 1, code := prog_48_method_3_code, exceptionTable := #[], attributes := #[] }
def k2m2 : Method := { name := "isEmpty", desc := "()Z", sig := { parameters := [], returnType := some .boolean }, accessFlags := 0, code := some k2c2 }
def k2c3 : Code := { maxStack := 4, maxLocals := 2, code := prog_48_method_4_code, exceptionTable := #[], attributes := #[] }
def k2m3 : Method := { name := "take", desc := "()I", sig := { parameters := [], returnType := some .int }, accessFlags := 0, code := some k2c3 }
/-- com/example/wary_observer/waryobserver/equivalence/Splitters -/
def k2 : Class := { plain "com/example/wary_observer/waryobserver/equivalence/Splitters" (some 0) with
  accessFlags := 32
  interfaces := #[]
  cf := some (fileOf pool2 8 #[] #[{ accessFlags := 0, nameIndex := 5, descriptorIndex := 21, attributes := #[] }, { accessFlags := 0, nameIndex := 24, descriptorIndex := 21, attributes := #[] }, { accessFlags := 0, nameIndex := 26, descriptorIndex := 27, attributes := #[] }, { accessFlags := 0, nameIndex := 28, descriptorIndex := 29, attributes := #[] }] 32 2 #[] #[{ accessFlags := 18, nameIndex := 11, descriptorIndex := 12, attributes := #[] }, { accessFlags := 2, nameIndex := 19, descriptorIndex := 20, attributes := #[] }, { accessFlags := 18, nameIndex := 15, descriptorIndex := 16, attributes := #[] }])
  fields := #[{ name := "blocks", type := (.array .int), accessFlags := 18, slot := 0, constantValue := 0 }, { name := "count", type := .int, accessFlags := 2, slot := 1, constantValue := 0 }, { name := "isWaiting", type := (.array .boolean), accessFlags := 18, slot := 2, constantValue := 0 }]
  methods := #[k2m0, k2m1, k2m2, k2m3]
  instanceTypes := #[(.array .int), .int, (.array .boolean)]
  staticTypes := #[]
  resolved := Array.replicate 32 none
  statics := none }

def pool3 : Array CpInfo := pool [(1, u "java/lang/Cloneable"), (0, .class_ 1), (0, u "java/lang/Object"), (0, .class_ 3)] 3

/-- java/lang/Cloneable -/
def k3 : Class := { plain "java/lang/Cloneable" (some 0) with
  accessFlags := 1537
  interfaces := #[]
  cf := some (fileOf pool3 2 #[] #[] 1537 4 #[] #[])
  fields := #[]
  methods := #[]
  instanceTypes := #[]
  staticTypes := #[]
  resolved := Array.replicate 8 none
  statics := none }

def pool4 : Array CpInfo := pool [(1, u "java/io/Serializable"), (0, .class_ 1), (0, u "java/lang/Object"), (0, .class_ 3)] 3

/-- java/io/Serializable -/
def k4 : Class := { plain "java/io/Serializable" (some 0) with
  accessFlags := 1537
  interfaces := #[]
  cf := some (fileOf pool4 2 #[] #[] 1537 4 #[] #[])
  fields := #[]
  methods := #[]
  instanceTypes := #[]
  staticTypes := #[]
  resolved := Array.replicate 8 none
  statics := none }

/-- the primitive boolean -/
def k5 : Class := { plain "boolean" none with kind := .primitive 'Z', accessFlags := 0x411 }
/-- [Z -/
def k6 : Class := { plain "[Z" (some 0) with kind := .array 5 .boolean, interfaces := #[3, 4], accessFlags := 1041 }

/-- the primitive byte -/
def k7 : Class := { plain "byte" none with kind := .primitive 'B', accessFlags := 0x411 }
/-- [B -/
def k8 : Class := { plain "[B" (some 0) with kind := .array 7 .byte, interfaces := #[3, 4], accessFlags := 1041 }

/-- the primitive int -/
def k9 : Class := { plain "int" none with kind := .primitive 'I', accessFlags := 0x411 }
/-- [I -/
def k10 : Class := { plain "[I" (some 0) with kind := .array 9 .int, interfaces := #[3, 4], accessFlags := 1041 }

def heap : Heap := #[]
def classes : Array Class := #[k0, k1, k2, k3, k4, k5, k6, k7, k8, k9, k10]
def interned : List (Array UInt16 × Addr) := []
def slotsUsed : Nat := 0
def theMethod : MethodId := ⟨1, 2⟩
def args0 : Array Value := #[.int 2, .int 6, .int 7, .int 3, .int 1, .int 1]
def aboutOver (below : List Frame) : State where
  vm := { classes := classes, interned := interned.toArray }
  heap := heap
  slotsUsed := slotsUsed
  threads := #[{ frames := .invoking theMethod args0 :: below }]
def below0 : List Frame := [.native { method := ⟨0, 0⟩, args := #[] }]
def about1 : State := aboutOver below0
def p0 : Program := .bare "" "" ""
def e0 : Env := launch0.env 0 0 0
theorem w_frames : about1.frames = Frame.invoking theMethod args0 :: below0 := rfl
set_option maxRecDepth 65536 in
theorem w_args : argsFit about1.vm theMethod args0 = true := by decide +kernel
set_option maxRecDepth 65536 in
theorem w_heap : heapFits about1 = true := by decide +kernel
set_option maxRecDepth 65536 in
theorem w_runnable : about1.curStatus? = some .runnable := by decide +kernel
set_option maxRecDepth 65536 in
theorem w_alone : about1.alone = true := by decide +kernel
set_option maxRecDepth 65536 in
theorem w_named : about1.methodNamed? x = some theMethod := by decide +kernel
set_option maxRecDepth 65536 in
theorem w_hears : about1.hears theMethod below0 = true := by decide +kernel
set_option maxRecDepth 65536 in
theorem w_ripe : about1.ripe theMethod args0 below0 = true := by decide +kernel
theorem w_running : about1.status = .running := rfl
set_option maxRecDepth 65536 in
theorem w_room : about1.hasRoom e0.platform room_1 = true :=
  launch0.hasRoom_least _ room_1 (by decide +kernel) (by decide +kernel) (by decide +kernel) (by decide +kernel) (by decide +kernel) (by decide +kernel)
theorem allAtoms_all (ts : List Jvm.Cond) (a : Array Jvm.Value) (st : Jvm.State) : (allAtoms ts).before a st = ts.all (fun c => c.before a st) := by
  induction ts with
  | nil => rfl
  | cons c t ih =>
    show (Jvm.Cond.and c (allAtoms t)).before a st = _
    rw [Jvm.Cond.before_and, ih, List.all_cons]
def words1 : List Jvm.Cond := Jvm.Cond.code x code maxLocals ret :: tables_1
/-- a 'code' word, met by the world's own term for the bytes: nothing is compared byte by byte -/
theorem code_word {y : MethodName} {bytes : ByteArray} {mx : Nat} {rt : Option FieldType} {a : Array Value} {s : State} {m : MethodId} {meth : Method} {c : Code} (h1 : s.methodNamed? y = some m) (h2 : s.vm.method? m = some meth) (h3 : meth.code = some c) (h4 : c.code = bytes)
    (h5 : (c.maxLocals == mx && c.exceptionTable.isEmpty && decide (c.maxStack ≤ mostOperands) && decide (meth.sig.returnType = rt) && !meth.locks && decide (parseMethodDescriptor y.desc = some meth.sig)) = true) : (Jvm.Cond.code y bytes mx rt).before a s = true := by
  simp only [Bool.and_eq_true, beq_iff_eq, Bool.not_eq_true', decide_eq_true_eq] at h5
  obtain ⟨⟨⟨⟨⟨g1, g2⟩, g3⟩, g4⟩, g5⟩, g6⟩ := h5
  simp [Cond.before, Cond.holds, Cond.value, h1, h2, h3, h4, g1, g2, g3, g4, g5, g6]
def isCode : Jvm.Cond → Bool
  | .code _ _ _ _ => true
  | _ => false
theorem all_split {L : List Jvm.Cond} {P : Jvm.Cond → Bool} (h1 : L.all (fun c => isCode c || P c) = true) (h2 : ∀ c ∈ L.filter isCode, P c = true) : L.all P = true := by
  refine List.all_eq_true.mpr fun c hc => ?_
  have h := List.all_eq_true.mp h1 c hc
  rcases Bool.eq_false_or_eq_true (isCode c) with hi | hi
  · exact h2 c (List.mem_filter.mpr ⟨hc, hi⟩)
  · simpa [hi] using h
set_option maxRecDepth 65536 in
theorem w_c0 : (Jvm.Cond.code x code maxLocals ret).before args0 about1 = true := code_word (m := ⟨1, 2⟩) (meth := k1m2) (c := k1c2) (by decide +kernel) rfl rfl rfl (by decide +kernel)
set_option maxRecDepth 65536 in
theorem w_c1 : (Jvm.Cond.code ({ cls := "com/example/wary_observer/waryobserver/equivalence/Splitters", name := "<init>", desc := "(I)V" } : Jvm.MethodName) prog_48_method_1_code (2 : Nat) (Option.none : Option Jvm.ClassFile.FieldType)).before args0 about1 = true := code_word (m := ⟨2, 0⟩) (meth := k2m0) (c := k2c0) (by decide +kernel) rfl rfl rfl (by decide +kernel)
set_option maxRecDepth 65536 in
theorem w_c2 : (Jvm.Cond.code ({ cls := "java/lang/Object", name := "<init>", desc := "()V" } : Jvm.MethodName) object_method_1_code (1 : Nat) (Option.none : Option Jvm.ClassFile.FieldType)).before args0 about1 = true := code_word (m := ⟨0, 0⟩) (meth := k0m0) (c := k0c0) (by decide +kernel) rfl rfl rfl (by decide +kernel)
set_option maxRecDepth 65536 in
theorem w_c3 : (Jvm.Cond.code ({ cls := "com/example/wary_observer/waryobserver/equivalence/Splitters", name := "add", desc := "(I)V" } : Jvm.MethodName) prog_48_method_2_code (2 : Nat) (Option.none : Option Jvm.ClassFile.FieldType)).before args0 about1 = true := code_word (m := ⟨2, 1⟩) (meth := k2m1) (c := k2c1) (by decide +kernel) rfl rfl rfl (by decide +kernel)
set_option maxRecDepth 65536 in
theorem w_c4 : (Jvm.Cond.code ({ cls := "com/example/wary_observer/waryobserver/equivalence/SplittersAddPinLaw", name := "push", desc := "([III)I" } : Jvm.MethodName) method_2_code (3 : Nat) (Option.some Jvm.ClassFile.FieldType.int)).before args0 about1 = true := code_word (m := ⟨1, 1⟩) (meth := k1m1) (c := k1c1) (by decide +kernel) rfl rfl rfl (by decide +kernel)
set_option maxRecDepth 65536 in
theorem w_c5 : (Jvm.Cond.code ({ cls := "com/example/wary_observer/waryobserver/equivalence/Splitters", name := "take", desc := "()I" } : Jvm.MethodName) prog_48_method_4_code (2 : Nat) (Option.some Jvm.ClassFile.FieldType.int)).before args0 about1 = true := code_word (m := ⟨2, 3⟩) (meth := k2m3) (c := k2c3) (by decide +kernel) rfl rfl rfl (by decide +kernel)
set_option maxRecDepth 65536 in
theorem w_c6 : (Jvm.Cond.code ({ cls := "com/example/wary_observer/waryobserver/equivalence/Splitters", name := "isEmpty", desc := "()Z" } : Jvm.MethodName) prog_48_method_3_code (1 : Nat) (Option.some Jvm.ClassFile.FieldType.boolean)).before args0 about1 = true := code_word (m := ⟨2, 2⟩) (meth := k2m2) (c := k2c2) (by decide +kernel) rfl rfl rfl (by decide +kernel)
def codes1 : List Jvm.Cond := [Jvm.Cond.code x code maxLocals ret, Jvm.Cond.code ({ cls := "com/example/wary_observer/waryobserver/equivalence/Splitters", name := "<init>", desc := "(I)V" } : Jvm.MethodName) prog_48_method_1_code (2 : Nat) (Option.none : Option Jvm.ClassFile.FieldType), Jvm.Cond.code ({ cls := "java/lang/Object", name := "<init>", desc := "()V" } : Jvm.MethodName) object_method_1_code (1 : Nat) (Option.none : Option Jvm.ClassFile.FieldType), Jvm.Cond.code ({ cls := "com/example/wary_observer/waryobserver/equivalence/Splitters", name := "add", desc := "(I)V" } : Jvm.MethodName) prog_48_method_2_code (2 : Nat) (Option.none : Option Jvm.ClassFile.FieldType), Jvm.Cond.code ({ cls := "com/example/wary_observer/waryobserver/equivalence/SplittersAddPinLaw", name := "push", desc := "([III)I" } : Jvm.MethodName) method_2_code (3 : Nat) (Option.some Jvm.ClassFile.FieldType.int), Jvm.Cond.code ({ cls := "com/example/wary_observer/waryobserver/equivalence/Splitters", name := "take", desc := "()I" } : Jvm.MethodName) prog_48_method_4_code (2 : Nat) (Option.some Jvm.ClassFile.FieldType.int), Jvm.Cond.code ({ cls := "com/example/wary_observer/waryobserver/equivalence/Splitters", name := "isEmpty", desc := "()Z" } : Jvm.MethodName) prog_48_method_3_code (1 : Nat) (Option.some Jvm.ClassFile.FieldType.boolean)]
set_option maxRecDepth 65536 in
theorem codes_eq : words1.filter isCode = codes1 := rfl
theorem w_codes : ∀ c ∈ words1.filter isCode, c.before args0 about1 = true := by
  rw [codes_eq]
  intro c hc
  simp only [codes1, List.mem_cons, List.not_mem_nil, or_false] at hc
  rcases hc with rfl | rfl | rfl | rfl | rfl | rfl | rfl
  · exact w_c0
  · exact w_c1
  · exact w_c2
  · exact w_c3
  · exact w_c4
  · exact w_c5
  · exact w_c6
set_option maxRecDepth 65536 in
theorem w_t1 : (words1.take 24).all (fun c => isCode c || c.before args0 about1) = true := by decide +kernel
set_option maxRecDepth 65536 in
theorem w_t2 : (words1.drop 24).all (fun c => isCode c || c.before args0 about1) = true := by decide +kernel
theorem w_tables : (allAtoms (Jvm.Cond.code x code maxLocals ret :: tables_1)).before args0 about1 = true := by
  rw [allAtoms_all]
  show words1.all (fun c => c.before args0 about1) = true
  refine all_split ?_ w_codes
  rw [← List.take_append_drop 24 words1, List.all_append, w_t1, w_t2]
  rfl
set_option maxRecDepth 65536 in
theorem w_case : (Jvm.Cond.and given_1 narrow_1).before args0 about1 = true := by decide +kernel
theorem w_applies : (headSpec (Jvm.Cond.code x code maxLocals ret :: tables_1) room_1).applies x e0.platform about1 = true :=
  (Spec.applies_iff w_frames).mpr ⟨w_running, w_runnable, w_alone, w_named, w_hears, w_ripe, w_room, w_tables⟩
theorem atStart : AtStart classFile x code maxLocals ret World_1 tables_1 room_1 Calls_1 rest_1 Pre_1 launch0 p0 e0 about1 theMethod args0 below0 :=
  ⟨lists_1, trivial, launch0.admits_env _ _ _, launch0.least_env, fairChoices_fair.cas, fairChoices_fair.clock, w_frames, w_args, w_heap, w_applies, trivial, trivial, w_case⟩
end start1
theorem witness_1 : WitnessClaimed_1 := ⟨start1.p0, start1.e0, start1.about1, start1.theMethod, start1.args0, start1.below0, start1.atStart⟩
end Jvm.Pilot.@@N@@
