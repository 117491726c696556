import JvmDerived
import JvmDerived.Pilot.@@N@@Statement
import JvmDerived.Pilot.@@N@@Code
set_option linter.unusedVariables false
set_option linter.unusedSimpArgs false
namespace Jvm.RoadKit
open Sem ClassFile Op Lib Jvm.Stand Jvm.Free Jvm.LawKit
section New
variable {p : Program} {l : Launch} {e : Env} {R : Room} {s : State} {m : MethodId} {args : Array Value} {below : List Frame} {meth : Method} {c : Code} {T : State} {locs : List Loc} {cells slots : Nat}
theorem retI (X : Stand p l e R s m args below meth c T locs cells slots) (hx : p.tables.exec = Jvm.exec) {pc : Nat} {Ls : Array Slot} {z : Int32} {rest : List Value} (hret : meth.sig.returnType = some .int) (hd : decode c.code pc = .ok (.ireturn, 1)) {fs : List Frame}
    (hl : ∀ (f : JFrame) (acts : List Action), f.method = m → f.locked = none → f.entered = [] → (doReturn e (T.setTop f) acts (some (.int z))).1 = T.setFrames fs) : Steps p.tables e below (T.setTop (mkF m pc Ls (.int z :: rest))) (T.setFrames fs) := by
  have hm' : T.vm.method? m = some meth := X.method'
  have hn : narrow .int (.int z) = .int z := rfl
  show Steps p.tables e below (T.setTop { method := m, pc := pc, locals := Ls, stack := _ :: rest, locked := none }) _
  jvm_step X.here [X.here.top, hx, hd, hm', hret, hn]
  first | (intro acts; rw [hl _ acts rfl rfl rfl]) | rw [hl _ _ rfl rfl rfl]
  exact Steps.refl _
end New
end Jvm.RoadKit
namespace Jvm.Pilot.@@N@@
open Jvm Jvm.ClassFile Sem Op Lib Jvm.Free Jvm.Stand Jvm.LawKit Jvm.RoadKit Bundle Jvm.Pilot.@@N@@.Jvm.D
section OwnKit
variable {p : Program} {l : Launch} {e : Env} {R : Room} {s : State} {m : MethodId} {args : Array Value} {below : List Frame} {meth : Method} {c : Code} {T : State} {locs : List Loc} {cells slots : Nat} {Z : State} {h h' : Heap} {a b : Addr} {ty : FieldType} {n : Nat} {f : Nat → Value}
/-- an array by its length and the value at each place -/
def own_AF (Z : State) (h : Heap) (a : Addr) (ty : FieldType) (n : Nat) (f : Nat → Value) : Prop := ∃ c : Cell, Arr Z h a c ty ∧ c.slots.size = n ∧ n < 2 ^ 31 ∧ ∀ i, i < n → c.slots[i]? = some (f i)
theorem own_AF.lt (F : own_AF Z h a ty n f) : a < h.size := by obtain ⟨c, A, -⟩ := F; exact A.lt
theorem own_AF.ext (F : own_AF Z h a ty n f) (E : Ext h h') : own_AF Z h' a ty n f := by obtain ⟨c, A, r⟩ := F; exact ⟨c, A.ext E, r⟩
theorem own_AF.other {sl : Nat} {v : Value} (F : own_AF Z h b ty n f) (W : Wr h h' a sl v) (q : b ≠ a) : own_AF Z h' b ty n f := by obtain ⟨c, A, r⟩ := F; exact ⟨c, A.other W q, r⟩
theorem own_AF.keep {ws : List Addr} (F : own_AF Z h a ty n f) (K : Keep h h' ws) (q : a ∉ ws) : own_AF Z h' a ty n f := by obtain ⟨c, A, r⟩ := F; exact ⟨c, ⟨K.2.1 a c A.1 q, A.2⟩, r⟩
theorem own_AF.congr {g : Nat → Value} (F : own_AF Z h a ty n f) (q : ∀ i, i < n → f i = g i) : own_AF Z h a ty n g := by
  obtain ⟨c, A, r1, r2, r3⟩ := F; exact ⟨c, A, r1, r2, fun i hi => by rw [r3 i hi, q i hi]⟩
theorem own_AF.set {j : Nat} {v : Value} (F : own_AF Z h a ty n f) (W : Wr h h' a j v) : own_AF Z h' a ty n (fun i => if i = j then v else f i) := by
  obtain ⟨c, A, r1, r2, r3⟩ := F
  obtain ⟨cb', q1, q2, q3, q4, -, q6, q7⟩ := wr_at W A.1
  obtain ⟨e1, e2, -⟩ := q7 rfl
  refine ⟨_, A.same W, ?_, r2, fun i hi => ?_⟩
  · rw [sz_set]; exact r1
  · rw [← e1]
    by_cases hij : i = j
    · subst hij; simp only [if_true]; exact e2
    · rw [q6 i hij, r3 i hi]; simp only [hij, if_false]
theorem own_AF.new {k : ClassId} {z : Int32} {d : Value} (A : Arr Z h a (newA k ty z) ty) (q : ¬ z < 0) (hn : z.toNatClampNeg = n) (hd : defaultValue ty = d := by rfl) : own_AF Z h a ty n (fun _ => d) := by
  subst hn
  refine ⟨_, A, sz_new _ _ _, (back32 q).2, fun i hi => ?_⟩
  simp [newA, hi, hd]
theorem own_AF.inb {c : Cell} {j : Int32} {k : Nat} (S : c.slots.size = n) (h1 : ¬ j < 0) (hk : j.toNatClampNeg = k) (h2 : k < n) : ¬ (j < 0 ∨ c.slots.size ≤ j.toNatClampNeg) := by
  rw [S, hk]; exact fun q => q.elim h1 fun q => by omega
theorem own_ldI (X : Stand p l e R s m args below meth c T locs cells slots) (hx : p.tables.exec = Jvm.exec) (hZ : Z.Warmed39 s.vm) (eT : T.heap = h) (A : own_AF Z h a .int n f) {j : Int32} (h1 : ¬ j < 0) {k : Nat} (hk : j.toNatClampNeg = k) (h2 : k < n) {v : Value} (hv : f k = v)
    {g : JFrame} (hg : g.method = m) {rest : List Value} (hs : g.stack = .int j :: .ref a :: rest) (hd : decode c.code g.pc = .ok (.iaload, 1)) (target : State)
    (hr : Steps p.tables e below (T.setTop { g with pc := g.pc + 1, stack := v :: rest }) target) : Steps p.tables e below (T.setTop g) target := by
  obtain ⟨cl, A, r1, r2, r3⟩ := A
  exact X.iaload hx (by rw [eT]; exact A.1) (State.isArrayOf_alike hZ.alike A.2.1) A.2.2 (own_AF.inb r1 h1 hk h2) (by rw [hk, ← hv]; exact r3 k h2) hg hs hd _ hr
theorem own_ldJ (X : Stand p l e R s m args below meth c T locs cells slots) (hx : p.tables.exec = Jvm.exec) (hZ : Z.Warmed39 s.vm) (eT : T.heap = h) (A : own_AF Z h a .long n f) {j : Int32} (h1 : ¬ j < 0) {k : Nat} (hk : j.toNatClampNeg = k) (h2 : k < n) {v : Value} (hv : f k = v)
    {g : JFrame} (hg : g.method = m) {rest : List Value} (hs : g.stack = .int j :: .ref a :: rest) (hd : decode c.code g.pc = .ok (.laload, 1)) (target : State)
    (hr : Steps p.tables e below (T.setTop { g with pc := g.pc + 1, stack := v :: rest }) target) : Steps p.tables e below (T.setTop g) target := by
  obtain ⟨cl, A, r1, r2, r3⟩ := A
  exact X.laload hx (by rw [eT]; exact A.1) (State.isArrayOf_alike hZ.alike A.2.1) A.2.2 (own_AF.inb r1 h1 hk h2) (by rw [hk, ← hv]; exact r3 k h2) hg hs hd _ hr
theorem own_ldB (X : Stand p l e R s m args below meth c T locs cells slots) (hx : p.tables.exec = Jvm.exec) (hZ : Z.Warmed39 s.vm) (eT : T.heap = h) (A : own_AF Z h a .byte n f) {j : Int32} (h1 : ¬ j < 0) {k : Nat} (hk : j.toNatClampNeg = k) (h2 : k < n) {v : Value} (hv : f k = v)
    {g : JFrame} (hg : g.method = m) {rest : List Value} (hs : g.stack = .int j :: .ref a :: rest) (hd : decode c.code g.pc = .ok (.baload, 1)) (target : State)
    (hr : Steps p.tables e below (T.setTop { g with pc := g.pc + 1, stack := v :: rest }) target) : Steps p.tables e below (T.setTop g) target := by
  obtain ⟨cl, A, r1, r2, r3⟩ := A
  exact X.baloadBytes hx (by rw [eT]; exact A.1) (State.isArrayOf_alike hZ.alike A.2.1) A.2.2 (own_AF.inb r1 h1 hk h2) (by rw [hk, ← hv]; exact r3 k h2) hg hs hd _ hr
theorem own_ldZ (X : Stand p l e R s m args below meth c T locs cells slots) (hx : p.tables.exec = Jvm.exec) (hZ : Z.Warmed39 s.vm) (eT : T.heap = h) (A : own_AF Z h a .boolean n f) {j : Int32} (h1 : ¬ j < 0) {k : Nat} (hk : j.toNatClampNeg = k) (h2 : k < n) {v : Value} (hv : f k = v)
    {g : JFrame} (hg : g.method = m) {rest : List Value} (hs : g.stack = .int j :: .ref a :: rest) (hd : decode c.code g.pc = .ok (.baload, 1)) (target : State)
    (hr : Steps p.tables e below (T.setTop { g with pc := g.pc + 1, stack := v :: rest }) target) : Steps p.tables e below (T.setTop g) target := by
  obtain ⟨cl, A, r1, r2, r3⟩ := A
  exact X.baloadBooleans hx (by rw [eT]; exact A.1) (State.isArrayOf_alike hZ.alike A.2.1) A.2.2 (own_AF.inb r1 h1 hk h2) (by rw [hk, ← hv]; exact r3 k h2) hg hs hd _ hr
theorem own_len (X : Stand p l e R s m args below meth c T locs cells slots) (hx : p.tables.exec = Jvm.exec) (hZ : Z.Warmed39 s.vm) (eT : T.heap = h) (A : own_AF Z h a ty n f) {z : Int32} (hz : n.toInt32 = z)
    {g : JFrame} (hg : g.method = m) {rest : List Value} (hs : g.stack = .ref a :: rest) (hd : decode c.code g.pc = .ok (.arraylength, 1)) (target : State)
    (hr : Steps p.tables e below (T.setTop { g with pc := g.pc + 1, stack := .int z :: rest }) target) : Steps p.tables e below (T.setTop g) target := by
  obtain ⟨cl, A, r1, r2, r3⟩ := A
  exact X.arraylength hx (by rw [eT]; exact A.1) (State.isArrayOf_alike hZ.alike A.2.1) hg hs hd _ (by rw [r1, hz]; exact hr)
theorem own_stI (X : Stand p l e R s m args below meth c T locs cells slots) (hx : p.tables.exec = Jvm.exec) (hZ : Z.Warmed39 s.vm) (eT : T.heap = h) (A : own_AF Z h a .int n f) {j x : Int32} (h1 : ¬ j < 0) {k : Nat} (hk : j.toNatClampNeg = k) (h2 : k < n)
    {g : JFrame} (hg : g.method = m) {rest : List Value} (hs : g.stack = .int x :: .int j :: .ref a :: rest) (hd : decode c.code g.pc = .ok (.iastore, 1)) :
    ∃ T' h', Stand p l e R s m args below meth c T' (locs ++ [⟨a, k⟩]) cells slots ∧ T'.heap = h' ∧ Wr h h' a k (.int x) ∧ own_AF Z h' a .int n (fun i => if i = k then .int x else f i) ∧ ∀ target, Steps p.tables e below (T'.setTop { g with pc := g.pc + 1, stack := rest }) target → Steps p.tables e below (T.setTop g) target := by
  obtain ⟨cl, A', r1, r2, r3⟩ := id A
  obtain ⟨T', h', X', e', W', st⟩ := stI X hx hZ eT A' (own_AF.inb r1 h1 hk h2) hg hs hd
  subst hk
  exact ⟨T', h', X', e', W', A.set W', st⟩
theorem own_stJ (X : Stand p l e R s m args below meth c T locs cells slots) (hx : p.tables.exec = Jvm.exec) (hZ : Z.Warmed39 s.vm) (eT : T.heap = h) (A : own_AF Z h a .long n f) {j : Int32} {x : Int64} (h1 : ¬ j < 0) {k : Nat} (hk : j.toNatClampNeg = k) (h2 : k < n)
    {g : JFrame} (hg : g.method = m) {rest : List Value} (hs : g.stack = .long x :: .int j :: .ref a :: rest) (hd : decode c.code g.pc = .ok (.lastore, 1)) :
    ∃ T' h', Stand p l e R s m args below meth c T' (locs ++ [⟨a, k⟩]) cells slots ∧ T'.heap = h' ∧ Wr h h' a k (.long x) ∧ own_AF Z h' a .long n (fun i => if i = k then .long x else f i) ∧ ∀ target, Steps p.tables e below (T'.setTop { g with pc := g.pc + 1, stack := rest }) target → Steps p.tables e below (T.setTop g) target := by
  obtain ⟨cl, A', r1, r2, r3⟩ := id A
  obtain ⟨T', h', X', e', W', st⟩ := stJ X hx hZ eT A' (own_AF.inb r1 h1 hk h2) hg hs hd
  subst hk
  exact ⟨T', h', X', e', W', A.set W', st⟩
theorem own_stB (X : Stand p l e R s m args below meth c T locs cells slots) (hx : p.tables.exec = Jvm.exec) (hZ : Z.Warmed39 s.vm) (eT : T.heap = h) (A : own_AF Z h a .byte n f) {j x : Int32} (h1 : ¬ j < 0) {k : Nat} (hk : j.toNatClampNeg = k) (h2 : k < n)
    {g : JFrame} (hg : g.method = m) {rest : List Value} (hs : g.stack = .int x :: .int j :: .ref a :: rest) (hd : decode c.code g.pc = .ok (.bastore, 1)) :
    ∃ T' h', Stand p l e R s m args below meth c T' (locs ++ [⟨a, k⟩]) cells slots ∧ T'.heap = h' ∧ Wr h h' a k (.int (nar .byte x)) ∧ own_AF Z h' a .byte n (fun i => if i = k then .int (nar .byte x) else f i) ∧ ∀ target, Steps p.tables e below (T'.setTop { g with pc := g.pc + 1, stack := rest }) target → Steps p.tables e below (T.setTop g) target := by
  obtain ⟨cl, A', r1, r2, r3⟩ := id A
  obtain ⟨T', h', X', e', W', st⟩ := stB X hx hZ eT A' (own_AF.inb r1 h1 hk h2) hg hs hd
  subst hk
  exact ⟨T', h', X', e', W', A.set W', st⟩
theorem own_stZ (X : Stand p l e R s m args below meth c T locs cells slots) (hx : p.tables.exec = Jvm.exec) (hZ : Z.Warmed39 s.vm) (eT : T.heap = h) (A : own_AF Z h a .boolean n f) {j x : Int32} (h1 : ¬ j < 0) {k : Nat} (hk : j.toNatClampNeg = k) (h2 : k < n)
    {g : JFrame} (hg : g.method = m) {rest : List Value} (hs : g.stack = .int x :: .int j :: .ref a :: rest) (hd : decode c.code g.pc = .ok (.bastore, 1)) :
    ∃ T' h', Stand p l e R s m args below meth c T' (locs ++ [⟨a, k⟩]) cells slots ∧ T'.heap = h' ∧ Wr h h' a k (.int (nar .boolean x)) ∧ own_AF Z h' a .boolean n (fun i => if i = k then .int (nar .boolean x) else f i) ∧ ∀ target, Steps p.tables e below (T'.setTop { g with pc := g.pc + 1, stack := rest }) target → Steps p.tables e below (T.setTop g) target := by
  obtain ⟨cl, A', r1, r2, r3⟩ := id A
  obtain ⟨T', h', X', e', W', st⟩ := stZ X hx hZ eT A' (own_AF.inb r1 h1 hk h2) hg hs hd
  subst hk
  exact ⟨T', h', X', e', W', A.set W', st⟩
theorem own_lremM {g : JFrame} {target : State} (X : Stand p l e R s m args below meth c T locs cells slots) (hx : p.tables.exec = Jvm.exec) (hg : g.method = m) {x y : Int64} {rest : List Value} (hd : decode c.code g.pc = .ok (.lrem, 1)) (hs : g.stack = .long y :: .long x :: rest) (hy : y ≠ 0)
    (hr : Steps p.tables e below (T.setTop { g with pc := g.pc + 1, stack := .long (x % y) :: rest }) target) : Steps p.tables e below (T.setTop g) target :=
  XS.lrem X.here hx hg hd hs hy (by rw [lrem_mod x y]; exact hr)
theorem own_cloneI {a0 : Array Value} (X : Stand p l e R s m args below meth c T locs cells slots) (hx : p.tables.exec = Jvm.exec) (hZ : Z.Warmed39 s.vm) {own : String} {index : Nat} (hown : s.vm.findClass own = some m.cls)
    (w1 : (Cond.methodLink own index ⟨"[I", "clone", "()Ljava/lang/Object;"⟩).before a0 Z = true) (w2 : (Cond.sameMethod "[I" "java/lang/Object" "clone" "()Ljava/lang/Object;").before a0 Z = true) (w3 : (Cond.native ⟨"java/lang/Object", "clone", "()Ljava/lang/Object;"⟩).before a0 Z = true)
    (w4 : (Cond.instanceMethod ⟨"java/lang/Object", "clone", "()Ljava/lang/Object;"⟩).before a0 Z = true) (w5 : (Cond.selects "[I" ⟨"[I", "clone", "()Ljava/lang/Object;"⟩ ⟨"java/lang/Object", "clone", "()Ljava/lang/Object;"⟩).before a0 Z = true) (w6 : (Cond.castable "[I" "java/lang/Cloneable").before a0 Z = true)
    (eT : T.heap = h) (F : own_AF Z h a .int n f) (E : Exa Z h a "[I") (hfit : ∀ i, i < n → fits .int (f i) = true) {g : JFrame} (hg : g.method = m) (hsize : g.locals.size = c.maxLocals) {rest : List Value} (hs : g.stack = .ref a :: rest) (hd : decode c.code g.pc = .ok (.invokevirtual index, 3))
    (hf : 1 ≤ R.frames) {W cap : Nat} (hW : 2 * g.monitorRoom + (rest.map fun v => v.category).sum ≤ W) (hl : W + 14 ≤ R.locals) (hcap : n ≤ cap) (hc : cells + 1 ≤ R.cells) (hsl : slots + cap ≤ R.slots) :
    ∃ T' h', Stand p l e R s m args below meth c T' locs (cells + 1) (slots + cap) ∧ T'.heap = h' ∧ Ext h h' ∧ own_AF Z h' h.size .int n f ∧ Exa Z h' h.size "[I" ∧
      ∀ target, Steps p.tables e below (T'.setTop { g with pc := g.pc + 3, stack := .ref h.size :: rest }) target → Steps p.tables e below (T.setTop g) target := by
  obtain ⟨cl, A, r1, r2, r3⟩ := F
  have FC : FitC Z cl := fitC_of A fun i hi v hv => by rw [r3 i (by omega)] at hv; cases hv; exact hfit i (by omega)
  obtain ⟨T', h', X', e', ex, A', E', st⟩ := cloneA X hx hZ hown w1 w2 w3 w4 w5 w6 eT A E FC hg hsize hs hd hf hW hl (by rw [r1]; exact hcap) hc hsl
  exact ⟨T', h', X', e', ex, ⟨cloneOf cl, A', r1, r2, r3⟩, E', st⟩
end OwnKit
theorem own_no (x : Int64) : ¬ ((((0 : Int64) ^^^ ((0 : Int64) + x)) &&& (x ^^^ ((0 : Int64) + x))) < (0 : Int64)) := by
  rw [Int64.zero_add, Int64.xor_self, Int64.and_zero]
  decide
def own_over (rq rn : Int64) : Int32 := if (0 : Int64) < rq ∧ rq < rn then 1 else 0
def own_est (rq rn : Int64) : Int64 := if (0 : Int64) < rq then rq else rn
theorem own_ref (rq rn : Int64) : (own_est rq rn < rn) ↔ ((0 : Int64) < rq ∧ rq < rn) := by
  unfold own_est
  by_cases h : (0 : Int64) < rq
  · simp [h]
  · simp [h]
theorem own_d2_0 : decode jdk_30_method_1_code 0 = .ok (.aload_n 0, 1) := by decide +kernel
theorem own_d2_1 : decode jdk_30_method_1_code 1 = .ok (.invokespecial 1, 3) := by decide +kernel
theorem own_d2_4 : decode jdk_30_method_1_code 4 = .ok (.return_, 1) := by decide +kernel
theorem own_pn0 : plainName "java/lang/Record" = true := by first | (simp [plainName, overriddenIn]; done) | decide +kernel
theorem own_ef2 (m : MethodId) (x0 : Addr) : entryFrame m #[(.ref x0)] 1 = mkF m 0 #[.val (.ref x0)] [] := by first | (simp [entryFrame, mkF, argsToLocals, Value.category]; done) | rfl
def own_Q2 (Z : State) (a1 : Addr) (h0 : Heap) (n0 : Nat) (v : Option Value) (h : Heap) (L : List Loc) : Prop := v = none ∧ Fr n0 L ∧ h = h0
set_option maxRecDepth 65536 in
set_option maxHeartbeats 40000000 in
theorem own_rm2 (l : Launch) (Z : State) (a0 : Array Value) (hw : ∀ d ∈ tables_1, d.before a0 Z = true) (ws : List Jvm.Cond) (a1 : Addr) (h0 : Heap) (n0 : Nat) (Z0 : n0 ≤ h0.size) :
    MetFree l (⟨"java/lang/Record", "<init>", "()V"⟩ : MethodName) (head1 (Jvm.Cond.code (⟨"java/lang/Record", "<init>", "()V"⟩ : MethodName) jdk_30_method_1_code 1 none :: ws) ({ frames := 1, cells := 0, slots := 0, locals := 12 } : Room)) (fun a U => a = #[(.ref a1)] ∧ Z.Warmed39 U.vm ∧ U.heap = h0) (fun _ _ _ _ _ => True) (fun _ U o U' => ∃ v L, o = .returned v ∧ own_Q2 Z a1 h0 n0 v U'.heap L ∧ FrameEnd U o U' L ({ frames := 1, cells := 0, slots := 0, locals := 12 } : Room).cells ({ frames := 1, cells := 0, slots := 0, locals := 12 } : Room).slots) := by
  refine MetFree.of_bodySF (plainFor_of_name own_pn0) hisR ?_
  intro p e s m args below meth c s₁ Bd hml0 hP hK
  obtain ⟨rfl, hZ, hh⟩ := hP
  have hx := Bd.exec
  have hby := Bd.bytes
  have hml : c.maxLocals = 1 := hml0
  have hown : s.vm.findClass "java/lang/Record" = some m.cls := findClass_of_methodNamed Bd.named
  have hnm := (name_of_methodNamed Bd.named Bd.method).1
  have X0 : Stand p l e ({ frames := 1, cells := 0, slots := 0, locals := 12 } : Room) s m #[(.ref a1)] below meth c s₁ [] 0 0 := Stand.of_body Bd
  have e0 : s₁.heap = h0 := by rw [← hh, Bd.state]; rfl
  have N0 := Fr.nil n0
  have K0 := Keep.refl h0 []
  have pre0 : ∀ t, Steps p.tables e below (s₁.setTop (mkF m 0 #[.val (.ref a1)] [])) t → Steps p.tables e below (s₁.setTop (entryFrame m #[(.ref a1)] 1)) t := fun t kt0 => castTop (own_ef2 m (a1)) kt0
  obtain ⟨T1, X1, e1, st1⟩ := initO X0 hx hZ hown (hw _ (List.mem_of_getElem? (i := 11) rfl)) (hw _ (List.mem_of_getElem? (i := 12) rfl)) (hw _ (List.mem_of_getElem? (i := 13) rfl)) e0 (g := (mkF m 1 #[.val (.ref a1)] [(.ref a1)])) rfl (by rw [hml]; rfl) rfl (hb hby own_d2_1) (by decide) (W := 0) (by show 2 * 0 + _ ≤ _; exact Nat.le_of_eq rfl) (by decide)
  obtain ⟨fs, hr, hrun, hended, hW, hsame⟩ := X1.leave (v := none) (fun _ => rfl) (BodyLoose.notSynchronized Bd)
  refine ⟨_, _, pre0 _ ?_, hrun, hended, _, _, rfl, ?_, ⟨_, rfl⟩, hW, hsame.mono (by decide) (by decide)⟩
  · skip
    show Steps p.tables e below (s₁.setTop (mkF m 0 #[.val (.ref a1)] [])) _
    refine XS.aloadN X0.here hx rfl (hb hby own_d2_0) rfl rfl ?_
    show Steps p.tables e below (s₁.setTop (mkF m 1 #[.val (.ref a1)] [(.ref a1)])) _
    refine st1 _ ?_
    show Steps p.tables e below (T1.setTop (mkF m 4 #[.val (.ref a1)] [])) _
    exact X1.returnOut hx Bd.returns (hb hby own_d2_4) hr
  · show own_Q2 Z a1 h0 n0 _ T1.heap _
    rw [e1]
    exact ⟨rfl, N0, rfl⟩
theorem own_d4_0 : decode jdk_29_method_25_code 0 = .ok (.lload_n 0, 1) := by decide +kernel
theorem own_d4_1 : decode jdk_29_method_25_code 1 = .ok (.lload_n 2, 1) := by decide +kernel
theorem own_d4_2 : decode jdk_29_method_25_code 2 = .ok (.ladd, 1) := by decide +kernel
theorem own_d4_3 : decode jdk_29_method_25_code 3 = .ok (.lstore 4, 2) := by decide +kernel
theorem own_d4_5 : decode jdk_29_method_25_code 5 = .ok (.lload_n 0, 1) := by decide +kernel
theorem own_d4_6 : decode jdk_29_method_25_code 6 = .ok (.lload 4, 2) := by decide +kernel
theorem own_d4_8 : decode jdk_29_method_25_code 8 = .ok (.lxor, 1) := by decide +kernel
theorem own_d4_9 : decode jdk_29_method_25_code 9 = .ok (.lload_n 2, 1) := by decide +kernel
theorem own_d4_10 : decode jdk_29_method_25_code 10 = .ok (.lload 4, 2) := by decide +kernel
theorem own_d4_12 : decode jdk_29_method_25_code 12 = .ok (.lxor, 1) := by decide +kernel
theorem own_d4_13 : decode jdk_29_method_25_code 13 = .ok (.land, 1) := by decide +kernel
theorem own_d4_14 : decode jdk_29_method_25_code 14 = .ok (.lconst 0, 1) := by decide +kernel
theorem own_d4_15 : decode jdk_29_method_25_code 15 = .ok (.lcmp, 1) := by decide +kernel
theorem own_d4_16 : decode jdk_29_method_25_code 16 = .ok (.ifCond .ge 13, 3) := by decide +kernel
theorem own_d4_29 : decode jdk_29_method_25_code 29 = .ok (.lload 4, 2) := by decide +kernel
theorem own_d4_31 : decode jdk_29_method_25_code 31 = .ok (.lreturn, 1) := by decide +kernel
theorem own_ef4 (m : MethodId) (x0 : Int64) (x1 : Int64) : entryFrame m #[(.long x0), (.long x1)] 6 = mkF m 0 #[.val (.long x0), .second, .val (.long x1), .second, .unset, .unset] [] := by first | (simp [entryFrame, mkF, argsToLocals, Value.category]; done) | rfl
def own_Q4 (Z : State) (x1 : Int64) (y1 : Int64) (h0 : Heap) (n0 : Nat) (v : Option Value) (h : Heap) (L : List Loc) : Prop := v = some (.long (x1 + y1)) ∧ Fr n0 L ∧ h = h0
set_option maxRecDepth 65536 in
set_option maxHeartbeats 40000000 in
theorem own_rm4 (l : Launch) (Z : State) (a0 : Array Value) (hw : ∀ d ∈ tables_1, d.before a0 Z = true) (ws : List Jvm.Cond) (x1 : Int64) (y1 : Int64) (h0 : Heap) (n0 : Nat) (Z0 : n0 ≤ h0.size) (hno : ¬ (((x1 ^^^ (x1 + y1)) &&& (y1 ^^^ (x1 + y1))) < (0 : Int64))) :
    MetFree l (⟨"java/lang/Math", "addExact", "(JJ)J"⟩ : MethodName) (head1 (Jvm.Cond.code (⟨"java/lang/Math", "addExact", "(JJ)J"⟩ : MethodName) jdk_29_method_25_code 6 (some .long) :: ws) ({ frames := 0, cells := 0, slots := 0, locals := 0 } : Room)) (fun a U => a = #[(.long x1), (.long y1)] ∧ Z.Warmed39 U.vm ∧ U.heap = h0) (fun _ _ _ _ _ => True) (fun _ U o U' => ∃ v L, o = .returned v ∧ own_Q4 Z x1 y1 h0 n0 v U'.heap L ∧ FrameEnd U o U' L ({ frames := 0, cells := 0, slots := 0, locals := 0 } : Room).cells ({ frames := 0, cells := 0, slots := 0, locals := 0 } : Room).slots) := by
  refine MetFree.of_bodySF (Jvm.Free.JP.mathPlain rfl (by decide +kernel)) hisR ?_
  intro p e s m args below meth c s₁ Bd hml0 hP hK
  obtain ⟨rfl, hZ, hh⟩ := hP
  have hx := Bd.exec
  have hby := Bd.bytes
  have hml : c.maxLocals = 6 := hml0
  have hown : s.vm.findClass "java/lang/Math" = some m.cls := findClass_of_methodNamed Bd.named
  have hnm := (name_of_methodNamed Bd.named Bd.method).1
  have X0 : Stand p l e ({ frames := 0, cells := 0, slots := 0, locals := 0 } : Room) s m #[(.long x1), (.long y1)] below meth c s₁ [] 0 0 := Stand.of_body Bd
  have e0 : s₁.heap = h0 := by rw [← hh, Bd.state]; rfl
  have N0 := Fr.nil n0
  have K0 := Keep.refl h0 []
  have pre0 : ∀ t, Steps p.tables e below (s₁.setTop (mkF m 0 #[.val (.long x1), .second, .val (.long y1), .second, .unset, .unset] [])) t → Steps p.tables e below (s₁.setTop (entryFrame m #[(.long x1), (.long y1)] 6)) t := fun t kt0 => castTop (own_ef4 m (x1) (y1)) kt0
  obtain ⟨fs, hr, hrun, hended, hW, hsame⟩ := X0.leave (v := some (.long (x1 + y1))) (fun h => by rw [Bd.returns] at h; cases h) (BodyLoose.notSynchronized Bd)
  refine ⟨_, _, pre0 _ ?_, hrun, hended, _, _, rfl, ?_, ⟨_, rfl⟩, hW, hsame.mono (by decide) (by decide)⟩
  · skip
    show Steps p.tables e below (s₁.setTop (mkF m 0 #[.val (.long x1), .second, .val (.long y1), .second, .unset, .unset] [])) _
    refine XS.lloadN X0.here hx rfl (hb hby own_d4_0) rfl ?_
    show Steps p.tables e below (s₁.setTop (mkF m 1 #[.val (.long x1), .second, .val (.long y1), .second, .unset, .unset] [(.long x1)])) _
    refine XS.lloadN X0.here hx rfl (hb hby own_d4_1) rfl ?_
    show Steps p.tables e below (s₁.setTop (mkF m 2 #[.val (.long x1), .second, .val (.long y1), .second, .unset, .unset] [(.long y1), (.long x1)])) _
    refine XS.ladd X0.here hx rfl (hb hby own_d4_2) rfl ?_
    show Steps p.tables e below (s₁.setTop (mkF m 3 #[.val (.long x1), .second, .val (.long y1), .second, .unset, .unset] [(.long (x1 + y1))])) _
    refine XS.lstore X0.here hx rfl (hb hby own_d4_3) rfl (l' := #[.val (.long x1), .second, .val (.long y1), .second, .val (.long (x1 + y1)), .second]) rfl ?_
    show Steps p.tables e below (s₁.setTop (mkF m 5 #[.val (.long x1), .second, .val (.long y1), .second, .val (.long (x1 + y1)), .second] [])) _
    refine XS.lloadN X0.here hx rfl (hb hby own_d4_5) rfl ?_
    show Steps p.tables e below (s₁.setTop (mkF m 6 #[.val (.long x1), .second, .val (.long y1), .second, .val (.long (x1 + y1)), .second] [(.long x1)])) _
    refine XS.lload X0.here hx rfl (hb hby own_d4_6) rfl ?_
    show Steps p.tables e below (s₁.setTop (mkF m 8 #[.val (.long x1), .second, .val (.long y1), .second, .val (.long (x1 + y1)), .second] [(.long (x1 + y1)), (.long x1)])) _
    refine XS.lxor X0.here hx rfl (hb hby own_d4_8) rfl ?_
    show Steps p.tables e below (s₁.setTop (mkF m 9 #[.val (.long x1), .second, .val (.long y1), .second, .val (.long (x1 + y1)), .second] [(.long (x1 ^^^ (x1 + y1)))])) _
    refine XS.lloadN X0.here hx rfl (hb hby own_d4_9) rfl ?_
    show Steps p.tables e below (s₁.setTop (mkF m 10 #[.val (.long x1), .second, .val (.long y1), .second, .val (.long (x1 + y1)), .second] [(.long y1), (.long (x1 ^^^ (x1 + y1)))])) _
    refine XS.lload X0.here hx rfl (hb hby own_d4_10) rfl ?_
    show Steps p.tables e below (s₁.setTop (mkF m 12 #[.val (.long x1), .second, .val (.long y1), .second, .val (.long (x1 + y1)), .second] [(.long (x1 + y1)), (.long y1), (.long (x1 ^^^ (x1 + y1)))])) _
    refine XS.lxor X0.here hx rfl (hb hby own_d4_12) rfl ?_
    show Steps p.tables e below (s₁.setTop (mkF m 13 #[.val (.long x1), .second, .val (.long y1), .second, .val (.long (x1 + y1)), .second] [(.long (y1 ^^^ (x1 + y1))), (.long (x1 ^^^ (x1 + y1)))])) _
    refine XS.land X0.here hx rfl (hb hby own_d4_13) rfl ?_
    show Steps p.tables e below (s₁.setTop (mkF m 14 #[.val (.long x1), .second, .val (.long y1), .second, .val (.long (x1 + y1)), .second] [(.long ((x1 ^^^ (x1 + y1)) &&& (y1 ^^^ (x1 + y1))))])) _
    refine XS.lconst X0.here hx rfl (hb hby own_d4_14) ?_
    show Steps p.tables e below (s₁.setTop (mkF m 15 #[.val (.long x1), .second, .val (.long y1), .second, .val (.long (x1 + y1)), .second] [(.long (0 : Int64)), (.long ((x1 ^^^ (x1 + y1)) &&& (y1 ^^^ (x1 + y1))))])) _
    refine XS.lcmp X0.here hx rfl (hb hby own_d4_15) rfl ?_
    show Steps p.tables e below (s₁.setTop (mkF m 16 #[.val (.long x1), .second, .val (.long y1), .second, .val (.long (x1 + y1)), .second] [(.int (lcmpW ((x1 ^^^ (x1 + y1)) &&& (y1 ^^^ (x1 + y1))) (0 : Int64)))])) _
    refine XS.ifYes X0.here hx rfl (pc0 := 16) (pc' := 29) rfl (hb hby own_d4_16) rfl ((if0 _ _).trans (flt (fun q => hno ((lw_lt ((x1 ^^^ (x1 + y1)) &&& (y1 ^^^ (x1 + y1))) (0 : Int64)).mp q))).2.1) (by decide) (by decide) ?_
    show Steps p.tables e below (s₁.setTop (mkF m 29 #[.val (.long x1), .second, .val (.long y1), .second, .val (.long (x1 + y1)), .second] [])) _
    refine XS.lload X0.here hx rfl (hb hby own_d4_29) rfl ?_
    show Steps p.tables e below (s₁.setTop (mkF m 31 #[.val (.long x1), .second, .val (.long y1), .second, .val (.long (x1 + y1)), .second] [(.long (x1 + y1))])) _
    exact X0.lreturnOut hx Bd.returns (hb hby own_d4_31) hr
  · show own_Q4 Z x1 y1 h0 n0 _ s₁.heap _
    rw [e0]
    exact ⟨rfl, N0, rfl⟩
theorem own_d1_0 : decode prog_205_method_1_code 0 = .ok (.aload_n 0, 1) := by decide +kernel
theorem own_d1_1 : decode prog_205_method_1_code 1 = .ok (.invokespecial 1, 3) := by decide +kernel
theorem own_d1_4 : decode prog_205_method_1_code 4 = .ok (.lload_n 3, 1) := by decide +kernel
theorem own_d1_5 : decode prog_205_method_1_code 5 = .ok (.lload 5, 2) := by decide +kernel
theorem own_d1_7 : decode prog_205_method_1_code 7 = .ok (.invokestatic 7, 3) := by decide +kernel
theorem own_d1_10 : decode prog_205_method_1_code 10 = .ok (.lload 7, 2) := by decide +kernel
theorem own_d1_12 : decode prog_205_method_1_code 12 = .ok (.invokestatic 7, 3) := by decide +kernel
theorem own_d1_15 : decode prog_205_method_1_code 15 = .ok (.pop2, 1) := by decide +kernel
theorem own_d1_16 : decode prog_205_method_1_code 16 = .ok (.goto 21, 3) := by decide +kernel
theorem own_d1_37 : decode prog_205_method_1_code 37 = .ok (.aload_n 0, 1) := by decide +kernel
theorem own_d1_38 : decode prog_205_method_1_code 38 = .ok (.lload_n 1, 1) := by decide +kernel
theorem own_d1_39 : decode prog_205_method_1_code 39 = .ok (.putfield 24, 3) := by decide +kernel
theorem own_d1_42 : decode prog_205_method_1_code 42 = .ok (.aload_n 0, 1) := by decide +kernel
theorem own_d1_43 : decode prog_205_method_1_code 43 = .ok (.lload_n 3, 1) := by decide +kernel
theorem own_d1_44 : decode prog_205_method_1_code 44 = .ok (.putfield 30, 3) := by decide +kernel
theorem own_d1_47 : decode prog_205_method_1_code 47 = .ok (.aload_n 0, 1) := by decide +kernel
theorem own_d1_48 : decode prog_205_method_1_code 48 = .ok (.lload 5, 2) := by decide +kernel
theorem own_d1_50 : decode prog_205_method_1_code 50 = .ok (.putfield 33, 3) := by decide +kernel
theorem own_d1_53 : decode prog_205_method_1_code 53 = .ok (.aload_n 0, 1) := by decide +kernel
theorem own_d1_54 : decode prog_205_method_1_code 54 = .ok (.lload 7, 2) := by decide +kernel
theorem own_d1_56 : decode prog_205_method_1_code 56 = .ok (.putfield 36, 3) := by decide +kernel
theorem own_d1_59 : decode prog_205_method_1_code 59 = .ok (.aload_n 0, 1) := by decide +kernel
theorem own_d1_60 : decode prog_205_method_1_code 60 = .ok (.lload 9, 2) := by decide +kernel
theorem own_d1_62 : decode prog_205_method_1_code 62 = .ok (.putfield 39, 3) := by decide +kernel
theorem own_d1_65 : decode prog_205_method_1_code 65 = .ok (.aload_n 0, 1) := by decide +kernel
theorem own_d1_66 : decode prog_205_method_1_code 66 = .ok (.lload 11, 2) := by decide +kernel
theorem own_d1_68 : decode prog_205_method_1_code 68 = .ok (.putfield 42, 3) := by decide +kernel
theorem own_d1_71 : decode prog_205_method_1_code 71 = .ok (.aload_n 0, 1) := by decide +kernel
theorem own_d1_72 : decode prog_205_method_1_code 72 = .ok (.lload 13, 2) := by decide +kernel
theorem own_d1_74 : decode prog_205_method_1_code 74 = .ok (.putfield 45, 3) := by decide +kernel
theorem own_d1_77 : decode prog_205_method_1_code 77 = .ok (.return_, 1) := by decide +kernel
theorem own_pn2 : plainName "com/example/slotwright/slotwright/sim/SwfRecord" = true := by first | (simp [plainName, overriddenIn]; done) | decide +kernel
theorem own_pd0 : parseMethodDescriptor "()V" = some ⟨[], none⟩ := by decide +kernel
theorem own_pd1 : parseMethodDescriptor "(JJ)J" = some ⟨[.long, .long], some .long⟩ := by decide +kernel
theorem own_ef1 (m : MethodId) (x0 : Addr) (x1 : Int64) (x2 : Int64) (x3 : Int64) (x4 : Int64) (x5 : Int64) (x6 : Int64) (x7 : Int64) : entryFrame m #[(.ref x0), (.long x1), (.long x2), (.long x3), (.long x4), (.long x5), (.long x6), (.long x7)] 16 = mkF m 0 #[.val (.ref x0), .val (.long x1), .second, .val (.long x2), .second, .val (.long x3), .second, .val (.long x4), .second, .val (.long x5), .second, .val (.long x6), .second, .val (.long x7), .second, .unset] [] := by first | (simp [entryFrame, mkF, argsToLocals, Value.category]; done) | rfl
def own_Q1 (Z : State) (a1 : Addr) (q0 : Int64) (q3 : Int64) (q4 : Int64) (q5 : Int64) (q6 : Int64) (h0 : Heap) (n0 : Nat) (v : Option Value) (h : Heap) (L : List Loc) : Prop := v = none ∧ Fr n0 L ∧ Keep h0 h [a1] ∧ Exa Z h a1 "com/example/slotwright/slotwright/sim/SwfRecord" ∧ Fld Z h a1 "com/example/slotwright/slotwright/sim/SwfRecord" "job" "J" (.long q0) ∧ Fld Z h a1 "com/example/slotwright/slotwright/sim/SwfRecord" "submitTime" "J" (.long (0 : Int64)) ∧ Fld Z h a1 "com/example/slotwright/slotwright/sim/SwfRecord" "waitTime" "J" (.long (0 : Int64)) ∧ Fld Z h a1 "com/example/slotwright/slotwright/sim/SwfRecord" "runTime" "J" (.long q3) ∧ Fld Z h a1 "com/example/slotwright/slotwright/sim/SwfRecord" "allocated" "J" (.long q4) ∧ Fld Z h a1 "com/example/slotwright/slotwright/sim/SwfRecord" "requested" "J" (.long q5) ∧ Fld Z h a1 "com/example/slotwright/slotwright/sim/SwfRecord" "requestedTime" "J" (.long q6)
set_option maxRecDepth 65536 in
set_option maxHeartbeats 40000000 in
theorem own_rm1 (l : Launch) (Z : State) (a0 : Array Value) (hw : ∀ d ∈ tables_1, d.before a0 Z = true) (ws : List Jvm.Cond) (a1 : Addr) (q0 : Int64) (q3 : Int64) (q4 : Int64) (q5 : Int64) (q6 : Int64) (h0 : Heap) (n0 : Nat) (Z0 : n0 ≤ h0.size) (E_a1 : Exa Z h0 a1 "com/example/slotwright/slotwright/sim/SwfRecord") (F_job : Fld Z h0 a1 "com/example/slotwright/slotwright/sim/SwfRecord" "job" "J" (.long (0 : Int64))) (F_submitTime : Fld Z h0 a1 "com/example/slotwright/slotwright/sim/SwfRecord" "submitTime" "J" (.long (0 : Int64))) (F_waitTime : Fld Z h0 a1 "com/example/slotwright/slotwright/sim/SwfRecord" "waitTime" "J" (.long (0 : Int64))) (F_runTime : Fld Z h0 a1 "com/example/slotwright/slotwright/sim/SwfRecord" "runTime" "J" (.long (0 : Int64))) (F_allocated : Fld Z h0 a1 "com/example/slotwright/slotwright/sim/SwfRecord" "allocated" "J" (.long (0 : Int64))) (F_requested : Fld Z h0 a1 "com/example/slotwright/slotwright/sim/SwfRecord" "requested" "J" (.long (0 : Int64))) (F_requestedTime : Fld Z h0 a1 "com/example/slotwright/slotwright/sim/SwfRecord" "requestedTime" "J" (.long (0 : Int64))) (g_a1 : n0 ≤ a1) :
    MetFree l (⟨"com/example/slotwright/slotwright/sim/SwfRecord", "<init>", "(JJJJJJJ)V"⟩ : MethodName) (head1 (Jvm.Cond.codeWith (⟨"com/example/slotwright/slotwright/sim/SwfRecord", "<init>", "(JJJJJJJ)V"⟩ : MethodName) prog_205_method_1_code 16 none [((4 : Nat), (16 : Nat), (19 : Nat), (13 : Nat))] :: ws) ({ frames := 2, cells := 0, slots := 0, locals := 24 } : Room)) (fun a U => a = #[(.ref a1), (.long q0), (.long (0 : Int64)), (.long (0 : Int64)), (.long q3), (.long q4), (.long q5), (.long q6)] ∧ Z.Warmed39 U.vm ∧ U.heap = h0) (fun _ _ _ _ _ => True) (fun _ U o U' => ∃ v L, o = .returned v ∧ own_Q1 Z a1 q0 q3 q4 q5 q6 h0 n0 v U'.heap L ∧ FrameEnd U o U' L ({ frames := 2, cells := 0, slots := 0, locals := 24 } : Room).cells ({ frames := 2, cells := 0, slots := 0, locals := 24 } : Room).slots) := by
  refine MetFree.of_bodySF (plainFor_of_name own_pn2) hisWith ?_
  intro p e s m args below meth c s₁ Bd hml0 hP hK
  obtain ⟨rfl, hZ, hh⟩ := hP
  have hx := Bd.exec
  have hby := Bd.bytes
  have hml : c.maxLocals = 16 := hml0
  have hown : s.vm.findClass "com/example/slotwright/slotwright/sim/SwfRecord" = some m.cls := findClass_of_methodNamed Bd.named
  have hnm := (name_of_methodNamed Bd.named Bd.method).1
  have X0 : Stand p l e ({ frames := 2, cells := 0, slots := 0, locals := 24 } : Room) s m #[(.ref a1), (.long q0), (.long (0 : Int64)), (.long (0 : Int64)), (.long q3), (.long q4), (.long q5), (.long q6)] below meth c s₁ [] 0 0 := Stand.of_body Bd
  have e0 : s₁.heap = h0 := by rw [← hh, Bd.state]; rfl
  have N0 := Fr.nil n0
  have K0 := Keep.refl h0 [a1]
  have pre0 : ∀ t, Steps p.tables e below (s₁.setTop (mkF m 0 #[.val (.ref a1), .val (.long q0), .second, .val (.long (0 : Int64)), .second, .val (.long (0 : Int64)), .second, .val (.long q3), .second, .val (.long q4), .second, .val (.long q5), .second, .val (.long q6), .second, .unset] [])) t → Steps p.tables e below (s₁.setTop (entryFrame m #[(.ref a1), (.long q0), (.long (0 : Int64)), (.long (0 : Int64)), (.long q3), (.long q4), (.long q5), (.long q6)] 16)) t := fun t kt0 => castTop (own_ef1 m (a1) (q0) ((0 : Int64)) ((0 : Int64)) (q3) (q4) (q5) (q6)) kt0
  obtain ⟨_, _, ⟨T1, L1, k1, n1⟩, -, X1, ⟨Lc1, hQ1, l1, y1, z1⟩, st1⟩ := X0.specialBack hx (y := (⟨"java/lang/Record", "<init>", "()V"⟩ : MethodName)) rfl hown (mvT hZ (hw _ (List.mem_of_getElem? (i := 6) rfl))) (mvT hZ (hw _ (List.mem_of_getElem? (i := 7) rfl))) (mvT hZ (hw _ (List.mem_of_getElem? (i := 10) rfl))) (by decide) (backOf (W := 0) (own_rm2 l Z a0 hw [] (a1) h0 n0 Z0 ) hZ (hw _ (List.mem_of_getElem? (i := 10) rfl)) (hw _ (List.mem_of_getElem? (i := 9) rfl)) (by decide) (by decide)) (g := (mkF m 1 #[.val (.ref a1), .val (.long q0), .second, .val (.long (0 : Int64)), .second, .val (.long (0 : Int64)), .second, .val (.long q3), .second, .val (.long q4), .second, .val (.long q5), .second, .val (.long q6), .second, .unset] [(.ref a1)])) rfl (by rw [hml]; rfl) (Steps.refl _) (a := a1) (argsL := []) (rest := []) (lenOf own_pd0 rfl) rfl (by show 2 * 0 + _ ≤ _; exact Nat.le_of_eq rfl) (hb hby own_d1_1) (fun _ _ => ⟨rfl, e0, (by decide : 0 + 0 ≤ _), (by decide : 0 + 0 ≤ _)⟩)
  dsimp only [Pt.U, Pt.locs, Pt.cells, Pt.slots] at X1 l1 y1 z1 st1 hQ1
  subst l1 y1 z1
  obtain ⟨rfl, Nq1, eq1⟩ := hQ1
  have N1 := Fr.app N0 Nq1
  obtain ⟨_, _, ⟨T2, L2, k2, n2⟩, -, X2, ⟨Lc2, hQ2, l2, y2, z2⟩, st2⟩ := Jvm.LawKit.callS X1 hx (y := (⟨"java/lang/Math", "addExact", "(JJ)J"⟩ : MethodName)) hown (mvT hZ (hw _ (List.mem_of_getElem? (i := 14) rfl))) (mvT hZ (hw _ (List.mem_of_getElem? (i := 15) rfl))) (mvT hZ (hw _ (List.mem_of_getElem? (i := 16) rfl))) (mvT hZ (hw _ (List.mem_of_getElem? (i := 17) rfl))) (by decide) (backOf (W := 0) (own_rm4 l Z a0 hw [] (0 : Int64) (0 : Int64) h0 n0 Z0 (by decide)) hZ (hw _ (List.mem_of_getElem? (i := 17) rfl)) (hw _ (List.mem_of_getElem? (i := 16) rfl)) (by decide) (by decide)) (g := (mkF m 7 #[.val (.ref a1), .val (.long q0), .second, .val (.long (0 : Int64)), .second, .val (.long (0 : Int64)), .second, .val (.long q3), .second, .val (.long q4), .second, .val (.long q5), .second, .val (.long q6), .second, .unset] [(.long (0 : Int64)), (.long (0 : Int64))])) rfl (by rw [hml]; rfl) (argsL := [(.long (0 : Int64)), (.long (0 : Int64))]) (rest := []) (lenOf own_pd1 rfl) rfl (by show 2 * 0 + _ ≤ _; exact Nat.le_of_eq rfl) (hb hby own_d1_7) (fun _ _ => ⟨rfl, eq1, (by decide : 0 + 0 ≤ _), (by decide : 0 + 0 ≤ _)⟩)
  dsimp only [Pt.U, Pt.locs, Pt.cells, Pt.slots] at X2 l2 y2 z2 st2 hQ2
  subst l2 y2 z2
  obtain ⟨rfl, Nq2, eq2⟩ := hQ2
  have N2 := Fr.app N1 Nq2
  obtain ⟨_, _, ⟨T3, L3, k3, n3⟩, -, X3, ⟨Lc3, hQ3, l3, y3, z3⟩, st3⟩ := Jvm.LawKit.callS X2 hx (y := (⟨"java/lang/Math", "addExact", "(JJ)J"⟩ : MethodName)) hown (mvT hZ (hw _ (List.mem_of_getElem? (i := 14) rfl))) (mvT hZ (hw _ (List.mem_of_getElem? (i := 15) rfl))) (mvT hZ (hw _ (List.mem_of_getElem? (i := 16) rfl))) (mvT hZ (hw _ (List.mem_of_getElem? (i := 17) rfl))) (by decide) (backOf (W := 0) (own_rm4 l Z a0 hw [] (0 : Int64) q3 h0 n0 Z0 (own_no q3)) hZ (hw _ (List.mem_of_getElem? (i := 17) rfl)) (hw _ (List.mem_of_getElem? (i := 16) rfl)) (by decide) (by decide)) (g := (mkF m 12 #[.val (.ref a1), .val (.long q0), .second, .val (.long (0 : Int64)), .second, .val (.long (0 : Int64)), .second, .val (.long q3), .second, .val (.long q4), .second, .val (.long q5), .second, .val (.long q6), .second, .unset] [(.long q3), (.long (0 : Int64))])) rfl (by rw [hml]; rfl) (argsL := [(.long (0 : Int64)), (.long q3)]) (rest := []) (lenOf own_pd1 rfl) rfl (by show 2 * 0 + _ ≤ _; exact Nat.le_of_eq rfl) (hb hby own_d1_12) (fun _ _ => ⟨rfl, eq2, (by decide : 0 + 0 ≤ _), (by decide : 0 + 0 ≤ _)⟩)
  dsimp only [Pt.U, Pt.locs, Pt.cells, Pt.slots] at X3 l3 y3 z3 st3 hQ3
  subst l3 y3 z3
  obtain ⟨rfl, Nq3, eq3⟩ := hQ3
  have N3 := Fr.app N2 Nq3
  obtain ⟨T4, h4, X4, e4, W4, st4⟩ := putF X3 hx hZ hown (host := "") (Or.inl (hw _ (List.mem_of_getElem? (i := 18) rfl))) Via.refl eq3 F_job E_a1 (Or.inr ⟨(hw _ (List.mem_of_getElem? (i := 19) rfl)), rfl, hnm⟩) (hw _ (List.mem_of_getElem? (i := 1) rfl)) (ty := .long) (by decide) rfl rfl (g := (mkF m 39 #[.val (.ref a1), .val (.long q0), .second, .val (.long (0 : Int64)), .second, .val (.long (0 : Int64)), .second, .val (.long q3), .second, .val (.long q4), .second, .val (.long q5), .second, .val (.long q6), .second, .unset] [(.long q0), (.ref a1)])) rfl rfl (hb hby own_d1_39)
  have E_a1 := E_a1.wr W4
  have F_job := F_job.same W4
  have F_submitTime := F_submitTime.other W4 (Or.inr (slot_ne (Or.inr (hw _ (List.mem_of_getElem? (i := 21) rfl))) (Or.inr (hw _ (List.mem_of_getElem? (i := 19) rfl))) (by decide) (t := .long) (t' := .long) (by decide) (by decide)))
  have F_waitTime := F_waitTime.other W4 (Or.inr (slot_ne (Or.inr (hw _ (List.mem_of_getElem? (i := 23) rfl))) (Or.inr (hw _ (List.mem_of_getElem? (i := 19) rfl))) (by decide) (t := .long) (t' := .long) (by decide) (by decide)))
  have F_runTime := F_runTime.other W4 (Or.inr (slot_ne (Or.inr (hw _ (List.mem_of_getElem? (i := 25) rfl))) (Or.inr (hw _ (List.mem_of_getElem? (i := 19) rfl))) (by decide) (t := .long) (t' := .long) (by decide) (by decide)))
  have F_allocated := F_allocated.other W4 (Or.inr (slot_ne (Or.inr (hw _ (List.mem_of_getElem? (i := 27) rfl))) (Or.inr (hw _ (List.mem_of_getElem? (i := 19) rfl))) (by decide) (t := .long) (t' := .long) (by decide) (by decide)))
  have F_requested := F_requested.other W4 (Or.inr (slot_ne (Or.inr (hw _ (List.mem_of_getElem? (i := 29) rfl))) (Or.inr (hw _ (List.mem_of_getElem? (i := 19) rfl))) (by decide) (t := .long) (t' := .long) (by decide) (by decide)))
  have F_requestedTime := F_requestedTime.other W4 (Or.inr (slot_ne (Or.inr (hw _ (List.mem_of_getElem? (i := 31) rfl))) (Or.inr (hw _ (List.mem_of_getElem? (i := 19) rfl))) (by decide) (t := .long) (t' := .long) (by decide) (by decide)))
  have K5 := K0.wr W4 (Or.inl (List.mem_of_getElem? (i := 0) rfl))
  have Z6 := Nat.le_trans Z0 (Keep.of_wr W4).1
  have N7 := Fr.snoc X4 N3 g_a1
  obtain ⟨T8, h8, X8, e8, W8, st8⟩ := putF X4 hx hZ hown (host := "") (Or.inl (hw _ (List.mem_of_getElem? (i := 20) rfl))) Via.refl e4 F_submitTime E_a1 (Or.inr ⟨(hw _ (List.mem_of_getElem? (i := 21) rfl)), rfl, hnm⟩) (hw _ (List.mem_of_getElem? (i := 1) rfl)) (ty := .long) (by decide) rfl rfl (g := (mkF m 44 #[.val (.ref a1), .val (.long q0), .second, .val (.long (0 : Int64)), .second, .val (.long (0 : Int64)), .second, .val (.long q3), .second, .val (.long q4), .second, .val (.long q5), .second, .val (.long q6), .second, .unset] [(.long (0 : Int64)), (.ref a1)])) rfl rfl (hb hby own_d1_44)
  have E_a1 := E_a1.wr W8
  have F_job := F_job.other W8 (Or.inr (slot_ne (Or.inr (hw _ (List.mem_of_getElem? (i := 19) rfl))) (Or.inr (hw _ (List.mem_of_getElem? (i := 21) rfl))) (by decide) (t := .long) (t' := .long) (by decide) (by decide)))
  have F_submitTime := F_submitTime.same W8
  have F_waitTime := F_waitTime.other W8 (Or.inr (slot_ne (Or.inr (hw _ (List.mem_of_getElem? (i := 23) rfl))) (Or.inr (hw _ (List.mem_of_getElem? (i := 21) rfl))) (by decide) (t := .long) (t' := .long) (by decide) (by decide)))
  have F_runTime := F_runTime.other W8 (Or.inr (slot_ne (Or.inr (hw _ (List.mem_of_getElem? (i := 25) rfl))) (Or.inr (hw _ (List.mem_of_getElem? (i := 21) rfl))) (by decide) (t := .long) (t' := .long) (by decide) (by decide)))
  have F_allocated := F_allocated.other W8 (Or.inr (slot_ne (Or.inr (hw _ (List.mem_of_getElem? (i := 27) rfl))) (Or.inr (hw _ (List.mem_of_getElem? (i := 21) rfl))) (by decide) (t := .long) (t' := .long) (by decide) (by decide)))
  have F_requested := F_requested.other W8 (Or.inr (slot_ne (Or.inr (hw _ (List.mem_of_getElem? (i := 29) rfl))) (Or.inr (hw _ (List.mem_of_getElem? (i := 21) rfl))) (by decide) (t := .long) (t' := .long) (by decide) (by decide)))
  have F_requestedTime := F_requestedTime.other W8 (Or.inr (slot_ne (Or.inr (hw _ (List.mem_of_getElem? (i := 31) rfl))) (Or.inr (hw _ (List.mem_of_getElem? (i := 21) rfl))) (by decide) (t := .long) (t' := .long) (by decide) (by decide)))
  have K9 := K5.wr W8 (Or.inl (List.mem_of_getElem? (i := 0) rfl))
  have Z10 := Nat.le_trans Z6 (Keep.of_wr W8).1
  have N11 := Fr.snoc X8 N7 g_a1
  obtain ⟨T12, h12, X12, e12, W12, st12⟩ := putF X8 hx hZ hown (host := "") (Or.inl (hw _ (List.mem_of_getElem? (i := 22) rfl))) Via.refl e8 F_waitTime E_a1 (Or.inr ⟨(hw _ (List.mem_of_getElem? (i := 23) rfl)), rfl, hnm⟩) (hw _ (List.mem_of_getElem? (i := 1) rfl)) (ty := .long) (by decide) rfl rfl (g := (mkF m 50 #[.val (.ref a1), .val (.long q0), .second, .val (.long (0 : Int64)), .second, .val (.long (0 : Int64)), .second, .val (.long q3), .second, .val (.long q4), .second, .val (.long q5), .second, .val (.long q6), .second, .unset] [(.long (0 : Int64)), (.ref a1)])) rfl rfl (hb hby own_d1_50)
  have E_a1 := E_a1.wr W12
  have F_job := F_job.other W12 (Or.inr (slot_ne (Or.inr (hw _ (List.mem_of_getElem? (i := 19) rfl))) (Or.inr (hw _ (List.mem_of_getElem? (i := 23) rfl))) (by decide) (t := .long) (t' := .long) (by decide) (by decide)))
  have F_submitTime := F_submitTime.other W12 (Or.inr (slot_ne (Or.inr (hw _ (List.mem_of_getElem? (i := 21) rfl))) (Or.inr (hw _ (List.mem_of_getElem? (i := 23) rfl))) (by decide) (t := .long) (t' := .long) (by decide) (by decide)))
  have F_waitTime := F_waitTime.same W12
  have F_runTime := F_runTime.other W12 (Or.inr (slot_ne (Or.inr (hw _ (List.mem_of_getElem? (i := 25) rfl))) (Or.inr (hw _ (List.mem_of_getElem? (i := 23) rfl))) (by decide) (t := .long) (t' := .long) (by decide) (by decide)))
  have F_allocated := F_allocated.other W12 (Or.inr (slot_ne (Or.inr (hw _ (List.mem_of_getElem? (i := 27) rfl))) (Or.inr (hw _ (List.mem_of_getElem? (i := 23) rfl))) (by decide) (t := .long) (t' := .long) (by decide) (by decide)))
  have F_requested := F_requested.other W12 (Or.inr (slot_ne (Or.inr (hw _ (List.mem_of_getElem? (i := 29) rfl))) (Or.inr (hw _ (List.mem_of_getElem? (i := 23) rfl))) (by decide) (t := .long) (t' := .long) (by decide) (by decide)))
  have F_requestedTime := F_requestedTime.other W12 (Or.inr (slot_ne (Or.inr (hw _ (List.mem_of_getElem? (i := 31) rfl))) (Or.inr (hw _ (List.mem_of_getElem? (i := 23) rfl))) (by decide) (t := .long) (t' := .long) (by decide) (by decide)))
  have K13 := K9.wr W12 (Or.inl (List.mem_of_getElem? (i := 0) rfl))
  have Z14 := Nat.le_trans Z10 (Keep.of_wr W12).1
  have N15 := Fr.snoc X12 N11 g_a1
  obtain ⟨T16, h16, X16, e16, W16, st16⟩ := putF X12 hx hZ hown (host := "") (Or.inl (hw _ (List.mem_of_getElem? (i := 24) rfl))) Via.refl e12 F_runTime E_a1 (Or.inr ⟨(hw _ (List.mem_of_getElem? (i := 25) rfl)), rfl, hnm⟩) (hw _ (List.mem_of_getElem? (i := 1) rfl)) (ty := .long) (by decide) rfl rfl (g := (mkF m 56 #[.val (.ref a1), .val (.long q0), .second, .val (.long (0 : Int64)), .second, .val (.long (0 : Int64)), .second, .val (.long q3), .second, .val (.long q4), .second, .val (.long q5), .second, .val (.long q6), .second, .unset] [(.long q3), (.ref a1)])) rfl rfl (hb hby own_d1_56)
  have E_a1 := E_a1.wr W16
  have F_job := F_job.other W16 (Or.inr (slot_ne (Or.inr (hw _ (List.mem_of_getElem? (i := 19) rfl))) (Or.inr (hw _ (List.mem_of_getElem? (i := 25) rfl))) (by decide) (t := .long) (t' := .long) (by decide) (by decide)))
  have F_submitTime := F_submitTime.other W16 (Or.inr (slot_ne (Or.inr (hw _ (List.mem_of_getElem? (i := 21) rfl))) (Or.inr (hw _ (List.mem_of_getElem? (i := 25) rfl))) (by decide) (t := .long) (t' := .long) (by decide) (by decide)))
  have F_waitTime := F_waitTime.other W16 (Or.inr (slot_ne (Or.inr (hw _ (List.mem_of_getElem? (i := 23) rfl))) (Or.inr (hw _ (List.mem_of_getElem? (i := 25) rfl))) (by decide) (t := .long) (t' := .long) (by decide) (by decide)))
  have F_runTime := F_runTime.same W16
  have F_allocated := F_allocated.other W16 (Or.inr (slot_ne (Or.inr (hw _ (List.mem_of_getElem? (i := 27) rfl))) (Or.inr (hw _ (List.mem_of_getElem? (i := 25) rfl))) (by decide) (t := .long) (t' := .long) (by decide) (by decide)))
  have F_requested := F_requested.other W16 (Or.inr (slot_ne (Or.inr (hw _ (List.mem_of_getElem? (i := 29) rfl))) (Or.inr (hw _ (List.mem_of_getElem? (i := 25) rfl))) (by decide) (t := .long) (t' := .long) (by decide) (by decide)))
  have F_requestedTime := F_requestedTime.other W16 (Or.inr (slot_ne (Or.inr (hw _ (List.mem_of_getElem? (i := 31) rfl))) (Or.inr (hw _ (List.mem_of_getElem? (i := 25) rfl))) (by decide) (t := .long) (t' := .long) (by decide) (by decide)))
  have K17 := K13.wr W16 (Or.inl (List.mem_of_getElem? (i := 0) rfl))
  have Z18 := Nat.le_trans Z14 (Keep.of_wr W16).1
  have N19 := Fr.snoc X16 N15 g_a1
  obtain ⟨T20, h20, X20, e20, W20, st20⟩ := putF X16 hx hZ hown (host := "") (Or.inl (hw _ (List.mem_of_getElem? (i := 26) rfl))) Via.refl e16 F_allocated E_a1 (Or.inr ⟨(hw _ (List.mem_of_getElem? (i := 27) rfl)), rfl, hnm⟩) (hw _ (List.mem_of_getElem? (i := 1) rfl)) (ty := .long) (by decide) rfl rfl (g := (mkF m 62 #[.val (.ref a1), .val (.long q0), .second, .val (.long (0 : Int64)), .second, .val (.long (0 : Int64)), .second, .val (.long q3), .second, .val (.long q4), .second, .val (.long q5), .second, .val (.long q6), .second, .unset] [(.long q4), (.ref a1)])) rfl rfl (hb hby own_d1_62)
  have E_a1 := E_a1.wr W20
  have F_job := F_job.other W20 (Or.inr (slot_ne (Or.inr (hw _ (List.mem_of_getElem? (i := 19) rfl))) (Or.inr (hw _ (List.mem_of_getElem? (i := 27) rfl))) (by decide) (t := .long) (t' := .long) (by decide) (by decide)))
  have F_submitTime := F_submitTime.other W20 (Or.inr (slot_ne (Or.inr (hw _ (List.mem_of_getElem? (i := 21) rfl))) (Or.inr (hw _ (List.mem_of_getElem? (i := 27) rfl))) (by decide) (t := .long) (t' := .long) (by decide) (by decide)))
  have F_waitTime := F_waitTime.other W20 (Or.inr (slot_ne (Or.inr (hw _ (List.mem_of_getElem? (i := 23) rfl))) (Or.inr (hw _ (List.mem_of_getElem? (i := 27) rfl))) (by decide) (t := .long) (t' := .long) (by decide) (by decide)))
  have F_runTime := F_runTime.other W20 (Or.inr (slot_ne (Or.inr (hw _ (List.mem_of_getElem? (i := 25) rfl))) (Or.inr (hw _ (List.mem_of_getElem? (i := 27) rfl))) (by decide) (t := .long) (t' := .long) (by decide) (by decide)))
  have F_allocated := F_allocated.same W20
  have F_requested := F_requested.other W20 (Or.inr (slot_ne (Or.inr (hw _ (List.mem_of_getElem? (i := 29) rfl))) (Or.inr (hw _ (List.mem_of_getElem? (i := 27) rfl))) (by decide) (t := .long) (t' := .long) (by decide) (by decide)))
  have F_requestedTime := F_requestedTime.other W20 (Or.inr (slot_ne (Or.inr (hw _ (List.mem_of_getElem? (i := 31) rfl))) (Or.inr (hw _ (List.mem_of_getElem? (i := 27) rfl))) (by decide) (t := .long) (t' := .long) (by decide) (by decide)))
  have K21 := K17.wr W20 (Or.inl (List.mem_of_getElem? (i := 0) rfl))
  have Z22 := Nat.le_trans Z18 (Keep.of_wr W20).1
  have N23 := Fr.snoc X20 N19 g_a1
  obtain ⟨T24, h24, X24, e24, W24, st24⟩ := putF X20 hx hZ hown (host := "") (Or.inl (hw _ (List.mem_of_getElem? (i := 28) rfl))) Via.refl e20 F_requested E_a1 (Or.inr ⟨(hw _ (List.mem_of_getElem? (i := 29) rfl)), rfl, hnm⟩) (hw _ (List.mem_of_getElem? (i := 1) rfl)) (ty := .long) (by decide) rfl rfl (g := (mkF m 68 #[.val (.ref a1), .val (.long q0), .second, .val (.long (0 : Int64)), .second, .val (.long (0 : Int64)), .second, .val (.long q3), .second, .val (.long q4), .second, .val (.long q5), .second, .val (.long q6), .second, .unset] [(.long q5), (.ref a1)])) rfl rfl (hb hby own_d1_68)
  have E_a1 := E_a1.wr W24
  have F_job := F_job.other W24 (Or.inr (slot_ne (Or.inr (hw _ (List.mem_of_getElem? (i := 19) rfl))) (Or.inr (hw _ (List.mem_of_getElem? (i := 29) rfl))) (by decide) (t := .long) (t' := .long) (by decide) (by decide)))
  have F_submitTime := F_submitTime.other W24 (Or.inr (slot_ne (Or.inr (hw _ (List.mem_of_getElem? (i := 21) rfl))) (Or.inr (hw _ (List.mem_of_getElem? (i := 29) rfl))) (by decide) (t := .long) (t' := .long) (by decide) (by decide)))
  have F_waitTime := F_waitTime.other W24 (Or.inr (slot_ne (Or.inr (hw _ (List.mem_of_getElem? (i := 23) rfl))) (Or.inr (hw _ (List.mem_of_getElem? (i := 29) rfl))) (by decide) (t := .long) (t' := .long) (by decide) (by decide)))
  have F_runTime := F_runTime.other W24 (Or.inr (slot_ne (Or.inr (hw _ (List.mem_of_getElem? (i := 25) rfl))) (Or.inr (hw _ (List.mem_of_getElem? (i := 29) rfl))) (by decide) (t := .long) (t' := .long) (by decide) (by decide)))
  have F_allocated := F_allocated.other W24 (Or.inr (slot_ne (Or.inr (hw _ (List.mem_of_getElem? (i := 27) rfl))) (Or.inr (hw _ (List.mem_of_getElem? (i := 29) rfl))) (by decide) (t := .long) (t' := .long) (by decide) (by decide)))
  have F_requested := F_requested.same W24
  have F_requestedTime := F_requestedTime.other W24 (Or.inr (slot_ne (Or.inr (hw _ (List.mem_of_getElem? (i := 31) rfl))) (Or.inr (hw _ (List.mem_of_getElem? (i := 29) rfl))) (by decide) (t := .long) (t' := .long) (by decide) (by decide)))
  have K25 := K21.wr W24 (Or.inl (List.mem_of_getElem? (i := 0) rfl))
  have Z26 := Nat.le_trans Z22 (Keep.of_wr W24).1
  have N27 := Fr.snoc X24 N23 g_a1
  obtain ⟨T28, h28, X28, e28, W28, st28⟩ := putF X24 hx hZ hown (host := "") (Or.inl (hw _ (List.mem_of_getElem? (i := 30) rfl))) Via.refl e24 F_requestedTime E_a1 (Or.inr ⟨(hw _ (List.mem_of_getElem? (i := 31) rfl)), rfl, hnm⟩) (hw _ (List.mem_of_getElem? (i := 1) rfl)) (ty := .long) (by decide) rfl rfl (g := (mkF m 74 #[.val (.ref a1), .val (.long q0), .second, .val (.long (0 : Int64)), .second, .val (.long (0 : Int64)), .second, .val (.long q3), .second, .val (.long q4), .second, .val (.long q5), .second, .val (.long q6), .second, .unset] [(.long q6), (.ref a1)])) rfl rfl (hb hby own_d1_74)
  have E_a1 := E_a1.wr W28
  have F_job := F_job.other W28 (Or.inr (slot_ne (Or.inr (hw _ (List.mem_of_getElem? (i := 19) rfl))) (Or.inr (hw _ (List.mem_of_getElem? (i := 31) rfl))) (by decide) (t := .long) (t' := .long) (by decide) (by decide)))
  have F_submitTime := F_submitTime.other W28 (Or.inr (slot_ne (Or.inr (hw _ (List.mem_of_getElem? (i := 21) rfl))) (Or.inr (hw _ (List.mem_of_getElem? (i := 31) rfl))) (by decide) (t := .long) (t' := .long) (by decide) (by decide)))
  have F_waitTime := F_waitTime.other W28 (Or.inr (slot_ne (Or.inr (hw _ (List.mem_of_getElem? (i := 23) rfl))) (Or.inr (hw _ (List.mem_of_getElem? (i := 31) rfl))) (by decide) (t := .long) (t' := .long) (by decide) (by decide)))
  have F_runTime := F_runTime.other W28 (Or.inr (slot_ne (Or.inr (hw _ (List.mem_of_getElem? (i := 25) rfl))) (Or.inr (hw _ (List.mem_of_getElem? (i := 31) rfl))) (by decide) (t := .long) (t' := .long) (by decide) (by decide)))
  have F_allocated := F_allocated.other W28 (Or.inr (slot_ne (Or.inr (hw _ (List.mem_of_getElem? (i := 27) rfl))) (Or.inr (hw _ (List.mem_of_getElem? (i := 31) rfl))) (by decide) (t := .long) (t' := .long) (by decide) (by decide)))
  have F_requested := F_requested.other W28 (Or.inr (slot_ne (Or.inr (hw _ (List.mem_of_getElem? (i := 29) rfl))) (Or.inr (hw _ (List.mem_of_getElem? (i := 31) rfl))) (by decide) (t := .long) (t' := .long) (by decide) (by decide)))
  have F_requestedTime := F_requestedTime.same W28
  have K29 := K25.wr W28 (Or.inl (List.mem_of_getElem? (i := 0) rfl))
  have Z30 := Nat.le_trans Z26 (Keep.of_wr W28).1
  have N31 := Fr.snoc X28 N27 g_a1
  obtain ⟨fs, hr, hrun, hended, hW, hsame⟩ := X28.leave (v := none) (fun _ => rfl) (BodyLoose.notSynchronized Bd)
  refine ⟨_, _, pre0 _ ?_, hrun, hended, _, _, rfl, ?_, ⟨_, rfl⟩, hW, hsame.mono (by decide) (by decide)⟩
  · skip
    show Steps p.tables e below (s₁.setTop (mkF m 0 #[.val (.ref a1), .val (.long q0), .second, .val (.long (0 : Int64)), .second, .val (.long (0 : Int64)), .second, .val (.long q3), .second, .val (.long q4), .second, .val (.long q5), .second, .val (.long q6), .second, .unset] [])) _
    refine XS.aloadN X0.here hx rfl (hb hby own_d1_0) rfl rfl ?_
    show Steps p.tables e below (s₁.setTop (mkF m 1 #[.val (.ref a1), .val (.long q0), .second, .val (.long (0 : Int64)), .second, .val (.long (0 : Int64)), .second, .val (.long q3), .second, .val (.long q4), .second, .val (.long q5), .second, .val (.long q6), .second, .unset] [(.ref a1)])) _
    refine st1.trans ?_
    show Steps p.tables e below (T1.setTop (mkF m 4 #[.val (.ref a1), .val (.long q0), .second, .val (.long (0 : Int64)), .second, .val (.long (0 : Int64)), .second, .val (.long q3), .second, .val (.long q4), .second, .val (.long q5), .second, .val (.long q6), .second, .unset] [])) _
    refine XS.lloadN X1.here hx rfl (hb hby own_d1_4) rfl ?_
    show Steps p.tables e below (T1.setTop (mkF m 5 #[.val (.ref a1), .val (.long q0), .second, .val (.long (0 : Int64)), .second, .val (.long (0 : Int64)), .second, .val (.long q3), .second, .val (.long q4), .second, .val (.long q5), .second, .val (.long q6), .second, .unset] [(.long (0 : Int64))])) _
    refine XS.lload X1.here hx rfl (hb hby own_d1_5) rfl ?_
    show Steps p.tables e below (T1.setTop (mkF m 7 #[.val (.ref a1), .val (.long q0), .second, .val (.long (0 : Int64)), .second, .val (.long (0 : Int64)), .second, .val (.long q3), .second, .val (.long q4), .second, .val (.long q5), .second, .val (.long q6), .second, .unset] [(.long (0 : Int64)), (.long (0 : Int64))])) _
    refine st2 _ ?_
    show Steps p.tables e below (T2.setTop (mkF m 10 #[.val (.ref a1), .val (.long q0), .second, .val (.long (0 : Int64)), .second, .val (.long (0 : Int64)), .second, .val (.long q3), .second, .val (.long q4), .second, .val (.long q5), .second, .val (.long q6), .second, .unset] [(.long (0 : Int64))])) _
    refine XS.lload X2.here hx rfl (hb hby own_d1_10) rfl ?_
    show Steps p.tables e below (T2.setTop (mkF m 12 #[.val (.ref a1), .val (.long q0), .second, .val (.long (0 : Int64)), .second, .val (.long (0 : Int64)), .second, .val (.long q3), .second, .val (.long q4), .second, .val (.long q5), .second, .val (.long q6), .second, .unset] [(.long q3), (.long (0 : Int64))])) _
    refine st3 _ ?_
    show Steps p.tables e below (T3.setTop (mkF m 15 #[.val (.ref a1), .val (.long q0), .second, .val (.long (0 : Int64)), .second, .val (.long (0 : Int64)), .second, .val (.long q3), .second, .val (.long q4), .second, .val (.long q5), .second, .val (.long q6), .second, .unset] [(.long ((0 : Int64) + q3))])) _
    jvm_step X3.here [X3.here.top, hx, (hb hby own_d1_15), Value.category]
    show Steps p.tables e below (T3.setTop (mkF m 16 #[.val (.ref a1), .val (.long q0), .second, .val (.long (0 : Int64)), .second, .val (.long (0 : Int64)), .second, .val (.long q3), .second, .val (.long q4), .second, .val (.long q5), .second, .val (.long q6), .second, .unset] [])) _
    refine XS.goto X3.here hx rfl (pc0 := 16) (pc' := 37) rfl (hb hby own_d1_16) (by decide) (by decide) ?_
    show Steps p.tables e below (T3.setTop (mkF m 37 #[.val (.ref a1), .val (.long q0), .second, .val (.long (0 : Int64)), .second, .val (.long (0 : Int64)), .second, .val (.long q3), .second, .val (.long q4), .second, .val (.long q5), .second, .val (.long q6), .second, .unset] [])) _
    refine XS.aloadN X3.here hx rfl (hb hby own_d1_37) rfl rfl ?_
    show Steps p.tables e below (T3.setTop (mkF m 38 #[.val (.ref a1), .val (.long q0), .second, .val (.long (0 : Int64)), .second, .val (.long (0 : Int64)), .second, .val (.long q3), .second, .val (.long q4), .second, .val (.long q5), .second, .val (.long q6), .second, .unset] [(.ref a1)])) _
    refine XS.lloadN X3.here hx rfl (hb hby own_d1_38) rfl ?_
    show Steps p.tables e below (T3.setTop (mkF m 39 #[.val (.ref a1), .val (.long q0), .second, .val (.long (0 : Int64)), .second, .val (.long (0 : Int64)), .second, .val (.long q3), .second, .val (.long q4), .second, .val (.long q5), .second, .val (.long q6), .second, .unset] [(.long q0), (.ref a1)])) _
    refine st4 _ ?_
    show Steps p.tables e below (T4.setTop (mkF m 42 #[.val (.ref a1), .val (.long q0), .second, .val (.long (0 : Int64)), .second, .val (.long (0 : Int64)), .second, .val (.long q3), .second, .val (.long q4), .second, .val (.long q5), .second, .val (.long q6), .second, .unset] [])) _
    refine XS.aloadN X4.here hx rfl (hb hby own_d1_42) rfl rfl ?_
    show Steps p.tables e below (T4.setTop (mkF m 43 #[.val (.ref a1), .val (.long q0), .second, .val (.long (0 : Int64)), .second, .val (.long (0 : Int64)), .second, .val (.long q3), .second, .val (.long q4), .second, .val (.long q5), .second, .val (.long q6), .second, .unset] [(.ref a1)])) _
    refine XS.lloadN X4.here hx rfl (hb hby own_d1_43) rfl ?_
    show Steps p.tables e below (T4.setTop (mkF m 44 #[.val (.ref a1), .val (.long q0), .second, .val (.long (0 : Int64)), .second, .val (.long (0 : Int64)), .second, .val (.long q3), .second, .val (.long q4), .second, .val (.long q5), .second, .val (.long q6), .second, .unset] [(.long (0 : Int64)), (.ref a1)])) _
    refine st8 _ ?_
    show Steps p.tables e below (T8.setTop (mkF m 47 #[.val (.ref a1), .val (.long q0), .second, .val (.long (0 : Int64)), .second, .val (.long (0 : Int64)), .second, .val (.long q3), .second, .val (.long q4), .second, .val (.long q5), .second, .val (.long q6), .second, .unset] [])) _
    refine XS.aloadN X8.here hx rfl (hb hby own_d1_47) rfl rfl ?_
    show Steps p.tables e below (T8.setTop (mkF m 48 #[.val (.ref a1), .val (.long q0), .second, .val (.long (0 : Int64)), .second, .val (.long (0 : Int64)), .second, .val (.long q3), .second, .val (.long q4), .second, .val (.long q5), .second, .val (.long q6), .second, .unset] [(.ref a1)])) _
    refine XS.lload X8.here hx rfl (hb hby own_d1_48) rfl ?_
    show Steps p.tables e below (T8.setTop (mkF m 50 #[.val (.ref a1), .val (.long q0), .second, .val (.long (0 : Int64)), .second, .val (.long (0 : Int64)), .second, .val (.long q3), .second, .val (.long q4), .second, .val (.long q5), .second, .val (.long q6), .second, .unset] [(.long (0 : Int64)), (.ref a1)])) _
    refine st12 _ ?_
    show Steps p.tables e below (T12.setTop (mkF m 53 #[.val (.ref a1), .val (.long q0), .second, .val (.long (0 : Int64)), .second, .val (.long (0 : Int64)), .second, .val (.long q3), .second, .val (.long q4), .second, .val (.long q5), .second, .val (.long q6), .second, .unset] [])) _
    refine XS.aloadN X12.here hx rfl (hb hby own_d1_53) rfl rfl ?_
    show Steps p.tables e below (T12.setTop (mkF m 54 #[.val (.ref a1), .val (.long q0), .second, .val (.long (0 : Int64)), .second, .val (.long (0 : Int64)), .second, .val (.long q3), .second, .val (.long q4), .second, .val (.long q5), .second, .val (.long q6), .second, .unset] [(.ref a1)])) _
    refine XS.lload X12.here hx rfl (hb hby own_d1_54) rfl ?_
    show Steps p.tables e below (T12.setTop (mkF m 56 #[.val (.ref a1), .val (.long q0), .second, .val (.long (0 : Int64)), .second, .val (.long (0 : Int64)), .second, .val (.long q3), .second, .val (.long q4), .second, .val (.long q5), .second, .val (.long q6), .second, .unset] [(.long q3), (.ref a1)])) _
    refine st16 _ ?_
    show Steps p.tables e below (T16.setTop (mkF m 59 #[.val (.ref a1), .val (.long q0), .second, .val (.long (0 : Int64)), .second, .val (.long (0 : Int64)), .second, .val (.long q3), .second, .val (.long q4), .second, .val (.long q5), .second, .val (.long q6), .second, .unset] [])) _
    refine XS.aloadN X16.here hx rfl (hb hby own_d1_59) rfl rfl ?_
    show Steps p.tables e below (T16.setTop (mkF m 60 #[.val (.ref a1), .val (.long q0), .second, .val (.long (0 : Int64)), .second, .val (.long (0 : Int64)), .second, .val (.long q3), .second, .val (.long q4), .second, .val (.long q5), .second, .val (.long q6), .second, .unset] [(.ref a1)])) _
    refine XS.lload X16.here hx rfl (hb hby own_d1_60) rfl ?_
    show Steps p.tables e below (T16.setTop (mkF m 62 #[.val (.ref a1), .val (.long q0), .second, .val (.long (0 : Int64)), .second, .val (.long (0 : Int64)), .second, .val (.long q3), .second, .val (.long q4), .second, .val (.long q5), .second, .val (.long q6), .second, .unset] [(.long q4), (.ref a1)])) _
    refine st20 _ ?_
    show Steps p.tables e below (T20.setTop (mkF m 65 #[.val (.ref a1), .val (.long q0), .second, .val (.long (0 : Int64)), .second, .val (.long (0 : Int64)), .second, .val (.long q3), .second, .val (.long q4), .second, .val (.long q5), .second, .val (.long q6), .second, .unset] [])) _
    refine XS.aloadN X20.here hx rfl (hb hby own_d1_65) rfl rfl ?_
    show Steps p.tables e below (T20.setTop (mkF m 66 #[.val (.ref a1), .val (.long q0), .second, .val (.long (0 : Int64)), .second, .val (.long (0 : Int64)), .second, .val (.long q3), .second, .val (.long q4), .second, .val (.long q5), .second, .val (.long q6), .second, .unset] [(.ref a1)])) _
    refine XS.lload X20.here hx rfl (hb hby own_d1_66) rfl ?_
    show Steps p.tables e below (T20.setTop (mkF m 68 #[.val (.ref a1), .val (.long q0), .second, .val (.long (0 : Int64)), .second, .val (.long (0 : Int64)), .second, .val (.long q3), .second, .val (.long q4), .second, .val (.long q5), .second, .val (.long q6), .second, .unset] [(.long q5), (.ref a1)])) _
    refine st24 _ ?_
    show Steps p.tables e below (T24.setTop (mkF m 71 #[.val (.ref a1), .val (.long q0), .second, .val (.long (0 : Int64)), .second, .val (.long (0 : Int64)), .second, .val (.long q3), .second, .val (.long q4), .second, .val (.long q5), .second, .val (.long q6), .second, .unset] [])) _
    refine XS.aloadN X24.here hx rfl (hb hby own_d1_71) rfl rfl ?_
    show Steps p.tables e below (T24.setTop (mkF m 72 #[.val (.ref a1), .val (.long q0), .second, .val (.long (0 : Int64)), .second, .val (.long (0 : Int64)), .second, .val (.long q3), .second, .val (.long q4), .second, .val (.long q5), .second, .val (.long q6), .second, .unset] [(.ref a1)])) _
    refine XS.lload X24.here hx rfl (hb hby own_d1_72) rfl ?_
    show Steps p.tables e below (T24.setTop (mkF m 74 #[.val (.ref a1), .val (.long q0), .second, .val (.long (0 : Int64)), .second, .val (.long (0 : Int64)), .second, .val (.long q3), .second, .val (.long q4), .second, .val (.long q5), .second, .val (.long q6), .second, .unset] [(.long q6), (.ref a1)])) _
    refine st28 _ ?_
    show Steps p.tables e below (T28.setTop (mkF m 77 #[.val (.ref a1), .val (.long q0), .second, .val (.long (0 : Int64)), .second, .val (.long (0 : Int64)), .second, .val (.long q3), .second, .val (.long q4), .second, .val (.long q5), .second, .val (.long q6), .second, .unset] [])) _
    exact X28.returnOut hx Bd.returns (hb hby own_d1_77) hr
  · show own_Q1 Z a1 q0 q3 q4 q5 q6 h0 n0 _ T28.heap _
    rw [e28]
    exact ⟨rfl, N31, K29, E_a1, F_job, F_submitTime, F_waitTime, F_runTime, F_allocated, F_requested, F_requestedTime⟩
theorem own_d5_0 : decode prog_205_method_4_code 0 = .ok (.aload_n 0, 1) := by decide +kernel
theorem own_d5_1 : decode prog_205_method_4_code 1 = .ok (.getfield 45, 3) := by decide +kernel
theorem own_d5_4 : decode prog_205_method_4_code 4 = .ok (.lconst 0, 1) := by decide +kernel
theorem own_d5_5 : decode prog_205_method_4_code 5 = .ok (.lcmp, 1) := by decide +kernel
theorem own_d5_6 : decode prog_205_method_4_code 6 = .ok (.ifCond .le 19, 3) := by decide +kernel
theorem own_d5_9 : decode prog_205_method_4_code 9 = .ok (.aload_n 0, 1) := by decide +kernel
theorem own_d5_10 : decode prog_205_method_4_code 10 = .ok (.getfield 36, 3) := by decide +kernel
theorem own_d5_13 : decode prog_205_method_4_code 13 = .ok (.aload_n 0, 1) := by decide +kernel
theorem own_d5_14 : decode prog_205_method_4_code 14 = .ok (.getfield 45, 3) := by decide +kernel
theorem own_d5_17 : decode prog_205_method_4_code 17 = .ok (.lcmp, 1) := by decide +kernel
theorem own_d5_18 : decode prog_205_method_4_code 18 = .ok (.ifCond .le 7, 3) := by decide +kernel
theorem own_d5_21 : decode prog_205_method_4_code 21 = .ok (.iconst 1, 1) := by decide +kernel
theorem own_d5_22 : decode prog_205_method_4_code 22 = .ok (.goto 4, 3) := by decide +kernel
theorem own_d5_25 : decode prog_205_method_4_code 25 = .ok (.iconst 0, 1) := by decide +kernel
theorem own_d5_26 : decode prog_205_method_4_code 26 = .ok (.ireturn, 1) := by decide +kernel
theorem own_ef5 (m : MethodId) (x0 : Addr) : entryFrame m #[(.ref x0)] 1 = mkF m 0 #[.val (.ref x0)] [] := by first | (simp [entryFrame, mkF, argsToLocals, Value.category]; done) | rfl
def own_Q5 (Z : State) (a1 : Addr) (rq : Int64) (rn : Int64) (h0 : Heap) (n0 : Nat) (v : Option Value) (h : Heap) (L : List Loc) : Prop := v = some (.int (own_over rq rn)) ∧ Fr n0 L ∧ h = h0
set_option maxRecDepth 65536 in
set_option maxHeartbeats 40000000 in
theorem own_rm5 (l : Launch) (Z : State) (a0 : Array Value) (hw : ∀ d ∈ tables_1, d.before a0 Z = true) (ws : List Jvm.Cond) (a1 : Addr) (rq : Int64) (rn : Int64) (h0 : Heap) (n0 : Nat) (Z0 : n0 ≤ h0.size) (F_q : Fld Z h0 a1 "com/example/slotwright/slotwright/sim/SwfRecord" "requestedTime" "J" (.long rq)) (F_r : Fld Z h0 a1 "com/example/slotwright/slotwright/sim/SwfRecord" "runTime" "J" (.long rn)) :
    MetFree l (⟨"com/example/slotwright/slotwright/sim/SwfRecord", "overran", "()Z"⟩ : MethodName) (head1 (Jvm.Cond.code (⟨"com/example/slotwright/slotwright/sim/SwfRecord", "overran", "()Z"⟩ : MethodName) prog_205_method_4_code 1 (some .boolean) :: ws) ({ frames := 0, cells := 0, slots := 0, locals := 0 } : Room)) (fun a U => a = #[(.ref a1)] ∧ Z.Warmed39 U.vm ∧ U.heap = h0) (fun _ _ _ _ _ => True) (fun _ U o U' => ∃ v L, o = .returned v ∧ own_Q5 Z a1 rq rn h0 n0 v U'.heap L ∧ FrameEnd U o U' L ({ frames := 0, cells := 0, slots := 0, locals := 0 } : Room).cells ({ frames := 0, cells := 0, slots := 0, locals := 0 } : Room).slots) := by
  refine MetFree.of_bodySF (plainFor_of_name own_pn2) hisR ?_
  intro p e s m args below meth c s₁ Bd hml0 hP hK
  obtain ⟨rfl, hZ, hh⟩ := hP
  have hx := Bd.exec
  have hby := Bd.bytes
  have hml : c.maxLocals = 1 := hml0
  have hown : s.vm.findClass "com/example/slotwright/slotwright/sim/SwfRecord" = some m.cls := findClass_of_methodNamed Bd.named
  have hnm := (name_of_methodNamed Bd.named Bd.method).1
  have X0 : Stand p l e ({ frames := 0, cells := 0, slots := 0, locals := 0 } : Room) s m #[(.ref a1)] below meth c s₁ [] 0 0 := Stand.of_body Bd
  have e0 : s₁.heap = h0 := by rw [← hh, Bd.state]; rfl
  have N0 := Fr.nil n0
  have K0 := Keep.refl h0 []
  have pre0 : ∀ t, Steps p.tables e below (s₁.setTop (mkF m 0 #[.val (.ref a1)] [])) t → Steps p.tables e below (s₁.setTop (entryFrame m #[(.ref a1)] 1)) t := fun t kt0 => castTop (own_ef5 m (a1)) kt0
  obtain ⟨T1, X1, e1, st1⟩ := getF X0 hx hZ hown (host := "") (Or.inl (hw _ (List.mem_of_getElem? (i := 30) rfl))) Via.refl e0 F_q (g := (mkF m 1 #[.val (.ref a1)] [(.ref a1)])) rfl rfl (hb hby own_d5_1)
  have pre2 : ∀ t, Steps p.tables e below (T1.setTop (mkF m 6 #[.val (.ref a1)] [(.int (lcmpW rq (0 : Int64)))])) t → Steps p.tables e below (s₁.setTop (entryFrame m #[(.ref a1)] 1)) t := by
    intro t kt
    refine pre0 t ?_
    show Steps p.tables e below (s₁.setTop (mkF m 0 #[.val (.ref a1)] [])) _
    refine XS.aloadN X0.here hx rfl (hb hby own_d5_0) rfl rfl ?_
    show Steps p.tables e below (s₁.setTop (mkF m 1 #[.val (.ref a1)] [(.ref a1)])) _
    refine st1 _ ?_
    show Steps p.tables e below (T1.setTop (mkF m 4 #[.val (.ref a1)] [(.long rq)])) _
    refine XS.lconst X1.here hx rfl (hb hby own_d5_4) ?_
    show Steps p.tables e below (T1.setTop (mkF m 5 #[.val (.ref a1)] [(.long (0 : Int64)), (.long rq)])) _
    refine XS.lcmp X1.here hx rfl (hb hby own_d5_5) rfl ?_
    exact kt
  by_cases hc6 : (0 : Int64) < rq
  case pos =>
    obtain ⟨T3, X3, e3, st3⟩ := getF X1 hx hZ hown (host := "") (Or.inl (hw _ (List.mem_of_getElem? (i := 24) rfl))) Via.refl e1 F_r (g := (mkF m 10 #[.val (.ref a1)] [(.ref a1)])) rfl rfl (hb hby own_d5_10)
    obtain ⟨T4, X4, e4, st4⟩ := getF X3 hx hZ hown (host := "") (Or.inl (hw _ (List.mem_of_getElem? (i := 30) rfl))) Via.refl e3 F_q (g := (mkF m 14 #[.val (.ref a1)] [(.ref a1), (.long rn)])) rfl rfl (hb hby own_d5_14)
    have pre5 : ∀ t, Steps p.tables e below (T4.setTop (mkF m 18 #[.val (.ref a1)] [(.int (lcmpW rn rq))])) t → Steps p.tables e below (s₁.setTop (entryFrame m #[(.ref a1)] 1)) t := by
      intro t kt
      refine pre2 t ?_
      show Steps p.tables e below (T1.setTop (mkF m 6 #[.val (.ref a1)] [(.int (lcmpW rq (0 : Int64)))])) _
      refine XS.ifNo X1.here hx rfl (hb hby own_d5_6) rfl ((if0 _ _).trans (tlt ((lw_gt rq (0 : Int64)).mpr hc6)).2.2.2) ?_
      show Steps p.tables e below (T1.setTop (mkF m 9 #[.val (.ref a1)] [])) _
      refine XS.aloadN X1.here hx rfl (hb hby own_d5_9) rfl rfl ?_
      show Steps p.tables e below (T1.setTop (mkF m 10 #[.val (.ref a1)] [(.ref a1)])) _
      refine st3 _ ?_
      show Steps p.tables e below (T3.setTop (mkF m 13 #[.val (.ref a1)] [(.long rn)])) _
      refine XS.aloadN X3.here hx rfl (hb hby own_d5_13) rfl rfl ?_
      show Steps p.tables e below (T3.setTop (mkF m 14 #[.val (.ref a1)] [(.ref a1), (.long rn)])) _
      refine st4 _ ?_
      show Steps p.tables e below (T4.setTop (mkF m 17 #[.val (.ref a1)] [(.long rq), (.long rn)])) _
      refine XS.lcmp X4.here hx rfl (hb hby own_d5_17) rfl ?_
      exact kt
    by_cases hc18 : rq < rn
    case pos =>
      obtain ⟨fs, hr, hrun, hended, hW, hsame⟩ := X4.leave (v := some (.int (1 : Int32))) (fun h => by rw [Bd.returns] at h; cases h) (BodyLoose.notSynchronized Bd)
      refine ⟨_, _, pre5 _ ?_, hrun, hended, _, _, rfl, ?_, ⟨_, rfl⟩, hW, hsame.mono (by decide) (by decide)⟩
      · skip
        show Steps p.tables e below (T4.setTop (mkF m 18 #[.val (.ref a1)] [(.int (lcmpW rn rq))])) _
        refine XS.ifNo X4.here hx rfl (hb hby own_d5_18) rfl ((if0 _ _).trans (tlt ((lw_gt rn rq).mpr hc18)).2.2.2) ?_
        show Steps p.tables e below (T4.setTop (mkF m 21 #[.val (.ref a1)] [])) _
        refine XS.iconst X4.here hx rfl (hb hby own_d5_21) ?_
        show Steps p.tables e below (T4.setTop (mkF m 22 #[.val (.ref a1)] [(.int (1 : Int32))])) _
        refine XS.goto X4.here hx rfl (pc0 := 22) (pc' := 26) rfl (hb hby own_d5_22) (by decide) (by decide) ?_
        show Steps p.tables e below (T4.setTop (mkF m 26 #[.val (.ref a1)] [(.int (1 : Int32))])) _
        exact retN X4 hx (t := .boolean) Bd.returns (by simp) (hb hby own_d5_26) hr
      · show own_Q5 Z a1 rq rn h0 n0 _ T4.heap _
        rw [e4]
        refine ⟨?_, N0, rfl⟩
        simp [own_over, hc6, hc18]
    case neg =>
      obtain ⟨fs, hr, hrun, hended, hW, hsame⟩ := X4.leave (v := some (.int (0 : Int32))) (fun h => by rw [Bd.returns] at h; cases h) (BodyLoose.notSynchronized Bd)
      refine ⟨_, _, pre5 _ ?_, hrun, hended, _, _, rfl, ?_, ⟨_, rfl⟩, hW, hsame.mono (by decide) (by decide)⟩
      · skip
        show Steps p.tables e below (T4.setTop (mkF m 18 #[.val (.ref a1)] [(.int (lcmpW rn rq))])) _
        refine XS.ifYes X4.here hx rfl (pc0 := 18) (pc' := 25) rfl (hb hby own_d5_18) rfl ((if0 _ _).trans (flt (fun q => hc18 ((lw_gt rn rq).mp q))).2.2.2) (by decide) (by decide) ?_
        show Steps p.tables e below (T4.setTop (mkF m 25 #[.val (.ref a1)] [])) _
        refine XS.iconst X4.here hx rfl (hb hby own_d5_25) ?_
        show Steps p.tables e below (T4.setTop (mkF m 26 #[.val (.ref a1)] [(.int (0 : Int32))])) _
        exact retN X4 hx (t := .boolean) Bd.returns (by simp) (hb hby own_d5_26) hr
      · show own_Q5 Z a1 rq rn h0 n0 _ T4.heap _
        rw [e4]
        refine ⟨?_, N0, rfl⟩
        simp [own_over, hc6, hc18]
  case neg =>
    obtain ⟨fs, hr, hrun, hended, hW, hsame⟩ := X1.leave (v := some (.int (0 : Int32))) (fun h => by rw [Bd.returns] at h; cases h) (BodyLoose.notSynchronized Bd)
    refine ⟨_, _, pre2 _ ?_, hrun, hended, _, _, rfl, ?_, ⟨_, rfl⟩, hW, hsame.mono (by decide) (by decide)⟩
    · skip
      show Steps p.tables e below (T1.setTop (mkF m 6 #[.val (.ref a1)] [(.int (lcmpW rq (0 : Int64)))])) _
      refine XS.ifYes X1.here hx rfl (pc0 := 6) (pc' := 25) rfl (hb hby own_d5_6) rfl ((if0 _ _).trans (flt (fun q => hc6 ((lw_gt rq (0 : Int64)).mp q))).2.2.2) (by decide) (by decide) ?_
      show Steps p.tables e below (T1.setTop (mkF m 25 #[.val (.ref a1)] [])) _
      refine XS.iconst X1.here hx rfl (hb hby own_d5_25) ?_
      show Steps p.tables e below (T1.setTop (mkF m 26 #[.val (.ref a1)] [(.int (0 : Int32))])) _
      exact retN X1 hx (t := .boolean) Bd.returns (by simp) (hb hby own_d5_26) hr
    · show own_Q5 Z a1 rq rn h0 n0 _ T1.heap _
      rw [e1]
      refine ⟨?_, N0, rfl⟩
      simp [own_over, hc6]
theorem own_d6_0 : decode prog_205_method_3_code 0 = .ok (.aload_n 0, 1) := by decide +kernel
theorem own_d6_1 : decode prog_205_method_3_code 1 = .ok (.getfield 45, 3) := by decide +kernel
theorem own_d6_4 : decode prog_205_method_3_code 4 = .ok (.lconst 0, 1) := by decide +kernel
theorem own_d6_5 : decode prog_205_method_3_code 5 = .ok (.lcmp, 1) := by decide +kernel
theorem own_d6_6 : decode prog_205_method_3_code 6 = .ok (.ifCond .le 10, 3) := by decide +kernel
theorem own_d6_9 : decode prog_205_method_3_code 9 = .ok (.aload_n 0, 1) := by decide +kernel
theorem own_d6_10 : decode prog_205_method_3_code 10 = .ok (.getfield 45, 3) := by decide +kernel
theorem own_d6_13 : decode prog_205_method_3_code 13 = .ok (.goto 7, 3) := by decide +kernel
theorem own_d6_16 : decode prog_205_method_3_code 16 = .ok (.aload_n 0, 1) := by decide +kernel
theorem own_d6_17 : decode prog_205_method_3_code 17 = .ok (.getfield 36, 3) := by decide +kernel
theorem own_d6_20 : decode prog_205_method_3_code 20 = .ok (.lreturn, 1) := by decide +kernel
theorem own_ef6 (m : MethodId) (x0 : Addr) : entryFrame m #[(.ref x0)] 1 = mkF m 0 #[.val (.ref x0)] [] := by first | (simp [entryFrame, mkF, argsToLocals, Value.category]; done) | rfl
def own_Q6 (Z : State) (a1 : Addr) (rq : Int64) (rn : Int64) (h0 : Heap) (n0 : Nat) (v : Option Value) (h : Heap) (L : List Loc) : Prop := v = some (.long (own_est rq rn)) ∧ Fr n0 L ∧ h = h0
set_option maxRecDepth 65536 in
set_option maxHeartbeats 40000000 in
theorem own_rm6 (l : Launch) (Z : State) (a0 : Array Value) (hw : ∀ d ∈ tables_1, d.before a0 Z = true) (ws : List Jvm.Cond) (a1 : Addr) (rq : Int64) (rn : Int64) (h0 : Heap) (n0 : Nat) (Z0 : n0 ≤ h0.size) (F_q : Fld Z h0 a1 "com/example/slotwright/slotwright/sim/SwfRecord" "requestedTime" "J" (.long rq)) (F_r : Fld Z h0 a1 "com/example/slotwright/slotwright/sim/SwfRecord" "runTime" "J" (.long rn)) :
    MetFree l (⟨"com/example/slotwright/slotwright/sim/SwfRecord", "estimate", "()J"⟩ : MethodName) (head1 (Jvm.Cond.code (⟨"com/example/slotwright/slotwright/sim/SwfRecord", "estimate", "()J"⟩ : MethodName) prog_205_method_3_code 1 (some .long) :: ws) ({ frames := 0, cells := 0, slots := 0, locals := 0 } : Room)) (fun a U => a = #[(.ref a1)] ∧ Z.Warmed39 U.vm ∧ U.heap = h0) (fun _ _ _ _ _ => True) (fun _ U o U' => ∃ v L, o = .returned v ∧ own_Q6 Z a1 rq rn h0 n0 v U'.heap L ∧ FrameEnd U o U' L ({ frames := 0, cells := 0, slots := 0, locals := 0 } : Room).cells ({ frames := 0, cells := 0, slots := 0, locals := 0 } : Room).slots) := by
  refine MetFree.of_bodySF (plainFor_of_name own_pn2) hisR ?_
  intro p e s m args below meth c s₁ Bd hml0 hP hK
  obtain ⟨rfl, hZ, hh⟩ := hP
  have hx := Bd.exec
  have hby := Bd.bytes
  have hml : c.maxLocals = 1 := hml0
  have hown : s.vm.findClass "com/example/slotwright/slotwright/sim/SwfRecord" = some m.cls := findClass_of_methodNamed Bd.named
  have hnm := (name_of_methodNamed Bd.named Bd.method).1
  have X0 : Stand p l e ({ frames := 0, cells := 0, slots := 0, locals := 0 } : Room) s m #[(.ref a1)] below meth c s₁ [] 0 0 := Stand.of_body Bd
  have e0 : s₁.heap = h0 := by rw [← hh, Bd.state]; rfl
  have N0 := Fr.nil n0
  have K0 := Keep.refl h0 []
  have pre0 : ∀ t, Steps p.tables e below (s₁.setTop (mkF m 0 #[.val (.ref a1)] [])) t → Steps p.tables e below (s₁.setTop (entryFrame m #[(.ref a1)] 1)) t := fun t kt0 => castTop (own_ef6 m (a1)) kt0
  obtain ⟨T1, X1, e1, st1⟩ := getF X0 hx hZ hown (host := "") (Or.inl (hw _ (List.mem_of_getElem? (i := 30) rfl))) Via.refl e0 F_q (g := (mkF m 1 #[.val (.ref a1)] [(.ref a1)])) rfl rfl (hb hby own_d6_1)
  have pre2 : ∀ t, Steps p.tables e below (T1.setTop (mkF m 6 #[.val (.ref a1)] [(.int (lcmpW rq (0 : Int64)))])) t → Steps p.tables e below (s₁.setTop (entryFrame m #[(.ref a1)] 1)) t := by
    intro t kt
    refine pre0 t ?_
    show Steps p.tables e below (s₁.setTop (mkF m 0 #[.val (.ref a1)] [])) _
    refine XS.aloadN X0.here hx rfl (hb hby own_d6_0) rfl rfl ?_
    show Steps p.tables e below (s₁.setTop (mkF m 1 #[.val (.ref a1)] [(.ref a1)])) _
    refine st1 _ ?_
    show Steps p.tables e below (T1.setTop (mkF m 4 #[.val (.ref a1)] [(.long rq)])) _
    refine XS.lconst X1.here hx rfl (hb hby own_d6_4) ?_
    show Steps p.tables e below (T1.setTop (mkF m 5 #[.val (.ref a1)] [(.long (0 : Int64)), (.long rq)])) _
    refine XS.lcmp X1.here hx rfl (hb hby own_d6_5) rfl ?_
    exact kt
  by_cases hc6 : (0 : Int64) < rq
  case pos =>
    obtain ⟨T3, X3, e3, st3⟩ := getF X1 hx hZ hown (host := "") (Or.inl (hw _ (List.mem_of_getElem? (i := 30) rfl))) Via.refl e1 F_q (g := (mkF m 10 #[.val (.ref a1)] [(.ref a1)])) rfl rfl (hb hby own_d6_10)
    obtain ⟨fs, hr, hrun, hended, hW, hsame⟩ := X3.leave (v := some (.long rq)) (fun h => by rw [Bd.returns] at h; cases h) (BodyLoose.notSynchronized Bd)
    refine ⟨_, _, pre2 _ ?_, hrun, hended, _, _, rfl, ?_, ⟨_, rfl⟩, hW, hsame.mono (by decide) (by decide)⟩
    · skip
      show Steps p.tables e below (T1.setTop (mkF m 6 #[.val (.ref a1)] [(.int (lcmpW rq (0 : Int64)))])) _
      refine XS.ifNo X1.here hx rfl (hb hby own_d6_6) rfl ((if0 _ _).trans (tlt ((lw_gt rq (0 : Int64)).mpr hc6)).2.2.2) ?_
      show Steps p.tables e below (T1.setTop (mkF m 9 #[.val (.ref a1)] [])) _
      refine XS.aloadN X1.here hx rfl (hb hby own_d6_9) rfl rfl ?_
      show Steps p.tables e below (T1.setTop (mkF m 10 #[.val (.ref a1)] [(.ref a1)])) _
      refine st3 _ ?_
      show Steps p.tables e below (T3.setTop (mkF m 13 #[.val (.ref a1)] [(.long rq)])) _
      refine XS.goto X3.here hx rfl (pc0 := 13) (pc' := 20) rfl (hb hby own_d6_13) (by decide) (by decide) ?_
      show Steps p.tables e below (T3.setTop (mkF m 20 #[.val (.ref a1)] [(.long rq)])) _
      exact X3.lreturnOut hx Bd.returns (hb hby own_d6_20) hr
    · show own_Q6 Z a1 rq rn h0 n0 _ T3.heap _
      rw [e3]
      refine ⟨?_, N0, rfl⟩
      simp [own_est, hc6]
  case neg =>
    obtain ⟨T4, X4, e4, st4⟩ := getF X1 hx hZ hown (host := "") (Or.inl (hw _ (List.mem_of_getElem? (i := 24) rfl))) Via.refl e1 F_r (g := (mkF m 17 #[.val (.ref a1)] [(.ref a1)])) rfl rfl (hb hby own_d6_17)
    obtain ⟨fs, hr, hrun, hended, hW, hsame⟩ := X4.leave (v := some (.long rn)) (fun h => by rw [Bd.returns] at h; cases h) (BodyLoose.notSynchronized Bd)
    refine ⟨_, _, pre2 _ ?_, hrun, hended, _, _, rfl, ?_, ⟨_, rfl⟩, hW, hsame.mono (by decide) (by decide)⟩
    · skip
      show Steps p.tables e below (T1.setTop (mkF m 6 #[.val (.ref a1)] [(.int (lcmpW rq (0 : Int64)))])) _
      refine XS.ifYes X1.here hx rfl (pc0 := 6) (pc' := 16) rfl (hb hby own_d6_6) rfl ((if0 _ _).trans (flt (fun q => hc6 ((lw_gt rq (0 : Int64)).mp q))).2.2.2) (by decide) (by decide) ?_
      show Steps p.tables e below (T1.setTop (mkF m 16 #[.val (.ref a1)] [])) _
      refine XS.aloadN X1.here hx rfl (hb hby own_d6_16) rfl rfl ?_
      show Steps p.tables e below (T1.setTop (mkF m 17 #[.val (.ref a1)] [(.ref a1)])) _
      refine st4 _ ?_
      show Steps p.tables e below (T4.setTop (mkF m 20 #[.val (.ref a1)] [(.long rn)])) _
      exact X4.lreturnOut hx Bd.returns (hb hby own_d6_20) hr
    · show own_Q6 Z a1 rq rn h0 n0 _ T4.heap _
      rw [e4]
      refine ⟨?_, N0, rfl⟩
      simp [own_est, hc6]
theorem own_pn3 : plainName "com/example/slotwright/slotwright/sim/SwfRecordOverranPinLaw" = true := by first | (simp [plainName, overriddenIn]; done) | decide +kernel
theorem own_pd2 : parseMethodDescriptor "(JJJJJJJ)V" = some ⟨[.long, .long, .long, .long, .long, .long, .long], none⟩ := by decide +kernel
theorem own_pd3 : parseMethodDescriptor "()Z" = some ⟨[], some .boolean⟩ := by decide +kernel
theorem own_pd4 : parseMethodDescriptor "()J" = some ⟨[], some .long⟩ := by decide +kernel
theorem own_ef0 (m : MethodId) (x0 : Int64) (x1 : Int64) (x2 : Int32) (x3 : Int64) (x4 : Int64) (x5 : Int64) : entryFrame m #[(.long x0), (.long x1), (.int x2), (.long x3), (.long x4), (.long x5)] maxLocals = mkF m 0 #[.val (.long x0), .second, .val (.long x1), .second, .val (.int x2), .val (.long x3), .second, .val (.long x4), .second, .val (.long x5), .second, .unset, .unset, .unset, .unset, .unset, .unset, .unset] [] := by first | (simp [entryFrame, mkF, argsToLocals, Value.category, maxLocals]; done) | rfl
def own_Q0 (Z : State) (a1 : Int64) (a2 : Int64) (a3 : Int32) (a4 : Int64) (a5 : Int64) (a6 : Int64) (h0 : Heap) (n0 : Nat) (v : Option Value) (h : Heap) (L : List Loc) : Prop := v = some (.int 1) ∧ Fr n0 L
set_option maxRecDepth 65536 in
set_option maxHeartbeats 40000000 in
theorem own_rm0 (l : Launch) (Z : State) (a0 : Array Value) (hw : ∀ d ∈ tables_1, d.before a0 Z = true) (ws : List Jvm.Cond) (a1 : Int64) (a2 : Int64) (a3 : Int32) (a4 : Int64) (a5 : Int64) (a6 : Int64) (h0 : Heap) (n0 : Nat) (Z0 : n0 ≤ h0.size) :
    MetFree l x (head1 (Jvm.Cond.code x code maxLocals ret :: ws) room_1) (fun a U => a = #[(.long a1), (.long a2), (.int a3), (.long a4), (.long a5), (.long a6)] ∧ Z.Warmed39 U.vm ∧ U.heap = h0) (fun _ _ _ _ _ => True) (fun _ U o U' => ∃ v L, o = .returned v ∧ own_Q0 Z a1 a2 a3 a4 a5 a6 h0 n0 v U'.heap L ∧ FrameEnd U o U' L room_1.cells room_1.slots) := by
  refine MetFree.of_bodySF (plainFor_of_name own_pn3) hisR ?_
  intro p e s m args below meth c s₁ Bd hml0 hP hK
  obtain ⟨rfl, hZ, hh⟩ := hP
  have hx := Bd.exec
  have hby := Bd.bytes
  have hml : c.maxLocals = 18 := hml0
  have hown : s.vm.findClass "com/example/slotwright/slotwright/sim/SwfRecordOverranPinLaw" = some m.cls := findClass_of_methodNamed Bd.named
  have hnm := (name_of_methodNamed Bd.named Bd.method).1
  have X0 : Stand p l e room_1 s m #[(.long a1), (.long a2), (.int a3), (.long a4), (.long a5), (.long a6)] below meth c s₁ [] 0 0 := Stand.of_body Bd
  have e0 : s₁.heap = h0 := by rw [← hh, Bd.state]; rfl
  have N0 := Fr.nil n0
  have K0 := Keep.refl h0 []
  have pre0 : ∀ t, Steps p.tables e below (s₁.setTop (mkF m 0 #[.val (.long a1), .second, .val (.long a2), .second, .val (.int a3), .val (.long a4), .second, .val (.long a5), .second, .val (.long a6), .second, .unset, .unset, .unset, .unset, .unset, .unset, .unset] [])) t → Steps p.tables e below (s₁.setTop (entryFrame m #[(.long a1), (.long a2), (.int a3), (.long a4), (.long a5), (.long a6)] maxLocals)) t := fun t kt0 => castTop (own_ef0 m (a1) (a2) (a3) (a4) (a5) (a6)) kt0
  have pre1 : ∀ t, Steps p.tables e below (s₁.setTop (mkF m 12 #[.val (.long a1), .second, .val (.long a2), .second, .val (.int a3), .val (.long a4), .second, .val (.long a5), .second, .val (.long a6), .second, .val (.long a2), .second, .val (.int (a3 &&& (3 : Int32))), .unset, .unset, .unset, .unset] [(.int (1 : Int32)), (.int (a3 &&& (3 : Int32)))])) t → Steps p.tables e below (s₁.setTop (entryFrame m #[(.long a1), (.long a2), (.int a3), (.long a4), (.long a5), (.long a6)] maxLocals)) t := by
    intro t kt
    refine pre0 t ?_
    show Steps p.tables e below (s₁.setTop (mkF m 0 #[.val (.long a1), .second, .val (.long a2), .second, .val (.int a3), .val (.long a4), .second, .val (.long a5), .second, .val (.long a6), .second, .unset, .unset, .unset, .unset, .unset, .unset, .unset] [])) _
    refine XS.lloadN X0.here hx rfl (hb hby at_0) rfl ?_
    show Steps p.tables e below (s₁.setTop (mkF m 1 #[.val (.long a1), .second, .val (.long a2), .second, .val (.int a3), .val (.long a4), .second, .val (.long a5), .second, .val (.long a6), .second, .unset, .unset, .unset, .unset, .unset, .unset, .unset] [(.long a2)])) _
    refine XS.lstore X0.here hx rfl (hb hby at_1) rfl (l' := #[.val (.long a1), .second, .val (.long a2), .second, .val (.int a3), .val (.long a4), .second, .val (.long a5), .second, .val (.long a6), .second, .val (.long a2), .second, .unset, .unset, .unset, .unset, .unset]) rfl ?_
    show Steps p.tables e below (s₁.setTop (mkF m 3 #[.val (.long a1), .second, .val (.long a2), .second, .val (.int a3), .val (.long a4), .second, .val (.long a5), .second, .val (.long a6), .second, .val (.long a2), .second, .unset, .unset, .unset, .unset, .unset] [])) _
    refine XS.iload X0.here hx rfl (hb hby at_3) rfl ?_
    show Steps p.tables e below (s₁.setTop (mkF m 5 #[.val (.long a1), .second, .val (.long a2), .second, .val (.int a3), .val (.long a4), .second, .val (.long a5), .second, .val (.long a6), .second, .val (.long a2), .second, .unset, .unset, .unset, .unset, .unset] [(.int a3)])) _
    refine XS.iconst X0.here hx rfl (hb hby at_5) ?_
    show Steps p.tables e below (s₁.setTop (mkF m 6 #[.val (.long a1), .second, .val (.long a2), .second, .val (.int a3), .val (.long a4), .second, .val (.long a5), .second, .val (.long a6), .second, .val (.long a2), .second, .unset, .unset, .unset, .unset, .unset] [(.int (3 : Int32)), (.int a3)])) _
    refine XS.iand X0.here hx rfl (hb hby at_6) rfl ?_
    show Steps p.tables e below (s₁.setTop (mkF m 7 #[.val (.long a1), .second, .val (.long a2), .second, .val (.int a3), .val (.long a4), .second, .val (.long a5), .second, .val (.long a6), .second, .val (.long a2), .second, .unset, .unset, .unset, .unset, .unset] [(.int (a3 &&& (3 : Int32)))])) _
    refine XS.istore X0.here hx rfl (hb hby at_7) rfl (l' := #[.val (.long a1), .second, .val (.long a2), .second, .val (.int a3), .val (.long a4), .second, .val (.long a5), .second, .val (.long a6), .second, .val (.long a2), .second, .val (.int (a3 &&& (3 : Int32))), .unset, .unset, .unset, .unset]) rfl ?_
    show Steps p.tables e below (s₁.setTop (mkF m 9 #[.val (.long a1), .second, .val (.long a2), .second, .val (.int a3), .val (.long a4), .second, .val (.long a5), .second, .val (.long a6), .second, .val (.long a2), .second, .val (.int (a3 &&& (3 : Int32))), .unset, .unset, .unset, .unset] [])) _
    refine XS.iload X0.here hx rfl (hb hby at_9) rfl ?_
    show Steps p.tables e below (s₁.setTop (mkF m 11 #[.val (.long a1), .second, .val (.long a2), .second, .val (.int a3), .val (.long a4), .second, .val (.long a5), .second, .val (.long a6), .second, .val (.long a2), .second, .val (.int (a3 &&& (3 : Int32))), .unset, .unset, .unset, .unset] [(.int (a3 &&& (3 : Int32)))])) _
    refine XS.iconst X0.here hx rfl (hb hby at_11) ?_
    exact kt
  obtain ⟨T2, Lc2, rr, X2, e2, N2, hp2, pre2⟩ : ∃ (T2 : State) (Lc2 : List Loc) (rr : Int64), Stand p l e room_1 s m #[(.long a1), (.long a2), (.int a3), (.long a4), (.long a5), (.long a6)] below meth c T2 Lc2 0 0 ∧ T2.heap = h0 ∧ Fr n0 Lc2 ∧ (True) ∧ ∀ t, Steps p.tables e below (T2.setTop (mkF m 46 #[.val (.long a1), .second, .val (.long a2), .second, .val (.int a3), .val (.long a4), .second, .val (.long a5), .second, .val (.long a6), .second, .val (.long rr), .second, .val (.int (a3 &&& (3 : Int32))), .unset, .unset, .unset, .unset] [])) t → Steps p.tables e below (s₁.setTop (entryFrame m #[(.long a1), (.long a2), (.int a3), (.long a4), (.long a5), (.long a6)] maxLocals)) t := by
    by_cases hc12 : (a3 &&& (3 : Int32)) = (1 : Int32)
    case pos =>
      have pre3 : ∀ t, Steps p.tables e below (s₁.setTop (mkF m 46 #[.val (.long a1), .second, .val (.long a2), .second, .val (.int a3), .val (.long a4), .second, .val (.long a5), .second, .val (.long a6), .second, .val (.long a1), .second, .val (.int (a3 &&& (3 : Int32))), .unset, .unset, .unset, .unset] [])) t → Steps p.tables e below (s₁.setTop (entryFrame m #[(.long a1), (.long a2), (.int a3), (.long a4), (.long a5), (.long a6)] maxLocals)) t := by
        intro t kt
        refine pre1 t ?_
        show Steps p.tables e below (s₁.setTop (mkF m 12 #[.val (.long a1), .second, .val (.long a2), .second, .val (.int a3), .val (.long a4), .second, .val (.long a5), .second, .val (.long a6), .second, .val (.long a2), .second, .val (.int (a3 &&& (3 : Int32))), .unset, .unset, .unset, .unset] [(.int (1 : Int32)), (.int (a3 &&& (3 : Int32)))])) _
        refine XS.icmpNo X0.here hx rfl (hb hby at_12) rfl (teq hc12).2 ?_
        show Steps p.tables e below (s₁.setTop (mkF m 15 #[.val (.long a1), .second, .val (.long a2), .second, .val (.int a3), .val (.long a4), .second, .val (.long a5), .second, .val (.long a6), .second, .val (.long a2), .second, .val (.int (a3 &&& (3 : Int32))), .unset, .unset, .unset, .unset] [])) _
        refine XS.lloadN X0.here hx rfl (hb hby at_15) rfl ?_
        show Steps p.tables e below (s₁.setTop (mkF m 16 #[.val (.long a1), .second, .val (.long a2), .second, .val (.int a3), .val (.long a4), .second, .val (.long a5), .second, .val (.long a6), .second, .val (.long a2), .second, .val (.int (a3 &&& (3 : Int32))), .unset, .unset, .unset, .unset] [(.long a1)])) _
        refine XS.lstore X0.here hx rfl (hb hby at_16) rfl (l' := #[.val (.long a1), .second, .val (.long a2), .second, .val (.int a3), .val (.long a4), .second, .val (.long a5), .second, .val (.long a6), .second, .val (.long a1), .second, .val (.int (a3 &&& (3 : Int32))), .unset, .unset, .unset, .unset]) rfl ?_
        show Steps p.tables e below (s₁.setTop (mkF m 18 #[.val (.long a1), .second, .val (.long a2), .second, .val (.int a3), .val (.long a4), .second, .val (.long a5), .second, .val (.long a6), .second, .val (.long a1), .second, .val (.int (a3 &&& (3 : Int32))), .unset, .unset, .unset, .unset] [])) _
        refine XS.goto X0.here hx rfl (pc0 := 18) (pc' := 46) rfl (hb hby at_18) (by decide) (by decide) ?_
        exact kt
      exact ⟨s₁, _, a1, X0, e0, N0, trivial, pre3⟩
    case neg =>
      have pre4 : ∀ t, Steps p.tables e below (s₁.setTop (mkF m 24 #[.val (.long a1), .second, .val (.long a2), .second, .val (.int a3), .val (.long a4), .second, .val (.long a5), .second, .val (.long a6), .second, .val (.long a2), .second, .val (.int (a3 &&& (3 : Int32))), .unset, .unset, .unset, .unset] [(.int (2 : Int32)), (.int (a3 &&& (3 : Int32)))])) t → Steps p.tables e below (s₁.setTop (entryFrame m #[(.long a1), (.long a2), (.int a3), (.long a4), (.long a5), (.long a6)] maxLocals)) t := by
        intro t kt
        refine pre1 t ?_
        show Steps p.tables e below (s₁.setTop (mkF m 12 #[.val (.long a1), .second, .val (.long a2), .second, .val (.int a3), .val (.long a4), .second, .val (.long a5), .second, .val (.long a6), .second, .val (.long a2), .second, .val (.int (a3 &&& (3 : Int32))), .unset, .unset, .unset, .unset] [(.int (1 : Int32)), (.int (a3 &&& (3 : Int32)))])) _
        refine XS.icmpYes X0.here hx rfl (pc0 := 12) (pc' := 21) rfl (hb hby at_12) rfl (feq hc12).2 (by decide) (by decide) ?_
        show Steps p.tables e below (s₁.setTop (mkF m 21 #[.val (.long a1), .second, .val (.long a2), .second, .val (.int a3), .val (.long a4), .second, .val (.long a5), .second, .val (.long a6), .second, .val (.long a2), .second, .val (.int (a3 &&& (3 : Int32))), .unset, .unset, .unset, .unset] [])) _
        refine XS.iload X0.here hx rfl (hb hby at_21) rfl ?_
        show Steps p.tables e below (s₁.setTop (mkF m 23 #[.val (.long a1), .second, .val (.long a2), .second, .val (.int a3), .val (.long a4), .second, .val (.long a5), .second, .val (.long a6), .second, .val (.long a2), .second, .val (.int (a3 &&& (3 : Int32))), .unset, .unset, .unset, .unset] [(.int (a3 &&& (3 : Int32)))])) _
        refine XS.iconst X0.here hx rfl (hb hby at_23) ?_
        exact kt
      by_cases hc24 : (a3 &&& (3 : Int32)) = (2 : Int32)
      case pos =>
        have pre5 : ∀ t, Steps p.tables e below (s₁.setTop (mkF m 46 #[.val (.long a1), .second, .val (.long a2), .second, .val (.int a3), .val (.long a4), .second, .val (.long a5), .second, .val (.long a6), .second, .val (.long (a1 - (1 : Int64))), .second, .val (.int (a3 &&& (3 : Int32))), .unset, .unset, .unset, .unset] [])) t → Steps p.tables e below (s₁.setTop (entryFrame m #[(.long a1), (.long a2), (.int a3), (.long a4), (.long a5), (.long a6)] maxLocals)) t := by
          intro t kt
          refine pre4 t ?_
          show Steps p.tables e below (s₁.setTop (mkF m 24 #[.val (.long a1), .second, .val (.long a2), .second, .val (.int a3), .val (.long a4), .second, .val (.long a5), .second, .val (.long a6), .second, .val (.long a2), .second, .val (.int (a3 &&& (3 : Int32))), .unset, .unset, .unset, .unset] [(.int (2 : Int32)), (.int (a3 &&& (3 : Int32)))])) _
          refine XS.icmpNo X0.here hx rfl (hb hby at_24) rfl (teq hc24).2 ?_
          show Steps p.tables e below (s₁.setTop (mkF m 27 #[.val (.long a1), .second, .val (.long a2), .second, .val (.int a3), .val (.long a4), .second, .val (.long a5), .second, .val (.long a6), .second, .val (.long a2), .second, .val (.int (a3 &&& (3 : Int32))), .unset, .unset, .unset, .unset] [])) _
          refine XS.lloadN X0.here hx rfl (hb hby at_27) rfl ?_
          show Steps p.tables e below (s₁.setTop (mkF m 28 #[.val (.long a1), .second, .val (.long a2), .second, .val (.int a3), .val (.long a4), .second, .val (.long a5), .second, .val (.long a6), .second, .val (.long a2), .second, .val (.int (a3 &&& (3 : Int32))), .unset, .unset, .unset, .unset] [(.long a1)])) _
          refine XS.lconst X0.here hx rfl (hb hby at_28) ?_
          show Steps p.tables e below (s₁.setTop (mkF m 29 #[.val (.long a1), .second, .val (.long a2), .second, .val (.int a3), .val (.long a4), .second, .val (.long a5), .second, .val (.long a6), .second, .val (.long a2), .second, .val (.int (a3 &&& (3 : Int32))), .unset, .unset, .unset, .unset] [(.long (1 : Int64)), (.long a1)])) _
          refine XS.lsub X0.here hx rfl (hb hby at_29) rfl ?_
          show Steps p.tables e below (s₁.setTop (mkF m 30 #[.val (.long a1), .second, .val (.long a2), .second, .val (.int a3), .val (.long a4), .second, .val (.long a5), .second, .val (.long a6), .second, .val (.long a2), .second, .val (.int (a3 &&& (3 : Int32))), .unset, .unset, .unset, .unset] [(.long (a1 - (1 : Int64)))])) _
          refine XS.lstore X0.here hx rfl (hb hby at_30) rfl (l' := #[.val (.long a1), .second, .val (.long a2), .second, .val (.int a3), .val (.long a4), .second, .val (.long a5), .second, .val (.long a6), .second, .val (.long (a1 - (1 : Int64))), .second, .val (.int (a3 &&& (3 : Int32))), .unset, .unset, .unset, .unset]) rfl ?_
          show Steps p.tables e below (s₁.setTop (mkF m 32 #[.val (.long a1), .second, .val (.long a2), .second, .val (.int a3), .val (.long a4), .second, .val (.long a5), .second, .val (.long a6), .second, .val (.long (a1 - (1 : Int64))), .second, .val (.int (a3 &&& (3 : Int32))), .unset, .unset, .unset, .unset] [])) _
          refine XS.goto X0.here hx rfl (pc0 := 32) (pc' := 46) rfl (hb hby at_32) (by decide) (by decide) ?_
          exact kt
        exact ⟨s₁, _, (a1 - (1 : Int64)), X0, e0, N0, trivial, pre5⟩
      case neg =>
        have pre6 : ∀ t, Steps p.tables e below (s₁.setTop (mkF m 38 #[.val (.long a1), .second, .val (.long a2), .second, .val (.int a3), .val (.long a4), .second, .val (.long a5), .second, .val (.long a6), .second, .val (.long a2), .second, .val (.int (a3 &&& (3 : Int32))), .unset, .unset, .unset, .unset] [(.int (3 : Int32)), (.int (a3 &&& (3 : Int32)))])) t → Steps p.tables e below (s₁.setTop (entryFrame m #[(.long a1), (.long a2), (.int a3), (.long a4), (.long a5), (.long a6)] maxLocals)) t := by
          intro t kt
          refine pre4 t ?_
          show Steps p.tables e below (s₁.setTop (mkF m 24 #[.val (.long a1), .second, .val (.long a2), .second, .val (.int a3), .val (.long a4), .second, .val (.long a5), .second, .val (.long a6), .second, .val (.long a2), .second, .val (.int (a3 &&& (3 : Int32))), .unset, .unset, .unset, .unset] [(.int (2 : Int32)), (.int (a3 &&& (3 : Int32)))])) _
          refine XS.icmpYes X0.here hx rfl (pc0 := 24) (pc' := 35) rfl (hb hby at_24) rfl (feq hc24).2 (by decide) (by decide) ?_
          show Steps p.tables e below (s₁.setTop (mkF m 35 #[.val (.long a1), .second, .val (.long a2), .second, .val (.int a3), .val (.long a4), .second, .val (.long a5), .second, .val (.long a6), .second, .val (.long a2), .second, .val (.int (a3 &&& (3 : Int32))), .unset, .unset, .unset, .unset] [])) _
          refine XS.iload X0.here hx rfl (hb hby at_35) rfl ?_
          show Steps p.tables e below (s₁.setTop (mkF m 37 #[.val (.long a1), .second, .val (.long a2), .second, .val (.int a3), .val (.long a4), .second, .val (.long a5), .second, .val (.long a6), .second, .val (.long a2), .second, .val (.int (a3 &&& (3 : Int32))), .unset, .unset, .unset, .unset] [(.int (a3 &&& (3 : Int32)))])) _
          refine XS.iconst X0.here hx rfl (hb hby at_37) ?_
          exact kt
        by_cases hc38 : (a3 &&& (3 : Int32)) = (3 : Int32)
        case pos =>
          have pre7 : ∀ t, Steps p.tables e below (s₁.setTop (mkF m 46 #[.val (.long a1), .second, .val (.long a2), .second, .val (.int a3), .val (.long a4), .second, .val (.long a5), .second, .val (.long a6), .second, .val (.long (a1 + (1 : Int64))), .second, .val (.int (a3 &&& (3 : Int32))), .unset, .unset, .unset, .unset] [])) t → Steps p.tables e below (s₁.setTop (entryFrame m #[(.long a1), (.long a2), (.int a3), (.long a4), (.long a5), (.long a6)] maxLocals)) t := by
            intro t kt
            refine pre6 t ?_
            show Steps p.tables e below (s₁.setTop (mkF m 38 #[.val (.long a1), .second, .val (.long a2), .second, .val (.int a3), .val (.long a4), .second, .val (.long a5), .second, .val (.long a6), .second, .val (.long a2), .second, .val (.int (a3 &&& (3 : Int32))), .unset, .unset, .unset, .unset] [(.int (3 : Int32)), (.int (a3 &&& (3 : Int32)))])) _
            refine XS.icmpNo X0.here hx rfl (hb hby at_38) rfl (teq hc38).2 ?_
            show Steps p.tables e below (s₁.setTop (mkF m 41 #[.val (.long a1), .second, .val (.long a2), .second, .val (.int a3), .val (.long a4), .second, .val (.long a5), .second, .val (.long a6), .second, .val (.long a2), .second, .val (.int (a3 &&& (3 : Int32))), .unset, .unset, .unset, .unset] [])) _
            refine XS.lloadN X0.here hx rfl (hb hby at_41) rfl ?_
            show Steps p.tables e below (s₁.setTop (mkF m 42 #[.val (.long a1), .second, .val (.long a2), .second, .val (.int a3), .val (.long a4), .second, .val (.long a5), .second, .val (.long a6), .second, .val (.long a2), .second, .val (.int (a3 &&& (3 : Int32))), .unset, .unset, .unset, .unset] [(.long a1)])) _
            refine XS.lconst X0.here hx rfl (hb hby at_42) ?_
            show Steps p.tables e below (s₁.setTop (mkF m 43 #[.val (.long a1), .second, .val (.long a2), .second, .val (.int a3), .val (.long a4), .second, .val (.long a5), .second, .val (.long a6), .second, .val (.long a2), .second, .val (.int (a3 &&& (3 : Int32))), .unset, .unset, .unset, .unset] [(.long (1 : Int64)), (.long a1)])) _
            refine XS.ladd X0.here hx rfl (hb hby at_43) rfl ?_
            show Steps p.tables e below (s₁.setTop (mkF m 44 #[.val (.long a1), .second, .val (.long a2), .second, .val (.int a3), .val (.long a4), .second, .val (.long a5), .second, .val (.long a6), .second, .val (.long a2), .second, .val (.int (a3 &&& (3 : Int32))), .unset, .unset, .unset, .unset] [(.long (a1 + (1 : Int64)))])) _
            refine XS.lstore X0.here hx rfl (hb hby at_44) rfl (l' := #[.val (.long a1), .second, .val (.long a2), .second, .val (.int a3), .val (.long a4), .second, .val (.long a5), .second, .val (.long a6), .second, .val (.long (a1 + (1 : Int64))), .second, .val (.int (a3 &&& (3 : Int32))), .unset, .unset, .unset, .unset]) rfl ?_
            exact kt
          exact ⟨s₁, _, (a1 + (1 : Int64)), X0, e0, N0, trivial, pre7⟩
        case neg =>
          have pre8 : ∀ t, Steps p.tables e below (s₁.setTop (mkF m 46 #[.val (.long a1), .second, .val (.long a2), .second, .val (.int a3), .val (.long a4), .second, .val (.long a5), .second, .val (.long a6), .second, .val (.long a2), .second, .val (.int (a3 &&& (3 : Int32))), .unset, .unset, .unset, .unset] [])) t → Steps p.tables e below (s₁.setTop (entryFrame m #[(.long a1), (.long a2), (.int a3), (.long a4), (.long a5), (.long a6)] maxLocals)) t := by
            intro t kt
            refine pre6 t ?_
            show Steps p.tables e below (s₁.setTop (mkF m 38 #[.val (.long a1), .second, .val (.long a2), .second, .val (.int a3), .val (.long a4), .second, .val (.long a5), .second, .val (.long a6), .second, .val (.long a2), .second, .val (.int (a3 &&& (3 : Int32))), .unset, .unset, .unset, .unset] [(.int (3 : Int32)), (.int (a3 &&& (3 : Int32)))])) _
            refine XS.icmpYes X0.here hx rfl (pc0 := 38) (pc' := 46) rfl (hb hby at_38) rfl (feq hc38).2 (by decide) (by decide) ?_
            exact kt
          exact ⟨s₁, _, a2, X0, e0, N0, trivial, pre8⟩
  obtain ⟨T9, h9, X9, e9, E9, A9, D9, -, st9⟩ := newO X2 hx hZ hown (hw _ (List.mem_of_getElem? (i := 0) rfl)) (hw _ (List.mem_of_getElem? (i := 1) rfl)) (hw _ (List.mem_of_getElem? (i := 2) rfl)) e2 (g := (mkF m 46 #[.val (.long a1), .second, .val (.long a2), .second, .val (.int a3), .val (.long a4), .second, .val (.long a5), .second, .val (.long a6), .second, .val (.long rr), .second, .val (.int (a3 &&& (3 : Int32))), .unset, .unset, .unset, .unset] [])) rfl (hb hby at_46) (by decide) (by decide)
  obtain ⟨ob, g9⟩ : ∃ z, z = h0.size := ⟨_, rfl⟩
  rw [← g9] at A9 D9 st9
  have g_ob : n0 ≤ ob := by rw [g9]; exact Z0
  have Z10 := Nat.le_trans Z0 E9.1
  have E_ob := A9
  have F_job_ob : Fld Z h9 ob "com/example/slotwright/slotwright/sim/SwfRecord" "job" "J" (.long (0 : Int64)) := D9 (Or.inr (hw _ (List.mem_of_getElem? (i := 19) rfl))) (ty := .long) (by decide)
  have F_submitTime_ob : Fld Z h9 ob "com/example/slotwright/slotwright/sim/SwfRecord" "submitTime" "J" (.long (0 : Int64)) := D9 (Or.inr (hw _ (List.mem_of_getElem? (i := 21) rfl))) (ty := .long) (by decide)
  have F_waitTime_ob : Fld Z h9 ob "com/example/slotwright/slotwright/sim/SwfRecord" "waitTime" "J" (.long (0 : Int64)) := D9 (Or.inr (hw _ (List.mem_of_getElem? (i := 23) rfl))) (ty := .long) (by decide)
  have F_runTime_ob : Fld Z h9 ob "com/example/slotwright/slotwright/sim/SwfRecord" "runTime" "J" (.long (0 : Int64)) := D9 (Or.inr (hw _ (List.mem_of_getElem? (i := 25) rfl))) (ty := .long) (by decide)
  have F_allocated_ob : Fld Z h9 ob "com/example/slotwright/slotwright/sim/SwfRecord" "allocated" "J" (.long (0 : Int64)) := D9 (Or.inr (hw _ (List.mem_of_getElem? (i := 27) rfl))) (ty := .long) (by decide)
  have F_requested_ob : Fld Z h9 ob "com/example/slotwright/slotwright/sim/SwfRecord" "requested" "J" (.long (0 : Int64)) := D9 (Or.inr (hw _ (List.mem_of_getElem? (i := 29) rfl))) (ty := .long) (by decide)
  have F_requestedTime_ob : Fld Z h9 ob "com/example/slotwright/slotwright/sim/SwfRecord" "requestedTime" "J" (.long (0 : Int64)) := D9 (Or.inr (hw _ (List.mem_of_getElem? (i := 31) rfl))) (ty := .long) (by decide)
  obtain ⟨_, _, ⟨T11, L11, k11, n11⟩, -, X11, ⟨Lc11, hQ11, l11, y11, z11⟩, st11⟩ := X9.specialBackH hx (y := (⟨"com/example/slotwright/slotwright/sim/SwfRecord", "<init>", "(JJJJJJJ)V"⟩ : MethodName)) rfl hown (mvT hZ (hw _ (List.mem_of_getElem? (i := 3) rfl))) (mvT hZ (hw _ (List.mem_of_getElem? (i := 4) rfl))) (mvT hZ (hw _ (List.mem_of_getElem? (i := 5) rfl))) (by decide) (backOfWith (W := 1) (own_rm1 l Z a0 hw [] ob a4 a1 a5 a6 rr h9 n0 Z10 E_ob F_job_ob F_submitTime_ob F_waitTime_ob F_runTime_ob F_allocated_ob F_requested_ob F_requestedTime_ob g_ob) hZ (hw _ (List.mem_of_getElem? (i := 5) rfl)) (hw _ (List.mem_of_getElem? (i := 2) rfl)) (by decide) (by decide)) (g := (mkF m 61 #[.val (.long a1), .second, .val (.long a2), .second, .val (.int a3), .val (.long a4), .second, .val (.long a5), .second, .val (.long a6), .second, .val (.long rr), .second, .val (.int (a3 &&& (3 : Int32))), .unset, .unset, .unset, .unset] [(.long rr), (.long a6), (.long a5), (.long a1), (.long (0 : Int64)), (.long (0 : Int64)), (.long a4), (.ref ob), (.ref ob)])) rfl (by rw [hml]; rfl) (Steps.refl _) (a := ob) (argsL := [(.long a4), (.long (0 : Int64)), (.long (0 : Int64)), (.long a1), (.long a5), (.long a6), (.long rr)]) (rest := [(.ref ob)]) (lenOf own_pd2 rfl) rfl (by show 2 * 0 + _ ≤ _; exact Nat.le_of_eq rfl) (hb hby at_61) (fun _ _ => ⟨rfl, e9, (by decide : 1 + 0 ≤ _), (by decide : 7 + 0 ≤ _)⟩)
  dsimp only [Pt.U, Pt.locs, Pt.cells, Pt.slots] at X11 l11 y11 z11 st11 hQ11
  subst l11 y11 z11
  obtain ⟨rfl, Nq11, Kq11, E_ob, F_job_ob, F_submitTime_ob, F_waitTime_ob, F_runTime_ob, F_allocated_ob, F_requested_ob, F_requestedTime_ob⟩ := hQ11
  have N11 := Fr.app N2 Nq11
  have Z11 := Nat.le_trans Z10 Kq11.1
  obtain ⟨cq12, kq12, q12a, q12b, q12c⟩ := isOf hZ rfl E_ob
  obtain ⟨_, _, ⟨T12, L12, k12, n12⟩, -, X12, ⟨Lc12, hQ12, l12, y12, z12⟩, st12⟩ := X11.virtualBack hx (y := (⟨"com/example/slotwright/slotwright/sim/SwfRecord", "overran", "()Z"⟩ : MethodName)) (z := (⟨"com/example/slotwright/slotwright/sim/SwfRecord", "overran", "()Z"⟩ : MethodName)) hown (mvT hZ (hw _ (List.mem_of_getElem? (i := 32) rfl))) (mvT hZ (hw _ (List.mem_of_getElem? (i := 33) rfl))) (notFace_of_selects (args := #[]) (mvT hZ (hw _ (List.mem_of_getElem? (i := 35) rfl)))) (mvT hZ (hw _ (List.mem_of_getElem? (i := 35) rfl))) (mvT hZ (hw _ (List.mem_of_getElem? (i := 34) rfl))) (by decide) (backOf (W := 0) (own_rm5 l Z a0 hw [] ob rr a1 T11.heap n0 Z11 F_requestedTime_ob F_runTime_ob) hZ (hw _ (List.mem_of_getElem? (i := 36) rfl)) (hw _ (List.mem_of_getElem? (i := 2) rfl)) (by decide) (by decide)) q12a q12c (g := (mkF m 68 #[.val (.long a1), .second, .val (.long a2), .second, .val (.int a3), .val (.long a4), .second, .val (.long a5), .second, .val (.long a6), .second, .val (.long rr), .second, .val (.int (a3 &&& (3 : Int32))), .val (.ref ob), .unset, .unset, .unset] [(.ref ob)])) rfl (by rw [hml]; rfl) (Steps.refl _) (argsL := []) (rest := []) (lenOf own_pd3 rfl) rfl (by show 2 * 0 + _ ≤ _; exact Nat.le_of_eq rfl) (hb hby at_68) (fun _ _ => ⟨rfl, rfl, (by decide : 1 + 0 ≤ _), (by decide : 7 + 0 ≤ _)⟩)
  dsimp only [Pt.U, Pt.locs, Pt.cells, Pt.slots] at X12 l12 y12 z12 st12 hQ12
  subst l12 y12 z12
  obtain ⟨rfl, Nq12, eq12⟩ := hQ12
  have N12 := Fr.app N11 Nq12
  obtain ⟨cq13, kq13, q13a, q13b, q13c⟩ := isOf hZ eq12 E_ob
  obtain ⟨_, _, ⟨T13, L13, k13, n13⟩, -, X13, ⟨Lc13, hQ13, l13, y13, z13⟩, st13⟩ := X12.virtualBack hx (y := (⟨"com/example/slotwright/slotwright/sim/SwfRecord", "estimate", "()J"⟩ : MethodName)) (z := (⟨"com/example/slotwright/slotwright/sim/SwfRecord", "estimate", "()J"⟩ : MethodName)) hown (mvT hZ (hw _ (List.mem_of_getElem? (i := 37) rfl))) (mvT hZ (hw _ (List.mem_of_getElem? (i := 38) rfl))) (notFace_of_selects (args := #[]) (mvT hZ (hw _ (List.mem_of_getElem? (i := 40) rfl)))) (mvT hZ (hw _ (List.mem_of_getElem? (i := 40) rfl))) (mvT hZ (hw _ (List.mem_of_getElem? (i := 39) rfl))) (by decide) (backOf (W := 2) (own_rm6 l Z a0 hw [] ob rr a1 T11.heap n0 Z11 F_requestedTime_ob F_runTime_ob) hZ (hw _ (List.mem_of_getElem? (i := 41) rfl)) (hw _ (List.mem_of_getElem? (i := 2) rfl)) (by decide) (by decide)) q13a q13c (g := (mkF m 76 #[.val (.long a1), .second, .val (.long a2), .second, .val (.int a3), .val (.long a4), .second, .val (.long a5), .second, .val (.long a6), .second, .val (.long rr), .second, .val (.int (a3 &&& (3 : Int32))), .val (.ref ob), .val (.int (own_over rr a1)), .unset, .unset] [(.ref ob), (.long a1)])) rfl (by rw [hml]; rfl) (Steps.refl _) (argsL := []) (rest := [(.long a1)]) (lenOf own_pd4 rfl) rfl (by show 2 * 0 + _ ≤ _; exact Nat.le_of_eq rfl) (hb hby at_76) (fun _ _ => ⟨rfl, eq12, (by decide : 1 + 0 ≤ _), (by decide : 7 + 0 ≤ _)⟩)
  dsimp only [Pt.U, Pt.locs, Pt.cells, Pt.slots] at X13 l13 y13 z13 st13 hQ13
  subst l13 y13 z13
  obtain ⟨rfl, Nq13, eq13⟩ := hQ13
  have N13 := Fr.app N12 Nq13
  have pre14 : ∀ t, Steps p.tables e below (T13.setTop (mkF m 80 #[.val (.long a1), .second, .val (.long a2), .second, .val (.int a3), .val (.long a4), .second, .val (.long a5), .second, .val (.long a6), .second, .val (.long rr), .second, .val (.int (a3 &&& (3 : Int32))), .val (.ref ob), .val (.int (own_over rr a1)), .unset, .unset] [(.int (lcmpW a1 (own_est rr a1)))])) t → Steps p.tables e below (s₁.setTop (entryFrame m #[(.long a1), (.long a2), (.int a3), (.long a4), (.long a5), (.long a6)] maxLocals)) t := by
    intro t kt
    refine pre2 t ?_
    show Steps p.tables e below (T2.setTop (mkF m 46 #[.val (.long a1), .second, .val (.long a2), .second, .val (.int a3), .val (.long a4), .second, .val (.long a5), .second, .val (.long a6), .second, .val (.long rr), .second, .val (.int (a3 &&& (3 : Int32))), .unset, .unset, .unset, .unset] [])) _
    refine st9 _ ?_
    show Steps p.tables e below (T9.setTop (mkF m 49 #[.val (.long a1), .second, .val (.long a2), .second, .val (.int a3), .val (.long a4), .second, .val (.long a5), .second, .val (.long a6), .second, .val (.long rr), .second, .val (.int (a3 &&& (3 : Int32))), .unset, .unset, .unset, .unset] [(.ref ob)])) _
    refine XS.dup X9.here hx rfl (hb hby at_49) rfl rfl ?_
    show Steps p.tables e below (T9.setTop (mkF m 50 #[.val (.long a1), .second, .val (.long a2), .second, .val (.int a3), .val (.long a4), .second, .val (.long a5), .second, .val (.long a6), .second, .val (.long rr), .second, .val (.int (a3 &&& (3 : Int32))), .unset, .unset, .unset, .unset] [(.ref ob), (.ref ob)])) _
    refine XS.lload X9.here hx rfl (hb hby at_50) rfl ?_
    show Steps p.tables e below (T9.setTop (mkF m 52 #[.val (.long a1), .second, .val (.long a2), .second, .val (.int a3), .val (.long a4), .second, .val (.long a5), .second, .val (.long a6), .second, .val (.long rr), .second, .val (.int (a3 &&& (3 : Int32))), .unset, .unset, .unset, .unset] [(.long a4), (.ref ob), (.ref ob)])) _
    refine XS.lconst X9.here hx rfl (hb hby at_52) ?_
    show Steps p.tables e below (T9.setTop (mkF m 53 #[.val (.long a1), .second, .val (.long a2), .second, .val (.int a3), .val (.long a4), .second, .val (.long a5), .second, .val (.long a6), .second, .val (.long rr), .second, .val (.int (a3 &&& (3 : Int32))), .unset, .unset, .unset, .unset] [(.long (0 : Int64)), (.long a4), (.ref ob), (.ref ob)])) _
    refine XS.lconst X9.here hx rfl (hb hby at_53) ?_
    show Steps p.tables e below (T9.setTop (mkF m 54 #[.val (.long a1), .second, .val (.long a2), .second, .val (.int a3), .val (.long a4), .second, .val (.long a5), .second, .val (.long a6), .second, .val (.long rr), .second, .val (.int (a3 &&& (3 : Int32))), .unset, .unset, .unset, .unset] [(.long (0 : Int64)), (.long (0 : Int64)), (.long a4), (.ref ob), (.ref ob)])) _
    refine XS.lloadN X9.here hx rfl (hb hby at_54) rfl ?_
    show Steps p.tables e below (T9.setTop (mkF m 55 #[.val (.long a1), .second, .val (.long a2), .second, .val (.int a3), .val (.long a4), .second, .val (.long a5), .second, .val (.long a6), .second, .val (.long rr), .second, .val (.int (a3 &&& (3 : Int32))), .unset, .unset, .unset, .unset] [(.long a1), (.long (0 : Int64)), (.long (0 : Int64)), (.long a4), (.ref ob), (.ref ob)])) _
    refine XS.lload X9.here hx rfl (hb hby at_55) rfl ?_
    show Steps p.tables e below (T9.setTop (mkF m 57 #[.val (.long a1), .second, .val (.long a2), .second, .val (.int a3), .val (.long a4), .second, .val (.long a5), .second, .val (.long a6), .second, .val (.long rr), .second, .val (.int (a3 &&& (3 : Int32))), .unset, .unset, .unset, .unset] [(.long a5), (.long a1), (.long (0 : Int64)), (.long (0 : Int64)), (.long a4), (.ref ob), (.ref ob)])) _
    refine XS.lload X9.here hx rfl (hb hby at_57) rfl ?_
    show Steps p.tables e below (T9.setTop (mkF m 59 #[.val (.long a1), .second, .val (.long a2), .second, .val (.int a3), .val (.long a4), .second, .val (.long a5), .second, .val (.long a6), .second, .val (.long rr), .second, .val (.int (a3 &&& (3 : Int32))), .unset, .unset, .unset, .unset] [(.long a6), (.long a5), (.long a1), (.long (0 : Int64)), (.long (0 : Int64)), (.long a4), (.ref ob), (.ref ob)])) _
    refine XS.lload X9.here hx rfl (hb hby at_59) rfl ?_
    show Steps p.tables e below (T9.setTop (mkF m 61 #[.val (.long a1), .second, .val (.long a2), .second, .val (.int a3), .val (.long a4), .second, .val (.long a5), .second, .val (.long a6), .second, .val (.long rr), .second, .val (.int (a3 &&& (3 : Int32))), .unset, .unset, .unset, .unset] [(.long rr), (.long a6), (.long a5), (.long a1), (.long (0 : Int64)), (.long (0 : Int64)), (.long a4), (.ref ob), (.ref ob)])) _
    refine st11.trans ?_
    show Steps p.tables e below (T11.setTop (mkF m 64 #[.val (.long a1), .second, .val (.long a2), .second, .val (.int a3), .val (.long a4), .second, .val (.long a5), .second, .val (.long a6), .second, .val (.long rr), .second, .val (.int (a3 &&& (3 : Int32))), .unset, .unset, .unset, .unset] [(.ref ob)])) _
    refine XS.astore X11.here hx rfl (hb hby at_64) rfl rfl (l' := #[.val (.long a1), .second, .val (.long a2), .second, .val (.int a3), .val (.long a4), .second, .val (.long a5), .second, .val (.long a6), .second, .val (.long rr), .second, .val (.int (a3 &&& (3 : Int32))), .val (.ref ob), .unset, .unset, .unset]) rfl ?_
    show Steps p.tables e below (T11.setTop (mkF m 66 #[.val (.long a1), .second, .val (.long a2), .second, .val (.int a3), .val (.long a4), .second, .val (.long a5), .second, .val (.long a6), .second, .val (.long rr), .second, .val (.int (a3 &&& (3 : Int32))), .val (.ref ob), .unset, .unset, .unset] [])) _
    refine XS.aload X11.here hx rfl (hb hby at_66) rfl rfl ?_
    show Steps p.tables e below (T11.setTop (mkF m 68 #[.val (.long a1), .second, .val (.long a2), .second, .val (.int a3), .val (.long a4), .second, .val (.long a5), .second, .val (.long a6), .second, .val (.long rr), .second, .val (.int (a3 &&& (3 : Int32))), .val (.ref ob), .unset, .unset, .unset] [(.ref ob)])) _
    refine st12.trans ?_
    show Steps p.tables e below (T12.setTop (mkF m 71 #[.val (.long a1), .second, .val (.long a2), .second, .val (.int a3), .val (.long a4), .second, .val (.long a5), .second, .val (.long a6), .second, .val (.long rr), .second, .val (.int (a3 &&& (3 : Int32))), .val (.ref ob), .unset, .unset, .unset] [(.int (own_over rr a1))])) _
    refine XS.istore X12.here hx rfl (hb hby at_71) rfl (l' := #[.val (.long a1), .second, .val (.long a2), .second, .val (.int a3), .val (.long a4), .second, .val (.long a5), .second, .val (.long a6), .second, .val (.long rr), .second, .val (.int (a3 &&& (3 : Int32))), .val (.ref ob), .val (.int (own_over rr a1)), .unset, .unset]) rfl ?_
    show Steps p.tables e below (T12.setTop (mkF m 73 #[.val (.long a1), .second, .val (.long a2), .second, .val (.int a3), .val (.long a4), .second, .val (.long a5), .second, .val (.long a6), .second, .val (.long rr), .second, .val (.int (a3 &&& (3 : Int32))), .val (.ref ob), .val (.int (own_over rr a1)), .unset, .unset] [])) _
    refine XS.lloadN X12.here hx rfl (hb hby at_73) rfl ?_
    show Steps p.tables e below (T12.setTop (mkF m 74 #[.val (.long a1), .second, .val (.long a2), .second, .val (.int a3), .val (.long a4), .second, .val (.long a5), .second, .val (.long a6), .second, .val (.long rr), .second, .val (.int (a3 &&& (3 : Int32))), .val (.ref ob), .val (.int (own_over rr a1)), .unset, .unset] [(.long a1)])) _
    refine XS.aload X12.here hx rfl (hb hby at_74) rfl rfl ?_
    show Steps p.tables e below (T12.setTop (mkF m 76 #[.val (.long a1), .second, .val (.long a2), .second, .val (.int a3), .val (.long a4), .second, .val (.long a5), .second, .val (.long a6), .second, .val (.long rr), .second, .val (.int (a3 &&& (3 : Int32))), .val (.ref ob), .val (.int (own_over rr a1)), .unset, .unset] [(.ref ob), (.long a1)])) _
    refine st13.trans ?_
    show Steps p.tables e below (T13.setTop (mkF m 79 #[.val (.long a1), .second, .val (.long a2), .second, .val (.int a3), .val (.long a4), .second, .val (.long a5), .second, .val (.long a6), .second, .val (.long rr), .second, .val (.int (a3 &&& (3 : Int32))), .val (.ref ob), .val (.int (own_over rr a1)), .unset, .unset] [(.long (own_est rr a1)), (.long a1)])) _
    refine XS.lcmp X13.here hx rfl (hb hby at_79) rfl ?_
    exact kt
  obtain ⟨T15, Lc15, rf, X15, e15, N15, hp15, pre15⟩ : ∃ (T15 : State) (Lc15 : List Loc) (rf : Int32), Stand p l e room_1 s m #[(.long a1), (.long a2), (.int a3), (.long a4), (.long a5), (.long a6)] below meth c T15 Lc15 1 7 ∧ T15.heap = T11.heap ∧ Fr n0 Lc15 ∧ (own_over rr a1 = rf) ∧ ∀ t, Steps p.tables e below (T15.setTop (mkF m 88 #[.val (.long a1), .second, .val (.long a2), .second, .val (.int a3), .val (.long a4), .second, .val (.long a5), .second, .val (.long a6), .second, .val (.long rr), .second, .val (.int (a3 &&& (3 : Int32))), .val (.ref ob), .val (.int (own_over rr a1)), .unset, .unset] [(.int rf)])) t → Steps p.tables e below (s₁.setTop (entryFrame m #[(.long a1), (.long a2), (.int a3), (.long a4), (.long a5), (.long a6)] maxLocals)) t := by
    by_cases hc80 : (own_est rr a1) < a1
    case pos =>
      have pre16 : ∀ t, Steps p.tables e below (T13.setTop (mkF m 88 #[.val (.long a1), .second, .val (.long a2), .second, .val (.int a3), .val (.long a4), .second, .val (.long a5), .second, .val (.long a6), .second, .val (.long rr), .second, .val (.int (a3 &&& (3 : Int32))), .val (.ref ob), .val (.int (own_over rr a1)), .unset, .unset] [(.int (1 : Int32))])) t → Steps p.tables e below (s₁.setTop (entryFrame m #[(.long a1), (.long a2), (.int a3), (.long a4), (.long a5), (.long a6)] maxLocals)) t := by
        intro t kt
        refine pre14 t ?_
        show Steps p.tables e below (T13.setTop (mkF m 80 #[.val (.long a1), .second, .val (.long a2), .second, .val (.int a3), .val (.long a4), .second, .val (.long a5), .second, .val (.long a6), .second, .val (.long rr), .second, .val (.int (a3 &&& (3 : Int32))), .val (.ref ob), .val (.int (own_over rr a1)), .unset, .unset] [(.int (lcmpW a1 (own_est rr a1)))])) _
        refine XS.ifNo X13.here hx rfl (hb hby at_80) rfl ((if0 _ _).trans (tlt ((lw_gt a1 (own_est rr a1)).mpr hc80)).2.2.2) ?_
        show Steps p.tables e below (T13.setTop (mkF m 83 #[.val (.long a1), .second, .val (.long a2), .second, .val (.int a3), .val (.long a4), .second, .val (.long a5), .second, .val (.long a6), .second, .val (.long rr), .second, .val (.int (a3 &&& (3 : Int32))), .val (.ref ob), .val (.int (own_over rr a1)), .unset, .unset] [])) _
        refine XS.iconst X13.here hx rfl (hb hby at_83) ?_
        show Steps p.tables e below (T13.setTop (mkF m 84 #[.val (.long a1), .second, .val (.long a2), .second, .val (.int a3), .val (.long a4), .second, .val (.long a5), .second, .val (.long a6), .second, .val (.long rr), .second, .val (.int (a3 &&& (3 : Int32))), .val (.ref ob), .val (.int (own_over rr a1)), .unset, .unset] [(.int (1 : Int32))])) _
        refine XS.goto X13.here hx rfl (pc0 := 84) (pc' := 88) rfl (hb hby at_84) (by decide) (by decide) ?_
        exact kt
      exact ⟨T13, _, (1 : Int32), X13, eq13, N13, (if_pos ((own_ref rr a1).mp hc80)), pre16⟩
    case neg =>
      have pre17 : ∀ t, Steps p.tables e below (T13.setTop (mkF m 88 #[.val (.long a1), .second, .val (.long a2), .second, .val (.int a3), .val (.long a4), .second, .val (.long a5), .second, .val (.long a6), .second, .val (.long rr), .second, .val (.int (a3 &&& (3 : Int32))), .val (.ref ob), .val (.int (own_over rr a1)), .unset, .unset] [(.int (0 : Int32))])) t → Steps p.tables e below (s₁.setTop (entryFrame m #[(.long a1), (.long a2), (.int a3), (.long a4), (.long a5), (.long a6)] maxLocals)) t := by
        intro t kt
        refine pre14 t ?_
        show Steps p.tables e below (T13.setTop (mkF m 80 #[.val (.long a1), .second, .val (.long a2), .second, .val (.int a3), .val (.long a4), .second, .val (.long a5), .second, .val (.long a6), .second, .val (.long rr), .second, .val (.int (a3 &&& (3 : Int32))), .val (.ref ob), .val (.int (own_over rr a1)), .unset, .unset] [(.int (lcmpW a1 (own_est rr a1)))])) _
        refine XS.ifYes X13.here hx rfl (pc0 := 80) (pc' := 87) rfl (hb hby at_80) rfl ((if0 _ _).trans (flt (fun q => hc80 ((lw_gt a1 (own_est rr a1)).mp q))).2.2.2) (by decide) (by decide) ?_
        show Steps p.tables e below (T13.setTop (mkF m 87 #[.val (.long a1), .second, .val (.long a2), .second, .val (.int a3), .val (.long a4), .second, .val (.long a5), .second, .val (.long a6), .second, .val (.long rr), .second, .val (.int (a3 &&& (3 : Int32))), .val (.ref ob), .val (.int (own_over rr a1)), .unset, .unset] [])) _
        refine XS.iconst X13.here hx rfl (hb hby at_87) ?_
        exact kt
      exact ⟨T13, _, (0 : Int32), X13, eq13, N13, (if_neg (fun q => hc80 ((own_ref rr a1).mpr q))), pre17⟩
  have hrf := hp15
  have pre18 : ∀ t, Steps p.tables e below (T15.setTop (mkF m 94 #[.val (.long a1), .second, .val (.long a2), .second, .val (.int a3), .val (.long a4), .second, .val (.long a5), .second, .val (.long a6), .second, .val (.long rr), .second, .val (.int (a3 &&& (3 : Int32))), .val (.ref ob), .val (.int (own_over rr a1)), .val (.int rf), .unset] [(.int (lcmpW rr (0 : Int64)))])) t → Steps p.tables e below (s₁.setTop (entryFrame m #[(.long a1), (.long a2), (.int a3), (.long a4), (.long a5), (.long a6)] maxLocals)) t := by
    intro t kt
    refine pre15 t ?_
    show Steps p.tables e below (T15.setTop (mkF m 88 #[.val (.long a1), .second, .val (.long a2), .second, .val (.int a3), .val (.long a4), .second, .val (.long a5), .second, .val (.long a6), .second, .val (.long rr), .second, .val (.int (a3 &&& (3 : Int32))), .val (.ref ob), .val (.int (own_over rr a1)), .unset, .unset] [(.int rf)])) _
    refine XS.istore X15.here hx rfl (hb hby at_88) rfl (l' := #[.val (.long a1), .second, .val (.long a2), .second, .val (.int a3), .val (.long a4), .second, .val (.long a5), .second, .val (.long a6), .second, .val (.long rr), .second, .val (.int (a3 &&& (3 : Int32))), .val (.ref ob), .val (.int (own_over rr a1)), .val (.int rf), .unset]) rfl ?_
    show Steps p.tables e below (T15.setTop (mkF m 90 #[.val (.long a1), .second, .val (.long a2), .second, .val (.int a3), .val (.long a4), .second, .val (.long a5), .second, .val (.long a6), .second, .val (.long rr), .second, .val (.int (a3 &&& (3 : Int32))), .val (.ref ob), .val (.int (own_over rr a1)), .val (.int rf), .unset] [])) _
    refine XS.lload X15.here hx rfl (hb hby at_90) rfl ?_
    show Steps p.tables e below (T15.setTop (mkF m 92 #[.val (.long a1), .second, .val (.long a2), .second, .val (.int a3), .val (.long a4), .second, .val (.long a5), .second, .val (.long a6), .second, .val (.long rr), .second, .val (.int (a3 &&& (3 : Int32))), .val (.ref ob), .val (.int (own_over rr a1)), .val (.int rf), .unset] [(.long rr)])) _
    refine XS.lconst X15.here hx rfl (hb hby at_92) ?_
    show Steps p.tables e below (T15.setTop (mkF m 93 #[.val (.long a1), .second, .val (.long a2), .second, .val (.int a3), .val (.long a4), .second, .val (.long a5), .second, .val (.long a6), .second, .val (.long rr), .second, .val (.int (a3 &&& (3 : Int32))), .val (.ref ob), .val (.int (own_over rr a1)), .val (.int rf), .unset] [(.long (0 : Int64)), (.long rr)])) _
    refine XS.lcmp X15.here hx rfl (hb hby at_93) rfl ?_
    exact kt
  obtain ⟨T19, Lc19, nv, X19, e19, N19, hp19, pre19⟩ : ∃ (T19 : State) (Lc19 : List Loc) (nv : Int32), Stand p l e room_1 s m #[(.long a1), (.long a2), (.int a3), (.long a4), (.long a5), (.long a6)] below meth c T19 Lc19 1 7 ∧ T19.heap = T11.heap ∧ Fr n0 Lc19 ∧ (nv = 1) ∧ ∀ t, Steps p.tables e below (T19.setTop (mkF m 107 #[.val (.long a1), .second, .val (.long a2), .second, .val (.int a3), .val (.long a4), .second, .val (.long a5), .second, .val (.long a6), .second, .val (.long rr), .second, .val (.int (a3 &&& (3 : Int32))), .val (.ref ob), .val (.int (own_over rr a1)), .val (.int rf), .unset] [(.int nv)])) t → Steps p.tables e below (s₁.setTop (entryFrame m #[(.long a1), (.long a2), (.int a3), (.long a4), (.long a5), (.long a6)] maxLocals)) t := by
    by_cases hc94 : (0 : Int64) < rr
    case pos =>
      have pre20 : ∀ t, Steps p.tables e below (T15.setTop (mkF m 107 #[.val (.long a1), .second, .val (.long a2), .second, .val (.int a3), .val (.long a4), .second, .val (.long a5), .second, .val (.long a6), .second, .val (.long rr), .second, .val (.int (a3 &&& (3 : Int32))), .val (.ref ob), .val (.int (own_over rr a1)), .val (.int rf), .unset] [(.int (1 : Int32))])) t → Steps p.tables e below (s₁.setTop (entryFrame m #[(.long a1), (.long a2), (.int a3), (.long a4), (.long a5), (.long a6)] maxLocals)) t := by
        intro t kt
        refine pre18 t ?_
        show Steps p.tables e below (T15.setTop (mkF m 94 #[.val (.long a1), .second, .val (.long a2), .second, .val (.int a3), .val (.long a4), .second, .val (.long a5), .second, .val (.long a6), .second, .val (.long rr), .second, .val (.int (a3 &&& (3 : Int32))), .val (.ref ob), .val (.int (own_over rr a1)), .val (.int rf), .unset] [(.int (lcmpW rr (0 : Int64)))])) _
        refine XS.ifYes X15.here hx rfl (pc0 := 94) (pc' := 102) rfl (hb hby at_94) rfl ((if0 _ _).trans (tlt ((lw_gt rr (0 : Int64)).mpr hc94)).2.2.1) (by decide) (by decide) ?_
        show Steps p.tables e below (T15.setTop (mkF m 102 #[.val (.long a1), .second, .val (.long a2), .second, .val (.int a3), .val (.long a4), .second, .val (.long a5), .second, .val (.long a6), .second, .val (.long rr), .second, .val (.int (a3 &&& (3 : Int32))), .val (.ref ob), .val (.int (own_over rr a1)), .val (.int rf), .unset] [])) _
        refine XS.iconst X15.here hx rfl (hb hby at_102) ?_
        show Steps p.tables e below (T15.setTop (mkF m 103 #[.val (.long a1), .second, .val (.long a2), .second, .val (.int a3), .val (.long a4), .second, .val (.long a5), .second, .val (.long a6), .second, .val (.long rr), .second, .val (.int (a3 &&& (3 : Int32))), .val (.ref ob), .val (.int (own_over rr a1)), .val (.int rf), .unset] [(.int (1 : Int32))])) _
        refine XS.goto X15.here hx rfl (pc0 := 103) (pc' := 107) rfl (hb hby at_103) (by decide) (by decide) ?_
        exact kt
      exact ⟨T15, _, (1 : Int32), X15, e15, N15, rfl, pre20⟩
    case neg =>
      have pre21 : ∀ t, Steps p.tables e below (T15.setTop (mkF m 107 #[.val (.long a1), .second, .val (.long a2), .second, .val (.int a3), .val (.long a4), .second, .val (.long a5), .second, .val (.long a6), .second, .val (.long rr), .second, .val (.int (a3 &&& (3 : Int32))), .val (.ref ob), .val (.int (own_over rr a1)), .val (.int rf), .unset] [(.int (1 : Int32))])) t → Steps p.tables e below (s₁.setTop (entryFrame m #[(.long a1), (.long a2), (.int a3), (.long a4), (.long a5), (.long a6)] maxLocals)) t := by
        intro t kt
        refine pre18 t ?_
        show Steps p.tables e below (T15.setTop (mkF m 94 #[.val (.long a1), .second, .val (.long a2), .second, .val (.int a3), .val (.long a4), .second, .val (.long a5), .second, .val (.long a6), .second, .val (.long rr), .second, .val (.int (a3 &&& (3 : Int32))), .val (.ref ob), .val (.int (own_over rr a1)), .val (.int rf), .unset] [(.int (lcmpW rr (0 : Int64)))])) _
        refine XS.ifNo X15.here hx rfl (hb hby at_94) rfl ((if0 _ _).trans (flt (fun q => hc94 ((lw_gt rr (0 : Int64)).mp q))).2.2.1) ?_
        show Steps p.tables e below (T15.setTop (mkF m 97 #[.val (.long a1), .second, .val (.long a2), .second, .val (.int a3), .val (.long a4), .second, .val (.long a5), .second, .val (.long a6), .second, .val (.long rr), .second, .val (.int (a3 &&& (3 : Int32))), .val (.ref ob), .val (.int (own_over rr a1)), .val (.int rf), .unset] [])) _
        refine XS.iload X15.here hx rfl (hb hby at_97) rfl ?_
        show Steps p.tables e below (T15.setTop (mkF m 99 #[.val (.long a1), .second, .val (.long a2), .second, .val (.int a3), .val (.long a4), .second, .val (.long a5), .second, .val (.long a6), .second, .val (.long rr), .second, .val (.int (a3 &&& (3 : Int32))), .val (.ref ob), .val (.int (own_over rr a1)), .val (.int rf), .unset] [(.int (own_over rr a1))])) _
        refine XS.ifNo X15.here hx rfl (hb hby at_99) rfl ((if0 _ _).trans (teq (if_neg (fun q => hc94 q.1))).2) ?_
        show Steps p.tables e below (T15.setTop (mkF m 102 #[.val (.long a1), .second, .val (.long a2), .second, .val (.int a3), .val (.long a4), .second, .val (.long a5), .second, .val (.long a6), .second, .val (.long rr), .second, .val (.int (a3 &&& (3 : Int32))), .val (.ref ob), .val (.int (own_over rr a1)), .val (.int rf), .unset] [])) _
        refine XS.iconst X15.here hx rfl (hb hby at_102) ?_
        show Steps p.tables e below (T15.setTop (mkF m 103 #[.val (.long a1), .second, .val (.long a2), .second, .val (.int a3), .val (.long a4), .second, .val (.long a5), .second, .val (.long a6), .second, .val (.long rr), .second, .val (.int (a3 &&& (3 : Int32))), .val (.ref ob), .val (.int (own_over rr a1)), .val (.int rf), .unset] [(.int (1 : Int32))])) _
        refine XS.goto X15.here hx rfl (pc0 := 103) (pc' := 107) rfl (hb hby at_103) (by decide) (by decide) ?_
        exact kt
      exact ⟨T15, _, (1 : Int32), X15, e15, N15, rfl, pre21⟩
  have hnv := hp19
  obtain ⟨fs, hr, hrun, hended, hW, hsame⟩ := X19.leave (v := some (.int (1 : Int32))) (fun h => by rw [Bd.returns] at h; cases h) (BodyLoose.notSynchronized Bd)
  refine ⟨_, _, pre19 _ ?_, hrun, hended, _, _, rfl, ?_, ⟨_, rfl⟩, hW, hsame.mono (by decide) (by decide)⟩
  · skip
    show Steps p.tables e below (T19.setTop (mkF m 107 #[.val (.long a1), .second, .val (.long a2), .second, .val (.int a3), .val (.long a4), .second, .val (.long a5), .second, .val (.long a6), .second, .val (.long rr), .second, .val (.int (a3 &&& (3 : Int32))), .val (.ref ob), .val (.int (own_over rr a1)), .val (.int rf), .unset] [(.int nv)])) _
    refine XS.istore X19.here hx rfl (hb hby at_107) rfl (l' := #[.val (.long a1), .second, .val (.long a2), .second, .val (.int a3), .val (.long a4), .second, .val (.long a5), .second, .val (.long a6), .second, .val (.long rr), .second, .val (.int (a3 &&& (3 : Int32))), .val (.ref ob), .val (.int (own_over rr a1)), .val (.int rf), .val (.int nv)]) rfl ?_
    show Steps p.tables e below (T19.setTop (mkF m 109 #[.val (.long a1), .second, .val (.long a2), .second, .val (.int a3), .val (.long a4), .second, .val (.long a5), .second, .val (.long a6), .second, .val (.long rr), .second, .val (.int (a3 &&& (3 : Int32))), .val (.ref ob), .val (.int (own_over rr a1)), .val (.int rf), .val (.int nv)] [])) _
    refine XS.iload X19.here hx rfl (hb hby at_109) rfl ?_
    show Steps p.tables e below (T19.setTop (mkF m 111 #[.val (.long a1), .second, .val (.long a2), .second, .val (.int a3), .val (.long a4), .second, .val (.long a5), .second, .val (.long a6), .second, .val (.long rr), .second, .val (.int (a3 &&& (3 : Int32))), .val (.ref ob), .val (.int (own_over rr a1)), .val (.int rf), .val (.int nv)] [(.int (own_over rr a1))])) _
    refine XS.iload X19.here hx rfl (hb hby at_111) rfl ?_
    show Steps p.tables e below (T19.setTop (mkF m 113 #[.val (.long a1), .second, .val (.long a2), .second, .val (.int a3), .val (.long a4), .second, .val (.long a5), .second, .val (.long a6), .second, .val (.long rr), .second, .val (.int (a3 &&& (3 : Int32))), .val (.ref ob), .val (.int (own_over rr a1)), .val (.int rf), .val (.int nv)] [(.int rf), (.int (own_over rr a1))])) _
    refine XS.icmpNo X19.here hx rfl (hb hby at_113) rfl (teq hrf).2 ?_
    show Steps p.tables e below (T19.setTop (mkF m 116 #[.val (.long a1), .second, .val (.long a2), .second, .val (.int a3), .val (.long a4), .second, .val (.long a5), .second, .val (.long a6), .second, .val (.long rr), .second, .val (.int (a3 &&& (3 : Int32))), .val (.ref ob), .val (.int (own_over rr a1)), .val (.int rf), .val (.int nv)] [])) _
    refine XS.iload X19.here hx rfl (hb hby at_116) rfl ?_
    show Steps p.tables e below (T19.setTop (mkF m 118 #[.val (.long a1), .second, .val (.long a2), .second, .val (.int a3), .val (.long a4), .second, .val (.long a5), .second, .val (.long a6), .second, .val (.long rr), .second, .val (.int (a3 &&& (3 : Int32))), .val (.ref ob), .val (.int (own_over rr a1)), .val (.int rf), .val (.int nv)] [(.int nv)])) _
    refine XS.ifNo X19.here hx rfl (hb hby at_118) rfl ((if0 _ _).trans (feq (by rw [hnv]; decide)).1) ?_
    show Steps p.tables e below (T19.setTop (mkF m 121 #[.val (.long a1), .second, .val (.long a2), .second, .val (.int a3), .val (.long a4), .second, .val (.long a5), .second, .val (.long a6), .second, .val (.long rr), .second, .val (.int (a3 &&& (3 : Int32))), .val (.ref ob), .val (.int (own_over rr a1)), .val (.int rf), .val (.int nv)] [])) _
    refine XS.iconst X19.here hx rfl (hb hby at_121) ?_
    show Steps p.tables e below (T19.setTop (mkF m 122 #[.val (.long a1), .second, .val (.long a2), .second, .val (.int a3), .val (.long a4), .second, .val (.long a5), .second, .val (.long a6), .second, .val (.long rr), .second, .val (.int (a3 &&& (3 : Int32))), .val (.ref ob), .val (.int (own_over rr a1)), .val (.int rf), .val (.int nv)] [(.int (1 : Int32))])) _
    refine XS.goto X19.here hx rfl (pc0 := 122) (pc' := 126) rfl (hb hby at_122) (by decide) (by decide) ?_
    show Steps p.tables e below (T19.setTop (mkF m 126 #[.val (.long a1), .second, .val (.long a2), .second, .val (.int a3), .val (.long a4), .second, .val (.long a5), .second, .val (.long a6), .second, .val (.long rr), .second, .val (.int (a3 &&& (3 : Int32))), .val (.ref ob), .val (.int (own_over rr a1)), .val (.int rf), .val (.int nv)] [(.int (1 : Int32))])) _
    exact retN X19 hx (t := .boolean) Bd.returns (by simp) (hb hby at_126) hr
  · show own_Q0 Z a1 a2 a3 a4 a5 a6 h0 n0 _ T19.heap _
    rw [e19]
    exact ⟨rfl, N19⟩
set_option maxRecDepth 65536 in
set_option maxHeartbeats 40000000 in
theorem own_comes {Post : Tables → Env → Array Value → State → Outcome → State → Prop} (hpost : ∀ tb e args s v u, (limb_1_1.after args s (.returned v) u = true ∧ limb_1_2.after args s (.returned v) u = true ∧ True) → FrameEnd s (.returned v) u (Jvm.fieldLocs frame_1_writes args s ++ Jvm.arrayLocs frame_1_arrays args s ++ Jvm.staticLocs frame_1_statics s) 16 128 → Post tb e args s (.returned v) u) :
    ArmFor flags0 classFile x code maxLocals ret World_1 tables_1 room_1 Calls_1 rest_1 Pre_1 Post := by
  intro l hfl _ _ p e ha hc hk s m args below hf hA hF happ hP
  obtain ⟨hcalls, hrest, hpre⟩ := hP
  obtain ⟨-, -, -, hnamed, -, -, -, hat⟩ := (Spec.applies_iff hf).mp happ
  obtain ⟨hg, hn⟩ := and_e (Cond.before_iff.mp (show (Jvm.Cond.and given_1 narrow_1).before args s = true from hpre))
  obtain ⟨gc, ga0⟩ := and_e hg
  obtain ⟨gv0, ga1⟩ := and_e ga0
  obtain ⟨gv1, ga2⟩ := and_e ga1
  obtain ⟨gv2, ga3⟩ := and_e ga2
  obtain ⟨gv3, ga4⟩ := and_e ga3
  obtain ⟨gv4, ga5⟩ := and_e ga4
  obtain ⟨w0, w1, w2, w3, w4, w5, rfl⟩ : ∃ w0 w1 w2 w3 w4 w5 : Value, args = #[w0, w1, w2, w3, w4, w5] := by
    have hs : args.size = 6 := by simpa [Cond.value, given_1] using gc
    obtain ⟨L⟩ := args
    match L, hs with
    | [w0, w1, w2, w3, w4, w5], _ => exact ⟨w0, w1, w2, w3, w4, w5, rfl⟩
  have hw := fun d (hd : d ∈ tables_1) => atoms_spec (ws := Jvm.Cond.code x code maxLocals ret :: tables_1) hat d (List.mem_cons_of_mem _ hd)
  obtain ⟨i0, ei0⟩ := isL_v gv0
  obtain rfl : w0 = (.long i0) := Option.some.inj ei0
  obtain ⟨i1, ei1⟩ := isL_v gv1
  obtain rfl : w1 = (.long i1) := Option.some.inj ei1
  obtain ⟨i2, ei2⟩ := is_v gv2
  obtain rfl : w2 = (.int i2) := Option.some.inj ei2
  obtain ⟨i3, ei3⟩ := isL_v gv3
  obtain rfl : w3 = (.long i3) := Option.some.inj ei3
  obtain ⟨i4, ei4⟩ := isL_v gv4
  obtain rfl : w4 = (.long i4) := Option.some.inj ei4
  obtain ⟨i5, ei5⟩ := isL_v ga5
  obtain rfl : w5 = (.long i5) := Option.some.inj ei5
  obtain ⟨n, o, h1, h2, h3, _, L, rfl, ⟨rfl, N⟩, hq⟩ := own_rm0 l s _ hw tables_1 i0 i1 i2 i3 i4 i5 s.heap s.heap.size (Nat.le_refl _) p e ha hc hk s m _ below hf ((Spec.applies_iff_loose hf).mp happ).1 ⟨rfl, State.Warmed39.refl s, rfl⟩ trivial
  refine ⟨n, _, h1, h2, h3, hpost _ _ _ _ _ _ ⟨Cond.after_iff.mpr rfl, Cond.after_iff.mpr (eq_i res_at (Term.int_eval (1)) rfl), trivial⟩ ⟨hq.1, hq.2.1, (hq.2.2.sift fun y hy => Or.inr (N y hy)).mono (by decide) (by decide)⟩⟩
theorem main_1_1 : Claimed_1_1 := own_comes fun _ _ _ _ _ _ h hF => ⟨h.1, hF⟩
theorem main_1_2 : Claimed_1_2 := own_comes fun _ _ _ _ _ _ h hF => ⟨h.2.1, hF⟩
end Jvm.Pilot.@@N@@
namespace Jvm.Pilot.@@N@@
open Jvm Jvm.ClassFile Sem Op Lib Jvm.Free Jvm.Stand Jvm.Pilot.@@N@@.Jvm.D
/-! MADE BY PROGRAM (witnessworld.py) out of the Statement's table words and the real class files: 11 classes; the members and pool entries that the words name. The judged class is class 1, her method 1. -/
namespace start1
open Jvm.ClassFile
def u (s : String) : CpInfo := .utf8 (stringToUtf16 s)
/-- a pool by its gaps: so many unusable entries, then the entry; so many at the end -/
def gap : Nat → List CpInfo → List CpInfo
  | 0, r => r
  | n + 1, r => .unusable :: gap n r
def poolList (es : List (Nat × CpInfo)) (last : Nat) : List CpInfo := es.foldr (fun e r => gap e.1 (e.2 :: r)) (gap last [])
def pool (es : List (Nat × CpInfo)) (last : Nat) : Array CpInfo := ⟨poolList es last⟩
def fileOf (pool : Array CpInfo) (this : Nat) (attrs : Array Attribute := #[]) (ms : Array MethodInfo := #[]) (fl : Nat := 33) (sup : Nat := 0) (ifs : Array Nat := #[]) (fds : Array FieldInfo := #[]) : ClassFile where
  minorVersion := 0
  majorVersion := 65
  constantPool := pool
  accessFlags := fl
  thisClass := this
  superClass := sup
  interfaces := ifs
  fields := fds
  methods := ms
  attributes := attrs
def plain (name : String) (sup : Option ClassId) : Class where
  name := name
  kind := .ordinary
  loader := none
  accessFlags := 33
  super := sup
  interfaces := #[]
  cf := none
  fields := #[]
  methods := #[]
  instanceTypes := #[]
  staticTypes := #[]
  resolved := #[]
  callSites := []
  init := .initialized
  statics := none
  mirror := none

def pool0 : Array CpInfo := pool [(5, u "<init>"), (0, u "()V"), (1, .class_ 10), (1, u "java/lang/Object")] 113

def k0c0 : Code := { maxStack := 0, maxLocals := 1, code := object_method_1_code, exceptionTable := #[], attributes := #[] }
def k0m0 : Method := { name := "<init>", desc := "()V", sig := { parameters := [], returnType := none }, accessFlags := 1, code := some k0c0 }
/-- java/lang/Object -/
def k0 : Class := { plain "java/lang/Object" none with
  accessFlags := 33
  interfaces := #[]
  cf := some (fileOf pool0 8 #[] #[{ accessFlags := 1, nameIndex := 5, descriptorIndex := 6, attributes := #[] }] 33 0 #[] #[])
  fields := #[]
  methods := #[k0m0]
  instanceTypes := #[]
  staticTypes := #[]
  resolved := Array.replicate 124 none
  statics := none }

def pool1 : Array CpInfo := pool [(2, .class_ 4), (1, u "java/lang/Object"), (0, u "<init>"), (0, u "()V"), (0, .class_ 8), (0, u "com/example/slotwright/slotwright/sim/SwfRecord"), (0, .methodref 7 10), (0, .nameAndType 5 11), (0, u "(JJJJJJJ)V"), (0, .methodref 7 13), (0, .nameAndType 14 15), (0, u "overran"), (0, u "()Z"), (0, .methodref 7 17), (0, .nameAndType 18 19), (0, u "estimate"), (0, u "()J"), (0, .class_ 21), (0, u "com/example/slotwright/slotwright/sim/SwfRecordOverranPinLaw"), (2, u "law"), (0, u "(JJIJJJ)Z")] 3

def k1m0 : Method := { name := "<init>", desc := "()V", sig := { parameters := [], returnType := none }, accessFlags := 1, code := none }
def k1c1 : Code := { maxStack := 16, maxLocals := 18, code := code, exceptionTable := #[], attributes := #[] }
def k1m1 : Method := { name := "law", desc := "(JJIJJJ)Z", sig := { parameters := [.long, .long, .int, .long, .long, .long], returnType := some .boolean }, accessFlags := 9, code := some k1c1 }
/-- com/example/slotwright/slotwright/sim/SwfRecordOverranPinLaw -/
def k1 : Class := { plain "com/example/slotwright/slotwright/sim/SwfRecordOverranPinLaw" (some 0) with
  accessFlags := 49
  interfaces := #[]
  cf := some (fileOf pool1 20 #[] #[{ accessFlags := 1, nameIndex := 5, descriptorIndex := 6, attributes := #[] }, { accessFlags := 9, nameIndex := 24, descriptorIndex := 25, attributes := #[] }] 49 2 #[] #[])
  fields := #[]
  methods := #[k1m0, k1m1]
  instanceTypes := #[]
  staticTypes := #[]
  resolved := Array.replicate 29 none
  statics := none }

def pool2 : Array CpInfo := pool [(1, .methodref 2 3), (0, .class_ 4), (0, .nameAndType 5 6), (0, u "java/lang/Object"), (0, u "<init>"), (0, u "()V"), (0, .class_ 8), (0, u "java/lang/Record")] 13

def k2c0 : Code := { maxStack := 1, maxLocals := 1, code := jdk_30_method_1_code, exceptionTable := #[], attributes := #[] }
def k2m0 : Method := { name := "<init>", desc := "()V", sig := { parameters := [], returnType := none }, accessFlags := 4, code := some k2c0 }
/-- java/lang/Record -/
def k2 : Class := { plain "java/lang/Record" (some 0) with
  accessFlags := 1057
  interfaces := #[]
  cf := some (fileOf pool2 7 #[] #[{ accessFlags := 4, nameIndex := 5, descriptorIndex := 6, attributes := #[] }] 1057 2 #[] #[])
  fields := #[]
  methods := #[k2m0]
  instanceTypes := #[]
  staticTypes := #[]
  resolved := Array.replicate 22 none
  statics := none }

def pool3 : Array CpInfo := pool [(1, .methodref 2 3), (0, .class_ 4), (0, .nameAndType 5 6), (0, u "java/lang/Record"), (0, u "<init>"), (0, u "()V"), (0, .methodref 8 9), (0, .class_ 10), (0, .nameAndType 11 12), (0, u "java/lang/Math"), (0, u "addExact"), (0, u "(JJ)J"), (11, .fieldref 25 26), (0, .class_ 27), (0, .nameAndType 28 29), (0, u "com/example/slotwright/slotwright/sim/SwfRecord"), (0, u "job"), (0, u "J"), (0, .fieldref 25 31), (0, .nameAndType 32 29), (0, u "submitTime"), (0, .fieldref 25 34), (0, .nameAndType 35 29), (0, u "waitTime"), (0, .fieldref 25 37), (0, .nameAndType 38 29), (0, u "runTime"), (0, .fieldref 25 40), (0, .nameAndType 41 29), (0, u "allocated"), (0, .fieldref 25 43), (0, .nameAndType 44 29), (0, u "requested"), (0, .fieldref 25 46), (0, .nameAndType 47 29), (0, u "requestedTime"), (12, u "(JJJJJJJ)V"), (5, u "()J"), (0, u "estimate"), (0, u "overran"), (0, u "()Z")] 39

def k3c0 : Code := { maxStack := 4, maxLocals := 16, code := prog_205_method_1_code, exceptionTable := #[{ startPc := 4, endPc := 16, handlerPc := 19, catchType := 13 }], attributes := #[] }
def k3m0 : Method := { name := "<init>", desc := "(JJJJJJJ)V", sig := { parameters := [.long, .long, .long, .long, .long, .long, .long], returnType := none }, accessFlags := 1, code := some k3c0 }
def k3c1 : Code := { maxStack := 4, maxLocals := 1, code := prog_205_method_3_code, exceptionTable := #[], attributes := #[] }
def k3m1 : Method := { name := "estimate", desc := "()J", sig := { parameters := [], returnType := some .long }, accessFlags := 1, code := some k3c1 }
def k3c2 : Code := { maxStack := 4, maxLocals := 1, code := prog_205_method_4_code, exceptionTable := #[], attributes := #[] }
def k3m2 : Method := { name := "overran", desc := "()Z", sig := { parameters := [], returnType := some .boolean }, accessFlags := 1, code := some k3c2 }
/-- com/example/slotwright/slotwright/sim/SwfRecord -/
def k3 : Class := { plain "com/example/slotwright/slotwright/sim/SwfRecord" (some 2) with
  accessFlags := 49
  interfaces := #[]
  cf := some (fileOf pool3 25 #[] #[{ accessFlags := 1, nameIndex := 5, descriptorIndex := 60, attributes := #[] }, { accessFlags := 1, nameIndex := 67, descriptorIndex := 66, attributes := #[] }, { accessFlags := 1, nameIndex := 68, descriptorIndex := 69, attributes := #[] }] 49 2 #[] #[{ accessFlags := 18, nameIndex := 28, descriptorIndex := 29, attributes := #[] }, { accessFlags := 18, nameIndex := 32, descriptorIndex := 29, attributes := #[] }, { accessFlags := 18, nameIndex := 35, descriptorIndex := 29, attributes := #[] }, { accessFlags := 18, nameIndex := 38, descriptorIndex := 29, attributes := #[] }, { accessFlags := 18, nameIndex := 41, descriptorIndex := 29, attributes := #[] }, { accessFlags := 18, nameIndex := 44, descriptorIndex := 29, attributes := #[] }, { accessFlags := 18, nameIndex := 47, descriptorIndex := 29, attributes := #[] }])
  fields := #[{ name := "job", type := .long, accessFlags := 18, slot := 0, constantValue := 0 }, { name := "submitTime", type := .long, accessFlags := 18, slot := 1, constantValue := 0 }, { name := "waitTime", type := .long, accessFlags := 18, slot := 2, constantValue := 0 }, { name := "runTime", type := .long, accessFlags := 18, slot := 3, constantValue := 0 }, { name := "allocated", type := .long, accessFlags := 18, slot := 4, constantValue := 0 }, { name := "requested", type := .long, accessFlags := 18, slot := 5, constantValue := 0 }, { name := "requestedTime", type := .long, accessFlags := 18, slot := 6, constantValue := 0 }]
  methods := #[k3m0, k3m1, k3m2]
  instanceTypes := #[.long, .long, .long, .long, .long, .long, .long]
  staticTypes := #[]
  resolved := Array.replicate 109 none
  statics := none }

def pool4 : Array CpInfo := pool [(1, .class_ 2), (0, u "java/lang/Math"), (1, .class_ 6), (1, u "java/lang/Object"), (0, u "<init>"), (0, u "()V"), (89, .class_ 100), (1, u "java/lang/Math$RandomNumberGeneratorHolder"), (20, u "(JJ)J"), (50, u "negativeZeroFloatBits"), (0, u "J"), (2, u "negativeZeroDoubleBits"), (68, u "$assertionsDisabled"), (0, u "Z"), (91, u "twoToTheDoubleScaleDown"), (0, u "D"), (4, u "twoToTheDoubleScaleUp"), (9, u "E"), (3, u "PI"), (2, u "TAU"), (2, u "DEGREES_TO_RADIANS"), (0, u "RADIANS_TO_DEGREES"), (27, u "addExact")] 66

def k4m0 : Method := { name := "<init>", desc := "()V", sig := { parameters := [], returnType := none }, accessFlags := 2, code := none }
def k4c1 : Code := { maxStack := 6, maxLocals := 6, code := jdk_29_method_25_code, exceptionTable := #[], attributes := #[] }
def k4m1 : Method := { name := "addExact", desc := "(JJ)J", sig := { parameters := [.long, .long], returnType := some .long }, accessFlags := 9, code := some k4c1 }
/-- java/lang/Math -/
def k4 : Class := { plain "java/lang/Math" (some 0) with
  accessFlags := 49
  interfaces := #[]
  cf := some (fileOf pool4 1 #[.nestMembers #[98]] #[{ accessFlags := 2, nameIndex := 7, descriptorIndex := 8, attributes := #[] }, { accessFlags := 9, nameIndex := 393, descriptorIndex := 121, attributes := #[] }] 49 4 #[] #[{ accessFlags := 25, nameIndex := 354, descriptorIndex := 339, attributes := #[] }, { accessFlags := 25, nameIndex := 358, descriptorIndex := 339, attributes := #[] }, { accessFlags := 25, nameIndex := 361, descriptorIndex := 339, attributes := #[] }, { accessFlags := 26, nameIndex := 364, descriptorIndex := 339, attributes := #[] }, { accessFlags := 26, nameIndex := 365, descriptorIndex := 339, attributes := #[] }, { accessFlags := 26, nameIndex := 172, descriptorIndex := 173, attributes := #[] }, { accessFlags := 26, nameIndex := 176, descriptorIndex := 173, attributes := #[] }, { accessFlags := 8, nameIndex := 344, descriptorIndex := 339, attributes := #[] }, { accessFlags := 8, nameIndex := 338, descriptorIndex := 339, attributes := #[] }, { accessFlags := 4120, nameIndex := 245, descriptorIndex := 246, attributes := #[] }])
  fields := #[{ name := "E", type := .double, accessFlags := 25, slot := 0, constantValue := 0 }, { name := "PI", type := .double, accessFlags := 25, slot := 1, constantValue := 0 }, { name := "TAU", type := .double, accessFlags := 25, slot := 2, constantValue := 0 }, { name := "DEGREES_TO_RADIANS", type := .double, accessFlags := 26, slot := 3, constantValue := 0 }, { name := "RADIANS_TO_DEGREES", type := .double, accessFlags := 26, slot := 4, constantValue := 0 }, { name := "negativeZeroFloatBits", type := .long, accessFlags := 26, slot := 5, constantValue := 0 }, { name := "negativeZeroDoubleBits", type := .long, accessFlags := 26, slot := 6, constantValue := 0 }, { name := "twoToTheDoubleScaleUp", type := .double, accessFlags := 8, slot := 7, constantValue := 0 }, { name := "twoToTheDoubleScaleDown", type := .double, accessFlags := 8, slot := 8, constantValue := 0 }, { name := "$assertionsDisabled", type := .boolean, accessFlags := 4120, slot := 9, constantValue := 0 }]
  methods := #[k4m0, k4m1]
  instanceTypes := #[]
  staticTypes := #[.double, .double, .double, .double, .double, .long, .long, .double, .double, .boolean]
  resolved := Array.replicate 460 none
  statics := none }

def pool5 : Array CpInfo := pool [(1, u "java/lang/Cloneable"), (0, .class_ 1), (0, u "java/lang/Object"), (0, .class_ 3)] 3

/-- java/lang/Cloneable -/
def k5 : Class := { plain "java/lang/Cloneable" (some 0) with
  accessFlags := 1537
  interfaces := #[]
  cf := some (fileOf pool5 2 #[] #[] 1537 4 #[] #[])
  fields := #[]
  methods := #[]
  instanceTypes := #[]
  staticTypes := #[]
  resolved := Array.replicate 8 none
  statics := none }

def pool6 : Array CpInfo := pool [(1, u "java/io/Serializable"), (0, .class_ 1), (0, u "java/lang/Object"), (0, .class_ 3)] 3

/-- java/io/Serializable -/
def k6 : Class := { plain "java/io/Serializable" (some 0) with
  accessFlags := 1537
  interfaces := #[]
  cf := some (fileOf pool6 2 #[] #[] 1537 4 #[] #[])
  fields := #[]
  methods := #[]
  instanceTypes := #[]
  staticTypes := #[]
  resolved := Array.replicate 8 none
  statics := none }

/-- the primitive byte -/
def k7 : Class := { plain "byte" none with kind := .primitive 'B', accessFlags := 0x411 }
/-- [B -/
def k8 : Class := { plain "[B" (some 0) with kind := .array 7 .byte, interfaces := #[5, 6], accessFlags := 1041 }

/-- the primitive int -/
def k9 : Class := { plain "int" none with kind := .primitive 'I', accessFlags := 0x411 }
/-- [I -/
def k10 : Class := { plain "[I" (some 0) with kind := .array 9 .int, interfaces := #[5, 6], accessFlags := 1041 }

def heap : Heap := #[]
def classes : Array Class := #[k0, k1, k2, k3, k4, k5, k6, k7, k8, k9, k10]
def interned : List (Array UInt16 × Addr) := []
def slotsUsed : Nat := 0
def theMethod : MethodId := ⟨1, 1⟩
def args0 : Array Value := #[.long 5, .long 6, .int 7, .long 8, .long 9, .long 1]
def aboutOver (below : List Frame) : State where
  vm := { classes := classes, interned := interned.toArray }
  heap := heap
  slotsUsed := slotsUsed
  threads := #[{ frames := .invoking theMethod args0 :: below }]
def below0 : List Frame := [.native { method := ⟨0, 0⟩, args := #[] }]
def about1 : State := aboutOver below0
def p0 : Program := .bare "" "" ""
def e0 : Env := launch0.env 0 0 0
theorem w_frames : about1.frames = Frame.invoking theMethod args0 :: below0 := rfl
set_option maxRecDepth 65536 in
theorem w_args : argsFit about1.vm theMethod args0 = true := by decide +kernel
set_option maxRecDepth 65536 in
theorem w_heap : heapFits about1 = true := by decide +kernel
set_option maxRecDepth 65536 in
theorem w_runnable : about1.curStatus? = some .runnable := by decide +kernel
set_option maxRecDepth 65536 in
theorem w_alone : about1.alone = true := by decide +kernel
set_option maxRecDepth 65536 in
theorem w_named : about1.methodNamed? x = some theMethod := by decide +kernel
set_option maxRecDepth 65536 in
theorem w_hears : about1.hears theMethod below0 = true := by decide +kernel
set_option maxRecDepth 65536 in
theorem w_ripe : about1.ripe theMethod args0 below0 = true := by decide +kernel
theorem w_running : about1.status = .running := rfl
set_option maxRecDepth 65536 in
theorem w_room : about1.hasRoom e0.platform room_1 = true :=
  launch0.hasRoom_least _ room_1 (by decide +kernel) (by decide +kernel) (by decide +kernel) (by decide +kernel) (by decide +kernel) (by decide +kernel)
theorem allAtoms_all (ts : List Jvm.Cond) (a : Array Jvm.Value) (st : Jvm.State) : (allAtoms ts).before a st = ts.all (fun c => c.before a st) := by
  induction ts with
  | nil => rfl
  | cons c t ih =>
    show (Jvm.Cond.and c (allAtoms t)).before a st = _
    rw [Jvm.Cond.before_and, ih, List.all_cons]
def words1 : List Jvm.Cond := Jvm.Cond.code x code maxLocals ret :: tables_1
/-- a 'code' word, met by the world's own term for the bytes: nothing is compared byte by byte -/
theorem code_word {y : MethodName} {bytes : ByteArray} {mx : Nat} {rt : Option FieldType} {a : Array Value} {s : State} {m : MethodId} {meth : Method} {c : Code} (h1 : s.methodNamed? y = some m) (h2 : s.vm.method? m = some meth) (h3 : meth.code = some c) (h4 : c.code = bytes)
    (h5 : (c.maxLocals == mx && c.exceptionTable.isEmpty && decide (c.maxStack ≤ mostOperands) && decide (meth.sig.returnType = rt) && !meth.locks && decide (parseMethodDescriptor y.desc = some meth.sig)) = true) : (Jvm.Cond.code y bytes mx rt).before a s = true := by
  simp only [Bool.and_eq_true, beq_iff_eq, Bool.not_eq_true', decide_eq_true_eq] at h5
  obtain ⟨⟨⟨⟨⟨g1, g2⟩, g3⟩, g4⟩, g5⟩, g6⟩ := h5
  simp [Cond.before, Cond.holds, Cond.value, h1, h2, h3, h4, g1, g2, g3, g4, g5, g6]
def isCode : Jvm.Cond → Bool
  | .code _ _ _ _ => true
  | _ => false
theorem all_split {L : List Jvm.Cond} {P : Jvm.Cond → Bool} (h1 : L.all (fun c => isCode c || P c) = true) (h2 : ∀ c ∈ L.filter isCode, P c = true) : L.all P = true := by
  refine List.all_eq_true.mpr fun c hc => ?_
  have h := List.all_eq_true.mp h1 c hc
  rcases Bool.eq_false_or_eq_true (isCode c) with hi | hi
  · exact h2 c (List.mem_filter.mpr ⟨hc, hi⟩)
  · simpa [hi] using h
set_option maxRecDepth 65536 in
theorem w_c0 : (Jvm.Cond.code x code maxLocals ret).before args0 about1 = true := code_word (m := ⟨1, 1⟩) (meth := k1m1) (c := k1c1) (by decide +kernel) rfl rfl rfl (by decide +kernel)
set_option maxRecDepth 65536 in
theorem w_c1 : (Jvm.Cond.code ({ cls := "java/lang/Record", name := "<init>", desc := "()V" } : Jvm.MethodName) jdk_30_method_1_code (1 : Nat) (Option.none : Option Jvm.ClassFile.FieldType)).before args0 about1 = true := code_word (m := ⟨2, 0⟩) (meth := k2m0) (c := k2c0) (by decide +kernel) rfl rfl rfl (by decide +kernel)
set_option maxRecDepth 65536 in
theorem w_c2 : (Jvm.Cond.code ({ cls := "java/lang/Object", name := "<init>", desc := "()V" } : Jvm.MethodName) object_method_1_code (1 : Nat) (Option.none : Option Jvm.ClassFile.FieldType)).before args0 about1 = true := code_word (m := ⟨0, 0⟩) (meth := k0m0) (c := k0c0) (by decide +kernel) rfl rfl rfl (by decide +kernel)
set_option maxRecDepth 65536 in
theorem w_c3 : (Jvm.Cond.code ({ cls := "java/lang/Math", name := "addExact", desc := "(JJ)J" } : Jvm.MethodName) jdk_29_method_25_code (6 : Nat) (Option.some Jvm.ClassFile.FieldType.long)).before args0 about1 = true := code_word (m := ⟨4, 1⟩) (meth := k4m1) (c := k4c1) (by decide +kernel) rfl rfl rfl (by decide +kernel)
set_option maxRecDepth 65536 in
theorem w_c4 : (Jvm.Cond.code ({ cls := "com/example/slotwright/slotwright/sim/SwfRecord", name := "overran", desc := "()Z" } : Jvm.MethodName) prog_205_method_4_code (1 : Nat) (Option.some Jvm.ClassFile.FieldType.boolean)).before args0 about1 = true := code_word (m := ⟨3, 2⟩) (meth := k3m2) (c := k3c2) (by decide +kernel) rfl rfl rfl (by decide +kernel)
set_option maxRecDepth 65536 in
theorem w_c5 : (Jvm.Cond.code ({ cls := "com/example/slotwright/slotwright/sim/SwfRecord", name := "estimate", desc := "()J" } : Jvm.MethodName) prog_205_method_3_code (1 : Nat) (Option.some Jvm.ClassFile.FieldType.long)).before args0 about1 = true := code_word (m := ⟨3, 1⟩) (meth := k3m1) (c := k3c1) (by decide +kernel) rfl rfl rfl (by decide +kernel)
def codes1 : List Jvm.Cond := [Jvm.Cond.code x code maxLocals ret, Jvm.Cond.code ({ cls := "java/lang/Record", name := "<init>", desc := "()V" } : Jvm.MethodName) jdk_30_method_1_code (1 : Nat) (Option.none : Option Jvm.ClassFile.FieldType), Jvm.Cond.code ({ cls := "java/lang/Object", name := "<init>", desc := "()V" } : Jvm.MethodName) object_method_1_code (1 : Nat) (Option.none : Option Jvm.ClassFile.FieldType), Jvm.Cond.code ({ cls := "java/lang/Math", name := "addExact", desc := "(JJ)J" } : Jvm.MethodName) jdk_29_method_25_code (6 : Nat) (Option.some Jvm.ClassFile.FieldType.long), Jvm.Cond.code ({ cls := "com/example/slotwright/slotwright/sim/SwfRecord", name := "overran", desc := "()Z" } : Jvm.MethodName) prog_205_method_4_code (1 : Nat) (Option.some Jvm.ClassFile.FieldType.boolean), Jvm.Cond.code ({ cls := "com/example/slotwright/slotwright/sim/SwfRecord", name := "estimate", desc := "()J" } : Jvm.MethodName) prog_205_method_3_code (1 : Nat) (Option.some Jvm.ClassFile.FieldType.long)]
set_option maxRecDepth 65536 in
theorem codes_eq : words1.filter isCode = codes1 := rfl
theorem w_codes : ∀ c ∈ words1.filter isCode, c.before args0 about1 = true := by
  rw [codes_eq]
  intro c hc
  simp only [codes1, List.mem_cons, List.not_mem_nil, or_false] at hc
  rcases hc with rfl | rfl | rfl | rfl | rfl | rfl
  · exact w_c0
  · exact w_c1
  · exact w_c2
  · exact w_c3
  · exact w_c4
  · exact w_c5
set_option maxRecDepth 65536 in
theorem w_t1 : (words1.take 24).all (fun c => isCode c || c.before args0 about1) = true := by decide +kernel
set_option maxRecDepth 65536 in
theorem w_t2 : (words1.drop 24).all (fun c => isCode c || c.before args0 about1) = true := by decide +kernel
theorem w_tables : (allAtoms (Jvm.Cond.code x code maxLocals ret :: tables_1)).before args0 about1 = true := by
  rw [allAtoms_all]
  show words1.all (fun c => c.before args0 about1) = true
  refine all_split ?_ w_codes
  rw [← List.take_append_drop 24 words1, List.all_append, w_t1, w_t2]
  rfl
set_option maxRecDepth 65536 in
theorem w_case : (Jvm.Cond.and given_1 narrow_1).before args0 about1 = true := by decide +kernel
theorem w_applies : (headSpec (Jvm.Cond.code x code maxLocals ret :: tables_1) room_1).applies x e0.platform about1 = true :=
  (Spec.applies_iff w_frames).mpr ⟨w_running, w_runnable, w_alone, w_named, w_hears, w_ripe, w_room, w_tables⟩
theorem atStart : AtStart classFile x code maxLocals ret World_1 tables_1 room_1 Calls_1 rest_1 Pre_1 launch0 p0 e0 about1 theMethod args0 below0 :=
  ⟨lists_1, trivial, launch0.admits_env _ _ _, launch0.least_env, fairChoices_fair.cas, fairChoices_fair.clock, w_frames, w_args, w_heap, w_applies, trivial, trivial, w_case⟩
end start1
theorem witness_1 : WitnessClaimed_1 := ⟨start1.p0, start1.e0, start1.about1, start1.theMethod, start1.args0, start1.below0, start1.atStart⟩
end Jvm.Pilot.@@N@@
