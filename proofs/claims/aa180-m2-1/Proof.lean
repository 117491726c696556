import JvmDerived
import JvmDerived.Pilot.@@N@@Statement
import JvmDerived.Pilot.@@N@@Code
set_option linter.unusedVariables false
set_option linter.unusedSimpArgs false
namespace Jvm.RoadKit
open Sem ClassFile Op Lib Jvm.Stand Jvm.Free Jvm.LawKit
section New
variable {p : Program} {l : Launch} {e : Env} {R : Room} {s : State} {m : MethodId} {args : Array Value} {below : List Frame} {meth : Method} {c : Code} {T : State} {locs : List Loc} {cells slots : Nat}
theorem retI (X : Stand p l e R s m args below meth c T locs cells slots) (hx : p.tables.exec = Jvm.exec) {pc : Nat} {Ls : Array Slot} {z : Int32} {rest : List Value} (hret : meth.sig.returnType = some .int) (hd : decode c.code pc = .ok (.ireturn, 1)) {fs : List Frame}
    (hl : ∀ (f : JFrame) (acts : List Action), f.method = m → f.locked = none → f.entered = [] → (doReturn e (T.setTop f) acts (some (.int z))).1 = T.setFrames fs) : Steps p.tables e below (T.setTop (mkF m pc Ls (.int z :: rest))) (T.setFrames fs) := by
  have hm' : T.vm.method? m = some meth := X.method'
  have hn : narrow .int (.int z) = .int z := rfl
  show Steps p.tables e below (T.setTop { method := m, pc := pc, locals := Ls, stack := _ :: rest, locked := none }) _
  jvm_step X.here [X.here.top, hx, hd, hm', hret, hn]
  first | (intro acts; rw [hl _ acts rfl rfl rfl]) | rw [hl _ _ rfl rfl rfl]
  exact Steps.refl _
end New
end Jvm.RoadKit
namespace Jvm.Pilot.@@N@@
open Jvm Jvm.ClassFile Sem Op Lib Jvm.Free Jvm.Stand Jvm.LawKit Jvm.RoadKit Bundle Jvm.Pilot.@@N@@.Jvm.D
section OwnKit
variable {p : Program} {l : Launch} {e : Env} {R : Room} {s : State} {m : MethodId} {args : Array Value} {below : List Frame} {meth : Method} {c : Code} {T : State} {locs : List Loc} {cells slots : Nat} {Z : State} {h h' : Heap} {a b : Addr} {ty : FieldType} {n : Nat} {f : Nat → Value}
/-- an array by its length and the value at each place -/
def own_AF (Z : State) (h : Heap) (a : Addr) (ty : FieldType) (n : Nat) (f : Nat → Value) : Prop := ∃ c : Cell, Arr Z h a c ty ∧ c.slots.size = n ∧ n < 2 ^ 31 ∧ ∀ i, i < n → c.slots[i]? = some (f i)
theorem own_AF.lt (F : own_AF Z h a ty n f) : a < h.size := by obtain ⟨c, A, -⟩ := F; exact A.lt
theorem own_AF.ext (F : own_AF Z h a ty n f) (E : Ext h h') : own_AF Z h' a ty n f := by obtain ⟨c, A, r⟩ := F; exact ⟨c, A.ext E, r⟩
theorem own_AF.other {sl : Nat} {v : Value} (F : own_AF Z h b ty n f) (W : Wr h h' a sl v) (q : b ≠ a) : own_AF Z h' b ty n f := by obtain ⟨c, A, r⟩ := F; exact ⟨c, A.other W q, r⟩
theorem own_AF.keep {ws : List Addr} (F : own_AF Z h a ty n f) (K : Keep h h' ws) (q : a ∉ ws) : own_AF Z h' a ty n f := by obtain ⟨c, A, r⟩ := F; exact ⟨c, ⟨K.2.1 a c A.1 q, A.2⟩, r⟩
theorem own_AF.congr {g : Nat → Value} (F : own_AF Z h a ty n f) (q : ∀ i, i < n → f i = g i) : own_AF Z h a ty n g := by
  obtain ⟨c, A, r1, r2, r3⟩ := F; exact ⟨c, A, r1, r2, fun i hi => by rw [r3 i hi, q i hi]⟩
theorem own_AF.set {j : Nat} {v : Value} (F : own_AF Z h a ty n f) (W : Wr h h' a j v) : own_AF Z h' a ty n (fun i => if i = j then v else f i) := by
  obtain ⟨c, A, r1, r2, r3⟩ := F
  obtain ⟨cb', q1, q2, q3, q4, -, q6, q7⟩ := wr_at W A.1
  obtain ⟨e1, e2, -⟩ := q7 rfl
  refine ⟨_, A.same W, ?_, r2, fun i hi => ?_⟩
  · rw [sz_set]; exact r1
  · rw [← e1]
    by_cases hij : i = j
    · subst hij; simp only [if_true]; exact e2
    · rw [q6 i hij, r3 i hi]; simp only [hij, if_false]
theorem own_AF.new {k : ClassId} {z : Int32} {d : Value} (A : Arr Z h a (newA k ty z) ty) (q : ¬ z < 0) (hn : z.toNatClampNeg = n) (hd : defaultValue ty = d := by rfl) : own_AF Z h a ty n (fun _ => d) := by
  subst hn
  refine ⟨_, A, sz_new _ _ _, (back32 q).2, fun i hi => ?_⟩
  simp [newA, hi, hd]
theorem own_AF.inb {c : Cell} {j : Int32} {k : Nat} (S : c.slots.size = n) (h1 : ¬ j < 0) (hk : j.toNatClampNeg = k) (h2 : k < n) : ¬ (j < 0 ∨ c.slots.size ≤ j.toNatClampNeg) := by
  rw [S, hk]; exact fun q => q.elim h1 fun q => by omega
theorem own_ldI (X : Stand p l e R s m args below meth c T locs cells slots) (hx : p.tables.exec = Jvm.exec) (hZ : Z.Warmed39 s.vm) (eT : T.heap = h) (A : own_AF Z h a .int n f) {j : Int32} (h1 : ¬ j < 0) {k : Nat} (hk : j.toNatClampNeg = k) (h2 : k < n) {v : Value} (hv : f k = v)
    {g : JFrame} (hg : g.method = m) {rest : List Value} (hs : g.stack = .int j :: .ref a :: rest) (hd : decode c.code g.pc = .ok (.iaload, 1)) (target : State)
    (hr : Steps p.tables e below (T.setTop { g with pc := g.pc + 1, stack := v :: rest }) target) : Steps p.tables e below (T.setTop g) target := by
  obtain ⟨cl, A, r1, r2, r3⟩ := A
  exact X.iaload hx (by rw [eT]; exact A.1) (State.isArrayOf_alike hZ.alike A.2.1) A.2.2 (own_AF.inb r1 h1 hk h2) (by rw [hk, ← hv]; exact r3 k h2) hg hs hd _ hr
theorem own_ldJ (X : Stand p l e R s m args below meth c T locs cells slots) (hx : p.tables.exec = Jvm.exec) (hZ : Z.Warmed39 s.vm) (eT : T.heap = h) (A : own_AF Z h a .long n f) {j : Int32} (h1 : ¬ j < 0) {k : Nat} (hk : j.toNatClampNeg = k) (h2 : k < n) {v : Value} (hv : f k = v)
    {g : JFrame} (hg : g.method = m) {rest : List Value} (hs : g.stack = .int j :: .ref a :: rest) (hd : decode c.code g.pc = .ok (.laload, 1)) (target : State)
    (hr : Steps p.tables e below (T.setTop { g with pc := g.pc + 1, stack := v :: rest }) target) : Steps p.tables e below (T.setTop g) target := by
  obtain ⟨cl, A, r1, r2, r3⟩ := A
  exact X.laload hx (by rw [eT]; exact A.1) (State.isArrayOf_alike hZ.alike A.2.1) A.2.2 (own_AF.inb r1 h1 hk h2) (by rw [hk, ← hv]; exact r3 k h2) hg hs hd _ hr
theorem own_ldB (X : Stand p l e R s m args below meth c T locs cells slots) (hx : p.tables.exec = Jvm.exec) (hZ : Z.Warmed39 s.vm) (eT : T.heap = h) (A : own_AF Z h a .byte n f) {j : Int32} (h1 : ¬ j < 0) {k : Nat} (hk : j.toNatClampNeg = k) (h2 : k < n) {v : Value} (hv : f k = v)
    {g : JFrame} (hg : g.method = m) {rest : List Value} (hs : g.stack = .int j :: .ref a :: rest) (hd : decode c.code g.pc = .ok (.baload, 1)) (target : State)
    (hr : Steps p.tables e below (T.setTop { g with pc := g.pc + 1, stack := v :: rest }) target) : Steps p.tables e below (T.setTop g) target := by
  obtain ⟨cl, A, r1, r2, r3⟩ := A
  exact X.baloadBytes hx (by rw [eT]; exact A.1) (State.isArrayOf_alike hZ.alike A.2.1) A.2.2 (own_AF.inb r1 h1 hk h2) (by rw [hk, ← hv]; exact r3 k h2) hg hs hd _ hr
theorem own_ldZ (X : Stand p l e R s m args below meth c T locs cells slots) (hx : p.tables.exec = Jvm.exec) (hZ : Z.Warmed39 s.vm) (eT : T.heap = h) (A : own_AF Z h a .boolean n f) {j : Int32} (h1 : ¬ j < 0) {k : Nat} (hk : j.toNatClampNeg = k) (h2 : k < n) {v : Value} (hv : f k = v)
    {g : JFrame} (hg : g.method = m) {rest : List Value} (hs : g.stack = .int j :: .ref a :: rest) (hd : decode c.code g.pc = .ok (.baload, 1)) (target : State)
    (hr : Steps p.tables e below (T.setTop { g with pc := g.pc + 1, stack := v :: rest }) target) : Steps p.tables e below (T.setTop g) target := by
  obtain ⟨cl, A, r1, r2, r3⟩ := A
  exact X.baloadBooleans hx (by rw [eT]; exact A.1) (State.isArrayOf_alike hZ.alike A.2.1) A.2.2 (own_AF.inb r1 h1 hk h2) (by rw [hk, ← hv]; exact r3 k h2) hg hs hd _ hr
theorem own_len (X : Stand p l e R s m args below meth c T locs cells slots) (hx : p.tables.exec = Jvm.exec) (hZ : Z.Warmed39 s.vm) (eT : T.heap = h) (A : own_AF Z h a ty n f) {z : Int32} (hz : n.toInt32 = z)
    {g : JFrame} (hg : g.method = m) {rest : List Value} (hs : g.stack = .ref a :: rest) (hd : decode c.code g.pc = .ok (.arraylength, 1)) (target : State)
    (hr : Steps p.tables e below (T.setTop { g with pc := g.pc + 1, stack := .int z :: rest }) target) : Steps p.tables e below (T.setTop g) target := by
  obtain ⟨cl, A, r1, r2, r3⟩ := A
  exact X.arraylength hx (by rw [eT]; exact A.1) (State.isArrayOf_alike hZ.alike A.2.1) hg hs hd _ (by rw [r1, hz]; exact hr)
theorem own_stI (X : Stand p l e R s m args below meth c T locs cells slots) (hx : p.tables.exec = Jvm.exec) (hZ : Z.Warmed39 s.vm) (eT : T.heap = h) (A : own_AF Z h a .int n f) {j x : Int32} (h1 : ¬ j < 0) {k : Nat} (hk : j.toNatClampNeg = k) (h2 : k < n)
    {g : JFrame} (hg : g.method = m) {rest : List Value} (hs : g.stack = .int x :: .int j :: .ref a :: rest) (hd : decode c.code g.pc = .ok (.iastore, 1)) :
    ∃ T' h', Stand p l e R s m args below meth c T' (locs ++ [⟨a, k⟩]) cells slots ∧ T'.heap = h' ∧ Wr h h' a k (.int x) ∧ own_AF Z h' a .int n (fun i => if i = k then .int x else f i) ∧ ∀ target, Steps p.tables e below (T'.setTop { g with pc := g.pc + 1, stack := rest }) target → Steps p.tables e below (T.setTop g) target := by
  obtain ⟨cl, A', r1, r2, r3⟩ := id A
  obtain ⟨T', h', X', e', W', st⟩ := stI X hx hZ eT A' (own_AF.inb r1 h1 hk h2) hg hs hd
  subst hk
  exact ⟨T', h', X', e', W', A.set W', st⟩
theorem own_stJ (X : Stand p l e R s m args below meth c T locs cells slots) (hx : p.tables.exec = Jvm.exec) (hZ : Z.Warmed39 s.vm) (eT : T.heap = h) (A : own_AF Z h a .long n f) {j : Int32} {x : Int64} (h1 : ¬ j < 0) {k : Nat} (hk : j.toNatClampNeg = k) (h2 : k < n)
    {g : JFrame} (hg : g.method = m) {rest : List Value} (hs : g.stack = .long x :: .int j :: .ref a :: rest) (hd : decode c.code g.pc = .ok (.lastore, 1)) :
    ∃ T' h', Stand p l e R s m args below meth c T' (locs ++ [⟨a, k⟩]) cells slots ∧ T'.heap = h' ∧ Wr h h' a k (.long x) ∧ own_AF Z h' a .long n (fun i => if i = k then .long x else f i) ∧ ∀ target, Steps p.tables e below (T'.setTop { g with pc := g.pc + 1, stack := rest }) target → Steps p.tables e below (T.setTop g) target := by
  obtain ⟨cl, A', r1, r2, r3⟩ := id A
  obtain ⟨T', h', X', e', W', st⟩ := stJ X hx hZ eT A' (own_AF.inb r1 h1 hk h2) hg hs hd
  subst hk
  exact ⟨T', h', X', e', W', A.set W', st⟩
theorem own_stB (X : Stand p l e R s m args below meth c T locs cells slots) (hx : p.tables.exec = Jvm.exec) (hZ : Z.Warmed39 s.vm) (eT : T.heap = h) (A : own_AF Z h a .byte n f) {j x : Int32} (h1 : ¬ j < 0) {k : Nat} (hk : j.toNatClampNeg = k) (h2 : k < n)
    {g : JFrame} (hg : g.method = m) {rest : List Value} (hs : g.stack = .int x :: .int j :: .ref a :: rest) (hd : decode c.code g.pc = .ok (.bastore, 1)) :
    ∃ T' h', Stand p l e R s m args below meth c T' (locs ++ [⟨a, k⟩]) cells slots ∧ T'.heap = h' ∧ Wr h h' a k (.int (nar .byte x)) ∧ own_AF Z h' a .byte n (fun i => if i = k then .int (nar .byte x) else f i) ∧ ∀ target, Steps p.tables e below (T'.setTop { g with pc := g.pc + 1, stack := rest }) target → Steps p.tables e below (T.setTop g) target := by
  obtain ⟨cl, A', r1, r2, r3⟩ := id A
  obtain ⟨T', h', X', e', W', st⟩ := stB X hx hZ eT A' (own_AF.inb r1 h1 hk h2) hg hs hd
  subst hk
  exact ⟨T', h', X', e', W', A.set W', st⟩
theorem own_stZ (X : Stand p l e R s m args below meth c T locs cells slots) (hx : p.tables.exec = Jvm.exec) (hZ : Z.Warmed39 s.vm) (eT : T.heap = h) (A : own_AF Z h a .boolean n f) {j x : Int32} (h1 : ¬ j < 0) {k : Nat} (hk : j.toNatClampNeg = k) (h2 : k < n)
    {g : JFrame} (hg : g.method = m) {rest : List Value} (hs : g.stack = .int x :: .int j :: .ref a :: rest) (hd : decode c.code g.pc = .ok (.bastore, 1)) :
    ∃ T' h', Stand p l e R s m args below meth c T' (locs ++ [⟨a, k⟩]) cells slots ∧ T'.heap = h' ∧ Wr h h' a k (.int (nar .boolean x)) ∧ own_AF Z h' a .boolean n (fun i => if i = k then .int (nar .boolean x) else f i) ∧ ∀ target, Steps p.tables e below (T'.setTop { g with pc := g.pc + 1, stack := rest }) target → Steps p.tables e below (T.setTop g) target := by
  obtain ⟨cl, A', r1, r2, r3⟩ := id A
  obtain ⟨T', h', X', e', W', st⟩ := stZ X hx hZ eT A' (own_AF.inb r1 h1 hk h2) hg hs hd
  subst hk
  exact ⟨T', h', X', e', W', A.set W', st⟩
theorem own_lremM {g : JFrame} {target : State} (X : Stand p l e R s m args below meth c T locs cells slots) (hx : p.tables.exec = Jvm.exec) (hg : g.method = m) {x y : Int64} {rest : List Value} (hd : decode c.code g.pc = .ok (.lrem, 1)) (hs : g.stack = .long y :: .long x :: rest) (hy : y ≠ 0)
    (hr : Steps p.tables e below (T.setTop { g with pc := g.pc + 1, stack := .long (x % y) :: rest }) target) : Steps p.tables e below (T.setTop g) target :=
  XS.lrem X.here hx hg hd hs hy (by rw [lrem_mod x y]; exact hr)
theorem own_cloneI {a0 : Array Value} (X : Stand p l e R s m args below meth c T locs cells slots) (hx : p.tables.exec = Jvm.exec) (hZ : Z.Warmed39 s.vm) {own : String} {index : Nat} (hown : s.vm.findClass own = some m.cls)
    (w1 : (Cond.methodLink own index ⟨"[I", "clone", "()Ljava/lang/Object;"⟩).before a0 Z = true) (w2 : (Cond.sameMethod "[I" "java/lang/Object" "clone" "()Ljava/lang/Object;").before a0 Z = true) (w3 : (Cond.native ⟨"java/lang/Object", "clone", "()Ljava/lang/Object;"⟩).before a0 Z = true)
    (w4 : (Cond.instanceMethod ⟨"java/lang/Object", "clone", "()Ljava/lang/Object;"⟩).before a0 Z = true) (w5 : (Cond.selects "[I" ⟨"[I", "clone", "()Ljava/lang/Object;"⟩ ⟨"java/lang/Object", "clone", "()Ljava/lang/Object;"⟩).before a0 Z = true) (w6 : (Cond.castable "[I" "java/lang/Cloneable").before a0 Z = true)
    (eT : T.heap = h) (F : own_AF Z h a .int n f) (E : Exa Z h a "[I") (hfit : ∀ i, i < n → fits .int (f i) = true) {g : JFrame} (hg : g.method = m) (hsize : g.locals.size = c.maxLocals) {rest : List Value} (hs : g.stack = .ref a :: rest) (hd : decode c.code g.pc = .ok (.invokevirtual index, 3))
    (hf : 1 ≤ R.frames) {W cap : Nat} (hW : 2 * g.monitorRoom + (rest.map fun v => v.category).sum ≤ W) (hl : W + 14 ≤ R.locals) (hcap : n ≤ cap) (hc : cells + 1 ≤ R.cells) (hsl : slots + cap ≤ R.slots) :
    ∃ T' h', Stand p l e R s m args below meth c T' locs (cells + 1) (slots + cap) ∧ T'.heap = h' ∧ Ext h h' ∧ own_AF Z h' h.size .int n f ∧ Exa Z h' h.size "[I" ∧
      ∀ target, Steps p.tables e below (T'.setTop { g with pc := g.pc + 3, stack := .ref h.size :: rest }) target → Steps p.tables e below (T.setTop g) target := by
  obtain ⟨cl, A, r1, r2, r3⟩ := F
  have FC : FitC Z cl := fitC_of A fun i hi v hv => by rw [r3 i (by omega)] at hv; cases hv; exact hfit i (by omega)
  obtain ⟨T', h', X', e', ex, A', E', st⟩ := cloneA X hx hZ hown w1 w2 w3 w4 w5 w6 eT A E FC hg hsize hs hd hf hW hl (by rw [r1]; exact hcap) hc hsl
  exact ⟨T', h', X', e', ex, ⟨cloneOf cl, A', r1, r2, r3⟩, E', st⟩
end OwnKit
def own_msg (w : Int32) : Nat → Value := fun i => if i = 0 then .int (w.toInt8.toInt32) else if i = 1 then .int 14 else if i = 2 then .int 1 else .int 1
theorem own_low8 (x : Int32) : (x.toInt8.toInt32 &&& (255 : Int32)) = (x &&& (255 : Int32)) := by
  have h1 := c_i2b x
  have h2 := c_mask x (255 : Int32) 8 (by decide) (by decide)
  have h3 := c_mask x.toInt8.toInt32 (255 : Int32) 8 (by decide) (by decide)
  apply Int32.toInt_inj.mp
  omega
theorem own_bb (x : Int32) : nar .byte (x.toInt8.toInt32) = x.toInt8.toInt32 := by
  show x.toInt8.toInt32.toInt8.toInt32 = x.toInt8.toInt32
  have h1 := c_i2b x
  have h2 := c_i2b x.toInt8.toInt32
  apply Int32.toInt_inj.mp
  omega
theorem own_d2_0 : decode jdk_30_method_1_code 0 = .ok (.aload_n 0, 1) := by decide +kernel
theorem own_d2_1 : decode jdk_30_method_1_code 1 = .ok (.invokespecial 1, 3) := by decide +kernel
theorem own_d2_4 : decode jdk_30_method_1_code 4 = .ok (.return_, 1) := by decide +kernel
theorem own_pn0 : plainName "java/lang/Record" = true := by first | (simp [plainName, overriddenIn]; done) | decide +kernel
theorem own_ef2 (m : MethodId) (x0 : Addr) : entryFrame m #[(.ref x0)] 1 = mkF m 0 #[.val (.ref x0)] [] := by first | (simp [entryFrame, mkF, argsToLocals, Value.category]; done) | rfl
def own_Q2 (Z : State) (a1 : Addr) (h0 : Heap) (n0 : Nat) (v : Option Value) (h : Heap) (L : List Loc) : Prop := v = none ∧ Fr n0 L ∧ h = h0
set_option maxRecDepth 65536 in
set_option maxHeartbeats 40000000 in
theorem own_rm2 (l : Launch) (Z : State) (a0 : Array Value) (hw : ∀ d ∈ tables_1, d.before a0 Z = true) (ws : List Jvm.Cond) (a1 : Addr) (h0 : Heap) (n0 : Nat) (Z0 : n0 ≤ h0.size) :
    MetFree l (⟨"java/lang/Record", "<init>", "()V"⟩ : MethodName) (head1 (Jvm.Cond.code (⟨"java/lang/Record", "<init>", "()V"⟩ : MethodName) jdk_30_method_1_code 1 none :: ws) ({ frames := 1, cells := 0, slots := 0, locals := 12 } : Room)) (fun a U => a = #[(.ref a1)] ∧ Z.Warmed39 U.vm ∧ U.heap = h0) (fun _ _ _ _ _ => True) (fun _ U o U' => ∃ v L, o = .returned v ∧ own_Q2 Z a1 h0 n0 v U'.heap L ∧ FrameEnd U o U' L ({ frames := 1, cells := 0, slots := 0, locals := 12 } : Room).cells ({ frames := 1, cells := 0, slots := 0, locals := 12 } : Room).slots) := by
  refine MetFree.of_bodySF (plainFor_of_name own_pn0) hisR ?_
  intro p e s m args below meth c s₁ Bd hml0 hP hK
  obtain ⟨rfl, hZ, hh⟩ := hP
  have hx := Bd.exec
  have hby := Bd.bytes
  have hml : c.maxLocals = 1 := hml0
  have hown : s.vm.findClass "java/lang/Record" = some m.cls := findClass_of_methodNamed Bd.named
  have hnm := (name_of_methodNamed Bd.named Bd.method).1
  have X0 : Stand p l e ({ frames := 1, cells := 0, slots := 0, locals := 12 } : Room) s m #[(.ref a1)] below meth c s₁ [] 0 0 := Stand.of_body Bd
  have e0 : s₁.heap = h0 := by rw [← hh, Bd.state]; rfl
  have N0 := Fr.nil n0
  have K0 := Keep.refl h0 []
  have pre0 : ∀ t, Steps p.tables e below (s₁.setTop (mkF m 0 #[.val (.ref a1)] [])) t → Steps p.tables e below (s₁.setTop (entryFrame m #[(.ref a1)] 1)) t := fun t kt0 => castTop (own_ef2 m (a1)) kt0
  obtain ⟨T1, X1, e1, st1⟩ := initO X0 hx hZ hown (hw _ (List.mem_of_getElem? (i := 11) rfl)) (hw _ (List.mem_of_getElem? (i := 12) rfl)) (hw _ (List.mem_of_getElem? (i := 13) rfl)) e0 (g := (mkF m 1 #[.val (.ref a1)] [(.ref a1)])) rfl (by rw [hml]; rfl) rfl (hb hby own_d2_1) (by decide) (W := 0) (by show 2 * 0 + _ ≤ _; exact Nat.le_of_eq rfl) (by decide)
  obtain ⟨fs, hr, hrun, hended, hW, hsame⟩ := X1.leave (v := none) (fun _ => rfl) (BodyLoose.notSynchronized Bd)
  refine ⟨_, _, pre0 _ ?_, hrun, hended, _, _, rfl, ?_, ⟨_, rfl⟩, hW, hsame.mono (by decide) (by decide)⟩
  · skip
    show Steps p.tables e below (s₁.setTop (mkF m 0 #[.val (.ref a1)] [])) _
    refine XS.aloadN X0.here hx rfl (hb hby own_d2_0) rfl rfl ?_
    show Steps p.tables e below (s₁.setTop (mkF m 1 #[.val (.ref a1)] [(.ref a1)])) _
    refine st1 _ ?_
    show Steps p.tables e below (T1.setTop (mkF m 4 #[.val (.ref a1)] [])) _
    exact X1.returnOut hx Bd.returns (hb hby own_d2_4) hr
  · show own_Q2 Z a1 h0 n0 _ T1.heap _
    rw [e1]
    exact ⟨rfl, N0, rfl⟩
theorem own_d1_0 : decode prog_45_method_1_code 0 = .ok (.aload_n 0, 1) := by decide +kernel
theorem own_d1_1 : decode prog_45_method_1_code 1 = .ok (.invokespecial 1, 3) := by decide +kernel
theorem own_d1_4 : decode prog_45_method_1_code 4 = .ok (.aload_n 0, 1) := by decide +kernel
theorem own_d1_5 : decode prog_45_method_1_code 5 = .ok (.iload_n 1, 1) := by decide +kernel
theorem own_d1_6 : decode prog_45_method_1_code 6 = .ok (.putfield 7, 3) := by decide +kernel
theorem own_d1_9 : decode prog_45_method_1_code 9 = .ok (.return_, 1) := by decide +kernel
theorem own_pn1 : plainName "com/example/patchwire/patchwire/ember/S101Message$KeepAliveRequest" = true := by first | (simp [plainName, overriddenIn]; done) | decide +kernel
theorem own_pd0 : parseMethodDescriptor "()V" = some ⟨[], none⟩ := by decide +kernel
theorem own_ef1 (m : MethodId) (x0 : Addr) (x1 : Int32) : entryFrame m #[(.ref x0), (.int x1)] 2 = mkF m 0 #[.val (.ref x0), .val (.int x1)] [] := by first | (simp [entryFrame, mkF, argsToLocals, Value.category]; done) | rfl
def own_Q1 (Z : State) (a1 : Addr) (p2 : Int32) (h0 : Heap) (n0 : Nat) (v : Option Value) (h : Heap) (L : List Loc) : Prop := v = none ∧ Fr n0 L ∧ Keep h0 h [a1] ∧ Exa Z h a1 "com/example/patchwire/patchwire/ember/S101Message$KeepAliveRequest" ∧ Fld Z h a1 "com/example/patchwire/patchwire/ember/S101Message$KeepAliveRequest" "slot" "I" (.int p2)
set_option maxRecDepth 65536 in
set_option maxHeartbeats 40000000 in
theorem own_rm1 (l : Launch) (Z : State) (a0 : Array Value) (hw : ∀ d ∈ tables_1, d.before a0 Z = true) (ws : List Jvm.Cond) (a1 : Addr) (p2 : Int32) (h0 : Heap) (n0 : Nat) (Z0 : n0 ≤ h0.size) (E_a1 : Exa Z h0 a1 "com/example/patchwire/patchwire/ember/S101Message$KeepAliveRequest") (F_slot : Fld Z h0 a1 "com/example/patchwire/patchwire/ember/S101Message$KeepAliveRequest" "slot" "I" (.int (0 : Int32))) (g_a1 : n0 ≤ a1) :
    MetFree l (⟨"com/example/patchwire/patchwire/ember/S101Message$KeepAliveRequest", "<init>", "(I)V"⟩ : MethodName) (head1 (Jvm.Cond.code (⟨"com/example/patchwire/patchwire/ember/S101Message$KeepAliveRequest", "<init>", "(I)V"⟩ : MethodName) prog_45_method_1_code 2 none :: ws) ({ frames := 2, cells := 0, slots := 0, locals := 24 } : Room)) (fun a U => a = #[(.ref a1), (.int p2)] ∧ Z.Warmed39 U.vm ∧ U.heap = h0) (fun _ _ _ _ _ => True) (fun _ U o U' => ∃ v L, o = .returned v ∧ own_Q1 Z a1 p2 h0 n0 v U'.heap L ∧ FrameEnd U o U' L ({ frames := 2, cells := 0, slots := 0, locals := 24 } : Room).cells ({ frames := 2, cells := 0, slots := 0, locals := 24 } : Room).slots) := by
  refine MetFree.of_bodySF (plainFor_of_name own_pn1) hisR ?_
  intro p e s m args below meth c s₁ Bd hml0 hP hK
  obtain ⟨rfl, hZ, hh⟩ := hP
  have hx := Bd.exec
  have hby := Bd.bytes
  have hml : c.maxLocals = 2 := hml0
  have hown : s.vm.findClass "com/example/patchwire/patchwire/ember/S101Message$KeepAliveRequest" = some m.cls := findClass_of_methodNamed Bd.named
  have hnm := (name_of_methodNamed Bd.named Bd.method).1
  have X0 : Stand p l e ({ frames := 2, cells := 0, slots := 0, locals := 24 } : Room) s m #[(.ref a1), (.int p2)] below meth c s₁ [] 0 0 := Stand.of_body Bd
  have e0 : s₁.heap = h0 := by rw [← hh, Bd.state]; rfl
  have N0 := Fr.nil n0
  have K0 := Keep.refl h0 [a1]
  have pre0 : ∀ t, Steps p.tables e below (s₁.setTop (mkF m 0 #[.val (.ref a1), .val (.int p2)] [])) t → Steps p.tables e below (s₁.setTop (entryFrame m #[(.ref a1), (.int p2)] 2)) t := fun t kt0 => castTop (own_ef1 m (a1) (p2)) kt0
  obtain ⟨_, _, ⟨T1, L1, k1, n1⟩, -, X1, ⟨Lc1, hQ1, l1, y1, z1⟩, st1⟩ := X0.specialBack hx (y := (⟨"java/lang/Record", "<init>", "()V"⟩ : MethodName)) rfl hown (mvT hZ (hw _ (List.mem_of_getElem? (i := 6) rfl))) (mvT hZ (hw _ (List.mem_of_getElem? (i := 7) rfl))) (mvT hZ (hw _ (List.mem_of_getElem? (i := 10) rfl))) (by decide) (backOf (W := 0) (own_rm2 l Z a0 hw [] (a1) h0 n0 Z0 ) hZ (hw _ (List.mem_of_getElem? (i := 10) rfl)) (hw _ (List.mem_of_getElem? (i := 9) rfl)) (by decide) (by decide)) (g := (mkF m 1 #[.val (.ref a1), .val (.int p2)] [(.ref a1)])) rfl (by rw [hml]; rfl) (Steps.refl _) (a := a1) (argsL := []) (rest := []) (lenOf own_pd0 rfl) rfl (by show 2 * 0 + _ ≤ _; exact Nat.le_of_eq rfl) (hb hby own_d1_1) (fun _ _ => ⟨rfl, e0, (by decide : 0 + 0 ≤ _), (by decide : 0 + 0 ≤ _)⟩)
  dsimp only [Pt.U, Pt.locs, Pt.cells, Pt.slots] at X1 l1 y1 z1 st1 hQ1
  subst l1 y1 z1
  obtain ⟨rfl, Nq1, eq1⟩ := hQ1
  have N1 := Fr.app N0 Nq1
  obtain ⟨T2, h2, X2, e2, W2, st2⟩ := putF X1 hx hZ hown (host := "") (Or.inl (hw _ (List.mem_of_getElem? (i := 14) rfl))) Via.refl eq1 F_slot E_a1 (Or.inr ⟨(hw _ (List.mem_of_getElem? (i := 15) rfl)), rfl, hnm⟩) (hw _ (List.mem_of_getElem? (i := 1) rfl)) (ty := .int) (by decide) rfl rfl (g := (mkF m 6 #[.val (.ref a1), .val (.int p2)] [(.int p2), (.ref a1)])) rfl rfl (hb hby own_d1_6)
  have E_a1 := E_a1.wr W2
  have F_slot := F_slot.same W2
  have K3 := K0.wr W2 (Or.inl (List.mem_of_getElem? (i := 0) rfl))
  have Z4 := Nat.le_trans Z0 (Keep.of_wr W2).1
  have N5 := Fr.snoc X2 N1 g_a1
  obtain ⟨fs, hr, hrun, hended, hW, hsame⟩ := X2.leave (v := none) (fun _ => rfl) (BodyLoose.notSynchronized Bd)
  refine ⟨_, _, pre0 _ ?_, hrun, hended, _, _, rfl, ?_, ⟨_, rfl⟩, hW, hsame.mono (by decide) (by decide)⟩
  · skip
    show Steps p.tables e below (s₁.setTop (mkF m 0 #[.val (.ref a1), .val (.int p2)] [])) _
    refine XS.aloadN X0.here hx rfl (hb hby own_d1_0) rfl rfl ?_
    show Steps p.tables e below (s₁.setTop (mkF m 1 #[.val (.ref a1), .val (.int p2)] [(.ref a1)])) _
    refine st1.trans ?_
    show Steps p.tables e below (T1.setTop (mkF m 4 #[.val (.ref a1), .val (.int p2)] [])) _
    refine XS.aloadN X1.here hx rfl (hb hby own_d1_4) rfl rfl ?_
    show Steps p.tables e below (T1.setTop (mkF m 5 #[.val (.ref a1), .val (.int p2)] [(.ref a1)])) _
    refine XS.iloadN X1.here hx rfl (hb hby own_d1_5) rfl ?_
    show Steps p.tables e below (T1.setTop (mkF m 6 #[.val (.ref a1), .val (.int p2)] [(.int p2), (.ref a1)])) _
    refine st2 _ ?_
    show Steps p.tables e below (T2.setTop (mkF m 9 #[.val (.ref a1), .val (.int p2)] [])) _
    exact X2.returnOut hx Bd.returns (hb hby own_d1_9) hr
  · show own_Q1 Z a1 p2 h0 n0 _ T2.heap _
    rw [e2]
    exact ⟨rfl, N5, K3, E_a1, F_slot⟩
theorem own_d4_0 : decode prog_45_method_2_code 0 = .ok (.iconst 4, 1) := by decide +kernel
theorem own_d4_1 : decode prog_45_method_2_code 1 = .ok (.newarray .byte, 2) := by decide +kernel
theorem own_d4_3 : decode prog_45_method_2_code 3 = .ok (.dup, 1) := by decide +kernel
theorem own_d4_4 : decode prog_45_method_2_code 4 = .ok (.iconst 0, 1) := by decide +kernel
theorem own_d4_5 : decode prog_45_method_2_code 5 = .ok (.aload_n 0, 1) := by decide +kernel
theorem own_d4_6 : decode prog_45_method_2_code 6 = .ok (.getfield 7, 3) := by decide +kernel
theorem own_d4_9 : decode prog_45_method_2_code 9 = .ok (.i2b, 1) := by decide +kernel
theorem own_d4_10 : decode prog_45_method_2_code 10 = .ok (.bastore, 1) := by decide +kernel
theorem own_d4_11 : decode prog_45_method_2_code 11 = .ok (.dup, 1) := by decide +kernel
theorem own_d4_12 : decode prog_45_method_2_code 12 = .ok (.iconst 1, 1) := by decide +kernel
theorem own_d4_13 : decode prog_45_method_2_code 13 = .ok (.bipush 14, 2) := by decide +kernel
theorem own_d4_15 : decode prog_45_method_2_code 15 = .ok (.bastore, 1) := by decide +kernel
theorem own_d4_16 : decode prog_45_method_2_code 16 = .ok (.dup, 1) := by decide +kernel
theorem own_d4_17 : decode prog_45_method_2_code 17 = .ok (.iconst 2, 1) := by decide +kernel
theorem own_d4_18 : decode prog_45_method_2_code 18 = .ok (.iconst 1, 1) := by decide +kernel
theorem own_d4_19 : decode prog_45_method_2_code 19 = .ok (.bastore, 1) := by decide +kernel
theorem own_d4_20 : decode prog_45_method_2_code 20 = .ok (.dup, 1) := by decide +kernel
theorem own_d4_21 : decode prog_45_method_2_code 21 = .ok (.iconst 3, 1) := by decide +kernel
theorem own_d4_22 : decode prog_45_method_2_code 22 = .ok (.iconst 1, 1) := by decide +kernel
theorem own_d4_23 : decode prog_45_method_2_code 23 = .ok (.bastore, 1) := by decide +kernel
theorem own_d4_24 : decode prog_45_method_2_code 24 = .ok (.areturn, 1) := by decide +kernel
theorem own_ef4 (m : MethodId) (x0 : Addr) : entryFrame m #[(.ref x0)] 1 = mkF m 0 #[.val (.ref x0)] [] := by first | (simp [entryFrame, mkF, argsToLocals, Value.category]; done) | rfl
def own_Q4 (Z : State) (a1 : Addr) (w3 : Int32) (h0 : Heap) (n0 : Nat) (v : Option Value) (h : Heap) (L : List Loc) : Prop := ∃ b : Addr, v = some (.ref b) ∧ Fr n0 L ∧ Keep h0 h [] ∧ n0 ≤ b ∧ h0.size ≤ b ∧ own_AF Z h b .byte 4 (own_msg w3)
set_option maxRecDepth 65536 in
set_option maxHeartbeats 40000000 in
theorem own_rm4 (l : Launch) (Z : State) (a0 : Array Value) (hw : ∀ d ∈ tables_1, d.before a0 Z = true) (ws : List Jvm.Cond) (a1 : Addr) (w3 : Int32) (h0 : Heap) (n0 : Nat) (Z0 : n0 ≤ h0.size) (F_s : Fld Z h0 a1 "com/example/patchwire/patchwire/ember/S101Message$KeepAliveRequest" "slot" "I" (.int w3)) :
    MetFree l (⟨"com/example/patchwire/patchwire/ember/S101Message$KeepAliveRequest", "encode", "()[B"⟩ : MethodName) (head1 (Jvm.Cond.code (⟨"com/example/patchwire/patchwire/ember/S101Message$KeepAliveRequest", "encode", "()[B"⟩ : MethodName) prog_45_method_2_code 1 (some (.array .byte)) :: ws) ({ frames := 0, cells := 1, slots := 4, locals := 0 } : Room)) (fun a U => a = #[(.ref a1)] ∧ Z.Warmed39 U.vm ∧ U.heap = h0) (fun _ _ _ _ _ => True) (fun _ U o U' => ∃ v L, o = .returned v ∧ own_Q4 Z a1 w3 h0 n0 v U'.heap L ∧ FrameEnd U o U' L ({ frames := 0, cells := 1, slots := 4, locals := 0 } : Room).cells ({ frames := 0, cells := 1, slots := 4, locals := 0 } : Room).slots) := by
  refine MetFree.of_bodySF (plainFor_of_name own_pn1) hisR ?_
  intro p e s m args below meth c s₁ Bd hml0 hP hK
  obtain ⟨rfl, hZ, hh⟩ := hP
  have hx := Bd.exec
  have hby := Bd.bytes
  have hml : c.maxLocals = 1 := hml0
  have hown : s.vm.findClass "com/example/patchwire/patchwire/ember/S101Message$KeepAliveRequest" = some m.cls := findClass_of_methodNamed Bd.named
  have hnm := (name_of_methodNamed Bd.named Bd.method).1
  have X0 : Stand p l e ({ frames := 0, cells := 1, slots := 4, locals := 0 } : Room) s m #[(.ref a1)] below meth c s₁ [] 0 0 := Stand.of_body Bd
  have e0 : s₁.heap = h0 := by rw [← hh, Bd.state]; rfl
  have N0 := Fr.nil n0
  have K0 := Keep.refl h0 []
  have pre0 : ∀ t, Steps p.tables e below (s₁.setTop (mkF m 0 #[.val (.ref a1)] [])) t → Steps p.tables e below (s₁.setTop (entryFrame m #[(.ref a1)] 1)) t := fun t kt0 => castTop (own_ef4 m (a1)) kt0
  obtain ⟨T1, h1, k1, X1, e1, E1, A1, st1⟩ := newP X0 hx hZ (hw _ (List.mem_of_getElem? (i := 21) rfl)) e0 (g := (mkF m 1 #[.val (.ref a1)] [(.int (4 : Int32))])) rfl (hb hby own_d4_1) rfl (by decide) (cap := 4) (by decide) (by decide) (by decide) (by decide)
  obtain ⟨bb, g1⟩ : ∃ z, z = h0.size := ⟨_, rfl⟩
  rw [← g1] at A1 st1
  have lt_a1_bb : a1 < bb := by rw [g1]; exact F_s.lt
  have ne_a1_bb : a1 ≠ bb := Nat.ne_of_lt lt_a1_bb
  have g_bb : n0 ≤ bb := by rw [g1]; exact Z0
  have sz_bb : h0.size ≤ bb := by rw [g1]; exact K0.1
  have F_s := F_s.ext E1
  have K2 := K0.ext E1
  have Z3 := Nat.le_trans Z0 E1.1
  have V_bb : own_AF Z h1 bb .byte 4 (fun _ => .int (0 : Int32)) := own_AF.new A1 (by decide) (by decide)
  obtain ⟨T4, X4, e4, st4⟩ := getF X1 hx hZ hown (host := "") (Or.inl (hw _ (List.mem_of_getElem? (i := 14) rfl))) Via.refl e1 F_s (g := (mkF m 6 #[.val (.ref a1)] [(.ref a1), (.int (0 : Int32)), (.ref bb), (.ref bb)])) rfl rfl (hb hby own_d4_6)
  obtain ⟨T5, h5, X5, e5, W5, V5, st5⟩ := own_stB X4 hx hZ e4 V_bb (j := (0 : Int32)) (by decide) (k := 0) rfl (by decide) (g := (mkF m 10 #[.val (.ref a1)] [(.int (w3.toInt8.toInt32)), (.int (0 : Int32)), (.ref bb), (.ref bb)])) rfl rfl (hb hby own_d4_10)
  have F_s := F_s.other W5 (Or.inl ne_a1_bb)
  have K6 := K2.wr W5 (Or.inr sz_bb)
  have Z7 := Nat.le_trans Z3 (Keep.of_wr W5).1
  have N8 := Fr.snoc X5 N0 g_bb
  have V_bb := V5
  obtain ⟨T9, h9, X9, e9, W9, V9, st9⟩ := own_stB X5 hx hZ e5 V_bb (j := (1 : Int32)) (by decide) (k := 1) rfl (by decide) (g := (mkF m 15 #[.val (.ref a1)] [(.int (14 : Int32)), (.int (1 : Int32)), (.ref bb), (.ref bb)])) rfl rfl (hb hby own_d4_15)
  have F_s := F_s.other W9 (Or.inl ne_a1_bb)
  have K10 := K6.wr W9 (Or.inr sz_bb)
  have Z11 := Nat.le_trans Z7 (Keep.of_wr W9).1
  have N12 := Fr.snoc X9 N8 g_bb
  have V_bb := V9
  obtain ⟨T13, h13, X13, e13, W13, V13, st13⟩ := own_stB X9 hx hZ e9 V_bb (j := (2 : Int32)) (by decide) (k := 2) rfl (by decide) (g := (mkF m 19 #[.val (.ref a1)] [(.int (1 : Int32)), (.int (2 : Int32)), (.ref bb), (.ref bb)])) rfl rfl (hb hby own_d4_19)
  have F_s := F_s.other W13 (Or.inl ne_a1_bb)
  have K14 := K10.wr W13 (Or.inr sz_bb)
  have Z15 := Nat.le_trans Z11 (Keep.of_wr W13).1
  have N16 := Fr.snoc X13 N12 g_bb
  have V_bb := V13
  obtain ⟨T17, h17, X17, e17, W17, V17, st17⟩ := own_stB X13 hx hZ e13 V_bb (j := (3 : Int32)) (by decide) (k := 3) rfl (by decide) (g := (mkF m 23 #[.val (.ref a1)] [(.int (1 : Int32)), (.int (3 : Int32)), (.ref bb), (.ref bb)])) rfl rfl (hb hby own_d4_23)
  have F_s := F_s.other W17 (Or.inl ne_a1_bb)
  have K18 := K14.wr W17 (Or.inr sz_bb)
  have Z19 := Nat.le_trans Z15 (Keep.of_wr W17).1
  have N20 := Fr.snoc X17 N16 g_bb
  have V_bb := V17
  obtain ⟨fs, hr, hrun, hended, hW, hsame⟩ := X17.leave (v := some (.ref bb)) (fun h => by rw [Bd.returns] at h; cases h) (BodyLoose.notSynchronized Bd)
  refine ⟨_, _, pre0 _ ?_, hrun, hended, _, _, rfl, ?_, ⟨_, rfl⟩, hW, hsame.mono (by decide) (by decide)⟩
  · skip
    show Steps p.tables e below (s₁.setTop (mkF m 0 #[.val (.ref a1)] [])) _
    refine XS.iconst X0.here hx rfl (hb hby own_d4_0) ?_
    show Steps p.tables e below (s₁.setTop (mkF m 1 #[.val (.ref a1)] [(.int (4 : Int32))])) _
    refine st1 _ ?_
    show Steps p.tables e below (T1.setTop (mkF m 3 #[.val (.ref a1)] [(.ref bb)])) _
    refine XS.dup X1.here hx rfl (hb hby own_d4_3) rfl rfl ?_
    show Steps p.tables e below (T1.setTop (mkF m 4 #[.val (.ref a1)] [(.ref bb), (.ref bb)])) _
    refine XS.iconst X1.here hx rfl (hb hby own_d4_4) ?_
    show Steps p.tables e below (T1.setTop (mkF m 5 #[.val (.ref a1)] [(.int (0 : Int32)), (.ref bb), (.ref bb)])) _
    refine XS.aloadN X1.here hx rfl (hb hby own_d4_5) rfl rfl ?_
    show Steps p.tables e below (T1.setTop (mkF m 6 #[.val (.ref a1)] [(.ref a1), (.int (0 : Int32)), (.ref bb), (.ref bb)])) _
    refine st4 _ ?_
    show Steps p.tables e below (T4.setTop (mkF m 9 #[.val (.ref a1)] [(.int w3), (.int (0 : Int32)), (.ref bb), (.ref bb)])) _
    refine XS.i2b X4.here hx rfl (hb hby own_d4_9) rfl ?_
    show Steps p.tables e below (T4.setTop (mkF m 10 #[.val (.ref a1)] [(.int (w3.toInt8.toInt32)), (.int (0 : Int32)), (.ref bb), (.ref bb)])) _
    refine st5 _ ?_
    show Steps p.tables e below (T5.setTop (mkF m 11 #[.val (.ref a1)] [(.ref bb)])) _
    refine XS.dup X5.here hx rfl (hb hby own_d4_11) rfl rfl ?_
    show Steps p.tables e below (T5.setTop (mkF m 12 #[.val (.ref a1)] [(.ref bb), (.ref bb)])) _
    refine XS.iconst X5.here hx rfl (hb hby own_d4_12) ?_
    show Steps p.tables e below (T5.setTop (mkF m 13 #[.val (.ref a1)] [(.int (1 : Int32)), (.ref bb), (.ref bb)])) _
    refine XS.bipush X5.here hx rfl (hb hby own_d4_13) ?_
    show Steps p.tables e below (T5.setTop (mkF m 15 #[.val (.ref a1)] [(.int (14 : Int32)), (.int (1 : Int32)), (.ref bb), (.ref bb)])) _
    refine st9 _ ?_
    show Steps p.tables e below (T9.setTop (mkF m 16 #[.val (.ref a1)] [(.ref bb)])) _
    refine XS.dup X9.here hx rfl (hb hby own_d4_16) rfl rfl ?_
    show Steps p.tables e below (T9.setTop (mkF m 17 #[.val (.ref a1)] [(.ref bb), (.ref bb)])) _
    refine XS.iconst X9.here hx rfl (hb hby own_d4_17) ?_
    show Steps p.tables e below (T9.setTop (mkF m 18 #[.val (.ref a1)] [(.int (2 : Int32)), (.ref bb), (.ref bb)])) _
    refine XS.iconst X9.here hx rfl (hb hby own_d4_18) ?_
    show Steps p.tables e below (T9.setTop (mkF m 19 #[.val (.ref a1)] [(.int (1 : Int32)), (.int (2 : Int32)), (.ref bb), (.ref bb)])) _
    refine st13 _ ?_
    show Steps p.tables e below (T13.setTop (mkF m 20 #[.val (.ref a1)] [(.ref bb)])) _
    refine XS.dup X13.here hx rfl (hb hby own_d4_20) rfl rfl ?_
    show Steps p.tables e below (T13.setTop (mkF m 21 #[.val (.ref a1)] [(.ref bb), (.ref bb)])) _
    refine XS.iconst X13.here hx rfl (hb hby own_d4_21) ?_
    show Steps p.tables e below (T13.setTop (mkF m 22 #[.val (.ref a1)] [(.int (3 : Int32)), (.ref bb), (.ref bb)])) _
    refine XS.iconst X13.here hx rfl (hb hby own_d4_22) ?_
    show Steps p.tables e below (T13.setTop (mkF m 23 #[.val (.ref a1)] [(.int (1 : Int32)), (.int (3 : Int32)), (.ref bb), (.ref bb)])) _
    refine st17 _ ?_
    show Steps p.tables e below (T17.setTop (mkF m 24 #[.val (.ref a1)] [(.ref bb)])) _
    jvm_step X17.here [X17.here.top, hx, (hb hby own_d4_24), X17.method', Bd.returns, Value.isRef, FieldType.isReference]
    first | (intro acts; rw [hr _ acts rfl rfl rfl]) | rw [hr _ _ rfl rfl rfl]
    exact Steps.refl _
  · show own_Q4 Z a1 w3 h0 n0 _ T17.heap _
    rw [e17]
    exact ⟨bb, rfl, N20, K18, g_bb, sz_bb, V_bb.congr (fun i hi => by
      rcases i with _ | _ | _ | _ | i
      · exact congrArg Value.int (own_bb w3)
      · rfl
      · rfl
      · rfl
      · omega)⟩
theorem own_d5_0 : decode method_2_code 0 = .ok (.aload_n 0, 1) := by decide +kernel
theorem own_d5_1 : decode method_2_code 1 = .ok (.ifnull 9, 3) := by decide +kernel
theorem own_d5_4 : decode method_2_code 4 = .ok (.aload_n 0, 1) := by decide +kernel
theorem own_d5_5 : decode method_2_code 5 = .ok (.arraylength, 1) := by decide +kernel
theorem own_d5_6 : decode method_2_code 6 = .ok (.iconst 4, 1) := by decide +kernel
theorem own_d5_7 : decode method_2_code 7 = .ok (.if_icmp .eq 5, 3) := by decide +kernel
theorem own_d5_12 : decode method_2_code 12 = .ok (.aload_n 0, 1) := by decide +kernel
theorem own_d5_13 : decode method_2_code 13 = .ok (.iconst 0, 1) := by decide +kernel
theorem own_d5_14 : decode method_2_code 14 = .ok (.baload, 1) := by decide +kernel
theorem own_d5_15 : decode method_2_code 15 = .ok (.sipush 255, 3) := by decide +kernel
theorem own_d5_18 : decode method_2_code 18 = .ok (.iand, 1) := by decide +kernel
theorem own_d5_19 : decode method_2_code 19 = .ok (.iload_n 1, 1) := by decide +kernel
theorem own_d5_20 : decode method_2_code 20 = .ok (.sipush 255, 3) := by decide +kernel
theorem own_d5_23 : decode method_2_code 23 = .ok (.iand, 1) := by decide +kernel
theorem own_d5_24 : decode method_2_code 24 = .ok (.if_icmp .ne 41, 3) := by decide +kernel
theorem own_d5_27 : decode method_2_code 27 = .ok (.aload_n 0, 1) := by decide +kernel
theorem own_d5_28 : decode method_2_code 28 = .ok (.iconst 1, 1) := by decide +kernel
theorem own_d5_29 : decode method_2_code 29 = .ok (.baload, 1) := by decide +kernel
theorem own_d5_30 : decode method_2_code 30 = .ok (.sipush 255, 3) := by decide +kernel
theorem own_d5_33 : decode method_2_code 33 = .ok (.iand, 1) := by decide +kernel
theorem own_d5_34 : decode method_2_code 34 = .ok (.bipush 14, 2) := by decide +kernel
theorem own_d5_36 : decode method_2_code 36 = .ok (.if_icmp .ne 29, 3) := by decide +kernel
theorem own_d5_39 : decode method_2_code 39 = .ok (.aload_n 0, 1) := by decide +kernel
theorem own_d5_40 : decode method_2_code 40 = .ok (.iconst 2, 1) := by decide +kernel
theorem own_d5_41 : decode method_2_code 41 = .ok (.baload, 1) := by decide +kernel
theorem own_d5_42 : decode method_2_code 42 = .ok (.sipush 255, 3) := by decide +kernel
theorem own_d5_45 : decode method_2_code 45 = .ok (.iand, 1) := by decide +kernel
theorem own_d5_46 : decode method_2_code 46 = .ok (.iconst 1, 1) := by decide +kernel
theorem own_d5_47 : decode method_2_code 47 = .ok (.if_icmp .ne 18, 3) := by decide +kernel
theorem own_d5_50 : decode method_2_code 50 = .ok (.aload_n 0, 1) := by decide +kernel
theorem own_d5_51 : decode method_2_code 51 = .ok (.iconst 3, 1) := by decide +kernel
theorem own_d5_52 : decode method_2_code 52 = .ok (.baload, 1) := by decide +kernel
theorem own_d5_53 : decode method_2_code 53 = .ok (.sipush 255, 3) := by decide +kernel
theorem own_d5_56 : decode method_2_code 56 = .ok (.iand, 1) := by decide +kernel
theorem own_d5_57 : decode method_2_code 57 = .ok (.iconst 1, 1) := by decide +kernel
theorem own_d5_58 : decode method_2_code 58 = .ok (.if_icmp .ne 7, 3) := by decide +kernel
theorem own_d5_61 : decode method_2_code 61 = .ok (.iconst 1, 1) := by decide +kernel
theorem own_d5_62 : decode method_2_code 62 = .ok (.goto 4, 3) := by decide +kernel
theorem own_d5_66 : decode method_2_code 66 = .ok (.ireturn, 1) := by decide +kernel
theorem own_pn2 : plainName "com/example/patchwire/patchwire/ember/KeepAliveRequestEncodePinLaw" = true := by first | (simp [plainName, overriddenIn]; done) | decide +kernel
theorem own_ef5 (m : MethodId) (x0 : Addr) (x1 : Int32) : entryFrame m #[(.ref x0), (.int x1)] 2 = mkF m 0 #[.val (.ref x0), .val (.int x1)] [] := by first | (simp [entryFrame, mkF, argsToLocals, Value.category]; done) | rfl
def own_Q5 (Z : State) (am : Addr) (p1 : Int32) (h0 : Heap) (n0 : Nat) (v : Option Value) (h : Heap) (L : List Loc) : Prop := v = some (.int 1) ∧ Fr n0 L ∧ h = h0
set_option maxRecDepth 65536 in
set_option maxHeartbeats 40000000 in
theorem own_rm5 (l : Launch) (Z : State) (a0 : Array Value) (hw : ∀ d ∈ tables_1, d.before a0 Z = true) (ws : List Jvm.Cond) (am : Addr) (p1 : Int32) (h0 : Heap) (n0 : Nat) (Z0 : n0 ≤ h0.size) (V_am : own_AF Z h0 am .byte 4 (own_msg p1)) :
    MetFree l (⟨"com/example/patchwire/patchwire/ember/KeepAliveRequestEncodePinLaw", "isKeepAliveRequestBytes", "([BI)Z"⟩ : MethodName) (head1 (Jvm.Cond.code (⟨"com/example/patchwire/patchwire/ember/KeepAliveRequestEncodePinLaw", "isKeepAliveRequestBytes", "([BI)Z"⟩ : MethodName) method_2_code 2 (some .boolean) :: ws) ({ frames := 0, cells := 0, slots := 0, locals := 0 } : Room)) (fun a U => a = #[(.ref am), (.int p1)] ∧ Z.Warmed39 U.vm ∧ U.heap = h0) (fun _ _ _ _ _ => True) (fun _ U o U' => ∃ v L, o = .returned v ∧ own_Q5 Z am p1 h0 n0 v U'.heap L ∧ FrameEnd U o U' L ({ frames := 0, cells := 0, slots := 0, locals := 0 } : Room).cells ({ frames := 0, cells := 0, slots := 0, locals := 0 } : Room).slots) := by
  refine MetFree.of_bodySF (plainFor_of_name own_pn2) hisR ?_
  intro p e s m args below meth c s₁ Bd hml0 hP hK
  obtain ⟨rfl, hZ, hh⟩ := hP
  have hx := Bd.exec
  have hby := Bd.bytes
  have hml : c.maxLocals = 2 := hml0
  have hown : s.vm.findClass "com/example/patchwire/patchwire/ember/KeepAliveRequestEncodePinLaw" = some m.cls := findClass_of_methodNamed Bd.named
  have hnm := (name_of_methodNamed Bd.named Bd.method).1
  have X0 : Stand p l e ({ frames := 0, cells := 0, slots := 0, locals := 0 } : Room) s m #[(.ref am), (.int p1)] below meth c s₁ [] 0 0 := Stand.of_body Bd
  have e0 : s₁.heap = h0 := by rw [← hh, Bd.state]; rfl
  have N0 := Fr.nil n0
  have K0 := Keep.refl h0 []
  have pre0 : ∀ t, Steps p.tables e below (s₁.setTop (mkF m 0 #[.val (.ref am), .val (.int p1)] [])) t → Steps p.tables e below (s₁.setTop (entryFrame m #[(.ref am), (.int p1)] 2)) t := fun t kt0 => castTop (own_ef5 m (am) (p1)) kt0
  have ld1 := (own_len X0 hx hZ e0 V_am (z := (4 : Int32)) rfl (g := (mkF m 5 #[.val (.ref am), .val (.int p1)] [(.ref am)])) rfl rfl (hb hby own_d5_5))
  have ld2 := (own_ldB X0 hx hZ e0 V_am (j := (0 : Int32)) (by decide) (k := 0) rfl (by decide) (v := (.int (p1.toInt8.toInt32))) rfl (g := (mkF m 14 #[.val (.ref am), .val (.int p1)] [(.int (0 : Int32)), (.ref am)])) rfl rfl (hb hby own_d5_14))
  have ld3 := (own_ldB X0 hx hZ e0 V_am (j := (1 : Int32)) (by decide) (k := 1) rfl (by decide) (v := (.int (14 : Int32))) rfl (g := (mkF m 29 #[.val (.ref am), .val (.int p1)] [(.int (1 : Int32)), (.ref am)])) rfl rfl (hb hby own_d5_29))
  have ld4 := (own_ldB X0 hx hZ e0 V_am (j := (2 : Int32)) (by decide) (k := 2) rfl (by decide) (v := (.int (1 : Int32))) rfl (g := (mkF m 41 #[.val (.ref am), .val (.int p1)] [(.int (2 : Int32)), (.ref am)])) rfl rfl (hb hby own_d5_41))
  have ld5 := (own_ldB X0 hx hZ e0 V_am (j := (3 : Int32)) (by decide) (k := 3) rfl (by decide) (v := (.int (1 : Int32))) rfl (g := (mkF m 52 #[.val (.ref am), .val (.int p1)] [(.int (3 : Int32)), (.ref am)])) rfl rfl (hb hby own_d5_52))
  obtain ⟨fs, hr, hrun, hended, hW, hsame⟩ := X0.leave (v := some (.int (1 : Int32))) (fun h => by rw [Bd.returns] at h; cases h) (BodyLoose.notSynchronized Bd)
  refine ⟨_, _, pre0 _ ?_, hrun, hended, _, _, rfl, ?_, ⟨_, rfl⟩, hW, hsame.mono (by decide) (by decide)⟩
  · skip
    show Steps p.tables e below (s₁.setTop (mkF m 0 #[.val (.ref am), .val (.int p1)] [])) _
    refine XS.aloadN X0.here hx rfl (hb hby own_d5_0) rfl rfl ?_
    show Steps p.tables e below (s₁.setTop (mkF m 1 #[.val (.ref am), .val (.int p1)] [(.ref am)])) _
    refine XS.ifnullNo X0.here hx rfl (hb hby own_d5_1) rfl ?_
    show Steps p.tables e below (s₁.setTop (mkF m 4 #[.val (.ref am), .val (.int p1)] [])) _
    refine XS.aloadN X0.here hx rfl (hb hby own_d5_4) rfl rfl ?_
    show Steps p.tables e below (s₁.setTop (mkF m 5 #[.val (.ref am), .val (.int p1)] [(.ref am)])) _
    refine ld1 _ ?_
    show Steps p.tables e below (s₁.setTop (mkF m 6 #[.val (.ref am), .val (.int p1)] [(.int (4 : Int32))])) _
    refine XS.iconst X0.here hx rfl (hb hby own_d5_6) ?_
    show Steps p.tables e below (s₁.setTop (mkF m 7 #[.val (.ref am), .val (.int p1)] [(.int (4 : Int32)), (.int (4 : Int32))])) _
    refine XS.icmpYes X0.here hx rfl (pc0 := 7) (pc' := 12) rfl (hb hby own_d5_7) rfl (teq rfl).1 (by decide) (by decide) ?_
    show Steps p.tables e below (s₁.setTop (mkF m 12 #[.val (.ref am), .val (.int p1)] [])) _
    refine XS.aloadN X0.here hx rfl (hb hby own_d5_12) rfl rfl ?_
    show Steps p.tables e below (s₁.setTop (mkF m 13 #[.val (.ref am), .val (.int p1)] [(.ref am)])) _
    refine XS.iconst X0.here hx rfl (hb hby own_d5_13) ?_
    show Steps p.tables e below (s₁.setTop (mkF m 14 #[.val (.ref am), .val (.int p1)] [(.int (0 : Int32)), (.ref am)])) _
    refine ld2 _ ?_
    show Steps p.tables e below (s₁.setTop (mkF m 15 #[.val (.ref am), .val (.int p1)] [(.int (p1.toInt8.toInt32))])) _
    refine XS.sipush X0.here hx rfl (hb hby own_d5_15) ?_
    show Steps p.tables e below (s₁.setTop (mkF m 18 #[.val (.ref am), .val (.int p1)] [(.int (255 : Int32)), (.int (p1.toInt8.toInt32))])) _
    refine XS.iand X0.here hx rfl (hb hby own_d5_18) rfl ?_
    show Steps p.tables e below (s₁.setTop (mkF m 19 #[.val (.ref am), .val (.int p1)] [(.int ((p1.toInt8.toInt32) &&& (255 : Int32)))])) _
    refine XS.iloadN X0.here hx rfl (hb hby own_d5_19) rfl ?_
    show Steps p.tables e below (s₁.setTop (mkF m 20 #[.val (.ref am), .val (.int p1)] [(.int p1), (.int ((p1.toInt8.toInt32) &&& (255 : Int32)))])) _
    refine XS.sipush X0.here hx rfl (hb hby own_d5_20) ?_
    show Steps p.tables e below (s₁.setTop (mkF m 23 #[.val (.ref am), .val (.int p1)] [(.int (255 : Int32)), (.int p1), (.int ((p1.toInt8.toInt32) &&& (255 : Int32)))])) _
    refine XS.iand X0.here hx rfl (hb hby own_d5_23) rfl ?_
    show Steps p.tables e below (s₁.setTop (mkF m 24 #[.val (.ref am), .val (.int p1)] [(.int (p1 &&& (255 : Int32))), (.int ((p1.toInt8.toInt32) &&& (255 : Int32)))])) _
    refine XS.icmpNo X0.here hx rfl (hb hby own_d5_24) rfl (teq (own_low8 p1)).2 ?_
    show Steps p.tables e below (s₁.setTop (mkF m 27 #[.val (.ref am), .val (.int p1)] [])) _
    refine XS.aloadN X0.here hx rfl (hb hby own_d5_27) rfl rfl ?_
    show Steps p.tables e below (s₁.setTop (mkF m 28 #[.val (.ref am), .val (.int p1)] [(.ref am)])) _
    refine XS.iconst X0.here hx rfl (hb hby own_d5_28) ?_
    show Steps p.tables e below (s₁.setTop (mkF m 29 #[.val (.ref am), .val (.int p1)] [(.int (1 : Int32)), (.ref am)])) _
    refine ld3 _ ?_
    show Steps p.tables e below (s₁.setTop (mkF m 30 #[.val (.ref am), .val (.int p1)] [(.int (14 : Int32))])) _
    refine XS.sipush X0.here hx rfl (hb hby own_d5_30) ?_
    show Steps p.tables e below (s₁.setTop (mkF m 33 #[.val (.ref am), .val (.int p1)] [(.int (255 : Int32)), (.int (14 : Int32))])) _
    refine XS.iand X0.here hx rfl (hb hby own_d5_33) rfl ?_
    show Steps p.tables e below (s₁.setTop (mkF m 34 #[.val (.ref am), .val (.int p1)] [(.int ((14 : Int32) &&& (255 : Int32)))])) _
    refine XS.bipush X0.here hx rfl (hb hby own_d5_34) ?_
    show Steps p.tables e below (s₁.setTop (mkF m 36 #[.val (.ref am), .val (.int p1)] [(.int (14 : Int32)), (.int ((14 : Int32) &&& (255 : Int32)))])) _
    refine XS.icmpNo X0.here hx rfl (hb hby own_d5_36) rfl (teq (by decide)).2 ?_
    show Steps p.tables e below (s₁.setTop (mkF m 39 #[.val (.ref am), .val (.int p1)] [])) _
    refine XS.aloadN X0.here hx rfl (hb hby own_d5_39) rfl rfl ?_
    show Steps p.tables e below (s₁.setTop (mkF m 40 #[.val (.ref am), .val (.int p1)] [(.ref am)])) _
    refine XS.iconst X0.here hx rfl (hb hby own_d5_40) ?_
    show Steps p.tables e below (s₁.setTop (mkF m 41 #[.val (.ref am), .val (.int p1)] [(.int (2 : Int32)), (.ref am)])) _
    refine ld4 _ ?_
    show Steps p.tables e below (s₁.setTop (mkF m 42 #[.val (.ref am), .val (.int p1)] [(.int (1 : Int32))])) _
    refine XS.sipush X0.here hx rfl (hb hby own_d5_42) ?_
    show Steps p.tables e below (s₁.setTop (mkF m 45 #[.val (.ref am), .val (.int p1)] [(.int (255 : Int32)), (.int (1 : Int32))])) _
    refine XS.iand X0.here hx rfl (hb hby own_d5_45) rfl ?_
    show Steps p.tables e below (s₁.setTop (mkF m 46 #[.val (.ref am), .val (.int p1)] [(.int ((1 : Int32) &&& (255 : Int32)))])) _
    refine XS.iconst X0.here hx rfl (hb hby own_d5_46) ?_
    show Steps p.tables e below (s₁.setTop (mkF m 47 #[.val (.ref am), .val (.int p1)] [(.int (1 : Int32)), (.int ((1 : Int32) &&& (255 : Int32)))])) _
    refine XS.icmpNo X0.here hx rfl (hb hby own_d5_47) rfl (teq (by decide)).2 ?_
    show Steps p.tables e below (s₁.setTop (mkF m 50 #[.val (.ref am), .val (.int p1)] [])) _
    refine XS.aloadN X0.here hx rfl (hb hby own_d5_50) rfl rfl ?_
    show Steps p.tables e below (s₁.setTop (mkF m 51 #[.val (.ref am), .val (.int p1)] [(.ref am)])) _
    refine XS.iconst X0.here hx rfl (hb hby own_d5_51) ?_
    show Steps p.tables e below (s₁.setTop (mkF m 52 #[.val (.ref am), .val (.int p1)] [(.int (3 : Int32)), (.ref am)])) _
    refine ld5 _ ?_
    show Steps p.tables e below (s₁.setTop (mkF m 53 #[.val (.ref am), .val (.int p1)] [(.int (1 : Int32))])) _
    refine XS.sipush X0.here hx rfl (hb hby own_d5_53) ?_
    show Steps p.tables e below (s₁.setTop (mkF m 56 #[.val (.ref am), .val (.int p1)] [(.int (255 : Int32)), (.int (1 : Int32))])) _
    refine XS.iand X0.here hx rfl (hb hby own_d5_56) rfl ?_
    show Steps p.tables e below (s₁.setTop (mkF m 57 #[.val (.ref am), .val (.int p1)] [(.int ((1 : Int32) &&& (255 : Int32)))])) _
    refine XS.iconst X0.here hx rfl (hb hby own_d5_57) ?_
    show Steps p.tables e below (s₁.setTop (mkF m 58 #[.val (.ref am), .val (.int p1)] [(.int (1 : Int32)), (.int ((1 : Int32) &&& (255 : Int32)))])) _
    refine XS.icmpNo X0.here hx rfl (hb hby own_d5_58) rfl (teq (by decide)).2 ?_
    show Steps p.tables e below (s₁.setTop (mkF m 61 #[.val (.ref am), .val (.int p1)] [])) _
    refine XS.iconst X0.here hx rfl (hb hby own_d5_61) ?_
    show Steps p.tables e below (s₁.setTop (mkF m 62 #[.val (.ref am), .val (.int p1)] [(.int (1 : Int32))])) _
    refine XS.goto X0.here hx rfl (pc0 := 62) (pc' := 66) rfl (hb hby own_d5_62) (by decide) (by decide) ?_
    show Steps p.tables e below (s₁.setTop (mkF m 66 #[.val (.ref am), .val (.int p1)] [(.int (1 : Int32))])) _
    exact retN X0 hx (t := .boolean) Bd.returns (by simp) (hb hby own_d5_66) hr
  · show own_Q5 Z am p1 h0 n0 _ s₁.heap _
    rw [e0]
    exact ⟨rfl, N0, rfl⟩
theorem own_pd1 : parseMethodDescriptor "(I)V" = some ⟨[.int], none⟩ := by decide +kernel
theorem own_pd2 : parseMethodDescriptor "()[B" = some ⟨[], some (.array .byte)⟩ := by decide +kernel
theorem own_pd3 : parseMethodDescriptor "([BI)Z" = some ⟨[(.array .byte), .int], some .boolean⟩ := by decide +kernel
theorem own_ef0 (m : MethodId) (x0 : Int32) : entryFrame m #[(.int x0)] maxLocals = mkF m 0 #[.val (.int x0), .unset, .unset, .unset] [] := by first | (simp [entryFrame, mkF, argsToLocals, Value.category, maxLocals]; done) | rfl
def own_Q0 (Z : State) (p1 : Int32) (h0 : Heap) (n0 : Nat) (v : Option Value) (h : Heap) (L : List Loc) : Prop := v = some (.int 1) ∧ Fr n0 L
set_option maxRecDepth 65536 in
set_option maxHeartbeats 40000000 in
theorem own_rm0 (l : Launch) (Z : State) (a0 : Array Value) (hw : ∀ d ∈ tables_1, d.before a0 Z = true) (ws : List Jvm.Cond) (p1 : Int32) (h0 : Heap) (n0 : Nat) (Z0 : n0 ≤ h0.size) :
    MetFree l x (head1 (Jvm.Cond.code x code maxLocals ret :: ws) room_1) (fun a U => a = #[(.int p1)] ∧ Z.Warmed39 U.vm ∧ U.heap = h0) (fun _ _ _ _ _ => True) (fun _ U o U' => ∃ v L, o = .returned v ∧ own_Q0 Z p1 h0 n0 v U'.heap L ∧ FrameEnd U o U' L room_1.cells room_1.slots) := by
  refine MetFree.of_bodySF (plainFor_of_name own_pn2) hisR ?_
  intro p e s m args below meth c s₁ Bd hml0 hP hK
  obtain ⟨rfl, hZ, hh⟩ := hP
  have hx := Bd.exec
  have hby := Bd.bytes
  have hml : c.maxLocals = 4 := hml0
  have hown : s.vm.findClass "com/example/patchwire/patchwire/ember/KeepAliveRequestEncodePinLaw" = some m.cls := findClass_of_methodNamed Bd.named
  have hnm := (name_of_methodNamed Bd.named Bd.method).1
  have X0 : Stand p l e room_1 s m #[(.int p1)] below meth c s₁ [] 0 0 := Stand.of_body Bd
  have e0 : s₁.heap = h0 := by rw [← hh, Bd.state]; rfl
  have N0 := Fr.nil n0
  have K0 := Keep.refl h0 []
  have pre0 : ∀ t, Steps p.tables e below (s₁.setTop (mkF m 0 #[.val (.int p1), .unset, .unset, .unset] [])) t → Steps p.tables e below (s₁.setTop (entryFrame m #[(.int p1)] maxLocals)) t := fun t kt0 => castTop (own_ef0 m (p1)) kt0
  obtain ⟨T1, h1, X1, e1, E1, A1, D1, -, st1⟩ := newO X0 hx hZ hown (hw _ (List.mem_of_getElem? (i := 0) rfl)) (hw _ (List.mem_of_getElem? (i := 1) rfl)) (hw _ (List.mem_of_getElem? (i := 2) rfl)) e0 (g := (mkF m 0 #[.val (.int p1), .unset, .unset, .unset] [])) rfl (hb hby at_0) (by decide) (by decide)
  obtain ⟨ob, g1⟩ : ∃ z, z = h0.size := ⟨_, rfl⟩
  rw [← g1] at A1 D1 st1
  have g_ob : n0 ≤ ob := by rw [g1]; exact Z0
  have Z2 := Nat.le_trans Z0 E1.1
  have E_ob := A1
  have F_slot_ob : Fld Z h1 ob "com/example/patchwire/patchwire/ember/S101Message$KeepAliveRequest" "slot" "I" (.int (0 : Int32)) := D1 (Or.inr (hw _ (List.mem_of_getElem? (i := 15) rfl))) (ty := .int) (by decide)
  obtain ⟨_, _, ⟨T3, L3, k3, n3⟩, -, X3, ⟨Lc3, hQ3, l3, y3, z3⟩, st3⟩ := X1.specialBack hx (y := (⟨"com/example/patchwire/patchwire/ember/S101Message$KeepAliveRequest", "<init>", "(I)V"⟩ : MethodName)) rfl hown (mvT hZ (hw _ (List.mem_of_getElem? (i := 3) rfl))) (mvT hZ (hw _ (List.mem_of_getElem? (i := 4) rfl))) (mvT hZ (hw _ (List.mem_of_getElem? (i := 5) rfl))) (by decide) (backOf (W := 1) (own_rm1 l Z a0 hw [] (ob) (p1) h1 n0 Z2 E_ob F_slot_ob g_ob) hZ (hw _ (List.mem_of_getElem? (i := 5) rfl)) (hw _ (List.mem_of_getElem? (i := 2) rfl)) (by decide) (by decide)) (g := (mkF m 5 #[.val (.int p1), .unset, .unset, .unset] [(.int p1), (.ref ob), (.ref ob)])) rfl (by rw [hml]; rfl) (Steps.refl _) (a := ob) (argsL := [(.int p1)]) (rest := [(.ref ob)]) (lenOf own_pd1 rfl) rfl (by show 2 * 0 + _ ≤ _; exact Nat.le_of_eq rfl) (hb hby at_5) (fun _ _ => ⟨rfl, e1, (by decide : 1 + 0 ≤ _), (by decide : 1 + 0 ≤ _)⟩)
  dsimp only [Pt.U, Pt.locs, Pt.cells, Pt.slots] at X3 l3 y3 z3 st3 hQ3
  subst l3 y3 z3
  obtain ⟨rfl, Nq3, Kq3, E_ob, F_slot_ob⟩ := hQ3
  have N3 := Fr.app N0 Nq3
  have Z3 := Nat.le_trans Z2 Kq3.1
  have lt_ob := F_slot_ob.lt
  obtain ⟨cq4, kq4, q4a, q4b, q4c⟩ := isOf hZ rfl E_ob
  obtain ⟨_, _, ⟨T4, L4, k4, n4⟩, -, X4, ⟨Lc4, hQ4, l4, y4, z4⟩, st4⟩ := X3.virtualBack hx (y := (⟨"com/example/patchwire/patchwire/ember/S101Message$KeepAliveRequest", "encode", "()[B"⟩ : MethodName)) (z := (⟨"com/example/patchwire/patchwire/ember/S101Message$KeepAliveRequest", "encode", "()[B"⟩ : MethodName)) hown (mvT hZ (hw _ (List.mem_of_getElem? (i := 16) rfl))) (mvT hZ (hw _ (List.mem_of_getElem? (i := 17) rfl))) (notFace_of_selects (args := #[]) (mvT hZ (hw _ (List.mem_of_getElem? (i := 19) rfl)))) (mvT hZ (hw _ (List.mem_of_getElem? (i := 19) rfl))) (mvT hZ (hw _ (List.mem_of_getElem? (i := 18) rfl))) (by decide) (backOf (W := 0) (own_rm4 l Z a0 hw [] ob p1 T3.heap n0 Z3 F_slot_ob) hZ (hw _ (List.mem_of_getElem? (i := 20) rfl)) (hw _ (List.mem_of_getElem? (i := 2) rfl)) (by decide) (by decide)) q4a q4c (g := (mkF m 10 #[.val (.int p1), .val (.ref ob), .unset, .unset] [(.ref ob)])) rfl (by rw [hml]; rfl) (Steps.refl _) (argsL := []) (rest := []) (lenOf own_pd2 rfl) rfl (by show 2 * 0 + _ ≤ _; exact Nat.le_of_eq rfl) (hb hby at_10) (fun _ _ => ⟨rfl, rfl, (by decide : 1 + 1 ≤ _), (by decide : 1 + 4 ≤ _)⟩)
  dsimp only [Pt.U, Pt.locs, Pt.cells, Pt.slots] at X4 l4 y4 z4 st4 hQ4
  subst l4 y4 z4
  obtain ⟨ba, rfl, Nq4, Kq4, g_ba, sz_ba, V_ba⟩ := hQ4
  have N4 := Fr.app N3 Nq4
  have E_ob := E_ob.keep Kq4
  have F_slot_ob := F_slot_ob.keep Kq4 nin0
  have Z4 := Nat.le_trans Z3 Kq4.1
  have neo : ob ≠ ba := fun q => by have := F_slot_ob.lt; have h2 := lt_ob; rw [q] at h2; exact absurd h2 (Nat.not_lt.mpr sz_ba)
  obtain ⟨_, _, ⟨T5, L5, k5, n5⟩, -, X5, ⟨Lc5, hQ5, l5, y5, z5⟩, st5⟩ := Jvm.LawKit.callS X4 hx (y := (⟨"com/example/patchwire/patchwire/ember/KeepAliveRequestEncodePinLaw", "isKeepAliveRequestBytes", "([BI)Z"⟩ : MethodName)) hown (mvT hZ (hw _ (List.mem_of_getElem? (i := 22) rfl))) (mvT hZ (hw _ (List.mem_of_getElem? (i := 23) rfl))) (mvT hZ (hw _ (List.mem_of_getElem? (i := 24) rfl))) (mvT hZ (hw _ (List.mem_of_getElem? (i := 25) rfl))) (by decide) (backOf (W := 0) (own_rm5 l Z a0 hw [] ba p1 T4.heap n0 Z4 V_ba) hZ (hw _ (List.mem_of_getElem? (i := 25) rfl)) (hw _ (List.mem_of_getElem? (i := 24) rfl)) (by decide) (by decide)) (g := (mkF m 16 #[.val (.int p1), .val (.ref ob), .val (.ref ba), .unset] [(.int p1), (.ref ba)])) rfl (by rw [hml]; rfl) (argsL := [(.ref ba), (.int p1)]) (rest := []) (lenOf own_pd3 rfl) rfl (by show 2 * 0 + _ ≤ _; exact Nat.le_of_eq rfl) (hb hby at_16) (fun _ _ => ⟨rfl, rfl, (by decide : 2 + 0 ≤ _), (by decide : 5 + 0 ≤ _)⟩)
  dsimp only [Pt.U, Pt.locs, Pt.cells, Pt.slots] at X5 l5 y5 z5 st5 hQ5
  subst l5 y5 z5
  obtain ⟨rfl, Nq5, eq5⟩ := hQ5
  have N5 := Fr.app N4 Nq5
  have ld6 := (own_ldB X5 hx hZ eq5 V_ba (j := (0 : Int32)) (by decide) (k := 0) rfl (by decide) (v := (.int (p1.toInt8.toInt32))) rfl (g := (mkF m 28 #[.val (.int p1), .val (.ref ob), .val (.ref ba), .unset] [(.int (0 : Int32)), (.ref ba), (.int (0 : Int32)), (.ref ba)])) rfl rfl (hb hby at_28))
  obtain ⟨T7, h7, X7, e7, W7, V7, st7⟩ := own_stB X5 hx hZ eq5 V_ba (j := (0 : Int32)) (by decide) (k := 0) rfl (by decide) (g := (mkF m 33 #[.val (.int p1), .val (.ref ob), .val (.ref ba), .unset] [(.int (((p1.toInt8.toInt32) ^^^ (90 : Int32)).toInt8.toInt32)), (.int (0 : Int32)), (.ref ba)])) rfl rfl (hb hby at_33)
  have E_ob := E_ob.wr W7
  have F_slot_ob := F_slot_ob.other W7 (Or.inl neo)
  have Z8 := Nat.le_trans Z4 (Keep.of_wr W7).1
  have N9 := Fr.snoc X7 N5 g_ba
  have V_ba := V7
  obtain ⟨T10, h10, X10, e10, W10, V10, st10⟩ := own_stB X7 hx hZ e7 V_ba (j := (1 : Int32)) (by decide) (k := 1) rfl (by decide) (g := (mkF m 37 #[.val (.int p1), .val (.ref ob), .val (.ref ba), .unset] [(.int (0 : Int32)), (.int (1 : Int32)), (.ref ba)])) rfl rfl (hb hby at_37)
  have E_ob := E_ob.wr W10
  have F_slot_ob := F_slot_ob.other W10 (Or.inl neo)
  have Z11 := Nat.le_trans Z8 (Keep.of_wr W10).1
  have N12 := Fr.snoc X10 N9 g_ba
  have V_ba := V10
  obtain ⟨T13, h13, X13, e13, W13, V13, st13⟩ := own_stB X10 hx hZ e10 V_ba (j := (2 : Int32)) (by decide) (k := 2) rfl (by decide) (g := (mkF m 42 #[.val (.int p1), .val (.ref ob), .val (.ref ba), .unset] [(.int (127 : Int32)), (.int (2 : Int32)), (.ref ba)])) rfl rfl (hb hby at_42)
  have E_ob := E_ob.wr W13
  have F_slot_ob := F_slot_ob.other W13 (Or.inl neo)
  have Z14 := Nat.le_trans Z11 (Keep.of_wr W13).1
  have N15 := Fr.snoc X13 N12 g_ba
  have V_ba := V13
  obtain ⟨T16, h16, X16, e16, W16, V16, st16⟩ := own_stB X13 hx hZ e13 V_ba (j := (3 : Int32)) (by decide) (k := 3) rfl (by decide) (g := (mkF m 47 #[.val (.int p1), .val (.ref ob), .val (.ref ba), .unset] [(.int (51 : Int32)), (.int (3 : Int32)), (.ref ba)])) rfl rfl (hb hby at_47)
  have E_ob := E_ob.wr W16
  have F_slot_ob := F_slot_ob.other W16 (Or.inl neo)
  have Z17 := Nat.le_trans Z14 (Keep.of_wr W16).1
  have N18 := Fr.snoc X16 N15 g_ba
  have V_ba := V16
  have lt_ba := V_ba.lt
  obtain ⟨cq19, kq19, q19a, q19b, q19c⟩ := isOf hZ e16 E_ob
  obtain ⟨_, _, ⟨T19, L19, k19, n19⟩, -, X19, ⟨Lc19, hQ19, l19, y19, z19⟩, st19⟩ := X16.virtualBack hx (y := (⟨"com/example/patchwire/patchwire/ember/S101Message$KeepAliveRequest", "encode", "()[B"⟩ : MethodName)) (z := (⟨"com/example/patchwire/patchwire/ember/S101Message$KeepAliveRequest", "encode", "()[B"⟩ : MethodName)) hown (mvT hZ (hw _ (List.mem_of_getElem? (i := 16) rfl))) (mvT hZ (hw _ (List.mem_of_getElem? (i := 17) rfl))) (notFace_of_selects (args := #[]) (mvT hZ (hw _ (List.mem_of_getElem? (i := 19) rfl)))) (mvT hZ (hw _ (List.mem_of_getElem? (i := 19) rfl))) (mvT hZ (hw _ (List.mem_of_getElem? (i := 18) rfl))) (by decide) (backOf (W := 0) (own_rm4 l Z a0 hw [] ob p1 h16 n0 Z17 F_slot_ob) hZ (hw _ (List.mem_of_getElem? (i := 20) rfl)) (hw _ (List.mem_of_getElem? (i := 2) rfl)) (by decide) (by decide)) q19a q19c (g := (mkF m 49 #[.val (.int p1), .val (.ref ob), .val (.ref ba), .unset] [(.ref ob)])) rfl (by rw [hml]; rfl) (Steps.refl _) (argsL := []) (rest := []) (lenOf own_pd2 rfl) rfl (by show 2 * 0 + _ ≤ _; exact Nat.le_of_eq rfl) (hb hby at_49) (fun _ _ => ⟨rfl, e16, (by decide : 2 + 1 ≤ _), (by decide : 5 + 4 ≤ _)⟩)
  dsimp only [Pt.U, Pt.locs, Pt.cells, Pt.slots] at X19 l19 y19 z19 st19 hQ19
  subst l19 y19 z19
  obtain ⟨bb, rfl, Nq19, Kq19, g_bb, sz_bb, V_bb⟩ := hQ19
  have N19 := Fr.app N18 Nq19
  have E_ob := E_ob.keep Kq19
  have F_slot_ob := F_slot_ob.keep Kq19 nin0
  have V_ba := V_ba.keep Kq19 nin0
  have Z19 := Nat.le_trans Z17 Kq19.1
  have ne_ba_bb : bb ≠ ba := fun q => by have := lt_ba; rw [← q] at this; exact absurd this (Nat.not_lt.mpr sz_bb)
  obtain ⟨_, _, ⟨T20, L20, k20, n20⟩, -, X20, ⟨Lc20, hQ20, l20, y20, z20⟩, st20⟩ := Jvm.LawKit.callS X19 hx (y := (⟨"com/example/patchwire/patchwire/ember/KeepAliveRequestEncodePinLaw", "isKeepAliveRequestBytes", "([BI)Z"⟩ : MethodName)) hown (mvT hZ (hw _ (List.mem_of_getElem? (i := 22) rfl))) (mvT hZ (hw _ (List.mem_of_getElem? (i := 23) rfl))) (mvT hZ (hw _ (List.mem_of_getElem? (i := 24) rfl))) (mvT hZ (hw _ (List.mem_of_getElem? (i := 25) rfl))) (by decide) (backOf (W := 0) (own_rm5 l Z a0 hw [] bb p1 T19.heap n0 Z19 V_bb) hZ (hw _ (List.mem_of_getElem? (i := 25) rfl)) (hw _ (List.mem_of_getElem? (i := 24) rfl)) (by decide) (by decide)) (g := (mkF m 62 #[.val (.int p1), .val (.ref ob), .val (.ref ba), .val (.ref bb)] [(.int p1), (.ref bb)])) rfl (by rw [hml]; rfl) (argsL := [(.ref bb), (.int p1)]) (rest := []) (lenOf own_pd3 rfl) rfl (by show 2 * 0 + _ ≤ _; exact Nat.le_of_eq rfl) (hb hby at_62) (fun _ _ => ⟨rfl, rfl, (by decide : 3 + 0 ≤ _), (by decide : 9 + 0 ≤ _)⟩)
  dsimp only [Pt.U, Pt.locs, Pt.cells, Pt.slots] at X20 l20 y20 z20 st20 hQ20
  subst l20 y20 z20
  obtain ⟨rfl, Nq20, eq20⟩ := hQ20
  have N20 := Fr.app N19 Nq20
  obtain ⟨fs, hr, hrun, hended, hW, hsame⟩ := X20.leave (v := some (.int (1 : Int32))) (fun h => by rw [Bd.returns] at h; cases h) (BodyLoose.notSynchronized Bd)
  refine ⟨_, _, pre0 _ ?_, hrun, hended, _, _, rfl, ?_, ⟨_, rfl⟩, hW, hsame.mono (by decide) (by decide)⟩
  · skip
    show Steps p.tables e below (s₁.setTop (mkF m 0 #[.val (.int p1), .unset, .unset, .unset] [])) _
    refine st1 _ ?_
    show Steps p.tables e below (T1.setTop (mkF m 3 #[.val (.int p1), .unset, .unset, .unset] [(.ref ob)])) _
    refine XS.dup X1.here hx rfl (hb hby at_3) rfl rfl ?_
    show Steps p.tables e below (T1.setTop (mkF m 4 #[.val (.int p1), .unset, .unset, .unset] [(.ref ob), (.ref ob)])) _
    refine XS.iloadN X1.here hx rfl (hb hby at_4) rfl ?_
    show Steps p.tables e below (T1.setTop (mkF m 5 #[.val (.int p1), .unset, .unset, .unset] [(.int p1), (.ref ob), (.ref ob)])) _
    refine st3.trans ?_
    show Steps p.tables e below (T3.setTop (mkF m 8 #[.val (.int p1), .unset, .unset, .unset] [(.ref ob)])) _
    refine XS.astoreN X3.here hx rfl (hb hby at_8) rfl rfl (l' := #[.val (.int p1), .val (.ref ob), .unset, .unset]) rfl ?_
    show Steps p.tables e below (T3.setTop (mkF m 9 #[.val (.int p1), .val (.ref ob), .unset, .unset] [])) _
    refine XS.aloadN X3.here hx rfl (hb hby at_9) rfl rfl ?_
    show Steps p.tables e below (T3.setTop (mkF m 10 #[.val (.int p1), .val (.ref ob), .unset, .unset] [(.ref ob)])) _
    refine st4.trans ?_
    show Steps p.tables e below (T4.setTop (mkF m 13 #[.val (.int p1), .val (.ref ob), .unset, .unset] [(.ref ba)])) _
    refine XS.astoreN X4.here hx rfl (hb hby at_13) rfl rfl (l' := #[.val (.int p1), .val (.ref ob), .val (.ref ba), .unset]) rfl ?_
    show Steps p.tables e below (T4.setTop (mkF m 14 #[.val (.int p1), .val (.ref ob), .val (.ref ba), .unset] [])) _
    refine XS.aloadN X4.here hx rfl (hb hby at_14) rfl rfl ?_
    show Steps p.tables e below (T4.setTop (mkF m 15 #[.val (.int p1), .val (.ref ob), .val (.ref ba), .unset] [(.ref ba)])) _
    refine XS.iloadN X4.here hx rfl (hb hby at_15) rfl ?_
    show Steps p.tables e below (T4.setTop (mkF m 16 #[.val (.int p1), .val (.ref ob), .val (.ref ba), .unset] [(.int p1), (.ref ba)])) _
    refine st5 _ ?_
    show Steps p.tables e below (T5.setTop (mkF m 19 #[.val (.int p1), .val (.ref ob), .val (.ref ba), .unset] [(.int (1 : Int32))])) _
    refine XS.ifYes X5.here hx rfl (pc0 := 19) (pc' := 24) rfl (hb hby at_19) rfl ((if0 _ _).trans (feq (by decide)).2) (by decide) (by decide) ?_
    show Steps p.tables e below (T5.setTop (mkF m 24 #[.val (.int p1), .val (.ref ob), .val (.ref ba), .unset] [])) _
    refine XS.aloadN X5.here hx rfl (hb hby at_24) rfl rfl ?_
    show Steps p.tables e below (T5.setTop (mkF m 25 #[.val (.int p1), .val (.ref ob), .val (.ref ba), .unset] [(.ref ba)])) _
    refine XS.iconst X5.here hx rfl (hb hby at_25) ?_
    show Steps p.tables e below (T5.setTop (mkF m 26 #[.val (.int p1), .val (.ref ob), .val (.ref ba), .unset] [(.int (0 : Int32)), (.ref ba)])) _
    refine XS.aloadN X5.here hx rfl (hb hby at_26) rfl rfl ?_
    show Steps p.tables e below (T5.setTop (mkF m 27 #[.val (.int p1), .val (.ref ob), .val (.ref ba), .unset] [(.ref ba), (.int (0 : Int32)), (.ref ba)])) _
    refine XS.iconst X5.here hx rfl (hb hby at_27) ?_
    show Steps p.tables e below (T5.setTop (mkF m 28 #[.val (.int p1), .val (.ref ob), .val (.ref ba), .unset] [(.int (0 : Int32)), (.ref ba), (.int (0 : Int32)), (.ref ba)])) _
    refine ld6 _ ?_
    show Steps p.tables e below (T5.setTop (mkF m 29 #[.val (.int p1), .val (.ref ob), .val (.ref ba), .unset] [(.int (p1.toInt8.toInt32)), (.int (0 : Int32)), (.ref ba)])) _
    refine XS.bipush X5.here hx rfl (hb hby at_29) ?_
    show Steps p.tables e below (T5.setTop (mkF m 31 #[.val (.int p1), .val (.ref ob), .val (.ref ba), .unset] [(.int (90 : Int32)), (.int (p1.toInt8.toInt32)), (.int (0 : Int32)), (.ref ba)])) _
    refine XS.ixor X5.here hx rfl (hb hby at_31) rfl ?_
    show Steps p.tables e below (T5.setTop (mkF m 32 #[.val (.int p1), .val (.ref ob), .val (.ref ba), .unset] [(.int ((p1.toInt8.toInt32) ^^^ (90 : Int32))), (.int (0 : Int32)), (.ref ba)])) _
    refine XS.i2b X5.here hx rfl (hb hby at_32) rfl ?_
    show Steps p.tables e below (T5.setTop (mkF m 33 #[.val (.int p1), .val (.ref ob), .val (.ref ba), .unset] [(.int (((p1.toInt8.toInt32) ^^^ (90 : Int32)).toInt8.toInt32)), (.int (0 : Int32)), (.ref ba)])) _
    refine st7 _ ?_
    show Steps p.tables e below (T7.setTop (mkF m 34 #[.val (.int p1), .val (.ref ob), .val (.ref ba), .unset] [])) _
    refine XS.aloadN X7.here hx rfl (hb hby at_34) rfl rfl ?_
    show Steps p.tables e below (T7.setTop (mkF m 35 #[.val (.int p1), .val (.ref ob), .val (.ref ba), .unset] [(.ref ba)])) _
    refine XS.iconst X7.here hx rfl (hb hby at_35) ?_
    show Steps p.tables e below (T7.setTop (mkF m 36 #[.val (.int p1), .val (.ref ob), .val (.ref ba), .unset] [(.int (1 : Int32)), (.ref ba)])) _
    refine XS.iconst X7.here hx rfl (hb hby at_36) ?_
    show Steps p.tables e below (T7.setTop (mkF m 37 #[.val (.int p1), .val (.ref ob), .val (.ref ba), .unset] [(.int (0 : Int32)), (.int (1 : Int32)), (.ref ba)])) _
    refine st10 _ ?_
    show Steps p.tables e below (T10.setTop (mkF m 38 #[.val (.int p1), .val (.ref ob), .val (.ref ba), .unset] [])) _
    refine XS.aloadN X10.here hx rfl (hb hby at_38) rfl rfl ?_
    show Steps p.tables e below (T10.setTop (mkF m 39 #[.val (.int p1), .val (.ref ob), .val (.ref ba), .unset] [(.ref ba)])) _
    refine XS.iconst X10.here hx rfl (hb hby at_39) ?_
    show Steps p.tables e below (T10.setTop (mkF m 40 #[.val (.int p1), .val (.ref ob), .val (.ref ba), .unset] [(.int (2 : Int32)), (.ref ba)])) _
    refine XS.bipush X10.here hx rfl (hb hby at_40) ?_
    show Steps p.tables e below (T10.setTop (mkF m 42 #[.val (.int p1), .val (.ref ob), .val (.ref ba), .unset] [(.int (127 : Int32)), (.int (2 : Int32)), (.ref ba)])) _
    refine st13 _ ?_
    show Steps p.tables e below (T13.setTop (mkF m 43 #[.val (.int p1), .val (.ref ob), .val (.ref ba), .unset] [])) _
    refine XS.aloadN X13.here hx rfl (hb hby at_43) rfl rfl ?_
    show Steps p.tables e below (T13.setTop (mkF m 44 #[.val (.int p1), .val (.ref ob), .val (.ref ba), .unset] [(.ref ba)])) _
    refine XS.iconst X13.here hx rfl (hb hby at_44) ?_
    show Steps p.tables e below (T13.setTop (mkF m 45 #[.val (.int p1), .val (.ref ob), .val (.ref ba), .unset] [(.int (3 : Int32)), (.ref ba)])) _
    refine XS.bipush X13.here hx rfl (hb hby at_45) ?_
    show Steps p.tables e below (T13.setTop (mkF m 47 #[.val (.int p1), .val (.ref ob), .val (.ref ba), .unset] [(.int (51 : Int32)), (.int (3 : Int32)), (.ref ba)])) _
    refine st16 _ ?_
    show Steps p.tables e below (T16.setTop (mkF m 48 #[.val (.int p1), .val (.ref ob), .val (.ref ba), .unset] [])) _
    refine XS.aloadN X16.here hx rfl (hb hby at_48) rfl rfl ?_
    show Steps p.tables e below (T16.setTop (mkF m 49 #[.val (.int p1), .val (.ref ob), .val (.ref ba), .unset] [(.ref ob)])) _
    refine st19.trans ?_
    show Steps p.tables e below (T19.setTop (mkF m 52 #[.val (.int p1), .val (.ref ob), .val (.ref ba), .unset] [(.ref bb)])) _
    refine XS.astoreN X19.here hx rfl (hb hby at_52) rfl rfl (l' := #[.val (.int p1), .val (.ref ob), .val (.ref ba), .val (.ref bb)]) rfl ?_
    show Steps p.tables e below (T19.setTop (mkF m 53 #[.val (.int p1), .val (.ref ob), .val (.ref ba), .val (.ref bb)] [])) _
    refine XS.aloadN X19.here hx rfl (hb hby at_53) rfl rfl ?_
    show Steps p.tables e below (T19.setTop (mkF m 54 #[.val (.int p1), .val (.ref ob), .val (.ref ba), .val (.ref bb)] [(.ref bb)])) _
    refine XS.aloadN X19.here hx rfl (hb hby at_54) rfl rfl ?_
    show Steps p.tables e below (T19.setTop (mkF m 55 #[.val (.int p1), .val (.ref ob), .val (.ref ba), .val (.ref bb)] [(.ref ba), (.ref bb)])) _
    refine Jvm.RoadKit.acmp (g := (mkF m 55 #[.val (.int p1), .val (.ref ob), .val (.ref ba), .val (.ref bb)] [(.ref ba), (.ref bb)])) X19 hx rfl rfl rfl (pc0 := 55) (pc' := 60) (same := false) rfl (hb hby at_55) rfl (decide_eq_false fun q => ne_ba_bb (Value.ref.inj q)) (by decide) (by decide) ?_
    show Steps p.tables e below (T19.setTop (mkF m 60 #[.val (.int p1), .val (.ref ob), .val (.ref ba), .val (.ref bb)] [])) _
    refine XS.aloadN X19.here hx rfl (hb hby at_60) rfl rfl ?_
    show Steps p.tables e below (T19.setTop (mkF m 61 #[.val (.int p1), .val (.ref ob), .val (.ref ba), .val (.ref bb)] [(.ref bb)])) _
    refine XS.iloadN X19.here hx rfl (hb hby at_61) rfl ?_
    show Steps p.tables e below (T19.setTop (mkF m 62 #[.val (.int p1), .val (.ref ob), .val (.ref ba), .val (.ref bb)] [(.int p1), (.ref bb)])) _
    refine st20 _ ?_
    show Steps p.tables e below (T20.setTop (mkF m 65 #[.val (.int p1), .val (.ref ob), .val (.ref ba), .val (.ref bb)] [(.int (1 : Int32))])) _
    exact retN X20 hx (t := .boolean) Bd.returns (by simp) (hb hby at_65) hr
  · show own_Q0 Z p1 h0 n0 _ T20.heap _
    rw [eq20]
    exact ⟨rfl, N20⟩
set_option maxRecDepth 65536 in
set_option maxHeartbeats 40000000 in
theorem own_comes {Post : Tables → Env → Array Value → State → Outcome → State → Prop} (hpost : ∀ tb e args s v u, (limb_1_1.after args s (.returned v) u = true ∧ limb_1_2.after args s (.returned v) u = true ∧ True) → FrameEnd s (.returned v) u (Jvm.fieldLocs frame_1_writes args s ++ Jvm.arrayLocs frame_1_arrays args s ++ Jvm.staticLocs frame_1_statics s) 16 128 → Post tb e args s (.returned v) u) :
    ArmFor flags0 classFile x code maxLocals ret World_1 tables_1 room_1 Calls_1 rest_1 Pre_1 Post := by
  intro l hfl _ _ p e ha hc hk s m args below hf hA hF happ hP
  obtain ⟨hcalls, hrest, hpre⟩ := hP
  obtain ⟨-, -, -, hnamed, -, -, -, hat⟩ := (Spec.applies_iff hf).mp happ
  obtain ⟨hg, hn⟩ := and_e (Cond.before_iff.mp (show (Jvm.Cond.and given_1 narrow_1).before args s = true from hpre))
  obtain ⟨gc, ga0⟩ := and_e hg
  obtain ⟨w0, rfl⟩ : ∃ w0 : Value, args = #[w0] := by
    have hs : args.size = 1 := by simpa [Cond.value, given_1] using gc
    obtain ⟨L⟩ := args
    match L, hs with
    | [w0], _ => exact ⟨w0, rfl⟩
  have hw := fun d (hd : d ∈ tables_1) => atoms_spec (ws := Jvm.Cond.code x code maxLocals ret :: tables_1) hat d (List.mem_cons_of_mem _ hd)
  obtain ⟨i0, ei0⟩ := is_v ga0
  obtain rfl : w0 = (.int i0) := Option.some.inj ei0
  obtain ⟨n, o, h1, h2, h3, _, L, rfl, ⟨rfl, N⟩, hq⟩ := own_rm0 l s _ hw tables_1 i0 s.heap s.heap.size (Nat.le_refl _) p e ha hc hk s m _ below hf ((Spec.applies_iff_loose hf).mp happ).1 ⟨rfl, State.Warmed39.refl s, rfl⟩ trivial
  refine ⟨n, _, h1, h2, h3, hpost _ _ _ _ _ _ ⟨Cond.after_iff.mpr rfl, Cond.after_iff.mpr (eq_i res_at (Term.int_eval (1)) rfl), trivial⟩ ⟨hq.1, hq.2.1, (hq.2.2.sift fun y hy => Or.inr (N y hy)).mono (by decide) (by decide)⟩⟩
theorem main_1_1 : Claimed_1_1 := own_comes fun _ _ _ _ _ _ h hF => ⟨h.1, hF⟩
theorem main_1_2 : Claimed_1_2 := own_comes fun _ _ _ _ _ _ h hF => ⟨h.2.1, hF⟩
end Jvm.Pilot.@@N@@
namespace Jvm.Pilot.@@N@@
open Jvm Jvm.ClassFile Sem Op Lib Jvm.Free Jvm.Stand Jvm.Pilot.@@N@@.Jvm.D
/-! MADE BY PROGRAM (witnessworld.py) out of the Statement's table words and the real class files: 11 classes; the members and pool entries that the words name. The judged class is class 1, her method 2. -/
namespace start1
open Jvm.ClassFile
def u (s : String) : CpInfo := .utf8 (stringToUtf16 s)
/-- a pool by its gaps: so many unusable entries, then the entry; so many at the end -/
def gap : Nat → List CpInfo → List CpInfo
  | 0, r => r
  | n + 1, r => .unusable :: gap n r
def poolList (es : List (Nat × CpInfo)) (last : Nat) : List CpInfo := es.foldr (fun e r => gap e.1 (e.2 :: r)) (gap last [])
def pool (es : List (Nat × CpInfo)) (last : Nat) : Array CpInfo := ⟨poolList es last⟩
def fileOf (pool : Array CpInfo) (this : Nat) (attrs : Array Attribute := #[]) (ms : Array MethodInfo := #[]) (fl : Nat := 33) (sup : Nat := 0) (ifs : Array Nat := #[]) (fds : Array FieldInfo := #[]) : ClassFile where
  minorVersion := 0
  majorVersion := 65
  constantPool := pool
  accessFlags := fl
  thisClass := this
  superClass := sup
  interfaces := ifs
  fields := fds
  methods := ms
  attributes := attrs
def plain (name : String) (sup : Option ClassId) : Class where
  name := name
  kind := .ordinary
  loader := none
  accessFlags := 33
  super := sup
  interfaces := #[]
  cf := none
  fields := #[]
  methods := #[]
  instanceTypes := #[]
  staticTypes := #[]
  resolved := #[]
  callSites := []
  init := .initialized
  statics := none
  mirror := none

def pool0 : Array CpInfo := pool [(5, u "<init>"), (0, u "()V"), (1, .class_ 10), (1, u "java/lang/Object")] 113

def k0c0 : Code := { maxStack := 0, maxLocals := 1, code := object_method_1_code, exceptionTable := #[], attributes := #[] }
def k0m0 : Method := { name := "<init>", desc := "()V", sig := { parameters := [], returnType := none }, accessFlags := 1, code := some k0c0 }
/-- java/lang/Object -/
def k0 : Class := { plain "java/lang/Object" none with
  accessFlags := 33
  interfaces := #[]
  cf := some (fileOf pool0 8 #[] #[{ accessFlags := 1, nameIndex := 5, descriptorIndex := 6, attributes := #[] }] 33 0 #[] #[])
  fields := #[]
  methods := #[k0m0]
  instanceTypes := #[]
  staticTypes := #[]
  resolved := Array.replicate 124 none
  statics := none }

def pool1 : Array CpInfo := pool [(2, .class_ 4), (1, u "java/lang/Object"), (0, u "<init>"), (0, u "()V"), (0, .class_ 8), (0, u "com/example/patchwire/patchwire/ember/S101Message$KeepAliveRequest"), (0, .methodref 7 10), (0, .nameAndType 5 11), (0, u "(I)V"), (0, .methodref 7 13), (0, .nameAndType 14 15), (0, u "encode"), (0, u "()[B"), (0, .methodref 17 18), (0, .class_ 19), (0, .nameAndType 20 21), (0, u "com/example/patchwire/patchwire/ember/KeepAliveRequestEncodePinLaw"), (0, u "isKeepAliveRequestBytes"), (0, u "([BI)Z"), (3, u "law"), (0, u "(I)Z")] 8

def k1m0 : Method := { name := "<init>", desc := "()V", sig := { parameters := [], returnType := none }, accessFlags := 1, code := none }
def k1c1 : Code := { maxStack := 3, maxLocals := 2, code := method_2_code, exceptionTable := #[], attributes := #[] }
def k1m1 : Method := { name := "isKeepAliveRequestBytes", desc := "([BI)Z", sig := { parameters := [(.array .byte), .int], returnType := some .boolean }, accessFlags := 10, code := some k1c1 }
def k1c2 : Code := { maxStack := 4, maxLocals := 4, code := code, exceptionTable := #[], attributes := #[] }
def k1m2 : Method := { name := "law", desc := "(I)Z", sig := { parameters := [.int], returnType := some .boolean }, accessFlags := 9, code := some k1c2 }
/-- com/example/patchwire/patchwire/ember/KeepAliveRequestEncodePinLaw -/
def k1 : Class := { plain "com/example/patchwire/patchwire/ember/KeepAliveRequestEncodePinLaw" (some 0) with
  accessFlags := 49
  interfaces := #[]
  cf := some (fileOf pool1 17 #[] #[{ accessFlags := 1, nameIndex := 5, descriptorIndex := 6, attributes := #[] }, { accessFlags := 10, nameIndex := 20, descriptorIndex := 21, attributes := #[] }, { accessFlags := 9, nameIndex := 25, descriptorIndex := 26, attributes := #[] }] 49 2 #[] #[])
  fields := #[]
  methods := #[k1m0, k1m1, k1m2]
  instanceTypes := #[]
  staticTypes := #[]
  resolved := Array.replicate 35 none
  statics := none }

def pool2 : Array CpInfo := pool [(1, .methodref 2 3), (0, .class_ 4), (0, .nameAndType 5 6), (0, u "java/lang/Object"), (0, u "<init>"), (0, u "()V"), (0, .class_ 8), (0, u "java/lang/Record")] 13

def k2c0 : Code := { maxStack := 1, maxLocals := 1, code := jdk_30_method_1_code, exceptionTable := #[], attributes := #[] }
def k2m0 : Method := { name := "<init>", desc := "()V", sig := { parameters := [], returnType := none }, accessFlags := 4, code := some k2c0 }
/-- java/lang/Record -/
def k2 : Class := { plain "java/lang/Record" (some 0) with
  accessFlags := 1057
  interfaces := #[]
  cf := some (fileOf pool2 7 #[] #[{ accessFlags := 4, nameIndex := 5, descriptorIndex := 6, attributes := #[] }] 1057 2 #[] #[])
  fields := #[]
  methods := #[k2m0]
  instanceTypes := #[]
  staticTypes := #[]
  resolved := Array.replicate 22 none
  statics := none }

def pool3 : Array CpInfo := pool [(1, .class_ 2), (0, u "com/example/patchwire/patchwire/ember/S101Message"), (6, .class_ 10), (0, u "com/example/patchwire/patchwire/ember/S101Message$KeepAliveRequest"), (8, .class_ 20), (0, u "com/example/patchwire/patchwire/ember/S101Message$KeepAliveResponse"), (2, .class_ 25), (1, u "com/example/patchwire/patchwire/ember/S101Message$EmberPacket"), (2, .class_ 29), (0, u "java/lang/Object"), (0, u "MESSAGE_TYPE_EMBER"), (0, u "I"), (2, u "VERSION")] 19

/-- com/example/patchwire/patchwire/ember/S101Message -/
def k3 : Class := { plain "com/example/patchwire/patchwire/ember/S101Message" (some 0) with
  accessFlags := 1537
  interfaces := #[]
  cf := some (fileOf pool3 1 #[.nestMembers #[23, 19, 9]] #[] 1537 28 #[] #[{ accessFlags := 25, nameIndex := 30, descriptorIndex := 31, attributes := #[] }, { accessFlags := 25, nameIndex := 34, descriptorIndex := 31, attributes := #[] }])
  fields := #[{ name := "MESSAGE_TYPE_EMBER", type := .int, accessFlags := 25, slot := 0, constantValue := 0 }, { name := "VERSION", type := .int, accessFlags := 25, slot := 1, constantValue := 0 }]
  methods := #[]
  instanceTypes := #[]
  staticTypes := #[.int, .int]
  resolved := Array.replicate 54 none
  statics := none }

def pool4 : Array CpInfo := pool [(1, .methodref 2 3), (0, .class_ 4), (0, .nameAndType 5 6), (0, u "java/lang/Record"), (0, u "<init>"), (0, u "()V"), (0, .fieldref 8 9), (0, .class_ 10), (0, .nameAndType 11 12), (0, u "com/example/patchwire/patchwire/ember/S101Message$KeepAliveRequest"), (0, u "slot"), (0, u "I"), (0, .class_ 14), (0, u "com/example/patchwire/patchwire/ember/S101Message"), (12, u "COMMAND"), (0, u "B"), (2, u "(I)V"), (3, u "encode"), (0, u "()[B")] 24

def k4c0 : Code := { maxStack := 2, maxLocals := 2, code := prog_45_method_1_code, exceptionTable := #[], attributes := #[] }
def k4m0 : Method := { name := "<init>", desc := "(I)V", sig := { parameters := [.int], returnType := none }, accessFlags := 1, code := some k4c0 }
def k4c1 : Code := { maxStack := 4, maxLocals := 1, code := prog_45_method_2_code, exceptionTable := #[], attributes := #[] }
def k4m1 : Method := { name := "encode", desc := "()[B", sig := { parameters := [], returnType := some (.array .byte) }, accessFlags := 1, code := some k4c1 }
/-- com/example/patchwire/patchwire/ember/S101Message$KeepAliveRequest -/
def k4 : Class := { plain "com/example/patchwire/patchwire/ember/S101Message$KeepAliveRequest" (some 2) with
  accessFlags := 49
  interfaces := #[3]
  cf := some (fileOf pool4 8 #[.nestHost 13] #[{ accessFlags := 1, nameIndex := 5, descriptorIndex := 31, attributes := #[] }, { accessFlags := 1, nameIndex := 35, descriptorIndex := 36, attributes := #[] }] 49 2 #[13] #[{ accessFlags := 18, nameIndex := 11, descriptorIndex := 12, attributes := #[] }, { accessFlags := 24, nameIndex := 27, descriptorIndex := 28, attributes := #[] }])
  fields := #[{ name := "slot", type := .int, accessFlags := 18, slot := 0, constantValue := 0 }, { name := "COMMAND", type := .byte, accessFlags := 24, slot := 0, constantValue := 0 }]
  methods := #[k4m0, k4m1]
  instanceTypes := #[.int]
  staticTypes := #[.byte]
  resolved := Array.replicate 61 none
  statics := none }

def pool5 : Array CpInfo := pool [(1, u "java/lang/Cloneable"), (0, .class_ 1), (0, u "java/lang/Object"), (0, .class_ 3)] 3

/-- java/lang/Cloneable -/
def k5 : Class := { plain "java/lang/Cloneable" (some 0) with
  accessFlags := 1537
  interfaces := #[]
  cf := some (fileOf pool5 2 #[] #[] 1537 4 #[] #[])
  fields := #[]
  methods := #[]
  instanceTypes := #[]
  staticTypes := #[]
  resolved := Array.replicate 8 none
  statics := none }

def pool6 : Array CpInfo := pool [(1, u "java/io/Serializable"), (0, .class_ 1), (0, u "java/lang/Object"), (0, .class_ 3)] 3

/-- java/io/Serializable -/
def k6 : Class := { plain "java/io/Serializable" (some 0) with
  accessFlags := 1537
  interfaces := #[]
  cf := some (fileOf pool6 2 #[] #[] 1537 4 #[] #[])
  fields := #[]
  methods := #[]
  instanceTypes := #[]
  staticTypes := #[]
  resolved := Array.replicate 8 none
  statics := none }

/-- the primitive byte -/
def k7 : Class := { plain "byte" none with kind := .primitive 'B', accessFlags := 0x411 }
/-- [B -/
def k8 : Class := { plain "[B" (some 0) with kind := .array 7 .byte, interfaces := #[5, 6], accessFlags := 1041 }

/-- the primitive int -/
def k9 : Class := { plain "int" none with kind := .primitive 'I', accessFlags := 0x411 }
/-- [I -/
def k10 : Class := { plain "[I" (some 0) with kind := .array 9 .int, interfaces := #[5, 6], accessFlags := 1041 }

def heap : Heap := #[]
def classes : Array Class := #[k0, k1, k2, k3, k4, k5, k6, k7, k8, k9, k10]
def interned : List (Array UInt16 × Addr) := []
def slotsUsed : Nat := 0
def theMethod : MethodId := ⟨1, 2⟩
def args0 : Array Value := #[.int 5]
def aboutOver (below : List Frame) : State where
  vm := { classes := classes, interned := interned.toArray }
  heap := heap
  slotsUsed := slotsUsed
  threads := #[{ frames := .invoking theMethod args0 :: below }]
def below0 : List Frame := [.native { method := ⟨0, 0⟩, args := #[] }]
def about1 : State := aboutOver below0
def p0 : Program := .bare "" "" ""
def e0 : Env := launch0.env 0 0 0
theorem w_frames : about1.frames = Frame.invoking theMethod args0 :: below0 := rfl
set_option maxRecDepth 65536 in
theorem w_args : argsFit about1.vm theMethod args0 = true := by decide +kernel
set_option maxRecDepth 65536 in
theorem w_heap : heapFits about1 = true := by decide +kernel
set_option maxRecDepth 65536 in
theorem w_runnable : about1.curStatus? = some .runnable := by decide +kernel
set_option maxRecDepth 65536 in
theorem w_alone : about1.alone = true := by decide +kernel
set_option maxRecDepth 65536 in
theorem w_named : about1.methodNamed? x = some theMethod := by decide +kernel
set_option maxRecDepth 65536 in
theorem w_hears : about1.hears theMethod below0 = true := by decide +kernel
set_option maxRecDepth 65536 in
theorem w_ripe : about1.ripe theMethod args0 below0 = true := by decide +kernel
theorem w_running : about1.status = .running := rfl
set_option maxRecDepth 65536 in
theorem w_room : about1.hasRoom e0.platform room_1 = true :=
  launch0.hasRoom_least _ room_1 (by decide +kernel) (by decide +kernel) (by decide +kernel) (by decide +kernel) (by decide +kernel) (by decide +kernel)
theorem allAtoms_all (ts : List Jvm.Cond) (a : Array Jvm.Value) (st : Jvm.State) : (allAtoms ts).before a st = ts.all (fun c => c.before a st) := by
  induction ts with
  | nil => rfl
  | cons c t ih =>
    show (Jvm.Cond.and c (allAtoms t)).before a st = _
    rw [Jvm.Cond.before_and, ih, List.all_cons]
def words1 : List Jvm.Cond := Jvm.Cond.code x code maxLocals ret :: tables_1
/-- a 'code' word, met by the world's own term for the bytes: nothing is compared byte by byte -/
theorem code_word {y : MethodName} {bytes : ByteArray} {mx : Nat} {rt : Option FieldType} {a : Array Value} {s : State} {m : MethodId} {meth : Method} {c : Code} (h1 : s.methodNamed? y = some m) (h2 : s.vm.method? m = some meth) (h3 : meth.code = some c) (h4 : c.code = bytes)
    (h5 : (c.maxLocals == mx && c.exceptionTable.isEmpty && decide (c.maxStack ≤ mostOperands) && decide (meth.sig.returnType = rt) && !meth.locks && decide (parseMethodDescriptor y.desc = some meth.sig)) = true) : (Jvm.Cond.code y bytes mx rt).before a s = true := by
  simp only [Bool.and_eq_true, beq_iff_eq, Bool.not_eq_true', decide_eq_true_eq] at h5
  obtain ⟨⟨⟨⟨⟨g1, g2⟩, g3⟩, g4⟩, g5⟩, g6⟩ := h5
  simp [Cond.before, Cond.holds, Cond.value, h1, h2, h3, h4, g1, g2, g3, g4, g5, g6]
def isCode : Jvm.Cond → Bool
  | .code _ _ _ _ => true
  | _ => false
theorem all_split {L : List Jvm.Cond} {P : Jvm.Cond → Bool} (h1 : L.all (fun c => isCode c || P c) = true) (h2 : ∀ c ∈ L.filter isCode, P c = true) : L.all P = true := by
  refine List.all_eq_true.mpr fun c hc => ?_
  have h := List.all_eq_true.mp h1 c hc
  rcases Bool.eq_false_or_eq_true (isCode c) with hi | hi
  · exact h2 c (List.mem_filter.mpr ⟨hc, hi⟩)
  · simpa [hi] using h
set_option maxRecDepth 65536 in
theorem w_c0 : (Jvm.Cond.code x code maxLocals ret).before args0 about1 = true := code_word (m := ⟨1, 2⟩) (meth := k1m2) (c := k1c2) (by decide +kernel) rfl rfl rfl (by decide +kernel)
set_option maxRecDepth 65536 in
theorem w_c1 : (Jvm.Cond.code ({ cls := "com/example/patchwire/patchwire/ember/S101Message$KeepAliveRequest", name := "<init>", desc := "(I)V" } : Jvm.MethodName) prog_45_method_1_code (2 : Nat) (Option.none : Option Jvm.ClassFile.FieldType)).before args0 about1 = true := code_word (m := ⟨4, 0⟩) (meth := k4m0) (c := k4c0) (by decide +kernel) rfl rfl rfl (by decide +kernel)
set_option maxRecDepth 65536 in
theorem w_c2 : (Jvm.Cond.code ({ cls := "java/lang/Record", name := "<init>", desc := "()V" } : Jvm.MethodName) jdk_30_method_1_code (1 : Nat) (Option.none : Option Jvm.ClassFile.FieldType)).before args0 about1 = true := code_word (m := ⟨2, 0⟩) (meth := k2m0) (c := k2c0) (by decide +kernel) rfl rfl rfl (by decide +kernel)
set_option maxRecDepth 65536 in
theorem w_c3 : (Jvm.Cond.code ({ cls := "java/lang/Object", name := "<init>", desc := "()V" } : Jvm.MethodName) object_method_1_code (1 : Nat) (Option.none : Option Jvm.ClassFile.FieldType)).before args0 about1 = true := code_word (m := ⟨0, 0⟩) (meth := k0m0) (c := k0c0) (by decide +kernel) rfl rfl rfl (by decide +kernel)
set_option maxRecDepth 65536 in
theorem w_c4 : (Jvm.Cond.code ({ cls := "com/example/patchwire/patchwire/ember/S101Message$KeepAliveRequest", name := "encode", desc := "()[B" } : Jvm.MethodName) prog_45_method_2_code (1 : Nat) (Option.some (Jvm.ClassFile.FieldType.array Jvm.ClassFile.FieldType.byte))).before args0 about1 = true := code_word (m := ⟨4, 1⟩) (meth := k4m1) (c := k4c1) (by decide +kernel) rfl rfl rfl (by decide +kernel)
set_option maxRecDepth 65536 in
theorem w_c5 : (Jvm.Cond.code ({ cls := "com/example/patchwire/patchwire/ember/KeepAliveRequestEncodePinLaw", name := "isKeepAliveRequestBytes", desc := "([BI)Z" } : Jvm.MethodName) method_2_code (2 : Nat) (Option.some Jvm.ClassFile.FieldType.boolean)).before args0 about1 = true := code_word (m := ⟨1, 1⟩) (meth := k1m1) (c := k1c1) (by decide +kernel) rfl rfl rfl (by decide +kernel)
def codes1 : List Jvm.Cond := [Jvm.Cond.code x code maxLocals ret, Jvm.Cond.code ({ cls := "com/example/patchwire/patchwire/ember/S101Message$KeepAliveRequest", name := "<init>", desc := "(I)V" } : Jvm.MethodName) prog_45_method_1_code (2 : Nat) (Option.none : Option Jvm.ClassFile.FieldType), Jvm.Cond.code ({ cls := "java/lang/Record", name := "<init>", desc := "()V" } : Jvm.MethodName) jdk_30_method_1_code (1 : Nat) (Option.none : Option Jvm.ClassFile.FieldType), Jvm.Cond.code ({ cls := "java/lang/Object", name := "<init>", desc := "()V" } : Jvm.MethodName) object_method_1_code (1 : Nat) (Option.none : Option Jvm.ClassFile.FieldType), Jvm.Cond.code ({ cls := "com/example/patchwire/patchwire/ember/S101Message$KeepAliveRequest", name := "encode", desc := "()[B" } : Jvm.MethodName) prog_45_method_2_code (1 : Nat) (Option.some (Jvm.ClassFile.FieldType.array Jvm.ClassFile.FieldType.byte)), Jvm.Cond.code ({ cls := "com/example/patchwire/patchwire/ember/KeepAliveRequestEncodePinLaw", name := "isKeepAliveRequestBytes", desc := "([BI)Z" } : Jvm.MethodName) method_2_code (2 : Nat) (Option.some Jvm.ClassFile.FieldType.boolean)]
set_option maxRecDepth 65536 in
theorem codes_eq : words1.filter isCode = codes1 := rfl
theorem w_codes : ∀ c ∈ words1.filter isCode, c.before args0 about1 = true := by
  rw [codes_eq]
  intro c hc
  simp only [codes1, List.mem_cons, List.not_mem_nil, or_false] at hc
  rcases hc with rfl | rfl | rfl | rfl | rfl | rfl
  · exact w_c0
  · exact w_c1
  · exact w_c2
  · exact w_c3
  · exact w_c4
  · exact w_c5
set_option maxRecDepth 65536 in
theorem w_t1 : (words1.take 24).all (fun c => isCode c || c.before args0 about1) = true := by decide +kernel
set_option maxRecDepth 65536 in
theorem w_t2 : (words1.drop 24).all (fun c => isCode c || c.before args0 about1) = true := by decide +kernel
theorem w_tables : (allAtoms (Jvm.Cond.code x code maxLocals ret :: tables_1)).before args0 about1 = true := by
  rw [allAtoms_all]
  show words1.all (fun c => c.before args0 about1) = true
  refine all_split ?_ w_codes
  rw [← List.take_append_drop 24 words1, List.all_append, w_t1, w_t2]
  rfl
set_option maxRecDepth 65536 in
theorem w_case : (Jvm.Cond.and given_1 narrow_1).before args0 about1 = true := by decide +kernel
theorem w_applies : (headSpec (Jvm.Cond.code x code maxLocals ret :: tables_1) room_1).applies x e0.platform about1 = true :=
  (Spec.applies_iff w_frames).mpr ⟨w_running, w_runnable, w_alone, w_named, w_hears, w_ripe, w_room, w_tables⟩
theorem atStart : AtStart classFile x code maxLocals ret World_1 tables_1 room_1 Calls_1 rest_1 Pre_1 launch0 p0 e0 about1 theMethod args0 below0 :=
  ⟨lists_1, trivial, launch0.admits_env _ _ _, launch0.least_env, fairChoices_fair.cas, fairChoices_fair.clock, w_frames, w_args, w_heap, w_applies, trivial, trivial, w_case⟩
end start1
theorem witness_1 : WitnessClaimed_1 := ⟨start1.p0, start1.e0, start1.about1, start1.theMethod, start1.args0, start1.below0, start1.atStart⟩
end Jvm.Pilot.@@N@@
