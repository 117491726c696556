import JvmDerived
import JvmDerived.Pilot.@@N@@Statement
import JvmDerived.Pilot.@@N@@Code
set_option linter.unusedVariables false
set_option linter.unusedSimpArgs false
namespace Jvm.RoadKit
open Sem ClassFile Op Lib Jvm.Stand Jvm.Free Jvm.LawKit
section New
variable {p : Program} {l : Launch} {e : Env} {R : Room} {s : State} {m : MethodId} {args : Array Value} {below : List Frame} {meth : Method} {c : Code} {T : State} {locs : List Loc} {cells slots : Nat}
theorem retI (X : Stand p l e R s m args below meth c T locs cells slots) (hx : p.tables.exec = Jvm.exec) {pc : Nat} {Ls : Array Slot} {z : Int32} {rest : List Value} (hret : meth.sig.returnType = some .int) (hd : decode c.code pc = .ok (.ireturn, 1)) {fs : List Frame}
    (hl : ∀ (f : JFrame) (acts : List Action), f.method = m → f.locked = none → f.entered = [] → (doReturn e (T.setTop f) acts (some (.int z))).1 = T.setFrames fs) : Steps p.tables e below (T.setTop (mkF m pc Ls (.int z :: rest))) (T.setFrames fs) := by
  have hm' : T.vm.method? m = some meth := X.method'
  have hn : narrow .int (.int z) = .int z := rfl
  show Steps p.tables e below (T.setTop { method := m, pc := pc, locals := Ls, stack := _ :: rest, locked := none }) _
  jvm_step X.here [X.here.top, hx, hd, hm', hret, hn]
  first | (intro acts; rw [hl _ acts rfl rfl rfl]) | rw [hl _ _ rfl rfl rfl]
  exact Steps.refl _
end New
end Jvm.RoadKit
namespace Jvm.Pilot.@@N@@
open Jvm Jvm.ClassFile Sem Op Lib Jvm.Free Jvm.Stand Jvm.LawKit Jvm.RoadKit Bundle Jvm.Pilot.@@N@@.Jvm.D
section OwnKit
variable {p : Program} {l : Launch} {e : Env} {R : Room} {s : State} {m : MethodId} {args : Array Value} {below : List Frame} {meth : Method} {c : Code} {T : State} {locs : List Loc} {cells slots : Nat} {Z : State} {h h' : Heap} {a b : Addr} {ty : FieldType} {n : Nat} {f : Nat → Value}
/-- an array by its length and the value at each place -/
def own_AF (Z : State) (h : Heap) (a : Addr) (ty : FieldType) (n : Nat) (f : Nat → Value) : Prop := ∃ c : Cell, Arr Z h a c ty ∧ c.slots.size = n ∧ n < 2 ^ 31 ∧ ∀ i, i < n → c.slots[i]? = some (f i)
theorem own_AF.lt (F : own_AF Z h a ty n f) : a < h.size := by obtain ⟨c, A, -⟩ := F; exact A.lt
theorem own_AF.ext (F : own_AF Z h a ty n f) (E : Ext h h') : own_AF Z h' a ty n f := by obtain ⟨c, A, r⟩ := F; exact ⟨c, A.ext E, r⟩
theorem own_AF.other {sl : Nat} {v : Value} (F : own_AF Z h b ty n f) (W : Wr h h' a sl v) (q : b ≠ a) : own_AF Z h' b ty n f := by obtain ⟨c, A, r⟩ := F; exact ⟨c, A.other W q, r⟩
theorem own_AF.keep {ws : List Addr} (F : own_AF Z h a ty n f) (K : Keep h h' ws) (q : a ∉ ws) : own_AF Z h' a ty n f := by obtain ⟨c, A, r⟩ := F; exact ⟨c, ⟨K.2.1 a c A.1 q, A.2⟩, r⟩
theorem own_AF.congr {g : Nat → Value} (F : own_AF Z h a ty n f) (q : ∀ i, i < n → f i = g i) : own_AF Z h a ty n g := by
  obtain ⟨c, A, r1, r2, r3⟩ := F; exact ⟨c, A, r1, r2, fun i hi => by rw [r3 i hi, q i hi]⟩
theorem own_AF.set {j : Nat} {v : Value} (F : own_AF Z h a ty n f) (W : Wr h h' a j v) : own_AF Z h' a ty n (fun i => if i = j then v else f i) := by
  obtain ⟨c, A, r1, r2, r3⟩ := F
  obtain ⟨cb', q1, q2, q3, q4, -, q6, q7⟩ := wr_at W A.1
  obtain ⟨e1, e2, -⟩ := q7 rfl
  refine ⟨_, A.same W, ?_, r2, fun i hi => ?_⟩
  · rw [sz_set]; exact r1
  · rw [← e1]
    by_cases hij : i = j
    · subst hij; simp only [if_true]; exact e2
    · rw [q6 i hij, r3 i hi]; simp only [hij, if_false]
theorem own_AF.new {k : ClassId} {z : Int32} {d : Value} (A : Arr Z h a (newA k ty z) ty) (q : ¬ z < 0) (hn : z.toNatClampNeg = n) (hd : defaultValue ty = d := by rfl) : own_AF Z h a ty n (fun _ => d) := by
  subst hn
  refine ⟨_, A, sz_new _ _ _, (back32 q).2, fun i hi => ?_⟩
  simp [newA, hi, hd]
theorem own_AF.inb {c : Cell} {j : Int32} {k : Nat} (S : c.slots.size = n) (h1 : ¬ j < 0) (hk : j.toNatClampNeg = k) (h2 : k < n) : ¬ (j < 0 ∨ c.slots.size ≤ j.toNatClampNeg) := by
  rw [S, hk]; exact fun q => q.elim h1 fun q => by omega
theorem own_ldI (X : Stand p l e R s m args below meth c T locs cells slots) (hx : p.tables.exec = Jvm.exec) (hZ : Z.Warmed39 s.vm) (eT : T.heap = h) (A : own_AF Z h a .int n f) {j : Int32} (h1 : ¬ j < 0) {k : Nat} (hk : j.toNatClampNeg = k) (h2 : k < n) {v : Value} (hv : f k = v)
    {g : JFrame} (hg : g.method = m) {rest : List Value} (hs : g.stack = .int j :: .ref a :: rest) (hd : decode c.code g.pc = .ok (.iaload, 1)) (target : State)
    (hr : Steps p.tables e below (T.setTop { g with pc := g.pc + 1, stack := v :: rest }) target) : Steps p.tables e below (T.setTop g) target := by
  obtain ⟨cl, A, r1, r2, r3⟩ := A
  exact X.iaload hx (by rw [eT]; exact A.1) (State.isArrayOf_alike hZ.alike A.2.1) A.2.2 (own_AF.inb r1 h1 hk h2) (by rw [hk, ← hv]; exact r3 k h2) hg hs hd _ hr
theorem own_ldJ (X : Stand p l e R s m args below meth c T locs cells slots) (hx : p.tables.exec = Jvm.exec) (hZ : Z.Warmed39 s.vm) (eT : T.heap = h) (A : own_AF Z h a .long n f) {j : Int32} (h1 : ¬ j < 0) {k : Nat} (hk : j.toNatClampNeg = k) (h2 : k < n) {v : Value} (hv : f k = v)
    {g : JFrame} (hg : g.method = m) {rest : List Value} (hs : g.stack = .int j :: .ref a :: rest) (hd : decode c.code g.pc = .ok (.laload, 1)) (target : State)
    (hr : Steps p.tables e below (T.setTop { g with pc := g.pc + 1, stack := v :: rest }) target) : Steps p.tables e below (T.setTop g) target := by
  obtain ⟨cl, A, r1, r2, r3⟩ := A
  exact X.laload hx (by rw [eT]; exact A.1) (State.isArrayOf_alike hZ.alike A.2.1) A.2.2 (own_AF.inb r1 h1 hk h2) (by rw [hk, ← hv]; exact r3 k h2) hg hs hd _ hr
theorem own_ldB (X : Stand p l e R s m args below meth c T locs cells slots) (hx : p.tables.exec = Jvm.exec) (hZ : Z.Warmed39 s.vm) (eT : T.heap = h) (A : own_AF Z h a .byte n f) {j : Int32} (h1 : ¬ j < 0) {k : Nat} (hk : j.toNatClampNeg = k) (h2 : k < n) {v : Value} (hv : f k = v)
    {g : JFrame} (hg : g.method = m) {rest : List Value} (hs : g.stack = .int j :: .ref a :: rest) (hd : decode c.code g.pc = .ok (.baload, 1)) (target : State)
    (hr : Steps p.tables e below (T.setTop { g with pc := g.pc + 1, stack := v :: rest }) target) : Steps p.tables e below (T.setTop g) target := by
  obtain ⟨cl, A, r1, r2, r3⟩ := A
  exact X.baloadBytes hx (by rw [eT]; exact A.1) (State.isArrayOf_alike hZ.alike A.2.1) A.2.2 (own_AF.inb r1 h1 hk h2) (by rw [hk, ← hv]; exact r3 k h2) hg hs hd _ hr
theorem own_ldZ (X : Stand p l e R s m args below meth c T locs cells slots) (hx : p.tables.exec = Jvm.exec) (hZ : Z.Warmed39 s.vm) (eT : T.heap = h) (A : own_AF Z h a .boolean n f) {j : Int32} (h1 : ¬ j < 0) {k : Nat} (hk : j.toNatClampNeg = k) (h2 : k < n) {v : Value} (hv : f k = v)
    {g : JFrame} (hg : g.method = m) {rest : List Value} (hs : g.stack = .int j :: .ref a :: rest) (hd : decode c.code g.pc = .ok (.baload, 1)) (target : State)
    (hr : Steps p.tables e below (T.setTop { g with pc := g.pc + 1, stack := v :: rest }) target) : Steps p.tables e below (T.setTop g) target := by
  obtain ⟨cl, A, r1, r2, r3⟩ := A
  exact X.baloadBooleans hx (by rw [eT]; exact A.1) (State.isArrayOf_alike hZ.alike A.2.1) A.2.2 (own_AF.inb r1 h1 hk h2) (by rw [hk, ← hv]; exact r3 k h2) hg hs hd _ hr
theorem own_len (X : Stand p l e R s m args below meth c T locs cells slots) (hx : p.tables.exec = Jvm.exec) (hZ : Z.Warmed39 s.vm) (eT : T.heap = h) (A : own_AF Z h a ty n f) {z : Int32} (hz : n.toInt32 = z)
    {g : JFrame} (hg : g.method = m) {rest : List Value} (hs : g.stack = .ref a :: rest) (hd : decode c.code g.pc = .ok (.arraylength, 1)) (target : State)
    (hr : Steps p.tables e below (T.setTop { g with pc := g.pc + 1, stack := .int z :: rest }) target) : Steps p.tables e below (T.setTop g) target := by
  obtain ⟨cl, A, r1, r2, r3⟩ := A
  exact X.arraylength hx (by rw [eT]; exact A.1) (State.isArrayOf_alike hZ.alike A.2.1) hg hs hd _ (by rw [r1, hz]; exact hr)
theorem own_stI (X : Stand p l e R s m args below meth c T locs cells slots) (hx : p.tables.exec = Jvm.exec) (hZ : Z.Warmed39 s.vm) (eT : T.heap = h) (A : own_AF Z h a .int n f) {j x : Int32} (h1 : ¬ j < 0) {k : Nat} (hk : j.toNatClampNeg = k) (h2 : k < n)
    {g : JFrame} (hg : g.method = m) {rest : List Value} (hs : g.stack = .int x :: .int j :: .ref a :: rest) (hd : decode c.code g.pc = .ok (.iastore, 1)) :
    ∃ T' h', Stand p l e R s m args below meth c T' (locs ++ [⟨a, k⟩]) cells slots ∧ T'.heap = h' ∧ Wr h h' a k (.int x) ∧ own_AF Z h' a .int n (fun i => if i = k then .int x else f i) ∧ ∀ target, Steps p.tables e below (T'.setTop { g with pc := g.pc + 1, stack := rest }) target → Steps p.tables e below (T.setTop g) target := by
  obtain ⟨cl, A', r1, r2, r3⟩ := id A
  obtain ⟨T', h', X', e', W', st⟩ := stI X hx hZ eT A' (own_AF.inb r1 h1 hk h2) hg hs hd
  subst hk
  exact ⟨T', h', X', e', W', A.set W', st⟩
theorem own_stJ (X : Stand p l e R s m args below meth c T locs cells slots) (hx : p.tables.exec = Jvm.exec) (hZ : Z.Warmed39 s.vm) (eT : T.heap = h) (A : own_AF Z h a .long n f) {j : Int32} {x : Int64} (h1 : ¬ j < 0) {k : Nat} (hk : j.toNatClampNeg = k) (h2 : k < n)
    {g : JFrame} (hg : g.method = m) {rest : List Value} (hs : g.stack = .long x :: .int j :: .ref a :: rest) (hd : decode c.code g.pc = .ok (.lastore, 1)) :
    ∃ T' h', Stand p l e R s m args below meth c T' (locs ++ [⟨a, k⟩]) cells slots ∧ T'.heap = h' ∧ Wr h h' a k (.long x) ∧ own_AF Z h' a .long n (fun i => if i = k then .long x else f i) ∧ ∀ target, Steps p.tables e below (T'.setTop { g with pc := g.pc + 1, stack := rest }) target → Steps p.tables e below (T.setTop g) target := by
  obtain ⟨cl, A', r1, r2, r3⟩ := id A
  obtain ⟨T', h', X', e', W', st⟩ := stJ X hx hZ eT A' (own_AF.inb r1 h1 hk h2) hg hs hd
  subst hk
  exact ⟨T', h', X', e', W', A.set W', st⟩
theorem own_stB (X : Stand p l e R s m args below meth c T locs cells slots) (hx : p.tables.exec = Jvm.exec) (hZ : Z.Warmed39 s.vm) (eT : T.heap = h) (A : own_AF Z h a .byte n f) {j x : Int32} (h1 : ¬ j < 0) {k : Nat} (hk : j.toNatClampNeg = k) (h2 : k < n)
    {g : JFrame} (hg : g.method = m) {rest : List Value} (hs : g.stack = .int x :: .int j :: .ref a :: rest) (hd : decode c.code g.pc = .ok (.bastore, 1)) :
    ∃ T' h', Stand p l e R s m args below meth c T' (locs ++ [⟨a, k⟩]) cells slots ∧ T'.heap = h' ∧ Wr h h' a k (.int (nar .byte x)) ∧ own_AF Z h' a .byte n (fun i => if i = k then .int (nar .byte x) else f i) ∧ ∀ target, Steps p.tables e below (T'.setTop { g with pc := g.pc + 1, stack := rest }) target → Steps p.tables e below (T.setTop g) target := by
  obtain ⟨cl, A', r1, r2, r3⟩ := id A
  obtain ⟨T', h', X', e', W', st⟩ := stB X hx hZ eT A' (own_AF.inb r1 h1 hk h2) hg hs hd
  subst hk
  exact ⟨T', h', X', e', W', A.set W', st⟩
theorem own_stZ (X : Stand p l e R s m args below meth c T locs cells slots) (hx : p.tables.exec = Jvm.exec) (hZ : Z.Warmed39 s.vm) (eT : T.heap = h) (A : own_AF Z h a .boolean n f) {j x : Int32} (h1 : ¬ j < 0) {k : Nat} (hk : j.toNatClampNeg = k) (h2 : k < n)
    {g : JFrame} (hg : g.method = m) {rest : List Value} (hs : g.stack = .int x :: .int j :: .ref a :: rest) (hd : decode c.code g.pc = .ok (.bastore, 1)) :
    ∃ T' h', Stand p l e R s m args below meth c T' (locs ++ [⟨a, k⟩]) cells slots ∧ T'.heap = h' ∧ Wr h h' a k (.int (nar .boolean x)) ∧ own_AF Z h' a .boolean n (fun i => if i = k then .int (nar .boolean x) else f i) ∧ ∀ target, Steps p.tables e below (T'.setTop { g with pc := g.pc + 1, stack := rest }) target → Steps p.tables e below (T.setTop g) target := by
  obtain ⟨cl, A', r1, r2, r3⟩ := id A
  obtain ⟨T', h', X', e', W', st⟩ := stZ X hx hZ eT A' (own_AF.inb r1 h1 hk h2) hg hs hd
  subst hk
  exact ⟨T', h', X', e', W', A.set W', st⟩
theorem own_lremM {g : JFrame} {target : State} (X : Stand p l e R s m args below meth c T locs cells slots) (hx : p.tables.exec = Jvm.exec) (hg : g.method = m) {x y : Int64} {rest : List Value} (hd : decode c.code g.pc = .ok (.lrem, 1)) (hs : g.stack = .long y :: .long x :: rest) (hy : y ≠ 0)
    (hr : Steps p.tables e below (T.setTop { g with pc := g.pc + 1, stack := .long (x % y) :: rest }) target) : Steps p.tables e below (T.setTop g) target :=
  XS.lrem X.here hx hg hd hs hy (by rw [lrem_mod x y]; exact hr)
theorem own_cloneI {a0 : Array Value} (X : Stand p l e R s m args below meth c T locs cells slots) (hx : p.tables.exec = Jvm.exec) (hZ : Z.Warmed39 s.vm) {own : String} {index : Nat} (hown : s.vm.findClass own = some m.cls)
    (w1 : (Cond.methodLink own index ⟨"[I", "clone", "()Ljava/lang/Object;"⟩).before a0 Z = true) (w2 : (Cond.sameMethod "[I" "java/lang/Object" "clone" "()Ljava/lang/Object;").before a0 Z = true) (w3 : (Cond.native ⟨"java/lang/Object", "clone", "()Ljava/lang/Object;"⟩).before a0 Z = true)
    (w4 : (Cond.instanceMethod ⟨"java/lang/Object", "clone", "()Ljava/lang/Object;"⟩).before a0 Z = true) (w5 : (Cond.selects "[I" ⟨"[I", "clone", "()Ljava/lang/Object;"⟩ ⟨"java/lang/Object", "clone", "()Ljava/lang/Object;"⟩).before a0 Z = true) (w6 : (Cond.castable "[I" "java/lang/Cloneable").before a0 Z = true)
    (eT : T.heap = h) (F : own_AF Z h a .int n f) (E : Exa Z h a "[I") (hfit : ∀ i, i < n → fits .int (f i) = true) {g : JFrame} (hg : g.method = m) (hsize : g.locals.size = c.maxLocals) {rest : List Value} (hs : g.stack = .ref a :: rest) (hd : decode c.code g.pc = .ok (.invokevirtual index, 3))
    (hf : 1 ≤ R.frames) {W cap : Nat} (hW : 2 * g.monitorRoom + (rest.map fun v => v.category).sum ≤ W) (hl : W + 14 ≤ R.locals) (hcap : n ≤ cap) (hc : cells + 1 ≤ R.cells) (hsl : slots + cap ≤ R.slots) :
    ∃ T' h', Stand p l e R s m args below meth c T' locs (cells + 1) (slots + cap) ∧ T'.heap = h' ∧ Ext h h' ∧ own_AF Z h' h.size .int n f ∧ Exa Z h' h.size "[I" ∧
      ∀ target, Steps p.tables e below (T'.setTop { g with pc := g.pc + 3, stack := .ref h.size :: rest }) target → Steps p.tables e below (T.setTop g) target := by
  obtain ⟨cl, A, r1, r2, r3⟩ := F
  have FC : FitC Z cl := fitC_of A fun i hi v hv => by rw [r3 i (by omega)] at hv; cases hv; exact hfit i (by omega)
  obtain ⟨T', h', X', e', ex, A', E', st⟩ := cloneA X hx hZ hown w1 w2 w3 w4 w5 w6 eT A E FC hg hsize hs hd hf hW hl (by rw [r1]; exact hcap) hc hsl
  exact ⟨T', h', X', e', ex, ⟨cloneOf cl, A', r1, r2, r3⟩, E', st⟩
end OwnKit
def own_xs (v0 v1 v2 : Int32) : Nat → Int32 := fun i => if i = 0 then v0 else if i = 1 then v1 else v2
theorem own_lti {i n : Nat} (hi : i ≤ 3) (hn : n ≤ 3) : (Int32.ofNat i < Int32.ofNat n) ↔ i < n := by
  rw [Int32.lt_iff_toInt_lt, Int32.toInt_ofNat_of_lt (by omega), Int32.toInt_ofNat_of_lt (by omega)]
  omega
theorem own_nn (a : Int32) (h0 : ¬ (a &&& (3 : Int32)) = (0 : Int32)) (h1 : ¬ (a &&& (3 : Int32)) = (1 : Int32)) (h2 : ¬ (a &&& (3 : Int32)) = (2 : Int32)) (h3 : ¬ (a &&& (3 : Int32)) = (3 : Int32)) : False := by
  have m := c_mask a (3 : Int32) 2 (by decide) (by decide)
  simp only [← Int32.toInt_inj] at h0 h1 h2 h3
  rw [show (0 : Int32).toInt = 0 from rfl] at h0
  rw [show (1 : Int32).toInt = 1 from rfl] at h1
  rw [show (2 : Int32).toInt = 2 from rfl] at h2
  rw [show (3 : Int32).toInt = 3 from rfl] at h3
  omega
theorem own_pos (a : Int32) : ¬ (a &&& (2147483647 : Int32)) < 0 := fun q => by
  have m := c_mask a (2147483647 : Int32) 31 (by decide) (by decide)
  have := Int32.lt_iff_toInt_lt.mp q
  rw [show (0 : Int32).toInt = 0 from rfl] at this
  omega
theorem own_d2_0 : decode prog_2_method_1_code 0 = .ok (.aload_n 0, 1) := by decide +kernel
theorem own_d2_1 : decode prog_2_method_1_code 1 = .ok (.invokespecial 1, 3) := by decide +kernel
theorem own_d2_4 : decode prog_2_method_1_code 4 = .ok (.aload_n 0, 1) := by decide +kernel
theorem own_d2_5 : decode prog_2_method_1_code 5 = .ok (.aload_n 1, 1) := by decide +kernel
theorem own_d2_6 : decode prog_2_method_1_code 6 = .ok (.putfield 7, 3) := by decide +kernel
theorem own_d2_9 : decode prog_2_method_1_code 9 = .ok (.return_, 1) := by decide +kernel
theorem own_pn0 : plainName "com/example/intervals_to_classes/intervalstoclasses/net/Marking" = true := by first | (simp [plainName, overriddenIn]; done) | decide +kernel
theorem own_ef2 (m : MethodId) (x0 : Addr) (x1 : Addr) : entryFrame m #[(.ref x0), (.ref x1)] 2 = mkF m 0 #[.val (.ref x0), .val (.ref x1)] [] := by first | (simp [entryFrame, mkF, argsToLocals, Value.category]; done) | rfl
def own_Q2 (Z : State) (a1 : Addr) (t2 : Addr) (h0 : Heap) (n0 : Nat) (v : Option Value) (h : Heap) (L : List Loc) : Prop := v = none ∧ Fr n0 L ∧ Keep h0 h [a1] ∧ Exa Z h a1 "com/example/intervals_to_classes/intervalstoclasses/net/Marking" ∧ Fld Z h a1 "com/example/intervals_to_classes/intervalstoclasses/net/Marking" "tokens" "[I" (.ref t2)
set_option maxRecDepth 65536 in
set_option maxHeartbeats 40000000 in
theorem own_rm2 (l : Launch) (Z : State) (a0 : Array Value) (hw : ∀ d ∈ tables_1, d.before a0 Z = true) (ws : List Jvm.Cond) (a1 : Addr) (t2 : Addr) (h0 : Heap) (n0 : Nat) (Z0 : n0 ≤ h0.size) (E_a1 : Exa Z h0 a1 "com/example/intervals_to_classes/intervalstoclasses/net/Marking") (F_tokens : Fld Z h0 a1 "com/example/intervals_to_classes/intervalstoclasses/net/Marking" "tokens" "[I" .null) (g_a1 : n0 ≤ a1) :
    MetFree l (⟨"com/example/intervals_to_classes/intervalstoclasses/net/Marking", "<init>", "([I)V"⟩ : MethodName) (head1 (Jvm.Cond.code (⟨"com/example/intervals_to_classes/intervalstoclasses/net/Marking", "<init>", "([I)V"⟩ : MethodName) prog_2_method_1_code 2 none :: ws) ({ frames := 1, cells := 0, slots := 0, locals := 12 } : Room)) (fun a U => a = #[(.ref a1), (.ref t2)] ∧ Z.Warmed39 U.vm ∧ U.heap = h0) (fun _ _ _ _ _ => True) (fun _ U o U' => ∃ v L, o = .returned v ∧ own_Q2 Z a1 t2 h0 n0 v U'.heap L ∧ FrameEnd U o U' L ({ frames := 1, cells := 0, slots := 0, locals := 12 } : Room).cells ({ frames := 1, cells := 0, slots := 0, locals := 12 } : Room).slots) := by
  refine MetFree.of_bodySF (plainFor_of_name own_pn0) hisR ?_
  intro p e s m args below meth c s₁ Bd hml0 hP hK
  obtain ⟨rfl, hZ, hh⟩ := hP
  have hx := Bd.exec
  have hby := Bd.bytes
  have hml : c.maxLocals = 2 := hml0
  have hown : s.vm.findClass "com/example/intervals_to_classes/intervalstoclasses/net/Marking" = some m.cls := findClass_of_methodNamed Bd.named
  have hnm := (name_of_methodNamed Bd.named Bd.method).1
  have X0 : Stand p l e ({ frames := 1, cells := 0, slots := 0, locals := 12 } : Room) s m #[(.ref a1), (.ref t2)] below meth c s₁ [] 0 0 := Stand.of_body Bd
  have e0 : s₁.heap = h0 := by rw [← hh, Bd.state]; rfl
  have N0 := Fr.nil n0
  have K0 := Keep.refl h0 [a1]
  have pre0 : ∀ t, Steps p.tables e below (s₁.setTop (mkF m 0 #[.val (.ref a1), .val (.ref t2)] [])) t → Steps p.tables e below (s₁.setTop (entryFrame m #[(.ref a1), (.ref t2)] 2)) t := fun t kt0 => castTop (own_ef2 m (a1) (t2)) kt0
  obtain ⟨T1, X1, e1, st1⟩ := initO X0 hx hZ hown (hw _ (List.mem_of_getElem? (i := 20) rfl)) (hw _ (List.mem_of_getElem? (i := 21) rfl)) (hw _ (List.mem_of_getElem? (i := 22) rfl)) e0 (g := (mkF m 1 #[.val (.ref a1), .val (.ref t2)] [(.ref a1)])) rfl (by rw [hml]; rfl) rfl (hb hby own_d2_1) (by decide) (W := 0) (by show 2 * 0 + _ ≤ _; exact Nat.le_of_eq rfl) (by decide)
  obtain ⟨T2, h2, X2, e2, W2, st2⟩ := putF X1 hx hZ hown (host := "") (Or.inl (hw _ (List.mem_of_getElem? (i := 23) rfl))) Via.refl e1 F_tokens E_a1 (Or.inr ⟨(hw _ (List.mem_of_getElem? (i := 24) rfl)), rfl, hnm⟩) (hw _ (List.mem_of_getElem? (i := 7) rfl)) (ty := (.array .int)) (by decide) rfl rfl (g := (mkF m 6 #[.val (.ref a1), .val (.ref t2)] [(.ref t2), (.ref a1)])) rfl rfl (hb hby own_d2_6)
  have E_a1 := E_a1.wr W2
  have F_tokens := F_tokens.same W2
  have K3 := K0.wr W2 (Or.inl (List.mem_of_getElem? (i := 0) rfl))
  have Z4 := Nat.le_trans Z0 (Keep.of_wr W2).1
  have N5 := Fr.snoc X2 N0 g_a1
  obtain ⟨fs, hr, hrun, hended, hW, hsame⟩ := X2.leave (v := none) (fun _ => rfl) (BodyLoose.notSynchronized Bd)
  refine ⟨_, _, pre0 _ ?_, hrun, hended, _, _, rfl, ?_, ⟨_, rfl⟩, hW, hsame.mono (by decide) (by decide)⟩
  · skip
    show Steps p.tables e below (s₁.setTop (mkF m 0 #[.val (.ref a1), .val (.ref t2)] [])) _
    refine XS.aloadN X0.here hx rfl (hb hby own_d2_0) rfl rfl ?_
    show Steps p.tables e below (s₁.setTop (mkF m 1 #[.val (.ref a1), .val (.ref t2)] [(.ref a1)])) _
    refine st1 _ ?_
    show Steps p.tables e below (T1.setTop (mkF m 4 #[.val (.ref a1), .val (.ref t2)] [])) _
    refine XS.aloadN X1.here hx rfl (hb hby own_d2_4) rfl rfl ?_
    show Steps p.tables e below (T1.setTop (mkF m 5 #[.val (.ref a1), .val (.ref t2)] [(.ref a1)])) _
    refine XS.aloadN X1.here hx rfl (hb hby own_d2_5) rfl rfl ?_
    show Steps p.tables e below (T1.setTop (mkF m 6 #[.val (.ref a1), .val (.ref t2)] [(.ref t2), (.ref a1)])) _
    refine st2 _ ?_
    show Steps p.tables e below (T2.setTop (mkF m 9 #[.val (.ref a1), .val (.ref t2)] [])) _
    exact X2.returnOut hx Bd.returns (hb hby own_d2_9) hr
  · show own_Q2 Z a1 t2 h0 n0 _ T2.heap _
    rw [e2]
    exact ⟨rfl, N5, K3, E_a1, F_tokens⟩
theorem own_d1_0 : decode prog_2_method_2_code 0 = .ok (.aload_n 0, 1) := by decide +kernel
theorem own_d1_1 : decode prog_2_method_2_code 1 = .ok (.astore_n 1, 1) := by decide +kernel
theorem own_d1_2 : decode prog_2_method_2_code 2 = .ok (.aload_n 1, 1) := by decide +kernel
theorem own_d1_3 : decode prog_2_method_2_code 3 = .ok (.arraylength, 1) := by decide +kernel
theorem own_d1_4 : decode prog_2_method_2_code 4 = .ok (.istore_n 2, 1) := by decide +kernel
theorem own_d1_5 : decode prog_2_method_2_code 5 = .ok (.iconst 0, 1) := by decide +kernel
theorem own_d1_6 : decode prog_2_method_2_code 6 = .ok (.istore_n 3, 1) := by decide +kernel
theorem own_d1_7 : decode prog_2_method_2_code 7 = .ok (.iload_n 3, 1) := by decide +kernel
theorem own_d1_8 : decode prog_2_method_2_code 8 = .ok (.iload_n 2, 1) := by decide +kernel
theorem own_d1_9 : decode prog_2_method_2_code 9 = .ok (.if_icmp .ge 34, 3) := by decide +kernel
theorem own_d1_12 : decode prog_2_method_2_code 12 = .ok (.aload_n 1, 1) := by decide +kernel
theorem own_d1_13 : decode prog_2_method_2_code 13 = .ok (.iload_n 3, 1) := by decide +kernel
theorem own_d1_14 : decode prog_2_method_2_code 14 = .ok (.iaload, 1) := by decide +kernel
theorem own_d1_15 : decode prog_2_method_2_code 15 = .ok (.istore 4, 2) := by decide +kernel
theorem own_d1_17 : decode prog_2_method_2_code 17 = .ok (.iload 4, 2) := by decide +kernel
theorem own_d1_19 : decode prog_2_method_2_code 19 = .ok (.ifCond .ge 18, 3) := by decide +kernel
theorem own_d1_37 : decode prog_2_method_2_code 37 = .ok (.iinc 3 1, 3) := by decide +kernel
theorem own_d1_40 : decode prog_2_method_2_code 40 = .ok (.goto (-33), 3) := by decide +kernel
theorem own_d1_43 : decode prog_2_method_2_code 43 = .ok (.new 8, 3) := by decide +kernel
theorem own_d1_46 : decode prog_2_method_2_code 46 = .ok (.dup, 1) := by decide +kernel
theorem own_d1_47 : decode prog_2_method_2_code 47 = .ok (.aload_n 0, 1) := by decide +kernel
theorem own_d1_48 : decode prog_2_method_2_code 48 = .ok (.invokevirtual 22, 3) := by decide +kernel
theorem own_d1_51 : decode prog_2_method_2_code 51 = .ok (.checkcast 23, 3) := by decide +kernel
theorem own_d1_54 : decode prog_2_method_2_code 54 = .ok (.invokespecial 27, 3) := by decide +kernel
theorem own_d1_57 : decode prog_2_method_2_code 57 = .ok (.areturn, 1) := by decide +kernel
theorem own_pd0 : parseMethodDescriptor "([I)V" = some ⟨[(.array .int)], none⟩ := by decide +kernel
theorem own_ef1 (m : MethodId) (x0 : Addr) : entryFrame m #[(.ref x0)] 5 = mkF m 0 #[.val (.ref x0), .unset, .unset, .unset, .unset] [] := by first | (simp [entryFrame, mkF, argsToLocals, Value.category]; done) | rfl
def own_Q1 (Z : State) (am : Addr) (n : Nat) (xs : Nat → Int32) (h0 : Heap) (n0 : Nat) (v : Option Value) (h : Heap) (L : List Loc) : Prop := ∃ mk tk : Addr, v = some (.ref mk) ∧ Fr n0 L ∧ Keep h0 h [] ∧ h0.size ≤ mk ∧ h0.size ≤ tk ∧ Exa Z h mk "com/example/intervals_to_classes/intervalstoclasses/net/Marking" ∧ Fld Z h mk "com/example/intervals_to_classes/intervalstoclasses/net/Marking" "tokens" "[I" (.ref tk) ∧ own_AF Z h tk .int n (fun i => .int (xs i))
set_option maxRecDepth 65536 in
set_option maxHeartbeats 40000000 in
theorem own_rm1 (l : Launch) (Z : State) (a0 : Array Value) (hw : ∀ d ∈ tables_1, d.before a0 Z = true) (ws : List Jvm.Cond) (am : Addr) (n : Nat) (xs : Nat → Int32) (h0 : Heap) (n0 : Nat) (Z0 : n0 ≤ h0.size) (hn : n ≤ 3) (hpos : ∀ i, i < n → ¬ xs i < 0) (E_am : Exa Z h0 am "[I") (V_am : own_AF Z h0 am .int n (fun i => .int (xs i))) :
    MetFree l (⟨"com/example/intervals_to_classes/intervalstoclasses/net/Marking", "of", "([I)Lcom/example/intervals_to_classes/intervalstoclasses/net/Marking;"⟩ : MethodName) (head1 (Jvm.Cond.code (⟨"com/example/intervals_to_classes/intervalstoclasses/net/Marking", "of", "([I)Lcom/example/intervals_to_classes/intervalstoclasses/net/Marking;"⟩ : MethodName) prog_2_method_2_code 5 (some (.object "com/example/intervals_to_classes/intervalstoclasses/net/Marking")) :: ws) ({ frames := 2, cells := 2, slots := 4, locals := 26 } : Room)) (fun a U => a = #[(.ref am)] ∧ Z.Warmed39 U.vm ∧ U.heap = h0) (fun _ _ _ _ _ => True) (fun _ U o U' => ∃ v L, o = .returned v ∧ own_Q1 Z am n xs h0 n0 v U'.heap L ∧ FrameEnd U o U' L ({ frames := 2, cells := 2, slots := 4, locals := 26 } : Room).cells ({ frames := 2, cells := 2, slots := 4, locals := 26 } : Room).slots) := by
  refine MetFree.of_bodySF (plainFor_of_name own_pn0) hisR ?_
  intro p e s m args below meth c s₁ Bd hml0 hP hK
  obtain ⟨rfl, hZ, hh⟩ := hP
  have hx := Bd.exec
  have hby := Bd.bytes
  have hml : c.maxLocals = 5 := hml0
  have hown : s.vm.findClass "com/example/intervals_to_classes/intervalstoclasses/net/Marking" = some m.cls := findClass_of_methodNamed Bd.named
  have hnm := (name_of_methodNamed Bd.named Bd.method).1
  have X0 : Stand p l e ({ frames := 2, cells := 2, slots := 4, locals := 26 } : Room) s m #[(.ref am)] below meth c s₁ [] 0 0 := Stand.of_body Bd
  have e0 : s₁.heap = h0 := by rw [← hh, Bd.state]; rfl
  have N0 := Fr.nil n0
  have K0 := Keep.refl h0 []
  have pre0 : ∀ t, Steps p.tables e below (s₁.setTop (mkF m 0 #[.val (.ref am), .unset, .unset, .unset, .unset] [])) t → Steps p.tables e below (s₁.setTop (entryFrame m #[(.ref am)] 5)) t := fun t kt0 => castTop (own_ef1 m (am)) kt0
  have ld1 := (own_len X0 hx hZ e0 V_am (z := (Int32.ofNat n)) rfl (g := (mkF m 3 #[.val (.ref am), .val (.ref am), .unset, .unset, .unset] [(.ref am)])) rfl rfl (hb hby own_d1_3))
  have pre2 : ∀ t, Steps p.tables e below (s₁.setTop (mkF m 9 #[.val (.ref am), .val (.ref am), .val (.int (Int32.ofNat n)), .val (.int (0 : Int32)), .unset] [(.int (Int32.ofNat n)), (.int (0 : Int32))])) t → Steps p.tables e below (s₁.setTop (entryFrame m #[(.ref am)] 5)) t := by
    intro t kt
    refine pre0 t ?_
    show Steps p.tables e below (s₁.setTop (mkF m 0 #[.val (.ref am), .unset, .unset, .unset, .unset] [])) _
    refine XS.aloadN X0.here hx rfl (hb hby own_d1_0) rfl rfl ?_
    show Steps p.tables e below (s₁.setTop (mkF m 1 #[.val (.ref am), .unset, .unset, .unset, .unset] [(.ref am)])) _
    refine XS.astoreN X0.here hx rfl (hb hby own_d1_1) rfl rfl (l' := #[.val (.ref am), .val (.ref am), .unset, .unset, .unset]) rfl ?_
    show Steps p.tables e below (s₁.setTop (mkF m 2 #[.val (.ref am), .val (.ref am), .unset, .unset, .unset] [])) _
    refine XS.aloadN X0.here hx rfl (hb hby own_d1_2) rfl rfl ?_
    show Steps p.tables e below (s₁.setTop (mkF m 3 #[.val (.ref am), .val (.ref am), .unset, .unset, .unset] [(.ref am)])) _
    refine ld1 _ ?_
    show Steps p.tables e below (s₁.setTop (mkF m 4 #[.val (.ref am), .val (.ref am), .unset, .unset, .unset] [(.int (Int32.ofNat n))])) _
    refine XS.istoreN X0.here hx rfl (hb hby own_d1_4) rfl (l' := #[.val (.ref am), .val (.ref am), .val (.int (Int32.ofNat n)), .unset, .unset]) rfl ?_
    show Steps p.tables e below (s₁.setTop (mkF m 5 #[.val (.ref am), .val (.ref am), .val (.int (Int32.ofNat n)), .unset, .unset] [])) _
    refine XS.iconst X0.here hx rfl (hb hby own_d1_5) ?_
    show Steps p.tables e below (s₁.setTop (mkF m 6 #[.val (.ref am), .val (.ref am), .val (.int (Int32.ofNat n)), .unset, .unset] [(.int (0 : Int32))])) _
    refine XS.istoreN X0.here hx rfl (hb hby own_d1_6) rfl (l' := #[.val (.ref am), .val (.ref am), .val (.int (Int32.ofNat n)), .val (.int (0 : Int32)), .unset]) rfl ?_
    show Steps p.tables e below (s₁.setTop (mkF m 7 #[.val (.ref am), .val (.ref am), .val (.int (Int32.ofNat n)), .val (.int (0 : Int32)), .unset] [])) _
    refine XS.iloadN X0.here hx rfl (hb hby own_d1_7) rfl ?_
    show Steps p.tables e below (s₁.setTop (mkF m 8 #[.val (.ref am), .val (.ref am), .val (.int (Int32.ofNat n)), .val (.int (0 : Int32)), .unset] [(.int (0 : Int32))])) _
    refine XS.iloadN X0.here hx rfl (hb hby own_d1_8) rfl ?_
    exact kt
  by_cases hc9 : (0 : Int32) < (Int32.ofNat n)
  case pos =>
    have hi0 : 0 < n := (own_lti (i := 0) (by decide) hn).mp hc9
    have ld3 := (own_ldI X0 hx hZ e0 V_am (j := (0 : Int32)) (by decide) (k := 0) rfl hi0 (v := (.int (xs 0))) rfl (g := (mkF m 14 #[.val (.ref am), .val (.ref am), .val (.int (Int32.ofNat n)), .val (.int (0 : Int32)), .unset] [(.int (0 : Int32)), (.ref am)])) rfl rfl (hb hby own_d1_14))
    have pre4 : ∀ t, Steps p.tables e below (s₁.setTop (mkF m 9 #[.val (.ref am), .val (.ref am), .val (.int (Int32.ofNat n)), .val (.int (1 : Int32)), .val (.int (xs 0))] [(.int (Int32.ofNat n)), (.int (1 : Int32))])) t → Steps p.tables e below (s₁.setTop (entryFrame m #[(.ref am)] 5)) t := by
      intro t kt
      refine pre2 t ?_
      show Steps p.tables e below (s₁.setTop (mkF m 9 #[.val (.ref am), .val (.ref am), .val (.int (Int32.ofNat n)), .val (.int (0 : Int32)), .unset] [(.int (Int32.ofNat n)), (.int (0 : Int32))])) _
      refine XS.icmpNo X0.here hx rfl (hb hby own_d1_9) rfl (tlt hc9).2.1 ?_
      show Steps p.tables e below (s₁.setTop (mkF m 12 #[.val (.ref am), .val (.ref am), .val (.int (Int32.ofNat n)), .val (.int (0 : Int32)), .unset] [])) _
      refine XS.aloadN X0.here hx rfl (hb hby own_d1_12) rfl rfl ?_
      show Steps p.tables e below (s₁.setTop (mkF m 13 #[.val (.ref am), .val (.ref am), .val (.int (Int32.ofNat n)), .val (.int (0 : Int32)), .unset] [(.ref am)])) _
      refine XS.iloadN X0.here hx rfl (hb hby own_d1_13) rfl ?_
      show Steps p.tables e below (s₁.setTop (mkF m 14 #[.val (.ref am), .val (.ref am), .val (.int (Int32.ofNat n)), .val (.int (0 : Int32)), .unset] [(.int (0 : Int32)), (.ref am)])) _
      refine ld3 _ ?_
      show Steps p.tables e below (s₁.setTop (mkF m 15 #[.val (.ref am), .val (.ref am), .val (.int (Int32.ofNat n)), .val (.int (0 : Int32)), .unset] [(.int (xs 0))])) _
      refine XS.istore X0.here hx rfl (hb hby own_d1_15) rfl (l' := #[.val (.ref am), .val (.ref am), .val (.int (Int32.ofNat n)), .val (.int (0 : Int32)), .val (.int (xs 0))]) rfl ?_
      show Steps p.tables e below (s₁.setTop (mkF m 17 #[.val (.ref am), .val (.ref am), .val (.int (Int32.ofNat n)), .val (.int (0 : Int32)), .val (.int (xs 0))] [])) _
      refine XS.iload X0.here hx rfl (hb hby own_d1_17) rfl ?_
      show Steps p.tables e below (s₁.setTop (mkF m 19 #[.val (.ref am), .val (.ref am), .val (.int (Int32.ofNat n)), .val (.int (0 : Int32)), .val (.int (xs 0))] [(.int (xs 0))])) _
      refine XS.ifYes X0.here hx rfl (pc0 := 19) (pc' := 37) rfl (hb hby own_d1_19) rfl ((if0 _ _).trans (flt (hpos 0 hi0)).2.1) (by decide) (by decide) ?_
      show Steps p.tables e below (s₁.setTop (mkF m 37 #[.val (.ref am), .val (.ref am), .val (.int (Int32.ofNat n)), .val (.int (0 : Int32)), .val (.int (xs 0))] [])) _
      refine XS.iinc X0.here hx rfl (hb hby own_d1_37) rfl (l' := #[.val (.ref am), .val (.ref am), .val (.int (Int32.ofNat n)), .val (.int (1 : Int32)), .val (.int (xs 0))]) rfl ?_
      show Steps p.tables e below (s₁.setTop (mkF m 40 #[.val (.ref am), .val (.ref am), .val (.int (Int32.ofNat n)), .val (.int (1 : Int32)), .val (.int (xs 0))] [])) _
      refine XS.goto X0.here hx rfl (pc0 := 40) (pc' := 7) rfl (hb hby own_d1_40) (by decide) (by decide) ?_
      show Steps p.tables e below (s₁.setTop (mkF m 7 #[.val (.ref am), .val (.ref am), .val (.int (Int32.ofNat n)), .val (.int (1 : Int32)), .val (.int (xs 0))] [])) _
      refine XS.iloadN X0.here hx rfl (hb hby own_d1_7) rfl ?_
      show Steps p.tables e below (s₁.setTop (mkF m 8 #[.val (.ref am), .val (.ref am), .val (.int (Int32.ofNat n)), .val (.int (1 : Int32)), .val (.int (xs 0))] [(.int (1 : Int32))])) _
      refine XS.iloadN X0.here hx rfl (hb hby own_d1_8) rfl ?_
      exact kt
    by_cases hc9_2 : (1 : Int32) < (Int32.ofNat n)
    case pos =>
      have hi1 : 1 < n := (own_lti (i := 1) (by decide) hn).mp hc9_2
      have ld5 := (own_ldI X0 hx hZ e0 V_am (j := (1 : Int32)) (by decide) (k := 1) rfl hi1 (v := (.int (xs 1))) rfl (g := (mkF m 14 #[.val (.ref am), .val (.ref am), .val (.int (Int32.ofNat n)), .val (.int (1 : Int32)), .val (.int (xs 0))] [(.int (1 : Int32)), (.ref am)])) rfl rfl (hb hby own_d1_14))
      have pre6 : ∀ t, Steps p.tables e below (s₁.setTop (mkF m 9 #[.val (.ref am), .val (.ref am), .val (.int (Int32.ofNat n)), .val (.int (2 : Int32)), .val (.int (xs 1))] [(.int (Int32.ofNat n)), (.int (2 : Int32))])) t → Steps p.tables e below (s₁.setTop (entryFrame m #[(.ref am)] 5)) t := by
        intro t kt
        refine pre4 t ?_
        show Steps p.tables e below (s₁.setTop (mkF m 9 #[.val (.ref am), .val (.ref am), .val (.int (Int32.ofNat n)), .val (.int (1 : Int32)), .val (.int (xs 0))] [(.int (Int32.ofNat n)), (.int (1 : Int32))])) _
        refine XS.icmpNo X0.here hx rfl (hb hby own_d1_9) rfl (tlt hc9_2).2.1 ?_
        show Steps p.tables e below (s₁.setTop (mkF m 12 #[.val (.ref am), .val (.ref am), .val (.int (Int32.ofNat n)), .val (.int (1 : Int32)), .val (.int (xs 0))] [])) _
        refine XS.aloadN X0.here hx rfl (hb hby own_d1_12) rfl rfl ?_
        show Steps p.tables e below (s₁.setTop (mkF m 13 #[.val (.ref am), .val (.ref am), .val (.int (Int32.ofNat n)), .val (.int (1 : Int32)), .val (.int (xs 0))] [(.ref am)])) _
        refine XS.iloadN X0.here hx rfl (hb hby own_d1_13) rfl ?_
        show Steps p.tables e below (s₁.setTop (mkF m 14 #[.val (.ref am), .val (.ref am), .val (.int (Int32.ofNat n)), .val (.int (1 : Int32)), .val (.int (xs 0))] [(.int (1 : Int32)), (.ref am)])) _
        refine ld5 _ ?_
        show Steps p.tables e below (s₁.setTop (mkF m 15 #[.val (.ref am), .val (.ref am), .val (.int (Int32.ofNat n)), .val (.int (1 : Int32)), .val (.int (xs 0))] [(.int (xs 1))])) _
        refine XS.istore X0.here hx rfl (hb hby own_d1_15) rfl (l' := #[.val (.ref am), .val (.ref am), .val (.int (Int32.ofNat n)), .val (.int (1 : Int32)), .val (.int (xs 1))]) rfl ?_
        show Steps p.tables e below (s₁.setTop (mkF m 17 #[.val (.ref am), .val (.ref am), .val (.int (Int32.ofNat n)), .val (.int (1 : Int32)), .val (.int (xs 1))] [])) _
        refine XS.iload X0.here hx rfl (hb hby own_d1_17) rfl ?_
        show Steps p.tables e below (s₁.setTop (mkF m 19 #[.val (.ref am), .val (.ref am), .val (.int (Int32.ofNat n)), .val (.int (1 : Int32)), .val (.int (xs 1))] [(.int (xs 1))])) _
        refine XS.ifYes X0.here hx rfl (pc0 := 19) (pc' := 37) rfl (hb hby own_d1_19) rfl ((if0 _ _).trans (flt (hpos 1 hi1)).2.1) (by decide) (by decide) ?_
        show Steps p.tables e below (s₁.setTop (mkF m 37 #[.val (.ref am), .val (.ref am), .val (.int (Int32.ofNat n)), .val (.int (1 : Int32)), .val (.int (xs 1))] [])) _
        refine XS.iinc X0.here hx rfl (hb hby own_d1_37) rfl (l' := #[.val (.ref am), .val (.ref am), .val (.int (Int32.ofNat n)), .val (.int (2 : Int32)), .val (.int (xs 1))]) rfl ?_
        show Steps p.tables e below (s₁.setTop (mkF m 40 #[.val (.ref am), .val (.ref am), .val (.int (Int32.ofNat n)), .val (.int (2 : Int32)), .val (.int (xs 1))] [])) _
        refine XS.goto X0.here hx rfl (pc0 := 40) (pc' := 7) rfl (hb hby own_d1_40) (by decide) (by decide) ?_
        show Steps p.tables e below (s₁.setTop (mkF m 7 #[.val (.ref am), .val (.ref am), .val (.int (Int32.ofNat n)), .val (.int (2 : Int32)), .val (.int (xs 1))] [])) _
        refine XS.iloadN X0.here hx rfl (hb hby own_d1_7) rfl ?_
        show Steps p.tables e below (s₁.setTop (mkF m 8 #[.val (.ref am), .val (.ref am), .val (.int (Int32.ofNat n)), .val (.int (2 : Int32)), .val (.int (xs 1))] [(.int (2 : Int32))])) _
        refine XS.iloadN X0.here hx rfl (hb hby own_d1_8) rfl ?_
        exact kt
      by_cases hc9_3 : (2 : Int32) < (Int32.ofNat n)
      case pos =>
        have hi2 : 2 < n := (own_lti (i := 2) (by decide) hn).mp hc9_3
        have ld7 := (own_ldI X0 hx hZ e0 V_am (j := (2 : Int32)) (by decide) (k := 2) rfl hi2 (v := (.int (xs 2))) rfl (g := (mkF m 14 #[.val (.ref am), .val (.ref am), .val (.int (Int32.ofNat n)), .val (.int (2 : Int32)), .val (.int (xs 1))] [(.int (2 : Int32)), (.ref am)])) rfl rfl (hb hby own_d1_14))
        obtain ⟨T8, h8, X8, e8, E8, A8, D8, -, st8⟩ := newO X0 hx hZ hown (hw _ (List.mem_of_getElem? (i := 6) rfl)) (hw _ (List.mem_of_getElem? (i := 7) rfl)) (hw _ (List.mem_of_getElem? (i := 4) rfl)) e0 (g := (mkF m 43 #[.val (.ref am), .val (.ref am), .val (.int (Int32.ofNat n)), .val (.int (3 : Int32)), .val (.int (xs 2))] [])) rfl (hb hby own_d1_43) (by decide) (by decide)
        obtain ⟨mk, g8⟩ : ∃ z, z = h0.size := ⟨_, rfl⟩
        rw [← g8] at A8 D8 st8
        have lt_am_mk : am < mk := by rw [g8]; exact E_am.lt
        have ne_am_mk : am ≠ mk := Nat.ne_of_lt lt_am_mk
        have g_mk : n0 ≤ mk := by rw [g8]; exact Z0
        have sz_mk : h0.size ≤ mk := by rw [g8]; exact K0.1
        have E_am := E_am.ext E8
        have V_am := V_am.ext E8
        have K9 := K0.ext E8
        have Z10 := Nat.le_trans Z0 E8.1
        have E_mk := A8
        have F_tokens_mk : Fld Z h8 mk "com/example/intervals_to_classes/intervalstoclasses/net/Marking" "tokens" "[I" .null := D8 (Or.inr (hw _ (List.mem_of_getElem? (i := 24) rfl))) (ty := (.array .int)) (by decide)
        obtain ⟨T11, h11, X11, e11, E11, A11, B11, st11⟩ := own_cloneI X8 hx hZ hown (hw _ (List.mem_of_getElem? (i := 8) rfl)) (hw _ (List.mem_of_getElem? (i := 9) rfl)) (hw _ (List.mem_of_getElem? (i := 13) rfl)) (hw _ (List.mem_of_getElem? (i := 11) rfl)) (hw _ (List.mem_of_getElem? (i := 12) rfl)) (hw _ (List.mem_of_getElem? (i := 14) rfl)) e8 V_am E_am (fun i hi => rfl) (g := (mkF m 48 #[.val (.ref am), .val (.ref am), .val (.int (Int32.ofNat n)), .val (.int (3 : Int32)), .val (.int (xs 2))] [(.ref am), (.ref mk), (.ref mk)])) rfl (by rw [hml]; rfl) rfl (hb hby own_d1_48) (by decide) (W := 2) (by show 2 * 0 + _ ≤ _; exact Nat.le_of_eq rfl) (by decide) (cap := 3) hn (by decide) (by decide)
        obtain ⟨tk, g11⟩ : ∃ z, z = h8.size := ⟨_, rfl⟩
        rw [← g11] at A11 B11 st11
        have lt_am_tk : am < tk := by rw [g11]; exact E_am.lt
        have ne_am_tk : am ≠ tk := Nat.ne_of_lt lt_am_tk
        have lt_mk_tk : mk < tk := by rw [g11]; exact E_mk.lt
        have ne_mk_tk : mk ≠ tk := Nat.ne_of_lt lt_mk_tk
        have g_tk : n0 ≤ tk := by rw [g11]; exact Z10
        have sz_tk : h0.size ≤ tk := by rw [g11]; exact K9.1
        have E_am := E_am.ext E11
        have V_am := V_am.ext E11
        have E_mk := E_mk.ext E11
        have F_tokens_mk := F_tokens_mk.ext E11
        have K12 := K9.ext E11
        have Z13 := Nat.le_trans Z10 E11.1
        have V_tk := A11
        have E_tk := B11
        obtain ⟨T14, X14, e14, st14⟩ := castY X11 hx hZ hown (hw _ (List.mem_of_getElem? (i := 15) rfl)) e11 (Ins.self E_tk) (g := (mkF m 51 #[.val (.ref am), .val (.ref am), .val (.int (Int32.ofNat n)), .val (.int (3 : Int32)), .val (.int (xs 2))] [(.ref tk), (.ref mk), (.ref mk)])) rfl rfl (hb hby own_d1_51)
        obtain ⟨_, _, ⟨T15, L15, k15, n15⟩, -, X15, ⟨Lc15, hQ15, l15, y15, z15⟩, st15⟩ := X14.specialBack hx (y := (⟨"com/example/intervals_to_classes/intervalstoclasses/net/Marking", "<init>", "([I)V"⟩ : MethodName)) rfl hown (mvT hZ (hw _ (List.mem_of_getElem? (i := 17) rfl))) (mvT hZ (hw _ (List.mem_of_getElem? (i := 18) rfl))) (mvT hZ (hw _ (List.mem_of_getElem? (i := 19) rfl))) (by decide) (backOf (W := 1) (own_rm2 l Z a0 hw [] (mk) (tk) h11 n0 Z13 E_mk F_tokens_mk g_mk) hZ (hw _ (List.mem_of_getElem? (i := 19) rfl)) (hw _ (List.mem_of_getElem? (i := 4) rfl)) (by decide) (by decide)) (g := (mkF m 54 #[.val (.ref am), .val (.ref am), .val (.int (Int32.ofNat n)), .val (.int (3 : Int32)), .val (.int (xs 2))] [(.ref tk), (.ref mk), (.ref mk)])) rfl (by rw [hml]; rfl) (Steps.refl _) (a := mk) (argsL := [(.ref tk)]) (rest := [(.ref mk)]) (lenOf own_pd0 rfl) rfl (by show 2 * 0 + _ ≤ _; exact Nat.le_of_eq rfl) (hb hby own_d1_54) (fun _ _ => ⟨rfl, e14, (by decide : 2 + 0 ≤ _), (by decide : 4 + 0 ≤ _)⟩)
        dsimp only [Pt.U, Pt.locs, Pt.cells, Pt.slots] at X15 l15 y15 z15 st15 hQ15
        subst l15 y15 z15
        obtain ⟨rfl, Nq15, Kq15, E_mk, F_tokens_mk⟩ := hQ15
        have N15 := Fr.app N0 Nq15
        have E_am := E_am.keep Kq15
        have V_am := V_am.keep Kq15 (ninS ne_am_mk nin0)
        have V_tk := V_tk.keep Kq15 (ninS (Ne.symm ne_mk_tk) nin0)
        have E_tk := E_tk.keep Kq15
        have K15 := K12.trans Kq15 (allS (Or.inr sz_mk) all0)
        have Z15 := Nat.le_trans Z13 Kq15.1
        obtain ⟨fs, hr, hrun, hended, hW, hsame⟩ := X15.leave (v := some (.ref mk)) (fun h => by rw [Bd.returns] at h; cases h) (BodyLoose.notSynchronized Bd)
        refine ⟨_, _, pre6 _ ?_, hrun, hended, _, _, rfl, ?_, ⟨_, rfl⟩, hW, hsame.mono (by decide) (by decide)⟩
        · skip
          show Steps p.tables e below (s₁.setTop (mkF m 9 #[.val (.ref am), .val (.ref am), .val (.int (Int32.ofNat n)), .val (.int (2 : Int32)), .val (.int (xs 1))] [(.int (Int32.ofNat n)), (.int (2 : Int32))])) _
          refine XS.icmpNo X0.here hx rfl (hb hby own_d1_9) rfl (tlt hc9_3).2.1 ?_
          show Steps p.tables e below (s₁.setTop (mkF m 12 #[.val (.ref am), .val (.ref am), .val (.int (Int32.ofNat n)), .val (.int (2 : Int32)), .val (.int (xs 1))] [])) _
          refine XS.aloadN X0.here hx rfl (hb hby own_d1_12) rfl rfl ?_
          show Steps p.tables e below (s₁.setTop (mkF m 13 #[.val (.ref am), .val (.ref am), .val (.int (Int32.ofNat n)), .val (.int (2 : Int32)), .val (.int (xs 1))] [(.ref am)])) _
          refine XS.iloadN X0.here hx rfl (hb hby own_d1_13) rfl ?_
          show Steps p.tables e below (s₁.setTop (mkF m 14 #[.val (.ref am), .val (.ref am), .val (.int (Int32.ofNat n)), .val (.int (2 : Int32)), .val (.int (xs 1))] [(.int (2 : Int32)), (.ref am)])) _
          refine ld7 _ ?_
          show Steps p.tables e below (s₁.setTop (mkF m 15 #[.val (.ref am), .val (.ref am), .val (.int (Int32.ofNat n)), .val (.int (2 : Int32)), .val (.int (xs 1))] [(.int (xs 2))])) _
          refine XS.istore X0.here hx rfl (hb hby own_d1_15) rfl (l' := #[.val (.ref am), .val (.ref am), .val (.int (Int32.ofNat n)), .val (.int (2 : Int32)), .val (.int (xs 2))]) rfl ?_
          show Steps p.tables e below (s₁.setTop (mkF m 17 #[.val (.ref am), .val (.ref am), .val (.int (Int32.ofNat n)), .val (.int (2 : Int32)), .val (.int (xs 2))] [])) _
          refine XS.iload X0.here hx rfl (hb hby own_d1_17) rfl ?_
          show Steps p.tables e below (s₁.setTop (mkF m 19 #[.val (.ref am), .val (.ref am), .val (.int (Int32.ofNat n)), .val (.int (2 : Int32)), .val (.int (xs 2))] [(.int (xs 2))])) _
          refine XS.ifYes X0.here hx rfl (pc0 := 19) (pc' := 37) rfl (hb hby own_d1_19) rfl ((if0 _ _).trans (flt (hpos 2 hi2)).2.1) (by decide) (by decide) ?_
          show Steps p.tables e below (s₁.setTop (mkF m 37 #[.val (.ref am), .val (.ref am), .val (.int (Int32.ofNat n)), .val (.int (2 : Int32)), .val (.int (xs 2))] [])) _
          refine XS.iinc X0.here hx rfl (hb hby own_d1_37) rfl (l' := #[.val (.ref am), .val (.ref am), .val (.int (Int32.ofNat n)), .val (.int (3 : Int32)), .val (.int (xs 2))]) rfl ?_
          show Steps p.tables e below (s₁.setTop (mkF m 40 #[.val (.ref am), .val (.ref am), .val (.int (Int32.ofNat n)), .val (.int (3 : Int32)), .val (.int (xs 2))] [])) _
          refine XS.goto X0.here hx rfl (pc0 := 40) (pc' := 7) rfl (hb hby own_d1_40) (by decide) (by decide) ?_
          show Steps p.tables e below (s₁.setTop (mkF m 7 #[.val (.ref am), .val (.ref am), .val (.int (Int32.ofNat n)), .val (.int (3 : Int32)), .val (.int (xs 2))] [])) _
          refine XS.iloadN X0.here hx rfl (hb hby own_d1_7) rfl ?_
          show Steps p.tables e below (s₁.setTop (mkF m 8 #[.val (.ref am), .val (.ref am), .val (.int (Int32.ofNat n)), .val (.int (3 : Int32)), .val (.int (xs 2))] [(.int (3 : Int32))])) _
          refine XS.iloadN X0.here hx rfl (hb hby own_d1_8) rfl ?_
          show Steps p.tables e below (s₁.setTop (mkF m 9 #[.val (.ref am), .val (.ref am), .val (.int (Int32.ofNat n)), .val (.int (3 : Int32)), .val (.int (xs 2))] [(.int (Int32.ofNat n)), (.int (3 : Int32))])) _
          refine XS.icmpYes X0.here hx rfl (pc0 := 9) (pc' := 43) rfl (hb hby own_d1_9) rfl (flt (fun q => by have := (own_lti (i := 3) (by decide) hn).mp q; omega)).2.1 (by decide) (by decide) ?_
          show Steps p.tables e below (s₁.setTop (mkF m 43 #[.val (.ref am), .val (.ref am), .val (.int (Int32.ofNat n)), .val (.int (3 : Int32)), .val (.int (xs 2))] [])) _
          refine st8 _ ?_
          show Steps p.tables e below (T8.setTop (mkF m 46 #[.val (.ref am), .val (.ref am), .val (.int (Int32.ofNat n)), .val (.int (3 : Int32)), .val (.int (xs 2))] [(.ref mk)])) _
          refine XS.dup X8.here hx rfl (hb hby own_d1_46) rfl rfl ?_
          show Steps p.tables e below (T8.setTop (mkF m 47 #[.val (.ref am), .val (.ref am), .val (.int (Int32.ofNat n)), .val (.int (3 : Int32)), .val (.int (xs 2))] [(.ref mk), (.ref mk)])) _
          refine XS.aloadN X8.here hx rfl (hb hby own_d1_47) rfl rfl ?_
          show Steps p.tables e below (T8.setTop (mkF m 48 #[.val (.ref am), .val (.ref am), .val (.int (Int32.ofNat n)), .val (.int (3 : Int32)), .val (.int (xs 2))] [(.ref am), (.ref mk), (.ref mk)])) _
          refine st11 _ ?_
          show Steps p.tables e below (T11.setTop (mkF m 51 #[.val (.ref am), .val (.ref am), .val (.int (Int32.ofNat n)), .val (.int (3 : Int32)), .val (.int (xs 2))] [(.ref tk), (.ref mk), (.ref mk)])) _
          refine st14 _ ?_
          show Steps p.tables e below (T14.setTop (mkF m 54 #[.val (.ref am), .val (.ref am), .val (.int (Int32.ofNat n)), .val (.int (3 : Int32)), .val (.int (xs 2))] [(.ref tk), (.ref mk), (.ref mk)])) _
          refine st15.trans ?_
          show Steps p.tables e below (T15.setTop (mkF m 57 #[.val (.ref am), .val (.ref am), .val (.int (Int32.ofNat n)), .val (.int (3 : Int32)), .val (.int (xs 2))] [(.ref mk)])) _
          jvm_step X15.here [X15.here.top, hx, (hb hby own_d1_57), X15.method', Bd.returns, Value.isRef, FieldType.isReference]
          first | (intro acts; rw [hr _ acts rfl rfl rfl]) | rw [hr _ _ rfl rfl rfl]
          exact Steps.refl _
        · show own_Q1 Z am n xs h0 n0 _ T15.heap _
          exact ⟨mk, tk, rfl, N15, K15, sz_mk, sz_tk, E_mk, F_tokens_mk, V_tk⟩
      case neg =>
        obtain ⟨T16, h16, X16, e16, E16, A16, D16, -, st16⟩ := newO X0 hx hZ hown (hw _ (List.mem_of_getElem? (i := 6) rfl)) (hw _ (List.mem_of_getElem? (i := 7) rfl)) (hw _ (List.mem_of_getElem? (i := 4) rfl)) e0 (g := (mkF m 43 #[.val (.ref am), .val (.ref am), .val (.int (Int32.ofNat n)), .val (.int (2 : Int32)), .val (.int (xs 1))] [])) rfl (hb hby own_d1_43) (by decide) (by decide)
        obtain ⟨mk, g16⟩ : ∃ z, z = h0.size := ⟨_, rfl⟩
        rw [← g16] at A16 D16 st16
        have lt_am_mk : am < mk := by rw [g16]; exact E_am.lt
        have ne_am_mk : am ≠ mk := Nat.ne_of_lt lt_am_mk
        have g_mk : n0 ≤ mk := by rw [g16]; exact Z0
        have sz_mk : h0.size ≤ mk := by rw [g16]; exact K0.1
        have E_am := E_am.ext E16
        have V_am := V_am.ext E16
        have K17 := K0.ext E16
        have Z18 := Nat.le_trans Z0 E16.1
        have E_mk := A16
        have F_tokens_mk : Fld Z h16 mk "com/example/intervals_to_classes/intervalstoclasses/net/Marking" "tokens" "[I" .null := D16 (Or.inr (hw _ (List.mem_of_getElem? (i := 24) rfl))) (ty := (.array .int)) (by decide)
        obtain ⟨T19, h19, X19, e19, E19, A19, B19, st19⟩ := own_cloneI X16 hx hZ hown (hw _ (List.mem_of_getElem? (i := 8) rfl)) (hw _ (List.mem_of_getElem? (i := 9) rfl)) (hw _ (List.mem_of_getElem? (i := 13) rfl)) (hw _ (List.mem_of_getElem? (i := 11) rfl)) (hw _ (List.mem_of_getElem? (i := 12) rfl)) (hw _ (List.mem_of_getElem? (i := 14) rfl)) e16 V_am E_am (fun i hi => rfl) (g := (mkF m 48 #[.val (.ref am), .val (.ref am), .val (.int (Int32.ofNat n)), .val (.int (2 : Int32)), .val (.int (xs 1))] [(.ref am), (.ref mk), (.ref mk)])) rfl (by rw [hml]; rfl) rfl (hb hby own_d1_48) (by decide) (W := 2) (by show 2 * 0 + _ ≤ _; exact Nat.le_of_eq rfl) (by decide) (cap := 3) hn (by decide) (by decide)
        obtain ⟨tk, g19⟩ : ∃ z, z = h16.size := ⟨_, rfl⟩
        rw [← g19] at A19 B19 st19
        have lt_am_tk : am < tk := by rw [g19]; exact E_am.lt
        have ne_am_tk : am ≠ tk := Nat.ne_of_lt lt_am_tk
        have lt_mk_tk : mk < tk := by rw [g19]; exact E_mk.lt
        have ne_mk_tk : mk ≠ tk := Nat.ne_of_lt lt_mk_tk
        have g_tk : n0 ≤ tk := by rw [g19]; exact Z18
        have sz_tk : h0.size ≤ tk := by rw [g19]; exact K17.1
        have E_am := E_am.ext E19
        have V_am := V_am.ext E19
        have E_mk := E_mk.ext E19
        have F_tokens_mk := F_tokens_mk.ext E19
        have K20 := K17.ext E19
        have Z21 := Nat.le_trans Z18 E19.1
        have V_tk := A19
        have E_tk := B19
        obtain ⟨T22, X22, e22, st22⟩ := castY X19 hx hZ hown (hw _ (List.mem_of_getElem? (i := 15) rfl)) e19 (Ins.self E_tk) (g := (mkF m 51 #[.val (.ref am), .val (.ref am), .val (.int (Int32.ofNat n)), .val (.int (2 : Int32)), .val (.int (xs 1))] [(.ref tk), (.ref mk), (.ref mk)])) rfl rfl (hb hby own_d1_51)
        obtain ⟨_, _, ⟨T23, L23, k23, n23⟩, -, X23, ⟨Lc23, hQ23, l23, y23, z23⟩, st23⟩ := X22.specialBack hx (y := (⟨"com/example/intervals_to_classes/intervalstoclasses/net/Marking", "<init>", "([I)V"⟩ : MethodName)) rfl hown (mvT hZ (hw _ (List.mem_of_getElem? (i := 17) rfl))) (mvT hZ (hw _ (List.mem_of_getElem? (i := 18) rfl))) (mvT hZ (hw _ (List.mem_of_getElem? (i := 19) rfl))) (by decide) (backOf (W := 1) (own_rm2 l Z a0 hw [] (mk) (tk) h19 n0 Z21 E_mk F_tokens_mk g_mk) hZ (hw _ (List.mem_of_getElem? (i := 19) rfl)) (hw _ (List.mem_of_getElem? (i := 4) rfl)) (by decide) (by decide)) (g := (mkF m 54 #[.val (.ref am), .val (.ref am), .val (.int (Int32.ofNat n)), .val (.int (2 : Int32)), .val (.int (xs 1))] [(.ref tk), (.ref mk), (.ref mk)])) rfl (by rw [hml]; rfl) (Steps.refl _) (a := mk) (argsL := [(.ref tk)]) (rest := [(.ref mk)]) (lenOf own_pd0 rfl) rfl (by show 2 * 0 + _ ≤ _; exact Nat.le_of_eq rfl) (hb hby own_d1_54) (fun _ _ => ⟨rfl, e22, (by decide : 2 + 0 ≤ _), (by decide : 4 + 0 ≤ _)⟩)
        dsimp only [Pt.U, Pt.locs, Pt.cells, Pt.slots] at X23 l23 y23 z23 st23 hQ23
        subst l23 y23 z23
        obtain ⟨rfl, Nq23, Kq23, E_mk, F_tokens_mk⟩ := hQ23
        have N23 := Fr.app N0 Nq23
        have E_am := E_am.keep Kq23
        have V_am := V_am.keep Kq23 (ninS ne_am_mk nin0)
        have V_tk := V_tk.keep Kq23 (ninS (Ne.symm ne_mk_tk) nin0)
        have E_tk := E_tk.keep Kq23
        have K23 := K20.trans Kq23 (allS (Or.inr sz_mk) all0)
        have Z23 := Nat.le_trans Z21 Kq23.1
        obtain ⟨fs, hr, hrun, hended, hW, hsame⟩ := X23.leave (v := some (.ref mk)) (fun h => by rw [Bd.returns] at h; cases h) (BodyLoose.notSynchronized Bd)
        refine ⟨_, _, pre6 _ ?_, hrun, hended, _, _, rfl, ?_, ⟨_, rfl⟩, hW, hsame.mono (by decide) (by decide)⟩
        · skip
          show Steps p.tables e below (s₁.setTop (mkF m 9 #[.val (.ref am), .val (.ref am), .val (.int (Int32.ofNat n)), .val (.int (2 : Int32)), .val (.int (xs 1))] [(.int (Int32.ofNat n)), (.int (2 : Int32))])) _
          refine XS.icmpYes X0.here hx rfl (pc0 := 9) (pc' := 43) rfl (hb hby own_d1_9) rfl (flt hc9_3).2.1 (by decide) (by decide) ?_
          show Steps p.tables e below (s₁.setTop (mkF m 43 #[.val (.ref am), .val (.ref am), .val (.int (Int32.ofNat n)), .val (.int (2 : Int32)), .val (.int (xs 1))] [])) _
          refine st16 _ ?_
          show Steps p.tables e below (T16.setTop (mkF m 46 #[.val (.ref am), .val (.ref am), .val (.int (Int32.ofNat n)), .val (.int (2 : Int32)), .val (.int (xs 1))] [(.ref mk)])) _
          refine XS.dup X16.here hx rfl (hb hby own_d1_46) rfl rfl ?_
          show Steps p.tables e below (T16.setTop (mkF m 47 #[.val (.ref am), .val (.ref am), .val (.int (Int32.ofNat n)), .val (.int (2 : Int32)), .val (.int (xs 1))] [(.ref mk), (.ref mk)])) _
          refine XS.aloadN X16.here hx rfl (hb hby own_d1_47) rfl rfl ?_
          show Steps p.tables e below (T16.setTop (mkF m 48 #[.val (.ref am), .val (.ref am), .val (.int (Int32.ofNat n)), .val (.int (2 : Int32)), .val (.int (xs 1))] [(.ref am), (.ref mk), (.ref mk)])) _
          refine st19 _ ?_
          show Steps p.tables e below (T19.setTop (mkF m 51 #[.val (.ref am), .val (.ref am), .val (.int (Int32.ofNat n)), .val (.int (2 : Int32)), .val (.int (xs 1))] [(.ref tk), (.ref mk), (.ref mk)])) _
          refine st22 _ ?_
          show Steps p.tables e below (T22.setTop (mkF m 54 #[.val (.ref am), .val (.ref am), .val (.int (Int32.ofNat n)), .val (.int (2 : Int32)), .val (.int (xs 1))] [(.ref tk), (.ref mk), (.ref mk)])) _
          refine st23.trans ?_
          show Steps p.tables e below (T23.setTop (mkF m 57 #[.val (.ref am), .val (.ref am), .val (.int (Int32.ofNat n)), .val (.int (2 : Int32)), .val (.int (xs 1))] [(.ref mk)])) _
          jvm_step X23.here [X23.here.top, hx, (hb hby own_d1_57), X23.method', Bd.returns, Value.isRef, FieldType.isReference]
          first | (intro acts; rw [hr _ acts rfl rfl rfl]) | rw [hr _ _ rfl rfl rfl]
          exact Steps.refl _
        · show own_Q1 Z am n xs h0 n0 _ T23.heap _
          exact ⟨mk, tk, rfl, N23, K23, sz_mk, sz_tk, E_mk, F_tokens_mk, V_tk⟩
    case neg =>
      obtain ⟨T24, h24, X24, e24, E24, A24, D24, -, st24⟩ := newO X0 hx hZ hown (hw _ (List.mem_of_getElem? (i := 6) rfl)) (hw _ (List.mem_of_getElem? (i := 7) rfl)) (hw _ (List.mem_of_getElem? (i := 4) rfl)) e0 (g := (mkF m 43 #[.val (.ref am), .val (.ref am), .val (.int (Int32.ofNat n)), .val (.int (1 : Int32)), .val (.int (xs 0))] [])) rfl (hb hby own_d1_43) (by decide) (by decide)
      obtain ⟨mk, g24⟩ : ∃ z, z = h0.size := ⟨_, rfl⟩
      rw [← g24] at A24 D24 st24
      have lt_am_mk : am < mk := by rw [g24]; exact E_am.lt
      have ne_am_mk : am ≠ mk := Nat.ne_of_lt lt_am_mk
      have g_mk : n0 ≤ mk := by rw [g24]; exact Z0
      have sz_mk : h0.size ≤ mk := by rw [g24]; exact K0.1
      have E_am := E_am.ext E24
      have V_am := V_am.ext E24
      have K25 := K0.ext E24
      have Z26 := Nat.le_trans Z0 E24.1
      have E_mk := A24
      have F_tokens_mk : Fld Z h24 mk "com/example/intervals_to_classes/intervalstoclasses/net/Marking" "tokens" "[I" .null := D24 (Or.inr (hw _ (List.mem_of_getElem? (i := 24) rfl))) (ty := (.array .int)) (by decide)
      obtain ⟨T27, h27, X27, e27, E27, A27, B27, st27⟩ := own_cloneI X24 hx hZ hown (hw _ (List.mem_of_getElem? (i := 8) rfl)) (hw _ (List.mem_of_getElem? (i := 9) rfl)) (hw _ (List.mem_of_getElem? (i := 13) rfl)) (hw _ (List.mem_of_getElem? (i := 11) rfl)) (hw _ (List.mem_of_getElem? (i := 12) rfl)) (hw _ (List.mem_of_getElem? (i := 14) rfl)) e24 V_am E_am (fun i hi => rfl) (g := (mkF m 48 #[.val (.ref am), .val (.ref am), .val (.int (Int32.ofNat n)), .val (.int (1 : Int32)), .val (.int (xs 0))] [(.ref am), (.ref mk), (.ref mk)])) rfl (by rw [hml]; rfl) rfl (hb hby own_d1_48) (by decide) (W := 2) (by show 2 * 0 + _ ≤ _; exact Nat.le_of_eq rfl) (by decide) (cap := 3) hn (by decide) (by decide)
      obtain ⟨tk, g27⟩ : ∃ z, z = h24.size := ⟨_, rfl⟩
      rw [← g27] at A27 B27 st27
      have lt_am_tk : am < tk := by rw [g27]; exact E_am.lt
      have ne_am_tk : am ≠ tk := Nat.ne_of_lt lt_am_tk
      have lt_mk_tk : mk < tk := by rw [g27]; exact E_mk.lt
      have ne_mk_tk : mk ≠ tk := Nat.ne_of_lt lt_mk_tk
      have g_tk : n0 ≤ tk := by rw [g27]; exact Z26
      have sz_tk : h0.size ≤ tk := by rw [g27]; exact K25.1
      have E_am := E_am.ext E27
      have V_am := V_am.ext E27
      have E_mk := E_mk.ext E27
      have F_tokens_mk := F_tokens_mk.ext E27
      have K28 := K25.ext E27
      have Z29 := Nat.le_trans Z26 E27.1
      have V_tk := A27
      have E_tk := B27
      obtain ⟨T30, X30, e30, st30⟩ := castY X27 hx hZ hown (hw _ (List.mem_of_getElem? (i := 15) rfl)) e27 (Ins.self E_tk) (g := (mkF m 51 #[.val (.ref am), .val (.ref am), .val (.int (Int32.ofNat n)), .val (.int (1 : Int32)), .val (.int (xs 0))] [(.ref tk), (.ref mk), (.ref mk)])) rfl rfl (hb hby own_d1_51)
      obtain ⟨_, _, ⟨T31, L31, k31, n31⟩, -, X31, ⟨Lc31, hQ31, l31, y31, z31⟩, st31⟩ := X30.specialBack hx (y := (⟨"com/example/intervals_to_classes/intervalstoclasses/net/Marking", "<init>", "([I)V"⟩ : MethodName)) rfl hown (mvT hZ (hw _ (List.mem_of_getElem? (i := 17) rfl))) (mvT hZ (hw _ (List.mem_of_getElem? (i := 18) rfl))) (mvT hZ (hw _ (List.mem_of_getElem? (i := 19) rfl))) (by decide) (backOf (W := 1) (own_rm2 l Z a0 hw [] (mk) (tk) h27 n0 Z29 E_mk F_tokens_mk g_mk) hZ (hw _ (List.mem_of_getElem? (i := 19) rfl)) (hw _ (List.mem_of_getElem? (i := 4) rfl)) (by decide) (by decide)) (g := (mkF m 54 #[.val (.ref am), .val (.ref am), .val (.int (Int32.ofNat n)), .val (.int (1 : Int32)), .val (.int (xs 0))] [(.ref tk), (.ref mk), (.ref mk)])) rfl (by rw [hml]; rfl) (Steps.refl _) (a := mk) (argsL := [(.ref tk)]) (rest := [(.ref mk)]) (lenOf own_pd0 rfl) rfl (by show 2 * 0 + _ ≤ _; exact Nat.le_of_eq rfl) (hb hby own_d1_54) (fun _ _ => ⟨rfl, e30, (by decide : 2 + 0 ≤ _), (by decide : 4 + 0 ≤ _)⟩)
      dsimp only [Pt.U, Pt.locs, Pt.cells, Pt.slots] at X31 l31 y31 z31 st31 hQ31
      subst l31 y31 z31
      obtain ⟨rfl, Nq31, Kq31, E_mk, F_tokens_mk⟩ := hQ31
      have N31 := Fr.app N0 Nq31
      have E_am := E_am.keep Kq31
      have V_am := V_am.keep Kq31 (ninS ne_am_mk nin0)
      have V_tk := V_tk.keep Kq31 (ninS (Ne.symm ne_mk_tk) nin0)
      have E_tk := E_tk.keep Kq31
      have K31 := K28.trans Kq31 (allS (Or.inr sz_mk) all0)
      have Z31 := Nat.le_trans Z29 Kq31.1
      obtain ⟨fs, hr, hrun, hended, hW, hsame⟩ := X31.leave (v := some (.ref mk)) (fun h => by rw [Bd.returns] at h; cases h) (BodyLoose.notSynchronized Bd)
      refine ⟨_, _, pre4 _ ?_, hrun, hended, _, _, rfl, ?_, ⟨_, rfl⟩, hW, hsame.mono (by decide) (by decide)⟩
      · skip
        show Steps p.tables e below (s₁.setTop (mkF m 9 #[.val (.ref am), .val (.ref am), .val (.int (Int32.ofNat n)), .val (.int (1 : Int32)), .val (.int (xs 0))] [(.int (Int32.ofNat n)), (.int (1 : Int32))])) _
        refine XS.icmpYes X0.here hx rfl (pc0 := 9) (pc' := 43) rfl (hb hby own_d1_9) rfl (flt hc9_2).2.1 (by decide) (by decide) ?_
        show Steps p.tables e below (s₁.setTop (mkF m 43 #[.val (.ref am), .val (.ref am), .val (.int (Int32.ofNat n)), .val (.int (1 : Int32)), .val (.int (xs 0))] [])) _
        refine st24 _ ?_
        show Steps p.tables e below (T24.setTop (mkF m 46 #[.val (.ref am), .val (.ref am), .val (.int (Int32.ofNat n)), .val (.int (1 : Int32)), .val (.int (xs 0))] [(.ref mk)])) _
        refine XS.dup X24.here hx rfl (hb hby own_d1_46) rfl rfl ?_
        show Steps p.tables e below (T24.setTop (mkF m 47 #[.val (.ref am), .val (.ref am), .val (.int (Int32.ofNat n)), .val (.int (1 : Int32)), .val (.int (xs 0))] [(.ref mk), (.ref mk)])) _
        refine XS.aloadN X24.here hx rfl (hb hby own_d1_47) rfl rfl ?_
        show Steps p.tables e below (T24.setTop (mkF m 48 #[.val (.ref am), .val (.ref am), .val (.int (Int32.ofNat n)), .val (.int (1 : Int32)), .val (.int (xs 0))] [(.ref am), (.ref mk), (.ref mk)])) _
        refine st27 _ ?_
        show Steps p.tables e below (T27.setTop (mkF m 51 #[.val (.ref am), .val (.ref am), .val (.int (Int32.ofNat n)), .val (.int (1 : Int32)), .val (.int (xs 0))] [(.ref tk), (.ref mk), (.ref mk)])) _
        refine st30 _ ?_
        show Steps p.tables e below (T30.setTop (mkF m 54 #[.val (.ref am), .val (.ref am), .val (.int (Int32.ofNat n)), .val (.int (1 : Int32)), .val (.int (xs 0))] [(.ref tk), (.ref mk), (.ref mk)])) _
        refine st31.trans ?_
        show Steps p.tables e below (T31.setTop (mkF m 57 #[.val (.ref am), .val (.ref am), .val (.int (Int32.ofNat n)), .val (.int (1 : Int32)), .val (.int (xs 0))] [(.ref mk)])) _
        jvm_step X31.here [X31.here.top, hx, (hb hby own_d1_57), X31.method', Bd.returns, Value.isRef, FieldType.isReference]
        first | (intro acts; rw [hr _ acts rfl rfl rfl]) | rw [hr _ _ rfl rfl rfl]
        exact Steps.refl _
      · show own_Q1 Z am n xs h0 n0 _ T31.heap _
        exact ⟨mk, tk, rfl, N31, K31, sz_mk, sz_tk, E_mk, F_tokens_mk, V_tk⟩
  case neg =>
    obtain ⟨T32, h32, X32, e32, E32, A32, D32, -, st32⟩ := newO X0 hx hZ hown (hw _ (List.mem_of_getElem? (i := 6) rfl)) (hw _ (List.mem_of_getElem? (i := 7) rfl)) (hw _ (List.mem_of_getElem? (i := 4) rfl)) e0 (g := (mkF m 43 #[.val (.ref am), .val (.ref am), .val (.int (Int32.ofNat n)), .val (.int (0 : Int32)), .unset] [])) rfl (hb hby own_d1_43) (by decide) (by decide)
    obtain ⟨mk, g32⟩ : ∃ z, z = h0.size := ⟨_, rfl⟩
    rw [← g32] at A32 D32 st32
    have lt_am_mk : am < mk := by rw [g32]; exact E_am.lt
    have ne_am_mk : am ≠ mk := Nat.ne_of_lt lt_am_mk
    have g_mk : n0 ≤ mk := by rw [g32]; exact Z0
    have sz_mk : h0.size ≤ mk := by rw [g32]; exact K0.1
    have E_am := E_am.ext E32
    have V_am := V_am.ext E32
    have K33 := K0.ext E32
    have Z34 := Nat.le_trans Z0 E32.1
    have E_mk := A32
    have F_tokens_mk : Fld Z h32 mk "com/example/intervals_to_classes/intervalstoclasses/net/Marking" "tokens" "[I" .null := D32 (Or.inr (hw _ (List.mem_of_getElem? (i := 24) rfl))) (ty := (.array .int)) (by decide)
    obtain ⟨T35, h35, X35, e35, E35, A35, B35, st35⟩ := own_cloneI X32 hx hZ hown (hw _ (List.mem_of_getElem? (i := 8) rfl)) (hw _ (List.mem_of_getElem? (i := 9) rfl)) (hw _ (List.mem_of_getElem? (i := 13) rfl)) (hw _ (List.mem_of_getElem? (i := 11) rfl)) (hw _ (List.mem_of_getElem? (i := 12) rfl)) (hw _ (List.mem_of_getElem? (i := 14) rfl)) e32 V_am E_am (fun i hi => rfl) (g := (mkF m 48 #[.val (.ref am), .val (.ref am), .val (.int (Int32.ofNat n)), .val (.int (0 : Int32)), .unset] [(.ref am), (.ref mk), (.ref mk)])) rfl (by rw [hml]; rfl) rfl (hb hby own_d1_48) (by decide) (W := 2) (by show 2 * 0 + _ ≤ _; exact Nat.le_of_eq rfl) (by decide) (cap := 3) hn (by decide) (by decide)
    obtain ⟨tk, g35⟩ : ∃ z, z = h32.size := ⟨_, rfl⟩
    rw [← g35] at A35 B35 st35
    have lt_am_tk : am < tk := by rw [g35]; exact E_am.lt
    have ne_am_tk : am ≠ tk := Nat.ne_of_lt lt_am_tk
    have lt_mk_tk : mk < tk := by rw [g35]; exact E_mk.lt
    have ne_mk_tk : mk ≠ tk := Nat.ne_of_lt lt_mk_tk
    have g_tk : n0 ≤ tk := by rw [g35]; exact Z34
    have sz_tk : h0.size ≤ tk := by rw [g35]; exact K33.1
    have E_am := E_am.ext E35
    have V_am := V_am.ext E35
    have E_mk := E_mk.ext E35
    have F_tokens_mk := F_tokens_mk.ext E35
    have K36 := K33.ext E35
    have Z37 := Nat.le_trans Z34 E35.1
    have V_tk := A35
    have E_tk := B35
    obtain ⟨T38, X38, e38, st38⟩ := castY X35 hx hZ hown (hw _ (List.mem_of_getElem? (i := 15) rfl)) e35 (Ins.self E_tk) (g := (mkF m 51 #[.val (.ref am), .val (.ref am), .val (.int (Int32.ofNat n)), .val (.int (0 : Int32)), .unset] [(.ref tk), (.ref mk), (.ref mk)])) rfl rfl (hb hby own_d1_51)
    obtain ⟨_, _, ⟨T39, L39, k39, n39⟩, -, X39, ⟨Lc39, hQ39, l39, y39, z39⟩, st39⟩ := X38.specialBack hx (y := (⟨"com/example/intervals_to_classes/intervalstoclasses/net/Marking", "<init>", "([I)V"⟩ : MethodName)) rfl hown (mvT hZ (hw _ (List.mem_of_getElem? (i := 17) rfl))) (mvT hZ (hw _ (List.mem_of_getElem? (i := 18) rfl))) (mvT hZ (hw _ (List.mem_of_getElem? (i := 19) rfl))) (by decide) (backOf (W := 1) (own_rm2 l Z a0 hw [] (mk) (tk) h35 n0 Z37 E_mk F_tokens_mk g_mk) hZ (hw _ (List.mem_of_getElem? (i := 19) rfl)) (hw _ (List.mem_of_getElem? (i := 4) rfl)) (by decide) (by decide)) (g := (mkF m 54 #[.val (.ref am), .val (.ref am), .val (.int (Int32.ofNat n)), .val (.int (0 : Int32)), .unset] [(.ref tk), (.ref mk), (.ref mk)])) rfl (by rw [hml]; rfl) (Steps.refl _) (a := mk) (argsL := [(.ref tk)]) (rest := [(.ref mk)]) (lenOf own_pd0 rfl) rfl (by show 2 * 0 + _ ≤ _; exact Nat.le_of_eq rfl) (hb hby own_d1_54) (fun _ _ => ⟨rfl, e38, (by decide : 2 + 0 ≤ _), (by decide : 4 + 0 ≤ _)⟩)
    dsimp only [Pt.U, Pt.locs, Pt.cells, Pt.slots] at X39 l39 y39 z39 st39 hQ39
    subst l39 y39 z39
    obtain ⟨rfl, Nq39, Kq39, E_mk, F_tokens_mk⟩ := hQ39
    have N39 := Fr.app N0 Nq39
    have E_am := E_am.keep Kq39
    have V_am := V_am.keep Kq39 (ninS ne_am_mk nin0)
    have V_tk := V_tk.keep Kq39 (ninS (Ne.symm ne_mk_tk) nin0)
    have E_tk := E_tk.keep Kq39
    have K39 := K36.trans Kq39 (allS (Or.inr sz_mk) all0)
    have Z39 := Nat.le_trans Z37 Kq39.1
    obtain ⟨fs, hr, hrun, hended, hW, hsame⟩ := X39.leave (v := some (.ref mk)) (fun h => by rw [Bd.returns] at h; cases h) (BodyLoose.notSynchronized Bd)
    refine ⟨_, _, pre2 _ ?_, hrun, hended, _, _, rfl, ?_, ⟨_, rfl⟩, hW, hsame.mono (by decide) (by decide)⟩
    · skip
      show Steps p.tables e below (s₁.setTop (mkF m 9 #[.val (.ref am), .val (.ref am), .val (.int (Int32.ofNat n)), .val (.int (0 : Int32)), .unset] [(.int (Int32.ofNat n)), (.int (0 : Int32))])) _
      refine XS.icmpYes X0.here hx rfl (pc0 := 9) (pc' := 43) rfl (hb hby own_d1_9) rfl (flt hc9).2.1 (by decide) (by decide) ?_
      show Steps p.tables e below (s₁.setTop (mkF m 43 #[.val (.ref am), .val (.ref am), .val (.int (Int32.ofNat n)), .val (.int (0 : Int32)), .unset] [])) _
      refine st32 _ ?_
      show Steps p.tables e below (T32.setTop (mkF m 46 #[.val (.ref am), .val (.ref am), .val (.int (Int32.ofNat n)), .val (.int (0 : Int32)), .unset] [(.ref mk)])) _
      refine XS.dup X32.here hx rfl (hb hby own_d1_46) rfl rfl ?_
      show Steps p.tables e below (T32.setTop (mkF m 47 #[.val (.ref am), .val (.ref am), .val (.int (Int32.ofNat n)), .val (.int (0 : Int32)), .unset] [(.ref mk), (.ref mk)])) _
      refine XS.aloadN X32.here hx rfl (hb hby own_d1_47) rfl rfl ?_
      show Steps p.tables e below (T32.setTop (mkF m 48 #[.val (.ref am), .val (.ref am), .val (.int (Int32.ofNat n)), .val (.int (0 : Int32)), .unset] [(.ref am), (.ref mk), (.ref mk)])) _
      refine st35 _ ?_
      show Steps p.tables e below (T35.setTop (mkF m 51 #[.val (.ref am), .val (.ref am), .val (.int (Int32.ofNat n)), .val (.int (0 : Int32)), .unset] [(.ref tk), (.ref mk), (.ref mk)])) _
      refine st38 _ ?_
      show Steps p.tables e below (T38.setTop (mkF m 54 #[.val (.ref am), .val (.ref am), .val (.int (Int32.ofNat n)), .val (.int (0 : Int32)), .unset] [(.ref tk), (.ref mk), (.ref mk)])) _
      refine st39.trans ?_
      show Steps p.tables e below (T39.setTop (mkF m 57 #[.val (.ref am), .val (.ref am), .val (.int (Int32.ofNat n)), .val (.int (0 : Int32)), .unset] [(.ref mk)])) _
      jvm_step X39.here [X39.here.top, hx, (hb hby own_d1_57), X39.method', Bd.returns, Value.isRef, FieldType.isReference]
      first | (intro acts; rw [hr _ acts rfl rfl rfl]) | rw [hr _ _ rfl rfl rfl]
      exact Steps.refl _
    · show own_Q1 Z am n xs h0 n0 _ T39.heap _
      exact ⟨mk, tk, rfl, N39, K39, sz_mk, sz_tk, E_mk, F_tokens_mk, V_tk⟩
theorem own_d4_0 : decode prog_2_method_3_code 0 = .ok (.aload_n 0, 1) := by decide +kernel
theorem own_d4_1 : decode prog_2_method_3_code 1 = .ok (.getfield 7, 3) := by decide +kernel
theorem own_d4_4 : decode prog_2_method_3_code 4 = .ok (.arraylength, 1) := by decide +kernel
theorem own_d4_5 : decode prog_2_method_3_code 5 = .ok (.ireturn, 1) := by decide +kernel
theorem own_ef4 (m : MethodId) (x0 : Addr) : entryFrame m #[(.ref x0)] 1 = mkF m 0 #[.val (.ref x0)] [] := by first | (simp [entryFrame, mkF, argsToLocals, Value.category]; done) | rfl
def own_Q4 (Z : State) (a1 : Addr) (tk : Addr) (n : Nat) (xs : Nat → Int32) (h0 : Heap) (n0 : Nat) (v : Option Value) (h : Heap) (L : List Loc) : Prop := v = some (.int (Int32.ofNat n)) ∧ Fr n0 L ∧ h = h0
set_option maxRecDepth 65536 in
set_option maxHeartbeats 40000000 in
theorem own_rm4 (l : Launch) (Z : State) (a0 : Array Value) (hw : ∀ d ∈ tables_1, d.before a0 Z = true) (ws : List Jvm.Cond) (a1 : Addr) (tk : Addr) (n : Nat) (xs : Nat → Int32) (h0 : Heap) (n0 : Nat) (Z0 : n0 ≤ h0.size) (F_t : Fld Z h0 a1 "com/example/intervals_to_classes/intervalstoclasses/net/Marking" "tokens" "[I" (.ref tk)) (V_tk : own_AF Z h0 tk .int n (fun i => .int (xs i))) :
    MetFree l (⟨"com/example/intervals_to_classes/intervalstoclasses/net/Marking", "size", "()I"⟩ : MethodName) (head1 (Jvm.Cond.code (⟨"com/example/intervals_to_classes/intervalstoclasses/net/Marking", "size", "()I"⟩ : MethodName) prog_2_method_3_code 1 (some .int) :: ws) ({ frames := 0, cells := 0, slots := 0, locals := 0 } : Room)) (fun a U => a = #[(.ref a1)] ∧ Z.Warmed39 U.vm ∧ U.heap = h0) (fun _ _ _ _ _ => True) (fun _ U o U' => ∃ v L, o = .returned v ∧ own_Q4 Z a1 tk n xs h0 n0 v U'.heap L ∧ FrameEnd U o U' L ({ frames := 0, cells := 0, slots := 0, locals := 0 } : Room).cells ({ frames := 0, cells := 0, slots := 0, locals := 0 } : Room).slots) := by
  refine MetFree.of_bodySF (plainFor_of_name own_pn0) hisR ?_
  intro p e s m args below meth c s₁ Bd hml0 hP hK
  obtain ⟨rfl, hZ, hh⟩ := hP
  have hx := Bd.exec
  have hby := Bd.bytes
  have hml : c.maxLocals = 1 := hml0
  have hown : s.vm.findClass "com/example/intervals_to_classes/intervalstoclasses/net/Marking" = some m.cls := findClass_of_methodNamed Bd.named
  have hnm := (name_of_methodNamed Bd.named Bd.method).1
  have X0 : Stand p l e ({ frames := 0, cells := 0, slots := 0, locals := 0 } : Room) s m #[(.ref a1)] below meth c s₁ [] 0 0 := Stand.of_body Bd
  have e0 : s₁.heap = h0 := by rw [← hh, Bd.state]; rfl
  have N0 := Fr.nil n0
  have K0 := Keep.refl h0 []
  have pre0 : ∀ t, Steps p.tables e below (s₁.setTop (mkF m 0 #[.val (.ref a1)] [])) t → Steps p.tables e below (s₁.setTop (entryFrame m #[(.ref a1)] 1)) t := fun t kt0 => castTop (own_ef4 m (a1)) kt0
  obtain ⟨T1, X1, e1, st1⟩ := getF X0 hx hZ hown (host := "") (Or.inl (hw _ (List.mem_of_getElem? (i := 23) rfl))) Via.refl e0 F_t (g := (mkF m 1 #[.val (.ref a1)] [(.ref a1)])) rfl rfl (hb hby own_d4_1)
  have ld2 := (own_len X1 hx hZ e1 V_tk (z := (Int32.ofNat n)) rfl (g := (mkF m 4 #[.val (.ref a1)] [(.ref tk)])) rfl rfl (hb hby own_d4_4))
  obtain ⟨fs, hr, hrun, hended, hW, hsame⟩ := X1.leave (v := some (.int (Int32.ofNat n))) (fun h => by rw [Bd.returns] at h; cases h) (BodyLoose.notSynchronized Bd)
  refine ⟨_, _, pre0 _ ?_, hrun, hended, _, _, rfl, ?_, ⟨_, rfl⟩, hW, hsame.mono (by decide) (by decide)⟩
  · skip
    show Steps p.tables e below (s₁.setTop (mkF m 0 #[.val (.ref a1)] [])) _
    refine XS.aloadN X0.here hx rfl (hb hby own_d4_0) rfl rfl ?_
    show Steps p.tables e below (s₁.setTop (mkF m 1 #[.val (.ref a1)] [(.ref a1)])) _
    refine st1 _ ?_
    show Steps p.tables e below (T1.setTop (mkF m 4 #[.val (.ref a1)] [(.ref tk)])) _
    refine ld2 _ ?_
    show Steps p.tables e below (T1.setTop (mkF m 5 #[.val (.ref a1)] [(.int (Int32.ofNat n))])) _
    exact retI X1 hx Bd.returns (hb hby own_d4_5) hr
  · show own_Q4 Z a1 tk n xs h0 n0 _ T1.heap _
    rw [e1]
    exact ⟨rfl, N0, rfl⟩
theorem own_d5_0 : decode prog_2_method_4_code 0 = .ok (.aload_n 0, 1) := by decide +kernel
theorem own_d5_1 : decode prog_2_method_4_code 1 = .ok (.getfield 7, 3) := by decide +kernel
theorem own_d5_4 : decode prog_2_method_4_code 4 = .ok (.iload_n 1, 1) := by decide +kernel
theorem own_d5_5 : decode prog_2_method_4_code 5 = .ok (.iaload, 1) := by decide +kernel
theorem own_d5_6 : decode prog_2_method_4_code 6 = .ok (.ireturn, 1) := by decide +kernel
theorem own_ef5 (m : MethodId) (x0 : Addr) (x1 : Int32) : entryFrame m #[(.ref x0), (.int x1)] 2 = mkF m 0 #[.val (.ref x0), .val (.int x1)] [] := by first | (simp [entryFrame, mkF, argsToLocals, Value.category]; done) | rfl
def own_Q5 (Z : State) (a1 : Addr) (i : Nat) (tk : Addr) (n : Nat) (xs : Nat → Int32) (h0 : Heap) (n0 : Nat) (v : Option Value) (h : Heap) (L : List Loc) : Prop := v = some (.int (xs i)) ∧ Fr n0 L ∧ h = h0
set_option maxRecDepth 65536 in
set_option maxHeartbeats 40000000 in
theorem own_rm5 (l : Launch) (Z : State) (a0 : Array Value) (hw : ∀ d ∈ tables_1, d.before a0 Z = true) (ws : List Jvm.Cond) (a1 : Addr) (i : Nat) (tk : Addr) (n : Nat) (xs : Nat → Int32) (h0 : Heap) (n0 : Nat) (Z0 : n0 ≤ h0.size) (F_t : Fld Z h0 a1 "com/example/intervals_to_classes/intervalstoclasses/net/Marking" "tokens" "[I" (.ref tk)) (V_tk : own_AF Z h0 tk .int n (fun i => .int (xs i))) (hneg : ¬ Int32.ofNat i < 0) (hk2 : (Int32.ofNat i).toNatClampNeg = i) (hi : i < n) :
    MetFree l (⟨"com/example/intervals_to_classes/intervalstoclasses/net/Marking", "tokens", "(I)I"⟩ : MethodName) (head1 (Jvm.Cond.code (⟨"com/example/intervals_to_classes/intervalstoclasses/net/Marking", "tokens", "(I)I"⟩ : MethodName) prog_2_method_4_code 2 (some .int) :: ws) ({ frames := 0, cells := 0, slots := 0, locals := 0 } : Room)) (fun a U => a = #[(.ref a1), (.int (Int32.ofNat i))] ∧ Z.Warmed39 U.vm ∧ U.heap = h0) (fun _ _ _ _ _ => True) (fun _ U o U' => ∃ v L, o = .returned v ∧ own_Q5 Z a1 i tk n xs h0 n0 v U'.heap L ∧ FrameEnd U o U' L ({ frames := 0, cells := 0, slots := 0, locals := 0 } : Room).cells ({ frames := 0, cells := 0, slots := 0, locals := 0 } : Room).slots) := by
  refine MetFree.of_bodySF (plainFor_of_name own_pn0) hisR ?_
  intro p e s m args below meth c s₁ Bd hml0 hP hK
  obtain ⟨rfl, hZ, hh⟩ := hP
  have hx := Bd.exec
  have hby := Bd.bytes
  have hml : c.maxLocals = 2 := hml0
  have hown : s.vm.findClass "com/example/intervals_to_classes/intervalstoclasses/net/Marking" = some m.cls := findClass_of_methodNamed Bd.named
  have hnm := (name_of_methodNamed Bd.named Bd.method).1
  have X0 : Stand p l e ({ frames := 0, cells := 0, slots := 0, locals := 0 } : Room) s m #[(.ref a1), (.int (Int32.ofNat i))] below meth c s₁ [] 0 0 := Stand.of_body Bd
  have e0 : s₁.heap = h0 := by rw [← hh, Bd.state]; rfl
  have N0 := Fr.nil n0
  have K0 := Keep.refl h0 []
  have pre0 : ∀ t, Steps p.tables e below (s₁.setTop (mkF m 0 #[.val (.ref a1), .val (.int (Int32.ofNat i))] [])) t → Steps p.tables e below (s₁.setTop (entryFrame m #[(.ref a1), (.int (Int32.ofNat i))] 2)) t := fun t kt0 => castTop (own_ef5 m (a1) ((Int32.ofNat i))) kt0
  obtain ⟨T1, X1, e1, st1⟩ := getF X0 hx hZ hown (host := "") (Or.inl (hw _ (List.mem_of_getElem? (i := 23) rfl))) Via.refl e0 F_t (g := (mkF m 1 #[.val (.ref a1), .val (.int (Int32.ofNat i))] [(.ref a1)])) rfl rfl (hb hby own_d5_1)
  have ld2 := (own_ldI X1 hx hZ e1 V_tk (j := (Int32.ofNat i)) hneg (k := i) hk2 hi (v := (.int (xs i))) rfl (g := (mkF m 5 #[.val (.ref a1), .val (.int (Int32.ofNat i))] [(.int (Int32.ofNat i)), (.ref tk)])) rfl rfl (hb hby own_d5_5))
  obtain ⟨fs, hr, hrun, hended, hW, hsame⟩ := X1.leave (v := some (.int (xs i))) (fun h => by rw [Bd.returns] at h; cases h) (BodyLoose.notSynchronized Bd)
  refine ⟨_, _, pre0 _ ?_, hrun, hended, _, _, rfl, ?_, ⟨_, rfl⟩, hW, hsame.mono (by decide) (by decide)⟩
  · skip
    show Steps p.tables e below (s₁.setTop (mkF m 0 #[.val (.ref a1), .val (.int (Int32.ofNat i))] [])) _
    refine XS.aloadN X0.here hx rfl (hb hby own_d5_0) rfl rfl ?_
    show Steps p.tables e below (s₁.setTop (mkF m 1 #[.val (.ref a1), .val (.int (Int32.ofNat i))] [(.ref a1)])) _
    refine st1 _ ?_
    show Steps p.tables e below (T1.setTop (mkF m 4 #[.val (.ref a1), .val (.int (Int32.ofNat i))] [(.ref tk)])) _
    refine XS.iloadN X1.here hx rfl (hb hby own_d5_4) rfl ?_
    show Steps p.tables e below (T1.setTop (mkF m 5 #[.val (.ref a1), .val (.int (Int32.ofNat i))] [(.int (Int32.ofNat i)), (.ref tk)])) _
    refine ld2 _ ?_
    show Steps p.tables e below (T1.setTop (mkF m 6 #[.val (.ref a1), .val (.int (Int32.ofNat i))] [(.int (xs i))])) _
    exact retI X1 hx Bd.returns (hb hby own_d5_6) hr
  · show own_Q5 Z a1 i tk n xs h0 n0 _ T1.heap _
    rw [e1]
    exact ⟨rfl, N0, rfl⟩
theorem own_pn1 : plainName "com/example/intervals_to_classes/intervalstoclasses/net/MarkingOfPinLaw" = true := by first | (simp [plainName, overriddenIn]; done) | decide +kernel
theorem own_pd1 : parseMethodDescriptor "([I)Lcom/example/intervals_to_classes/intervalstoclasses/net/Marking;" = some ⟨[(.array .int)], some (.object "com/example/intervals_to_classes/intervalstoclasses/net/Marking")⟩ := by decide +kernel
theorem own_pd2 : parseMethodDescriptor "()I" = some ⟨[], some .int⟩ := by decide +kernel
theorem own_pd3 : parseMethodDescriptor "(I)I" = some ⟨[.int], some .int⟩ := by decide +kernel
theorem own_ef0 (m : MethodId) (x0 : Int32) (x1 : Int32) (x2 : Int32) (x3 : Int32) : entryFrame m #[(.int x0), (.int x1), (.int x2), (.int x3)] maxLocals = mkF m 0 #[.val (.int x0), .val (.int x1), .val (.int x2), .val (.int x3), .unset, .unset, .unset, .unset, .unset, .unset, .unset] [] := by first | (simp [entryFrame, mkF, argsToLocals, Value.category, maxLocals]; done) | rfl
def own_Q0 (Z : State) (a1 : Int32) (a2 : Int32) (a3 : Int32) (a4 : Int32) (h0 : Heap) (n0 : Nat) (v : Option Value) (h : Heap) (L : List Loc) : Prop := v = some (.int 1) ∧ Fr n0 L
set_option maxRecDepth 65536 in
set_option maxHeartbeats 40000000 in
theorem own_rm0 (l : Launch) (Z : State) (a0 : Array Value) (hw : ∀ d ∈ tables_1, d.before a0 Z = true) (ws : List Jvm.Cond) (a1 : Int32) (a2 : Int32) (a3 : Int32) (a4 : Int32) (h0 : Heap) (n0 : Nat) (Z0 : n0 ≤ h0.size) :
    MetFree l x (head1 (Jvm.Cond.code x code maxLocals ret :: ws) room_1) (fun a U => a = #[(.int a1), (.int a2), (.int a3), (.int a4)] ∧ Z.Warmed39 U.vm ∧ U.heap = h0) (fun _ _ _ _ _ => True) (fun _ U o U' => ∃ v L, o = .returned v ∧ own_Q0 Z a1 a2 a3 a4 h0 n0 v U'.heap L ∧ FrameEnd U o U' L room_1.cells room_1.slots) := by
  refine MetFree.of_bodySF (plainFor_of_name own_pn1) hisR ?_
  intro p e s m args below meth c s₁ Bd hml0 hP hK
  obtain ⟨rfl, hZ, hh⟩ := hP
  have hx := Bd.exec
  have hby := Bd.bytes
  have hml : c.maxLocals = 11 := hml0
  have hown : s.vm.findClass "com/example/intervals_to_classes/intervalstoclasses/net/MarkingOfPinLaw" = some m.cls := findClass_of_methodNamed Bd.named
  have hnm := (name_of_methodNamed Bd.named Bd.method).1
  have X0 : Stand p l e room_1 s m #[(.int a1), (.int a2), (.int a3), (.int a4)] below meth c s₁ [] 0 0 := Stand.of_body Bd
  have e0 : s₁.heap = h0 := by rw [← hh, Bd.state]; rfl
  have N0 := Fr.nil n0
  have K0 := Keep.refl h0 []
  have pre0 : ∀ t, Steps p.tables e below (s₁.setTop (mkF m 0 #[.val (.int a1), .val (.int a2), .val (.int a3), .val (.int a4), .unset, .unset, .unset, .unset, .unset, .unset, .unset] [])) t → Steps p.tables e below (s₁.setTop (entryFrame m #[(.int a1), (.int a2), (.int a3), (.int a4)] maxLocals)) t := fun t kt0 => castTop (own_ef0 m (a1) (a2) (a3) (a4)) kt0
  have pre1 : ∀ t, Steps p.tables e below (s₁.setTop (mkF m 5 #[.val (.int a1), .val (.int a2), .val (.int a3), .val (.int a4), .val (.int (a1 &&& (3 : Int32))), .unset, .unset, .unset, .unset, .unset, .unset] [])) t → Steps p.tables e below (s₁.setTop (entryFrame m #[(.int a1), (.int a2), (.int a3), (.int a4)] maxLocals)) t := by
    intro t kt
    refine pre0 t ?_
    show Steps p.tables e below (s₁.setTop (mkF m 0 #[.val (.int a1), .val (.int a2), .val (.int a3), .val (.int a4), .unset, .unset, .unset, .unset, .unset, .unset, .unset] [])) _
    refine XS.iloadN X0.here hx rfl (hb hby at_0) rfl ?_
    show Steps p.tables e below (s₁.setTop (mkF m 1 #[.val (.int a1), .val (.int a2), .val (.int a3), .val (.int a4), .unset, .unset, .unset, .unset, .unset, .unset, .unset] [(.int a1)])) _
    refine XS.iconst X0.here hx rfl (hb hby at_1) ?_
    show Steps p.tables e below (s₁.setTop (mkF m 2 #[.val (.int a1), .val (.int a2), .val (.int a3), .val (.int a4), .unset, .unset, .unset, .unset, .unset, .unset, .unset] [(.int (3 : Int32)), (.int a1)])) _
    refine XS.iand X0.here hx rfl (hb hby at_2) rfl ?_
    show Steps p.tables e below (s₁.setTop (mkF m 3 #[.val (.int a1), .val (.int a2), .val (.int a3), .val (.int a4), .unset, .unset, .unset, .unset, .unset, .unset, .unset] [(.int (a1 &&& (3 : Int32)))])) _
    refine XS.istore X0.here hx rfl (hb hby at_3) rfl (l' := #[.val (.int a1), .val (.int a2), .val (.int a3), .val (.int a4), .val (.int (a1 &&& (3 : Int32))), .unset, .unset, .unset, .unset, .unset, .unset]) rfl ?_
    exact kt
  obtain ⟨nn, hd_nn⟩ : ∃ z : Int32, z = (a1 &&& (3 : Int32)) := ⟨_, rfl⟩
  have pre2 : ∀ t, Steps p.tables e below (s₁.setTop (mkF m 5 #[.val (.int a1), .val (.int a2), .val (.int a3), .val (.int a4), .val (.int nn), .unset, .unset, .unset, .unset, .unset, .unset] [])) t → Steps p.tables e below (s₁.setTop (entryFrame m #[(.int a1), (.int a2), (.int a3), (.int a4)] maxLocals)) t := by rw [hd_nn]; exact pre1
  have pre3 : ∀ t, Steps p.tables e below (s₁.setTop (mkF m 11 #[.val (.int a1), .val (.int a2), .val (.int a3), .val (.int a4), .val (.int nn), .val (.int (a2 &&& (2147483647 : Int32))), .unset, .unset, .unset, .unset, .unset] [])) t → Steps p.tables e below (s₁.setTop (entryFrame m #[(.int a1), (.int a2), (.int a3), (.int a4)] maxLocals)) t := by
    intro t kt
    refine pre2 t ?_
    show Steps p.tables e below (s₁.setTop (mkF m 5 #[.val (.int a1), .val (.int a2), .val (.int a3), .val (.int a4), .val (.int nn), .unset, .unset, .unset, .unset, .unset, .unset] [])) _
    refine XS.iloadN X0.here hx rfl (hb hby at_5) rfl ?_
    show Steps p.tables e below (s₁.setTop (mkF m 6 #[.val (.int a1), .val (.int a2), .val (.int a3), .val (.int a4), .val (.int nn), .unset, .unset, .unset, .unset, .unset, .unset] [(.int a2)])) _
    refine X0.ldcInt hx hown (mvT hZ (hw _ (List.mem_of_getElem? (i := 0) rfl))) (g := (mkF m 6 #[.val (.int a1), .val (.int a2), .val (.int a3), .val (.int a4), .val (.int nn), .unset, .unset, .unset, .unset, .unset, .unset] [(.int a2)])) rfl (hb hby at_6) _ ?_
    show Steps p.tables e below (s₁.setTop (mkF m 8 #[.val (.int a1), .val (.int a2), .val (.int a3), .val (.int a4), .val (.int nn), .unset, .unset, .unset, .unset, .unset, .unset] [(.int (2147483647 : Int32)), (.int a2)])) _
    refine XS.iand X0.here hx rfl (hb hby at_8) rfl ?_
    show Steps p.tables e below (s₁.setTop (mkF m 9 #[.val (.int a1), .val (.int a2), .val (.int a3), .val (.int a4), .val (.int nn), .unset, .unset, .unset, .unset, .unset, .unset] [(.int (a2 &&& (2147483647 : Int32)))])) _
    refine XS.istore X0.here hx rfl (hb hby at_9) rfl (l' := #[.val (.int a1), .val (.int a2), .val (.int a3), .val (.int a4), .val (.int nn), .val (.int (a2 &&& (2147483647 : Int32))), .unset, .unset, .unset, .unset, .unset]) rfl ?_
    exact kt
  obtain ⟨v0, hd_v0⟩ : ∃ z : Int32, z = (a2 &&& (2147483647 : Int32)) := ⟨_, rfl⟩
  have pre4 : ∀ t, Steps p.tables e below (s₁.setTop (mkF m 11 #[.val (.int a1), .val (.int a2), .val (.int a3), .val (.int a4), .val (.int nn), .val (.int v0), .unset, .unset, .unset, .unset, .unset] [])) t → Steps p.tables e below (s₁.setTop (entryFrame m #[(.int a1), (.int a2), (.int a3), (.int a4)] maxLocals)) t := by rw [hd_v0]; exact pre3
  have pre5 : ∀ t, Steps p.tables e below (s₁.setTop (mkF m 17 #[.val (.int a1), .val (.int a2), .val (.int a3), .val (.int a4), .val (.int nn), .val (.int v0), .val (.int (a3 &&& (2147483647 : Int32))), .unset, .unset, .unset, .unset] [])) t → Steps p.tables e below (s₁.setTop (entryFrame m #[(.int a1), (.int a2), (.int a3), (.int a4)] maxLocals)) t := by
    intro t kt
    refine pre4 t ?_
    show Steps p.tables e below (s₁.setTop (mkF m 11 #[.val (.int a1), .val (.int a2), .val (.int a3), .val (.int a4), .val (.int nn), .val (.int v0), .unset, .unset, .unset, .unset, .unset] [])) _
    refine XS.iloadN X0.here hx rfl (hb hby at_11) rfl ?_
    show Steps p.tables e below (s₁.setTop (mkF m 12 #[.val (.int a1), .val (.int a2), .val (.int a3), .val (.int a4), .val (.int nn), .val (.int v0), .unset, .unset, .unset, .unset, .unset] [(.int a3)])) _
    refine X0.ldcInt hx hown (mvT hZ (hw _ (List.mem_of_getElem? (i := 0) rfl))) (g := (mkF m 12 #[.val (.int a1), .val (.int a2), .val (.int a3), .val (.int a4), .val (.int nn), .val (.int v0), .unset, .unset, .unset, .unset, .unset] [(.int a3)])) rfl (hb hby at_12) _ ?_
    show Steps p.tables e below (s₁.setTop (mkF m 14 #[.val (.int a1), .val (.int a2), .val (.int a3), .val (.int a4), .val (.int nn), .val (.int v0), .unset, .unset, .unset, .unset, .unset] [(.int (2147483647 : Int32)), (.int a3)])) _
    refine XS.iand X0.here hx rfl (hb hby at_14) rfl ?_
    show Steps p.tables e below (s₁.setTop (mkF m 15 #[.val (.int a1), .val (.int a2), .val (.int a3), .val (.int a4), .val (.int nn), .val (.int v0), .unset, .unset, .unset, .unset, .unset] [(.int (a3 &&& (2147483647 : Int32)))])) _
    refine XS.istore X0.here hx rfl (hb hby at_15) rfl (l' := #[.val (.int a1), .val (.int a2), .val (.int a3), .val (.int a4), .val (.int nn), .val (.int v0), .val (.int (a3 &&& (2147483647 : Int32))), .unset, .unset, .unset, .unset]) rfl ?_
    exact kt
  obtain ⟨v1, hd_v1⟩ : ∃ z : Int32, z = (a3 &&& (2147483647 : Int32)) := ⟨_, rfl⟩
  have pre6 : ∀ t, Steps p.tables e below (s₁.setTop (mkF m 17 #[.val (.int a1), .val (.int a2), .val (.int a3), .val (.int a4), .val (.int nn), .val (.int v0), .val (.int v1), .unset, .unset, .unset, .unset] [])) t → Steps p.tables e below (s₁.setTop (entryFrame m #[(.int a1), (.int a2), (.int a3), (.int a4)] maxLocals)) t := by rw [hd_v1]; exact pre5
  have pre7 : ∀ t, Steps p.tables e below (s₁.setTop (mkF m 23 #[.val (.int a1), .val (.int a2), .val (.int a3), .val (.int a4), .val (.int nn), .val (.int v0), .val (.int v1), .val (.int (a4 &&& (2147483647 : Int32))), .unset, .unset, .unset] [])) t → Steps p.tables e below (s₁.setTop (entryFrame m #[(.int a1), (.int a2), (.int a3), (.int a4)] maxLocals)) t := by
    intro t kt
    refine pre6 t ?_
    show Steps p.tables e below (s₁.setTop (mkF m 17 #[.val (.int a1), .val (.int a2), .val (.int a3), .val (.int a4), .val (.int nn), .val (.int v0), .val (.int v1), .unset, .unset, .unset, .unset] [])) _
    refine XS.iloadN X0.here hx rfl (hb hby at_17) rfl ?_
    show Steps p.tables e below (s₁.setTop (mkF m 18 #[.val (.int a1), .val (.int a2), .val (.int a3), .val (.int a4), .val (.int nn), .val (.int v0), .val (.int v1), .unset, .unset, .unset, .unset] [(.int a4)])) _
    refine X0.ldcInt hx hown (mvT hZ (hw _ (List.mem_of_getElem? (i := 0) rfl))) (g := (mkF m 18 #[.val (.int a1), .val (.int a2), .val (.int a3), .val (.int a4), .val (.int nn), .val (.int v0), .val (.int v1), .unset, .unset, .unset, .unset] [(.int a4)])) rfl (hb hby at_18) _ ?_
    show Steps p.tables e below (s₁.setTop (mkF m 20 #[.val (.int a1), .val (.int a2), .val (.int a3), .val (.int a4), .val (.int nn), .val (.int v0), .val (.int v1), .unset, .unset, .unset, .unset] [(.int (2147483647 : Int32)), (.int a4)])) _
    refine XS.iand X0.here hx rfl (hb hby at_20) rfl ?_
    show Steps p.tables e below (s₁.setTop (mkF m 21 #[.val (.int a1), .val (.int a2), .val (.int a3), .val (.int a4), .val (.int nn), .val (.int v0), .val (.int v1), .unset, .unset, .unset, .unset] [(.int (a4 &&& (2147483647 : Int32)))])) _
    refine XS.istore X0.here hx rfl (hb hby at_21) rfl (l' := #[.val (.int a1), .val (.int a2), .val (.int a3), .val (.int a4), .val (.int nn), .val (.int v0), .val (.int v1), .val (.int (a4 &&& (2147483647 : Int32))), .unset, .unset, .unset]) rfl ?_
    exact kt
  obtain ⟨v2, hd_v2⟩ : ∃ z : Int32, z = (a4 &&& (2147483647 : Int32)) := ⟨_, rfl⟩
  have pre8 : ∀ t, Steps p.tables e below (s₁.setTop (mkF m 23 #[.val (.int a1), .val (.int a2), .val (.int a3), .val (.int a4), .val (.int nn), .val (.int v0), .val (.int v1), .val (.int v2), .unset, .unset, .unset] [])) t → Steps p.tables e below (s₁.setTop (entryFrame m #[(.int a1), (.int a2), (.int a3), (.int a4)] maxLocals)) t := by rw [hd_v2]; exact pre7
  have pre9 : ∀ t, Steps p.tables e below (s₁.setTop (mkF m 25 #[.val (.int a1), .val (.int a2), .val (.int a3), .val (.int a4), .val (.int nn), .val (.int v0), .val (.int v1), .val (.int v2), .unset, .unset, .unset] [(.int nn)])) t → Steps p.tables e below (s₁.setTop (entryFrame m #[(.int a1), (.int a2), (.int a3), (.int a4)] maxLocals)) t := by
    intro t kt
    refine pre8 t ?_
    show Steps p.tables e below (s₁.setTop (mkF m 23 #[.val (.int a1), .val (.int a2), .val (.int a3), .val (.int a4), .val (.int nn), .val (.int v0), .val (.int v1), .val (.int v2), .unset, .unset, .unset] [])) _
    refine XS.iload X0.here hx rfl (hb hby at_23) rfl ?_
    exact kt
  by_cases hv10_0 : nn = (0 : Int32)
  case pos =>
    subst hv10_0
    obtain ⟨T11, h11, k11, X11, e11, E11, A11, B11, st11⟩ := newPE X0 hx hZ (hw _ (List.mem_of_getElem? (i := 1) rfl)) e0 (g := (mkF m 25 #[.val (.int a1), .val (.int a2), .val (.int a3), .val (.int a4), .val (.int (0 : Int32)), .val (.int v0), .val (.int v1), .val (.int v2), .unset, .unset, .unset] [(.int (0 : Int32))])) rfl (hb hby at_25) rfl (by decide) (cap := 0) (by decide) (by decide) (by decide) (by decide) (ad := "[I") rfl
    obtain ⟨ar, g11⟩ : ∃ z, z = h0.size := ⟨_, rfl⟩
    rw [← g11] at A11 B11 st11
    have g_ar : n0 ≤ ar := by rw [g11]; exact Z0
    have Z12 := Nat.le_trans Z0 E11.1
    have V_ar : own_AF Z h11 ar .int 0 (fun _ => .int (0 : Int32)) := own_AF.new A11 (by decide) (by decide)
    have E_ar := B11
    have hp0 : ¬ v0 < 0 := by rw [hd_v0]; exact own_pos a2
    have hp1 : ¬ v1 < 0 := by rw [hd_v1]; exact own_pos a3
    have hp2 : ¬ v2 < 0 := by rw [hd_v2]; exact own_pos a4
    have lt_ar := V_ar.lt
    obtain ⟨_, _, ⟨T13, L13, k13, n13⟩, -, X13, ⟨Lc13, hQ13, l13, y13, z13⟩, st13⟩ := Jvm.LawKit.callS X11 hx (y := (⟨"com/example/intervals_to_classes/intervalstoclasses/net/Marking", "of", "([I)Lcom/example/intervals_to_classes/intervalstoclasses/net/Marking;"⟩ : MethodName)) hown (mvT hZ (hw _ (List.mem_of_getElem? (i := 2) rfl))) (mvT hZ (hw _ (List.mem_of_getElem? (i := 3) rfl))) (mvT hZ (hw _ (List.mem_of_getElem? (i := 4) rfl))) (mvT hZ (hw _ (List.mem_of_getElem? (i := 5) rfl))) (by decide) (backOf (W := 0) (own_rm1 l Z a0 hw [] ar 0 (own_xs v0 v1 v2) h11 n0 Z12 (by decide) (fun i hi => by
          rcases i with _ | _ | _ | i
          · exact hp0
          · exact hp1
          · exact hp2
          · omega) E_ar (V_ar.congr (fun i hi => by
          rcases i with _ | _ | _ | i <;> first | rfl | omega))) hZ (hw _ (List.mem_of_getElem? (i := 5) rfl)) (hw _ (List.mem_of_getElem? (i := 4) rfl)) (by decide) (by decide)) (g := (mkF m 66 #[.val (.int a1), .val (.int a2), .val (.int a3), .val (.int a4), .val (.int (0 : Int32)), .val (.int v0), .val (.int v1), .val (.int v2), .val (.ref ar), .unset, .unset] [(.ref ar)])) rfl (by rw [hml]; rfl) (argsL := [(.ref ar)]) (rest := []) (lenOf own_pd1 rfl) rfl (by show 2 * 0 + _ ≤ _; exact Nat.le_of_eq rfl) (hb hby at_66) (fun _ _ => ⟨rfl, e11, (by decide : 1 + 2 ≤ _), (by decide : 0 + 4 ≤ _)⟩)
    dsimp only [Pt.U, Pt.locs, Pt.cells, Pt.slots] at X13 l13 y13 z13 st13 hQ13
    subst l13 y13 z13
    obtain ⟨mk, tk, rfl, Nq13, Kq13, sz_mk, sz_tk, E_mk, F_tokens_mk, V_tk⟩ := hQ13
    have N13 := Fr.app N0 Nq13
    have V_ar := V_ar.keep Kq13 nin0
    have E_ar := E_ar.keep Kq13
    have Z13 := Nat.le_trans Z12 Kq13.1
    have ne_ar_mk : ar ≠ mk := fun q => by have := lt_ar; rw [q] at this; exact absurd this (Nat.not_lt.mpr sz_mk)
    have ne_ar_tk : ar ≠ tk := fun q => by have := lt_ar; rw [q] at this; exact absurd this (Nat.not_lt.mpr sz_tk)
    obtain ⟨cq14, kq14, q14a, q14b, q14c⟩ := isOf hZ rfl E_mk
    obtain ⟨_, _, ⟨T14, L14, k14, n14⟩, -, X14, ⟨Lc14, hQ14, l14, y14, z14⟩, st14⟩ := X13.virtualBack hx (y := (⟨"com/example/intervals_to_classes/intervalstoclasses/net/Marking", "size", "()I"⟩ : MethodName)) (z := (⟨"com/example/intervals_to_classes/intervalstoclasses/net/Marking", "size", "()I"⟩ : MethodName)) hown (mvT hZ (hw _ (List.mem_of_getElem? (i := 25) rfl))) (mvT hZ (hw _ (List.mem_of_getElem? (i := 26) rfl))) (notFace_of_selects (args := #[]) (mvT hZ (hw _ (List.mem_of_getElem? (i := 28) rfl)))) (mvT hZ (hw _ (List.mem_of_getElem? (i := 28) rfl))) (mvT hZ (hw _ (List.mem_of_getElem? (i := 27) rfl))) (by decide) (backOf (W := 0) (own_rm4 l Z a0 hw [] mk tk 0 (own_xs v0 v1 v2) T13.heap n0 Z13 F_tokens_mk V_tk) hZ (hw _ (List.mem_of_getElem? (i := 29) rfl)) (hw _ (List.mem_of_getElem? (i := 4) rfl)) (by decide) (by decide)) q14a q14c (g := (mkF m 114 #[.val (.int a1), .val (.int a2), .val (.int a3), .val (.int a4), .val (.int (0 : Int32)), .val (.int v0), .val (.int v1), .val (.int v2), .val (.ref ar), .val (.ref mk), .unset] [(.ref mk)])) rfl (by rw [hml]; rfl) (Steps.refl _) (argsL := []) (rest := []) (lenOf own_pd2 rfl) rfl (by show 2 * 0 + _ ≤ _; exact Nat.le_of_eq rfl) (hb hby at_114) (fun _ _ => ⟨rfl, rfl, (by decide : 3 + 0 ≤ _), (by decide : 4 + 0 ≤ _)⟩)
    dsimp only [Pt.U, Pt.locs, Pt.cells, Pt.slots] at X14 l14 y14 z14 st14 hQ14
    subst l14 y14 z14
    obtain ⟨rfl, Nq14, eq14⟩ := hQ14
    have N14 := Fr.app N13 Nq14
    obtain ⟨fs, hr, hrun, hended, hW, hsame⟩ := X14.leave (v := some (.int (1 : Int32))) (fun h => by rw [Bd.returns] at h; cases h) (BodyLoose.notSynchronized Bd)
    refine ⟨_, _, pre9 _ ?_, hrun, hended, _, _, rfl, ?_, ⟨_, rfl⟩, hW, hsame.mono (by decide) (by decide)⟩
    · skip
      show Steps p.tables e below (s₁.setTop (mkF m 25 #[.val (.int a1), .val (.int a2), .val (.int a3), .val (.int a4), .val (.int (0 : Int32)), .val (.int v0), .val (.int v1), .val (.int v2), .unset, .unset, .unset] [(.int (0 : Int32))])) _
      refine st11 _ ?_
      show Steps p.tables e below (T11.setTop (mkF m 27 #[.val (.int a1), .val (.int a2), .val (.int a3), .val (.int a4), .val (.int (0 : Int32)), .val (.int v0), .val (.int v1), .val (.int v2), .unset, .unset, .unset] [(.ref ar)])) _
      refine XS.astore X11.here hx rfl (hb hby at_27) rfl rfl (l' := #[.val (.int a1), .val (.int a2), .val (.int a3), .val (.int a4), .val (.int (0 : Int32)), .val (.int v0), .val (.int v1), .val (.int v2), .val (.ref ar), .unset, .unset]) rfl ?_
      show Steps p.tables e below (T11.setTop (mkF m 29 #[.val (.int a1), .val (.int a2), .val (.int a3), .val (.int a4), .val (.int (0 : Int32)), .val (.int v0), .val (.int v1), .val (.int v2), .val (.ref ar), .unset, .unset] [])) _
      refine XS.iload X11.here hx rfl (hb hby at_29) rfl ?_
      show Steps p.tables e below (T11.setTop (mkF m 31 #[.val (.int a1), .val (.int a2), .val (.int a3), .val (.int a4), .val (.int (0 : Int32)), .val (.int v0), .val (.int v1), .val (.int v2), .val (.ref ar), .unset, .unset] [(.int (0 : Int32))])) _
      refine XS.ifYes X11.here hx rfl (pc0 := 31) (pc' := 40) rfl (hb hby at_31) rfl ((if0 _ _).trans (flt (by decide)).2.2.2) (by decide) (by decide) ?_
      show Steps p.tables e below (T11.setTop (mkF m 40 #[.val (.int a1), .val (.int a2), .val (.int a3), .val (.int a4), .val (.int (0 : Int32)), .val (.int v0), .val (.int v1), .val (.int v2), .val (.ref ar), .unset, .unset] [])) _
      refine XS.iload X11.here hx rfl (hb hby at_40) rfl ?_
      show Steps p.tables e below (T11.setTop (mkF m 42 #[.val (.int a1), .val (.int a2), .val (.int a3), .val (.int a4), .val (.int (0 : Int32)), .val (.int v0), .val (.int v1), .val (.int v2), .val (.ref ar), .unset, .unset] [(.int (0 : Int32))])) _
      refine XS.iconst X11.here hx rfl (hb hby at_42) ?_
      show Steps p.tables e below (T11.setTop (mkF m 43 #[.val (.int a1), .val (.int a2), .val (.int a3), .val (.int a4), .val (.int (0 : Int32)), .val (.int v0), .val (.int v1), .val (.int v2), .val (.ref ar), .unset, .unset] [(.int (1 : Int32)), (.int (0 : Int32))])) _
      refine XS.icmpYes X11.here hx rfl (pc0 := 43) (pc' := 52) rfl (hb hby at_43) rfl (flt (by decide)).2.2.2 (by decide) (by decide) ?_
      show Steps p.tables e below (T11.setTop (mkF m 52 #[.val (.int a1), .val (.int a2), .val (.int a3), .val (.int a4), .val (.int (0 : Int32)), .val (.int v0), .val (.int v1), .val (.int v2), .val (.ref ar), .unset, .unset] [])) _
      refine XS.iload X11.here hx rfl (hb hby at_52) rfl ?_
      show Steps p.tables e below (T11.setTop (mkF m 54 #[.val (.int a1), .val (.int a2), .val (.int a3), .val (.int a4), .val (.int (0 : Int32)), .val (.int v0), .val (.int v1), .val (.int v2), .val (.ref ar), .unset, .unset] [(.int (0 : Int32))])) _
      refine XS.iconst X11.here hx rfl (hb hby at_54) ?_
      show Steps p.tables e below (T11.setTop (mkF m 55 #[.val (.int a1), .val (.int a2), .val (.int a3), .val (.int a4), .val (.int (0 : Int32)), .val (.int v0), .val (.int v1), .val (.int v2), .val (.ref ar), .unset, .unset] [(.int (2 : Int32)), (.int (0 : Int32))])) _
      refine XS.icmpYes X11.here hx rfl (pc0 := 55) (pc' := 64) rfl (hb hby at_55) rfl (flt (by decide)).2.2.2 (by decide) (by decide) ?_
      show Steps p.tables e below (T11.setTop (mkF m 64 #[.val (.int a1), .val (.int a2), .val (.int a3), .val (.int a4), .val (.int (0 : Int32)), .val (.int v0), .val (.int v1), .val (.int v2), .val (.ref ar), .unset, .unset] [])) _
      refine XS.aload X11.here hx rfl (hb hby at_64) rfl rfl ?_
      show Steps p.tables e below (T11.setTop (mkF m 66 #[.val (.int a1), .val (.int a2), .val (.int a3), .val (.int a4), .val (.int (0 : Int32)), .val (.int v0), .val (.int v1), .val (.int v2), .val (.ref ar), .unset, .unset] [(.ref ar)])) _
      refine st13 _ ?_
      show Steps p.tables e below (T13.setTop (mkF m 69 #[.val (.int a1), .val (.int a2), .val (.int a3), .val (.int a4), .val (.int (0 : Int32)), .val (.int v0), .val (.int v1), .val (.int v2), .val (.ref ar), .unset, .unset] [(.ref mk)])) _
      refine XS.astore X13.here hx rfl (hb hby at_69) rfl rfl (l' := #[.val (.int a1), .val (.int a2), .val (.int a3), .val (.int a4), .val (.int (0 : Int32)), .val (.int v0), .val (.int v1), .val (.int v2), .val (.ref ar), .val (.ref mk), .unset]) rfl ?_
      show Steps p.tables e below (T13.setTop (mkF m 71 #[.val (.int a1), .val (.int a2), .val (.int a3), .val (.int a4), .val (.int (0 : Int32)), .val (.int v0), .val (.int v1), .val (.int v2), .val (.ref ar), .val (.ref mk), .unset] [])) _
      refine XS.iload X13.here hx rfl (hb hby at_71) rfl ?_
      show Steps p.tables e below (T13.setTop (mkF m 73 #[.val (.int a1), .val (.int a2), .val (.int a3), .val (.int a4), .val (.int (0 : Int32)), .val (.int v0), .val (.int v1), .val (.int v2), .val (.ref ar), .val (.ref mk), .unset] [(.int (0 : Int32))])) _
      refine XS.ifYes X13.here hx rfl (pc0 := 73) (pc' := 84) rfl (hb hby at_73) rfl ((if0 _ _).trans (flt (by decide)).2.2.2) (by decide) (by decide) ?_
      show Steps p.tables e below (T13.setTop (mkF m 84 #[.val (.int a1), .val (.int a2), .val (.int a3), .val (.int a4), .val (.int (0 : Int32)), .val (.int v0), .val (.int v1), .val (.int v2), .val (.ref ar), .val (.ref mk), .unset] [])) _
      refine XS.iload X13.here hx rfl (hb hby at_84) rfl ?_
      show Steps p.tables e below (T13.setTop (mkF m 86 #[.val (.int a1), .val (.int a2), .val (.int a3), .val (.int a4), .val (.int (0 : Int32)), .val (.int v0), .val (.int v1), .val (.int v2), .val (.ref ar), .val (.ref mk), .unset] [(.int (0 : Int32))])) _
      refine XS.iconst X13.here hx rfl (hb hby at_86) ?_
      show Steps p.tables e below (T13.setTop (mkF m 87 #[.val (.int a1), .val (.int a2), .val (.int a3), .val (.int a4), .val (.int (0 : Int32)), .val (.int v0), .val (.int v1), .val (.int v2), .val (.ref ar), .val (.ref mk), .unset] [(.int (1 : Int32)), (.int (0 : Int32))])) _
      refine XS.icmpYes X13.here hx rfl (pc0 := 87) (pc' := 98) rfl (hb hby at_87) rfl (flt (by decide)).2.2.2 (by decide) (by decide) ?_
      show Steps p.tables e below (T13.setTop (mkF m 98 #[.val (.int a1), .val (.int a2), .val (.int a3), .val (.int a4), .val (.int (0 : Int32)), .val (.int v0), .val (.int v1), .val (.int v2), .val (.ref ar), .val (.ref mk), .unset] [])) _
      refine XS.iload X13.here hx rfl (hb hby at_98) rfl ?_
      show Steps p.tables e below (T13.setTop (mkF m 100 #[.val (.int a1), .val (.int a2), .val (.int a3), .val (.int a4), .val (.int (0 : Int32)), .val (.int v0), .val (.int v1), .val (.int v2), .val (.ref ar), .val (.ref mk), .unset] [(.int (0 : Int32))])) _
      refine XS.iconst X13.here hx rfl (hb hby at_100) ?_
      show Steps p.tables e below (T13.setTop (mkF m 101 #[.val (.int a1), .val (.int a2), .val (.int a3), .val (.int a4), .val (.int (0 : Int32)), .val (.int v0), .val (.int v1), .val (.int v2), .val (.ref ar), .val (.ref mk), .unset] [(.int (2 : Int32)), (.int (0 : Int32))])) _
      refine XS.icmpYes X13.here hx rfl (pc0 := 101) (pc' := 112) rfl (hb hby at_101) rfl (flt (by decide)).2.2.2 (by decide) (by decide) ?_
      show Steps p.tables e below (T13.setTop (mkF m 112 #[.val (.int a1), .val (.int a2), .val (.int a3), .val (.int a4), .val (.int (0 : Int32)), .val (.int v0), .val (.int v1), .val (.int v2), .val (.ref ar), .val (.ref mk), .unset] [])) _
      refine XS.aload X13.here hx rfl (hb hby at_112) rfl rfl ?_
      show Steps p.tables e below (T13.setTop (mkF m 114 #[.val (.int a1), .val (.int a2), .val (.int a3), .val (.int a4), .val (.int (0 : Int32)), .val (.int v0), .val (.int v1), .val (.int v2), .val (.ref ar), .val (.ref mk), .unset] [(.ref mk)])) _
      refine st14.trans ?_
      show Steps p.tables e below (T14.setTop (mkF m 117 #[.val (.int a1), .val (.int a2), .val (.int a3), .val (.int a4), .val (.int (0 : Int32)), .val (.int v0), .val (.int v1), .val (.int v2), .val (.ref ar), .val (.ref mk), .unset] [(.int (0 : Int32))])) _
      refine XS.iload X14.here hx rfl (hb hby at_117) rfl ?_
      show Steps p.tables e below (T14.setTop (mkF m 119 #[.val (.int a1), .val (.int a2), .val (.int a3), .val (.int a4), .val (.int (0 : Int32)), .val (.int v0), .val (.int v1), .val (.int v2), .val (.ref ar), .val (.ref mk), .unset] [(.int (0 : Int32)), (.int (0 : Int32))])) _
      refine XS.icmpNo X14.here hx rfl (hb hby at_119) rfl (teq rfl).2 ?_
      show Steps p.tables e below (T14.setTop (mkF m 122 #[.val (.int a1), .val (.int a2), .val (.int a3), .val (.int a4), .val (.int (0 : Int32)), .val (.int v0), .val (.int v1), .val (.int v2), .val (.ref ar), .val (.ref mk), .unset] [])) _
      refine XS.iconst X14.here hx rfl (hb hby at_122) ?_
      show Steps p.tables e below (T14.setTop (mkF m 123 #[.val (.int a1), .val (.int a2), .val (.int a3), .val (.int a4), .val (.int (0 : Int32)), .val (.int v0), .val (.int v1), .val (.int v2), .val (.ref ar), .val (.ref mk), .unset] [(.int (1 : Int32))])) _
      refine XS.goto X14.here hx rfl (pc0 := 123) (pc' := 127) rfl (hb hby at_123) (by decide) (by decide) ?_
      show Steps p.tables e below (T14.setTop (mkF m 127 #[.val (.int a1), .val (.int a2), .val (.int a3), .val (.int a4), .val (.int (0 : Int32)), .val (.int v0), .val (.int v1), .val (.int v2), .val (.ref ar), .val (.ref mk), .unset] [(.int (1 : Int32))])) _
      refine XS.istore X14.here hx rfl (hb hby at_127) rfl (l' := #[.val (.int a1), .val (.int a2), .val (.int a3), .val (.int a4), .val (.int (0 : Int32)), .val (.int v0), .val (.int v1), .val (.int v2), .val (.ref ar), .val (.ref mk), .val (.int (1 : Int32))]) rfl ?_
      show Steps p.tables e below (T14.setTop (mkF m 129 #[.val (.int a1), .val (.int a2), .val (.int a3), .val (.int a4), .val (.int (0 : Int32)), .val (.int v0), .val (.int v1), .val (.int v2), .val (.ref ar), .val (.ref mk), .val (.int (1 : Int32))] [])) _
      refine XS.iload X14.here hx rfl (hb hby at_129) rfl ?_
      show Steps p.tables e below (T14.setTop (mkF m 131 #[.val (.int a1), .val (.int a2), .val (.int a3), .val (.int a4), .val (.int (0 : Int32)), .val (.int v0), .val (.int v1), .val (.int v2), .val (.ref ar), .val (.ref mk), .val (.int (1 : Int32))] [(.int (0 : Int32))])) _
      refine XS.ifYes X14.here hx rfl (pc0 := 131) (pc' := 157) rfl (hb hby at_131) rfl ((if0 _ _).trans (flt (by decide)).2.2.2) (by decide) (by decide) ?_
      show Steps p.tables e below (T14.setTop (mkF m 157 #[.val (.int a1), .val (.int a2), .val (.int a3), .val (.int a4), .val (.int (0 : Int32)), .val (.int v0), .val (.int v1), .val (.int v2), .val (.ref ar), .val (.ref mk), .val (.int (1 : Int32))] [])) _
      refine XS.iload X14.here hx rfl (hb hby at_157) rfl ?_
      show Steps p.tables e below (T14.setTop (mkF m 159 #[.val (.int a1), .val (.int a2), .val (.int a3), .val (.int a4), .val (.int (0 : Int32)), .val (.int v0), .val (.int v1), .val (.int v2), .val (.ref ar), .val (.ref mk), .val (.int (1 : Int32))] [(.int (0 : Int32))])) _
      refine XS.iconst X14.here hx rfl (hb hby at_159) ?_
      show Steps p.tables e below (T14.setTop (mkF m 160 #[.val (.int a1), .val (.int a2), .val (.int a3), .val (.int a4), .val (.int (0 : Int32)), .val (.int v0), .val (.int v1), .val (.int v2), .val (.ref ar), .val (.ref mk), .val (.int (1 : Int32))] [(.int (1 : Int32)), (.int (0 : Int32))])) _
      refine XS.icmpYes X14.here hx rfl (pc0 := 160) (pc' := 186) rfl (hb hby at_160) rfl (flt (by decide)).2.2.2 (by decide) (by decide) ?_
      show Steps p.tables e below (T14.setTop (mkF m 186 #[.val (.int a1), .val (.int a2), .val (.int a3), .val (.int a4), .val (.int (0 : Int32)), .val (.int v0), .val (.int v1), .val (.int v2), .val (.ref ar), .val (.ref mk), .val (.int (1 : Int32))] [])) _
      refine XS.iload X14.here hx rfl (hb hby at_186) rfl ?_
      show Steps p.tables e below (T14.setTop (mkF m 188 #[.val (.int a1), .val (.int a2), .val (.int a3), .val (.int a4), .val (.int (0 : Int32)), .val (.int v0), .val (.int v1), .val (.int v2), .val (.ref ar), .val (.ref mk), .val (.int (1 : Int32))] [(.int (0 : Int32))])) _
      refine XS.iconst X14.here hx rfl (hb hby at_188) ?_
      show Steps p.tables e below (T14.setTop (mkF m 189 #[.val (.int a1), .val (.int a2), .val (.int a3), .val (.int a4), .val (.int (0 : Int32)), .val (.int v0), .val (.int v1), .val (.int v2), .val (.ref ar), .val (.ref mk), .val (.int (1 : Int32))] [(.int (2 : Int32)), (.int (0 : Int32))])) _
      refine XS.icmpYes X14.here hx rfl (pc0 := 189) (pc' := 215) rfl (hb hby at_189) rfl (flt (by decide)).2.2.2 (by decide) (by decide) ?_
      show Steps p.tables e below (T14.setTop (mkF m 215 #[.val (.int a1), .val (.int a2), .val (.int a3), .val (.int a4), .val (.int (0 : Int32)), .val (.int v0), .val (.int v1), .val (.int v2), .val (.ref ar), .val (.ref mk), .val (.int (1 : Int32))] [])) _
      refine XS.iload X14.here hx rfl (hb hby at_215) rfl ?_
      show Steps p.tables e below (T14.setTop (mkF m 217 #[.val (.int a1), .val (.int a2), .val (.int a3), .val (.int a4), .val (.int (0 : Int32)), .val (.int v0), .val (.int v1), .val (.int v2), .val (.ref ar), .val (.ref mk), .val (.int (1 : Int32))] [(.int (1 : Int32))])) _
      exact retN X14 hx (t := .boolean) Bd.returns (by simp) (hb hby at_217) hr
    · show own_Q0 Z a1 a2 a3 a4 h0 n0 _ T14.heap _
      rw [eq14]
      exact ⟨rfl, N14⟩
  case neg =>
    by_cases hv10_1 : nn = (1 : Int32)
    case pos =>
      subst hv10_1
      obtain ⟨T15, h15, k15, X15, e15, E15, A15, B15, st15⟩ := newPE X0 hx hZ (hw _ (List.mem_of_getElem? (i := 1) rfl)) e0 (g := (mkF m 25 #[.val (.int a1), .val (.int a2), .val (.int a3), .val (.int a4), .val (.int (1 : Int32)), .val (.int v0), .val (.int v1), .val (.int v2), .unset, .unset, .unset] [(.int (1 : Int32))])) rfl (hb hby at_25) rfl (by decide) (cap := 1) (by decide) (by decide) (by decide) (by decide) (ad := "[I") rfl
      obtain ⟨ar, g15⟩ : ∃ z, z = h0.size := ⟨_, rfl⟩
      rw [← g15] at A15 B15 st15
      have g_ar : n0 ≤ ar := by rw [g15]; exact Z0
      have Z16 := Nat.le_trans Z0 E15.1
      have V_ar : own_AF Z h15 ar .int 1 (fun _ => .int (0 : Int32)) := own_AF.new A15 (by decide) (by decide)
      have E_ar := B15
      have hp0 : ¬ v0 < 0 := by rw [hd_v0]; exact own_pos a2
      have hp1 : ¬ v1 < 0 := by rw [hd_v1]; exact own_pos a3
      have hp2 : ¬ v2 < 0 := by rw [hd_v2]; exact own_pos a4
      obtain ⟨T17, h17, X17, e17, W17, V17, st17⟩ := own_stI X15 hx hZ e15 V_ar (j := (0 : Int32)) (by decide) (k := 0) rfl (by decide) (g := (mkF m 39 #[.val (.int a1), .val (.int a2), .val (.int a3), .val (.int a4), .val (.int (1 : Int32)), .val (.int v0), .val (.int v1), .val (.int v2), .val (.ref ar), .unset, .unset] [(.int v0), (.int (0 : Int32)), (.ref ar)])) rfl rfl (hb hby at_39)
      have E_ar := E_ar.wr W17
      have Z18 := Nat.le_trans Z16 (Keep.of_wr W17).1
      have N19 := Fr.snoc X17 N0 g_ar
      have V_ar := V17
      have lt_ar := V_ar.lt
      obtain ⟨_, _, ⟨T20, L20, k20, n20⟩, -, X20, ⟨Lc20, hQ20, l20, y20, z20⟩, st20⟩ := Jvm.LawKit.callS X17 hx (y := (⟨"com/example/intervals_to_classes/intervalstoclasses/net/Marking", "of", "([I)Lcom/example/intervals_to_classes/intervalstoclasses/net/Marking;"⟩ : MethodName)) hown (mvT hZ (hw _ (List.mem_of_getElem? (i := 2) rfl))) (mvT hZ (hw _ (List.mem_of_getElem? (i := 3) rfl))) (mvT hZ (hw _ (List.mem_of_getElem? (i := 4) rfl))) (mvT hZ (hw _ (List.mem_of_getElem? (i := 5) rfl))) (by decide) (backOf (W := 0) (own_rm1 l Z a0 hw [] ar 1 (own_xs v0 v1 v2) h17 n0 Z18 (by decide) (fun i hi => by
            rcases i with _ | _ | _ | i
            · exact hp0
            · exact hp1
            · exact hp2
            · omega) E_ar (V_ar.congr (fun i hi => by
            rcases i with _ | _ | _ | i <;> first | rfl | omega))) hZ (hw _ (List.mem_of_getElem? (i := 5) rfl)) (hw _ (List.mem_of_getElem? (i := 4) rfl)) (by decide) (by decide)) (g := (mkF m 66 #[.val (.int a1), .val (.int a2), .val (.int a3), .val (.int a4), .val (.int (1 : Int32)), .val (.int v0), .val (.int v1), .val (.int v2), .val (.ref ar), .unset, .unset] [(.ref ar)])) rfl (by rw [hml]; rfl) (argsL := [(.ref ar)]) (rest := []) (lenOf own_pd1 rfl) rfl (by show 2 * 0 + _ ≤ _; exact Nat.le_of_eq rfl) (hb hby at_66) (fun _ _ => ⟨rfl, e17, (by decide : 1 + 2 ≤ _), (by decide : 1 + 4 ≤ _)⟩)
      dsimp only [Pt.U, Pt.locs, Pt.cells, Pt.slots] at X20 l20 y20 z20 st20 hQ20
      subst l20 y20 z20
      obtain ⟨mk, tk, rfl, Nq20, Kq20, sz_mk, sz_tk, E_mk, F_tokens_mk, V_tk⟩ := hQ20
      have N20 := Fr.app N19 Nq20
      have V_ar := V_ar.keep Kq20 nin0
      have E_ar := E_ar.keep Kq20
      have Z20 := Nat.le_trans Z18 Kq20.1
      have ne_ar_mk : ar ≠ mk := fun q => by have := lt_ar; rw [q] at this; exact absurd this (Nat.not_lt.mpr sz_mk)
      have ne_ar_tk : ar ≠ tk := fun q => by have := lt_ar; rw [q] at this; exact absurd this (Nat.not_lt.mpr sz_tk)
      obtain ⟨T21, h21, X21, e21, W21, V21, st21⟩ := own_stI X20 hx hZ rfl V_ar (j := (0 : Int32)) (by decide) (k := 0) rfl (by decide) (g := (mkF m 83 #[.val (.int a1), .val (.int a2), .val (.int a3), .val (.int a4), .val (.int (1 : Int32)), .val (.int v0), .val (.int v1), .val (.int v2), .val (.ref ar), .val (.ref mk), .unset] [(.int (v0 + (1 : Int32))), (.int (0 : Int32)), (.ref ar)])) rfl rfl (hb hby at_83)
      have E_ar := E_ar.wr W21
      have E_mk := E_mk.wr W21
      have F_tokens_mk := F_tokens_mk.other W21 (Or.inl (Ne.symm ne_ar_mk))
      have V_tk := V_tk.other W21 (Ne.symm ne_ar_tk)
      have Z22 := Nat.le_trans Z20 (Keep.of_wr W21).1
      have N23 := Fr.snoc X21 N20 g_ar
      have V_ar := V21
      obtain ⟨cq24, kq24, q24a, q24b, q24c⟩ := isOf hZ e21 E_mk
      obtain ⟨_, _, ⟨T24, L24, k24, n24⟩, -, X24, ⟨Lc24, hQ24, l24, y24, z24⟩, st24⟩ := X21.virtualBack hx (y := (⟨"com/example/intervals_to_classes/intervalstoclasses/net/Marking", "size", "()I"⟩ : MethodName)) (z := (⟨"com/example/intervals_to_classes/intervalstoclasses/net/Marking", "size", "()I"⟩ : MethodName)) hown (mvT hZ (hw _ (List.mem_of_getElem? (i := 25) rfl))) (mvT hZ (hw _ (List.mem_of_getElem? (i := 26) rfl))) (notFace_of_selects (args := #[]) (mvT hZ (hw _ (List.mem_of_getElem? (i := 28) rfl)))) (mvT hZ (hw _ (List.mem_of_getElem? (i := 28) rfl))) (mvT hZ (hw _ (List.mem_of_getElem? (i := 27) rfl))) (by decide) (backOf (W := 0) (own_rm4 l Z a0 hw [] mk tk 1 (own_xs v0 v1 v2) h21 n0 Z22 F_tokens_mk V_tk) hZ (hw _ (List.mem_of_getElem? (i := 29) rfl)) (hw _ (List.mem_of_getElem? (i := 4) rfl)) (by decide) (by decide)) q24a q24c (g := (mkF m 114 #[.val (.int a1), .val (.int a2), .val (.int a3), .val (.int a4), .val (.int (1 : Int32)), .val (.int v0), .val (.int v1), .val (.int v2), .val (.ref ar), .val (.ref mk), .unset] [(.ref mk)])) rfl (by rw [hml]; rfl) (Steps.refl _) (argsL := []) (rest := []) (lenOf own_pd2 rfl) rfl (by show 2 * 0 + _ ≤ _; exact Nat.le_of_eq rfl) (hb hby at_114) (fun _ _ => ⟨rfl, e21, (by decide : 3 + 0 ≤ _), (by decide : 5 + 0 ≤ _)⟩)
      dsimp only [Pt.U, Pt.locs, Pt.cells, Pt.slots] at X24 l24 y24 z24 st24 hQ24
      subst l24 y24 z24
      obtain ⟨rfl, Nq24, eq24⟩ := hQ24
      have N24 := Fr.app N23 Nq24
      obtain ⟨cq25, kq25, q25a, q25b, q25c⟩ := isOf hZ eq24 E_mk
      obtain ⟨_, _, ⟨T25, L25, k25, n25⟩, -, X25, ⟨Lc25, hQ25, l25, y25, z25⟩, st25⟩ := X24.virtualBack hx (y := (⟨"com/example/intervals_to_classes/intervalstoclasses/net/Marking", "tokens", "(I)I"⟩ : MethodName)) (z := (⟨"com/example/intervals_to_classes/intervalstoclasses/net/Marking", "tokens", "(I)I"⟩ : MethodName)) hown (mvT hZ (hw _ (List.mem_of_getElem? (i := 30) rfl))) (mvT hZ (hw _ (List.mem_of_getElem? (i := 31) rfl))) (notFace_of_selects (args := #[]) (mvT hZ (hw _ (List.mem_of_getElem? (i := 33) rfl)))) (mvT hZ (hw _ (List.mem_of_getElem? (i := 33) rfl))) (mvT hZ (hw _ (List.mem_of_getElem? (i := 32) rfl))) (by decide) (backOf (W := 0) (own_rm5 l Z a0 hw [] mk 0 tk 1 (own_xs v0 v1 v2) h21 n0 Z22 F_tokens_mk V_tk (by decide) (by decide) (by decide)) hZ (hw _ (List.mem_of_getElem? (i := 34) rfl)) (hw _ (List.mem_of_getElem? (i := 4) rfl)) (by decide) (by decide)) q25a q25c (g := (mkF m 142 #[.val (.int a1), .val (.int a2), .val (.int a3), .val (.int a4), .val (.int (1 : Int32)), .val (.int v0), .val (.int v1), .val (.int v2), .val (.ref ar), .val (.ref mk), .val (.int (1 : Int32))] [(.int (0 : Int32)), (.ref mk)])) rfl (by rw [hml]; rfl) (Steps.refl _) (argsL := [(.int (0 : Int32))]) (rest := []) (lenOf own_pd3 rfl) rfl (by show 2 * 0 + _ ≤ _; exact Nat.le_of_eq rfl) (hb hby at_142) (fun _ _ => ⟨rfl, eq24, (by decide : 3 + 0 ≤ _), (by decide : 5 + 0 ≤ _)⟩)
      dsimp only [Pt.U, Pt.locs, Pt.cells, Pt.slots] at X25 l25 y25 z25 st25 hQ25
      subst l25 y25 z25
      obtain ⟨rfl, Nq25, eq25⟩ := hQ25
      have N25 := Fr.app N24 Nq25
      obtain ⟨fs, hr, hrun, hended, hW, hsame⟩ := X25.leave (v := some (.int (1 : Int32))) (fun h => by rw [Bd.returns] at h; cases h) (BodyLoose.notSynchronized Bd)
      refine ⟨_, _, pre9 _ ?_, hrun, hended, _, _, rfl, ?_, ⟨_, rfl⟩, hW, hsame.mono (by decide) (by decide)⟩
      · skip
        show Steps p.tables e below (s₁.setTop (mkF m 25 #[.val (.int a1), .val (.int a2), .val (.int a3), .val (.int a4), .val (.int (1 : Int32)), .val (.int v0), .val (.int v1), .val (.int v2), .unset, .unset, .unset] [(.int (1 : Int32))])) _
        refine st15 _ ?_
        show Steps p.tables e below (T15.setTop (mkF m 27 #[.val (.int a1), .val (.int a2), .val (.int a3), .val (.int a4), .val (.int (1 : Int32)), .val (.int v0), .val (.int v1), .val (.int v2), .unset, .unset, .unset] [(.ref ar)])) _
        refine XS.astore X15.here hx rfl (hb hby at_27) rfl rfl (l' := #[.val (.int a1), .val (.int a2), .val (.int a3), .val (.int a4), .val (.int (1 : Int32)), .val (.int v0), .val (.int v1), .val (.int v2), .val (.ref ar), .unset, .unset]) rfl ?_
        show Steps p.tables e below (T15.setTop (mkF m 29 #[.val (.int a1), .val (.int a2), .val (.int a3), .val (.int a4), .val (.int (1 : Int32)), .val (.int v0), .val (.int v1), .val (.int v2), .val (.ref ar), .unset, .unset] [])) _
        refine XS.iload X15.here hx rfl (hb hby at_29) rfl ?_
        show Steps p.tables e below (T15.setTop (mkF m 31 #[.val (.int a1), .val (.int a2), .val (.int a3), .val (.int a4), .val (.int (1 : Int32)), .val (.int v0), .val (.int v1), .val (.int v2), .val (.ref ar), .unset, .unset] [(.int (1 : Int32))])) _
        refine XS.ifNo X15.here hx rfl (hb hby at_31) rfl ((if0 _ _).trans (tlt (by decide)).2.2.2) ?_
        show Steps p.tables e below (T15.setTop (mkF m 34 #[.val (.int a1), .val (.int a2), .val (.int a3), .val (.int a4), .val (.int (1 : Int32)), .val (.int v0), .val (.int v1), .val (.int v2), .val (.ref ar), .unset, .unset] [])) _
        refine XS.aload X15.here hx rfl (hb hby at_34) rfl rfl ?_
        show Steps p.tables e below (T15.setTop (mkF m 36 #[.val (.int a1), .val (.int a2), .val (.int a3), .val (.int a4), .val (.int (1 : Int32)), .val (.int v0), .val (.int v1), .val (.int v2), .val (.ref ar), .unset, .unset] [(.ref ar)])) _
        refine XS.iconst X15.here hx rfl (hb hby at_36) ?_
        show Steps p.tables e below (T15.setTop (mkF m 37 #[.val (.int a1), .val (.int a2), .val (.int a3), .val (.int a4), .val (.int (1 : Int32)), .val (.int v0), .val (.int v1), .val (.int v2), .val (.ref ar), .unset, .unset] [(.int (0 : Int32)), (.ref ar)])) _
        refine XS.iload X15.here hx rfl (hb hby at_37) rfl ?_
        show Steps p.tables e below (T15.setTop (mkF m 39 #[.val (.int a1), .val (.int a2), .val (.int a3), .val (.int a4), .val (.int (1 : Int32)), .val (.int v0), .val (.int v1), .val (.int v2), .val (.ref ar), .unset, .unset] [(.int v0), (.int (0 : Int32)), (.ref ar)])) _
        refine st17 _ ?_
        show Steps p.tables e below (T17.setTop (mkF m 40 #[.val (.int a1), .val (.int a2), .val (.int a3), .val (.int a4), .val (.int (1 : Int32)), .val (.int v0), .val (.int v1), .val (.int v2), .val (.ref ar), .unset, .unset] [])) _
        refine XS.iload X17.here hx rfl (hb hby at_40) rfl ?_
        show Steps p.tables e below (T17.setTop (mkF m 42 #[.val (.int a1), .val (.int a2), .val (.int a3), .val (.int a4), .val (.int (1 : Int32)), .val (.int v0), .val (.int v1), .val (.int v2), .val (.ref ar), .unset, .unset] [(.int (1 : Int32))])) _
        refine XS.iconst X17.here hx rfl (hb hby at_42) ?_
        show Steps p.tables e below (T17.setTop (mkF m 43 #[.val (.int a1), .val (.int a2), .val (.int a3), .val (.int a4), .val (.int (1 : Int32)), .val (.int v0), .val (.int v1), .val (.int v2), .val (.ref ar), .unset, .unset] [(.int (1 : Int32)), (.int (1 : Int32))])) _
        refine XS.icmpYes X17.here hx rfl (pc0 := 43) (pc' := 52) rfl (hb hby at_43) rfl (flt (by decide)).2.2.2 (by decide) (by decide) ?_
        show Steps p.tables e below (T17.setTop (mkF m 52 #[.val (.int a1), .val (.int a2), .val (.int a3), .val (.int a4), .val (.int (1 : Int32)), .val (.int v0), .val (.int v1), .val (.int v2), .val (.ref ar), .unset, .unset] [])) _
        refine XS.iload X17.here hx rfl (hb hby at_52) rfl ?_
        show Steps p.tables e below (T17.setTop (mkF m 54 #[.val (.int a1), .val (.int a2), .val (.int a3), .val (.int a4), .val (.int (1 : Int32)), .val (.int v0), .val (.int v1), .val (.int v2), .val (.ref ar), .unset, .unset] [(.int (1 : Int32))])) _
        refine XS.iconst X17.here hx rfl (hb hby at_54) ?_
        show Steps p.tables e below (T17.setTop (mkF m 55 #[.val (.int a1), .val (.int a2), .val (.int a3), .val (.int a4), .val (.int (1 : Int32)), .val (.int v0), .val (.int v1), .val (.int v2), .val (.ref ar), .unset, .unset] [(.int (2 : Int32)), (.int (1 : Int32))])) _
        refine XS.icmpYes X17.here hx rfl (pc0 := 55) (pc' := 64) rfl (hb hby at_55) rfl (flt (by decide)).2.2.2 (by decide) (by decide) ?_
        show Steps p.tables e below (T17.setTop (mkF m 64 #[.val (.int a1), .val (.int a2), .val (.int a3), .val (.int a4), .val (.int (1 : Int32)), .val (.int v0), .val (.int v1), .val (.int v2), .val (.ref ar), .unset, .unset] [])) _
        refine XS.aload X17.here hx rfl (hb hby at_64) rfl rfl ?_
        show Steps p.tables e below (T17.setTop (mkF m 66 #[.val (.int a1), .val (.int a2), .val (.int a3), .val (.int a4), .val (.int (1 : Int32)), .val (.int v0), .val (.int v1), .val (.int v2), .val (.ref ar), .unset, .unset] [(.ref ar)])) _
        refine st20 _ ?_
        show Steps p.tables e below (T20.setTop (mkF m 69 #[.val (.int a1), .val (.int a2), .val (.int a3), .val (.int a4), .val (.int (1 : Int32)), .val (.int v0), .val (.int v1), .val (.int v2), .val (.ref ar), .unset, .unset] [(.ref mk)])) _
        refine XS.astore X20.here hx rfl (hb hby at_69) rfl rfl (l' := #[.val (.int a1), .val (.int a2), .val (.int a3), .val (.int a4), .val (.int (1 : Int32)), .val (.int v0), .val (.int v1), .val (.int v2), .val (.ref ar), .val (.ref mk), .unset]) rfl ?_
        show Steps p.tables e below (T20.setTop (mkF m 71 #[.val (.int a1), .val (.int a2), .val (.int a3), .val (.int a4), .val (.int (1 : Int32)), .val (.int v0), .val (.int v1), .val (.int v2), .val (.ref ar), .val (.ref mk), .unset] [])) _
        refine XS.iload X20.here hx rfl (hb hby at_71) rfl ?_
        show Steps p.tables e below (T20.setTop (mkF m 73 #[.val (.int a1), .val (.int a2), .val (.int a3), .val (.int a4), .val (.int (1 : Int32)), .val (.int v0), .val (.int v1), .val (.int v2), .val (.ref ar), .val (.ref mk), .unset] [(.int (1 : Int32))])) _
        refine XS.ifNo X20.here hx rfl (hb hby at_73) rfl ((if0 _ _).trans (tlt (by decide)).2.2.2) ?_
        show Steps p.tables e below (T20.setTop (mkF m 76 #[.val (.int a1), .val (.int a2), .val (.int a3), .val (.int a4), .val (.int (1 : Int32)), .val (.int v0), .val (.int v1), .val (.int v2), .val (.ref ar), .val (.ref mk), .unset] [])) _
        refine XS.aload X20.here hx rfl (hb hby at_76) rfl rfl ?_
        show Steps p.tables e below (T20.setTop (mkF m 78 #[.val (.int a1), .val (.int a2), .val (.int a3), .val (.int a4), .val (.int (1 : Int32)), .val (.int v0), .val (.int v1), .val (.int v2), .val (.ref ar), .val (.ref mk), .unset] [(.ref ar)])) _
        refine XS.iconst X20.here hx rfl (hb hby at_78) ?_
        show Steps p.tables e below (T20.setTop (mkF m 79 #[.val (.int a1), .val (.int a2), .val (.int a3), .val (.int a4), .val (.int (1 : Int32)), .val (.int v0), .val (.int v1), .val (.int v2), .val (.ref ar), .val (.ref mk), .unset] [(.int (0 : Int32)), (.ref ar)])) _
        refine XS.iload X20.here hx rfl (hb hby at_79) rfl ?_
        show Steps p.tables e below (T20.setTop (mkF m 81 #[.val (.int a1), .val (.int a2), .val (.int a3), .val (.int a4), .val (.int (1 : Int32)), .val (.int v0), .val (.int v1), .val (.int v2), .val (.ref ar), .val (.ref mk), .unset] [(.int v0), (.int (0 : Int32)), (.ref ar)])) _
        refine XS.iconst X20.here hx rfl (hb hby at_81) ?_
        show Steps p.tables e below (T20.setTop (mkF m 82 #[.val (.int a1), .val (.int a2), .val (.int a3), .val (.int a4), .val (.int (1 : Int32)), .val (.int v0), .val (.int v1), .val (.int v2), .val (.ref ar), .val (.ref mk), .unset] [(.int (1 : Int32)), (.int v0), (.int (0 : Int32)), (.ref ar)])) _
        refine XS.iadd X20.here hx rfl (hb hby at_82) rfl ?_
        show Steps p.tables e below (T20.setTop (mkF m 83 #[.val (.int a1), .val (.int a2), .val (.int a3), .val (.int a4), .val (.int (1 : Int32)), .val (.int v0), .val (.int v1), .val (.int v2), .val (.ref ar), .val (.ref mk), .unset] [(.int (v0 + (1 : Int32))), (.int (0 : Int32)), (.ref ar)])) _
        refine st21 _ ?_
        show Steps p.tables e below (T21.setTop (mkF m 84 #[.val (.int a1), .val (.int a2), .val (.int a3), .val (.int a4), .val (.int (1 : Int32)), .val (.int v0), .val (.int v1), .val (.int v2), .val (.ref ar), .val (.ref mk), .unset] [])) _
        refine XS.iload X21.here hx rfl (hb hby at_84) rfl ?_
        show Steps p.tables e below (T21.setTop (mkF m 86 #[.val (.int a1), .val (.int a2), .val (.int a3), .val (.int a4), .val (.int (1 : Int32)), .val (.int v0), .val (.int v1), .val (.int v2), .val (.ref ar), .val (.ref mk), .unset] [(.int (1 : Int32))])) _
        refine XS.iconst X21.here hx rfl (hb hby at_86) ?_
        show Steps p.tables e below (T21.setTop (mkF m 87 #[.val (.int a1), .val (.int a2), .val (.int a3), .val (.int a4), .val (.int (1 : Int32)), .val (.int v0), .val (.int v1), .val (.int v2), .val (.ref ar), .val (.ref mk), .unset] [(.int (1 : Int32)), (.int (1 : Int32))])) _
        refine XS.icmpYes X21.here hx rfl (pc0 := 87) (pc' := 98) rfl (hb hby at_87) rfl (flt (by decide)).2.2.2 (by decide) (by decide) ?_
        show Steps p.tables e below (T21.setTop (mkF m 98 #[.val (.int a1), .val (.int a2), .val (.int a3), .val (.int a4), .val (.int (1 : Int32)), .val (.int v0), .val (.int v1), .val (.int v2), .val (.ref ar), .val (.ref mk), .unset] [])) _
        refine XS.iload X21.here hx rfl (hb hby at_98) rfl ?_
        show Steps p.tables e below (T21.setTop (mkF m 100 #[.val (.int a1), .val (.int a2), .val (.int a3), .val (.int a4), .val (.int (1 : Int32)), .val (.int v0), .val (.int v1), .val (.int v2), .val (.ref ar), .val (.ref mk), .unset] [(.int (1 : Int32))])) _
        refine XS.iconst X21.here hx rfl (hb hby at_100) ?_
        show Steps p.tables e below (T21.setTop (mkF m 101 #[.val (.int a1), .val (.int a2), .val (.int a3), .val (.int a4), .val (.int (1 : Int32)), .val (.int v0), .val (.int v1), .val (.int v2), .val (.ref ar), .val (.ref mk), .unset] [(.int (2 : Int32)), (.int (1 : Int32))])) _
        refine XS.icmpYes X21.here hx rfl (pc0 := 101) (pc' := 112) rfl (hb hby at_101) rfl (flt (by decide)).2.2.2 (by decide) (by decide) ?_
        show Steps p.tables e below (T21.setTop (mkF m 112 #[.val (.int a1), .val (.int a2), .val (.int a3), .val (.int a4), .val (.int (1 : Int32)), .val (.int v0), .val (.int v1), .val (.int v2), .val (.ref ar), .val (.ref mk), .unset] [])) _
        refine XS.aload X21.here hx rfl (hb hby at_112) rfl rfl ?_
        show Steps p.tables e below (T21.setTop (mkF m 114 #[.val (.int a1), .val (.int a2), .val (.int a3), .val (.int a4), .val (.int (1 : Int32)), .val (.int v0), .val (.int v1), .val (.int v2), .val (.ref ar), .val (.ref mk), .unset] [(.ref mk)])) _
        refine st24.trans ?_
        show Steps p.tables e below (T24.setTop (mkF m 117 #[.val (.int a1), .val (.int a2), .val (.int a3), .val (.int a4), .val (.int (1 : Int32)), .val (.int v0), .val (.int v1), .val (.int v2), .val (.ref ar), .val (.ref mk), .unset] [(.int (1 : Int32))])) _
        refine XS.iload X24.here hx rfl (hb hby at_117) rfl ?_
        show Steps p.tables e below (T24.setTop (mkF m 119 #[.val (.int a1), .val (.int a2), .val (.int a3), .val (.int a4), .val (.int (1 : Int32)), .val (.int v0), .val (.int v1), .val (.int v2), .val (.ref ar), .val (.ref mk), .unset] [(.int (1 : Int32)), (.int (1 : Int32))])) _
        refine XS.icmpNo X24.here hx rfl (hb hby at_119) rfl (teq rfl).2 ?_
        show Steps p.tables e below (T24.setTop (mkF m 122 #[.val (.int a1), .val (.int a2), .val (.int a3), .val (.int a4), .val (.int (1 : Int32)), .val (.int v0), .val (.int v1), .val (.int v2), .val (.ref ar), .val (.ref mk), .unset] [])) _
        refine XS.iconst X24.here hx rfl (hb hby at_122) ?_
        show Steps p.tables e below (T24.setTop (mkF m 123 #[.val (.int a1), .val (.int a2), .val (.int a3), .val (.int a4), .val (.int (1 : Int32)), .val (.int v0), .val (.int v1), .val (.int v2), .val (.ref ar), .val (.ref mk), .unset] [(.int (1 : Int32))])) _
        refine XS.goto X24.here hx rfl (pc0 := 123) (pc' := 127) rfl (hb hby at_123) (by decide) (by decide) ?_
        show Steps p.tables e below (T24.setTop (mkF m 127 #[.val (.int a1), .val (.int a2), .val (.int a3), .val (.int a4), .val (.int (1 : Int32)), .val (.int v0), .val (.int v1), .val (.int v2), .val (.ref ar), .val (.ref mk), .unset] [(.int (1 : Int32))])) _
        refine XS.istore X24.here hx rfl (hb hby at_127) rfl (l' := #[.val (.int a1), .val (.int a2), .val (.int a3), .val (.int a4), .val (.int (1 : Int32)), .val (.int v0), .val (.int v1), .val (.int v2), .val (.ref ar), .val (.ref mk), .val (.int (1 : Int32))]) rfl ?_
        show Steps p.tables e below (T24.setTop (mkF m 129 #[.val (.int a1), .val (.int a2), .val (.int a3), .val (.int a4), .val (.int (1 : Int32)), .val (.int v0), .val (.int v1), .val (.int v2), .val (.ref ar), .val (.ref mk), .val (.int (1 : Int32))] [])) _
        refine XS.iload X24.here hx rfl (hb hby at_129) rfl ?_
        show Steps p.tables e below (T24.setTop (mkF m 131 #[.val (.int a1), .val (.int a2), .val (.int a3), .val (.int a4), .val (.int (1 : Int32)), .val (.int v0), .val (.int v1), .val (.int v2), .val (.ref ar), .val (.ref mk), .val (.int (1 : Int32))] [(.int (1 : Int32))])) _
        refine XS.ifNo X24.here hx rfl (hb hby at_131) rfl ((if0 _ _).trans (tlt (by decide)).2.2.2) ?_
        show Steps p.tables e below (T24.setTop (mkF m 134 #[.val (.int a1), .val (.int a2), .val (.int a3), .val (.int a4), .val (.int (1 : Int32)), .val (.int v0), .val (.int v1), .val (.int v2), .val (.ref ar), .val (.ref mk), .val (.int (1 : Int32))] [])) _
        refine XS.iload X24.here hx rfl (hb hby at_134) rfl ?_
        show Steps p.tables e below (T24.setTop (mkF m 136 #[.val (.int a1), .val (.int a2), .val (.int a3), .val (.int a4), .val (.int (1 : Int32)), .val (.int v0), .val (.int v1), .val (.int v2), .val (.ref ar), .val (.ref mk), .val (.int (1 : Int32))] [(.int (1 : Int32))])) _
        refine XS.ifNo X24.here hx rfl (hb hby at_136) rfl ((if0 _ _).trans (feq (by decide)).1) ?_
        show Steps p.tables e below (T24.setTop (mkF m 139 #[.val (.int a1), .val (.int a2), .val (.int a3), .val (.int a4), .val (.int (1 : Int32)), .val (.int v0), .val (.int v1), .val (.int v2), .val (.ref ar), .val (.ref mk), .val (.int (1 : Int32))] [])) _
        refine XS.aload X24.here hx rfl (hb hby at_139) rfl rfl ?_
        show Steps p.tables e below (T24.setTop (mkF m 141 #[.val (.int a1), .val (.int a2), .val (.int a3), .val (.int a4), .val (.int (1 : Int32)), .val (.int v0), .val (.int v1), .val (.int v2), .val (.ref ar), .val (.ref mk), .val (.int (1 : Int32))] [(.ref mk)])) _
        refine XS.iconst X24.here hx rfl (hb hby at_141) ?_
        show Steps p.tables e below (T24.setTop (mkF m 142 #[.val (.int a1), .val (.int a2), .val (.int a3), .val (.int a4), .val (.int (1 : Int32)), .val (.int v0), .val (.int v1), .val (.int v2), .val (.ref ar), .val (.ref mk), .val (.int (1 : Int32))] [(.int (0 : Int32)), (.ref mk)])) _
        refine st25.trans ?_
        show Steps p.tables e below (T25.setTop (mkF m 145 #[.val (.int a1), .val (.int a2), .val (.int a3), .val (.int a4), .val (.int (1 : Int32)), .val (.int v0), .val (.int v1), .val (.int v2), .val (.ref ar), .val (.ref mk), .val (.int (1 : Int32))] [(.int v0)])) _
        refine XS.iload X25.here hx rfl (hb hby at_145) rfl ?_
        show Steps p.tables e below (T25.setTop (mkF m 147 #[.val (.int a1), .val (.int a2), .val (.int a3), .val (.int a4), .val (.int (1 : Int32)), .val (.int v0), .val (.int v1), .val (.int v2), .val (.ref ar), .val (.ref mk), .val (.int (1 : Int32))] [(.int v0), (.int v0)])) _
        refine XS.icmpNo X25.here hx rfl (hb hby at_147) rfl (teq rfl).2 ?_
        show Steps p.tables e below (T25.setTop (mkF m 150 #[.val (.int a1), .val (.int a2), .val (.int a3), .val (.int a4), .val (.int (1 : Int32)), .val (.int v0), .val (.int v1), .val (.int v2), .val (.ref ar), .val (.ref mk), .val (.int (1 : Int32))] [])) _
        refine XS.iconst X25.here hx rfl (hb hby at_150) ?_
        show Steps p.tables e below (T25.setTop (mkF m 151 #[.val (.int a1), .val (.int a2), .val (.int a3), .val (.int a4), .val (.int (1 : Int32)), .val (.int v0), .val (.int v1), .val (.int v2), .val (.ref ar), .val (.ref mk), .val (.int (1 : Int32))] [(.int (1 : Int32))])) _
        refine XS.goto X25.here hx rfl (pc0 := 151) (pc' := 155) rfl (hb hby at_151) (by decide) (by decide) ?_
        show Steps p.tables e below (T25.setTop (mkF m 155 #[.val (.int a1), .val (.int a2), .val (.int a3), .val (.int a4), .val (.int (1 : Int32)), .val (.int v0), .val (.int v1), .val (.int v2), .val (.ref ar), .val (.ref mk), .val (.int (1 : Int32))] [(.int (1 : Int32))])) _
        refine XS.istore X25.here hx rfl (hb hby at_155) rfl (l' := #[.val (.int a1), .val (.int a2), .val (.int a3), .val (.int a4), .val (.int (1 : Int32)), .val (.int v0), .val (.int v1), .val (.int v2), .val (.ref ar), .val (.ref mk), .val (.int (1 : Int32))]) rfl ?_
        show Steps p.tables e below (T25.setTop (mkF m 157 #[.val (.int a1), .val (.int a2), .val (.int a3), .val (.int a4), .val (.int (1 : Int32)), .val (.int v0), .val (.int v1), .val (.int v2), .val (.ref ar), .val (.ref mk), .val (.int (1 : Int32))] [])) _
        refine XS.iload X25.here hx rfl (hb hby at_157) rfl ?_
        show Steps p.tables e below (T25.setTop (mkF m 159 #[.val (.int a1), .val (.int a2), .val (.int a3), .val (.int a4), .val (.int (1 : Int32)), .val (.int v0), .val (.int v1), .val (.int v2), .val (.ref ar), .val (.ref mk), .val (.int (1 : Int32))] [(.int (1 : Int32))])) _
        refine XS.iconst X25.here hx rfl (hb hby at_159) ?_
        show Steps p.tables e below (T25.setTop (mkF m 160 #[.val (.int a1), .val (.int a2), .val (.int a3), .val (.int a4), .val (.int (1 : Int32)), .val (.int v0), .val (.int v1), .val (.int v2), .val (.ref ar), .val (.ref mk), .val (.int (1 : Int32))] [(.int (1 : Int32)), (.int (1 : Int32))])) _
        refine XS.icmpYes X25.here hx rfl (pc0 := 160) (pc' := 186) rfl (hb hby at_160) rfl (flt (by decide)).2.2.2 (by decide) (by decide) ?_
        show Steps p.tables e below (T25.setTop (mkF m 186 #[.val (.int a1), .val (.int a2), .val (.int a3), .val (.int a4), .val (.int (1 : Int32)), .val (.int v0), .val (.int v1), .val (.int v2), .val (.ref ar), .val (.ref mk), .val (.int (1 : Int32))] [])) _
        refine XS.iload X25.here hx rfl (hb hby at_186) rfl ?_
        show Steps p.tables e below (T25.setTop (mkF m 188 #[.val (.int a1), .val (.int a2), .val (.int a3), .val (.int a4), .val (.int (1 : Int32)), .val (.int v0), .val (.int v1), .val (.int v2), .val (.ref ar), .val (.ref mk), .val (.int (1 : Int32))] [(.int (1 : Int32))])) _
        refine XS.iconst X25.here hx rfl (hb hby at_188) ?_
        show Steps p.tables e below (T25.setTop (mkF m 189 #[.val (.int a1), .val (.int a2), .val (.int a3), .val (.int a4), .val (.int (1 : Int32)), .val (.int v0), .val (.int v1), .val (.int v2), .val (.ref ar), .val (.ref mk), .val (.int (1 : Int32))] [(.int (2 : Int32)), (.int (1 : Int32))])) _
        refine XS.icmpYes X25.here hx rfl (pc0 := 189) (pc' := 215) rfl (hb hby at_189) rfl (flt (by decide)).2.2.2 (by decide) (by decide) ?_
        show Steps p.tables e below (T25.setTop (mkF m 215 #[.val (.int a1), .val (.int a2), .val (.int a3), .val (.int a4), .val (.int (1 : Int32)), .val (.int v0), .val (.int v1), .val (.int v2), .val (.ref ar), .val (.ref mk), .val (.int (1 : Int32))] [])) _
        refine XS.iload X25.here hx rfl (hb hby at_215) rfl ?_
        show Steps p.tables e below (T25.setTop (mkF m 217 #[.val (.int a1), .val (.int a2), .val (.int a3), .val (.int a4), .val (.int (1 : Int32)), .val (.int v0), .val (.int v1), .val (.int v2), .val (.ref ar), .val (.ref mk), .val (.int (1 : Int32))] [(.int (1 : Int32))])) _
        exact retN X25 hx (t := .boolean) Bd.returns (by simp) (hb hby at_217) hr
      · show own_Q0 Z a1 a2 a3 a4 h0 n0 _ T25.heap _
        rw [eq25]
        exact ⟨rfl, N25⟩
    case neg =>
      by_cases hv10_2 : nn = (2 : Int32)
      case pos =>
        subst hv10_2
        obtain ⟨T26, h26, k26, X26, e26, E26, A26, B26, st26⟩ := newPE X0 hx hZ (hw _ (List.mem_of_getElem? (i := 1) rfl)) e0 (g := (mkF m 25 #[.val (.int a1), .val (.int a2), .val (.int a3), .val (.int a4), .val (.int (2 : Int32)), .val (.int v0), .val (.int v1), .val (.int v2), .unset, .unset, .unset] [(.int (2 : Int32))])) rfl (hb hby at_25) rfl (by decide) (cap := 2) (by decide) (by decide) (by decide) (by decide) (ad := "[I") rfl
        obtain ⟨ar, g26⟩ : ∃ z, z = h0.size := ⟨_, rfl⟩
        rw [← g26] at A26 B26 st26
        have g_ar : n0 ≤ ar := by rw [g26]; exact Z0
        have Z27 := Nat.le_trans Z0 E26.1
        have V_ar : own_AF Z h26 ar .int 2 (fun _ => .int (0 : Int32)) := own_AF.new A26 (by decide) (by decide)
        have E_ar := B26
        have hp0 : ¬ v0 < 0 := by rw [hd_v0]; exact own_pos a2
        have hp1 : ¬ v1 < 0 := by rw [hd_v1]; exact own_pos a3
        have hp2 : ¬ v2 < 0 := by rw [hd_v2]; exact own_pos a4
        obtain ⟨T28, h28, X28, e28, W28, V28, st28⟩ := own_stI X26 hx hZ e26 V_ar (j := (0 : Int32)) (by decide) (k := 0) rfl (by decide) (g := (mkF m 39 #[.val (.int a1), .val (.int a2), .val (.int a3), .val (.int a4), .val (.int (2 : Int32)), .val (.int v0), .val (.int v1), .val (.int v2), .val (.ref ar), .unset, .unset] [(.int v0), (.int (0 : Int32)), (.ref ar)])) rfl rfl (hb hby at_39)
        have E_ar := E_ar.wr W28
        have Z29 := Nat.le_trans Z27 (Keep.of_wr W28).1
        have N30 := Fr.snoc X28 N0 g_ar
        have V_ar := V28
        obtain ⟨T31, h31, X31, e31, W31, V31, st31⟩ := own_stI X28 hx hZ e28 V_ar (j := (1 : Int32)) (by decide) (k := 1) rfl (by decide) (g := (mkF m 51 #[.val (.int a1), .val (.int a2), .val (.int a3), .val (.int a4), .val (.int (2 : Int32)), .val (.int v0), .val (.int v1), .val (.int v2), .val (.ref ar), .unset, .unset] [(.int v1), (.int (1 : Int32)), (.ref ar)])) rfl rfl (hb hby at_51)
        have E_ar := E_ar.wr W31
        have Z32 := Nat.le_trans Z29 (Keep.of_wr W31).1
        have N33 := Fr.snoc X31 N30 g_ar
        have V_ar := V31
        have lt_ar := V_ar.lt
        obtain ⟨_, _, ⟨T34, L34, k34, n34⟩, -, X34, ⟨Lc34, hQ34, l34, y34, z34⟩, st34⟩ := Jvm.LawKit.callS X31 hx (y := (⟨"com/example/intervals_to_classes/intervalstoclasses/net/Marking", "of", "([I)Lcom/example/intervals_to_classes/intervalstoclasses/net/Marking;"⟩ : MethodName)) hown (mvT hZ (hw _ (List.mem_of_getElem? (i := 2) rfl))) (mvT hZ (hw _ (List.mem_of_getElem? (i := 3) rfl))) (mvT hZ (hw _ (List.mem_of_getElem? (i := 4) rfl))) (mvT hZ (hw _ (List.mem_of_getElem? (i := 5) rfl))) (by decide) (backOf (W := 0) (own_rm1 l Z a0 hw [] ar 2 (own_xs v0 v1 v2) h31 n0 Z32 (by decide) (fun i hi => by
              rcases i with _ | _ | _ | i
              · exact hp0
              · exact hp1
              · exact hp2
              · omega) E_ar (V_ar.congr (fun i hi => by
              rcases i with _ | _ | _ | i <;> first | rfl | omega))) hZ (hw _ (List.mem_of_getElem? (i := 5) rfl)) (hw _ (List.mem_of_getElem? (i := 4) rfl)) (by decide) (by decide)) (g := (mkF m 66 #[.val (.int a1), .val (.int a2), .val (.int a3), .val (.int a4), .val (.int (2 : Int32)), .val (.int v0), .val (.int v1), .val (.int v2), .val (.ref ar), .unset, .unset] [(.ref ar)])) rfl (by rw [hml]; rfl) (argsL := [(.ref ar)]) (rest := []) (lenOf own_pd1 rfl) rfl (by show 2 * 0 + _ ≤ _; exact Nat.le_of_eq rfl) (hb hby at_66) (fun _ _ => ⟨rfl, e31, (by decide : 1 + 2 ≤ _), (by decide : 2 + 4 ≤ _)⟩)
        dsimp only [Pt.U, Pt.locs, Pt.cells, Pt.slots] at X34 l34 y34 z34 st34 hQ34
        subst l34 y34 z34
        obtain ⟨mk, tk, rfl, Nq34, Kq34, sz_mk, sz_tk, E_mk, F_tokens_mk, V_tk⟩ := hQ34
        have N34 := Fr.app N33 Nq34
        have V_ar := V_ar.keep Kq34 nin0
        have E_ar := E_ar.keep Kq34
        have Z34 := Nat.le_trans Z32 Kq34.1
        have ne_ar_mk : ar ≠ mk := fun q => by have := lt_ar; rw [q] at this; exact absurd this (Nat.not_lt.mpr sz_mk)
        have ne_ar_tk : ar ≠ tk := fun q => by have := lt_ar; rw [q] at this; exact absurd this (Nat.not_lt.mpr sz_tk)
        obtain ⟨T35, h35, X35, e35, W35, V35, st35⟩ := own_stI X34 hx hZ rfl V_ar (j := (0 : Int32)) (by decide) (k := 0) rfl (by decide) (g := (mkF m 83 #[.val (.int a1), .val (.int a2), .val (.int a3), .val (.int a4), .val (.int (2 : Int32)), .val (.int v0), .val (.int v1), .val (.int v2), .val (.ref ar), .val (.ref mk), .unset] [(.int (v0 + (1 : Int32))), (.int (0 : Int32)), (.ref ar)])) rfl rfl (hb hby at_83)
        have E_ar := E_ar.wr W35
        have E_mk := E_mk.wr W35
        have F_tokens_mk := F_tokens_mk.other W35 (Or.inl (Ne.symm ne_ar_mk))
        have V_tk := V_tk.other W35 (Ne.symm ne_ar_tk)
        have Z36 := Nat.le_trans Z34 (Keep.of_wr W35).1
        have N37 := Fr.snoc X35 N34 g_ar
        have V_ar := V35
        obtain ⟨T38, h38, X38, e38, W38, V38, st38⟩ := own_stI X35 hx hZ e35 V_ar (j := (1 : Int32)) (by decide) (k := 1) rfl (by decide) (g := (mkF m 97 #[.val (.int a1), .val (.int a2), .val (.int a3), .val (.int a4), .val (.int (2 : Int32)), .val (.int v0), .val (.int v1), .val (.int v2), .val (.ref ar), .val (.ref mk), .unset] [(.int (v1 + (1 : Int32))), (.int (1 : Int32)), (.ref ar)])) rfl rfl (hb hby at_97)
        have E_ar := E_ar.wr W38
        have E_mk := E_mk.wr W38
        have F_tokens_mk := F_tokens_mk.other W38 (Or.inl (Ne.symm ne_ar_mk))
        have V_tk := V_tk.other W38 (Ne.symm ne_ar_tk)
        have Z39 := Nat.le_trans Z36 (Keep.of_wr W38).1
        have N40 := Fr.snoc X38 N37 g_ar
        have V_ar := V38
        obtain ⟨cq41, kq41, q41a, q41b, q41c⟩ := isOf hZ e38 E_mk
        obtain ⟨_, _, ⟨T41, L41, k41, n41⟩, -, X41, ⟨Lc41, hQ41, l41, y41, z41⟩, st41⟩ := X38.virtualBack hx (y := (⟨"com/example/intervals_to_classes/intervalstoclasses/net/Marking", "size", "()I"⟩ : MethodName)) (z := (⟨"com/example/intervals_to_classes/intervalstoclasses/net/Marking", "size", "()I"⟩ : MethodName)) hown (mvT hZ (hw _ (List.mem_of_getElem? (i := 25) rfl))) (mvT hZ (hw _ (List.mem_of_getElem? (i := 26) rfl))) (notFace_of_selects (args := #[]) (mvT hZ (hw _ (List.mem_of_getElem? (i := 28) rfl)))) (mvT hZ (hw _ (List.mem_of_getElem? (i := 28) rfl))) (mvT hZ (hw _ (List.mem_of_getElem? (i := 27) rfl))) (by decide) (backOf (W := 0) (own_rm4 l Z a0 hw [] mk tk 2 (own_xs v0 v1 v2) h38 n0 Z39 F_tokens_mk V_tk) hZ (hw _ (List.mem_of_getElem? (i := 29) rfl)) (hw _ (List.mem_of_getElem? (i := 4) rfl)) (by decide) (by decide)) q41a q41c (g := (mkF m 114 #[.val (.int a1), .val (.int a2), .val (.int a3), .val (.int a4), .val (.int (2 : Int32)), .val (.int v0), .val (.int v1), .val (.int v2), .val (.ref ar), .val (.ref mk), .unset] [(.ref mk)])) rfl (by rw [hml]; rfl) (Steps.refl _) (argsL := []) (rest := []) (lenOf own_pd2 rfl) rfl (by show 2 * 0 + _ ≤ _; exact Nat.le_of_eq rfl) (hb hby at_114) (fun _ _ => ⟨rfl, e38, (by decide : 3 + 0 ≤ _), (by decide : 6 + 0 ≤ _)⟩)
        dsimp only [Pt.U, Pt.locs, Pt.cells, Pt.slots] at X41 l41 y41 z41 st41 hQ41
        subst l41 y41 z41
        obtain ⟨rfl, Nq41, eq41⟩ := hQ41
        have N41 := Fr.app N40 Nq41
        obtain ⟨cq42, kq42, q42a, q42b, q42c⟩ := isOf hZ eq41 E_mk
        obtain ⟨_, _, ⟨T42, L42, k42, n42⟩, -, X42, ⟨Lc42, hQ42, l42, y42, z42⟩, st42⟩ := X41.virtualBack hx (y := (⟨"com/example/intervals_to_classes/intervalstoclasses/net/Marking", "tokens", "(I)I"⟩ : MethodName)) (z := (⟨"com/example/intervals_to_classes/intervalstoclasses/net/Marking", "tokens", "(I)I"⟩ : MethodName)) hown (mvT hZ (hw _ (List.mem_of_getElem? (i := 30) rfl))) (mvT hZ (hw _ (List.mem_of_getElem? (i := 31) rfl))) (notFace_of_selects (args := #[]) (mvT hZ (hw _ (List.mem_of_getElem? (i := 33) rfl)))) (mvT hZ (hw _ (List.mem_of_getElem? (i := 33) rfl))) (mvT hZ (hw _ (List.mem_of_getElem? (i := 32) rfl))) (by decide) (backOf (W := 0) (own_rm5 l Z a0 hw [] mk 0 tk 2 (own_xs v0 v1 v2) h38 n0 Z39 F_tokens_mk V_tk (by decide) (by decide) (by decide)) hZ (hw _ (List.mem_of_getElem? (i := 34) rfl)) (hw _ (List.mem_of_getElem? (i := 4) rfl)) (by decide) (by decide)) q42a q42c (g := (mkF m 142 #[.val (.int a1), .val (.int a2), .val (.int a3), .val (.int a4), .val (.int (2 : Int32)), .val (.int v0), .val (.int v1), .val (.int v2), .val (.ref ar), .val (.ref mk), .val (.int (1 : Int32))] [(.int (0 : Int32)), (.ref mk)])) rfl (by rw [hml]; rfl) (Steps.refl _) (argsL := [(.int (0 : Int32))]) (rest := []) (lenOf own_pd3 rfl) rfl (by show 2 * 0 + _ ≤ _; exact Nat.le_of_eq rfl) (hb hby at_142) (fun _ _ => ⟨rfl, eq41, (by decide : 3 + 0 ≤ _), (by decide : 6 + 0 ≤ _)⟩)
        dsimp only [Pt.U, Pt.locs, Pt.cells, Pt.slots] at X42 l42 y42 z42 st42 hQ42
        subst l42 y42 z42
        obtain ⟨rfl, Nq42, eq42⟩ := hQ42
        have N42 := Fr.app N41 Nq42
        obtain ⟨cq43, kq43, q43a, q43b, q43c⟩ := isOf hZ eq42 E_mk
        obtain ⟨_, _, ⟨T43, L43, k43, n43⟩, -, X43, ⟨Lc43, hQ43, l43, y43, z43⟩, st43⟩ := X42.virtualBack hx (y := (⟨"com/example/intervals_to_classes/intervalstoclasses/net/Marking", "tokens", "(I)I"⟩ : MethodName)) (z := (⟨"com/example/intervals_to_classes/intervalstoclasses/net/Marking", "tokens", "(I)I"⟩ : MethodName)) hown (mvT hZ (hw _ (List.mem_of_getElem? (i := 30) rfl))) (mvT hZ (hw _ (List.mem_of_getElem? (i := 31) rfl))) (notFace_of_selects (args := #[]) (mvT hZ (hw _ (List.mem_of_getElem? (i := 33) rfl)))) (mvT hZ (hw _ (List.mem_of_getElem? (i := 33) rfl))) (mvT hZ (hw _ (List.mem_of_getElem? (i := 32) rfl))) (by decide) (backOf (W := 0) (own_rm5 l Z a0 hw [] mk 1 tk 2 (own_xs v0 v1 v2) h38 n0 Z39 F_tokens_mk V_tk (by decide) (by decide) (by decide)) hZ (hw _ (List.mem_of_getElem? (i := 34) rfl)) (hw _ (List.mem_of_getElem? (i := 4) rfl)) (by decide) (by decide)) q43a q43c (g := (mkF m 171 #[.val (.int a1), .val (.int a2), .val (.int a3), .val (.int a4), .val (.int (2 : Int32)), .val (.int v0), .val (.int v1), .val (.int v2), .val (.ref ar), .val (.ref mk), .val (.int (1 : Int32))] [(.int (1 : Int32)), (.ref mk)])) rfl (by rw [hml]; rfl) (Steps.refl _) (argsL := [(.int (1 : Int32))]) (rest := []) (lenOf own_pd3 rfl) rfl (by show 2 * 0 + _ ≤ _; exact Nat.le_of_eq rfl) (hb hby at_171) (fun _ _ => ⟨rfl, eq42, (by decide : 3 + 0 ≤ _), (by decide : 6 + 0 ≤ _)⟩)
        dsimp only [Pt.U, Pt.locs, Pt.cells, Pt.slots] at X43 l43 y43 z43 st43 hQ43
        subst l43 y43 z43
        obtain ⟨rfl, Nq43, eq43⟩ := hQ43
        have N43 := Fr.app N42 Nq43
        obtain ⟨fs, hr, hrun, hended, hW, hsame⟩ := X43.leave (v := some (.int (1 : Int32))) (fun h => by rw [Bd.returns] at h; cases h) (BodyLoose.notSynchronized Bd)
        refine ⟨_, _, pre9 _ ?_, hrun, hended, _, _, rfl, ?_, ⟨_, rfl⟩, hW, hsame.mono (by decide) (by decide)⟩
        · skip
          show Steps p.tables e below (s₁.setTop (mkF m 25 #[.val (.int a1), .val (.int a2), .val (.int a3), .val (.int a4), .val (.int (2 : Int32)), .val (.int v0), .val (.int v1), .val (.int v2), .unset, .unset, .unset] [(.int (2 : Int32))])) _
          refine st26 _ ?_
          show Steps p.tables e below (T26.setTop (mkF m 27 #[.val (.int a1), .val (.int a2), .val (.int a3), .val (.int a4), .val (.int (2 : Int32)), .val (.int v0), .val (.int v1), .val (.int v2), .unset, .unset, .unset] [(.ref ar)])) _
          refine XS.astore X26.here hx rfl (hb hby at_27) rfl rfl (l' := #[.val (.int a1), .val (.int a2), .val (.int a3), .val (.int a4), .val (.int (2 : Int32)), .val (.int v0), .val (.int v1), .val (.int v2), .val (.ref ar), .unset, .unset]) rfl ?_
          show Steps p.tables e below (T26.setTop (mkF m 29 #[.val (.int a1), .val (.int a2), .val (.int a3), .val (.int a4), .val (.int (2 : Int32)), .val (.int v0), .val (.int v1), .val (.int v2), .val (.ref ar), .unset, .unset] [])) _
          refine XS.iload X26.here hx rfl (hb hby at_29) rfl ?_
          show Steps p.tables e below (T26.setTop (mkF m 31 #[.val (.int a1), .val (.int a2), .val (.int a3), .val (.int a4), .val (.int (2 : Int32)), .val (.int v0), .val (.int v1), .val (.int v2), .val (.ref ar), .unset, .unset] [(.int (2 : Int32))])) _
          refine XS.ifNo X26.here hx rfl (hb hby at_31) rfl ((if0 _ _).trans (tlt (by decide)).2.2.2) ?_
          show Steps p.tables e below (T26.setTop (mkF m 34 #[.val (.int a1), .val (.int a2), .val (.int a3), .val (.int a4), .val (.int (2 : Int32)), .val (.int v0), .val (.int v1), .val (.int v2), .val (.ref ar), .unset, .unset] [])) _
          refine XS.aload X26.here hx rfl (hb hby at_34) rfl rfl ?_
          show Steps p.tables e below (T26.setTop (mkF m 36 #[.val (.int a1), .val (.int a2), .val (.int a3), .val (.int a4), .val (.int (2 : Int32)), .val (.int v0), .val (.int v1), .val (.int v2), .val (.ref ar), .unset, .unset] [(.ref ar)])) _
          refine XS.iconst X26.here hx rfl (hb hby at_36) ?_
          show Steps p.tables e below (T26.setTop (mkF m 37 #[.val (.int a1), .val (.int a2), .val (.int a3), .val (.int a4), .val (.int (2 : Int32)), .val (.int v0), .val (.int v1), .val (.int v2), .val (.ref ar), .unset, .unset] [(.int (0 : Int32)), (.ref ar)])) _
          refine XS.iload X26.here hx rfl (hb hby at_37) rfl ?_
          show Steps p.tables e below (T26.setTop (mkF m 39 #[.val (.int a1), .val (.int a2), .val (.int a3), .val (.int a4), .val (.int (2 : Int32)), .val (.int v0), .val (.int v1), .val (.int v2), .val (.ref ar), .unset, .unset] [(.int v0), (.int (0 : Int32)), (.ref ar)])) _
          refine st28 _ ?_
          show Steps p.tables e below (T28.setTop (mkF m 40 #[.val (.int a1), .val (.int a2), .val (.int a3), .val (.int a4), .val (.int (2 : Int32)), .val (.int v0), .val (.int v1), .val (.int v2), .val (.ref ar), .unset, .unset] [])) _
          refine XS.iload X28.here hx rfl (hb hby at_40) rfl ?_
          show Steps p.tables e below (T28.setTop (mkF m 42 #[.val (.int a1), .val (.int a2), .val (.int a3), .val (.int a4), .val (.int (2 : Int32)), .val (.int v0), .val (.int v1), .val (.int v2), .val (.ref ar), .unset, .unset] [(.int (2 : Int32))])) _
          refine XS.iconst X28.here hx rfl (hb hby at_42) ?_
          show Steps p.tables e below (T28.setTop (mkF m 43 #[.val (.int a1), .val (.int a2), .val (.int a3), .val (.int a4), .val (.int (2 : Int32)), .val (.int v0), .val (.int v1), .val (.int v2), .val (.ref ar), .unset, .unset] [(.int (1 : Int32)), (.int (2 : Int32))])) _
          refine XS.icmpNo X28.here hx rfl (hb hby at_43) rfl (tlt (by decide)).2.2.2 ?_
          show Steps p.tables e below (T28.setTop (mkF m 46 #[.val (.int a1), .val (.int a2), .val (.int a3), .val (.int a4), .val (.int (2 : Int32)), .val (.int v0), .val (.int v1), .val (.int v2), .val (.ref ar), .unset, .unset] [])) _
          refine XS.aload X28.here hx rfl (hb hby at_46) rfl rfl ?_
          show Steps p.tables e below (T28.setTop (mkF m 48 #[.val (.int a1), .val (.int a2), .val (.int a3), .val (.int a4), .val (.int (2 : Int32)), .val (.int v0), .val (.int v1), .val (.int v2), .val (.ref ar), .unset, .unset] [(.ref ar)])) _
          refine XS.iconst X28.here hx rfl (hb hby at_48) ?_
          show Steps p.tables e below (T28.setTop (mkF m 49 #[.val (.int a1), .val (.int a2), .val (.int a3), .val (.int a4), .val (.int (2 : Int32)), .val (.int v0), .val (.int v1), .val (.int v2), .val (.ref ar), .unset, .unset] [(.int (1 : Int32)), (.ref ar)])) _
          refine XS.iload X28.here hx rfl (hb hby at_49) rfl ?_
          show Steps p.tables e below (T28.setTop (mkF m 51 #[.val (.int a1), .val (.int a2), .val (.int a3), .val (.int a4), .val (.int (2 : Int32)), .val (.int v0), .val (.int v1), .val (.int v2), .val (.ref ar), .unset, .unset] [(.int v1), (.int (1 : Int32)), (.ref ar)])) _
          refine st31 _ ?_
          show Steps p.tables e below (T31.setTop (mkF m 52 #[.val (.int a1), .val (.int a2), .val (.int a3), .val (.int a4), .val (.int (2 : Int32)), .val (.int v0), .val (.int v1), .val (.int v2), .val (.ref ar), .unset, .unset] [])) _
          refine XS.iload X31.here hx rfl (hb hby at_52) rfl ?_
          show Steps p.tables e below (T31.setTop (mkF m 54 #[.val (.int a1), .val (.int a2), .val (.int a3), .val (.int a4), .val (.int (2 : Int32)), .val (.int v0), .val (.int v1), .val (.int v2), .val (.ref ar), .unset, .unset] [(.int (2 : Int32))])) _
          refine XS.iconst X31.here hx rfl (hb hby at_54) ?_
          show Steps p.tables e below (T31.setTop (mkF m 55 #[.val (.int a1), .val (.int a2), .val (.int a3), .val (.int a4), .val (.int (2 : Int32)), .val (.int v0), .val (.int v1), .val (.int v2), .val (.ref ar), .unset, .unset] [(.int (2 : Int32)), (.int (2 : Int32))])) _
          refine XS.icmpYes X31.here hx rfl (pc0 := 55) (pc' := 64) rfl (hb hby at_55) rfl (flt (by decide)).2.2.2 (by decide) (by decide) ?_
          show Steps p.tables e below (T31.setTop (mkF m 64 #[.val (.int a1), .val (.int a2), .val (.int a3), .val (.int a4), .val (.int (2 : Int32)), .val (.int v0), .val (.int v1), .val (.int v2), .val (.ref ar), .unset, .unset] [])) _
          refine XS.aload X31.here hx rfl (hb hby at_64) rfl rfl ?_
          show Steps p.tables e below (T31.setTop (mkF m 66 #[.val (.int a1), .val (.int a2), .val (.int a3), .val (.int a4), .val (.int (2 : Int32)), .val (.int v0), .val (.int v1), .val (.int v2), .val (.ref ar), .unset, .unset] [(.ref ar)])) _
          refine st34 _ ?_
          show Steps p.tables e below (T34.setTop (mkF m 69 #[.val (.int a1), .val (.int a2), .val (.int a3), .val (.int a4), .val (.int (2 : Int32)), .val (.int v0), .val (.int v1), .val (.int v2), .val (.ref ar), .unset, .unset] [(.ref mk)])) _
          refine XS.astore X34.here hx rfl (hb hby at_69) rfl rfl (l' := #[.val (.int a1), .val (.int a2), .val (.int a3), .val (.int a4), .val (.int (2 : Int32)), .val (.int v0), .val (.int v1), .val (.int v2), .val (.ref ar), .val (.ref mk), .unset]) rfl ?_
          show Steps p.tables e below (T34.setTop (mkF m 71 #[.val (.int a1), .val (.int a2), .val (.int a3), .val (.int a4), .val (.int (2 : Int32)), .val (.int v0), .val (.int v1), .val (.int v2), .val (.ref ar), .val (.ref mk), .unset] [])) _
          refine XS.iload X34.here hx rfl (hb hby at_71) rfl ?_
          show Steps p.tables e below (T34.setTop (mkF m 73 #[.val (.int a1), .val (.int a2), .val (.int a3), .val (.int a4), .val (.int (2 : Int32)), .val (.int v0), .val (.int v1), .val (.int v2), .val (.ref ar), .val (.ref mk), .unset] [(.int (2 : Int32))])) _
          refine XS.ifNo X34.here hx rfl (hb hby at_73) rfl ((if0 _ _).trans (tlt (by decide)).2.2.2) ?_
          show Steps p.tables e below (T34.setTop (mkF m 76 #[.val (.int a1), .val (.int a2), .val (.int a3), .val (.int a4), .val (.int (2 : Int32)), .val (.int v0), .val (.int v1), .val (.int v2), .val (.ref ar), .val (.ref mk), .unset] [])) _
          refine XS.aload X34.here hx rfl (hb hby at_76) rfl rfl ?_
          show Steps p.tables e below (T34.setTop (mkF m 78 #[.val (.int a1), .val (.int a2), .val (.int a3), .val (.int a4), .val (.int (2 : Int32)), .val (.int v0), .val (.int v1), .val (.int v2), .val (.ref ar), .val (.ref mk), .unset] [(.ref ar)])) _
          refine XS.iconst X34.here hx rfl (hb hby at_78) ?_
          show Steps p.tables e below (T34.setTop (mkF m 79 #[.val (.int a1), .val (.int a2), .val (.int a3), .val (.int a4), .val (.int (2 : Int32)), .val (.int v0), .val (.int v1), .val (.int v2), .val (.ref ar), .val (.ref mk), .unset] [(.int (0 : Int32)), (.ref ar)])) _
          refine XS.iload X34.here hx rfl (hb hby at_79) rfl ?_
          show Steps p.tables e below (T34.setTop (mkF m 81 #[.val (.int a1), .val (.int a2), .val (.int a3), .val (.int a4), .val (.int (2 : Int32)), .val (.int v0), .val (.int v1), .val (.int v2), .val (.ref ar), .val (.ref mk), .unset] [(.int v0), (.int (0 : Int32)), (.ref ar)])) _
          refine XS.iconst X34.here hx rfl (hb hby at_81) ?_
          show Steps p.tables e below (T34.setTop (mkF m 82 #[.val (.int a1), .val (.int a2), .val (.int a3), .val (.int a4), .val (.int (2 : Int32)), .val (.int v0), .val (.int v1), .val (.int v2), .val (.ref ar), .val (.ref mk), .unset] [(.int (1 : Int32)), (.int v0), (.int (0 : Int32)), (.ref ar)])) _
          refine XS.iadd X34.here hx rfl (hb hby at_82) rfl ?_
          show Steps p.tables e below (T34.setTop (mkF m 83 #[.val (.int a1), .val (.int a2), .val (.int a3), .val (.int a4), .val (.int (2 : Int32)), .val (.int v0), .val (.int v1), .val (.int v2), .val (.ref ar), .val (.ref mk), .unset] [(.int (v0 + (1 : Int32))), (.int (0 : Int32)), (.ref ar)])) _
          refine st35 _ ?_
          show Steps p.tables e below (T35.setTop (mkF m 84 #[.val (.int a1), .val (.int a2), .val (.int a3), .val (.int a4), .val (.int (2 : Int32)), .val (.int v0), .val (.int v1), .val (.int v2), .val (.ref ar), .val (.ref mk), .unset] [])) _
          refine XS.iload X35.here hx rfl (hb hby at_84) rfl ?_
          show Steps p.tables e below (T35.setTop (mkF m 86 #[.val (.int a1), .val (.int a2), .val (.int a3), .val (.int a4), .val (.int (2 : Int32)), .val (.int v0), .val (.int v1), .val (.int v2), .val (.ref ar), .val (.ref mk), .unset] [(.int (2 : Int32))])) _
          refine XS.iconst X35.here hx rfl (hb hby at_86) ?_
          show Steps p.tables e below (T35.setTop (mkF m 87 #[.val (.int a1), .val (.int a2), .val (.int a3), .val (.int a4), .val (.int (2 : Int32)), .val (.int v0), .val (.int v1), .val (.int v2), .val (.ref ar), .val (.ref mk), .unset] [(.int (1 : Int32)), (.int (2 : Int32))])) _
          refine XS.icmpNo X35.here hx rfl (hb hby at_87) rfl (tlt (by decide)).2.2.2 ?_
          show Steps p.tables e below (T35.setTop (mkF m 90 #[.val (.int a1), .val (.int a2), .val (.int a3), .val (.int a4), .val (.int (2 : Int32)), .val (.int v0), .val (.int v1), .val (.int v2), .val (.ref ar), .val (.ref mk), .unset] [])) _
          refine XS.aload X35.here hx rfl (hb hby at_90) rfl rfl ?_
          show Steps p.tables e below (T35.setTop (mkF m 92 #[.val (.int a1), .val (.int a2), .val (.int a3), .val (.int a4), .val (.int (2 : Int32)), .val (.int v0), .val (.int v1), .val (.int v2), .val (.ref ar), .val (.ref mk), .unset] [(.ref ar)])) _
          refine XS.iconst X35.here hx rfl (hb hby at_92) ?_
          show Steps p.tables e below (T35.setTop (mkF m 93 #[.val (.int a1), .val (.int a2), .val (.int a3), .val (.int a4), .val (.int (2 : Int32)), .val (.int v0), .val (.int v1), .val (.int v2), .val (.ref ar), .val (.ref mk), .unset] [(.int (1 : Int32)), (.ref ar)])) _
          refine XS.iload X35.here hx rfl (hb hby at_93) rfl ?_
          show Steps p.tables e below (T35.setTop (mkF m 95 #[.val (.int a1), .val (.int a2), .val (.int a3), .val (.int a4), .val (.int (2 : Int32)), .val (.int v0), .val (.int v1), .val (.int v2), .val (.ref ar), .val (.ref mk), .unset] [(.int v1), (.int (1 : Int32)), (.ref ar)])) _
          refine XS.iconst X35.here hx rfl (hb hby at_95) ?_
          show Steps p.tables e below (T35.setTop (mkF m 96 #[.val (.int a1), .val (.int a2), .val (.int a3), .val (.int a4), .val (.int (2 : Int32)), .val (.int v0), .val (.int v1), .val (.int v2), .val (.ref ar), .val (.ref mk), .unset] [(.int (1 : Int32)), (.int v1), (.int (1 : Int32)), (.ref ar)])) _
          refine XS.iadd X35.here hx rfl (hb hby at_96) rfl ?_
          show Steps p.tables e below (T35.setTop (mkF m 97 #[.val (.int a1), .val (.int a2), .val (.int a3), .val (.int a4), .val (.int (2 : Int32)), .val (.int v0), .val (.int v1), .val (.int v2), .val (.ref ar), .val (.ref mk), .unset] [(.int (v1 + (1 : Int32))), (.int (1 : Int32)), (.ref ar)])) _
          refine st38 _ ?_
          show Steps p.tables e below (T38.setTop (mkF m 98 #[.val (.int a1), .val (.int a2), .val (.int a3), .val (.int a4), .val (.int (2 : Int32)), .val (.int v0), .val (.int v1), .val (.int v2), .val (.ref ar), .val (.ref mk), .unset] [])) _
          refine XS.iload X38.here hx rfl (hb hby at_98) rfl ?_
          show Steps p.tables e below (T38.setTop (mkF m 100 #[.val (.int a1), .val (.int a2), .val (.int a3), .val (.int a4), .val (.int (2 : Int32)), .val (.int v0), .val (.int v1), .val (.int v2), .val (.ref ar), .val (.ref mk), .unset] [(.int (2 : Int32))])) _
          refine XS.iconst X38.here hx rfl (hb hby at_100) ?_
          show Steps p.tables e below (T38.setTop (mkF m 101 #[.val (.int a1), .val (.int a2), .val (.int a3), .val (.int a4), .val (.int (2 : Int32)), .val (.int v0), .val (.int v1), .val (.int v2), .val (.ref ar), .val (.ref mk), .unset] [(.int (2 : Int32)), (.int (2 : Int32))])) _
          refine XS.icmpYes X38.here hx rfl (pc0 := 101) (pc' := 112) rfl (hb hby at_101) rfl (flt (by decide)).2.2.2 (by decide) (by decide) ?_
          show Steps p.tables e below (T38.setTop (mkF m 112 #[.val (.int a1), .val (.int a2), .val (.int a3), .val (.int a4), .val (.int (2 : Int32)), .val (.int v0), .val (.int v1), .val (.int v2), .val (.ref ar), .val (.ref mk), .unset] [])) _
          refine XS.aload X38.here hx rfl (hb hby at_112) rfl rfl ?_
          show Steps p.tables e below (T38.setTop (mkF m 114 #[.val (.int a1), .val (.int a2), .val (.int a3), .val (.int a4), .val (.int (2 : Int32)), .val (.int v0), .val (.int v1), .val (.int v2), .val (.ref ar), .val (.ref mk), .unset] [(.ref mk)])) _
          refine st41.trans ?_
          show Steps p.tables e below (T41.setTop (mkF m 117 #[.val (.int a1), .val (.int a2), .val (.int a3), .val (.int a4), .val (.int (2 : Int32)), .val (.int v0), .val (.int v1), .val (.int v2), .val (.ref ar), .val (.ref mk), .unset] [(.int (2 : Int32))])) _
          refine XS.iload X41.here hx rfl (hb hby at_117) rfl ?_
          show Steps p.tables e below (T41.setTop (mkF m 119 #[.val (.int a1), .val (.int a2), .val (.int a3), .val (.int a4), .val (.int (2 : Int32)), .val (.int v0), .val (.int v1), .val (.int v2), .val (.ref ar), .val (.ref mk), .unset] [(.int (2 : Int32)), (.int (2 : Int32))])) _
          refine XS.icmpNo X41.here hx rfl (hb hby at_119) rfl (teq rfl).2 ?_
          show Steps p.tables e below (T41.setTop (mkF m 122 #[.val (.int a1), .val (.int a2), .val (.int a3), .val (.int a4), .val (.int (2 : Int32)), .val (.int v0), .val (.int v1), .val (.int v2), .val (.ref ar), .val (.ref mk), .unset] [])) _
          refine XS.iconst X41.here hx rfl (hb hby at_122) ?_
          show Steps p.tables e below (T41.setTop (mkF m 123 #[.val (.int a1), .val (.int a2), .val (.int a3), .val (.int a4), .val (.int (2 : Int32)), .val (.int v0), .val (.int v1), .val (.int v2), .val (.ref ar), .val (.ref mk), .unset] [(.int (1 : Int32))])) _
          refine XS.goto X41.here hx rfl (pc0 := 123) (pc' := 127) rfl (hb hby at_123) (by decide) (by decide) ?_
          show Steps p.tables e below (T41.setTop (mkF m 127 #[.val (.int a1), .val (.int a2), .val (.int a3), .val (.int a4), .val (.int (2 : Int32)), .val (.int v0), .val (.int v1), .val (.int v2), .val (.ref ar), .val (.ref mk), .unset] [(.int (1 : Int32))])) _
          refine XS.istore X41.here hx rfl (hb hby at_127) rfl (l' := #[.val (.int a1), .val (.int a2), .val (.int a3), .val (.int a4), .val (.int (2 : Int32)), .val (.int v0), .val (.int v1), .val (.int v2), .val (.ref ar), .val (.ref mk), .val (.int (1 : Int32))]) rfl ?_
          show Steps p.tables e below (T41.setTop (mkF m 129 #[.val (.int a1), .val (.int a2), .val (.int a3), .val (.int a4), .val (.int (2 : Int32)), .val (.int v0), .val (.int v1), .val (.int v2), .val (.ref ar), .val (.ref mk), .val (.int (1 : Int32))] [])) _
          refine XS.iload X41.here hx rfl (hb hby at_129) rfl ?_
          show Steps p.tables e below (T41.setTop (mkF m 131 #[.val (.int a1), .val (.int a2), .val (.int a3), .val (.int a4), .val (.int (2 : Int32)), .val (.int v0), .val (.int v1), .val (.int v2), .val (.ref ar), .val (.ref mk), .val (.int (1 : Int32))] [(.int (2 : Int32))])) _
          refine XS.ifNo X41.here hx rfl (hb hby at_131) rfl ((if0 _ _).trans (tlt (by decide)).2.2.2) ?_
          show Steps p.tables e below (T41.setTop (mkF m 134 #[.val (.int a1), .val (.int a2), .val (.int a3), .val (.int a4), .val (.int (2 : Int32)), .val (.int v0), .val (.int v1), .val (.int v2), .val (.ref ar), .val (.ref mk), .val (.int (1 : Int32))] [])) _
          refine XS.iload X41.here hx rfl (hb hby at_134) rfl ?_
          show Steps p.tables e below (T41.setTop (mkF m 136 #[.val (.int a1), .val (.int a2), .val (.int a3), .val (.int a4), .val (.int (2 : Int32)), .val (.int v0), .val (.int v1), .val (.int v2), .val (.ref ar), .val (.ref mk), .val (.int (1 : Int32))] [(.int (1 : Int32))])) _
          refine XS.ifNo X41.here hx rfl (hb hby at_136) rfl ((if0 _ _).trans (feq (by decide)).1) ?_
          show Steps p.tables e below (T41.setTop (mkF m 139 #[.val (.int a1), .val (.int a2), .val (.int a3), .val (.int a4), .val (.int (2 : Int32)), .val (.int v0), .val (.int v1), .val (.int v2), .val (.ref ar), .val (.ref mk), .val (.int (1 : Int32))] [])) _
          refine XS.aload X41.here hx rfl (hb hby at_139) rfl rfl ?_
          show Steps p.tables e below (T41.setTop (mkF m 141 #[.val (.int a1), .val (.int a2), .val (.int a3), .val (.int a4), .val (.int (2 : Int32)), .val (.int v0), .val (.int v1), .val (.int v2), .val (.ref ar), .val (.ref mk), .val (.int (1 : Int32))] [(.ref mk)])) _
          refine XS.iconst X41.here hx rfl (hb hby at_141) ?_
          show Steps p.tables e below (T41.setTop (mkF m 142 #[.val (.int a1), .val (.int a2), .val (.int a3), .val (.int a4), .val (.int (2 : Int32)), .val (.int v0), .val (.int v1), .val (.int v2), .val (.ref ar), .val (.ref mk), .val (.int (1 : Int32))] [(.int (0 : Int32)), (.ref mk)])) _
          refine st42.trans ?_
          show Steps p.tables e below (T42.setTop (mkF m 145 #[.val (.int a1), .val (.int a2), .val (.int a3), .val (.int a4), .val (.int (2 : Int32)), .val (.int v0), .val (.int v1), .val (.int v2), .val (.ref ar), .val (.ref mk), .val (.int (1 : Int32))] [(.int v0)])) _
          refine XS.iload X42.here hx rfl (hb hby at_145) rfl ?_
          show Steps p.tables e below (T42.setTop (mkF m 147 #[.val (.int a1), .val (.int a2), .val (.int a3), .val (.int a4), .val (.int (2 : Int32)), .val (.int v0), .val (.int v1), .val (.int v2), .val (.ref ar), .val (.ref mk), .val (.int (1 : Int32))] [(.int v0), (.int v0)])) _
          refine XS.icmpNo X42.here hx rfl (hb hby at_147) rfl (teq rfl).2 ?_
          show Steps p.tables e below (T42.setTop (mkF m 150 #[.val (.int a1), .val (.int a2), .val (.int a3), .val (.int a4), .val (.int (2 : Int32)), .val (.int v0), .val (.int v1), .val (.int v2), .val (.ref ar), .val (.ref mk), .val (.int (1 : Int32))] [])) _
          refine XS.iconst X42.here hx rfl (hb hby at_150) ?_
          show Steps p.tables e below (T42.setTop (mkF m 151 #[.val (.int a1), .val (.int a2), .val (.int a3), .val (.int a4), .val (.int (2 : Int32)), .val (.int v0), .val (.int v1), .val (.int v2), .val (.ref ar), .val (.ref mk), .val (.int (1 : Int32))] [(.int (1 : Int32))])) _
          refine XS.goto X42.here hx rfl (pc0 := 151) (pc' := 155) rfl (hb hby at_151) (by decide) (by decide) ?_
          show Steps p.tables e below (T42.setTop (mkF m 155 #[.val (.int a1), .val (.int a2), .val (.int a3), .val (.int a4), .val (.int (2 : Int32)), .val (.int v0), .val (.int v1), .val (.int v2), .val (.ref ar), .val (.ref mk), .val (.int (1 : Int32))] [(.int (1 : Int32))])) _
          refine XS.istore X42.here hx rfl (hb hby at_155) rfl (l' := #[.val (.int a1), .val (.int a2), .val (.int a3), .val (.int a4), .val (.int (2 : Int32)), .val (.int v0), .val (.int v1), .val (.int v2), .val (.ref ar), .val (.ref mk), .val (.int (1 : Int32))]) rfl ?_
          show Steps p.tables e below (T42.setTop (mkF m 157 #[.val (.int a1), .val (.int a2), .val (.int a3), .val (.int a4), .val (.int (2 : Int32)), .val (.int v0), .val (.int v1), .val (.int v2), .val (.ref ar), .val (.ref mk), .val (.int (1 : Int32))] [])) _
          refine XS.iload X42.here hx rfl (hb hby at_157) rfl ?_
          show Steps p.tables e below (T42.setTop (mkF m 159 #[.val (.int a1), .val (.int a2), .val (.int a3), .val (.int a4), .val (.int (2 : Int32)), .val (.int v0), .val (.int v1), .val (.int v2), .val (.ref ar), .val (.ref mk), .val (.int (1 : Int32))] [(.int (2 : Int32))])) _
          refine XS.iconst X42.here hx rfl (hb hby at_159) ?_
          show Steps p.tables e below (T42.setTop (mkF m 160 #[.val (.int a1), .val (.int a2), .val (.int a3), .val (.int a4), .val (.int (2 : Int32)), .val (.int v0), .val (.int v1), .val (.int v2), .val (.ref ar), .val (.ref mk), .val (.int (1 : Int32))] [(.int (1 : Int32)), (.int (2 : Int32))])) _
          refine XS.icmpNo X42.here hx rfl (hb hby at_160) rfl (tlt (by decide)).2.2.2 ?_
          show Steps p.tables e below (T42.setTop (mkF m 163 #[.val (.int a1), .val (.int a2), .val (.int a3), .val (.int a4), .val (.int (2 : Int32)), .val (.int v0), .val (.int v1), .val (.int v2), .val (.ref ar), .val (.ref mk), .val (.int (1 : Int32))] [])) _
          refine XS.iload X42.here hx rfl (hb hby at_163) rfl ?_
          show Steps p.tables e below (T42.setTop (mkF m 165 #[.val (.int a1), .val (.int a2), .val (.int a3), .val (.int a4), .val (.int (2 : Int32)), .val (.int v0), .val (.int v1), .val (.int v2), .val (.ref ar), .val (.ref mk), .val (.int (1 : Int32))] [(.int (1 : Int32))])) _
          refine XS.ifNo X42.here hx rfl (hb hby at_165) rfl ((if0 _ _).trans (feq (by decide)).1) ?_
          show Steps p.tables e below (T42.setTop (mkF m 168 #[.val (.int a1), .val (.int a2), .val (.int a3), .val (.int a4), .val (.int (2 : Int32)), .val (.int v0), .val (.int v1), .val (.int v2), .val (.ref ar), .val (.ref mk), .val (.int (1 : Int32))] [])) _
          refine XS.aload X42.here hx rfl (hb hby at_168) rfl rfl ?_
          show Steps p.tables e below (T42.setTop (mkF m 170 #[.val (.int a1), .val (.int a2), .val (.int a3), .val (.int a4), .val (.int (2 : Int32)), .val (.int v0), .val (.int v1), .val (.int v2), .val (.ref ar), .val (.ref mk), .val (.int (1 : Int32))] [(.ref mk)])) _
          refine XS.iconst X42.here hx rfl (hb hby at_170) ?_
          show Steps p.tables e below (T42.setTop (mkF m 171 #[.val (.int a1), .val (.int a2), .val (.int a3), .val (.int a4), .val (.int (2 : Int32)), .val (.int v0), .val (.int v1), .val (.int v2), .val (.ref ar), .val (.ref mk), .val (.int (1 : Int32))] [(.int (1 : Int32)), (.ref mk)])) _
          refine st43.trans ?_
          show Steps p.tables e below (T43.setTop (mkF m 174 #[.val (.int a1), .val (.int a2), .val (.int a3), .val (.int a4), .val (.int (2 : Int32)), .val (.int v0), .val (.int v1), .val (.int v2), .val (.ref ar), .val (.ref mk), .val (.int (1 : Int32))] [(.int v1)])) _
          refine XS.iload X43.here hx rfl (hb hby at_174) rfl ?_
          show Steps p.tables e below (T43.setTop (mkF m 176 #[.val (.int a1), .val (.int a2), .val (.int a3), .val (.int a4), .val (.int (2 : Int32)), .val (.int v0), .val (.int v1), .val (.int v2), .val (.ref ar), .val (.ref mk), .val (.int (1 : Int32))] [(.int v1), (.int v1)])) _
          refine XS.icmpNo X43.here hx rfl (hb hby at_176) rfl (teq rfl).2 ?_
          show Steps p.tables e below (T43.setTop (mkF m 179 #[.val (.int a1), .val (.int a2), .val (.int a3), .val (.int a4), .val (.int (2 : Int32)), .val (.int v0), .val (.int v1), .val (.int v2), .val (.ref ar), .val (.ref mk), .val (.int (1 : Int32))] [])) _
          refine XS.iconst X43.here hx rfl (hb hby at_179) ?_
          show Steps p.tables e below (T43.setTop (mkF m 180 #[.val (.int a1), .val (.int a2), .val (.int a3), .val (.int a4), .val (.int (2 : Int32)), .val (.int v0), .val (.int v1), .val (.int v2), .val (.ref ar), .val (.ref mk), .val (.int (1 : Int32))] [(.int (1 : Int32))])) _
          refine XS.goto X43.here hx rfl (pc0 := 180) (pc' := 184) rfl (hb hby at_180) (by decide) (by decide) ?_
          show Steps p.tables e below (T43.setTop (mkF m 184 #[.val (.int a1), .val (.int a2), .val (.int a3), .val (.int a4), .val (.int (2 : Int32)), .val (.int v0), .val (.int v1), .val (.int v2), .val (.ref ar), .val (.ref mk), .val (.int (1 : Int32))] [(.int (1 : Int32))])) _
          refine XS.istore X43.here hx rfl (hb hby at_184) rfl (l' := #[.val (.int a1), .val (.int a2), .val (.int a3), .val (.int a4), .val (.int (2 : Int32)), .val (.int v0), .val (.int v1), .val (.int v2), .val (.ref ar), .val (.ref mk), .val (.int (1 : Int32))]) rfl ?_
          show Steps p.tables e below (T43.setTop (mkF m 186 #[.val (.int a1), .val (.int a2), .val (.int a3), .val (.int a4), .val (.int (2 : Int32)), .val (.int v0), .val (.int v1), .val (.int v2), .val (.ref ar), .val (.ref mk), .val (.int (1 : Int32))] [])) _
          refine XS.iload X43.here hx rfl (hb hby at_186) rfl ?_
          show Steps p.tables e below (T43.setTop (mkF m 188 #[.val (.int a1), .val (.int a2), .val (.int a3), .val (.int a4), .val (.int (2 : Int32)), .val (.int v0), .val (.int v1), .val (.int v2), .val (.ref ar), .val (.ref mk), .val (.int (1 : Int32))] [(.int (2 : Int32))])) _
          refine XS.iconst X43.here hx rfl (hb hby at_188) ?_
          show Steps p.tables e below (T43.setTop (mkF m 189 #[.val (.int a1), .val (.int a2), .val (.int a3), .val (.int a4), .val (.int (2 : Int32)), .val (.int v0), .val (.int v1), .val (.int v2), .val (.ref ar), .val (.ref mk), .val (.int (1 : Int32))] [(.int (2 : Int32)), (.int (2 : Int32))])) _
          refine XS.icmpYes X43.here hx rfl (pc0 := 189) (pc' := 215) rfl (hb hby at_189) rfl (flt (by decide)).2.2.2 (by decide) (by decide) ?_
          show Steps p.tables e below (T43.setTop (mkF m 215 #[.val (.int a1), .val (.int a2), .val (.int a3), .val (.int a4), .val (.int (2 : Int32)), .val (.int v0), .val (.int v1), .val (.int v2), .val (.ref ar), .val (.ref mk), .val (.int (1 : Int32))] [])) _
          refine XS.iload X43.here hx rfl (hb hby at_215) rfl ?_
          show Steps p.tables e below (T43.setTop (mkF m 217 #[.val (.int a1), .val (.int a2), .val (.int a3), .val (.int a4), .val (.int (2 : Int32)), .val (.int v0), .val (.int v1), .val (.int v2), .val (.ref ar), .val (.ref mk), .val (.int (1 : Int32))] [(.int (1 : Int32))])) _
          exact retN X43 hx (t := .boolean) Bd.returns (by simp) (hb hby at_217) hr
        · show own_Q0 Z a1 a2 a3 a4 h0 n0 _ T43.heap _
          rw [eq43]
          exact ⟨rfl, N43⟩
      case neg =>
        by_cases hv10_3 : nn = (3 : Int32)
        case pos =>
          subst hv10_3
          obtain ⟨T44, h44, k44, X44, e44, E44, A44, B44, st44⟩ := newPE X0 hx hZ (hw _ (List.mem_of_getElem? (i := 1) rfl)) e0 (g := (mkF m 25 #[.val (.int a1), .val (.int a2), .val (.int a3), .val (.int a4), .val (.int (3 : Int32)), .val (.int v0), .val (.int v1), .val (.int v2), .unset, .unset, .unset] [(.int (3 : Int32))])) rfl (hb hby at_25) rfl (by decide) (cap := 3) (by decide) (by decide) (by decide) (by decide) (ad := "[I") rfl
          obtain ⟨ar, g44⟩ : ∃ z, z = h0.size := ⟨_, rfl⟩
          rw [← g44] at A44 B44 st44
          have g_ar : n0 ≤ ar := by rw [g44]; exact Z0
          have Z45 := Nat.le_trans Z0 E44.1
          have V_ar : own_AF Z h44 ar .int 3 (fun _ => .int (0 : Int32)) := own_AF.new A44 (by decide) (by decide)
          have E_ar := B44
          have hp0 : ¬ v0 < 0 := by rw [hd_v0]; exact own_pos a2
          have hp1 : ¬ v1 < 0 := by rw [hd_v1]; exact own_pos a3
          have hp2 : ¬ v2 < 0 := by rw [hd_v2]; exact own_pos a4
          obtain ⟨T46, h46, X46, e46, W46, V46, st46⟩ := own_stI X44 hx hZ e44 V_ar (j := (0 : Int32)) (by decide) (k := 0) rfl (by decide) (g := (mkF m 39 #[.val (.int a1), .val (.int a2), .val (.int a3), .val (.int a4), .val (.int (3 : Int32)), .val (.int v0), .val (.int v1), .val (.int v2), .val (.ref ar), .unset, .unset] [(.int v0), (.int (0 : Int32)), (.ref ar)])) rfl rfl (hb hby at_39)
          have E_ar := E_ar.wr W46
          have Z47 := Nat.le_trans Z45 (Keep.of_wr W46).1
          have N48 := Fr.snoc X46 N0 g_ar
          have V_ar := V46
          obtain ⟨T49, h49, X49, e49, W49, V49, st49⟩ := own_stI X46 hx hZ e46 V_ar (j := (1 : Int32)) (by decide) (k := 1) rfl (by decide) (g := (mkF m 51 #[.val (.int a1), .val (.int a2), .val (.int a3), .val (.int a4), .val (.int (3 : Int32)), .val (.int v0), .val (.int v1), .val (.int v2), .val (.ref ar), .unset, .unset] [(.int v1), (.int (1 : Int32)), (.ref ar)])) rfl rfl (hb hby at_51)
          have E_ar := E_ar.wr W49
          have Z50 := Nat.le_trans Z47 (Keep.of_wr W49).1
          have N51 := Fr.snoc X49 N48 g_ar
          have V_ar := V49
          obtain ⟨T52, h52, X52, e52, W52, V52, st52⟩ := own_stI X49 hx hZ e49 V_ar (j := (2 : Int32)) (by decide) (k := 2) rfl (by decide) (g := (mkF m 63 #[.val (.int a1), .val (.int a2), .val (.int a3), .val (.int a4), .val (.int (3 : Int32)), .val (.int v0), .val (.int v1), .val (.int v2), .val (.ref ar), .unset, .unset] [(.int v2), (.int (2 : Int32)), (.ref ar)])) rfl rfl (hb hby at_63)
          have E_ar := E_ar.wr W52
          have Z53 := Nat.le_trans Z50 (Keep.of_wr W52).1
          have N54 := Fr.snoc X52 N51 g_ar
          have V_ar := V52
          have lt_ar := V_ar.lt
          obtain ⟨_, _, ⟨T55, L55, k55, n55⟩, -, X55, ⟨Lc55, hQ55, l55, y55, z55⟩, st55⟩ := Jvm.LawKit.callS X52 hx (y := (⟨"com/example/intervals_to_classes/intervalstoclasses/net/Marking", "of", "([I)Lcom/example/intervals_to_classes/intervalstoclasses/net/Marking;"⟩ : MethodName)) hown (mvT hZ (hw _ (List.mem_of_getElem? (i := 2) rfl))) (mvT hZ (hw _ (List.mem_of_getElem? (i := 3) rfl))) (mvT hZ (hw _ (List.mem_of_getElem? (i := 4) rfl))) (mvT hZ (hw _ (List.mem_of_getElem? (i := 5) rfl))) (by decide) (backOf (W := 0) (own_rm1 l Z a0 hw [] ar 3 (own_xs v0 v1 v2) h52 n0 Z53 (by decide) (fun i hi => by
                rcases i with _ | _ | _ | i
                · exact hp0
                · exact hp1
                · exact hp2
                · omega) E_ar (V_ar.congr (fun i hi => by
                rcases i with _ | _ | _ | i <;> first | rfl | omega))) hZ (hw _ (List.mem_of_getElem? (i := 5) rfl)) (hw _ (List.mem_of_getElem? (i := 4) rfl)) (by decide) (by decide)) (g := (mkF m 66 #[.val (.int a1), .val (.int a2), .val (.int a3), .val (.int a4), .val (.int (3 : Int32)), .val (.int v0), .val (.int v1), .val (.int v2), .val (.ref ar), .unset, .unset] [(.ref ar)])) rfl (by rw [hml]; rfl) (argsL := [(.ref ar)]) (rest := []) (lenOf own_pd1 rfl) rfl (by show 2 * 0 + _ ≤ _; exact Nat.le_of_eq rfl) (hb hby at_66) (fun _ _ => ⟨rfl, e52, (by decide : 1 + 2 ≤ _), (by decide : 3 + 4 ≤ _)⟩)
          dsimp only [Pt.U, Pt.locs, Pt.cells, Pt.slots] at X55 l55 y55 z55 st55 hQ55
          subst l55 y55 z55
          obtain ⟨mk, tk, rfl, Nq55, Kq55, sz_mk, sz_tk, E_mk, F_tokens_mk, V_tk⟩ := hQ55
          have N55 := Fr.app N54 Nq55
          have V_ar := V_ar.keep Kq55 nin0
          have E_ar := E_ar.keep Kq55
          have Z55 := Nat.le_trans Z53 Kq55.1
          have ne_ar_mk : ar ≠ mk := fun q => by have := lt_ar; rw [q] at this; exact absurd this (Nat.not_lt.mpr sz_mk)
          have ne_ar_tk : ar ≠ tk := fun q => by have := lt_ar; rw [q] at this; exact absurd this (Nat.not_lt.mpr sz_tk)
          obtain ⟨T56, h56, X56, e56, W56, V56, st56⟩ := own_stI X55 hx hZ rfl V_ar (j := (0 : Int32)) (by decide) (k := 0) rfl (by decide) (g := (mkF m 83 #[.val (.int a1), .val (.int a2), .val (.int a3), .val (.int a4), .val (.int (3 : Int32)), .val (.int v0), .val (.int v1), .val (.int v2), .val (.ref ar), .val (.ref mk), .unset] [(.int (v0 + (1 : Int32))), (.int (0 : Int32)), (.ref ar)])) rfl rfl (hb hby at_83)
          have E_ar := E_ar.wr W56
          have E_mk := E_mk.wr W56
          have F_tokens_mk := F_tokens_mk.other W56 (Or.inl (Ne.symm ne_ar_mk))
          have V_tk := V_tk.other W56 (Ne.symm ne_ar_tk)
          have Z57 := Nat.le_trans Z55 (Keep.of_wr W56).1
          have N58 := Fr.snoc X56 N55 g_ar
          have V_ar := V56
          obtain ⟨T59, h59, X59, e59, W59, V59, st59⟩ := own_stI X56 hx hZ e56 V_ar (j := (1 : Int32)) (by decide) (k := 1) rfl (by decide) (g := (mkF m 97 #[.val (.int a1), .val (.int a2), .val (.int a3), .val (.int a4), .val (.int (3 : Int32)), .val (.int v0), .val (.int v1), .val (.int v2), .val (.ref ar), .val (.ref mk), .unset] [(.int (v1 + (1 : Int32))), (.int (1 : Int32)), (.ref ar)])) rfl rfl (hb hby at_97)
          have E_ar := E_ar.wr W59
          have E_mk := E_mk.wr W59
          have F_tokens_mk := F_tokens_mk.other W59 (Or.inl (Ne.symm ne_ar_mk))
          have V_tk := V_tk.other W59 (Ne.symm ne_ar_tk)
          have Z60 := Nat.le_trans Z57 (Keep.of_wr W59).1
          have N61 := Fr.snoc X59 N58 g_ar
          have V_ar := V59
          obtain ⟨T62, h62, X62, e62, W62, V62, st62⟩ := own_stI X59 hx hZ e59 V_ar (j := (2 : Int32)) (by decide) (k := 2) rfl (by decide) (g := (mkF m 111 #[.val (.int a1), .val (.int a2), .val (.int a3), .val (.int a4), .val (.int (3 : Int32)), .val (.int v0), .val (.int v1), .val (.int v2), .val (.ref ar), .val (.ref mk), .unset] [(.int (v2 + (1 : Int32))), (.int (2 : Int32)), (.ref ar)])) rfl rfl (hb hby at_111)
          have E_ar := E_ar.wr W62
          have E_mk := E_mk.wr W62
          have F_tokens_mk := F_tokens_mk.other W62 (Or.inl (Ne.symm ne_ar_mk))
          have V_tk := V_tk.other W62 (Ne.symm ne_ar_tk)
          have Z63 := Nat.le_trans Z60 (Keep.of_wr W62).1
          have N64 := Fr.snoc X62 N61 g_ar
          have V_ar := V62
          obtain ⟨cq65, kq65, q65a, q65b, q65c⟩ := isOf hZ e62 E_mk
          obtain ⟨_, _, ⟨T65, L65, k65, n65⟩, -, X65, ⟨Lc65, hQ65, l65, y65, z65⟩, st65⟩ := X62.virtualBack hx (y := (⟨"com/example/intervals_to_classes/intervalstoclasses/net/Marking", "size", "()I"⟩ : MethodName)) (z := (⟨"com/example/intervals_to_classes/intervalstoclasses/net/Marking", "size", "()I"⟩ : MethodName)) hown (mvT hZ (hw _ (List.mem_of_getElem? (i := 25) rfl))) (mvT hZ (hw _ (List.mem_of_getElem? (i := 26) rfl))) (notFace_of_selects (args := #[]) (mvT hZ (hw _ (List.mem_of_getElem? (i := 28) rfl)))) (mvT hZ (hw _ (List.mem_of_getElem? (i := 28) rfl))) (mvT hZ (hw _ (List.mem_of_getElem? (i := 27) rfl))) (by decide) (backOf (W := 0) (own_rm4 l Z a0 hw [] mk tk 3 (own_xs v0 v1 v2) h62 n0 Z63 F_tokens_mk V_tk) hZ (hw _ (List.mem_of_getElem? (i := 29) rfl)) (hw _ (List.mem_of_getElem? (i := 4) rfl)) (by decide) (by decide)) q65a q65c (g := (mkF m 114 #[.val (.int a1), .val (.int a2), .val (.int a3), .val (.int a4), .val (.int (3 : Int32)), .val (.int v0), .val (.int v1), .val (.int v2), .val (.ref ar), .val (.ref mk), .unset] [(.ref mk)])) rfl (by rw [hml]; rfl) (Steps.refl _) (argsL := []) (rest := []) (lenOf own_pd2 rfl) rfl (by show 2 * 0 + _ ≤ _; exact Nat.le_of_eq rfl) (hb hby at_114) (fun _ _ => ⟨rfl, e62, (by decide : 3 + 0 ≤ _), (by decide : 7 + 0 ≤ _)⟩)
          dsimp only [Pt.U, Pt.locs, Pt.cells, Pt.slots] at X65 l65 y65 z65 st65 hQ65
          subst l65 y65 z65
          obtain ⟨rfl, Nq65, eq65⟩ := hQ65
          have N65 := Fr.app N64 Nq65
          obtain ⟨cq66, kq66, q66a, q66b, q66c⟩ := isOf hZ eq65 E_mk
          obtain ⟨_, _, ⟨T66, L66, k66, n66⟩, -, X66, ⟨Lc66, hQ66, l66, y66, z66⟩, st66⟩ := X65.virtualBack hx (y := (⟨"com/example/intervals_to_classes/intervalstoclasses/net/Marking", "tokens", "(I)I"⟩ : MethodName)) (z := (⟨"com/example/intervals_to_classes/intervalstoclasses/net/Marking", "tokens", "(I)I"⟩ : MethodName)) hown (mvT hZ (hw _ (List.mem_of_getElem? (i := 30) rfl))) (mvT hZ (hw _ (List.mem_of_getElem? (i := 31) rfl))) (notFace_of_selects (args := #[]) (mvT hZ (hw _ (List.mem_of_getElem? (i := 33) rfl)))) (mvT hZ (hw _ (List.mem_of_getElem? (i := 33) rfl))) (mvT hZ (hw _ (List.mem_of_getElem? (i := 32) rfl))) (by decide) (backOf (W := 0) (own_rm5 l Z a0 hw [] mk 0 tk 3 (own_xs v0 v1 v2) h62 n0 Z63 F_tokens_mk V_tk (by decide) (by decide) (by decide)) hZ (hw _ (List.mem_of_getElem? (i := 34) rfl)) (hw _ (List.mem_of_getElem? (i := 4) rfl)) (by decide) (by decide)) q66a q66c (g := (mkF m 142 #[.val (.int a1), .val (.int a2), .val (.int a3), .val (.int a4), .val (.int (3 : Int32)), .val (.int v0), .val (.int v1), .val (.int v2), .val (.ref ar), .val (.ref mk), .val (.int (1 : Int32))] [(.int (0 : Int32)), (.ref mk)])) rfl (by rw [hml]; rfl) (Steps.refl _) (argsL := [(.int (0 : Int32))]) (rest := []) (lenOf own_pd3 rfl) rfl (by show 2 * 0 + _ ≤ _; exact Nat.le_of_eq rfl) (hb hby at_142) (fun _ _ => ⟨rfl, eq65, (by decide : 3 + 0 ≤ _), (by decide : 7 + 0 ≤ _)⟩)
          dsimp only [Pt.U, Pt.locs, Pt.cells, Pt.slots] at X66 l66 y66 z66 st66 hQ66
          subst l66 y66 z66
          obtain ⟨rfl, Nq66, eq66⟩ := hQ66
          have N66 := Fr.app N65 Nq66
          obtain ⟨cq67, kq67, q67a, q67b, q67c⟩ := isOf hZ eq66 E_mk
          obtain ⟨_, _, ⟨T67, L67, k67, n67⟩, -, X67, ⟨Lc67, hQ67, l67, y67, z67⟩, st67⟩ := X66.virtualBack hx (y := (⟨"com/example/intervals_to_classes/intervalstoclasses/net/Marking", "tokens", "(I)I"⟩ : MethodName)) (z := (⟨"com/example/intervals_to_classes/intervalstoclasses/net/Marking", "tokens", "(I)I"⟩ : MethodName)) hown (mvT hZ (hw _ (List.mem_of_getElem? (i := 30) rfl))) (mvT hZ (hw _ (List.mem_of_getElem? (i := 31) rfl))) (notFace_of_selects (args := #[]) (mvT hZ (hw _ (List.mem_of_getElem? (i := 33) rfl)))) (mvT hZ (hw _ (List.mem_of_getElem? (i := 33) rfl))) (mvT hZ (hw _ (List.mem_of_getElem? (i := 32) rfl))) (by decide) (backOf (W := 0) (own_rm5 l Z a0 hw [] mk 1 tk 3 (own_xs v0 v1 v2) h62 n0 Z63 F_tokens_mk V_tk (by decide) (by decide) (by decide)) hZ (hw _ (List.mem_of_getElem? (i := 34) rfl)) (hw _ (List.mem_of_getElem? (i := 4) rfl)) (by decide) (by decide)) q67a q67c (g := (mkF m 171 #[.val (.int a1), .val (.int a2), .val (.int a3), .val (.int a4), .val (.int (3 : Int32)), .val (.int v0), .val (.int v1), .val (.int v2), .val (.ref ar), .val (.ref mk), .val (.int (1 : Int32))] [(.int (1 : Int32)), (.ref mk)])) rfl (by rw [hml]; rfl) (Steps.refl _) (argsL := [(.int (1 : Int32))]) (rest := []) (lenOf own_pd3 rfl) rfl (by show 2 * 0 + _ ≤ _; exact Nat.le_of_eq rfl) (hb hby at_171) (fun _ _ => ⟨rfl, eq66, (by decide : 3 + 0 ≤ _), (by decide : 7 + 0 ≤ _)⟩)
          dsimp only [Pt.U, Pt.locs, Pt.cells, Pt.slots] at X67 l67 y67 z67 st67 hQ67
          subst l67 y67 z67
          obtain ⟨rfl, Nq67, eq67⟩ := hQ67
          have N67 := Fr.app N66 Nq67
          obtain ⟨cq68, kq68, q68a, q68b, q68c⟩ := isOf hZ eq67 E_mk
          obtain ⟨_, _, ⟨T68, L68, k68, n68⟩, -, X68, ⟨Lc68, hQ68, l68, y68, z68⟩, st68⟩ := X67.virtualBack hx (y := (⟨"com/example/intervals_to_classes/intervalstoclasses/net/Marking", "tokens", "(I)I"⟩ : MethodName)) (z := (⟨"com/example/intervals_to_classes/intervalstoclasses/net/Marking", "tokens", "(I)I"⟩ : MethodName)) hown (mvT hZ (hw _ (List.mem_of_getElem? (i := 30) rfl))) (mvT hZ (hw _ (List.mem_of_getElem? (i := 31) rfl))) (notFace_of_selects (args := #[]) (mvT hZ (hw _ (List.mem_of_getElem? (i := 33) rfl)))) (mvT hZ (hw _ (List.mem_of_getElem? (i := 33) rfl))) (mvT hZ (hw _ (List.mem_of_getElem? (i := 32) rfl))) (by decide) (backOf (W := 0) (own_rm5 l Z a0 hw [] mk 2 tk 3 (own_xs v0 v1 v2) h62 n0 Z63 F_tokens_mk V_tk (by decide) (by decide) (by decide)) hZ (hw _ (List.mem_of_getElem? (i := 34) rfl)) (hw _ (List.mem_of_getElem? (i := 4) rfl)) (by decide) (by decide)) q68a q68c (g := (mkF m 200 #[.val (.int a1), .val (.int a2), .val (.int a3), .val (.int a4), .val (.int (3 : Int32)), .val (.int v0), .val (.int v1), .val (.int v2), .val (.ref ar), .val (.ref mk), .val (.int (1 : Int32))] [(.int (2 : Int32)), (.ref mk)])) rfl (by rw [hml]; rfl) (Steps.refl _) (argsL := [(.int (2 : Int32))]) (rest := []) (lenOf own_pd3 rfl) rfl (by show 2 * 0 + _ ≤ _; exact Nat.le_of_eq rfl) (hb hby at_200) (fun _ _ => ⟨rfl, eq67, (by decide : 3 + 0 ≤ _), (by decide : 7 + 0 ≤ _)⟩)
          dsimp only [Pt.U, Pt.locs, Pt.cells, Pt.slots] at X68 l68 y68 z68 st68 hQ68
          subst l68 y68 z68
          obtain ⟨rfl, Nq68, eq68⟩ := hQ68
          have N68 := Fr.app N67 Nq68
          obtain ⟨fs, hr, hrun, hended, hW, hsame⟩ := X68.leave (v := some (.int (1 : Int32))) (fun h => by rw [Bd.returns] at h; cases h) (BodyLoose.notSynchronized Bd)
          refine ⟨_, _, pre9 _ ?_, hrun, hended, _, _, rfl, ?_, ⟨_, rfl⟩, hW, hsame.mono (by decide) (by decide)⟩
          · skip
            show Steps p.tables e below (s₁.setTop (mkF m 25 #[.val (.int a1), .val (.int a2), .val (.int a3), .val (.int a4), .val (.int (3 : Int32)), .val (.int v0), .val (.int v1), .val (.int v2), .unset, .unset, .unset] [(.int (3 : Int32))])) _
            refine st44 _ ?_
            show Steps p.tables e below (T44.setTop (mkF m 27 #[.val (.int a1), .val (.int a2), .val (.int a3), .val (.int a4), .val (.int (3 : Int32)), .val (.int v0), .val (.int v1), .val (.int v2), .unset, .unset, .unset] [(.ref ar)])) _
            refine XS.astore X44.here hx rfl (hb hby at_27) rfl rfl (l' := #[.val (.int a1), .val (.int a2), .val (.int a3), .val (.int a4), .val (.int (3 : Int32)), .val (.int v0), .val (.int v1), .val (.int v2), .val (.ref ar), .unset, .unset]) rfl ?_
            show Steps p.tables e below (T44.setTop (mkF m 29 #[.val (.int a1), .val (.int a2), .val (.int a3), .val (.int a4), .val (.int (3 : Int32)), .val (.int v0), .val (.int v1), .val (.int v2), .val (.ref ar), .unset, .unset] [])) _
            refine XS.iload X44.here hx rfl (hb hby at_29) rfl ?_
            show Steps p.tables e below (T44.setTop (mkF m 31 #[.val (.int a1), .val (.int a2), .val (.int a3), .val (.int a4), .val (.int (3 : Int32)), .val (.int v0), .val (.int v1), .val (.int v2), .val (.ref ar), .unset, .unset] [(.int (3 : Int32))])) _
            refine XS.ifNo X44.here hx rfl (hb hby at_31) rfl ((if0 _ _).trans (tlt (by decide)).2.2.2) ?_
            show Steps p.tables e below (T44.setTop (mkF m 34 #[.val (.int a1), .val (.int a2), .val (.int a3), .val (.int a4), .val (.int (3 : Int32)), .val (.int v0), .val (.int v1), .val (.int v2), .val (.ref ar), .unset, .unset] [])) _
            refine XS.aload X44.here hx rfl (hb hby at_34) rfl rfl ?_
            show Steps p.tables e below (T44.setTop (mkF m 36 #[.val (.int a1), .val (.int a2), .val (.int a3), .val (.int a4), .val (.int (3 : Int32)), .val (.int v0), .val (.int v1), .val (.int v2), .val (.ref ar), .unset, .unset] [(.ref ar)])) _
            refine XS.iconst X44.here hx rfl (hb hby at_36) ?_
            show Steps p.tables e below (T44.setTop (mkF m 37 #[.val (.int a1), .val (.int a2), .val (.int a3), .val (.int a4), .val (.int (3 : Int32)), .val (.int v0), .val (.int v1), .val (.int v2), .val (.ref ar), .unset, .unset] [(.int (0 : Int32)), (.ref ar)])) _
            refine XS.iload X44.here hx rfl (hb hby at_37) rfl ?_
            show Steps p.tables e below (T44.setTop (mkF m 39 #[.val (.int a1), .val (.int a2), .val (.int a3), .val (.int a4), .val (.int (3 : Int32)), .val (.int v0), .val (.int v1), .val (.int v2), .val (.ref ar), .unset, .unset] [(.int v0), (.int (0 : Int32)), (.ref ar)])) _
            refine st46 _ ?_
            show Steps p.tables e below (T46.setTop (mkF m 40 #[.val (.int a1), .val (.int a2), .val (.int a3), .val (.int a4), .val (.int (3 : Int32)), .val (.int v0), .val (.int v1), .val (.int v2), .val (.ref ar), .unset, .unset] [])) _
            refine XS.iload X46.here hx rfl (hb hby at_40) rfl ?_
            show Steps p.tables e below (T46.setTop (mkF m 42 #[.val (.int a1), .val (.int a2), .val (.int a3), .val (.int a4), .val (.int (3 : Int32)), .val (.int v0), .val (.int v1), .val (.int v2), .val (.ref ar), .unset, .unset] [(.int (3 : Int32))])) _
            refine XS.iconst X46.here hx rfl (hb hby at_42) ?_
            show Steps p.tables e below (T46.setTop (mkF m 43 #[.val (.int a1), .val (.int a2), .val (.int a3), .val (.int a4), .val (.int (3 : Int32)), .val (.int v0), .val (.int v1), .val (.int v2), .val (.ref ar), .unset, .unset] [(.int (1 : Int32)), (.int (3 : Int32))])) _
            refine XS.icmpNo X46.here hx rfl (hb hby at_43) rfl (tlt (by decide)).2.2.2 ?_
            show Steps p.tables e below (T46.setTop (mkF m 46 #[.val (.int a1), .val (.int a2), .val (.int a3), .val (.int a4), .val (.int (3 : Int32)), .val (.int v0), .val (.int v1), .val (.int v2), .val (.ref ar), .unset, .unset] [])) _
            refine XS.aload X46.here hx rfl (hb hby at_46) rfl rfl ?_
            show Steps p.tables e below (T46.setTop (mkF m 48 #[.val (.int a1), .val (.int a2), .val (.int a3), .val (.int a4), .val (.int (3 : Int32)), .val (.int v0), .val (.int v1), .val (.int v2), .val (.ref ar), .unset, .unset] [(.ref ar)])) _
            refine XS.iconst X46.here hx rfl (hb hby at_48) ?_
            show Steps p.tables e below (T46.setTop (mkF m 49 #[.val (.int a1), .val (.int a2), .val (.int a3), .val (.int a4), .val (.int (3 : Int32)), .val (.int v0), .val (.int v1), .val (.int v2), .val (.ref ar), .unset, .unset] [(.int (1 : Int32)), (.ref ar)])) _
            refine XS.iload X46.here hx rfl (hb hby at_49) rfl ?_
            show Steps p.tables e below (T46.setTop (mkF m 51 #[.val (.int a1), .val (.int a2), .val (.int a3), .val (.int a4), .val (.int (3 : Int32)), .val (.int v0), .val (.int v1), .val (.int v2), .val (.ref ar), .unset, .unset] [(.int v1), (.int (1 : Int32)), (.ref ar)])) _
            refine st49 _ ?_
            show Steps p.tables e below (T49.setTop (mkF m 52 #[.val (.int a1), .val (.int a2), .val (.int a3), .val (.int a4), .val (.int (3 : Int32)), .val (.int v0), .val (.int v1), .val (.int v2), .val (.ref ar), .unset, .unset] [])) _
            refine XS.iload X49.here hx rfl (hb hby at_52) rfl ?_
            show Steps p.tables e below (T49.setTop (mkF m 54 #[.val (.int a1), .val (.int a2), .val (.int a3), .val (.int a4), .val (.int (3 : Int32)), .val (.int v0), .val (.int v1), .val (.int v2), .val (.ref ar), .unset, .unset] [(.int (3 : Int32))])) _
            refine XS.iconst X49.here hx rfl (hb hby at_54) ?_
            show Steps p.tables e below (T49.setTop (mkF m 55 #[.val (.int a1), .val (.int a2), .val (.int a3), .val (.int a4), .val (.int (3 : Int32)), .val (.int v0), .val (.int v1), .val (.int v2), .val (.ref ar), .unset, .unset] [(.int (2 : Int32)), (.int (3 : Int32))])) _
            refine XS.icmpNo X49.here hx rfl (hb hby at_55) rfl (tlt (by decide)).2.2.2 ?_
            show Steps p.tables e below (T49.setTop (mkF m 58 #[.val (.int a1), .val (.int a2), .val (.int a3), .val (.int a4), .val (.int (3 : Int32)), .val (.int v0), .val (.int v1), .val (.int v2), .val (.ref ar), .unset, .unset] [])) _
            refine XS.aload X49.here hx rfl (hb hby at_58) rfl rfl ?_
            show Steps p.tables e below (T49.setTop (mkF m 60 #[.val (.int a1), .val (.int a2), .val (.int a3), .val (.int a4), .val (.int (3 : Int32)), .val (.int v0), .val (.int v1), .val (.int v2), .val (.ref ar), .unset, .unset] [(.ref ar)])) _
            refine XS.iconst X49.here hx rfl (hb hby at_60) ?_
            show Steps p.tables e below (T49.setTop (mkF m 61 #[.val (.int a1), .val (.int a2), .val (.int a3), .val (.int a4), .val (.int (3 : Int32)), .val (.int v0), .val (.int v1), .val (.int v2), .val (.ref ar), .unset, .unset] [(.int (2 : Int32)), (.ref ar)])) _
            refine XS.iload X49.here hx rfl (hb hby at_61) rfl ?_
            show Steps p.tables e below (T49.setTop (mkF m 63 #[.val (.int a1), .val (.int a2), .val (.int a3), .val (.int a4), .val (.int (3 : Int32)), .val (.int v0), .val (.int v1), .val (.int v2), .val (.ref ar), .unset, .unset] [(.int v2), (.int (2 : Int32)), (.ref ar)])) _
            refine st52 _ ?_
            show Steps p.tables e below (T52.setTop (mkF m 64 #[.val (.int a1), .val (.int a2), .val (.int a3), .val (.int a4), .val (.int (3 : Int32)), .val (.int v0), .val (.int v1), .val (.int v2), .val (.ref ar), .unset, .unset] [])) _
            refine XS.aload X52.here hx rfl (hb hby at_64) rfl rfl ?_
            show Steps p.tables e below (T52.setTop (mkF m 66 #[.val (.int a1), .val (.int a2), .val (.int a3), .val (.int a4), .val (.int (3 : Int32)), .val (.int v0), .val (.int v1), .val (.int v2), .val (.ref ar), .unset, .unset] [(.ref ar)])) _
            refine st55 _ ?_
            show Steps p.tables e below (T55.setTop (mkF m 69 #[.val (.int a1), .val (.int a2), .val (.int a3), .val (.int a4), .val (.int (3 : Int32)), .val (.int v0), .val (.int v1), .val (.int v2), .val (.ref ar), .unset, .unset] [(.ref mk)])) _
            refine XS.astore X55.here hx rfl (hb hby at_69) rfl rfl (l' := #[.val (.int a1), .val (.int a2), .val (.int a3), .val (.int a4), .val (.int (3 : Int32)), .val (.int v0), .val (.int v1), .val (.int v2), .val (.ref ar), .val (.ref mk), .unset]) rfl ?_
            show Steps p.tables e below (T55.setTop (mkF m 71 #[.val (.int a1), .val (.int a2), .val (.int a3), .val (.int a4), .val (.int (3 : Int32)), .val (.int v0), .val (.int v1), .val (.int v2), .val (.ref ar), .val (.ref mk), .unset] [])) _
            refine XS.iload X55.here hx rfl (hb hby at_71) rfl ?_
            show Steps p.tables e below (T55.setTop (mkF m 73 #[.val (.int a1), .val (.int a2), .val (.int a3), .val (.int a4), .val (.int (3 : Int32)), .val (.int v0), .val (.int v1), .val (.int v2), .val (.ref ar), .val (.ref mk), .unset] [(.int (3 : Int32))])) _
            refine XS.ifNo X55.here hx rfl (hb hby at_73) rfl ((if0 _ _).trans (tlt (by decide)).2.2.2) ?_
            show Steps p.tables e below (T55.setTop (mkF m 76 #[.val (.int a1), .val (.int a2), .val (.int a3), .val (.int a4), .val (.int (3 : Int32)), .val (.int v0), .val (.int v1), .val (.int v2), .val (.ref ar), .val (.ref mk), .unset] [])) _
            refine XS.aload X55.here hx rfl (hb hby at_76) rfl rfl ?_
            show Steps p.tables e below (T55.setTop (mkF m 78 #[.val (.int a1), .val (.int a2), .val (.int a3), .val (.int a4), .val (.int (3 : Int32)), .val (.int v0), .val (.int v1), .val (.int v2), .val (.ref ar), .val (.ref mk), .unset] [(.ref ar)])) _
            refine XS.iconst X55.here hx rfl (hb hby at_78) ?_
            show Steps p.tables e below (T55.setTop (mkF m 79 #[.val (.int a1), .val (.int a2), .val (.int a3), .val (.int a4), .val (.int (3 : Int32)), .val (.int v0), .val (.int v1), .val (.int v2), .val (.ref ar), .val (.ref mk), .unset] [(.int (0 : Int32)), (.ref ar)])) _
            refine XS.iload X55.here hx rfl (hb hby at_79) rfl ?_
            show Steps p.tables e below (T55.setTop (mkF m 81 #[.val (.int a1), .val (.int a2), .val (.int a3), .val (.int a4), .val (.int (3 : Int32)), .val (.int v0), .val (.int v1), .val (.int v2), .val (.ref ar), .val (.ref mk), .unset] [(.int v0), (.int (0 : Int32)), (.ref ar)])) _
            refine XS.iconst X55.here hx rfl (hb hby at_81) ?_
            show Steps p.tables e below (T55.setTop (mkF m 82 #[.val (.int a1), .val (.int a2), .val (.int a3), .val (.int a4), .val (.int (3 : Int32)), .val (.int v0), .val (.int v1), .val (.int v2), .val (.ref ar), .val (.ref mk), .unset] [(.int (1 : Int32)), (.int v0), (.int (0 : Int32)), (.ref ar)])) _
            refine XS.iadd X55.here hx rfl (hb hby at_82) rfl ?_
            show Steps p.tables e below (T55.setTop (mkF m 83 #[.val (.int a1), .val (.int a2), .val (.int a3), .val (.int a4), .val (.int (3 : Int32)), .val (.int v0), .val (.int v1), .val (.int v2), .val (.ref ar), .val (.ref mk), .unset] [(.int (v0 + (1 : Int32))), (.int (0 : Int32)), (.ref ar)])) _
            refine st56 _ ?_
            show Steps p.tables e below (T56.setTop (mkF m 84 #[.val (.int a1), .val (.int a2), .val (.int a3), .val (.int a4), .val (.int (3 : Int32)), .val (.int v0), .val (.int v1), .val (.int v2), .val (.ref ar), .val (.ref mk), .unset] [])) _
            refine XS.iload X56.here hx rfl (hb hby at_84) rfl ?_
            show Steps p.tables e below (T56.setTop (mkF m 86 #[.val (.int a1), .val (.int a2), .val (.int a3), .val (.int a4), .val (.int (3 : Int32)), .val (.int v0), .val (.int v1), .val (.int v2), .val (.ref ar), .val (.ref mk), .unset] [(.int (3 : Int32))])) _
            refine XS.iconst X56.here hx rfl (hb hby at_86) ?_
            show Steps p.tables e below (T56.setTop (mkF m 87 #[.val (.int a1), .val (.int a2), .val (.int a3), .val (.int a4), .val (.int (3 : Int32)), .val (.int v0), .val (.int v1), .val (.int v2), .val (.ref ar), .val (.ref mk), .unset] [(.int (1 : Int32)), (.int (3 : Int32))])) _
            refine XS.icmpNo X56.here hx rfl (hb hby at_87) rfl (tlt (by decide)).2.2.2 ?_
            show Steps p.tables e below (T56.setTop (mkF m 90 #[.val (.int a1), .val (.int a2), .val (.int a3), .val (.int a4), .val (.int (3 : Int32)), .val (.int v0), .val (.int v1), .val (.int v2), .val (.ref ar), .val (.ref mk), .unset] [])) _
            refine XS.aload X56.here hx rfl (hb hby at_90) rfl rfl ?_
            show Steps p.tables e below (T56.setTop (mkF m 92 #[.val (.int a1), .val (.int a2), .val (.int a3), .val (.int a4), .val (.int (3 : Int32)), .val (.int v0), .val (.int v1), .val (.int v2), .val (.ref ar), .val (.ref mk), .unset] [(.ref ar)])) _
            refine XS.iconst X56.here hx rfl (hb hby at_92) ?_
            show Steps p.tables e below (T56.setTop (mkF m 93 #[.val (.int a1), .val (.int a2), .val (.int a3), .val (.int a4), .val (.int (3 : Int32)), .val (.int v0), .val (.int v1), .val (.int v2), .val (.ref ar), .val (.ref mk), .unset] [(.int (1 : Int32)), (.ref ar)])) _
            refine XS.iload X56.here hx rfl (hb hby at_93) rfl ?_
            show Steps p.tables e below (T56.setTop (mkF m 95 #[.val (.int a1), .val (.int a2), .val (.int a3), .val (.int a4), .val (.int (3 : Int32)), .val (.int v0), .val (.int v1), .val (.int v2), .val (.ref ar), .val (.ref mk), .unset] [(.int v1), (.int (1 : Int32)), (.ref ar)])) _
            refine XS.iconst X56.here hx rfl (hb hby at_95) ?_
            show Steps p.tables e below (T56.setTop (mkF m 96 #[.val (.int a1), .val (.int a2), .val (.int a3), .val (.int a4), .val (.int (3 : Int32)), .val (.int v0), .val (.int v1), .val (.int v2), .val (.ref ar), .val (.ref mk), .unset] [(.int (1 : Int32)), (.int v1), (.int (1 : Int32)), (.ref ar)])) _
            refine XS.iadd X56.here hx rfl (hb hby at_96) rfl ?_
            show Steps p.tables e below (T56.setTop (mkF m 97 #[.val (.int a1), .val (.int a2), .val (.int a3), .val (.int a4), .val (.int (3 : Int32)), .val (.int v0), .val (.int v1), .val (.int v2), .val (.ref ar), .val (.ref mk), .unset] [(.int (v1 + (1 : Int32))), (.int (1 : Int32)), (.ref ar)])) _
            refine st59 _ ?_
            show Steps p.tables e below (T59.setTop (mkF m 98 #[.val (.int a1), .val (.int a2), .val (.int a3), .val (.int a4), .val (.int (3 : Int32)), .val (.int v0), .val (.int v1), .val (.int v2), .val (.ref ar), .val (.ref mk), .unset] [])) _
            refine XS.iload X59.here hx rfl (hb hby at_98) rfl ?_
            show Steps p.tables e below (T59.setTop (mkF m 100 #[.val (.int a1), .val (.int a2), .val (.int a3), .val (.int a4), .val (.int (3 : Int32)), .val (.int v0), .val (.int v1), .val (.int v2), .val (.ref ar), .val (.ref mk), .unset] [(.int (3 : Int32))])) _
            refine XS.iconst X59.here hx rfl (hb hby at_100) ?_
            show Steps p.tables e below (T59.setTop (mkF m 101 #[.val (.int a1), .val (.int a2), .val (.int a3), .val (.int a4), .val (.int (3 : Int32)), .val (.int v0), .val (.int v1), .val (.int v2), .val (.ref ar), .val (.ref mk), .unset] [(.int (2 : Int32)), (.int (3 : Int32))])) _
            refine XS.icmpNo X59.here hx rfl (hb hby at_101) rfl (tlt (by decide)).2.2.2 ?_
            show Steps p.tables e below (T59.setTop (mkF m 104 #[.val (.int a1), .val (.int a2), .val (.int a3), .val (.int a4), .val (.int (3 : Int32)), .val (.int v0), .val (.int v1), .val (.int v2), .val (.ref ar), .val (.ref mk), .unset] [])) _
            refine XS.aload X59.here hx rfl (hb hby at_104) rfl rfl ?_
            show Steps p.tables e below (T59.setTop (mkF m 106 #[.val (.int a1), .val (.int a2), .val (.int a3), .val (.int a4), .val (.int (3 : Int32)), .val (.int v0), .val (.int v1), .val (.int v2), .val (.ref ar), .val (.ref mk), .unset] [(.ref ar)])) _
            refine XS.iconst X59.here hx rfl (hb hby at_106) ?_
            show Steps p.tables e below (T59.setTop (mkF m 107 #[.val (.int a1), .val (.int a2), .val (.int a3), .val (.int a4), .val (.int (3 : Int32)), .val (.int v0), .val (.int v1), .val (.int v2), .val (.ref ar), .val (.ref mk), .unset] [(.int (2 : Int32)), (.ref ar)])) _
            refine XS.iload X59.here hx rfl (hb hby at_107) rfl ?_
            show Steps p.tables e below (T59.setTop (mkF m 109 #[.val (.int a1), .val (.int a2), .val (.int a3), .val (.int a4), .val (.int (3 : Int32)), .val (.int v0), .val (.int v1), .val (.int v2), .val (.ref ar), .val (.ref mk), .unset] [(.int v2), (.int (2 : Int32)), (.ref ar)])) _
            refine XS.iconst X59.here hx rfl (hb hby at_109) ?_
            show Steps p.tables e below (T59.setTop (mkF m 110 #[.val (.int a1), .val (.int a2), .val (.int a3), .val (.int a4), .val (.int (3 : Int32)), .val (.int v0), .val (.int v1), .val (.int v2), .val (.ref ar), .val (.ref mk), .unset] [(.int (1 : Int32)), (.int v2), (.int (2 : Int32)), (.ref ar)])) _
            refine XS.iadd X59.here hx rfl (hb hby at_110) rfl ?_
            show Steps p.tables e below (T59.setTop (mkF m 111 #[.val (.int a1), .val (.int a2), .val (.int a3), .val (.int a4), .val (.int (3 : Int32)), .val (.int v0), .val (.int v1), .val (.int v2), .val (.ref ar), .val (.ref mk), .unset] [(.int (v2 + (1 : Int32))), (.int (2 : Int32)), (.ref ar)])) _
            refine st62 _ ?_
            show Steps p.tables e below (T62.setTop (mkF m 112 #[.val (.int a1), .val (.int a2), .val (.int a3), .val (.int a4), .val (.int (3 : Int32)), .val (.int v0), .val (.int v1), .val (.int v2), .val (.ref ar), .val (.ref mk), .unset] [])) _
            refine XS.aload X62.here hx rfl (hb hby at_112) rfl rfl ?_
            show Steps p.tables e below (T62.setTop (mkF m 114 #[.val (.int a1), .val (.int a2), .val (.int a3), .val (.int a4), .val (.int (3 : Int32)), .val (.int v0), .val (.int v1), .val (.int v2), .val (.ref ar), .val (.ref mk), .unset] [(.ref mk)])) _
            refine st65.trans ?_
            show Steps p.tables e below (T65.setTop (mkF m 117 #[.val (.int a1), .val (.int a2), .val (.int a3), .val (.int a4), .val (.int (3 : Int32)), .val (.int v0), .val (.int v1), .val (.int v2), .val (.ref ar), .val (.ref mk), .unset] [(.int (3 : Int32))])) _
            refine XS.iload X65.here hx rfl (hb hby at_117) rfl ?_
            show Steps p.tables e below (T65.setTop (mkF m 119 #[.val (.int a1), .val (.int a2), .val (.int a3), .val (.int a4), .val (.int (3 : Int32)), .val (.int v0), .val (.int v1), .val (.int v2), .val (.ref ar), .val (.ref mk), .unset] [(.int (3 : Int32)), (.int (3 : Int32))])) _
            refine XS.icmpNo X65.here hx rfl (hb hby at_119) rfl (teq rfl).2 ?_
            show Steps p.tables e below (T65.setTop (mkF m 122 #[.val (.int a1), .val (.int a2), .val (.int a3), .val (.int a4), .val (.int (3 : Int32)), .val (.int v0), .val (.int v1), .val (.int v2), .val (.ref ar), .val (.ref mk), .unset] [])) _
            refine XS.iconst X65.here hx rfl (hb hby at_122) ?_
            show Steps p.tables e below (T65.setTop (mkF m 123 #[.val (.int a1), .val (.int a2), .val (.int a3), .val (.int a4), .val (.int (3 : Int32)), .val (.int v0), .val (.int v1), .val (.int v2), .val (.ref ar), .val (.ref mk), .unset] [(.int (1 : Int32))])) _
            refine XS.goto X65.here hx rfl (pc0 := 123) (pc' := 127) rfl (hb hby at_123) (by decide) (by decide) ?_
            show Steps p.tables e below (T65.setTop (mkF m 127 #[.val (.int a1), .val (.int a2), .val (.int a3), .val (.int a4), .val (.int (3 : Int32)), .val (.int v0), .val (.int v1), .val (.int v2), .val (.ref ar), .val (.ref mk), .unset] [(.int (1 : Int32))])) _
            refine XS.istore X65.here hx rfl (hb hby at_127) rfl (l' := #[.val (.int a1), .val (.int a2), .val (.int a3), .val (.int a4), .val (.int (3 : Int32)), .val (.int v0), .val (.int v1), .val (.int v2), .val (.ref ar), .val (.ref mk), .val (.int (1 : Int32))]) rfl ?_
            show Steps p.tables e below (T65.setTop (mkF m 129 #[.val (.int a1), .val (.int a2), .val (.int a3), .val (.int a4), .val (.int (3 : Int32)), .val (.int v0), .val (.int v1), .val (.int v2), .val (.ref ar), .val (.ref mk), .val (.int (1 : Int32))] [])) _
            refine XS.iload X65.here hx rfl (hb hby at_129) rfl ?_
            show Steps p.tables e below (T65.setTop (mkF m 131 #[.val (.int a1), .val (.int a2), .val (.int a3), .val (.int a4), .val (.int (3 : Int32)), .val (.int v0), .val (.int v1), .val (.int v2), .val (.ref ar), .val (.ref mk), .val (.int (1 : Int32))] [(.int (3 : Int32))])) _
            refine XS.ifNo X65.here hx rfl (hb hby at_131) rfl ((if0 _ _).trans (tlt (by decide)).2.2.2) ?_
            show Steps p.tables e below (T65.setTop (mkF m 134 #[.val (.int a1), .val (.int a2), .val (.int a3), .val (.int a4), .val (.int (3 : Int32)), .val (.int v0), .val (.int v1), .val (.int v2), .val (.ref ar), .val (.ref mk), .val (.int (1 : Int32))] [])) _
            refine XS.iload X65.here hx rfl (hb hby at_134) rfl ?_
            show Steps p.tables e below (T65.setTop (mkF m 136 #[.val (.int a1), .val (.int a2), .val (.int a3), .val (.int a4), .val (.int (3 : Int32)), .val (.int v0), .val (.int v1), .val (.int v2), .val (.ref ar), .val (.ref mk), .val (.int (1 : Int32))] [(.int (1 : Int32))])) _
            refine XS.ifNo X65.here hx rfl (hb hby at_136) rfl ((if0 _ _).trans (feq (by decide)).1) ?_
            show Steps p.tables e below (T65.setTop (mkF m 139 #[.val (.int a1), .val (.int a2), .val (.int a3), .val (.int a4), .val (.int (3 : Int32)), .val (.int v0), .val (.int v1), .val (.int v2), .val (.ref ar), .val (.ref mk), .val (.int (1 : Int32))] [])) _
            refine XS.aload X65.here hx rfl (hb hby at_139) rfl rfl ?_
            show Steps p.tables e below (T65.setTop (mkF m 141 #[.val (.int a1), .val (.int a2), .val (.int a3), .val (.int a4), .val (.int (3 : Int32)), .val (.int v0), .val (.int v1), .val (.int v2), .val (.ref ar), .val (.ref mk), .val (.int (1 : Int32))] [(.ref mk)])) _
            refine XS.iconst X65.here hx rfl (hb hby at_141) ?_
            show Steps p.tables e below (T65.setTop (mkF m 142 #[.val (.int a1), .val (.int a2), .val (.int a3), .val (.int a4), .val (.int (3 : Int32)), .val (.int v0), .val (.int v1), .val (.int v2), .val (.ref ar), .val (.ref mk), .val (.int (1 : Int32))] [(.int (0 : Int32)), (.ref mk)])) _
            refine st66.trans ?_
            show Steps p.tables e below (T66.setTop (mkF m 145 #[.val (.int a1), .val (.int a2), .val (.int a3), .val (.int a4), .val (.int (3 : Int32)), .val (.int v0), .val (.int v1), .val (.int v2), .val (.ref ar), .val (.ref mk), .val (.int (1 : Int32))] [(.int v0)])) _
            refine XS.iload X66.here hx rfl (hb hby at_145) rfl ?_
            show Steps p.tables e below (T66.setTop (mkF m 147 #[.val (.int a1), .val (.int a2), .val (.int a3), .val (.int a4), .val (.int (3 : Int32)), .val (.int v0), .val (.int v1), .val (.int v2), .val (.ref ar), .val (.ref mk), .val (.int (1 : Int32))] [(.int v0), (.int v0)])) _
            refine XS.icmpNo X66.here hx rfl (hb hby at_147) rfl (teq rfl).2 ?_
            show Steps p.tables e below (T66.setTop (mkF m 150 #[.val (.int a1), .val (.int a2), .val (.int a3), .val (.int a4), .val (.int (3 : Int32)), .val (.int v0), .val (.int v1), .val (.int v2), .val (.ref ar), .val (.ref mk), .val (.int (1 : Int32))] [])) _
            refine XS.iconst X66.here hx rfl (hb hby at_150) ?_
            show Steps p.tables e below (T66.setTop (mkF m 151 #[.val (.int a1), .val (.int a2), .val (.int a3), .val (.int a4), .val (.int (3 : Int32)), .val (.int v0), .val (.int v1), .val (.int v2), .val (.ref ar), .val (.ref mk), .val (.int (1 : Int32))] [(.int (1 : Int32))])) _
            refine XS.goto X66.here hx rfl (pc0 := 151) (pc' := 155) rfl (hb hby at_151) (by decide) (by decide) ?_
            show Steps p.tables e below (T66.setTop (mkF m 155 #[.val (.int a1), .val (.int a2), .val (.int a3), .val (.int a4), .val (.int (3 : Int32)), .val (.int v0), .val (.int v1), .val (.int v2), .val (.ref ar), .val (.ref mk), .val (.int (1 : Int32))] [(.int (1 : Int32))])) _
            refine XS.istore X66.here hx rfl (hb hby at_155) rfl (l' := #[.val (.int a1), .val (.int a2), .val (.int a3), .val (.int a4), .val (.int (3 : Int32)), .val (.int v0), .val (.int v1), .val (.int v2), .val (.ref ar), .val (.ref mk), .val (.int (1 : Int32))]) rfl ?_
            show Steps p.tables e below (T66.setTop (mkF m 157 #[.val (.int a1), .val (.int a2), .val (.int a3), .val (.int a4), .val (.int (3 : Int32)), .val (.int v0), .val (.int v1), .val (.int v2), .val (.ref ar), .val (.ref mk), .val (.int (1 : Int32))] [])) _
            refine XS.iload X66.here hx rfl (hb hby at_157) rfl ?_
            show Steps p.tables e below (T66.setTop (mkF m 159 #[.val (.int a1), .val (.int a2), .val (.int a3), .val (.int a4), .val (.int (3 : Int32)), .val (.int v0), .val (.int v1), .val (.int v2), .val (.ref ar), .val (.ref mk), .val (.int (1 : Int32))] [(.int (3 : Int32))])) _
            refine XS.iconst X66.here hx rfl (hb hby at_159) ?_
            show Steps p.tables e below (T66.setTop (mkF m 160 #[.val (.int a1), .val (.int a2), .val (.int a3), .val (.int a4), .val (.int (3 : Int32)), .val (.int v0), .val (.int v1), .val (.int v2), .val (.ref ar), .val (.ref mk), .val (.int (1 : Int32))] [(.int (1 : Int32)), (.int (3 : Int32))])) _
            refine XS.icmpNo X66.here hx rfl (hb hby at_160) rfl (tlt (by decide)).2.2.2 ?_
            show Steps p.tables e below (T66.setTop (mkF m 163 #[.val (.int a1), .val (.int a2), .val (.int a3), .val (.int a4), .val (.int (3 : Int32)), .val (.int v0), .val (.int v1), .val (.int v2), .val (.ref ar), .val (.ref mk), .val (.int (1 : Int32))] [])) _
            refine XS.iload X66.here hx rfl (hb hby at_163) rfl ?_
            show Steps p.tables e below (T66.setTop (mkF m 165 #[.val (.int a1), .val (.int a2), .val (.int a3), .val (.int a4), .val (.int (3 : Int32)), .val (.int v0), .val (.int v1), .val (.int v2), .val (.ref ar), .val (.ref mk), .val (.int (1 : Int32))] [(.int (1 : Int32))])) _
            refine XS.ifNo X66.here hx rfl (hb hby at_165) rfl ((if0 _ _).trans (feq (by decide)).1) ?_
            show Steps p.tables e below (T66.setTop (mkF m 168 #[.val (.int a1), .val (.int a2), .val (.int a3), .val (.int a4), .val (.int (3 : Int32)), .val (.int v0), .val (.int v1), .val (.int v2), .val (.ref ar), .val (.ref mk), .val (.int (1 : Int32))] [])) _
            refine XS.aload X66.here hx rfl (hb hby at_168) rfl rfl ?_
            show Steps p.tables e below (T66.setTop (mkF m 170 #[.val (.int a1), .val (.int a2), .val (.int a3), .val (.int a4), .val (.int (3 : Int32)), .val (.int v0), .val (.int v1), .val (.int v2), .val (.ref ar), .val (.ref mk), .val (.int (1 : Int32))] [(.ref mk)])) _
            refine XS.iconst X66.here hx rfl (hb hby at_170) ?_
            show Steps p.tables e below (T66.setTop (mkF m 171 #[.val (.int a1), .val (.int a2), .val (.int a3), .val (.int a4), .val (.int (3 : Int32)), .val (.int v0), .val (.int v1), .val (.int v2), .val (.ref ar), .val (.ref mk), .val (.int (1 : Int32))] [(.int (1 : Int32)), (.ref mk)])) _
            refine st67.trans ?_
            show Steps p.tables e below (T67.setTop (mkF m 174 #[.val (.int a1), .val (.int a2), .val (.int a3), .val (.int a4), .val (.int (3 : Int32)), .val (.int v0), .val (.int v1), .val (.int v2), .val (.ref ar), .val (.ref mk), .val (.int (1 : Int32))] [(.int v1)])) _
            refine XS.iload X67.here hx rfl (hb hby at_174) rfl ?_
            show Steps p.tables e below (T67.setTop (mkF m 176 #[.val (.int a1), .val (.int a2), .val (.int a3), .val (.int a4), .val (.int (3 : Int32)), .val (.int v0), .val (.int v1), .val (.int v2), .val (.ref ar), .val (.ref mk), .val (.int (1 : Int32))] [(.int v1), (.int v1)])) _
            refine XS.icmpNo X67.here hx rfl (hb hby at_176) rfl (teq rfl).2 ?_
            show Steps p.tables e below (T67.setTop (mkF m 179 #[.val (.int a1), .val (.int a2), .val (.int a3), .val (.int a4), .val (.int (3 : Int32)), .val (.int v0), .val (.int v1), .val (.int v2), .val (.ref ar), .val (.ref mk), .val (.int (1 : Int32))] [])) _
            refine XS.iconst X67.here hx rfl (hb hby at_179) ?_
            show Steps p.tables e below (T67.setTop (mkF m 180 #[.val (.int a1), .val (.int a2), .val (.int a3), .val (.int a4), .val (.int (3 : Int32)), .val (.int v0), .val (.int v1), .val (.int v2), .val (.ref ar), .val (.ref mk), .val (.int (1 : Int32))] [(.int (1 : Int32))])) _
            refine XS.goto X67.here hx rfl (pc0 := 180) (pc' := 184) rfl (hb hby at_180) (by decide) (by decide) ?_
            show Steps p.tables e below (T67.setTop (mkF m 184 #[.val (.int a1), .val (.int a2), .val (.int a3), .val (.int a4), .val (.int (3 : Int32)), .val (.int v0), .val (.int v1), .val (.int v2), .val (.ref ar), .val (.ref mk), .val (.int (1 : Int32))] [(.int (1 : Int32))])) _
            refine XS.istore X67.here hx rfl (hb hby at_184) rfl (l' := #[.val (.int a1), .val (.int a2), .val (.int a3), .val (.int a4), .val (.int (3 : Int32)), .val (.int v0), .val (.int v1), .val (.int v2), .val (.ref ar), .val (.ref mk), .val (.int (1 : Int32))]) rfl ?_
            show Steps p.tables e below (T67.setTop (mkF m 186 #[.val (.int a1), .val (.int a2), .val (.int a3), .val (.int a4), .val (.int (3 : Int32)), .val (.int v0), .val (.int v1), .val (.int v2), .val (.ref ar), .val (.ref mk), .val (.int (1 : Int32))] [])) _
            refine XS.iload X67.here hx rfl (hb hby at_186) rfl ?_
            show Steps p.tables e below (T67.setTop (mkF m 188 #[.val (.int a1), .val (.int a2), .val (.int a3), .val (.int a4), .val (.int (3 : Int32)), .val (.int v0), .val (.int v1), .val (.int v2), .val (.ref ar), .val (.ref mk), .val (.int (1 : Int32))] [(.int (3 : Int32))])) _
            refine XS.iconst X67.here hx rfl (hb hby at_188) ?_
            show Steps p.tables e below (T67.setTop (mkF m 189 #[.val (.int a1), .val (.int a2), .val (.int a3), .val (.int a4), .val (.int (3 : Int32)), .val (.int v0), .val (.int v1), .val (.int v2), .val (.ref ar), .val (.ref mk), .val (.int (1 : Int32))] [(.int (2 : Int32)), (.int (3 : Int32))])) _
            refine XS.icmpNo X67.here hx rfl (hb hby at_189) rfl (tlt (by decide)).2.2.2 ?_
            show Steps p.tables e below (T67.setTop (mkF m 192 #[.val (.int a1), .val (.int a2), .val (.int a3), .val (.int a4), .val (.int (3 : Int32)), .val (.int v0), .val (.int v1), .val (.int v2), .val (.ref ar), .val (.ref mk), .val (.int (1 : Int32))] [])) _
            refine XS.iload X67.here hx rfl (hb hby at_192) rfl ?_
            show Steps p.tables e below (T67.setTop (mkF m 194 #[.val (.int a1), .val (.int a2), .val (.int a3), .val (.int a4), .val (.int (3 : Int32)), .val (.int v0), .val (.int v1), .val (.int v2), .val (.ref ar), .val (.ref mk), .val (.int (1 : Int32))] [(.int (1 : Int32))])) _
            refine XS.ifNo X67.here hx rfl (hb hby at_194) rfl ((if0 _ _).trans (feq (by decide)).1) ?_
            show Steps p.tables e below (T67.setTop (mkF m 197 #[.val (.int a1), .val (.int a2), .val (.int a3), .val (.int a4), .val (.int (3 : Int32)), .val (.int v0), .val (.int v1), .val (.int v2), .val (.ref ar), .val (.ref mk), .val (.int (1 : Int32))] [])) _
            refine XS.aload X67.here hx rfl (hb hby at_197) rfl rfl ?_
            show Steps p.tables e below (T67.setTop (mkF m 199 #[.val (.int a1), .val (.int a2), .val (.int a3), .val (.int a4), .val (.int (3 : Int32)), .val (.int v0), .val (.int v1), .val (.int v2), .val (.ref ar), .val (.ref mk), .val (.int (1 : Int32))] [(.ref mk)])) _
            refine XS.iconst X67.here hx rfl (hb hby at_199) ?_
            show Steps p.tables e below (T67.setTop (mkF m 200 #[.val (.int a1), .val (.int a2), .val (.int a3), .val (.int a4), .val (.int (3 : Int32)), .val (.int v0), .val (.int v1), .val (.int v2), .val (.ref ar), .val (.ref mk), .val (.int (1 : Int32))] [(.int (2 : Int32)), (.ref mk)])) _
            refine st68.trans ?_
            show Steps p.tables e below (T68.setTop (mkF m 203 #[.val (.int a1), .val (.int a2), .val (.int a3), .val (.int a4), .val (.int (3 : Int32)), .val (.int v0), .val (.int v1), .val (.int v2), .val (.ref ar), .val (.ref mk), .val (.int (1 : Int32))] [(.int v2)])) _
            refine XS.iload X68.here hx rfl (hb hby at_203) rfl ?_
            show Steps p.tables e below (T68.setTop (mkF m 205 #[.val (.int a1), .val (.int a2), .val (.int a3), .val (.int a4), .val (.int (3 : Int32)), .val (.int v0), .val (.int v1), .val (.int v2), .val (.ref ar), .val (.ref mk), .val (.int (1 : Int32))] [(.int v2), (.int v2)])) _
            refine XS.icmpNo X68.here hx rfl (hb hby at_205) rfl (teq rfl).2 ?_
            show Steps p.tables e below (T68.setTop (mkF m 208 #[.val (.int a1), .val (.int a2), .val (.int a3), .val (.int a4), .val (.int (3 : Int32)), .val (.int v0), .val (.int v1), .val (.int v2), .val (.ref ar), .val (.ref mk), .val (.int (1 : Int32))] [])) _
            refine XS.iconst X68.here hx rfl (hb hby at_208) ?_
            show Steps p.tables e below (T68.setTop (mkF m 209 #[.val (.int a1), .val (.int a2), .val (.int a3), .val (.int a4), .val (.int (3 : Int32)), .val (.int v0), .val (.int v1), .val (.int v2), .val (.ref ar), .val (.ref mk), .val (.int (1 : Int32))] [(.int (1 : Int32))])) _
            refine XS.goto X68.here hx rfl (pc0 := 209) (pc' := 213) rfl (hb hby at_209) (by decide) (by decide) ?_
            show Steps p.tables e below (T68.setTop (mkF m 213 #[.val (.int a1), .val (.int a2), .val (.int a3), .val (.int a4), .val (.int (3 : Int32)), .val (.int v0), .val (.int v1), .val (.int v2), .val (.ref ar), .val (.ref mk), .val (.int (1 : Int32))] [(.int (1 : Int32))])) _
            refine XS.istore X68.here hx rfl (hb hby at_213) rfl (l' := #[.val (.int a1), .val (.int a2), .val (.int a3), .val (.int a4), .val (.int (3 : Int32)), .val (.int v0), .val (.int v1), .val (.int v2), .val (.ref ar), .val (.ref mk), .val (.int (1 : Int32))]) rfl ?_
            show Steps p.tables e below (T68.setTop (mkF m 215 #[.val (.int a1), .val (.int a2), .val (.int a3), .val (.int a4), .val (.int (3 : Int32)), .val (.int v0), .val (.int v1), .val (.int v2), .val (.ref ar), .val (.ref mk), .val (.int (1 : Int32))] [])) _
            refine XS.iload X68.here hx rfl (hb hby at_215) rfl ?_
            show Steps p.tables e below (T68.setTop (mkF m 217 #[.val (.int a1), .val (.int a2), .val (.int a3), .val (.int a4), .val (.int (3 : Int32)), .val (.int v0), .val (.int v1), .val (.int v2), .val (.ref ar), .val (.ref mk), .val (.int (1 : Int32))] [(.int (1 : Int32))])) _
            exact retN X68 hx (t := .boolean) Bd.returns (by simp) (hb hby at_217) hr
          · show own_Q0 Z a1 a2 a3 a4 h0 n0 _ T68.heap _
            rw [eq68]
            exact ⟨rfl, N68⟩
        case neg =>
          exact (own_nn a1 (hd_nn ▸ hv10_0) (hd_nn ▸ hv10_1) (hd_nn ▸ hv10_2) (hd_nn ▸ hv10_3)).elim
set_option maxRecDepth 65536 in
set_option maxHeartbeats 40000000 in
theorem own_comes {Post : Tables → Env → Array Value → State → Outcome → State → Prop} (hpost : ∀ tb e args s v u, (limb_1_1.after args s (.returned v) u = true ∧ limb_1_2.after args s (.returned v) u = true ∧ True) → FrameEnd s (.returned v) u (Jvm.fieldLocs frame_1_writes args s ++ Jvm.arrayLocs frame_1_arrays args s ++ Jvm.staticLocs frame_1_statics s) 16 128 → Post tb e args s (.returned v) u) :
    ArmFor flags0 classFile x code maxLocals ret World_1 tables_1 room_1 Calls_1 rest_1 Pre_1 Post := by
  intro l hfl _ _ p e ha hc hk s m args below hf hA hF happ hP
  obtain ⟨hcalls, hrest, hpre⟩ := hP
  obtain ⟨-, -, -, hnamed, -, -, -, hat⟩ := (Spec.applies_iff hf).mp happ
  obtain ⟨hg, hn⟩ := and_e (Cond.before_iff.mp (show (Jvm.Cond.and given_1 narrow_1).before args s = true from hpre))
  obtain ⟨gc, ga0⟩ := and_e hg
  obtain ⟨gv0, ga1⟩ := and_e ga0
  obtain ⟨gv1, ga2⟩ := and_e ga1
  obtain ⟨gv2, ga3⟩ := and_e ga2
  obtain ⟨w0, w1, w2, w3, rfl⟩ : ∃ w0 w1 w2 w3 : Value, args = #[w0, w1, w2, w3] := by
    have hs : args.size = 4 := by simpa [Cond.value, given_1] using gc
    obtain ⟨L⟩ := args
    match L, hs with
    | [w0, w1, w2, w3], _ => exact ⟨w0, w1, w2, w3, rfl⟩
  have hw := fun d (hd : d ∈ tables_1) => atoms_spec (ws := Jvm.Cond.code x code maxLocals ret :: tables_1) hat d (List.mem_cons_of_mem _ hd)
  obtain ⟨i0, ei0⟩ := is_v gv0
  obtain rfl : w0 = (.int i0) := Option.some.inj ei0
  obtain ⟨i1, ei1⟩ := is_v gv1
  obtain rfl : w1 = (.int i1) := Option.some.inj ei1
  obtain ⟨i2, ei2⟩ := is_v gv2
  obtain rfl : w2 = (.int i2) := Option.some.inj ei2
  obtain ⟨i3, ei3⟩ := is_v ga3
  obtain rfl : w3 = (.int i3) := Option.some.inj ei3
  obtain ⟨n, o, h1, h2, h3, _, L, rfl, ⟨rfl, N⟩, hq⟩ := own_rm0 l s _ hw tables_1 i0 i1 i2 i3 s.heap s.heap.size (Nat.le_refl _) p e ha hc hk s m _ below hf ((Spec.applies_iff_loose hf).mp happ).1 ⟨rfl, State.Warmed39.refl s, rfl⟩ trivial
  refine ⟨n, _, h1, h2, h3, hpost _ _ _ _ _ _ ⟨Cond.after_iff.mpr rfl, Cond.after_iff.mpr (eq_i res_at (Term.int_eval (1)) rfl), trivial⟩ ⟨hq.1, hq.2.1, (hq.2.2.sift fun y hy => Or.inr (N y hy)).mono (by decide) (by decide)⟩⟩
theorem main_1_1 : Claimed_1_1 := own_comes fun _ _ _ _ _ _ h hF => ⟨h.1, hF⟩
theorem main_1_2 : Claimed_1_2 := own_comes fun _ _ _ _ _ _ h hF => ⟨h.2.1, hF⟩
end Jvm.Pilot.@@N@@
namespace Jvm.Pilot.@@N@@
open Jvm Jvm.ClassFile Sem Op Lib Jvm.Free Jvm.Stand Jvm.Pilot.@@N@@.Jvm.D
/-! MADE BY PROGRAM (witnessworld.py) out of the Statement's table words and the real class files: 9 classes; the members and pool entries that the words name. The judged class is class 1, her method 1. -/
namespace start1
open Jvm.ClassFile
def u (s : String) : CpInfo := .utf8 (stringToUtf16 s)
/-- a pool by its gaps: so many unusable entries, then the entry; so many at the end -/
def gap : Nat → List CpInfo → List CpInfo
  | 0, r => r
  | n + 1, r => .unusable :: gap n r
def poolList (es : List (Nat × CpInfo)) (last : Nat) : List CpInfo := es.foldr (fun e r => gap e.1 (e.2 :: r)) (gap last [])
def pool (es : List (Nat × CpInfo)) (last : Nat) : Array CpInfo := ⟨poolList es last⟩
def fileOf (pool : Array CpInfo) (this : Nat) (attrs : Array Attribute := #[]) (ms : Array MethodInfo := #[]) (fl : Nat := 33) (sup : Nat := 0) (ifs : Array Nat := #[]) (fds : Array FieldInfo := #[]) : ClassFile where
  minorVersion := 0
  majorVersion := 65
  constantPool := pool
  accessFlags := fl
  thisClass := this
  superClass := sup
  interfaces := ifs
  fields := fds
  methods := ms
  attributes := attrs
def plain (name : String) (sup : Option ClassId) : Class where
  name := name
  kind := .ordinary
  loader := none
  accessFlags := 33
  super := sup
  interfaces := #[]
  cf := none
  fields := #[]
  methods := #[]
  instanceTypes := #[]
  staticTypes := #[]
  resolved := #[]
  callSites := []
  init := .initialized
  statics := none
  mirror := none

def pool0 : Array CpInfo := pool [(5, u "<init>"), (0, u "()V"), (1, .class_ 10), (1, u "java/lang/Object"), (85, u "clone"), (0, u "()Ljava/lang/Object;")] 26

def k0c0 : Code := { maxStack := 0, maxLocals := 1, code := object_method_1_code, exceptionTable := #[], attributes := #[] }
def k0m0 : Method := { name := "<init>", desc := "()V", sig := { parameters := [], returnType := none }, accessFlags := 1, code := some k0c0 }
def k0m1 : Method := { name := "clone", desc := "()Ljava/lang/Object;", sig := { parameters := [], returnType := some (.object "java/lang/Object") }, accessFlags := 260, code := none }
/-- java/lang/Object -/
def k0 : Class := { plain "java/lang/Object" none with
  accessFlags := 33
  interfaces := #[]
  cf := some (fileOf pool0 8 #[] #[{ accessFlags := 1, nameIndex := 5, descriptorIndex := 6, attributes := #[] }, { accessFlags := 260, nameIndex := 96, descriptorIndex := 97, attributes := #[] }] 33 0 #[] #[])
  fields := #[]
  methods := #[k0m0, k0m1]
  instanceTypes := #[]
  staticTypes := #[]
  resolved := Array.replicate 124 none
  statics := none }

def pool1 : Array CpInfo := pool [(2, .class_ 4), (1, u "java/lang/Object"), (0, u "<init>"), (0, u "()V"), (0, .integer 2147483647), (0, .methodref 9 10), (0, .class_ 11), (0, .nameAndType 12 13), (0, u "com/example/intervals_to_classes/intervalstoclasses/net/Marking"), (0, u "of"), (0, u "([I)Lcom/example/intervals_to_classes/intervalstoclasses/net/Marking;"), (0, .methodref 9 15), (0, .nameAndType 16 17), (0, u "size"), (0, u "()I"), (0, .methodref 9 19), (0, .nameAndType 20 21), (0, u "tokens"), (0, u "(I)I"), (0, .class_ 23), (0, u "com/example/intervals_to_classes/intervalstoclasses/net/MarkingOfPinLaw"), (2, u "law"), (0, u "(IIII)Z")] 5

def k1m0 : Method := { name := "<init>", desc := "()V", sig := { parameters := [], returnType := none }, accessFlags := 1, code := none }
def k1c1 : Code := { maxStack := 4, maxLocals := 11, code := code, exceptionTable := #[], attributes := #[] }
def k1m1 : Method := { name := "law", desc := "(IIII)Z", sig := { parameters := [.int, .int, .int, .int], returnType := some .boolean }, accessFlags := 9, code := some k1c1 }
/-- com/example/intervals_to_classes/intervalstoclasses/net/MarkingOfPinLaw -/
def k1 : Class := { plain "com/example/intervals_to_classes/intervalstoclasses/net/MarkingOfPinLaw" (some 0) with
  accessFlags := 49
  interfaces := #[]
  cf := some (fileOf pool1 22 #[] #[{ accessFlags := 1, nameIndex := 5, descriptorIndex := 6, attributes := #[] }, { accessFlags := 9, nameIndex := 26, descriptorIndex := 27, attributes := #[] }] 49 2 #[] #[])
  fields := #[]
  methods := #[k1m0, k1m1]
  instanceTypes := #[]
  staticTypes := #[]
  resolved := Array.replicate 33 none
  statics := none }

def pool2 : Array CpInfo := pool [(1, .methodref 2 3), (0, .class_ 4), (0, .nameAndType 5 6), (0, u "java/lang/Object"), (0, u "<init>"), (0, u "()V"), (0, .fieldref 8 9), (0, .class_ 10), (0, .nameAndType 11 12), (0, u "com/example/intervals_to_classes/intervalstoclasses/net/Marking"), (0, u "tokens"), (0, u "[I"), (9, .methodref 23 24), (0, .class_ 12), (0, .nameAndType 25 26), (0, u "clone"), (0, u "()Ljava/lang/Object;"), (0, .methodref 8 28), (0, .nameAndType 5 29), (0, u "([I)V"), (52, u "()I"), (30, u "of"), (0, u "([I)Lcom/example/intervals_to_classes/intervalstoclasses/net/Marking;"), (1, u "size"), (0, u "(I)I")] 49

def k2c0 : Code := { maxStack := 2, maxLocals := 2, code := prog_2_method_1_code, exceptionTable := #[], attributes := #[] }
def k2m0 : Method := { name := "<init>", desc := "([I)V", sig := { parameters := [(.array .int)], returnType := none }, accessFlags := 2, code := some k2c0 }
def k2c1 : Code := { maxStack := 3, maxLocals := 5, code := prog_2_method_2_code, exceptionTable := #[], attributes := #[] }
def k2m1 : Method := { name := "of", desc := "([I)Lcom/example/intervals_to_classes/intervalstoclasses/net/Marking;", sig := { parameters := [(.array .int)], returnType := some (.object "com/example/intervals_to_classes/intervalstoclasses/net/Marking") }, accessFlags := 137, code := some k2c1 }
def k2c2 : Code := { maxStack := 1, maxLocals := 1, code := prog_2_method_3_code, exceptionTable := #[], attributes := #[] }
def k2m2 : Method := { name := "size", desc := "()I", sig := { parameters := [], returnType := some .int }, accessFlags := 1, code := some k2c2 }
def k2c3 : Code := { maxStack := 2, maxLocals := 2, code := prog_2_method_4_code, exceptionTable := #[], attributes := #[] }
def k2m3 : Method := { name := "tokens", desc := "(I)I", sig := { parameters := [.int], returnType := some .int }, accessFlags := 1, code := some k2c3 }
/-- com/example/intervals_to_classes/intervalstoclasses/net/Marking -/
def k2 : Class := { plain "com/example/intervals_to_classes/intervalstoclasses/net/Marking" (some 0) with
  accessFlags := 33
  interfaces := #[]
  cf := some (fileOf pool2 8 #[] #[{ accessFlags := 2, nameIndex := 5, descriptorIndex := 29, attributes := #[] }, { accessFlags := 137, nameIndex := 113, descriptorIndex := 114, attributes := #[] }, { accessFlags := 1, nameIndex := 116, descriptorIndex := 82, attributes := #[] }, { accessFlags := 1, nameIndex := 11, descriptorIndex := 117, attributes := #[] }] 33 2 #[] #[{ accessFlags := 18, nameIndex := 11, descriptorIndex := 12, attributes := #[] }])
  fields := #[{ name := "tokens", type := (.array .int), accessFlags := 18, slot := 0, constantValue := 0 }]
  methods := #[k2m0, k2m1, k2m2, k2m3]
  instanceTypes := #[(.array .int)]
  staticTypes := #[]
  resolved := Array.replicate 167 none
  statics := none }

def pool3 : Array CpInfo := pool [(1, .class_ 2), (0, u "java/lang/Cloneable"), (0, .class_ 4), (0, u "java/lang/Object")] 2

/-- java/lang/Cloneable -/
def k3 : Class := { plain "java/lang/Cloneable" (some 0) with
  accessFlags := 1537
  interfaces := #[]
  cf := some (fileOf pool3 1 #[] #[] 1537 3 #[] #[])
  fields := #[]
  methods := #[]
  instanceTypes := #[]
  staticTypes := #[]
  resolved := Array.replicate 7 none
  statics := none }

def pool4 : Array CpInfo := pool [(1, u "java/io/Serializable"), (0, .class_ 1), (0, u "java/lang/Object"), (0, .class_ 3)] 3

/-- java/io/Serializable -/
def k4 : Class := { plain "java/io/Serializable" (some 0) with
  accessFlags := 1537
  interfaces := #[]
  cf := some (fileOf pool4 2 #[] #[] 1537 4 #[] #[])
  fields := #[]
  methods := #[]
  instanceTypes := #[]
  staticTypes := #[]
  resolved := Array.replicate 8 none
  statics := none }

/-- the primitive byte -/
def k5 : Class := { plain "byte" none with kind := .primitive 'B', accessFlags := 0x411 }
/-- [B -/
def k6 : Class := { plain "[B" (some 0) with kind := .array 5 .byte, interfaces := #[3, 4], accessFlags := 1041 }

/-- the primitive int -/
def k7 : Class := { plain "int" none with kind := .primitive 'I', accessFlags := 0x411 }
/-- [I -/
def k8 : Class := { plain "[I" (some 0) with kind := .array 7 .int, interfaces := #[3, 4], accessFlags := 1041 }

def heap : Heap := #[]
def classes : Array Class := #[k0, k1, k2, k3, k4, k5, k6, k7, k8]
def interned : List (Array UInt16 × Addr) := []
def slotsUsed : Nat := 0
def theMethod : MethodId := ⟨1, 1⟩
def args0 : Array Value := #[.int 2, .int 6, .int 7, .int 3]
def aboutOver (below : List Frame) : State where
  vm := { classes := classes, interned := interned.toArray }
  heap := heap
  slotsUsed := slotsUsed
  threads := #[{ frames := .invoking theMethod args0 :: below }]
def below0 : List Frame := [.native { method := ⟨0, 0⟩, args := #[] }]
def about1 : State := aboutOver below0
def p0 : Program := .bare "" "" ""
def e0 : Env := launch0.env 0 0 0
theorem w_frames : about1.frames = Frame.invoking theMethod args0 :: below0 := rfl
set_option maxRecDepth 65536 in
theorem w_args : argsFit about1.vm theMethod args0 = true := by decide +kernel
set_option maxRecDepth 65536 in
theorem w_heap : heapFits about1 = true := by decide +kernel
set_option maxRecDepth 65536 in
theorem w_runnable : about1.curStatus? = some .runnable := by decide +kernel
set_option maxRecDepth 65536 in
theorem w_alone : about1.alone = true := by decide +kernel
set_option maxRecDepth 65536 in
theorem w_named : about1.methodNamed? x = some theMethod := by decide +kernel
set_option maxRecDepth 65536 in
theorem w_hears : about1.hears theMethod below0 = true := by decide +kernel
set_option maxRecDepth 65536 in
theorem w_ripe : about1.ripe theMethod args0 below0 = true := by decide +kernel
theorem w_running : about1.status = .running := rfl
set_option maxRecDepth 65536 in
theorem w_room : about1.hasRoom e0.platform room_1 = true :=
  launch0.hasRoom_least _ room_1 (by decide +kernel) (by decide +kernel) (by decide +kernel) (by decide +kernel) (by decide +kernel) (by decide +kernel)
theorem allAtoms_all (ts : List Jvm.Cond) (a : Array Jvm.Value) (st : Jvm.State) : (allAtoms ts).before a st = ts.all (fun c => c.before a st) := by
  induction ts with
  | nil => rfl
  | cons c t ih =>
    show (Jvm.Cond.and c (allAtoms t)).before a st = _
    rw [Jvm.Cond.before_and, ih, List.all_cons]
def words1 : List Jvm.Cond := Jvm.Cond.code x code maxLocals ret :: tables_1
/-- a 'code' word, met by the world's own term for the bytes: nothing is compared byte by byte -/
theorem code_word {y : MethodName} {bytes : ByteArray} {mx : Nat} {rt : Option FieldType} {a : Array Value} {s : State} {m : MethodId} {meth : Method} {c : Code} (h1 : s.methodNamed? y = some m) (h2 : s.vm.method? m = some meth) (h3 : meth.code = some c) (h4 : c.code = bytes)
    (h5 : (c.maxLocals == mx && c.exceptionTable.isEmpty && decide (c.maxStack ≤ mostOperands) && decide (meth.sig.returnType = rt) && !meth.locks && decide (parseMethodDescriptor y.desc = some meth.sig)) = true) : (Jvm.Cond.code y bytes mx rt).before a s = true := by
  simp only [Bool.and_eq_true, beq_iff_eq, Bool.not_eq_true', decide_eq_true_eq] at h5
  obtain ⟨⟨⟨⟨⟨g1, g2⟩, g3⟩, g4⟩, g5⟩, g6⟩ := h5
  simp [Cond.before, Cond.holds, Cond.value, h1, h2, h3, h4, g1, g2, g3, g4, g5, g6]
def isCode : Jvm.Cond → Bool
  | .code _ _ _ _ => true
  | _ => false
theorem all_split {L : List Jvm.Cond} {P : Jvm.Cond → Bool} (h1 : L.all (fun c => isCode c || P c) = true) (h2 : ∀ c ∈ L.filter isCode, P c = true) : L.all P = true := by
  refine List.all_eq_true.mpr fun c hc => ?_
  have h := List.all_eq_true.mp h1 c hc
  rcases Bool.eq_false_or_eq_true (isCode c) with hi | hi
  · exact h2 c (List.mem_filter.mpr ⟨hc, hi⟩)
  · simpa [hi] using h
set_option maxRecDepth 65536 in
theorem w_c0 : (Jvm.Cond.code x code maxLocals ret).before args0 about1 = true := code_word (m := ⟨1, 1⟩) (meth := k1m1) (c := k1c1) (by decide +kernel) rfl rfl rfl (by decide +kernel)
set_option maxRecDepth 65536 in
theorem w_c1 : (Jvm.Cond.code ({ cls := "com/example/intervals_to_classes/intervalstoclasses/net/Marking", name := "of", desc := "([I)Lcom/example/intervals_to_classes/intervalstoclasses/net/Marking;" } : Jvm.MethodName) prog_2_method_2_code (5 : Nat) (Option.some (Jvm.ClassFile.FieldType.object "com/example/intervals_to_classes/intervalstoclasses/net/Marking"))).before args0 about1 = true := code_word (m := ⟨2, 1⟩) (meth := k2m1) (c := k2c1) (by decide +kernel) rfl rfl rfl (by decide +kernel)
set_option maxRecDepth 65536 in
theorem w_c2 : (Jvm.Cond.code ({ cls := "com/example/intervals_to_classes/intervalstoclasses/net/Marking", name := "<init>", desc := "([I)V" } : Jvm.MethodName) prog_2_method_1_code (2 : Nat) (Option.none : Option Jvm.ClassFile.FieldType)).before args0 about1 = true := code_word (m := ⟨2, 0⟩) (meth := k2m0) (c := k2c0) (by decide +kernel) rfl rfl rfl (by decide +kernel)
set_option maxRecDepth 65536 in
theorem w_c3 : (Jvm.Cond.code ({ cls := "java/lang/Object", name := "<init>", desc := "()V" } : Jvm.MethodName) object_method_1_code (1 : Nat) (Option.none : Option Jvm.ClassFile.FieldType)).before args0 about1 = true := code_word (m := ⟨0, 0⟩) (meth := k0m0) (c := k0c0) (by decide +kernel) rfl rfl rfl (by decide +kernel)
set_option maxRecDepth 65536 in
theorem w_c4 : (Jvm.Cond.code ({ cls := "com/example/intervals_to_classes/intervalstoclasses/net/Marking", name := "size", desc := "()I" } : Jvm.MethodName) prog_2_method_3_code (1 : Nat) (Option.some Jvm.ClassFile.FieldType.int)).before args0 about1 = true := code_word (m := ⟨2, 2⟩) (meth := k2m2) (c := k2c2) (by decide +kernel) rfl rfl rfl (by decide +kernel)
set_option maxRecDepth 65536 in
theorem w_c5 : (Jvm.Cond.code ({ cls := "com/example/intervals_to_classes/intervalstoclasses/net/Marking", name := "tokens", desc := "(I)I" } : Jvm.MethodName) prog_2_method_4_code (2 : Nat) (Option.some Jvm.ClassFile.FieldType.int)).before args0 about1 = true := code_word (m := ⟨2, 3⟩) (meth := k2m3) (c := k2c3) (by decide +kernel) rfl rfl rfl (by decide +kernel)
def codes1 : List Jvm.Cond := [Jvm.Cond.code x code maxLocals ret, Jvm.Cond.code ({ cls := "com/example/intervals_to_classes/intervalstoclasses/net/Marking", name := "of", desc := "([I)Lcom/example/intervals_to_classes/intervalstoclasses/net/Marking;" } : Jvm.MethodName) prog_2_method_2_code (5 : Nat) (Option.some (Jvm.ClassFile.FieldType.object "com/example/intervals_to_classes/intervalstoclasses/net/Marking")), Jvm.Cond.code ({ cls := "com/example/intervals_to_classes/intervalstoclasses/net/Marking", name := "<init>", desc := "([I)V" } : Jvm.MethodName) prog_2_method_1_code (2 : Nat) (Option.none : Option Jvm.ClassFile.FieldType), Jvm.Cond.code ({ cls := "java/lang/Object", name := "<init>", desc := "()V" } : Jvm.MethodName) object_method_1_code (1 : Nat) (Option.none : Option Jvm.ClassFile.FieldType), Jvm.Cond.code ({ cls := "com/example/intervals_to_classes/intervalstoclasses/net/Marking", name := "size", desc := "()I" } : Jvm.MethodName) prog_2_method_3_code (1 : Nat) (Option.some Jvm.ClassFile.FieldType.int), Jvm.Cond.code ({ cls := "com/example/intervals_to_classes/intervalstoclasses/net/Marking", name := "tokens", desc := "(I)I" } : Jvm.MethodName) prog_2_method_4_code (2 : Nat) (Option.some Jvm.ClassFile.FieldType.int)]
set_option maxRecDepth 65536 in
theorem codes_eq : words1.filter isCode = codes1 := rfl
theorem w_codes : ∀ c ∈ words1.filter isCode, c.before args0 about1 = true := by
  rw [codes_eq]
  intro c hc
  simp only [codes1, List.mem_cons, List.not_mem_nil, or_false] at hc
  rcases hc with rfl | rfl | rfl | rfl | rfl | rfl
  · exact w_c0
  · exact w_c1
  · exact w_c2
  · exact w_c3
  · exact w_c4
  · exact w_c5
set_option maxRecDepth 65536 in
theorem w_t1 : (words1.take 24).all (fun c => isCode c || c.before args0 about1) = true := by decide +kernel
set_option maxRecDepth 65536 in
theorem w_t2 : (words1.drop 24).all (fun c => isCode c || c.before args0 about1) = true := by decide +kernel
theorem w_tables : (allAtoms (Jvm.Cond.code x code maxLocals ret :: tables_1)).before args0 about1 = true := by
  rw [allAtoms_all]
  show words1.all (fun c => c.before args0 about1) = true
  refine all_split ?_ w_codes
  rw [← List.take_append_drop 24 words1, List.all_append, w_t1, w_t2]
  rfl
set_option maxRecDepth 65536 in
theorem w_case : (Jvm.Cond.and given_1 narrow_1).before args0 about1 = true := by decide +kernel
theorem w_applies : (headSpec (Jvm.Cond.code x code maxLocals ret :: tables_1) room_1).applies x e0.platform about1 = true :=
  (Spec.applies_iff w_frames).mpr ⟨w_running, w_runnable, w_alone, w_named, w_hears, w_ripe, w_room, w_tables⟩
theorem atStart : AtStart classFile x code maxLocals ret World_1 tables_1 room_1 Calls_1 rest_1 Pre_1 launch0 p0 e0 about1 theMethod args0 below0 :=
  ⟨lists_1, trivial, launch0.admits_env _ _ _, launch0.least_env, fairChoices_fair.cas, fairChoices_fair.clock, w_frames, w_args, w_heap, w_applies, trivial, trivial, w_case⟩
end start1
theorem witness_1 : WitnessClaimed_1 := ⟨start1.p0, start1.e0, start1.about1, start1.theMethod, start1.args0, start1.below0, start1.atStart⟩
end Jvm.Pilot.@@N@@
