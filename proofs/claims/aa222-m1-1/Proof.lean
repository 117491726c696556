import JvmDerived
import JvmDerived.Pilot.@@N@@Statement
import JvmDerived.Pilot.@@N@@Code
set_option linter.unusedVariables false
set_option linter.unusedSimpArgs false
namespace Jvm.RoadKit
open Sem ClassFile Op Lib Jvm.Stand Jvm.Free Jvm.LawKit
section New
variable {p : Program} {l : Launch} {e : Env} {R : Room} {s : State} {m : MethodId} {args : Array Value} {below : List Frame} {meth : Method} {c : Code} {T : State} {locs : List Loc} {cells slots : Nat}
theorem retI (X : Stand p l e R s m args below meth c T locs cells slots) (hx : p.tables.exec = Jvm.exec) {pc : Nat} {Ls : Array Slot} {z : Int32} {rest : List Value} (hret : meth.sig.returnType = some .int) (hd : decode c.code pc = .ok (.ireturn, 1)) {fs : List Frame}
    (hl : ∀ (f : JFrame) (acts : List Action), f.method = m → f.locked = none → f.entered = [] → (doReturn e (T.setTop f) acts (some (.int z))).1 = T.setFrames fs) : Steps p.tables e below (T.setTop (mkF m pc Ls (.int z :: rest))) (T.setFrames fs) := by
  have hm' : T.vm.method? m = some meth := X.method'
  have hn : narrow .int (.int z) = .int z := rfl
  show Steps p.tables e below (T.setTop { method := m, pc := pc, locals := Ls, stack := _ :: rest, locked := none }) _
  jvm_step X.here [X.here.top, hx, hd, hm', hret, hn]
  first | (intro acts; rw [hl _ acts rfl rfl rfl]) | rw [hl _ _ rfl rfl rfl]
  exact Steps.refl _
end New
end Jvm.RoadKit
namespace Jvm.Pilot.@@N@@
open Jvm Jvm.ClassFile Sem Op Lib Jvm.Free Jvm.Stand Jvm.LawKit Jvm.RoadKit Bundle Jvm.Pilot.@@N@@.Jvm.D
section OwnKit
variable {p : Program} {l : Launch} {e : Env} {R : Room} {s : State} {m : MethodId} {args : Array Value} {below : List Frame} {meth : Method} {c : Code} {T : State} {locs : List Loc} {cells slots : Nat} {Z : State} {h h' : Heap} {a b : Addr} {ty : FieldType} {n : Nat} {f : Nat → Value}
/-- an array by its length and the value at each place -/
def own_AF (Z : State) (h : Heap) (a : Addr) (ty : FieldType) (n : Nat) (f : Nat → Value) : Prop := ∃ c : Cell, Arr Z h a c ty ∧ c.slots.size = n ∧ n < 2 ^ 31 ∧ ∀ i, i < n → c.slots[i]? = some (f i)
theorem own_AF.lt (F : own_AF Z h a ty n f) : a < h.size := by obtain ⟨c, A, -⟩ := F; exact A.lt
theorem own_AF.ext (F : own_AF Z h a ty n f) (E : Ext h h') : own_AF Z h' a ty n f := by obtain ⟨c, A, r⟩ := F; exact ⟨c, A.ext E, r⟩
theorem own_AF.other {sl : Nat} {v : Value} (F : own_AF Z h b ty n f) (W : Wr h h' a sl v) (q : b ≠ a) : own_AF Z h' b ty n f := by obtain ⟨c, A, r⟩ := F; exact ⟨c, A.other W q, r⟩
theorem own_AF.keep {ws : List Addr} (F : own_AF Z h a ty n f) (K : Keep h h' ws) (q : a ∉ ws) : own_AF Z h' a ty n f := by obtain ⟨c, A, r⟩ := F; exact ⟨c, ⟨K.2.1 a c A.1 q, A.2⟩, r⟩
theorem own_AF.congr {g : Nat → Value} (F : own_AF Z h a ty n f) (q : ∀ i, i < n → f i = g i) : own_AF Z h a ty n g := by
  obtain ⟨c, A, r1, r2, r3⟩ := F; exact ⟨c, A, r1, r2, fun i hi => by rw [r3 i hi, q i hi]⟩
theorem own_AF.set {j : Nat} {v : Value} (F : own_AF Z h a ty n f) (W : Wr h h' a j v) : own_AF Z h' a ty n (fun i => if i = j then v else f i) := by
  obtain ⟨c, A, r1, r2, r3⟩ := F
  obtain ⟨cb', q1, q2, q3, q4, -, q6, q7⟩ := wr_at W A.1
  obtain ⟨e1, e2, -⟩ := q7 rfl
  refine ⟨_, A.same W, ?_, r2, fun i hi => ?_⟩
  · rw [sz_set]; exact r1
  · rw [← e1]
    by_cases hij : i = j
    · subst hij; simp only [if_true]; exact e2
    · rw [q6 i hij, r3 i hi]; simp only [hij, if_false]
theorem own_AF.new {k : ClassId} {z : Int32} {d : Value} (A : Arr Z h a (newA k ty z) ty) (q : ¬ z < 0) (hn : z.toNatClampNeg = n) (hd : defaultValue ty = d := by rfl) : own_AF Z h a ty n (fun _ => d) := by
  subst hn
  refine ⟨_, A, sz_new _ _ _, (back32 q).2, fun i hi => ?_⟩
  simp [newA, hi, hd]
theorem own_AF.inb {c : Cell} {j : Int32} {k : Nat} (S : c.slots.size = n) (h1 : ¬ j < 0) (hk : j.toNatClampNeg = k) (h2 : k < n) : ¬ (j < 0 ∨ c.slots.size ≤ j.toNatClampNeg) := by
  rw [S, hk]; exact fun q => q.elim h1 fun q => by omega
theorem own_ldI (X : Stand p l e R s m args below meth c T locs cells slots) (hx : p.tables.exec = Jvm.exec) (hZ : Z.Warmed39 s.vm) (eT : T.heap = h) (A : own_AF Z h a .int n f) {j : Int32} (h1 : ¬ j < 0) {k : Nat} (hk : j.toNatClampNeg = k) (h2 : k < n) {v : Value} (hv : f k = v)
    {g : JFrame} (hg : g.method = m) {rest : List Value} (hs : g.stack = .int j :: .ref a :: rest) (hd : decode c.code g.pc = .ok (.iaload, 1)) (target : State)
    (hr : Steps p.tables e below (T.setTop { g with pc := g.pc + 1, stack := v :: rest }) target) : Steps p.tables e below (T.setTop g) target := by
  obtain ⟨cl, A, r1, r2, r3⟩ := A
  exact X.iaload hx (by rw [eT]; exact A.1) (State.isArrayOf_alike hZ.alike A.2.1) A.2.2 (own_AF.inb r1 h1 hk h2) (by rw [hk, ← hv]; exact r3 k h2) hg hs hd _ hr
theorem own_ldJ (X : Stand p l e R s m args below meth c T locs cells slots) (hx : p.tables.exec = Jvm.exec) (hZ : Z.Warmed39 s.vm) (eT : T.heap = h) (A : own_AF Z h a .long n f) {j : Int32} (h1 : ¬ j < 0) {k : Nat} (hk : j.toNatClampNeg = k) (h2 : k < n) {v : Value} (hv : f k = v)
    {g : JFrame} (hg : g.method = m) {rest : List Value} (hs : g.stack = .int j :: .ref a :: rest) (hd : decode c.code g.pc = .ok (.laload, 1)) (target : State)
    (hr : Steps p.tables e below (T.setTop { g with pc := g.pc + 1, stack := v :: rest }) target) : Steps p.tables e below (T.setTop g) target := by
  obtain ⟨cl, A, r1, r2, r3⟩ := A
  exact X.laload hx (by rw [eT]; exact A.1) (State.isArrayOf_alike hZ.alike A.2.1) A.2.2 (own_AF.inb r1 h1 hk h2) (by rw [hk, ← hv]; exact r3 k h2) hg hs hd _ hr
theorem own_ldB (X : Stand p l e R s m args below meth c T locs cells slots) (hx : p.tables.exec = Jvm.exec) (hZ : Z.Warmed39 s.vm) (eT : T.heap = h) (A : own_AF Z h a .byte n f) {j : Int32} (h1 : ¬ j < 0) {k : Nat} (hk : j.toNatClampNeg = k) (h2 : k < n) {v : Value} (hv : f k = v)
    {g : JFrame} (hg : g.method = m) {rest : List Value} (hs : g.stack = .int j :: .ref a :: rest) (hd : decode c.code g.pc = .ok (.baload, 1)) (target : State)
    (hr : Steps p.tables e below (T.setTop { g with pc := g.pc + 1, stack := v :: rest }) target) : Steps p.tables e below (T.setTop g) target := by
  obtain ⟨cl, A, r1, r2, r3⟩ := A
  exact X.baloadBytes hx (by rw [eT]; exact A.1) (State.isArrayOf_alike hZ.alike A.2.1) A.2.2 (own_AF.inb r1 h1 hk h2) (by rw [hk, ← hv]; exact r3 k h2) hg hs hd _ hr
theorem own_ldZ (X : Stand p l e R s m args below meth c T locs cells slots) (hx : p.tables.exec = Jvm.exec) (hZ : Z.Warmed39 s.vm) (eT : T.heap = h) (A : own_AF Z h a .boolean n f) {j : Int32} (h1 : ¬ j < 0) {k : Nat} (hk : j.toNatClampNeg = k) (h2 : k < n) {v : Value} (hv : f k = v)
    {g : JFrame} (hg : g.method = m) {rest : List Value} (hs : g.stack = .int j :: .ref a :: rest) (hd : decode c.code g.pc = .ok (.baload, 1)) (target : State)
    (hr : Steps p.tables e below (T.setTop { g with pc := g.pc + 1, stack := v :: rest }) target) : Steps p.tables e below (T.setTop g) target := by
  obtain ⟨cl, A, r1, r2, r3⟩ := A
  exact X.baloadBooleans hx (by rw [eT]; exact A.1) (State.isArrayOf_alike hZ.alike A.2.1) A.2.2 (own_AF.inb r1 h1 hk h2) (by rw [hk, ← hv]; exact r3 k h2) hg hs hd _ hr
theorem own_len (X : Stand p l e R s m args below meth c T locs cells slots) (hx : p.tables.exec = Jvm.exec) (hZ : Z.Warmed39 s.vm) (eT : T.heap = h) (A : own_AF Z h a ty n f) {z : Int32} (hz : n.toInt32 = z)
    {g : JFrame} (hg : g.method = m) {rest : List Value} (hs : g.stack = .ref a :: rest) (hd : decode c.code g.pc = .ok (.arraylength, 1)) (target : State)
    (hr : Steps p.tables e below (T.setTop { g with pc := g.pc + 1, stack := .int z :: rest }) target) : Steps p.tables e below (T.setTop g) target := by
  obtain ⟨cl, A, r1, r2, r3⟩ := A
  exact X.arraylength hx (by rw [eT]; exact A.1) (State.isArrayOf_alike hZ.alike A.2.1) hg hs hd _ (by rw [r1, hz]; exact hr)
theorem own_stI (X : Stand p l e R s m args below meth c T locs cells slots) (hx : p.tables.exec = Jvm.exec) (hZ : Z.Warmed39 s.vm) (eT : T.heap = h) (A : own_AF Z h a .int n f) {j x : Int32} (h1 : ¬ j < 0) {k : Nat} (hk : j.toNatClampNeg = k) (h2 : k < n)
    {g : JFrame} (hg : g.method = m) {rest : List Value} (hs : g.stack = .int x :: .int j :: .ref a :: rest) (hd : decode c.code g.pc = .ok (.iastore, 1)) :
    ∃ T' h', Stand p l e R s m args below meth c T' (locs ++ [⟨a, k⟩]) cells slots ∧ T'.heap = h' ∧ Wr h h' a k (.int x) ∧ own_AF Z h' a .int n (fun i => if i = k then .int x else f i) ∧ ∀ target, Steps p.tables e below (T'.setTop { g with pc := g.pc + 1, stack := rest }) target → Steps p.tables e below (T.setTop g) target := by
  obtain ⟨cl, A', r1, r2, r3⟩ := id A
  obtain ⟨T', h', X', e', W', st⟩ := stI X hx hZ eT A' (own_AF.inb r1 h1 hk h2) hg hs hd
  subst hk
  exact ⟨T', h', X', e', W', A.set W', st⟩
theorem own_stJ (X : Stand p l e R s m args below meth c T locs cells slots) (hx : p.tables.exec = Jvm.exec) (hZ : Z.Warmed39 s.vm) (eT : T.heap = h) (A : own_AF Z h a .long n f) {j : Int32} {x : Int64} (h1 : ¬ j < 0) {k : Nat} (hk : j.toNatClampNeg = k) (h2 : k < n)
    {g : JFrame} (hg : g.method = m) {rest : List Value} (hs : g.stack = .long x :: .int j :: .ref a :: rest) (hd : decode c.code g.pc = .ok (.lastore, 1)) :
    ∃ T' h', Stand p l e R s m args below meth c T' (locs ++ [⟨a, k⟩]) cells slots ∧ T'.heap = h' ∧ Wr h h' a k (.long x) ∧ own_AF Z h' a .long n (fun i => if i = k then .long x else f i) ∧ ∀ target, Steps p.tables e below (T'.setTop { g with pc := g.pc + 1, stack := rest }) target → Steps p.tables e below (T.setTop g) target := by
  obtain ⟨cl, A', r1, r2, r3⟩ := id A
  obtain ⟨T', h', X', e', W', st⟩ := stJ X hx hZ eT A' (own_AF.inb r1 h1 hk h2) hg hs hd
  subst hk
  exact ⟨T', h', X', e', W', A.set W', st⟩
theorem own_stB (X : Stand p l e R s m args below meth c T locs cells slots) (hx : p.tables.exec = Jvm.exec) (hZ : Z.Warmed39 s.vm) (eT : T.heap = h) (A : own_AF Z h a .byte n f) {j x : Int32} (h1 : ¬ j < 0) {k : Nat} (hk : j.toNatClampNeg = k) (h2 : k < n)
    {g : JFrame} (hg : g.method = m) {rest : List Value} (hs : g.stack = .int x :: .int j :: .ref a :: rest) (hd : decode c.code g.pc = .ok (.bastore, 1)) :
    ∃ T' h', Stand p l e R s m args below meth c T' (locs ++ [⟨a, k⟩]) cells slots ∧ T'.heap = h' ∧ Wr h h' a k (.int (nar .byte x)) ∧ own_AF Z h' a .byte n (fun i => if i = k then .int (nar .byte x) else f i) ∧ ∀ target, Steps p.tables e below (T'.setTop { g with pc := g.pc + 1, stack := rest }) target → Steps p.tables e below (T.setTop g) target := by
  obtain ⟨cl, A', r1, r2, r3⟩ := id A
  obtain ⟨T', h', X', e', W', st⟩ := stB X hx hZ eT A' (own_AF.inb r1 h1 hk h2) hg hs hd
  subst hk
  exact ⟨T', h', X', e', W', A.set W', st⟩
theorem own_stZ (X : Stand p l e R s m args below meth c T locs cells slots) (hx : p.tables.exec = Jvm.exec) (hZ : Z.Warmed39 s.vm) (eT : T.heap = h) (A : own_AF Z h a .boolean n f) {j x : Int32} (h1 : ¬ j < 0) {k : Nat} (hk : j.toNatClampNeg = k) (h2 : k < n)
    {g : JFrame} (hg : g.method = m) {rest : List Value} (hs : g.stack = .int x :: .int j :: .ref a :: rest) (hd : decode c.code g.pc = .ok (.bastore, 1)) :
    ∃ T' h', Stand p l e R s m args below meth c T' (locs ++ [⟨a, k⟩]) cells slots ∧ T'.heap = h' ∧ Wr h h' a k (.int (nar .boolean x)) ∧ own_AF Z h' a .boolean n (fun i => if i = k then .int (nar .boolean x) else f i) ∧ ∀ target, Steps p.tables e below (T'.setTop { g with pc := g.pc + 1, stack := rest }) target → Steps p.tables e below (T.setTop g) target := by
  obtain ⟨cl, A', r1, r2, r3⟩ := id A
  obtain ⟨T', h', X', e', W', st⟩ := stZ X hx hZ eT A' (own_AF.inb r1 h1 hk h2) hg hs hd
  subst hk
  exact ⟨T', h', X', e', W', A.set W', st⟩
theorem own_lremM {g : JFrame} {target : State} (X : Stand p l e R s m args below meth c T locs cells slots) (hx : p.tables.exec = Jvm.exec) (hg : g.method = m) {x y : Int64} {rest : List Value} (hd : decode c.code g.pc = .ok (.lrem, 1)) (hs : g.stack = .long y :: .long x :: rest) (hy : y ≠ 0)
    (hr : Steps p.tables e below (T.setTop { g with pc := g.pc + 1, stack := .long (x % y) :: rest }) target) : Steps p.tables e below (T.setTop g) target :=
  XS.lrem X.here hx hg hd hs hy (by rw [lrem_mod x y]; exact hr)
theorem own_cloneI {a0 : Array Value} (X : Stand p l e R s m args below meth c T locs cells slots) (hx : p.tables.exec = Jvm.exec) (hZ : Z.Warmed39 s.vm) {own : String} {index : Nat} (hown : s.vm.findClass own = some m.cls)
    (w1 : (Cond.methodLink own index ⟨"[I", "clone", "()Ljava/lang/Object;"⟩).before a0 Z = true) (w2 : (Cond.sameMethod "[I" "java/lang/Object" "clone" "()Ljava/lang/Object;").before a0 Z = true) (w3 : (Cond.native ⟨"java/lang/Object", "clone", "()Ljava/lang/Object;"⟩).before a0 Z = true)
    (w4 : (Cond.instanceMethod ⟨"java/lang/Object", "clone", "()Ljava/lang/Object;"⟩).before a0 Z = true) (w5 : (Cond.selects "[I" ⟨"[I", "clone", "()Ljava/lang/Object;"⟩ ⟨"java/lang/Object", "clone", "()Ljava/lang/Object;"⟩).before a0 Z = true) (w6 : (Cond.castable "[I" "java/lang/Cloneable").before a0 Z = true)
    (eT : T.heap = h) (F : own_AF Z h a .int n f) (E : Exa Z h a "[I") (hfit : ∀ i, i < n → fits .int (f i) = true) {g : JFrame} (hg : g.method = m) (hsize : g.locals.size = c.maxLocals) {rest : List Value} (hs : g.stack = .ref a :: rest) (hd : decode c.code g.pc = .ok (.invokevirtual index, 3))
    (hf : 1 ≤ R.frames) {W cap : Nat} (hW : 2 * g.monitorRoom + (rest.map fun v => v.category).sum ≤ W) (hl : W + 14 ≤ R.locals) (hcap : n ≤ cap) (hc : cells + 1 ≤ R.cells) (hsl : slots + cap ≤ R.slots) :
    ∃ T' h', Stand p l e R s m args below meth c T' locs (cells + 1) (slots + cap) ∧ T'.heap = h' ∧ Ext h h' ∧ own_AF Z h' h.size .int n f ∧ Exa Z h' h.size "[I" ∧
      ∀ target, Steps p.tables e below (T'.setTop { g with pc := g.pc + 3, stack := .ref h.size :: rest }) target → Steps p.tables e below (T.setTop g) target := by
  obtain ⟨cl, A, r1, r2, r3⟩ := F
  have FC : FitC Z cl := fitC_of A fun i hi v hv => by rw [r3 i (by omega)] at hv; cases hv; exact hfit i (by omega)
  obtain ⟨T', h', X', e', ex, A', E', st⟩ := cloneA X hx hZ hown w1 w2 w3 w4 w5 w6 eT A E FC hg hsize hs hd hf hW hl (by rw [r1]; exact hcap) hc hsl
  exact ⟨T', h', X', e', ex, ⟨cloneOf cl, A', r1, r2, r3⟩, E', st⟩
end OwnKit
def own_is (cy sc pe : Int64) : Int32 := if pe = (0 : Int64) then (if cy = sc then 1 else 0) else (if cy % pe = sc % pe then 1 else 0)
def own_of (cy us sl sc pe : Int64) : Int64 := if own_is cy sc pe = (0 : Int32) then us else sl
theorem own_m63 (x : Int64) : 0 ≤ (x &&& (9223372036854775807 : Int64)).toInt := by
  have := c_maskL x (9223372036854775807 : Int64) 63 (by decide) (by decide)
  omega
theorem own_m62 (x : Int64) : 0 ≤ (x &&& (4611686018427387903 : Int64)).toInt ∧ (x &&& (4611686018427387903 : Int64)).toInt < 4611686018427387904 := by
  have := c_maskL x (4611686018427387903 : Int64) 62 (by decide) (by decide)
  omega
theorem own_m32 (x : Int64) : 0 ≤ (x &&& (4294967295 : Int64)).toInt ∧ (x &&& (4294967295 : Int64)).toInt < 4294967296 := by
  have := c_maskL x (4294967295 : Int64) 32 (by decide) (by decide)
  omega
theorem own_m30 (x : Int64) : 0 ≤ (x &&& (1073741823 : Int64)).toInt ∧ (x &&& (1073741823 : Int64)).toInt < 1073741824 := by
  have := c_maskL x (1073741823 : Int64) 30 (by decide) (by decide)
  omega
theorem own_d (x : Int32) : 0 ≤ ((x &&& (3 : Int32)).toInt64).toInt ∧ ((x &&& (3 : Int32)).toInt64).toInt < 4 := by
  have h1 := c_mask x (3 : Int32) 2 (by decide) (by decide)
  have h2 := c_i2l (x &&& (3 : Int32))
  omega
theorem own_sum {s k p d : Int64} (hs : 0 ≤ s.toInt ∧ s.toInt < 4611686018427387904) (hk : 0 ≤ k.toInt ∧ k.toInt < 1073741824) (hp : 0 ≤ p.toInt ∧ p.toInt < 4294967296) (hd : 0 ≤ d.toInt ∧ d.toInt < 4) : 0 ≤ ((s + (k * p)) + d).toInt := by
  have h1 : 0 ≤ k.toInt * p.toInt := Int.mul_nonneg hk.1 hp.1
  have h2 : k.toInt * p.toInt ≤ 1073741823 * 4294967295 := Int.mul_le_mul (by omega) (by omega) hp.1 (by decide)
  have a1 := c_lmul k p
  have a2 := c_ladd s (k * p)
  have a3 := c_ladd (s + k * p) d
  have r1 := rng64 (k * p)
  have r2 := rng64 (s + k * p)
  have r3 := rng64 (s + k * p + d)
  generalize k.toInt * p.toInt = kp at *
  omega
theorem own_modI (x y p : Int) : (x - y).tmod p = 0 ↔ (x - y) % p = 0 := by
  exact ⟨fun h => Int.emod_eq_zero_of_dvd (Int.dvd_of_tmod_eq_zero h), fun h => Int.tmod_eq_zero_of_dvd (Int.dvd_of_emod_eq_zero h)⟩
theorem own_mod {cy st pe : Int64} (h1 : 0 ≤ cy.toInt) (h2 : 0 ≤ st.toInt) : ((cy - st) % pe = (0 : Int64)) ↔ (cy % pe = st % pe) := by
  have a1 := c_lsub cy st
  have r1 := rng64 cy
  have r2 := rng64 st
  have r3 := rng64 (cy - st)
  have e1 : (cy - st).toInt = cy.toInt - st.toInt := by omega
  rw [← Int64.toInt_inj, ← Int64.toInt_inj, Int64.toInt_mod, Int64.toInt_mod, Int64.toInt_mod, e1, (tr _ _).1 h1, (tr _ _).1 h2, show (0 : Int64).toInt = 0 from rfl, own_modI]
  exact Int.emod_eq_emod_iff_emod_sub_eq_zero.symm
theorem own_es {cy st pe : Int64} (h1 : 0 ≤ cy.toInt) (h2 : 0 ≤ st.toInt) (h3 : ¬ pe = (0 : Int64)) : own_is cy st pe = if (cy - st) % pe = (0 : Int64) then 1 else 0 := by
  unfold own_is
  rw [if_neg h3]
  by_cases h : (cy - st) % pe = (0 : Int64)
  · rw [if_pos h, if_pos ((own_mod h1 h2).mp h)]
  · rw [if_neg h, if_neg (fun q => h ((own_mod h1 h2).mpr q))]
theorem own_d2_0 : decode jdk_30_method_1_code 0 = .ok (.aload_n 0, 1) := by decide +kernel
theorem own_d2_1 : decode jdk_30_method_1_code 1 = .ok (.invokespecial 1, 3) := by decide +kernel
theorem own_d2_4 : decode jdk_30_method_1_code 4 = .ok (.return_, 1) := by decide +kernel
theorem own_pn0 : plainName "java/lang/Record" = true := by first | (simp [plainName, overriddenIn]; done) | decide +kernel
theorem own_ef2 (m : MethodId) (x0 : Addr) : entryFrame m #[(.ref x0)] 1 = mkF m 0 #[.val (.ref x0)] [] := by first | (simp [entryFrame, mkF, argsToLocals, Value.category]; done) | rfl
def own_Q2 (Z : State) (a1 : Addr) (h0 : Heap) (n0 : Nat) (v : Option Value) (h : Heap) (L : List Loc) : Prop := v = none ∧ Fr n0 L ∧ h = h0
set_option maxRecDepth 65536 in
set_option maxHeartbeats 40000000 in
theorem own_rm2 (l : Launch) (Z : State) (a0 : Array Value) (hw : ∀ d ∈ tables_1, d.before a0 Z = true) (ws : List Jvm.Cond) (a1 : Addr) (h0 : Heap) (n0 : Nat) (Z0 : n0 ≤ h0.size) :
    MetFree l (⟨"java/lang/Record", "<init>", "()V"⟩ : MethodName) (head1 (Jvm.Cond.code (⟨"java/lang/Record", "<init>", "()V"⟩ : MethodName) jdk_30_method_1_code 1 none :: ws) ({ frames := 1, cells := 0, slots := 0, locals := 12 } : Room)) (fun a U => a = #[(.ref a1)] ∧ Z.Warmed39 U.vm ∧ U.heap = h0) (fun _ _ _ _ _ => True) (fun _ U o U' => ∃ v L, o = .returned v ∧ own_Q2 Z a1 h0 n0 v U'.heap L ∧ FrameEnd U o U' L ({ frames := 1, cells := 0, slots := 0, locals := 12 } : Room).cells ({ frames := 1, cells := 0, slots := 0, locals := 12 } : Room).slots) := by
  refine MetFree.of_bodySF (plainFor_of_name own_pn0) hisR ?_
  intro p e s m args below meth c s₁ Bd hml0 hP hK
  obtain ⟨rfl, hZ, hh⟩ := hP
  have hx := Bd.exec
  have hby := Bd.bytes
  have hml : c.maxLocals = 1 := hml0
  have hown : s.vm.findClass "java/lang/Record" = some m.cls := findClass_of_methodNamed Bd.named
  have hnm := (name_of_methodNamed Bd.named Bd.method).1
  have X0 : Stand p l e ({ frames := 1, cells := 0, slots := 0, locals := 12 } : Room) s m #[(.ref a1)] below meth c s₁ [] 0 0 := Stand.of_body Bd
  have e0 : s₁.heap = h0 := by rw [← hh, Bd.state]; rfl
  have N0 := Fr.nil n0
  have K0 := Keep.refl h0 []
  have pre0 : ∀ t, Steps p.tables e below (s₁.setTop (mkF m 0 #[.val (.ref a1)] [])) t → Steps p.tables e below (s₁.setTop (entryFrame m #[(.ref a1)] 1)) t := fun t kt0 => castTop (own_ef2 m (a1)) kt0
  obtain ⟨T1, X1, e1, st1⟩ := initO X0 hx hZ hown (hw _ (List.mem_of_getElem? (i := 12) rfl)) (hw _ (List.mem_of_getElem? (i := 13) rfl)) (hw _ (List.mem_of_getElem? (i := 14) rfl)) e0 (g := (mkF m 1 #[.val (.ref a1)] [(.ref a1)])) rfl (by rw [hml]; rfl) rfl (hb hby own_d2_1) (by decide) (W := 0) (by show 2 * 0 + _ ≤ _; exact Nat.le_of_eq rfl) (by decide)
  obtain ⟨fs, hr, hrun, hended, hW, hsame⟩ := X1.leave (v := none) (fun _ => rfl) (BodyLoose.notSynchronized Bd)
  refine ⟨_, _, pre0 _ ?_, hrun, hended, _, _, rfl, ?_, ⟨_, rfl⟩, hW, hsame.mono (by decide) (by decide)⟩
  · skip
    show Steps p.tables e below (s₁.setTop (mkF m 0 #[.val (.ref a1)] [])) _
    refine XS.aloadN X0.here hx rfl (hb hby own_d2_0) rfl rfl ?_
    show Steps p.tables e below (s₁.setTop (mkF m 1 #[.val (.ref a1)] [(.ref a1)])) _
    refine st1 _ ?_
    show Steps p.tables e below (T1.setTop (mkF m 4 #[.val (.ref a1)] [])) _
    exact X1.returnOut hx Bd.returns (hb hby own_d2_4) hr
  · show own_Q2 Z a1 h0 n0 _ T1.heap _
    rw [e1]
    exact ⟨rfl, N0, rfl⟩
theorem own_d1_0 : decode prog_53_method_1_code 0 = .ok (.aload_n 0, 1) := by decide +kernel
theorem own_d1_1 : decode prog_53_method_1_code 1 = .ok (.invokespecial 1, 3) := by decide +kernel
theorem own_d1_4 : decode prog_53_method_1_code 4 = .ok (.aload_n 0, 1) := by decide +kernel
theorem own_d1_5 : decode prog_53_method_1_code 5 = .ok (.lload_n 1, 1) := by decide +kernel
theorem own_d1_6 : decode prog_53_method_1_code 6 = .ok (.putfield 7, 3) := by decide +kernel
theorem own_d1_9 : decode prog_53_method_1_code 9 = .ok (.aload_n 0, 1) := by decide +kernel
theorem own_d1_10 : decode prog_53_method_1_code 10 = .ok (.lload_n 3, 1) := by decide +kernel
theorem own_d1_11 : decode prog_53_method_1_code 11 = .ok (.putfield 13, 3) := by decide +kernel
theorem own_d1_14 : decode prog_53_method_1_code 14 = .ok (.aload_n 0, 1) := by decide +kernel
theorem own_d1_15 : decode prog_53_method_1_code 15 = .ok (.lload 5, 2) := by decide +kernel
theorem own_d1_17 : decode prog_53_method_1_code 17 = .ok (.putfield 16, 3) := by decide +kernel
theorem own_d1_20 : decode prog_53_method_1_code 20 = .ok (.aload_n 0, 1) := by decide +kernel
theorem own_d1_21 : decode prog_53_method_1_code 21 = .ok (.lload 7, 2) := by decide +kernel
theorem own_d1_23 : decode prog_53_method_1_code 23 = .ok (.putfield 19, 3) := by decide +kernel
theorem own_d1_26 : decode prog_53_method_1_code 26 = .ok (.return_, 1) := by decide +kernel
theorem own_pn1 : plainName "com/example/paceline/paceline/sim/ServiceTimes" = true := by first | (simp [plainName, overriddenIn]; done) | decide +kernel
theorem own_pd0 : parseMethodDescriptor "()V" = some ⟨[], none⟩ := by decide +kernel
theorem own_ef1 (m : MethodId) (x0 : Addr) (x1 : Int64) (x2 : Int64) (x3 : Int64) (x4 : Int64) : entryFrame m #[(.ref x0), (.long x1), (.long x2), (.long x3), (.long x4)] 9 = mkF m 0 #[.val (.ref x0), .val (.long x1), .second, .val (.long x2), .second, .val (.long x3), .second, .val (.long x4), .second] [] := by first | (simp [entryFrame, mkF, argsToLocals, Value.category]; done) | rfl
def own_Q1 (Z : State) (a1 : Addr) (q0 : Int64) (q1 : Int64) (q2 : Int64) (q3 : Int64) (h0 : Heap) (n0 : Nat) (v : Option Value) (h : Heap) (L : List Loc) : Prop := v = none ∧ Fr n0 L ∧ Keep h0 h [a1] ∧ Exa Z h a1 "com/example/paceline/paceline/sim/ServiceTimes" ∧ Fld Z h a1 "com/example/paceline/paceline/sim/ServiceTimes" "usual" "J" (.long q0) ∧ Fld Z h a1 "com/example/paceline/paceline/sim/ServiceTimes" "stalled" "J" (.long q1) ∧ Fld Z h a1 "com/example/paceline/paceline/sim/ServiceTimes" "stallCycle" "J" (.long q2) ∧ Fld Z h a1 "com/example/paceline/paceline/sim/ServiceTimes" "period" "J" (.long q3)
set_option maxRecDepth 65536 in
set_option maxHeartbeats 40000000 in
theorem own_rm1 (l : Launch) (Z : State) (a0 : Array Value) (hw : ∀ d ∈ tables_1, d.before a0 Z = true) (ws : List Jvm.Cond) (a1 : Addr) (q0 : Int64) (q1 : Int64) (q2 : Int64) (q3 : Int64) (h0 : Heap) (n0 : Nat) (Z0 : n0 ≤ h0.size) (E_a1 : Exa Z h0 a1 "com/example/paceline/paceline/sim/ServiceTimes") (F_usual : Fld Z h0 a1 "com/example/paceline/paceline/sim/ServiceTimes" "usual" "J" (.long (0 : Int64))) (F_stalled : Fld Z h0 a1 "com/example/paceline/paceline/sim/ServiceTimes" "stalled" "J" (.long (0 : Int64))) (F_stallCycle : Fld Z h0 a1 "com/example/paceline/paceline/sim/ServiceTimes" "stallCycle" "J" (.long (0 : Int64))) (F_period : Fld Z h0 a1 "com/example/paceline/paceline/sim/ServiceTimes" "period" "J" (.long (0 : Int64))) (g_a1 : n0 ≤ a1) :
    MetFree l (⟨"com/example/paceline/paceline/sim/ServiceTimes", "<init>", "(JJJJ)V"⟩ : MethodName) (head1 (Jvm.Cond.code (⟨"com/example/paceline/paceline/sim/ServiceTimes", "<init>", "(JJJJ)V"⟩ : MethodName) prog_53_method_1_code 9 none :: ws) ({ frames := 2, cells := 0, slots := 0, locals := 24 } : Room)) (fun a U => a = #[(.ref a1), (.long q0), (.long q1), (.long q2), (.long q3)] ∧ Z.Warmed39 U.vm ∧ U.heap = h0) (fun _ _ _ _ _ => True) (fun _ U o U' => ∃ v L, o = .returned v ∧ own_Q1 Z a1 q0 q1 q2 q3 h0 n0 v U'.heap L ∧ FrameEnd U o U' L ({ frames := 2, cells := 0, slots := 0, locals := 24 } : Room).cells ({ frames := 2, cells := 0, slots := 0, locals := 24 } : Room).slots) := by
  refine MetFree.of_bodySF (plainFor_of_name own_pn1) hisR ?_
  intro p e s m args below meth c s₁ Bd hml0 hP hK
  obtain ⟨rfl, hZ, hh⟩ := hP
  have hx := Bd.exec
  have hby := Bd.bytes
  have hml : c.maxLocals = 9 := hml0
  have hown : s.vm.findClass "com/example/paceline/paceline/sim/ServiceTimes" = some m.cls := findClass_of_methodNamed Bd.named
  have hnm := (name_of_methodNamed Bd.named Bd.method).1
  have X0 : Stand p l e ({ frames := 2, cells := 0, slots := 0, locals := 24 } : Room) s m #[(.ref a1), (.long q0), (.long q1), (.long q2), (.long q3)] below meth c s₁ [] 0 0 := Stand.of_body Bd
  have e0 : s₁.heap = h0 := by rw [← hh, Bd.state]; rfl
  have N0 := Fr.nil n0
  have K0 := Keep.refl h0 [a1]
  have pre0 : ∀ t, Steps p.tables e below (s₁.setTop (mkF m 0 #[.val (.ref a1), .val (.long q0), .second, .val (.long q1), .second, .val (.long q2), .second, .val (.long q3), .second] [])) t → Steps p.tables e below (s₁.setTop (entryFrame m #[(.ref a1), (.long q0), (.long q1), (.long q2), (.long q3)] 9)) t := fun t kt0 => castTop (own_ef1 m (a1) (q0) (q1) (q2) (q3)) kt0
  obtain ⟨_, _, ⟨T1, L1, k1, n1⟩, -, X1, ⟨Lc1, hQ1, l1, y1, z1⟩, st1⟩ := X0.specialBack hx (y := (⟨"java/lang/Record", "<init>", "()V"⟩ : MethodName)) rfl hown (mvT hZ (hw _ (List.mem_of_getElem? (i := 7) rfl))) (mvT hZ (hw _ (List.mem_of_getElem? (i := 8) rfl))) (mvT hZ (hw _ (List.mem_of_getElem? (i := 11) rfl))) (by decide) (backOf (W := 0) (own_rm2 l Z a0 hw [] (a1) h0 n0 Z0 ) hZ (hw _ (List.mem_of_getElem? (i := 11) rfl)) (hw _ (List.mem_of_getElem? (i := 10) rfl)) (by decide) (by decide)) (g := (mkF m 1 #[.val (.ref a1), .val (.long q0), .second, .val (.long q1), .second, .val (.long q2), .second, .val (.long q3), .second] [(.ref a1)])) rfl (by rw [hml]; rfl) (Steps.refl _) (a := a1) (argsL := []) (rest := []) (lenOf own_pd0 rfl) rfl (by show 2 * 0 + _ ≤ _; exact Nat.le_of_eq rfl) (hb hby own_d1_1) (fun _ _ => ⟨rfl, e0, (by decide : 0 + 0 ≤ _), (by decide : 0 + 0 ≤ _)⟩)
  dsimp only [Pt.U, Pt.locs, Pt.cells, Pt.slots] at X1 l1 y1 z1 st1 hQ1
  subst l1 y1 z1
  obtain ⟨rfl, Nq1, eq1⟩ := hQ1
  have N1 := Fr.app N0 Nq1
  obtain ⟨T2, h2, X2, e2, W2, st2⟩ := putF X1 hx hZ hown (host := "") (Or.inl (hw _ (List.mem_of_getElem? (i := 15) rfl))) Via.refl eq1 F_usual E_a1 (Or.inr ⟨(hw _ (List.mem_of_getElem? (i := 16) rfl)), rfl, hnm⟩) (hw _ (List.mem_of_getElem? (i := 2) rfl)) (ty := .long) (by decide) rfl rfl (g := (mkF m 6 #[.val (.ref a1), .val (.long q0), .second, .val (.long q1), .second, .val (.long q2), .second, .val (.long q3), .second] [(.long q0), (.ref a1)])) rfl rfl (hb hby own_d1_6)
  have E_a1 := E_a1.wr W2
  have F_usual := F_usual.same W2
  have F_stalled := F_stalled.other W2 (Or.inr (slot_ne (Or.inr (hw _ (List.mem_of_getElem? (i := 18) rfl))) (Or.inr (hw _ (List.mem_of_getElem? (i := 16) rfl))) (by decide) (t := .long) (t' := .long) (by decide) (by decide)))
  have F_stallCycle := F_stallCycle.other W2 (Or.inr (slot_ne (Or.inr (hw _ (List.mem_of_getElem? (i := 20) rfl))) (Or.inr (hw _ (List.mem_of_getElem? (i := 16) rfl))) (by decide) (t := .long) (t' := .long) (by decide) (by decide)))
  have F_period := F_period.other W2 (Or.inr (slot_ne (Or.inr (hw _ (List.mem_of_getElem? (i := 22) rfl))) (Or.inr (hw _ (List.mem_of_getElem? (i := 16) rfl))) (by decide) (t := .long) (t' := .long) (by decide) (by decide)))
  have K3 := K0.wr W2 (Or.inl (List.mem_of_getElem? (i := 0) rfl))
  have Z4 := Nat.le_trans Z0 (Keep.of_wr W2).1
  have N5 := Fr.snoc X2 N1 g_a1
  obtain ⟨T6, h6, X6, e6, W6, st6⟩ := putF X2 hx hZ hown (host := "") (Or.inl (hw _ (List.mem_of_getElem? (i := 17) rfl))) Via.refl e2 F_stalled E_a1 (Or.inr ⟨(hw _ (List.mem_of_getElem? (i := 18) rfl)), rfl, hnm⟩) (hw _ (List.mem_of_getElem? (i := 2) rfl)) (ty := .long) (by decide) rfl rfl (g := (mkF m 11 #[.val (.ref a1), .val (.long q0), .second, .val (.long q1), .second, .val (.long q2), .second, .val (.long q3), .second] [(.long q1), (.ref a1)])) rfl rfl (hb hby own_d1_11)
  have E_a1 := E_a1.wr W6
  have F_usual := F_usual.other W6 (Or.inr (slot_ne (Or.inr (hw _ (List.mem_of_getElem? (i := 16) rfl))) (Or.inr (hw _ (List.mem_of_getElem? (i := 18) rfl))) (by decide) (t := .long) (t' := .long) (by decide) (by decide)))
  have F_stalled := F_stalled.same W6
  have F_stallCycle := F_stallCycle.other W6 (Or.inr (slot_ne (Or.inr (hw _ (List.mem_of_getElem? (i := 20) rfl))) (Or.inr (hw _ (List.mem_of_getElem? (i := 18) rfl))) (by decide) (t := .long) (t' := .long) (by decide) (by decide)))
  have F_period := F_period.other W6 (Or.inr (slot_ne (Or.inr (hw _ (List.mem_of_getElem? (i := 22) rfl))) (Or.inr (hw _ (List.mem_of_getElem? (i := 18) rfl))) (by decide) (t := .long) (t' := .long) (by decide) (by decide)))
  have K7 := K3.wr W6 (Or.inl (List.mem_of_getElem? (i := 0) rfl))
  have Z8 := Nat.le_trans Z4 (Keep.of_wr W6).1
  have N9 := Fr.snoc X6 N5 g_a1
  obtain ⟨T10, h10, X10, e10, W10, st10⟩ := putF X6 hx hZ hown (host := "") (Or.inl (hw _ (List.mem_of_getElem? (i := 19) rfl))) Via.refl e6 F_stallCycle E_a1 (Or.inr ⟨(hw _ (List.mem_of_getElem? (i := 20) rfl)), rfl, hnm⟩) (hw _ (List.mem_of_getElem? (i := 2) rfl)) (ty := .long) (by decide) rfl rfl (g := (mkF m 17 #[.val (.ref a1), .val (.long q0), .second, .val (.long q1), .second, .val (.long q2), .second, .val (.long q3), .second] [(.long q2), (.ref a1)])) rfl rfl (hb hby own_d1_17)
  have E_a1 := E_a1.wr W10
  have F_usual := F_usual.other W10 (Or.inr (slot_ne (Or.inr (hw _ (List.mem_of_getElem? (i := 16) rfl))) (Or.inr (hw _ (List.mem_of_getElem? (i := 20) rfl))) (by decide) (t := .long) (t' := .long) (by decide) (by decide)))
  have F_stalled := F_stalled.other W10 (Or.inr (slot_ne (Or.inr (hw _ (List.mem_of_getElem? (i := 18) rfl))) (Or.inr (hw _ (List.mem_of_getElem? (i := 20) rfl))) (by decide) (t := .long) (t' := .long) (by decide) (by decide)))
  have F_stallCycle := F_stallCycle.same W10
  have F_period := F_period.other W10 (Or.inr (slot_ne (Or.inr (hw _ (List.mem_of_getElem? (i := 22) rfl))) (Or.inr (hw _ (List.mem_of_getElem? (i := 20) rfl))) (by decide) (t := .long) (t' := .long) (by decide) (by decide)))
  have K11 := K7.wr W10 (Or.inl (List.mem_of_getElem? (i := 0) rfl))
  have Z12 := Nat.le_trans Z8 (Keep.of_wr W10).1
  have N13 := Fr.snoc X10 N9 g_a1
  obtain ⟨T14, h14, X14, e14, W14, st14⟩ := putF X10 hx hZ hown (host := "") (Or.inl (hw _ (List.mem_of_getElem? (i := 21) rfl))) Via.refl e10 F_period E_a1 (Or.inr ⟨(hw _ (List.mem_of_getElem? (i := 22) rfl)), rfl, hnm⟩) (hw _ (List.mem_of_getElem? (i := 2) rfl)) (ty := .long) (by decide) rfl rfl (g := (mkF m 23 #[.val (.ref a1), .val (.long q0), .second, .val (.long q1), .second, .val (.long q2), .second, .val (.long q3), .second] [(.long q3), (.ref a1)])) rfl rfl (hb hby own_d1_23)
  have E_a1 := E_a1.wr W14
  have F_usual := F_usual.other W14 (Or.inr (slot_ne (Or.inr (hw _ (List.mem_of_getElem? (i := 16) rfl))) (Or.inr (hw _ (List.mem_of_getElem? (i := 22) rfl))) (by decide) (t := .long) (t' := .long) (by decide) (by decide)))
  have F_stalled := F_stalled.other W14 (Or.inr (slot_ne (Or.inr (hw _ (List.mem_of_getElem? (i := 18) rfl))) (Or.inr (hw _ (List.mem_of_getElem? (i := 22) rfl))) (by decide) (t := .long) (t' := .long) (by decide) (by decide)))
  have F_stallCycle := F_stallCycle.other W14 (Or.inr (slot_ne (Or.inr (hw _ (List.mem_of_getElem? (i := 20) rfl))) (Or.inr (hw _ (List.mem_of_getElem? (i := 22) rfl))) (by decide) (t := .long) (t' := .long) (by decide) (by decide)))
  have F_period := F_period.same W14
  have K15 := K11.wr W14 (Or.inl (List.mem_of_getElem? (i := 0) rfl))
  have Z16 := Nat.le_trans Z12 (Keep.of_wr W14).1
  have N17 := Fr.snoc X14 N13 g_a1
  obtain ⟨fs, hr, hrun, hended, hW, hsame⟩ := X14.leave (v := none) (fun _ => rfl) (BodyLoose.notSynchronized Bd)
  refine ⟨_, _, pre0 _ ?_, hrun, hended, _, _, rfl, ?_, ⟨_, rfl⟩, hW, hsame.mono (by decide) (by decide)⟩
  · skip
    show Steps p.tables e below (s₁.setTop (mkF m 0 #[.val (.ref a1), .val (.long q0), .second, .val (.long q1), .second, .val (.long q2), .second, .val (.long q3), .second] [])) _
    refine XS.aloadN X0.here hx rfl (hb hby own_d1_0) rfl rfl ?_
    show Steps p.tables e below (s₁.setTop (mkF m 1 #[.val (.ref a1), .val (.long q0), .second, .val (.long q1), .second, .val (.long q2), .second, .val (.long q3), .second] [(.ref a1)])) _
    refine st1.trans ?_
    show Steps p.tables e below (T1.setTop (mkF m 4 #[.val (.ref a1), .val (.long q0), .second, .val (.long q1), .second, .val (.long q2), .second, .val (.long q3), .second] [])) _
    refine XS.aloadN X1.here hx rfl (hb hby own_d1_4) rfl rfl ?_
    show Steps p.tables e below (T1.setTop (mkF m 5 #[.val (.ref a1), .val (.long q0), .second, .val (.long q1), .second, .val (.long q2), .second, .val (.long q3), .second] [(.ref a1)])) _
    refine XS.lloadN X1.here hx rfl (hb hby own_d1_5) rfl ?_
    show Steps p.tables e below (T1.setTop (mkF m 6 #[.val (.ref a1), .val (.long q0), .second, .val (.long q1), .second, .val (.long q2), .second, .val (.long q3), .second] [(.long q0), (.ref a1)])) _
    refine st2 _ ?_
    show Steps p.tables e below (T2.setTop (mkF m 9 #[.val (.ref a1), .val (.long q0), .second, .val (.long q1), .second, .val (.long q2), .second, .val (.long q3), .second] [])) _
    refine XS.aloadN X2.here hx rfl (hb hby own_d1_9) rfl rfl ?_
    show Steps p.tables e below (T2.setTop (mkF m 10 #[.val (.ref a1), .val (.long q0), .second, .val (.long q1), .second, .val (.long q2), .second, .val (.long q3), .second] [(.ref a1)])) _
    refine XS.lloadN X2.here hx rfl (hb hby own_d1_10) rfl ?_
    show Steps p.tables e below (T2.setTop (mkF m 11 #[.val (.ref a1), .val (.long q0), .second, .val (.long q1), .second, .val (.long q2), .second, .val (.long q3), .second] [(.long q1), (.ref a1)])) _
    refine st6 _ ?_
    show Steps p.tables e below (T6.setTop (mkF m 14 #[.val (.ref a1), .val (.long q0), .second, .val (.long q1), .second, .val (.long q2), .second, .val (.long q3), .second] [])) _
    refine XS.aloadN X6.here hx rfl (hb hby own_d1_14) rfl rfl ?_
    show Steps p.tables e below (T6.setTop (mkF m 15 #[.val (.ref a1), .val (.long q0), .second, .val (.long q1), .second, .val (.long q2), .second, .val (.long q3), .second] [(.ref a1)])) _
    refine XS.lload X6.here hx rfl (hb hby own_d1_15) rfl ?_
    show Steps p.tables e below (T6.setTop (mkF m 17 #[.val (.ref a1), .val (.long q0), .second, .val (.long q1), .second, .val (.long q2), .second, .val (.long q3), .second] [(.long q2), (.ref a1)])) _
    refine st10 _ ?_
    show Steps p.tables e below (T10.setTop (mkF m 20 #[.val (.ref a1), .val (.long q0), .second, .val (.long q1), .second, .val (.long q2), .second, .val (.long q3), .second] [])) _
    refine XS.aloadN X10.here hx rfl (hb hby own_d1_20) rfl rfl ?_
    show Steps p.tables e below (T10.setTop (mkF m 21 #[.val (.ref a1), .val (.long q0), .second, .val (.long q1), .second, .val (.long q2), .second, .val (.long q3), .second] [(.ref a1)])) _
    refine XS.lload X10.here hx rfl (hb hby own_d1_21) rfl ?_
    show Steps p.tables e below (T10.setTop (mkF m 23 #[.val (.ref a1), .val (.long q0), .second, .val (.long q1), .second, .val (.long q2), .second, .val (.long q3), .second] [(.long q3), (.ref a1)])) _
    refine st14 _ ?_
    show Steps p.tables e below (T14.setTop (mkF m 26 #[.val (.ref a1), .val (.long q0), .second, .val (.long q1), .second, .val (.long q2), .second, .val (.long q3), .second] [])) _
    exact X14.returnOut hx Bd.returns (hb hby own_d1_26) hr
  · show own_Q1 Z a1 q0 q1 q2 q3 h0 n0 _ T14.heap _
    rw [e14]
    exact ⟨rfl, N17, K15, E_a1, F_usual, F_stalled, F_stallCycle, F_period⟩
theorem own_d4_0 : decode prog_53_method_2_code 0 = .ok (.aload_n 0, 1) := by decide +kernel
theorem own_d4_1 : decode prog_53_method_2_code 1 = .ok (.getfield 19, 3) := by decide +kernel
theorem own_d4_4 : decode prog_53_method_2_code 4 = .ok (.lconst 0, 1) := by decide +kernel
theorem own_d4_5 : decode prog_53_method_2_code 5 = .ok (.lcmp, 1) := by decide +kernel
theorem own_d4_6 : decode prog_53_method_2_code 6 = .ok (.ifCond .ne 20, 3) := by decide +kernel
theorem own_d4_9 : decode prog_53_method_2_code 9 = .ok (.lload_n 1, 1) := by decide +kernel
theorem own_d4_10 : decode prog_53_method_2_code 10 = .ok (.aload_n 0, 1) := by decide +kernel
theorem own_d4_11 : decode prog_53_method_2_code 11 = .ok (.getfield 16, 3) := by decide +kernel
theorem own_d4_14 : decode prog_53_method_2_code 14 = .ok (.lcmp, 1) := by decide +kernel
theorem own_d4_15 : decode prog_53_method_2_code 15 = .ok (.ifCond .ne 7, 3) := by decide +kernel
theorem own_d4_18 : decode prog_53_method_2_code 18 = .ok (.iconst 1, 1) := by decide +kernel
theorem own_d4_19 : decode prog_53_method_2_code 19 = .ok (.goto 31, 3) := by decide +kernel
theorem own_d4_22 : decode prog_53_method_2_code 22 = .ok (.iconst 0, 1) := by decide +kernel
theorem own_d4_23 : decode prog_53_method_2_code 23 = .ok (.goto 27, 3) := by decide +kernel
theorem own_d4_26 : decode prog_53_method_2_code 26 = .ok (.lload_n 1, 1) := by decide +kernel
theorem own_d4_27 : decode prog_53_method_2_code 27 = .ok (.aload_n 0, 1) := by decide +kernel
theorem own_d4_28 : decode prog_53_method_2_code 28 = .ok (.getfield 19, 3) := by decide +kernel
theorem own_d4_31 : decode prog_53_method_2_code 31 = .ok (.lrem, 1) := by decide +kernel
theorem own_d4_32 : decode prog_53_method_2_code 32 = .ok (.aload_n 0, 1) := by decide +kernel
theorem own_d4_33 : decode prog_53_method_2_code 33 = .ok (.getfield 16, 3) := by decide +kernel
theorem own_d4_36 : decode prog_53_method_2_code 36 = .ok (.aload_n 0, 1) := by decide +kernel
theorem own_d4_37 : decode prog_53_method_2_code 37 = .ok (.getfield 19, 3) := by decide +kernel
theorem own_d4_40 : decode prog_53_method_2_code 40 = .ok (.lrem, 1) := by decide +kernel
theorem own_d4_41 : decode prog_53_method_2_code 41 = .ok (.lcmp, 1) := by decide +kernel
theorem own_d4_42 : decode prog_53_method_2_code 42 = .ok (.ifCond .ne 7, 3) := by decide +kernel
theorem own_d4_45 : decode prog_53_method_2_code 45 = .ok (.iconst 1, 1) := by decide +kernel
theorem own_d4_46 : decode prog_53_method_2_code 46 = .ok (.goto 4, 3) := by decide +kernel
theorem own_d4_49 : decode prog_53_method_2_code 49 = .ok (.iconst 0, 1) := by decide +kernel
theorem own_d4_50 : decode prog_53_method_2_code 50 = .ok (.istore_n 3, 1) := by decide +kernel
theorem own_d4_51 : decode prog_53_method_2_code 51 = .ok (.iload_n 3, 1) := by decide +kernel
theorem own_d4_52 : decode prog_53_method_2_code 52 = .ok (.ifCond .eq 10, 3) := by decide +kernel
theorem own_d4_55 : decode prog_53_method_2_code 55 = .ok (.aload_n 0, 1) := by decide +kernel
theorem own_d4_56 : decode prog_53_method_2_code 56 = .ok (.getfield 13, 3) := by decide +kernel
theorem own_d4_59 : decode prog_53_method_2_code 59 = .ok (.goto 7, 3) := by decide +kernel
theorem own_d4_62 : decode prog_53_method_2_code 62 = .ok (.aload_n 0, 1) := by decide +kernel
theorem own_d4_63 : decode prog_53_method_2_code 63 = .ok (.getfield 7, 3) := by decide +kernel
theorem own_d4_66 : decode prog_53_method_2_code 66 = .ok (.lreturn, 1) := by decide +kernel
theorem own_ef4 (m : MethodId) (x0 : Addr) (x1 : Int64) : entryFrame m #[(.ref x0), (.long x1)] 4 = mkF m 0 #[.val (.ref x0), .val (.long x1), .second, .unset] [] := by first | (simp [entryFrame, mkF, argsToLocals, Value.category]; done) | rfl
def own_Q4 (Z : State) (a1 : Addr) (cy : Int64) (us : Int64) (sl : Int64) (sc : Int64) (pe : Int64) (h0 : Heap) (n0 : Nat) (v : Option Value) (h : Heap) (L : List Loc) : Prop := v = some (.long (own_of cy us sl sc pe)) ∧ Fr n0 L ∧ h = h0
set_option maxRecDepth 65536 in
set_option maxHeartbeats 40000000 in
theorem own_rm4 (l : Launch) (Z : State) (a0 : Array Value) (hw : ∀ d ∈ tables_1, d.before a0 Z = true) (ws : List Jvm.Cond) (a1 : Addr) (cy : Int64) (us : Int64) (sl : Int64) (sc : Int64) (pe : Int64) (h0 : Heap) (n0 : Nat) (Z0 : n0 ≤ h0.size) (F_usual : Fld Z h0 a1 "com/example/paceline/paceline/sim/ServiceTimes" "usual" "J" (.long us)) (F_stalled : Fld Z h0 a1 "com/example/paceline/paceline/sim/ServiceTimes" "stalled" "J" (.long sl)) (F_stallCycle : Fld Z h0 a1 "com/example/paceline/paceline/sim/ServiceTimes" "stallCycle" "J" (.long sc)) (F_period : Fld Z h0 a1 "com/example/paceline/paceline/sim/ServiceTimes" "period" "J" (.long pe)) :
    MetFree l (⟨"com/example/paceline/paceline/sim/ServiceTimes", "of", "(J)J"⟩ : MethodName) (head1 (Jvm.Cond.code (⟨"com/example/paceline/paceline/sim/ServiceTimes", "of", "(J)J"⟩ : MethodName) prog_53_method_2_code 4 (some .long) :: ws) ({ frames := 0, cells := 0, slots := 0, locals := 0 } : Room)) (fun a U => a = #[(.ref a1), (.long cy)] ∧ Z.Warmed39 U.vm ∧ U.heap = h0) (fun _ _ _ _ _ => True) (fun _ U o U' => ∃ v L, o = .returned v ∧ own_Q4 Z a1 cy us sl sc pe h0 n0 v U'.heap L ∧ FrameEnd U o U' L ({ frames := 0, cells := 0, slots := 0, locals := 0 } : Room).cells ({ frames := 0, cells := 0, slots := 0, locals := 0 } : Room).slots) := by
  refine MetFree.of_bodySF (plainFor_of_name own_pn1) hisR ?_
  intro p e s m args below meth c s₁ Bd hml0 hP hK
  obtain ⟨rfl, hZ, hh⟩ := hP
  have hx := Bd.exec
  have hby := Bd.bytes
  have hml : c.maxLocals = 4 := hml0
  have hown : s.vm.findClass "com/example/paceline/paceline/sim/ServiceTimes" = some m.cls := findClass_of_methodNamed Bd.named
  have hnm := (name_of_methodNamed Bd.named Bd.method).1
  have X0 : Stand p l e ({ frames := 0, cells := 0, slots := 0, locals := 0 } : Room) s m #[(.ref a1), (.long cy)] below meth c s₁ [] 0 0 := Stand.of_body Bd
  have e0 : s₁.heap = h0 := by rw [← hh, Bd.state]; rfl
  have N0 := Fr.nil n0
  have K0 := Keep.refl h0 []
  have pre0 : ∀ t, Steps p.tables e below (s₁.setTop (mkF m 0 #[.val (.ref a1), .val (.long cy), .second, .unset] [])) t → Steps p.tables e below (s₁.setTop (entryFrame m #[(.ref a1), (.long cy)] 4)) t := fun t kt0 => castTop (own_ef4 m (a1) (cy)) kt0
  obtain ⟨T1, X1, e1, st1⟩ := getF X0 hx hZ hown (host := "") (Or.inl (hw _ (List.mem_of_getElem? (i := 21) rfl))) Via.refl e0 F_period (g := (mkF m 1 #[.val (.ref a1), .val (.long cy), .second, .unset] [(.ref a1)])) rfl rfl (hb hby own_d4_1)
  have pre2 : ∀ t, Steps p.tables e below (T1.setTop (mkF m 6 #[.val (.ref a1), .val (.long cy), .second, .unset] [(.int (lcmpW pe (0 : Int64)))])) t → Steps p.tables e below (s₁.setTop (entryFrame m #[(.ref a1), (.long cy)] 4)) t := by
    intro t kt
    refine pre0 t ?_
    show Steps p.tables e below (s₁.setTop (mkF m 0 #[.val (.ref a1), .val (.long cy), .second, .unset] [])) _
    refine XS.aloadN X0.here hx rfl (hb hby own_d4_0) rfl rfl ?_
    show Steps p.tables e below (s₁.setTop (mkF m 1 #[.val (.ref a1), .val (.long cy), .second, .unset] [(.ref a1)])) _
    refine st1 _ ?_
    show Steps p.tables e below (T1.setTop (mkF m 4 #[.val (.ref a1), .val (.long cy), .second, .unset] [(.long pe)])) _
    refine XS.lconst X1.here hx rfl (hb hby own_d4_4) ?_
    show Steps p.tables e below (T1.setTop (mkF m 5 #[.val (.ref a1), .val (.long cy), .second, .unset] [(.long (0 : Int64)), (.long pe)])) _
    refine XS.lcmp X1.here hx rfl (hb hby own_d4_5) rfl ?_
    exact kt
  by_cases hc6 : pe = (0 : Int64)
  case pos =>
    obtain ⟨T3, X3, e3, st3⟩ := getF X1 hx hZ hown (host := "") (Or.inl (hw _ (List.mem_of_getElem? (i := 19) rfl))) Via.refl e1 F_stallCycle (g := (mkF m 11 #[.val (.ref a1), .val (.long cy), .second, .unset] [(.ref a1), (.long cy)])) rfl rfl (hb hby own_d4_11)
    have pre4 : ∀ t, Steps p.tables e below (T3.setTop (mkF m 15 #[.val (.ref a1), .val (.long cy), .second, .unset] [(.int (lcmpW cy sc))])) t → Steps p.tables e below (s₁.setTop (entryFrame m #[(.ref a1), (.long cy)] 4)) t := by
      intro t kt
      refine pre2 t ?_
      show Steps p.tables e below (T1.setTop (mkF m 6 #[.val (.ref a1), .val (.long cy), .second, .unset] [(.int (lcmpW pe (0 : Int64)))])) _
      refine XS.ifNo X1.here hx rfl (hb hby own_d4_6) rfl ((if0 _ _).trans (teq ((lw_eq pe (0 : Int64)).mpr hc6)).2) ?_
      show Steps p.tables e below (T1.setTop (mkF m 9 #[.val (.ref a1), .val (.long cy), .second, .unset] [])) _
      refine XS.lloadN X1.here hx rfl (hb hby own_d4_9) rfl ?_
      show Steps p.tables e below (T1.setTop (mkF m 10 #[.val (.ref a1), .val (.long cy), .second, .unset] [(.long cy)])) _
      refine XS.aloadN X1.here hx rfl (hb hby own_d4_10) rfl rfl ?_
      show Steps p.tables e below (T1.setTop (mkF m 11 #[.val (.ref a1), .val (.long cy), .second, .unset] [(.ref a1), (.long cy)])) _
      refine st3 _ ?_
      show Steps p.tables e below (T3.setTop (mkF m 14 #[.val (.ref a1), .val (.long cy), .second, .unset] [(.long sc), (.long cy)])) _
      refine XS.lcmp X3.here hx rfl (hb hby own_d4_14) rfl ?_
      exact kt
    by_cases hc15 : cy = sc
    case pos =>
      obtain ⟨T5, X5, e5, st5⟩ := getF X3 hx hZ hown (host := "") (Or.inl (hw _ (List.mem_of_getElem? (i := 17) rfl))) Via.refl e3 F_stalled (g := (mkF m 56 #[.val (.ref a1), .val (.long cy), .second, .val (.int (1 : Int32))] [(.ref a1)])) rfl rfl (hb hby own_d4_56)
      obtain ⟨fs, hr, hrun, hended, hW, hsame⟩ := X5.leave (v := some (.long sl)) (fun h => by rw [Bd.returns] at h; cases h) (BodyLoose.notSynchronized Bd)
      refine ⟨_, _, pre4 _ ?_, hrun, hended, _, _, rfl, ?_, ⟨_, rfl⟩, hW, hsame.mono (by decide) (by decide)⟩
      · skip
        show Steps p.tables e below (T3.setTop (mkF m 15 #[.val (.ref a1), .val (.long cy), .second, .unset] [(.int (lcmpW cy sc))])) _
        refine XS.ifNo X3.here hx rfl (hb hby own_d4_15) rfl ((if0 _ _).trans (teq ((lw_eq cy sc).mpr hc15)).2) ?_
        show Steps p.tables e below (T3.setTop (mkF m 18 #[.val (.ref a1), .val (.long cy), .second, .unset] [])) _
        refine XS.iconst X3.here hx rfl (hb hby own_d4_18) ?_
        show Steps p.tables e below (T3.setTop (mkF m 19 #[.val (.ref a1), .val (.long cy), .second, .unset] [(.int (1 : Int32))])) _
        refine XS.goto X3.here hx rfl (pc0 := 19) (pc' := 50) rfl (hb hby own_d4_19) (by decide) (by decide) ?_
        show Steps p.tables e below (T3.setTop (mkF m 50 #[.val (.ref a1), .val (.long cy), .second, .unset] [(.int (1 : Int32))])) _
        refine XS.istoreN X3.here hx rfl (hb hby own_d4_50) rfl (l' := #[.val (.ref a1), .val (.long cy), .second, .val (.int (1 : Int32))]) rfl ?_
        show Steps p.tables e below (T3.setTop (mkF m 51 #[.val (.ref a1), .val (.long cy), .second, .val (.int (1 : Int32))] [])) _
        refine XS.iloadN X3.here hx rfl (hb hby own_d4_51) rfl ?_
        show Steps p.tables e below (T3.setTop (mkF m 52 #[.val (.ref a1), .val (.long cy), .second, .val (.int (1 : Int32))] [(.int (1 : Int32))])) _
        refine XS.ifNo X3.here hx rfl (hb hby own_d4_52) rfl ((if0 _ _).trans (feq (by decide)).1) ?_
        show Steps p.tables e below (T3.setTop (mkF m 55 #[.val (.ref a1), .val (.long cy), .second, .val (.int (1 : Int32))] [])) _
        refine XS.aloadN X3.here hx rfl (hb hby own_d4_55) rfl rfl ?_
        show Steps p.tables e below (T3.setTop (mkF m 56 #[.val (.ref a1), .val (.long cy), .second, .val (.int (1 : Int32))] [(.ref a1)])) _
        refine st5 _ ?_
        show Steps p.tables e below (T5.setTop (mkF m 59 #[.val (.ref a1), .val (.long cy), .second, .val (.int (1 : Int32))] [(.long sl)])) _
        refine XS.goto X5.here hx rfl (pc0 := 59) (pc' := 66) rfl (hb hby own_d4_59) (by decide) (by decide) ?_
        show Steps p.tables e below (T5.setTop (mkF m 66 #[.val (.ref a1), .val (.long cy), .second, .val (.int (1 : Int32))] [(.long sl)])) _
        exact X5.lreturnOut hx Bd.returns (hb hby own_d4_66) hr
      · show own_Q4 Z a1 cy us sl sc pe h0 n0 _ T5.heap _
        rw [e5]
        refine ⟨?_, N0, rfl⟩
        simp [own_of, own_is, hc6, hc15]
    case neg =>
      obtain ⟨T6, X6, e6, st6⟩ := getF X3 hx hZ hown (host := "") (Or.inl (hw _ (List.mem_of_getElem? (i := 15) rfl))) Via.refl e3 F_usual (g := (mkF m 63 #[.val (.ref a1), .val (.long cy), .second, .val (.int (0 : Int32))] [(.ref a1)])) rfl rfl (hb hby own_d4_63)
      obtain ⟨fs, hr, hrun, hended, hW, hsame⟩ := X6.leave (v := some (.long us)) (fun h => by rw [Bd.returns] at h; cases h) (BodyLoose.notSynchronized Bd)
      refine ⟨_, _, pre4 _ ?_, hrun, hended, _, _, rfl, ?_, ⟨_, rfl⟩, hW, hsame.mono (by decide) (by decide)⟩
      · skip
        show Steps p.tables e below (T3.setTop (mkF m 15 #[.val (.ref a1), .val (.long cy), .second, .unset] [(.int (lcmpW cy sc))])) _
        refine XS.ifYes X3.here hx rfl (pc0 := 15) (pc' := 22) rfl (hb hby own_d4_15) rfl ((if0 _ _).trans (feq (fun q => hc15 ((lw_eq cy sc).mp q))).2) (by decide) (by decide) ?_
        show Steps p.tables e below (T3.setTop (mkF m 22 #[.val (.ref a1), .val (.long cy), .second, .unset] [])) _
        refine XS.iconst X3.here hx rfl (hb hby own_d4_22) ?_
        show Steps p.tables e below (T3.setTop (mkF m 23 #[.val (.ref a1), .val (.long cy), .second, .unset] [(.int (0 : Int32))])) _
        refine XS.goto X3.here hx rfl (pc0 := 23) (pc' := 50) rfl (hb hby own_d4_23) (by decide) (by decide) ?_
        show Steps p.tables e below (T3.setTop (mkF m 50 #[.val (.ref a1), .val (.long cy), .second, .unset] [(.int (0 : Int32))])) _
        refine XS.istoreN X3.here hx rfl (hb hby own_d4_50) rfl (l' := #[.val (.ref a1), .val (.long cy), .second, .val (.int (0 : Int32))]) rfl ?_
        show Steps p.tables e below (T3.setTop (mkF m 51 #[.val (.ref a1), .val (.long cy), .second, .val (.int (0 : Int32))] [])) _
        refine XS.iloadN X3.here hx rfl (hb hby own_d4_51) rfl ?_
        show Steps p.tables e below (T3.setTop (mkF m 52 #[.val (.ref a1), .val (.long cy), .second, .val (.int (0 : Int32))] [(.int (0 : Int32))])) _
        refine XS.ifYes X3.here hx rfl (pc0 := 52) (pc' := 62) rfl (hb hby own_d4_52) rfl ((if0 _ _).trans (teq rfl).1) (by decide) (by decide) ?_
        show Steps p.tables e below (T3.setTop (mkF m 62 #[.val (.ref a1), .val (.long cy), .second, .val (.int (0 : Int32))] [])) _
        refine XS.aloadN X3.here hx rfl (hb hby own_d4_62) rfl rfl ?_
        show Steps p.tables e below (T3.setTop (mkF m 63 #[.val (.ref a1), .val (.long cy), .second, .val (.int (0 : Int32))] [(.ref a1)])) _
        refine st6 _ ?_
        show Steps p.tables e below (T6.setTop (mkF m 66 #[.val (.ref a1), .val (.long cy), .second, .val (.int (0 : Int32))] [(.long us)])) _
        exact X6.lreturnOut hx Bd.returns (hb hby own_d4_66) hr
      · show own_Q4 Z a1 cy us sl sc pe h0 n0 _ T6.heap _
        rw [e6]
        refine ⟨?_, N0, rfl⟩
        simp [own_of, own_is, hc6, hc15]
  case neg =>
    obtain ⟨T7, X7, e7, st7⟩ := getF X1 hx hZ hown (host := "") (Or.inl (hw _ (List.mem_of_getElem? (i := 21) rfl))) Via.refl e1 F_period (g := (mkF m 28 #[.val (.ref a1), .val (.long cy), .second, .unset] [(.ref a1), (.long cy)])) rfl rfl (hb hby own_d4_28)
    obtain ⟨T8, X8, e8, st8⟩ := getF X7 hx hZ hown (host := "") (Or.inl (hw _ (List.mem_of_getElem? (i := 19) rfl))) Via.refl e7 F_stallCycle (g := (mkF m 33 #[.val (.ref a1), .val (.long cy), .second, .unset] [(.ref a1), (.long (cy % pe))])) rfl rfl (hb hby own_d4_33)
    obtain ⟨T9, X9, e9, st9⟩ := getF X8 hx hZ hown (host := "") (Or.inl (hw _ (List.mem_of_getElem? (i := 21) rfl))) Via.refl e8 F_period (g := (mkF m 37 #[.val (.ref a1), .val (.long cy), .second, .unset] [(.ref a1), (.long sc), (.long (cy % pe))])) rfl rfl (hb hby own_d4_37)
    have pre10 : ∀ t, Steps p.tables e below (T9.setTop (mkF m 42 #[.val (.ref a1), .val (.long cy), .second, .unset] [(.int (lcmpW (cy % pe) (sc % pe)))])) t → Steps p.tables e below (s₁.setTop (entryFrame m #[(.ref a1), (.long cy)] 4)) t := by
      intro t kt
      refine pre2 t ?_
      show Steps p.tables e below (T1.setTop (mkF m 6 #[.val (.ref a1), .val (.long cy), .second, .unset] [(.int (lcmpW pe (0 : Int64)))])) _
      refine XS.ifYes X1.here hx rfl (pc0 := 6) (pc' := 26) rfl (hb hby own_d4_6) rfl ((if0 _ _).trans (feq (fun q => hc6 ((lw_eq pe (0 : Int64)).mp q))).2) (by decide) (by decide) ?_
      show Steps p.tables e below (T1.setTop (mkF m 26 #[.val (.ref a1), .val (.long cy), .second, .unset] [])) _
      refine XS.lloadN X1.here hx rfl (hb hby own_d4_26) rfl ?_
      show Steps p.tables e below (T1.setTop (mkF m 27 #[.val (.ref a1), .val (.long cy), .second, .unset] [(.long cy)])) _
      refine XS.aloadN X1.here hx rfl (hb hby own_d4_27) rfl rfl ?_
      show Steps p.tables e below (T1.setTop (mkF m 28 #[.val (.ref a1), .val (.long cy), .second, .unset] [(.ref a1), (.long cy)])) _
      refine st7 _ ?_
      show Steps p.tables e below (T7.setTop (mkF m 31 #[.val (.ref a1), .val (.long cy), .second, .unset] [(.long pe), (.long cy)])) _
      refine own_lremM X7 hx rfl (hb hby own_d4_31) rfl hc6 ?_
      show Steps p.tables e below (T7.setTop (mkF m 32 #[.val (.ref a1), .val (.long cy), .second, .unset] [(.long (cy % pe))])) _
      refine XS.aloadN X7.here hx rfl (hb hby own_d4_32) rfl rfl ?_
      show Steps p.tables e below (T7.setTop (mkF m 33 #[.val (.ref a1), .val (.long cy), .second, .unset] [(.ref a1), (.long (cy % pe))])) _
      refine st8 _ ?_
      show Steps p.tables e below (T8.setTop (mkF m 36 #[.val (.ref a1), .val (.long cy), .second, .unset] [(.long sc), (.long (cy % pe))])) _
      refine XS.aloadN X8.here hx rfl (hb hby own_d4_36) rfl rfl ?_
      show Steps p.tables e below (T8.setTop (mkF m 37 #[.val (.ref a1), .val (.long cy), .second, .unset] [(.ref a1), (.long sc), (.long (cy % pe))])) _
      refine st9 _ ?_
      show Steps p.tables e below (T9.setTop (mkF m 40 #[.val (.ref a1), .val (.long cy), .second, .unset] [(.long pe), (.long sc), (.long (cy % pe))])) _
      refine own_lremM X9 hx rfl (hb hby own_d4_40) rfl hc6 ?_
      show Steps p.tables e below (T9.setTop (mkF m 41 #[.val (.ref a1), .val (.long cy), .second, .unset] [(.long (sc % pe)), (.long (cy % pe))])) _
      refine XS.lcmp X9.here hx rfl (hb hby own_d4_41) rfl ?_
      exact kt
    by_cases hc42 : (cy % pe) = (sc % pe)
    case pos =>
      obtain ⟨T11, X11, e11, st11⟩ := getF X9 hx hZ hown (host := "") (Or.inl (hw _ (List.mem_of_getElem? (i := 17) rfl))) Via.refl e9 F_stalled (g := (mkF m 56 #[.val (.ref a1), .val (.long cy), .second, .val (.int (1 : Int32))] [(.ref a1)])) rfl rfl (hb hby own_d4_56)
      obtain ⟨fs, hr, hrun, hended, hW, hsame⟩ := X11.leave (v := some (.long sl)) (fun h => by rw [Bd.returns] at h; cases h) (BodyLoose.notSynchronized Bd)
      refine ⟨_, _, pre10 _ ?_, hrun, hended, _, _, rfl, ?_, ⟨_, rfl⟩, hW, hsame.mono (by decide) (by decide)⟩
      · skip
        show Steps p.tables e below (T9.setTop (mkF m 42 #[.val (.ref a1), .val (.long cy), .second, .unset] [(.int (lcmpW (cy % pe) (sc % pe)))])) _
        refine XS.ifNo X9.here hx rfl (hb hby own_d4_42) rfl ((if0 _ _).trans (teq ((lw_eq (cy % pe) (sc % pe)).mpr hc42)).2) ?_
        show Steps p.tables e below (T9.setTop (mkF m 45 #[.val (.ref a1), .val (.long cy), .second, .unset] [])) _
        refine XS.iconst X9.here hx rfl (hb hby own_d4_45) ?_
        show Steps p.tables e below (T9.setTop (mkF m 46 #[.val (.ref a1), .val (.long cy), .second, .unset] [(.int (1 : Int32))])) _
        refine XS.goto X9.here hx rfl (pc0 := 46) (pc' := 50) rfl (hb hby own_d4_46) (by decide) (by decide) ?_
        show Steps p.tables e below (T9.setTop (mkF m 50 #[.val (.ref a1), .val (.long cy), .second, .unset] [(.int (1 : Int32))])) _
        refine XS.istoreN X9.here hx rfl (hb hby own_d4_50) rfl (l' := #[.val (.ref a1), .val (.long cy), .second, .val (.int (1 : Int32))]) rfl ?_
        show Steps p.tables e below (T9.setTop (mkF m 51 #[.val (.ref a1), .val (.long cy), .second, .val (.int (1 : Int32))] [])) _
        refine XS.iloadN X9.here hx rfl (hb hby own_d4_51) rfl ?_
        show Steps p.tables e below (T9.setTop (mkF m 52 #[.val (.ref a1), .val (.long cy), .second, .val (.int (1 : Int32))] [(.int (1 : Int32))])) _
        refine XS.ifNo X9.here hx rfl (hb hby own_d4_52) rfl ((if0 _ _).trans (feq (by decide)).1) ?_
        show Steps p.tables e below (T9.setTop (mkF m 55 #[.val (.ref a1), .val (.long cy), .second, .val (.int (1 : Int32))] [])) _
        refine XS.aloadN X9.here hx rfl (hb hby own_d4_55) rfl rfl ?_
        show Steps p.tables e below (T9.setTop (mkF m 56 #[.val (.ref a1), .val (.long cy), .second, .val (.int (1 : Int32))] [(.ref a1)])) _
        refine st11 _ ?_
        show Steps p.tables e below (T11.setTop (mkF m 59 #[.val (.ref a1), .val (.long cy), .second, .val (.int (1 : Int32))] [(.long sl)])) _
        refine XS.goto X11.here hx rfl (pc0 := 59) (pc' := 66) rfl (hb hby own_d4_59) (by decide) (by decide) ?_
        show Steps p.tables e below (T11.setTop (mkF m 66 #[.val (.ref a1), .val (.long cy), .second, .val (.int (1 : Int32))] [(.long sl)])) _
        exact X11.lreturnOut hx Bd.returns (hb hby own_d4_66) hr
      · show own_Q4 Z a1 cy us sl sc pe h0 n0 _ T11.heap _
        rw [e11]
        refine ⟨?_, N0, rfl⟩
        simp [own_of, own_is, hc6, hc42]
    case neg =>
      obtain ⟨T12, X12, e12, st12⟩ := getF X9 hx hZ hown (host := "") (Or.inl (hw _ (List.mem_of_getElem? (i := 15) rfl))) Via.refl e9 F_usual (g := (mkF m 63 #[.val (.ref a1), .val (.long cy), .second, .val (.int (0 : Int32))] [(.ref a1)])) rfl rfl (hb hby own_d4_63)
      obtain ⟨fs, hr, hrun, hended, hW, hsame⟩ := X12.leave (v := some (.long us)) (fun h => by rw [Bd.returns] at h; cases h) (BodyLoose.notSynchronized Bd)
      refine ⟨_, _, pre10 _ ?_, hrun, hended, _, _, rfl, ?_, ⟨_, rfl⟩, hW, hsame.mono (by decide) (by decide)⟩
      · skip
        show Steps p.tables e below (T9.setTop (mkF m 42 #[.val (.ref a1), .val (.long cy), .second, .unset] [(.int (lcmpW (cy % pe) (sc % pe)))])) _
        refine XS.ifYes X9.here hx rfl (pc0 := 42) (pc' := 49) rfl (hb hby own_d4_42) rfl ((if0 _ _).trans (feq (fun q => hc42 ((lw_eq (cy % pe) (sc % pe)).mp q))).2) (by decide) (by decide) ?_
        show Steps p.tables e below (T9.setTop (mkF m 49 #[.val (.ref a1), .val (.long cy), .second, .unset] [])) _
        refine XS.iconst X9.here hx rfl (hb hby own_d4_49) ?_
        show Steps p.tables e below (T9.setTop (mkF m 50 #[.val (.ref a1), .val (.long cy), .second, .unset] [(.int (0 : Int32))])) _
        refine XS.istoreN X9.here hx rfl (hb hby own_d4_50) rfl (l' := #[.val (.ref a1), .val (.long cy), .second, .val (.int (0 : Int32))]) rfl ?_
        show Steps p.tables e below (T9.setTop (mkF m 51 #[.val (.ref a1), .val (.long cy), .second, .val (.int (0 : Int32))] [])) _
        refine XS.iloadN X9.here hx rfl (hb hby own_d4_51) rfl ?_
        show Steps p.tables e below (T9.setTop (mkF m 52 #[.val (.ref a1), .val (.long cy), .second, .val (.int (0 : Int32))] [(.int (0 : Int32))])) _
        refine XS.ifYes X9.here hx rfl (pc0 := 52) (pc' := 62) rfl (hb hby own_d4_52) rfl ((if0 _ _).trans (teq rfl).1) (by decide) (by decide) ?_
        show Steps p.tables e below (T9.setTop (mkF m 62 #[.val (.ref a1), .val (.long cy), .second, .val (.int (0 : Int32))] [])) _
        refine XS.aloadN X9.here hx rfl (hb hby own_d4_62) rfl rfl ?_
        show Steps p.tables e below (T9.setTop (mkF m 63 #[.val (.ref a1), .val (.long cy), .second, .val (.int (0 : Int32))] [(.ref a1)])) _
        refine st12 _ ?_
        show Steps p.tables e below (T12.setTop (mkF m 66 #[.val (.ref a1), .val (.long cy), .second, .val (.int (0 : Int32))] [(.long us)])) _
        exact X12.lreturnOut hx Bd.returns (hb hby own_d4_66) hr
      · show own_Q4 Z a1 cy us sl sc pe h0 n0 _ T12.heap _
        rw [e12]
        refine ⟨?_, N0, rfl⟩
        simp [own_of, own_is, hc6, hc42]
theorem own_pn2 : plainName "com/example/paceline/paceline/sim/ServiceTimesOfPinLaw" = true := by first | (simp [plainName, overriddenIn]; done) | decide +kernel
theorem own_pd1 : parseMethodDescriptor "(JJJJ)V" = some ⟨[.long, .long, .long, .long], none⟩ := by decide +kernel
theorem own_pd2 : parseMethodDescriptor "(J)J" = some ⟨[.long], some .long⟩ := by decide +kernel
theorem own_ef0 (m : MethodId) (x0 : Int64) (x1 : Int64) (x2 : Int64) (x3 : Int64) (x4 : Int64) (x5 : Int32) : entryFrame m #[(.long x0), (.long x1), (.long x2), (.long x3), (.long x4), (.int x5)] maxLocals = mkF m 0 #[.val (.long x0), .second, .val (.long x1), .second, .val (.long x2), .second, .val (.long x3), .second, .val (.long x4), .second, .val (.int x5), .unset, .unset, .unset, .unset, .unset, .unset, .unset, .unset, .unset, .unset, .unset, .unset, .unset, .unset, .unset, .unset] [] := by first | (simp [entryFrame, mkF, argsToLocals, Value.category, maxLocals]; done) | rfl
def own_Q0 (Z : State) (a1 : Int64) (a2 : Int64) (a3 : Int64) (a4 : Int64) (a5 : Int64) (a6 : Int32) (h0 : Heap) (n0 : Nat) (v : Option Value) (h : Heap) (L : List Loc) : Prop := v = some (.int 1) ∧ Fr n0 L
set_option maxRecDepth 65536 in
set_option maxHeartbeats 40000000 in
theorem own_rm0 (l : Launch) (Z : State) (a0 : Array Value) (hw : ∀ d ∈ tables_1, d.before a0 Z = true) (ws : List Jvm.Cond) (a1 : Int64) (a2 : Int64) (a3 : Int64) (a4 : Int64) (a5 : Int64) (a6 : Int32) (h0 : Heap) (n0 : Nat) (Z0 : n0 ≤ h0.size) :
    MetFree l x (head1 (Jvm.Cond.code x code maxLocals ret :: ws) room_1) (fun a U => a = #[(.long a1), (.long a2), (.long a3), (.long a4), (.long a5), (.int a6)] ∧ Z.Warmed39 U.vm ∧ U.heap = h0) (fun _ _ _ _ _ => True) (fun _ U o U' => ∃ v L, o = .returned v ∧ own_Q0 Z a1 a2 a3 a4 a5 a6 h0 n0 v U'.heap L ∧ FrameEnd U o U' L room_1.cells room_1.slots) := by
  refine MetFree.of_bodySF (plainFor_of_name own_pn2) hisR ?_
  intro p e s m args below meth c s₁ Bd hml0 hP hK
  obtain ⟨rfl, hZ, hh⟩ := hP
  have hx := Bd.exec
  have hby := Bd.bytes
  have hml : c.maxLocals = 27 := hml0
  have hown : s.vm.findClass "com/example/paceline/paceline/sim/ServiceTimesOfPinLaw" = some m.cls := findClass_of_methodNamed Bd.named
  have hnm := (name_of_methodNamed Bd.named Bd.method).1
  have X0 : Stand p l e room_1 s m #[(.long a1), (.long a2), (.long a3), (.long a4), (.long a5), (.int a6)] below meth c s₁ [] 0 0 := Stand.of_body Bd
  have e0 : s₁.heap = h0 := by rw [← hh, Bd.state]; rfl
  have N0 := Fr.nil n0
  have K0 := Keep.refl h0 []
  have pre0 : ∀ t, Steps p.tables e below (s₁.setTop (mkF m 0 #[.val (.long a1), .second, .val (.long a2), .second, .val (.long a3), .second, .val (.long a4), .second, .val (.long a5), .second, .val (.int a6), .unset, .unset, .unset, .unset, .unset, .unset, .unset, .unset, .unset, .unset, .unset, .unset, .unset, .unset, .unset, .unset] [])) t → Steps p.tables e below (s₁.setTop (entryFrame m #[(.long a1), (.long a2), (.long a3), (.long a4), (.long a5), (.int a6)] maxLocals)) t := fun t kt0 => castTop (own_ef0 m (a1) (a2) (a3) (a4) (a5) (a6)) kt0
  have pre1 : ∀ t, Steps p.tables e below (s₁.setTop (mkF m 4 #[.val (.long a1), .second, .val (.long a2), .second, .val (.long a3), .second, .val (.long a4), .second, .val (.long a5), .second, .val (.int a6), .unset, .unset, .unset, .unset, .unset, .unset, .unset, .unset, .unset, .unset, .unset, .unset, .unset, .unset, .unset, .unset] [(.int (a6 &&& (1 : Int32)))])) t → Steps p.tables e below (s₁.setTop (entryFrame m #[(.long a1), (.long a2), (.long a3), (.long a4), (.long a5), (.int a6)] maxLocals)) t := by
    intro t kt
    refine pre0 t ?_
    show Steps p.tables e below (s₁.setTop (mkF m 0 #[.val (.long a1), .second, .val (.long a2), .second, .val (.long a3), .second, .val (.long a4), .second, .val (.long a5), .second, .val (.int a6), .unset, .unset, .unset, .unset, .unset, .unset, .unset, .unset, .unset, .unset, .unset, .unset, .unset, .unset, .unset, .unset] [])) _
    refine XS.iload X0.here hx rfl (hb hby at_0) rfl ?_
    show Steps p.tables e below (s₁.setTop (mkF m 2 #[.val (.long a1), .second, .val (.long a2), .second, .val (.long a3), .second, .val (.long a4), .second, .val (.long a5), .second, .val (.int a6), .unset, .unset, .unset, .unset, .unset, .unset, .unset, .unset, .unset, .unset, .unset, .unset, .unset, .unset, .unset, .unset] [(.int a6)])) _
    refine XS.iconst X0.here hx rfl (hb hby at_2) ?_
    show Steps p.tables e below (s₁.setTop (mkF m 3 #[.val (.long a1), .second, .val (.long a2), .second, .val (.long a3), .second, .val (.long a4), .second, .val (.long a5), .second, .val (.int a6), .unset, .unset, .unset, .unset, .unset, .unset, .unset, .unset, .unset, .unset, .unset, .unset, .unset, .unset, .unset, .unset] [(.int (1 : Int32)), (.int a6)])) _
    refine XS.iand X0.here hx rfl (hb hby at_3) rfl ?_
    exact kt
  obtain ⟨T2, Lc2, zz, X2, e2, N2, hp2, pre2⟩ : ∃ (T2 : State) (Lc2 : List Loc) (zz : Int32), Stand p l e room_1 s m #[(.long a1), (.long a2), (.long a3), (.long a4), (.long a5), (.int a6)] below meth c T2 Lc2 0 0 ∧ T2.heap = h0 ∧ Fr n0 Lc2 ∧ (True) ∧ ∀ t, Steps p.tables e below (T2.setTop (mkF m 12 #[.val (.long a1), .second, .val (.long a2), .second, .val (.long a3), .second, .val (.long a4), .second, .val (.long a5), .second, .val (.int a6), .unset, .unset, .unset, .unset, .unset, .unset, .unset, .unset, .unset, .unset, .unset, .unset, .unset, .unset, .unset, .unset] [(.int zz)])) t → Steps p.tables e below (s₁.setTop (entryFrame m #[(.long a1), (.long a2), (.long a3), (.long a4), (.long a5), (.int a6)] maxLocals)) t := by
    by_cases hc4 : (a6 &&& (1 : Int32)) = (0 : Int32)
    case pos =>
      have pre3 : ∀ t, Steps p.tables e below (s₁.setTop (mkF m 12 #[.val (.long a1), .second, .val (.long a2), .second, .val (.long a3), .second, .val (.long a4), .second, .val (.long a5), .second, .val (.int a6), .unset, .unset, .unset, .unset, .unset, .unset, .unset, .unset, .unset, .unset, .unset, .unset, .unset, .unset, .unset, .unset] [(.int (0 : Int32))])) t → Steps p.tables e below (s₁.setTop (entryFrame m #[(.long a1), (.long a2), (.long a3), (.long a4), (.long a5), (.int a6)] maxLocals)) t := by
        intro t kt
        refine pre1 t ?_
        show Steps p.tables e below (s₁.setTop (mkF m 4 #[.val (.long a1), .second, .val (.long a2), .second, .val (.long a3), .second, .val (.long a4), .second, .val (.long a5), .second, .val (.int a6), .unset, .unset, .unset, .unset, .unset, .unset, .unset, .unset, .unset, .unset, .unset, .unset, .unset, .unset, .unset, .unset] [(.int (a6 &&& (1 : Int32)))])) _
        refine XS.ifYes X0.here hx rfl (pc0 := 4) (pc' := 11) rfl (hb hby at_4) rfl ((if0 _ _).trans (teq hc4).1) (by decide) (by decide) ?_
        show Steps p.tables e below (s₁.setTop (mkF m 11 #[.val (.long a1), .second, .val (.long a2), .second, .val (.long a3), .second, .val (.long a4), .second, .val (.long a5), .second, .val (.int a6), .unset, .unset, .unset, .unset, .unset, .unset, .unset, .unset, .unset, .unset, .unset, .unset, .unset, .unset, .unset, .unset] [])) _
        refine XS.iconst X0.here hx rfl (hb hby at_11) ?_
        exact kt
      exact ⟨s₁, _, (0 : Int32), X0, e0, N0, trivial, pre3⟩
    case neg =>
      have pre4 : ∀ t, Steps p.tables e below (s₁.setTop (mkF m 12 #[.val (.long a1), .second, .val (.long a2), .second, .val (.long a3), .second, .val (.long a4), .second, .val (.long a5), .second, .val (.int a6), .unset, .unset, .unset, .unset, .unset, .unset, .unset, .unset, .unset, .unset, .unset, .unset, .unset, .unset, .unset, .unset] [(.int (1 : Int32))])) t → Steps p.tables e below (s₁.setTop (entryFrame m #[(.long a1), (.long a2), (.long a3), (.long a4), (.long a5), (.int a6)] maxLocals)) t := by
        intro t kt
        refine pre1 t ?_
        show Steps p.tables e below (s₁.setTop (mkF m 4 #[.val (.long a1), .second, .val (.long a2), .second, .val (.long a3), .second, .val (.long a4), .second, .val (.long a5), .second, .val (.int a6), .unset, .unset, .unset, .unset, .unset, .unset, .unset, .unset, .unset, .unset, .unset, .unset, .unset, .unset, .unset, .unset] [(.int (a6 &&& (1 : Int32)))])) _
        refine XS.ifNo X0.here hx rfl (hb hby at_4) rfl ((if0 _ _).trans (feq hc4).1) ?_
        show Steps p.tables e below (s₁.setTop (mkF m 7 #[.val (.long a1), .second, .val (.long a2), .second, .val (.long a3), .second, .val (.long a4), .second, .val (.long a5), .second, .val (.int a6), .unset, .unset, .unset, .unset, .unset, .unset, .unset, .unset, .unset, .unset, .unset, .unset, .unset, .unset, .unset, .unset] [])) _
        refine XS.iconst X0.here hx rfl (hb hby at_7) ?_
        show Steps p.tables e below (s₁.setTop (mkF m 8 #[.val (.long a1), .second, .val (.long a2), .second, .val (.long a3), .second, .val (.long a4), .second, .val (.long a5), .second, .val (.int a6), .unset, .unset, .unset, .unset, .unset, .unset, .unset, .unset, .unset, .unset, .unset, .unset, .unset, .unset, .unset, .unset] [(.int (1 : Int32))])) _
        refine XS.goto X0.here hx rfl (pc0 := 8) (pc' := 12) rfl (hb hby at_8) (by decide) (by decide) ?_
        exact kt
      exact ⟨s₁, _, (1 : Int32), X0, e0, N0, trivial, pre4⟩
  have pre5 : ∀ t, Steps p.tables e below (T2.setTop (mkF m 22 #[.val (.long a1), .second, .val (.long a2), .second, .val (.long a3), .second, .val (.long a4), .second, .val (.long a5), .second, .val (.int a6), .val (.int zz), .val (.int (((a6.toUInt32 >>> ((1 : Int32) &&& 31).toUInt32).toInt32) &&& (3 : Int32))), .unset, .unset, .unset, .unset, .unset, .unset, .unset, .unset, .unset, .unset, .unset, .unset, .unset, .unset] [])) t → Steps p.tables e below (s₁.setTop (entryFrame m #[(.long a1), (.long a2), (.long a3), (.long a4), (.long a5), (.int a6)] maxLocals)) t := by
    intro t kt
    refine pre2 t ?_
    show Steps p.tables e below (T2.setTop (mkF m 12 #[.val (.long a1), .second, .val (.long a2), .second, .val (.long a3), .second, .val (.long a4), .second, .val (.long a5), .second, .val (.int a6), .unset, .unset, .unset, .unset, .unset, .unset, .unset, .unset, .unset, .unset, .unset, .unset, .unset, .unset, .unset, .unset] [(.int zz)])) _
    refine XS.istore X2.here hx rfl (hb hby at_12) rfl (l' := #[.val (.long a1), .second, .val (.long a2), .second, .val (.long a3), .second, .val (.long a4), .second, .val (.long a5), .second, .val (.int a6), .val (.int zz), .unset, .unset, .unset, .unset, .unset, .unset, .unset, .unset, .unset, .unset, .unset, .unset, .unset, .unset, .unset]) rfl ?_
    show Steps p.tables e below (T2.setTop (mkF m 14 #[.val (.long a1), .second, .val (.long a2), .second, .val (.long a3), .second, .val (.long a4), .second, .val (.long a5), .second, .val (.int a6), .val (.int zz), .unset, .unset, .unset, .unset, .unset, .unset, .unset, .unset, .unset, .unset, .unset, .unset, .unset, .unset, .unset] [])) _
    refine XS.iload X2.here hx rfl (hb hby at_14) rfl ?_
    show Steps p.tables e below (T2.setTop (mkF m 16 #[.val (.long a1), .second, .val (.long a2), .second, .val (.long a3), .second, .val (.long a4), .second, .val (.long a5), .second, .val (.int a6), .val (.int zz), .unset, .unset, .unset, .unset, .unset, .unset, .unset, .unset, .unset, .unset, .unset, .unset, .unset, .unset, .unset] [(.int a6)])) _
    refine XS.iconst X2.here hx rfl (hb hby at_16) ?_
    show Steps p.tables e below (T2.setTop (mkF m 17 #[.val (.long a1), .second, .val (.long a2), .second, .val (.long a3), .second, .val (.long a4), .second, .val (.long a5), .second, .val (.int a6), .val (.int zz), .unset, .unset, .unset, .unset, .unset, .unset, .unset, .unset, .unset, .unset, .unset, .unset, .unset, .unset, .unset] [(.int (1 : Int32)), (.int a6)])) _
    refine XS.iushr X2.here hx rfl (hb hby at_17) rfl ?_
    show Steps p.tables e below (T2.setTop (mkF m 18 #[.val (.long a1), .second, .val (.long a2), .second, .val (.long a3), .second, .val (.long a4), .second, .val (.long a5), .second, .val (.int a6), .val (.int zz), .unset, .unset, .unset, .unset, .unset, .unset, .unset, .unset, .unset, .unset, .unset, .unset, .unset, .unset, .unset] [(.int ((a6.toUInt32 >>> ((1 : Int32) &&& 31).toUInt32).toInt32))])) _
    refine XS.iconst X2.here hx rfl (hb hby at_18) ?_
    show Steps p.tables e below (T2.setTop (mkF m 19 #[.val (.long a1), .second, .val (.long a2), .second, .val (.long a3), .second, .val (.long a4), .second, .val (.long a5), .second, .val (.int a6), .val (.int zz), .unset, .unset, .unset, .unset, .unset, .unset, .unset, .unset, .unset, .unset, .unset, .unset, .unset, .unset, .unset] [(.int (3 : Int32)), (.int ((a6.toUInt32 >>> ((1 : Int32) &&& 31).toUInt32).toInt32))])) _
    refine XS.iand X2.here hx rfl (hb hby at_19) rfl ?_
    show Steps p.tables e below (T2.setTop (mkF m 20 #[.val (.long a1), .second, .val (.long a2), .second, .val (.long a3), .second, .val (.long a4), .second, .val (.long a5), .second, .val (.int a6), .val (.int zz), .unset, .unset, .unset, .unset, .unset, .unset, .unset, .unset, .unset, .unset, .unset, .unset, .unset, .unset, .unset] [(.int (((a6.toUInt32 >>> ((1 : Int32) &&& 31).toUInt32).toInt32) &&& (3 : Int32)))])) _
    refine XS.istore X2.here hx rfl (hb hby at_20) rfl (l' := #[.val (.long a1), .second, .val (.long a2), .second, .val (.long a3), .second, .val (.long a4), .second, .val (.long a5), .second, .val (.int a6), .val (.int zz), .val (.int (((a6.toUInt32 >>> ((1 : Int32) &&& 31).toUInt32).toInt32) &&& (3 : Int32))), .unset, .unset, .unset, .unset, .unset, .unset, .unset, .unset, .unset, .unset, .unset, .unset, .unset, .unset]) rfl ?_
    exact kt
  obtain ⟨hw2, hd_hw2⟩ : ∃ z : Int32, z = (((a6.toUInt32 >>> ((1 : Int32) &&& 31).toUInt32).toInt32) &&& (3 : Int32)) := ⟨_, rfl⟩
  have pre6 : ∀ t, Steps p.tables e below (T2.setTop (mkF m 22 #[.val (.long a1), .second, .val (.long a2), .second, .val (.long a3), .second, .val (.long a4), .second, .val (.long a5), .second, .val (.int a6), .val (.int zz), .val (.int hw2), .unset, .unset, .unset, .unset, .unset, .unset, .unset, .unset, .unset, .unset, .unset, .unset, .unset, .unset] [])) t → Steps p.tables e below (s₁.setTop (entryFrame m #[(.long a1), (.long a2), (.long a3), (.long a4), (.long a5), (.int a6)] maxLocals)) t := by rw [hd_hw2]; exact pre5
  have pre7 : ∀ t, Steps p.tables e below (T2.setTop (mkF m 31 #[.val (.long a1), .second, .val (.long a2), .second, .val (.long a3), .second, .val (.long a4), .second, .val (.long a5), .second, .val (.int a6), .val (.int zz), .val (.int hw2), .val (.long ((((a6.toUInt32 >>> ((3 : Int32) &&& 31).toUInt32).toInt32) &&& (3 : Int32)).toInt64)), .second, .unset, .unset, .unset, .unset, .unset, .unset, .unset, .unset, .unset, .unset, .unset, .unset] [])) t → Steps p.tables e below (s₁.setTop (entryFrame m #[(.long a1), (.long a2), (.long a3), (.long a4), (.long a5), (.int a6)] maxLocals)) t := by
    intro t kt
    refine pre6 t ?_
    show Steps p.tables e below (T2.setTop (mkF m 22 #[.val (.long a1), .second, .val (.long a2), .second, .val (.long a3), .second, .val (.long a4), .second, .val (.long a5), .second, .val (.int a6), .val (.int zz), .val (.int hw2), .unset, .unset, .unset, .unset, .unset, .unset, .unset, .unset, .unset, .unset, .unset, .unset, .unset, .unset] [])) _
    refine XS.iload X2.here hx rfl (hb hby at_22) rfl ?_
    show Steps p.tables e below (T2.setTop (mkF m 24 #[.val (.long a1), .second, .val (.long a2), .second, .val (.long a3), .second, .val (.long a4), .second, .val (.long a5), .second, .val (.int a6), .val (.int zz), .val (.int hw2), .unset, .unset, .unset, .unset, .unset, .unset, .unset, .unset, .unset, .unset, .unset, .unset, .unset, .unset] [(.int a6)])) _
    refine XS.iconst X2.here hx rfl (hb hby at_24) ?_
    show Steps p.tables e below (T2.setTop (mkF m 25 #[.val (.long a1), .second, .val (.long a2), .second, .val (.long a3), .second, .val (.long a4), .second, .val (.long a5), .second, .val (.int a6), .val (.int zz), .val (.int hw2), .unset, .unset, .unset, .unset, .unset, .unset, .unset, .unset, .unset, .unset, .unset, .unset, .unset, .unset] [(.int (3 : Int32)), (.int a6)])) _
    refine XS.iushr X2.here hx rfl (hb hby at_25) rfl ?_
    show Steps p.tables e below (T2.setTop (mkF m 26 #[.val (.long a1), .second, .val (.long a2), .second, .val (.long a3), .second, .val (.long a4), .second, .val (.long a5), .second, .val (.int a6), .val (.int zz), .val (.int hw2), .unset, .unset, .unset, .unset, .unset, .unset, .unset, .unset, .unset, .unset, .unset, .unset, .unset, .unset] [(.int ((a6.toUInt32 >>> ((3 : Int32) &&& 31).toUInt32).toInt32))])) _
    refine XS.iconst X2.here hx rfl (hb hby at_26) ?_
    show Steps p.tables e below (T2.setTop (mkF m 27 #[.val (.long a1), .second, .val (.long a2), .second, .val (.long a3), .second, .val (.long a4), .second, .val (.long a5), .second, .val (.int a6), .val (.int zz), .val (.int hw2), .unset, .unset, .unset, .unset, .unset, .unset, .unset, .unset, .unset, .unset, .unset, .unset, .unset, .unset] [(.int (3 : Int32)), (.int ((a6.toUInt32 >>> ((3 : Int32) &&& 31).toUInt32).toInt32))])) _
    refine XS.iand X2.here hx rfl (hb hby at_27) rfl ?_
    show Steps p.tables e below (T2.setTop (mkF m 28 #[.val (.long a1), .second, .val (.long a2), .second, .val (.long a3), .second, .val (.long a4), .second, .val (.long a5), .second, .val (.int a6), .val (.int zz), .val (.int hw2), .unset, .unset, .unset, .unset, .unset, .unset, .unset, .unset, .unset, .unset, .unset, .unset, .unset, .unset] [(.int (((a6.toUInt32 >>> ((3 : Int32) &&& 31).toUInt32).toInt32) &&& (3 : Int32)))])) _
    refine XS.i2l X2.here hx rfl (hb hby at_28) rfl ?_
    show Steps p.tables e below (T2.setTop (mkF m 29 #[.val (.long a1), .second, .val (.long a2), .second, .val (.long a3), .second, .val (.long a4), .second, .val (.long a5), .second, .val (.int a6), .val (.int zz), .val (.int hw2), .unset, .unset, .unset, .unset, .unset, .unset, .unset, .unset, .unset, .unset, .unset, .unset, .unset, .unset] [(.long ((((a6.toUInt32 >>> ((3 : Int32) &&& 31).toUInt32).toInt32) &&& (3 : Int32)).toInt64))])) _
    refine XS.lstore X2.here hx rfl (hb hby at_29) rfl (l' := #[.val (.long a1), .second, .val (.long a2), .second, .val (.long a3), .second, .val (.long a4), .second, .val (.long a5), .second, .val (.int a6), .val (.int zz), .val (.int hw2), .val (.long ((((a6.toUInt32 >>> ((3 : Int32) &&& 31).toUInt32).toInt32) &&& (3 : Int32)).toInt64)), .second, .unset, .unset, .unset, .unset, .unset, .unset, .unset, .unset, .unset, .unset, .unset, .unset]) rfl ?_
    exact kt
  obtain ⟨dd, hd_dd⟩ : ∃ z : Int64, z = ((((a6.toUInt32 >>> ((3 : Int32) &&& 31).toUInt32).toInt32) &&& (3 : Int32)).toInt64) := ⟨_, rfl⟩
  have pre8 : ∀ t, Steps p.tables e below (T2.setTop (mkF m 31 #[.val (.long a1), .second, .val (.long a2), .second, .val (.long a3), .second, .val (.long a4), .second, .val (.long a5), .second, .val (.int a6), .val (.int zz), .val (.int hw2), .val (.long dd), .second, .unset, .unset, .unset, .unset, .unset, .unset, .unset, .unset, .unset, .unset, .unset, .unset] [])) t → Steps p.tables e below (s₁.setTop (entryFrame m #[(.long a1), (.long a2), (.long a3), (.long a4), (.long a5), (.int a6)] maxLocals)) t := by rw [hd_dd]; exact pre7
  have pre9 : ∀ t, Steps p.tables e below (T2.setTop (mkF m 33 #[.val (.long a1), .second, .val (.long a2), .second, .val (.long a3), .second, .val (.long a4), .second, .val (.long a5), .second, .val (.int a6), .val (.int zz), .val (.int hw2), .val (.long dd), .second, .unset, .unset, .unset, .unset, .unset, .unset, .unset, .unset, .unset, .unset, .unset, .unset] [(.int hw2)])) t → Steps p.tables e below (s₁.setTop (entryFrame m #[(.long a1), (.long a2), (.long a3), (.long a4), (.long a5), (.int a6)] maxLocals)) t := by
    intro t kt
    refine pre8 t ?_
    show Steps p.tables e below (T2.setTop (mkF m 31 #[.val (.long a1), .second, .val (.long a2), .second, .val (.long a3), .second, .val (.long a4), .second, .val (.long a5), .second, .val (.int a6), .val (.int zz), .val (.int hw2), .val (.long dd), .second, .unset, .unset, .unset, .unset, .unset, .unset, .unset, .unset, .unset, .unset, .unset, .unset] [])) _
    refine XS.iload X2.here hx rfl (hb hby at_31) rfl ?_
    exact kt
  by_cases hc33 : hw2 = (0 : Int32)
  case pos =>
    have pre10 : ∀ t, Steps p.tables e below (T2.setTop (mkF m 46 #[.val (.long a1), .second, .val (.long a2), .second, .val (.long a3), .second, .val (.long a4), .second, .val (.long a5), .second, .val (.int a6), .val (.int zz), .val (.int hw2), .val (.long dd), .second, .val (.long (a3 &&& (9223372036854775807 : Int64))), .second, .unset, .unset, .unset, .unset, .unset, .unset, .unset, .unset, .unset, .unset] [(.int zz)])) t → Steps p.tables e below (s₁.setTop (entryFrame m #[(.long a1), (.long a2), (.long a3), (.long a4), (.long a5), (.int a6)] maxLocals)) t := by
      intro t kt
      refine pre9 t ?_
      show Steps p.tables e below (T2.setTop (mkF m 33 #[.val (.long a1), .second, .val (.long a2), .second, .val (.long a3), .second, .val (.long a4), .second, .val (.long a5), .second, .val (.int a6), .val (.int zz), .val (.int hw2), .val (.long dd), .second, .unset, .unset, .unset, .unset, .unset, .unset, .unset, .unset, .unset, .unset, .unset, .unset] [(.int hw2)])) _
      refine XS.ifNo X2.here hx rfl (hb hby at_33) rfl ((if0 _ _).trans (teq hc33).2) ?_
      show Steps p.tables e below (T2.setTop (mkF m 36 #[.val (.long a1), .second, .val (.long a2), .second, .val (.long a3), .second, .val (.long a4), .second, .val (.long a5), .second, .val (.int a6), .val (.int zz), .val (.int hw2), .val (.long dd), .second, .unset, .unset, .unset, .unset, .unset, .unset, .unset, .unset, .unset, .unset, .unset, .unset] [])) _
      refine XS.lload X2.here hx rfl (hb hby at_36) rfl ?_
      show Steps p.tables e below (T2.setTop (mkF m 38 #[.val (.long a1), .second, .val (.long a2), .second, .val (.long a3), .second, .val (.long a4), .second, .val (.long a5), .second, .val (.int a6), .val (.int zz), .val (.int hw2), .val (.long dd), .second, .unset, .unset, .unset, .unset, .unset, .unset, .unset, .unset, .unset, .unset, .unset, .unset] [(.long a3)])) _
      refine X2.ldc2Long hx hown (mvT hZ (hw _ (List.mem_of_getElem? (i := 0) rfl))) (g := (mkF m 38 #[.val (.long a1), .second, .val (.long a2), .second, .val (.long a3), .second, .val (.long a4), .second, .val (.long a5), .second, .val (.int a6), .val (.int zz), .val (.int hw2), .val (.long dd), .second, .unset, .unset, .unset, .unset, .unset, .unset, .unset, .unset, .unset, .unset, .unset, .unset] [(.long a3)])) rfl (hb hby at_38) _ ?_
      show Steps p.tables e below (T2.setTop (mkF m 41 #[.val (.long a1), .second, .val (.long a2), .second, .val (.long a3), .second, .val (.long a4), .second, .val (.long a5), .second, .val (.int a6), .val (.int zz), .val (.int hw2), .val (.long dd), .second, .unset, .unset, .unset, .unset, .unset, .unset, .unset, .unset, .unset, .unset, .unset, .unset] [(.long (9223372036854775807 : Int64)), (.long a3)])) _
      refine XS.land X2.here hx rfl (hb hby at_41) rfl ?_
      show Steps p.tables e below (T2.setTop (mkF m 42 #[.val (.long a1), .second, .val (.long a2), .second, .val (.long a3), .second, .val (.long a4), .second, .val (.long a5), .second, .val (.int a6), .val (.int zz), .val (.int hw2), .val (.long dd), .second, .unset, .unset, .unset, .unset, .unset, .unset, .unset, .unset, .unset, .unset, .unset, .unset] [(.long (a3 &&& (9223372036854775807 : Int64)))])) _
      refine XS.lstore X2.here hx rfl (hb hby at_42) rfl (l' := #[.val (.long a1), .second, .val (.long a2), .second, .val (.long a3), .second, .val (.long a4), .second, .val (.long a5), .second, .val (.int a6), .val (.int zz), .val (.int hw2), .val (.long dd), .second, .val (.long (a3 &&& (9223372036854775807 : Int64))), .second, .unset, .unset, .unset, .unset, .unset, .unset, .unset, .unset, .unset, .unset]) rfl ?_
      show Steps p.tables e below (T2.setTop (mkF m 44 #[.val (.long a1), .second, .val (.long a2), .second, .val (.long a3), .second, .val (.long a4), .second, .val (.long a5), .second, .val (.int a6), .val (.int zz), .val (.int hw2), .val (.long dd), .second, .val (.long (a3 &&& (9223372036854775807 : Int64))), .second, .unset, .unset, .unset, .unset, .unset, .unset, .unset, .unset, .unset, .unset] [])) _
      refine XS.iload X2.here hx rfl (hb hby at_44) rfl ?_
      exact kt
    obtain ⟨T11, Lc11, pe, X11, e11, N11, hp11, pre11⟩ : ∃ (T11 : State) (Lc11 : List Loc) (pe : Int64), Stand p l e room_1 s m #[(.long a1), (.long a2), (.long a3), (.long a4), (.long a5), (.int a6)] below meth c T11 Lc11 0 0 ∧ T11.heap = h0 ∧ Fr n0 Lc11 ∧ (0 ≤ pe.toInt) ∧ ∀ t, Steps p.tables e below (T11.setTop (mkF m 59 #[.val (.long a1), .second, .val (.long a2), .second, .val (.long a3), .second, .val (.long a4), .second, .val (.long a5), .second, .val (.int a6), .val (.int zz), .val (.int hw2), .val (.long dd), .second, .val (.long (a3 &&& (9223372036854775807 : Int64))), .second, .unset, .unset, .unset, .unset, .unset, .unset, .unset, .unset, .unset, .unset] [(.long pe)])) t → Steps p.tables e below (s₁.setTop (entryFrame m #[(.long a1), (.long a2), (.long a3), (.long a4), (.long a5), (.int a6)] maxLocals)) t := by
      by_cases hc46 : zz = (0 : Int32)
      case pos =>
        have pre12 : ∀ t, Steps p.tables e below (T2.setTop (mkF m 59 #[.val (.long a1), .second, .val (.long a2), .second, .val (.long a3), .second, .val (.long a4), .second, .val (.long a5), .second, .val (.int a6), .val (.int zz), .val (.int hw2), .val (.long dd), .second, .val (.long (a3 &&& (9223372036854775807 : Int64))), .second, .unset, .unset, .unset, .unset, .unset, .unset, .unset, .unset, .unset, .unset] [(.long (a4 &&& (9223372036854775807 : Int64)))])) t → Steps p.tables e below (s₁.setTop (entryFrame m #[(.long a1), (.long a2), (.long a3), (.long a4), (.long a5), (.int a6)] maxLocals)) t := by
          intro t kt
          refine pre10 t ?_
          show Steps p.tables e below (T2.setTop (mkF m 46 #[.val (.long a1), .second, .val (.long a2), .second, .val (.long a3), .second, .val (.long a4), .second, .val (.long a5), .second, .val (.int a6), .val (.int zz), .val (.int hw2), .val (.long dd), .second, .val (.long (a3 &&& (9223372036854775807 : Int64))), .second, .unset, .unset, .unset, .unset, .unset, .unset, .unset, .unset, .unset, .unset] [(.int zz)])) _
          refine XS.ifYes X2.here hx rfl (pc0 := 46) (pc' := 53) rfl (hb hby at_46) rfl ((if0 _ _).trans (teq hc46).1) (by decide) (by decide) ?_
          show Steps p.tables e below (T2.setTop (mkF m 53 #[.val (.long a1), .second, .val (.long a2), .second, .val (.long a3), .second, .val (.long a4), .second, .val (.long a5), .second, .val (.int a6), .val (.int zz), .val (.int hw2), .val (.long dd), .second, .val (.long (a3 &&& (9223372036854775807 : Int64))), .second, .unset, .unset, .unset, .unset, .unset, .unset, .unset, .unset, .unset, .unset] [])) _
          refine XS.lload X2.here hx rfl (hb hby at_53) rfl ?_
          show Steps p.tables e below (T2.setTop (mkF m 55 #[.val (.long a1), .second, .val (.long a2), .second, .val (.long a3), .second, .val (.long a4), .second, .val (.long a5), .second, .val (.int a6), .val (.int zz), .val (.int hw2), .val (.long dd), .second, .val (.long (a3 &&& (9223372036854775807 : Int64))), .second, .unset, .unset, .unset, .unset, .unset, .unset, .unset, .unset, .unset, .unset] [(.long a4)])) _
          refine X2.ldc2Long hx hown (mvT hZ (hw _ (List.mem_of_getElem? (i := 0) rfl))) (g := (mkF m 55 #[.val (.long a1), .second, .val (.long a2), .second, .val (.long a3), .second, .val (.long a4), .second, .val (.long a5), .second, .val (.int a6), .val (.int zz), .val (.int hw2), .val (.long dd), .second, .val (.long (a3 &&& (9223372036854775807 : Int64))), .second, .unset, .unset, .unset, .unset, .unset, .unset, .unset, .unset, .unset, .unset] [(.long a4)])) rfl (hb hby at_55) _ ?_
          show Steps p.tables e below (T2.setTop (mkF m 58 #[.val (.long a1), .second, .val (.long a2), .second, .val (.long a3), .second, .val (.long a4), .second, .val (.long a5), .second, .val (.int a6), .val (.int zz), .val (.int hw2), .val (.long dd), .second, .val (.long (a3 &&& (9223372036854775807 : Int64))), .second, .unset, .unset, .unset, .unset, .unset, .unset, .unset, .unset, .unset, .unset] [(.long (9223372036854775807 : Int64)), (.long a4)])) _
          refine XS.land X2.here hx rfl (hb hby at_58) rfl ?_
          exact kt
        exact ⟨T2, _, (a4 &&& (9223372036854775807 : Int64)), X2, e2, N2, (own_m63 a4), pre12⟩
      case neg =>
        have pre13 : ∀ t, Steps p.tables e below (T2.setTop (mkF m 59 #[.val (.long a1), .second, .val (.long a2), .second, .val (.long a3), .second, .val (.long a4), .second, .val (.long a5), .second, .val (.int a6), .val (.int zz), .val (.int hw2), .val (.long dd), .second, .val (.long (a3 &&& (9223372036854775807 : Int64))), .second, .unset, .unset, .unset, .unset, .unset, .unset, .unset, .unset, .unset, .unset] [(.long (0 : Int64))])) t → Steps p.tables e below (s₁.setTop (entryFrame m #[(.long a1), (.long a2), (.long a3), (.long a4), (.long a5), (.int a6)] maxLocals)) t := by
          intro t kt
          refine pre10 t ?_
          show Steps p.tables e below (T2.setTop (mkF m 46 #[.val (.long a1), .second, .val (.long a2), .second, .val (.long a3), .second, .val (.long a4), .second, .val (.long a5), .second, .val (.int a6), .val (.int zz), .val (.int hw2), .val (.long dd), .second, .val (.long (a3 &&& (9223372036854775807 : Int64))), .second, .unset, .unset, .unset, .unset, .unset, .unset, .unset, .unset, .unset, .unset] [(.int zz)])) _
          refine XS.ifNo X2.here hx rfl (hb hby at_46) rfl ((if0 _ _).trans (feq hc46).1) ?_
          show Steps p.tables e below (T2.setTop (mkF m 49 #[.val (.long a1), .second, .val (.long a2), .second, .val (.long a3), .second, .val (.long a4), .second, .val (.long a5), .second, .val (.int a6), .val (.int zz), .val (.int hw2), .val (.long dd), .second, .val (.long (a3 &&& (9223372036854775807 : Int64))), .second, .unset, .unset, .unset, .unset, .unset, .unset, .unset, .unset, .unset, .unset] [])) _
          refine XS.lconst X2.here hx rfl (hb hby at_49) ?_
          show Steps p.tables e below (T2.setTop (mkF m 50 #[.val (.long a1), .second, .val (.long a2), .second, .val (.long a3), .second, .val (.long a4), .second, .val (.long a5), .second, .val (.int a6), .val (.int zz), .val (.int hw2), .val (.long dd), .second, .val (.long (a3 &&& (9223372036854775807 : Int64))), .second, .unset, .unset, .unset, .unset, .unset, .unset, .unset, .unset, .unset, .unset] [(.long (0 : Int64))])) _
          refine XS.goto X2.here hx rfl (pc0 := 50) (pc' := 59) rfl (hb hby at_50) (by decide) (by decide) ?_
          exact kt
        exact ⟨T2, _, (0 : Int64), X2, e2, N2, (by decide), pre13⟩
    have hpe := hp11
    have pre14 : ∀ t, Steps p.tables e below (T11.setTop (mkF m 211 #[.val (.long a1), .second, .val (.long a2), .second, .val (.long a3), .second, .val (.long a4), .second, .val (.long a5), .second, .val (.int a6), .val (.int zz), .val (.int hw2), .val (.long dd), .second, .val (.long (a3 &&& (9223372036854775807 : Int64))), .second, .val (.long pe), .second, .val (.long (a5 &&& (9223372036854775807 : Int64))), .second, .unset, .unset, .unset, .unset, .unset, .unset] [])) t → Steps p.tables e below (s₁.setTop (entryFrame m #[(.long a1), (.long a2), (.long a3), (.long a4), (.long a5), (.int a6)] maxLocals)) t := by
      intro t kt
      refine pre11 t ?_
      show Steps p.tables e below (T11.setTop (mkF m 59 #[.val (.long a1), .second, .val (.long a2), .second, .val (.long a3), .second, .val (.long a4), .second, .val (.long a5), .second, .val (.int a6), .val (.int zz), .val (.int hw2), .val (.long dd), .second, .val (.long (a3 &&& (9223372036854775807 : Int64))), .second, .unset, .unset, .unset, .unset, .unset, .unset, .unset, .unset, .unset, .unset] [(.long pe)])) _
      refine XS.lstore X11.here hx rfl (hb hby at_59) rfl (l' := #[.val (.long a1), .second, .val (.long a2), .second, .val (.long a3), .second, .val (.long a4), .second, .val (.long a5), .second, .val (.int a6), .val (.int zz), .val (.int hw2), .val (.long dd), .second, .val (.long (a3 &&& (9223372036854775807 : Int64))), .second, .val (.long pe), .second, .unset, .unset, .unset, .unset, .unset, .unset, .unset, .unset]) rfl ?_
      show Steps p.tables e below (T11.setTop (mkF m 61 #[.val (.long a1), .second, .val (.long a2), .second, .val (.long a3), .second, .val (.long a4), .second, .val (.long a5), .second, .val (.int a6), .val (.int zz), .val (.int hw2), .val (.long dd), .second, .val (.long (a3 &&& (9223372036854775807 : Int64))), .second, .val (.long pe), .second, .unset, .unset, .unset, .unset, .unset, .unset, .unset, .unset] [])) _
      refine XS.lload X11.here hx rfl (hb hby at_61) rfl ?_
      show Steps p.tables e below (T11.setTop (mkF m 63 #[.val (.long a1), .second, .val (.long a2), .second, .val (.long a3), .second, .val (.long a4), .second, .val (.long a5), .second, .val (.int a6), .val (.int zz), .val (.int hw2), .val (.long dd), .second, .val (.long (a3 &&& (9223372036854775807 : Int64))), .second, .val (.long pe), .second, .unset, .unset, .unset, .unset, .unset, .unset, .unset, .unset] [(.long a5)])) _
      refine X11.ldc2Long hx hown (mvT hZ (hw _ (List.mem_of_getElem? (i := 0) rfl))) (g := (mkF m 63 #[.val (.long a1), .second, .val (.long a2), .second, .val (.long a3), .second, .val (.long a4), .second, .val (.long a5), .second, .val (.int a6), .val (.int zz), .val (.int hw2), .val (.long dd), .second, .val (.long (a3 &&& (9223372036854775807 : Int64))), .second, .val (.long pe), .second, .unset, .unset, .unset, .unset, .unset, .unset, .unset, .unset] [(.long a5)])) rfl (hb hby at_63) _ ?_
      show Steps p.tables e below (T11.setTop (mkF m 66 #[.val (.long a1), .second, .val (.long a2), .second, .val (.long a3), .second, .val (.long a4), .second, .val (.long a5), .second, .val (.int a6), .val (.int zz), .val (.int hw2), .val (.long dd), .second, .val (.long (a3 &&& (9223372036854775807 : Int64))), .second, .val (.long pe), .second, .unset, .unset, .unset, .unset, .unset, .unset, .unset, .unset] [(.long (9223372036854775807 : Int64)), (.long a5)])) _
      refine XS.land X11.here hx rfl (hb hby at_66) rfl ?_
      show Steps p.tables e below (T11.setTop (mkF m 67 #[.val (.long a1), .second, .val (.long a2), .second, .val (.long a3), .second, .val (.long a4), .second, .val (.long a5), .second, .val (.int a6), .val (.int zz), .val (.int hw2), .val (.long dd), .second, .val (.long (a3 &&& (9223372036854775807 : Int64))), .second, .val (.long pe), .second, .unset, .unset, .unset, .unset, .unset, .unset, .unset, .unset] [(.long (a5 &&& (9223372036854775807 : Int64)))])) _
      refine XS.lstore X11.here hx rfl (hb hby at_67) rfl (l' := #[.val (.long a1), .second, .val (.long a2), .second, .val (.long a3), .second, .val (.long a4), .second, .val (.long a5), .second, .val (.int a6), .val (.int zz), .val (.int hw2), .val (.long dd), .second, .val (.long (a3 &&& (9223372036854775807 : Int64))), .second, .val (.long pe), .second, .val (.long (a5 &&& (9223372036854775807 : Int64))), .second, .unset, .unset, .unset, .unset, .unset, .unset]) rfl ?_
      show Steps p.tables e below (T11.setTop (mkF m 69 #[.val (.long a1), .second, .val (.long a2), .second, .val (.long a3), .second, .val (.long a4), .second, .val (.long a5), .second, .val (.int a6), .val (.int zz), .val (.int hw2), .val (.long dd), .second, .val (.long (a3 &&& (9223372036854775807 : Int64))), .second, .val (.long pe), .second, .val (.long (a5 &&& (9223372036854775807 : Int64))), .second, .unset, .unset, .unset, .unset, .unset, .unset] [])) _
      refine XS.goto X11.here hx rfl (pc0 := 69) (pc' := 211) rfl (hb hby at_69) (by decide) (by decide) ?_
      exact kt
    obtain ⟨st, hd_st⟩ : ∃ z : Int64, z = (a3 &&& (9223372036854775807 : Int64)) := ⟨_, rfl⟩
    have pre15 : ∀ t, Steps p.tables e below (T11.setTop (mkF m 211 #[.val (.long a1), .second, .val (.long a2), .second, .val (.long a3), .second, .val (.long a4), .second, .val (.long a5), .second, .val (.int a6), .val (.int zz), .val (.int hw2), .val (.long dd), .second, .val (.long st), .second, .val (.long pe), .second, .val (.long (a5 &&& (9223372036854775807 : Int64))), .second, .unset, .unset, .unset, .unset, .unset, .unset] [])) t → Steps p.tables e below (s₁.setTop (entryFrame m #[(.long a1), (.long a2), (.long a3), (.long a4), (.long a5), (.int a6)] maxLocals)) t := by rw [hd_st]; exact pre14
    obtain ⟨cy, hd_cy⟩ : ∃ z : Int64, z = (a5 &&& (9223372036854775807 : Int64)) := ⟨_, rfl⟩
    have pre16 : ∀ t, Steps p.tables e below (T11.setTop (mkF m 211 #[.val (.long a1), .second, .val (.long a2), .second, .val (.long a3), .second, .val (.long a4), .second, .val (.long a5), .second, .val (.int a6), .val (.int zz), .val (.int hw2), .val (.long dd), .second, .val (.long st), .second, .val (.long pe), .second, .val (.long cy), .second, .unset, .unset, .unset, .unset, .unset, .unset] [])) t → Steps p.tables e below (s₁.setTop (entryFrame m #[(.long a1), (.long a2), (.long a3), (.long a4), (.long a5), (.int a6)] maxLocals)) t := by rw [hd_cy]; exact pre15
    have hst : 0 ≤ st.toInt := by rw [hd_st]; exact own_m63 a3
    have hcy : 0 ≤ cy.toInt := by rw [hd_cy]; exact own_m63 a5
    have pre17 : ∀ t, Steps p.tables e below (T11.setTop (mkF m 215 #[.val (.long a1), .second, .val (.long a2), .second, .val (.long a3), .second, .val (.long a4), .second, .val (.long a5), .second, .val (.int a6), .val (.int zz), .val (.int hw2), .val (.long dd), .second, .val (.long st), .second, .val (.long pe), .second, .val (.long cy), .second, .unset, .unset, .unset, .unset, .unset, .unset] [(.int (lcmpW pe (0 : Int64)))])) t → Steps p.tables e below (s₁.setTop (entryFrame m #[(.long a1), (.long a2), (.long a3), (.long a4), (.long a5), (.int a6)] maxLocals)) t := by
      intro t kt
      refine pre16 t ?_
      show Steps p.tables e below (T11.setTop (mkF m 211 #[.val (.long a1), .second, .val (.long a2), .second, .val (.long a3), .second, .val (.long a4), .second, .val (.long a5), .second, .val (.int a6), .val (.int zz), .val (.int hw2), .val (.long dd), .second, .val (.long st), .second, .val (.long pe), .second, .val (.long cy), .second, .unset, .unset, .unset, .unset, .unset, .unset] [])) _
      refine XS.lload X11.here hx rfl (hb hby at_211) rfl ?_
      show Steps p.tables e below (T11.setTop (mkF m 213 #[.val (.long a1), .second, .val (.long a2), .second, .val (.long a3), .second, .val (.long a4), .second, .val (.long a5), .second, .val (.int a6), .val (.int zz), .val (.int hw2), .val (.long dd), .second, .val (.long st), .second, .val (.long pe), .second, .val (.long cy), .second, .unset, .unset, .unset, .unset, .unset, .unset] [(.long pe)])) _
      refine XS.lconst X11.here hx rfl (hb hby at_213) ?_
      show Steps p.tables e below (T11.setTop (mkF m 214 #[.val (.long a1), .second, .val (.long a2), .second, .val (.long a3), .second, .val (.long a4), .second, .val (.long a5), .second, .val (.int a6), .val (.int zz), .val (.int hw2), .val (.long dd), .second, .val (.long st), .second, .val (.long pe), .second, .val (.long cy), .second, .unset, .unset, .unset, .unset, .unset, .unset] [(.long (0 : Int64)), (.long pe)])) _
      refine XS.lcmp X11.here hx rfl (hb hby at_214) rfl ?_
      exact kt
    obtain ⟨T18, Lc18, es, X18, e18, N18, hp18, pre18⟩ : ∃ (T18 : State) (Lc18 : List Loc) (es : Int32), Stand p l e room_1 s m #[(.long a1), (.long a2), (.long a3), (.long a4), (.long a5), (.int a6)] below meth c T18 Lc18 0 0 ∧ T18.heap = h0 ∧ Fr n0 Lc18 ∧ (es = own_is cy st pe) ∧ ∀ t, Steps p.tables e below (T18.setTop (mkF m 256 #[.val (.long a1), .second, .val (.long a2), .second, .val (.long a3), .second, .val (.long a4), .second, .val (.long a5), .second, .val (.int a6), .val (.int zz), .val (.int hw2), .val (.long dd), .second, .val (.long st), .second, .val (.long pe), .second, .val (.long cy), .second, .val (.int es), .unset, .unset, .unset, .unset, .unset] [])) t → Steps p.tables e below (s₁.setTop (entryFrame m #[(.long a1), (.long a2), (.long a3), (.long a4), (.long a5), (.int a6)] maxLocals)) t := by
      by_cases hc215 : pe = (0 : Int64)
      case pos =>
        have pre19 : ∀ t, Steps p.tables e below (T11.setTop (mkF m 223 #[.val (.long a1), .second, .val (.long a2), .second, .val (.long a3), .second, .val (.long a4), .second, .val (.long a5), .second, .val (.int a6), .val (.int zz), .val (.int hw2), .val (.long dd), .second, .val (.long st), .second, .val (.long pe), .second, .val (.long cy), .second, .unset, .unset, .unset, .unset, .unset, .unset] [(.int (lcmpW cy st))])) t → Steps p.tables e below (s₁.setTop (entryFrame m #[(.long a1), (.long a2), (.long a3), (.long a4), (.long a5), (.int a6)] maxLocals)) t := by
          intro t kt
          refine pre17 t ?_
          show Steps p.tables e below (T11.setTop (mkF m 215 #[.val (.long a1), .second, .val (.long a2), .second, .val (.long a3), .second, .val (.long a4), .second, .val (.long a5), .second, .val (.int a6), .val (.int zz), .val (.int hw2), .val (.long dd), .second, .val (.long st), .second, .val (.long pe), .second, .val (.long cy), .second, .unset, .unset, .unset, .unset, .unset, .unset] [(.int (lcmpW pe (0 : Int64)))])) _
          refine XS.ifNo X11.here hx rfl (hb hby at_215) rfl ((if0 _ _).trans (teq ((lw_eq pe (0 : Int64)).mpr hc215)).2) ?_
          show Steps p.tables e below (T11.setTop (mkF m 218 #[.val (.long a1), .second, .val (.long a2), .second, .val (.long a3), .second, .val (.long a4), .second, .val (.long a5), .second, .val (.int a6), .val (.int zz), .val (.int hw2), .val (.long dd), .second, .val (.long st), .second, .val (.long pe), .second, .val (.long cy), .second, .unset, .unset, .unset, .unset, .unset, .unset] [])) _
          refine XS.lload X11.here hx rfl (hb hby at_218) rfl ?_
          show Steps p.tables e below (T11.setTop (mkF m 220 #[.val (.long a1), .second, .val (.long a2), .second, .val (.long a3), .second, .val (.long a4), .second, .val (.long a5), .second, .val (.int a6), .val (.int zz), .val (.int hw2), .val (.long dd), .second, .val (.long st), .second, .val (.long pe), .second, .val (.long cy), .second, .unset, .unset, .unset, .unset, .unset, .unset] [(.long cy)])) _
          refine XS.lload X11.here hx rfl (hb hby at_220) rfl ?_
          show Steps p.tables e below (T11.setTop (mkF m 222 #[.val (.long a1), .second, .val (.long a2), .second, .val (.long a3), .second, .val (.long a4), .second, .val (.long a5), .second, .val (.int a6), .val (.int zz), .val (.int hw2), .val (.long dd), .second, .val (.long st), .second, .val (.long pe), .second, .val (.long cy), .second, .unset, .unset, .unset, .unset, .unset, .unset] [(.long st), (.long cy)])) _
          refine XS.lcmp X11.here hx rfl (hb hby at_222) rfl ?_
          exact kt
        by_cases hc223 : cy = st
        case pos =>
          have pre20 : ∀ t, Steps p.tables e below (T11.setTop (mkF m 256 #[.val (.long a1), .second, .val (.long a2), .second, .val (.long a3), .second, .val (.long a4), .second, .val (.long a5), .second, .val (.int a6), .val (.int zz), .val (.int hw2), .val (.long dd), .second, .val (.long st), .second, .val (.long pe), .second, .val (.long cy), .second, .val (.int (1 : Int32)), .unset, .unset, .unset, .unset, .unset] [])) t → Steps p.tables e below (s₁.setTop (entryFrame m #[(.long a1), (.long a2), (.long a3), (.long a4), (.long a5), (.int a6)] maxLocals)) t := by
            intro t kt
            refine pre19 t ?_
            show Steps p.tables e below (T11.setTop (mkF m 223 #[.val (.long a1), .second, .val (.long a2), .second, .val (.long a3), .second, .val (.long a4), .second, .val (.long a5), .second, .val (.int a6), .val (.int zz), .val (.int hw2), .val (.long dd), .second, .val (.long st), .second, .val (.long pe), .second, .val (.long cy), .second, .unset, .unset, .unset, .unset, .unset, .unset] [(.int (lcmpW cy st))])) _
            refine XS.ifNo X11.here hx rfl (hb hby at_223) rfl ((if0 _ _).trans (teq ((lw_eq cy st).mpr hc223)).2) ?_
            show Steps p.tables e below (T11.setTop (mkF m 226 #[.val (.long a1), .second, .val (.long a2), .second, .val (.long a3), .second, .val (.long a4), .second, .val (.long a5), .second, .val (.int a6), .val (.int zz), .val (.int hw2), .val (.long dd), .second, .val (.long st), .second, .val (.long pe), .second, .val (.long cy), .second, .unset, .unset, .unset, .unset, .unset, .unset] [])) _
            refine XS.iconst X11.here hx rfl (hb hby at_226) ?_
            show Steps p.tables e below (T11.setTop (mkF m 227 #[.val (.long a1), .second, .val (.long a2), .second, .val (.long a3), .second, .val (.long a4), .second, .val (.long a5), .second, .val (.int a6), .val (.int zz), .val (.int hw2), .val (.long dd), .second, .val (.long st), .second, .val (.long pe), .second, .val (.long cy), .second, .unset, .unset, .unset, .unset, .unset, .unset] [(.int (1 : Int32))])) _
            refine XS.goto X11.here hx rfl (pc0 := 227) (pc' := 231) rfl (hb hby at_227) (by decide) (by decide) ?_
            show Steps p.tables e below (T11.setTop (mkF m 231 #[.val (.long a1), .second, .val (.long a2), .second, .val (.long a3), .second, .val (.long a4), .second, .val (.long a5), .second, .val (.int a6), .val (.int zz), .val (.int hw2), .val (.long dd), .second, .val (.long st), .second, .val (.long pe), .second, .val (.long cy), .second, .unset, .unset, .unset, .unset, .unset, .unset] [(.int (1 : Int32))])) _
            refine XS.istore X11.here hx rfl (hb hby at_231) rfl (l' := #[.val (.long a1), .second, .val (.long a2), .second, .val (.long a3), .second, .val (.long a4), .second, .val (.long a5), .second, .val (.int a6), .val (.int zz), .val (.int hw2), .val (.long dd), .second, .val (.long st), .second, .val (.long pe), .second, .val (.long cy), .second, .val (.int (1 : Int32)), .unset, .unset, .unset, .unset, .unset]) rfl ?_
            show Steps p.tables e below (T11.setTop (mkF m 233 #[.val (.long a1), .second, .val (.long a2), .second, .val (.long a3), .second, .val (.long a4), .second, .val (.long a5), .second, .val (.int a6), .val (.int zz), .val (.int hw2), .val (.long dd), .second, .val (.long st), .second, .val (.long pe), .second, .val (.long cy), .second, .val (.int (1 : Int32)), .unset, .unset, .unset, .unset, .unset] [])) _
            refine XS.goto X11.here hx rfl (pc0 := 233) (pc' := 256) rfl (hb hby at_233) (by decide) (by decide) ?_
            exact kt
          exact ⟨T11, _, (1 : Int32), X11, e11, N11, (by simp [own_is, hc215, hc223]), pre20⟩
        case neg =>
          have pre21 : ∀ t, Steps p.tables e below (T11.setTop (mkF m 256 #[.val (.long a1), .second, .val (.long a2), .second, .val (.long a3), .second, .val (.long a4), .second, .val (.long a5), .second, .val (.int a6), .val (.int zz), .val (.int hw2), .val (.long dd), .second, .val (.long st), .second, .val (.long pe), .second, .val (.long cy), .second, .val (.int (0 : Int32)), .unset, .unset, .unset, .unset, .unset] [])) t → Steps p.tables e below (s₁.setTop (entryFrame m #[(.long a1), (.long a2), (.long a3), (.long a4), (.long a5), (.int a6)] maxLocals)) t := by
            intro t kt
            refine pre19 t ?_
            show Steps p.tables e below (T11.setTop (mkF m 223 #[.val (.long a1), .second, .val (.long a2), .second, .val (.long a3), .second, .val (.long a4), .second, .val (.long a5), .second, .val (.int a6), .val (.int zz), .val (.int hw2), .val (.long dd), .second, .val (.long st), .second, .val (.long pe), .second, .val (.long cy), .second, .unset, .unset, .unset, .unset, .unset, .unset] [(.int (lcmpW cy st))])) _
            refine XS.ifYes X11.here hx rfl (pc0 := 223) (pc' := 230) rfl (hb hby at_223) rfl ((if0 _ _).trans (feq (fun q => hc223 ((lw_eq cy st).mp q))).2) (by decide) (by decide) ?_
            show Steps p.tables e below (T11.setTop (mkF m 230 #[.val (.long a1), .second, .val (.long a2), .second, .val (.long a3), .second, .val (.long a4), .second, .val (.long a5), .second, .val (.int a6), .val (.int zz), .val (.int hw2), .val (.long dd), .second, .val (.long st), .second, .val (.long pe), .second, .val (.long cy), .second, .unset, .unset, .unset, .unset, .unset, .unset] [])) _
            refine XS.iconst X11.here hx rfl (hb hby at_230) ?_
            show Steps p.tables e below (T11.setTop (mkF m 231 #[.val (.long a1), .second, .val (.long a2), .second, .val (.long a3), .second, .val (.long a4), .second, .val (.long a5), .second, .val (.int a6), .val (.int zz), .val (.int hw2), .val (.long dd), .second, .val (.long st), .second, .val (.long pe), .second, .val (.long cy), .second, .unset, .unset, .unset, .unset, .unset, .unset] [(.int (0 : Int32))])) _
            refine XS.istore X11.here hx rfl (hb hby at_231) rfl (l' := #[.val (.long a1), .second, .val (.long a2), .second, .val (.long a3), .second, .val (.long a4), .second, .val (.long a5), .second, .val (.int a6), .val (.int zz), .val (.int hw2), .val (.long dd), .second, .val (.long st), .second, .val (.long pe), .second, .val (.long cy), .second, .val (.int (0 : Int32)), .unset, .unset, .unset, .unset, .unset]) rfl ?_
            show Steps p.tables e below (T11.setTop (mkF m 233 #[.val (.long a1), .second, .val (.long a2), .second, .val (.long a3), .second, .val (.long a4), .second, .val (.long a5), .second, .val (.int a6), .val (.int zz), .val (.int hw2), .val (.long dd), .second, .val (.long st), .second, .val (.long pe), .second, .val (.long cy), .second, .val (.int (0 : Int32)), .unset, .unset, .unset, .unset, .unset] [])) _
            refine XS.goto X11.here hx rfl (pc0 := 233) (pc' := 256) rfl (hb hby at_233) (by decide) (by decide) ?_
            exact kt
          exact ⟨T11, _, (0 : Int32), X11, e11, N11, (by simp [own_is, hc215, hc223]), pre21⟩
      case neg =>
        have pre22 : ∀ t, Steps p.tables e below (T11.setTop (mkF m 246 #[.val (.long a1), .second, .val (.long a2), .second, .val (.long a3), .second, .val (.long a4), .second, .val (.long a5), .second, .val (.int a6), .val (.int zz), .val (.int hw2), .val (.long dd), .second, .val (.long st), .second, .val (.long pe), .second, .val (.long cy), .second, .unset, .unset, .unset, .unset, .unset, .unset] [(.int (lcmpW ((cy - st) % pe) (0 : Int64)))])) t → Steps p.tables e below (s₁.setTop (entryFrame m #[(.long a1), (.long a2), (.long a3), (.long a4), (.long a5), (.int a6)] maxLocals)) t := by
          intro t kt
          refine pre17 t ?_
          show Steps p.tables e below (T11.setTop (mkF m 215 #[.val (.long a1), .second, .val (.long a2), .second, .val (.long a3), .second, .val (.long a4), .second, .val (.long a5), .second, .val (.int a6), .val (.int zz), .val (.int hw2), .val (.long dd), .second, .val (.long st), .second, .val (.long pe), .second, .val (.long cy), .second, .unset, .unset, .unset, .unset, .unset, .unset] [(.int (lcmpW pe (0 : Int64)))])) _
          refine XS.ifYes X11.here hx rfl (pc0 := 215) (pc' := 236) rfl (hb hby at_215) rfl ((if0 _ _).trans (feq (fun q => hc215 ((lw_eq pe (0 : Int64)).mp q))).2) (by decide) (by decide) ?_
          show Steps p.tables e below (T11.setTop (mkF m 236 #[.val (.long a1), .second, .val (.long a2), .second, .val (.long a3), .second, .val (.long a4), .second, .val (.long a5), .second, .val (.int a6), .val (.int zz), .val (.int hw2), .val (.long dd), .second, .val (.long st), .second, .val (.long pe), .second, .val (.long cy), .second, .unset, .unset, .unset, .unset, .unset, .unset] [])) _
          refine XS.lload X11.here hx rfl (hb hby at_236) rfl ?_
          show Steps p.tables e below (T11.setTop (mkF m 238 #[.val (.long a1), .second, .val (.long a2), .second, .val (.long a3), .second, .val (.long a4), .second, .val (.long a5), .second, .val (.int a6), .val (.int zz), .val (.int hw2), .val (.long dd), .second, .val (.long st), .second, .val (.long pe), .second, .val (.long cy), .second, .unset, .unset, .unset, .unset, .unset, .unset] [(.long cy)])) _
          refine XS.lload X11.here hx rfl (hb hby at_238) rfl ?_
          show Steps p.tables e below (T11.setTop (mkF m 240 #[.val (.long a1), .second, .val (.long a2), .second, .val (.long a3), .second, .val (.long a4), .second, .val (.long a5), .second, .val (.int a6), .val (.int zz), .val (.int hw2), .val (.long dd), .second, .val (.long st), .second, .val (.long pe), .second, .val (.long cy), .second, .unset, .unset, .unset, .unset, .unset, .unset] [(.long st), (.long cy)])) _
          refine XS.lsub X11.here hx rfl (hb hby at_240) rfl ?_
          show Steps p.tables e below (T11.setTop (mkF m 241 #[.val (.long a1), .second, .val (.long a2), .second, .val (.long a3), .second, .val (.long a4), .second, .val (.long a5), .second, .val (.int a6), .val (.int zz), .val (.int hw2), .val (.long dd), .second, .val (.long st), .second, .val (.long pe), .second, .val (.long cy), .second, .unset, .unset, .unset, .unset, .unset, .unset] [(.long (cy - st))])) _
          refine XS.lload X11.here hx rfl (hb hby at_241) rfl ?_
          show Steps p.tables e below (T11.setTop (mkF m 243 #[.val (.long a1), .second, .val (.long a2), .second, .val (.long a3), .second, .val (.long a4), .second, .val (.long a5), .second, .val (.int a6), .val (.int zz), .val (.int hw2), .val (.long dd), .second, .val (.long st), .second, .val (.long pe), .second, .val (.long cy), .second, .unset, .unset, .unset, .unset, .unset, .unset] [(.long pe), (.long (cy - st))])) _
          refine own_lremM X11 hx rfl (hb hby at_243) rfl hc215 ?_
          show Steps p.tables e below (T11.setTop (mkF m 244 #[.val (.long a1), .second, .val (.long a2), .second, .val (.long a3), .second, .val (.long a4), .second, .val (.long a5), .second, .val (.int a6), .val (.int zz), .val (.int hw2), .val (.long dd), .second, .val (.long st), .second, .val (.long pe), .second, .val (.long cy), .second, .unset, .unset, .unset, .unset, .unset, .unset] [(.long ((cy - st) % pe))])) _
          refine XS.lconst X11.here hx rfl (hb hby at_244) ?_
          show Steps p.tables e below (T11.setTop (mkF m 245 #[.val (.long a1), .second, .val (.long a2), .second, .val (.long a3), .second, .val (.long a4), .second, .val (.long a5), .second, .val (.int a6), .val (.int zz), .val (.int hw2), .val (.long dd), .second, .val (.long st), .second, .val (.long pe), .second, .val (.long cy), .second, .unset, .unset, .unset, .unset, .unset, .unset] [(.long (0 : Int64)), (.long ((cy - st) % pe))])) _
          refine XS.lcmp X11.here hx rfl (hb hby at_245) rfl ?_
          exact kt
        by_cases hc246 : ((cy - st) % pe) = (0 : Int64)
        case pos =>
          have pre23 : ∀ t, Steps p.tables e below (T11.setTop (mkF m 256 #[.val (.long a1), .second, .val (.long a2), .second, .val (.long a3), .second, .val (.long a4), .second, .val (.long a5), .second, .val (.int a6), .val (.int zz), .val (.int hw2), .val (.long dd), .second, .val (.long st), .second, .val (.long pe), .second, .val (.long cy), .second, .val (.int (1 : Int32)), .unset, .unset, .unset, .unset, .unset] [])) t → Steps p.tables e below (s₁.setTop (entryFrame m #[(.long a1), (.long a2), (.long a3), (.long a4), (.long a5), (.int a6)] maxLocals)) t := by
            intro t kt
            refine pre22 t ?_
            show Steps p.tables e below (T11.setTop (mkF m 246 #[.val (.long a1), .second, .val (.long a2), .second, .val (.long a3), .second, .val (.long a4), .second, .val (.long a5), .second, .val (.int a6), .val (.int zz), .val (.int hw2), .val (.long dd), .second, .val (.long st), .second, .val (.long pe), .second, .val (.long cy), .second, .unset, .unset, .unset, .unset, .unset, .unset] [(.int (lcmpW ((cy - st) % pe) (0 : Int64)))])) _
            refine XS.ifNo X11.here hx rfl (hb hby at_246) rfl ((if0 _ _).trans (teq ((lw_eq ((cy - st) % pe) (0 : Int64)).mpr hc246)).2) ?_
            show Steps p.tables e below (T11.setTop (mkF m 249 #[.val (.long a1), .second, .val (.long a2), .second, .val (.long a3), .second, .val (.long a4), .second, .val (.long a5), .second, .val (.int a6), .val (.int zz), .val (.int hw2), .val (.long dd), .second, .val (.long st), .second, .val (.long pe), .second, .val (.long cy), .second, .unset, .unset, .unset, .unset, .unset, .unset] [])) _
            refine XS.iconst X11.here hx rfl (hb hby at_249) ?_
            show Steps p.tables e below (T11.setTop (mkF m 250 #[.val (.long a1), .second, .val (.long a2), .second, .val (.long a3), .second, .val (.long a4), .second, .val (.long a5), .second, .val (.int a6), .val (.int zz), .val (.int hw2), .val (.long dd), .second, .val (.long st), .second, .val (.long pe), .second, .val (.long cy), .second, .unset, .unset, .unset, .unset, .unset, .unset] [(.int (1 : Int32))])) _
            refine XS.goto X11.here hx rfl (pc0 := 250) (pc' := 254) rfl (hb hby at_250) (by decide) (by decide) ?_
            show Steps p.tables e below (T11.setTop (mkF m 254 #[.val (.long a1), .second, .val (.long a2), .second, .val (.long a3), .second, .val (.long a4), .second, .val (.long a5), .second, .val (.int a6), .val (.int zz), .val (.int hw2), .val (.long dd), .second, .val (.long st), .second, .val (.long pe), .second, .val (.long cy), .second, .unset, .unset, .unset, .unset, .unset, .unset] [(.int (1 : Int32))])) _
            refine XS.istore X11.here hx rfl (hb hby at_254) rfl (l' := #[.val (.long a1), .second, .val (.long a2), .second, .val (.long a3), .second, .val (.long a4), .second, .val (.long a5), .second, .val (.int a6), .val (.int zz), .val (.int hw2), .val (.long dd), .second, .val (.long st), .second, .val (.long pe), .second, .val (.long cy), .second, .val (.int (1 : Int32)), .unset, .unset, .unset, .unset, .unset]) rfl ?_
            exact kt
          exact ⟨T11, _, (1 : Int32), X11, e11, N11, (by rw [own_es hcy hst hc215]; exact (if_pos hc246).symm), pre23⟩
        case neg =>
          have pre24 : ∀ t, Steps p.tables e below (T11.setTop (mkF m 256 #[.val (.long a1), .second, .val (.long a2), .second, .val (.long a3), .second, .val (.long a4), .second, .val (.long a5), .second, .val (.int a6), .val (.int zz), .val (.int hw2), .val (.long dd), .second, .val (.long st), .second, .val (.long pe), .second, .val (.long cy), .second, .val (.int (0 : Int32)), .unset, .unset, .unset, .unset, .unset] [])) t → Steps p.tables e below (s₁.setTop (entryFrame m #[(.long a1), (.long a2), (.long a3), (.long a4), (.long a5), (.int a6)] maxLocals)) t := by
            intro t kt
            refine pre22 t ?_
            show Steps p.tables e below (T11.setTop (mkF m 246 #[.val (.long a1), .second, .val (.long a2), .second, .val (.long a3), .second, .val (.long a4), .second, .val (.long a5), .second, .val (.int a6), .val (.int zz), .val (.int hw2), .val (.long dd), .second, .val (.long st), .second, .val (.long pe), .second, .val (.long cy), .second, .unset, .unset, .unset, .unset, .unset, .unset] [(.int (lcmpW ((cy - st) % pe) (0 : Int64)))])) _
            refine XS.ifYes X11.here hx rfl (pc0 := 246) (pc' := 253) rfl (hb hby at_246) rfl ((if0 _ _).trans (feq (fun q => hc246 ((lw_eq ((cy - st) % pe) (0 : Int64)).mp q))).2) (by decide) (by decide) ?_
            show Steps p.tables e below (T11.setTop (mkF m 253 #[.val (.long a1), .second, .val (.long a2), .second, .val (.long a3), .second, .val (.long a4), .second, .val (.long a5), .second, .val (.int a6), .val (.int zz), .val (.int hw2), .val (.long dd), .second, .val (.long st), .second, .val (.long pe), .second, .val (.long cy), .second, .unset, .unset, .unset, .unset, .unset, .unset] [])) _
            refine XS.iconst X11.here hx rfl (hb hby at_253) ?_
            show Steps p.tables e below (T11.setTop (mkF m 254 #[.val (.long a1), .second, .val (.long a2), .second, .val (.long a3), .second, .val (.long a4), .second, .val (.long a5), .second, .val (.int a6), .val (.int zz), .val (.int hw2), .val (.long dd), .second, .val (.long st), .second, .val (.long pe), .second, .val (.long cy), .second, .unset, .unset, .unset, .unset, .unset, .unset] [(.int (0 : Int32))])) _
            refine XS.istore X11.here hx rfl (hb hby at_254) rfl (l' := #[.val (.long a1), .second, .val (.long a2), .second, .val (.long a3), .second, .val (.long a4), .second, .val (.long a5), .second, .val (.int a6), .val (.int zz), .val (.int hw2), .val (.long dd), .second, .val (.long st), .second, .val (.long pe), .second, .val (.long cy), .second, .val (.int (0 : Int32)), .unset, .unset, .unset, .unset, .unset]) rfl ?_
            exact kt
          exact ⟨T11, _, (0 : Int32), X11, e11, N11, (by rw [own_es hcy hst hc215]; exact (if_neg hc246).symm), pre24⟩
    have hes := hp18
    obtain ⟨T25, h25, X25, e25, E25, A25, D25, -, st25⟩ := newO X18 hx hZ hown (hw _ (List.mem_of_getElem? (i := 1) rfl)) (hw _ (List.mem_of_getElem? (i := 2) rfl)) (hw _ (List.mem_of_getElem? (i := 3) rfl)) e18 (g := (mkF m 256 #[.val (.long a1), .second, .val (.long a2), .second, .val (.long a3), .second, .val (.long a4), .second, .val (.long a5), .second, .val (.int a6), .val (.int zz), .val (.int hw2), .val (.long dd), .second, .val (.long st), .second, .val (.long pe), .second, .val (.long cy), .second, .val (.int es), .unset, .unset, .unset, .unset, .unset] [])) rfl (hb hby at_256) (by decide) (by decide)
    obtain ⟨ob, g25⟩ : ∃ z, z = h0.size := ⟨_, rfl⟩
    rw [← g25] at A25 D25 st25
    have g_ob : n0 ≤ ob := by rw [g25]; exact Z0
    have Z26 := Nat.le_trans Z0 E25.1
    have E_ob := A25
    have F_usual_ob : Fld Z h25 ob "com/example/paceline/paceline/sim/ServiceTimes" "usual" "J" (.long (0 : Int64)) := D25 (Or.inr (hw _ (List.mem_of_getElem? (i := 16) rfl))) (ty := .long) (by decide)
    have F_stalled_ob : Fld Z h25 ob "com/example/paceline/paceline/sim/ServiceTimes" "stalled" "J" (.long (0 : Int64)) := D25 (Or.inr (hw _ (List.mem_of_getElem? (i := 18) rfl))) (ty := .long) (by decide)
    have F_stallCycle_ob : Fld Z h25 ob "com/example/paceline/paceline/sim/ServiceTimes" "stallCycle" "J" (.long (0 : Int64)) := D25 (Or.inr (hw _ (List.mem_of_getElem? (i := 20) rfl))) (ty := .long) (by decide)
    have F_period_ob : Fld Z h25 ob "com/example/paceline/paceline/sim/ServiceTimes" "period" "J" (.long (0 : Int64)) := D25 (Or.inr (hw _ (List.mem_of_getElem? (i := 22) rfl))) (ty := .long) (by decide)
    obtain ⟨_, _, ⟨T27, L27, k27, n27⟩, -, X27, ⟨Lc27, hQ27, l27, y27, z27⟩, st27⟩ := X25.specialBack hx (y := (⟨"com/example/paceline/paceline/sim/ServiceTimes", "<init>", "(JJJJ)V"⟩ : MethodName)) rfl hown (mvT hZ (hw _ (List.mem_of_getElem? (i := 4) rfl))) (mvT hZ (hw _ (List.mem_of_getElem? (i := 5) rfl))) (mvT hZ (hw _ (List.mem_of_getElem? (i := 6) rfl))) (by decide) (backOf (W := 1) (own_rm1 l Z a0 hw [] (ob) (a1) (a2) (st) (pe) h25 n0 Z26 E_ob F_usual_ob F_stalled_ob F_stallCycle_ob F_period_ob g_ob) hZ (hw _ (List.mem_of_getElem? (i := 6) rfl)) (hw _ (List.mem_of_getElem? (i := 3) rfl)) (by decide) (by decide)) (g := (mkF m 266 #[.val (.long a1), .second, .val (.long a2), .second, .val (.long a3), .second, .val (.long a4), .second, .val (.long a5), .second, .val (.int a6), .val (.int zz), .val (.int hw2), .val (.long dd), .second, .val (.long st), .second, .val (.long pe), .second, .val (.long cy), .second, .val (.int es), .unset, .unset, .unset, .unset, .unset] [(.long pe), (.long st), (.long a2), (.long a1), (.ref ob), (.ref ob)])) rfl (by rw [hml]; rfl) (Steps.refl _) (a := ob) (argsL := [(.long a1), (.long a2), (.long st), (.long pe)]) (rest := [(.ref ob)]) (lenOf own_pd1 rfl) rfl (by show 2 * 0 + _ ≤ _; exact Nat.le_of_eq rfl) (hb hby at_266) (fun _ _ => ⟨rfl, e25, (by decide : 1 + 0 ≤ _), (by decide : 4 + 0 ≤ _)⟩)
    dsimp only [Pt.U, Pt.locs, Pt.cells, Pt.slots] at X27 l27 y27 z27 st27 hQ27
    subst l27 y27 z27
    obtain ⟨rfl, Nq27, Kq27, E_ob, F_usual_ob, F_stalled_ob, F_stallCycle_ob, F_period_ob⟩ := hQ27
    have N27 := Fr.app N18 Nq27
    have Z27 := Nat.le_trans Z26 Kq27.1
    obtain ⟨cq28, kq28, q28a, q28b, q28c⟩ := isOf hZ rfl E_ob
    obtain ⟨_, _, ⟨T28, L28, k28, n28⟩, -, X28, ⟨Lc28, hQ28, l28, y28, z28⟩, st28⟩ := X27.virtualBack hx (y := (⟨"com/example/paceline/paceline/sim/ServiceTimes", "of", "(J)J"⟩ : MethodName)) (z := (⟨"com/example/paceline/paceline/sim/ServiceTimes", "of", "(J)J"⟩ : MethodName)) hown (mvT hZ (hw _ (List.mem_of_getElem? (i := 23) rfl))) (mvT hZ (hw _ (List.mem_of_getElem? (i := 24) rfl))) (notFace_of_selects (args := #[]) (mvT hZ (hw _ (List.mem_of_getElem? (i := 26) rfl)))) (mvT hZ (hw _ (List.mem_of_getElem? (i := 26) rfl))) (mvT hZ (hw _ (List.mem_of_getElem? (i := 25) rfl))) (by decide) (backOf (W := 0) (own_rm4 l Z a0 hw [] ob cy a1 a2 st pe T27.heap n0 Z27 F_usual_ob F_stalled_ob F_stallCycle_ob F_period_ob) hZ (hw _ (List.mem_of_getElem? (i := 27) rfl)) (hw _ (List.mem_of_getElem? (i := 3) rfl)) (by decide) (by decide)) q28a q28c (g := (mkF m 275 #[.val (.long a1), .second, .val (.long a2), .second, .val (.long a3), .second, .val (.long a4), .second, .val (.long a5), .second, .val (.int a6), .val (.int zz), .val (.int hw2), .val (.long dd), .second, .val (.long st), .second, .val (.long pe), .second, .val (.long cy), .second, .val (.int es), .val (.ref ob), .unset, .unset, .unset, .unset] [(.long cy), (.ref ob)])) rfl (by rw [hml]; rfl) (Steps.refl _) (argsL := [(.long cy)]) (rest := []) (lenOf own_pd2 rfl) rfl (by show 2 * 0 + _ ≤ _; exact Nat.le_of_eq rfl) (hb hby at_275) (fun _ _ => ⟨rfl, rfl, (by decide : 1 + 0 ≤ _), (by decide : 4 + 0 ≤ _)⟩)
    dsimp only [Pt.U, Pt.locs, Pt.cells, Pt.slots] at X28 l28 y28 z28 st28 hQ28
    subst l28 y28 z28
    obtain ⟨rfl, Nq28, eq28⟩ := hQ28
    have N28 := Fr.app N27 Nq28
    have pre29 : ∀ t, Steps p.tables e below (T28.setTop (mkF m 282 #[.val (.long a1), .second, .val (.long a2), .second, .val (.long a3), .second, .val (.long a4), .second, .val (.long a5), .second, .val (.int a6), .val (.int zz), .val (.int hw2), .val (.long dd), .second, .val (.long st), .second, .val (.long pe), .second, .val (.long cy), .second, .val (.int es), .val (.ref ob), .val (.long (own_of cy a1 a2 st pe)), .second, .unset, .unset] [(.int es)])) t → Steps p.tables e below (s₁.setTop (entryFrame m #[(.long a1), (.long a2), (.long a3), (.long a4), (.long a5), (.int a6)] maxLocals)) t := by
      intro t kt
      refine pre18 t ?_
      show Steps p.tables e below (T18.setTop (mkF m 256 #[.val (.long a1), .second, .val (.long a2), .second, .val (.long a3), .second, .val (.long a4), .second, .val (.long a5), .second, .val (.int a6), .val (.int zz), .val (.int hw2), .val (.long dd), .second, .val (.long st), .second, .val (.long pe), .second, .val (.long cy), .second, .val (.int es), .unset, .unset, .unset, .unset, .unset] [])) _
      refine st25 _ ?_
      show Steps p.tables e below (T25.setTop (mkF m 259 #[.val (.long a1), .second, .val (.long a2), .second, .val (.long a3), .second, .val (.long a4), .second, .val (.long a5), .second, .val (.int a6), .val (.int zz), .val (.int hw2), .val (.long dd), .second, .val (.long st), .second, .val (.long pe), .second, .val (.long cy), .second, .val (.int es), .unset, .unset, .unset, .unset, .unset] [(.ref ob)])) _
      refine XS.dup X25.here hx rfl (hb hby at_259) rfl rfl ?_
      show Steps p.tables e below (T25.setTop (mkF m 260 #[.val (.long a1), .second, .val (.long a2), .second, .val (.long a3), .second, .val (.long a4), .second, .val (.long a5), .second, .val (.int a6), .val (.int zz), .val (.int hw2), .val (.long dd), .second, .val (.long st), .second, .val (.long pe), .second, .val (.long cy), .second, .val (.int es), .unset, .unset, .unset, .unset, .unset] [(.ref ob), (.ref ob)])) _
      refine XS.lloadN X25.here hx rfl (hb hby at_260) rfl ?_
      show Steps p.tables e below (T25.setTop (mkF m 261 #[.val (.long a1), .second, .val (.long a2), .second, .val (.long a3), .second, .val (.long a4), .second, .val (.long a5), .second, .val (.int a6), .val (.int zz), .val (.int hw2), .val (.long dd), .second, .val (.long st), .second, .val (.long pe), .second, .val (.long cy), .second, .val (.int es), .unset, .unset, .unset, .unset, .unset] [(.long a1), (.ref ob), (.ref ob)])) _
      refine XS.lloadN X25.here hx rfl (hb hby at_261) rfl ?_
      show Steps p.tables e below (T25.setTop (mkF m 262 #[.val (.long a1), .second, .val (.long a2), .second, .val (.long a3), .second, .val (.long a4), .second, .val (.long a5), .second, .val (.int a6), .val (.int zz), .val (.int hw2), .val (.long dd), .second, .val (.long st), .second, .val (.long pe), .second, .val (.long cy), .second, .val (.int es), .unset, .unset, .unset, .unset, .unset] [(.long a2), (.long a1), (.ref ob), (.ref ob)])) _
      refine XS.lload X25.here hx rfl (hb hby at_262) rfl ?_
      show Steps p.tables e below (T25.setTop (mkF m 264 #[.val (.long a1), .second, .val (.long a2), .second, .val (.long a3), .second, .val (.long a4), .second, .val (.long a5), .second, .val (.int a6), .val (.int zz), .val (.int hw2), .val (.long dd), .second, .val (.long st), .second, .val (.long pe), .second, .val (.long cy), .second, .val (.int es), .unset, .unset, .unset, .unset, .unset] [(.long st), (.long a2), (.long a1), (.ref ob), (.ref ob)])) _
      refine XS.lload X25.here hx rfl (hb hby at_264) rfl ?_
      show Steps p.tables e below (T25.setTop (mkF m 266 #[.val (.long a1), .second, .val (.long a2), .second, .val (.long a3), .second, .val (.long a4), .second, .val (.long a5), .second, .val (.int a6), .val (.int zz), .val (.int hw2), .val (.long dd), .second, .val (.long st), .second, .val (.long pe), .second, .val (.long cy), .second, .val (.int es), .unset, .unset, .unset, .unset, .unset] [(.long pe), (.long st), (.long a2), (.long a1), (.ref ob), (.ref ob)])) _
      refine st27.trans ?_
      show Steps p.tables e below (T27.setTop (mkF m 269 #[.val (.long a1), .second, .val (.long a2), .second, .val (.long a3), .second, .val (.long a4), .second, .val (.long a5), .second, .val (.int a6), .val (.int zz), .val (.int hw2), .val (.long dd), .second, .val (.long st), .second, .val (.long pe), .second, .val (.long cy), .second, .val (.int es), .unset, .unset, .unset, .unset, .unset] [(.ref ob)])) _
      refine XS.astore X27.here hx rfl (hb hby at_269) rfl rfl (l' := #[.val (.long a1), .second, .val (.long a2), .second, .val (.long a3), .second, .val (.long a4), .second, .val (.long a5), .second, .val (.int a6), .val (.int zz), .val (.int hw2), .val (.long dd), .second, .val (.long st), .second, .val (.long pe), .second, .val (.long cy), .second, .val (.int es), .val (.ref ob), .unset, .unset, .unset, .unset]) rfl ?_
      show Steps p.tables e below (T27.setTop (mkF m 271 #[.val (.long a1), .second, .val (.long a2), .second, .val (.long a3), .second, .val (.long a4), .second, .val (.long a5), .second, .val (.int a6), .val (.int zz), .val (.int hw2), .val (.long dd), .second, .val (.long st), .second, .val (.long pe), .second, .val (.long cy), .second, .val (.int es), .val (.ref ob), .unset, .unset, .unset, .unset] [])) _
      refine XS.aload X27.here hx rfl (hb hby at_271) rfl rfl ?_
      show Steps p.tables e below (T27.setTop (mkF m 273 #[.val (.long a1), .second, .val (.long a2), .second, .val (.long a3), .second, .val (.long a4), .second, .val (.long a5), .second, .val (.int a6), .val (.int zz), .val (.int hw2), .val (.long dd), .second, .val (.long st), .second, .val (.long pe), .second, .val (.long cy), .second, .val (.int es), .val (.ref ob), .unset, .unset, .unset, .unset] [(.ref ob)])) _
      refine XS.lload X27.here hx rfl (hb hby at_273) rfl ?_
      show Steps p.tables e below (T27.setTop (mkF m 275 #[.val (.long a1), .second, .val (.long a2), .second, .val (.long a3), .second, .val (.long a4), .second, .val (.long a5), .second, .val (.int a6), .val (.int zz), .val (.int hw2), .val (.long dd), .second, .val (.long st), .second, .val (.long pe), .second, .val (.long cy), .second, .val (.int es), .val (.ref ob), .unset, .unset, .unset, .unset] [(.long cy), (.ref ob)])) _
      refine st28.trans ?_
      show Steps p.tables e below (T28.setTop (mkF m 278 #[.val (.long a1), .second, .val (.long a2), .second, .val (.long a3), .second, .val (.long a4), .second, .val (.long a5), .second, .val (.int a6), .val (.int zz), .val (.int hw2), .val (.long dd), .second, .val (.long st), .second, .val (.long pe), .second, .val (.long cy), .second, .val (.int es), .val (.ref ob), .unset, .unset, .unset, .unset] [(.long (own_of cy a1 a2 st pe))])) _
      refine XS.lstore X28.here hx rfl (hb hby at_278) rfl (l' := #[.val (.long a1), .second, .val (.long a2), .second, .val (.long a3), .second, .val (.long a4), .second, .val (.long a5), .second, .val (.int a6), .val (.int zz), .val (.int hw2), .val (.long dd), .second, .val (.long st), .second, .val (.long pe), .second, .val (.long cy), .second, .val (.int es), .val (.ref ob), .val (.long (own_of cy a1 a2 st pe)), .second, .unset, .unset]) rfl ?_
      show Steps p.tables e below (T28.setTop (mkF m 280 #[.val (.long a1), .second, .val (.long a2), .second, .val (.long a3), .second, .val (.long a4), .second, .val (.long a5), .second, .val (.int a6), .val (.int zz), .val (.int hw2), .val (.long dd), .second, .val (.long st), .second, .val (.long pe), .second, .val (.long cy), .second, .val (.int es), .val (.ref ob), .val (.long (own_of cy a1 a2 st pe)), .second, .unset, .unset] [])) _
      refine XS.iload X28.here hx rfl (hb hby at_280) rfl ?_
      exact kt
    obtain ⟨T30, Lc30, wt, X30, e30, N30, hp30, pre30⟩ : ∃ (T30 : State) (Lc30 : List Loc) (wt : Int64), Stand p l e room_1 s m #[(.long a1), (.long a2), (.long a3), (.long a4), (.long a5), (.int a6)] below meth c T30 Lc30 1 4 ∧ T30.heap = T27.heap ∧ Fr n0 Lc30 ∧ (own_of cy a1 a2 st pe = wt) ∧ ∀ t, Steps p.tables e below (T30.setTop (mkF m 290 #[.val (.long a1), .second, .val (.long a2), .second, .val (.long a3), .second, .val (.long a4), .second, .val (.long a5), .second, .val (.int a6), .val (.int zz), .val (.int hw2), .val (.long dd), .second, .val (.long st), .second, .val (.long pe), .second, .val (.long cy), .second, .val (.int es), .val (.ref ob), .val (.long (own_of cy a1 a2 st pe)), .second, .unset, .unset] [(.long wt)])) t → Steps p.tables e below (s₁.setTop (entryFrame m #[(.long a1), (.long a2), (.long a3), (.long a4), (.long a5), (.int a6)] maxLocals)) t := by
      by_cases hc282 : es = (0 : Int32)
      case pos =>
        have pre31 : ∀ t, Steps p.tables e below (T28.setTop (mkF m 290 #[.val (.long a1), .second, .val (.long a2), .second, .val (.long a3), .second, .val (.long a4), .second, .val (.long a5), .second, .val (.int a6), .val (.int zz), .val (.int hw2), .val (.long dd), .second, .val (.long st), .second, .val (.long pe), .second, .val (.long cy), .second, .val (.int es), .val (.ref ob), .val (.long (own_of cy a1 a2 st pe)), .second, .unset, .unset] [(.long a1)])) t → Steps p.tables e below (s₁.setTop (entryFrame m #[(.long a1), (.long a2), (.long a3), (.long a4), (.long a5), (.int a6)] maxLocals)) t := by
          intro t kt
          refine pre29 t ?_
          show Steps p.tables e below (T28.setTop (mkF m 282 #[.val (.long a1), .second, .val (.long a2), .second, .val (.long a3), .second, .val (.long a4), .second, .val (.long a5), .second, .val (.int a6), .val (.int zz), .val (.int hw2), .val (.long dd), .second, .val (.long st), .second, .val (.long pe), .second, .val (.long cy), .second, .val (.int es), .val (.ref ob), .val (.long (own_of cy a1 a2 st pe)), .second, .unset, .unset] [(.int es)])) _
          refine XS.ifYes X28.here hx rfl (pc0 := 282) (pc' := 289) rfl (hb hby at_282) rfl ((if0 _ _).trans (teq hc282).1) (by decide) (by decide) ?_
          show Steps p.tables e below (T28.setTop (mkF m 289 #[.val (.long a1), .second, .val (.long a2), .second, .val (.long a3), .second, .val (.long a4), .second, .val (.long a5), .second, .val (.int a6), .val (.int zz), .val (.int hw2), .val (.long dd), .second, .val (.long st), .second, .val (.long pe), .second, .val (.long cy), .second, .val (.int es), .val (.ref ob), .val (.long (own_of cy a1 a2 st pe)), .second, .unset, .unset] [])) _
          refine XS.lloadN X28.here hx rfl (hb hby at_289) rfl ?_
          exact kt
        exact ⟨T28, _, a1, X28, eq28, N28, (by rw [hes] at hc282; exact if_pos hc282), pre31⟩
      case neg =>
        have pre32 : ∀ t, Steps p.tables e below (T28.setTop (mkF m 290 #[.val (.long a1), .second, .val (.long a2), .second, .val (.long a3), .second, .val (.long a4), .second, .val (.long a5), .second, .val (.int a6), .val (.int zz), .val (.int hw2), .val (.long dd), .second, .val (.long st), .second, .val (.long pe), .second, .val (.long cy), .second, .val (.int es), .val (.ref ob), .val (.long (own_of cy a1 a2 st pe)), .second, .unset, .unset] [(.long a2)])) t → Steps p.tables e below (s₁.setTop (entryFrame m #[(.long a1), (.long a2), (.long a3), (.long a4), (.long a5), (.int a6)] maxLocals)) t := by
          intro t kt
          refine pre29 t ?_
          show Steps p.tables e below (T28.setTop (mkF m 282 #[.val (.long a1), .second, .val (.long a2), .second, .val (.long a3), .second, .val (.long a4), .second, .val (.long a5), .second, .val (.int a6), .val (.int zz), .val (.int hw2), .val (.long dd), .second, .val (.long st), .second, .val (.long pe), .second, .val (.long cy), .second, .val (.int es), .val (.ref ob), .val (.long (own_of cy a1 a2 st pe)), .second, .unset, .unset] [(.int es)])) _
          refine XS.ifNo X28.here hx rfl (hb hby at_282) rfl ((if0 _ _).trans (feq hc282).1) ?_
          show Steps p.tables e below (T28.setTop (mkF m 285 #[.val (.long a1), .second, .val (.long a2), .second, .val (.long a3), .second, .val (.long a4), .second, .val (.long a5), .second, .val (.int a6), .val (.int zz), .val (.int hw2), .val (.long dd), .second, .val (.long st), .second, .val (.long pe), .second, .val (.long cy), .second, .val (.int es), .val (.ref ob), .val (.long (own_of cy a1 a2 st pe)), .second, .unset, .unset] [])) _
          refine XS.lloadN X28.here hx rfl (hb hby at_285) rfl ?_
          show Steps p.tables e below (T28.setTop (mkF m 286 #[.val (.long a1), .second, .val (.long a2), .second, .val (.long a3), .second, .val (.long a4), .second, .val (.long a5), .second, .val (.int a6), .val (.int zz), .val (.int hw2), .val (.long dd), .second, .val (.long st), .second, .val (.long pe), .second, .val (.long cy), .second, .val (.int es), .val (.ref ob), .val (.long (own_of cy a1 a2 st pe)), .second, .unset, .unset] [(.long a2)])) _
          refine XS.goto X28.here hx rfl (pc0 := 286) (pc' := 290) rfl (hb hby at_286) (by decide) (by decide) ?_
          exact kt
        exact ⟨T28, _, a2, X28, eq28, N28, (by rw [hes] at hc282; exact if_neg hc282), pre32⟩
    have hwt := hp30
    obtain ⟨fs, hr, hrun, hended, hW, hsame⟩ := X30.leave (v := some (.int (1 : Int32))) (fun h => by rw [Bd.returns] at h; cases h) (BodyLoose.notSynchronized Bd)
    refine ⟨_, _, pre30 _ ?_, hrun, hended, _, _, rfl, ?_, ⟨_, rfl⟩, hW, hsame.mono (by decide) (by decide)⟩
    · skip
      show Steps p.tables e below (T30.setTop (mkF m 290 #[.val (.long a1), .second, .val (.long a2), .second, .val (.long a3), .second, .val (.long a4), .second, .val (.long a5), .second, .val (.int a6), .val (.int zz), .val (.int hw2), .val (.long dd), .second, .val (.long st), .second, .val (.long pe), .second, .val (.long cy), .second, .val (.int es), .val (.ref ob), .val (.long (own_of cy a1 a2 st pe)), .second, .unset, .unset] [(.long wt)])) _
      refine XS.lstore X30.here hx rfl (hb hby at_290) rfl (l' := #[.val (.long a1), .second, .val (.long a2), .second, .val (.long a3), .second, .val (.long a4), .second, .val (.long a5), .second, .val (.int a6), .val (.int zz), .val (.int hw2), .val (.long dd), .second, .val (.long st), .second, .val (.long pe), .second, .val (.long cy), .second, .val (.int es), .val (.ref ob), .val (.long (own_of cy a1 a2 st pe)), .second, .val (.long wt), .second]) rfl ?_
      show Steps p.tables e below (T30.setTop (mkF m 292 #[.val (.long a1), .second, .val (.long a2), .second, .val (.long a3), .second, .val (.long a4), .second, .val (.long a5), .second, .val (.int a6), .val (.int zz), .val (.int hw2), .val (.long dd), .second, .val (.long st), .second, .val (.long pe), .second, .val (.long cy), .second, .val (.int es), .val (.ref ob), .val (.long (own_of cy a1 a2 st pe)), .second, .val (.long wt), .second] [])) _
      refine XS.lload X30.here hx rfl (hb hby at_292) rfl ?_
      show Steps p.tables e below (T30.setTop (mkF m 294 #[.val (.long a1), .second, .val (.long a2), .second, .val (.long a3), .second, .val (.long a4), .second, .val (.long a5), .second, .val (.int a6), .val (.int zz), .val (.int hw2), .val (.long dd), .second, .val (.long st), .second, .val (.long pe), .second, .val (.long cy), .second, .val (.int es), .val (.ref ob), .val (.long (own_of cy a1 a2 st pe)), .second, .val (.long wt), .second] [(.long (own_of cy a1 a2 st pe))])) _
      refine XS.lload X30.here hx rfl (hb hby at_294) rfl ?_
      show Steps p.tables e below (T30.setTop (mkF m 296 #[.val (.long a1), .second, .val (.long a2), .second, .val (.long a3), .second, .val (.long a4), .second, .val (.long a5), .second, .val (.int a6), .val (.int zz), .val (.int hw2), .val (.long dd), .second, .val (.long st), .second, .val (.long pe), .second, .val (.long cy), .second, .val (.int es), .val (.ref ob), .val (.long (own_of cy a1 a2 st pe)), .second, .val (.long wt), .second] [(.long wt), (.long (own_of cy a1 a2 st pe))])) _
      refine XS.lcmp X30.here hx rfl (hb hby at_296) rfl ?_
      show Steps p.tables e below (T30.setTop (mkF m 297 #[.val (.long a1), .second, .val (.long a2), .second, .val (.long a3), .second, .val (.long a4), .second, .val (.long a5), .second, .val (.int a6), .val (.int zz), .val (.int hw2), .val (.long dd), .second, .val (.long st), .second, .val (.long pe), .second, .val (.long cy), .second, .val (.int es), .val (.ref ob), .val (.long (own_of cy a1 a2 st pe)), .second, .val (.long wt), .second] [(.int (lcmpW (own_of cy a1 a2 st pe) wt))])) _
      refine XS.ifNo X30.here hx rfl (hb hby at_297) rfl ((if0 _ _).trans (teq ((lw_eq (own_of cy a1 a2 st pe) wt).mpr hwt)).2) ?_
      show Steps p.tables e below (T30.setTop (mkF m 300 #[.val (.long a1), .second, .val (.long a2), .second, .val (.long a3), .second, .val (.long a4), .second, .val (.long a5), .second, .val (.int a6), .val (.int zz), .val (.int hw2), .val (.long dd), .second, .val (.long st), .second, .val (.long pe), .second, .val (.long cy), .second, .val (.int es), .val (.ref ob), .val (.long (own_of cy a1 a2 st pe)), .second, .val (.long wt), .second] [])) _
      refine XS.iconst X30.here hx rfl (hb hby at_300) ?_
      show Steps p.tables e below (T30.setTop (mkF m 301 #[.val (.long a1), .second, .val (.long a2), .second, .val (.long a3), .second, .val (.long a4), .second, .val (.long a5), .second, .val (.int a6), .val (.int zz), .val (.int hw2), .val (.long dd), .second, .val (.long st), .second, .val (.long pe), .second, .val (.long cy), .second, .val (.int es), .val (.ref ob), .val (.long (own_of cy a1 a2 st pe)), .second, .val (.long wt), .second] [(.int (1 : Int32))])) _
      refine XS.goto X30.here hx rfl (pc0 := 301) (pc' := 305) rfl (hb hby at_301) (by decide) (by decide) ?_
      show Steps p.tables e below (T30.setTop (mkF m 305 #[.val (.long a1), .second, .val (.long a2), .second, .val (.long a3), .second, .val (.long a4), .second, .val (.long a5), .second, .val (.int a6), .val (.int zz), .val (.int hw2), .val (.long dd), .second, .val (.long st), .second, .val (.long pe), .second, .val (.long cy), .second, .val (.int es), .val (.ref ob), .val (.long (own_of cy a1 a2 st pe)), .second, .val (.long wt), .second] [(.int (1 : Int32))])) _
      exact retN X30 hx (t := .boolean) Bd.returns (by simp) (hb hby at_305) hr
    · show own_Q0 Z a1 a2 a3 a4 a5 a6 h0 n0 _ T30.heap _
      rw [e30]
      exact ⟨rfl, N30⟩
  case neg =>
    have pre33 : ∀ t, Steps p.tables e below (T2.setTop (mkF m 75 #[.val (.long a1), .second, .val (.long a2), .second, .val (.long a3), .second, .val (.long a4), .second, .val (.long a5), .second, .val (.int a6), .val (.int zz), .val (.int hw2), .val (.long dd), .second, .unset, .unset, .unset, .unset, .unset, .unset, .unset, .unset, .unset, .unset, .unset, .unset] [(.int (1 : Int32)), (.int hw2)])) t → Steps p.tables e below (s₁.setTop (entryFrame m #[(.long a1), (.long a2), (.long a3), (.long a4), (.long a5), (.int a6)] maxLocals)) t := by
      intro t kt
      refine pre9 t ?_
      show Steps p.tables e below (T2.setTop (mkF m 33 #[.val (.long a1), .second, .val (.long a2), .second, .val (.long a3), .second, .val (.long a4), .second, .val (.long a5), .second, .val (.int a6), .val (.int zz), .val (.int hw2), .val (.long dd), .second, .unset, .unset, .unset, .unset, .unset, .unset, .unset, .unset, .unset, .unset, .unset, .unset] [(.int hw2)])) _
      refine XS.ifYes X2.here hx rfl (pc0 := 33) (pc' := 72) rfl (hb hby at_33) rfl ((if0 _ _).trans (feq hc33).2) (by decide) (by decide) ?_
      show Steps p.tables e below (T2.setTop (mkF m 72 #[.val (.long a1), .second, .val (.long a2), .second, .val (.long a3), .second, .val (.long a4), .second, .val (.long a5), .second, .val (.int a6), .val (.int zz), .val (.int hw2), .val (.long dd), .second, .unset, .unset, .unset, .unset, .unset, .unset, .unset, .unset, .unset, .unset, .unset, .unset] [])) _
      refine XS.iload X2.here hx rfl (hb hby at_72) rfl ?_
      show Steps p.tables e below (T2.setTop (mkF m 74 #[.val (.long a1), .second, .val (.long a2), .second, .val (.long a3), .second, .val (.long a4), .second, .val (.long a5), .second, .val (.int a6), .val (.int zz), .val (.int hw2), .val (.long dd), .second, .unset, .unset, .unset, .unset, .unset, .unset, .unset, .unset, .unset, .unset, .unset, .unset] [(.int hw2)])) _
      refine XS.iconst X2.here hx rfl (hb hby at_74) ?_
      exact kt
    by_cases hc75 : hw2 = (1 : Int32)
    case pos =>
      have pre34 : ∀ t, Steps p.tables e below (T2.setTop (mkF m 88 #[.val (.long a1), .second, .val (.long a2), .second, .val (.long a3), .second, .val (.long a4), .second, .val (.long a5), .second, .val (.int a6), .val (.int zz), .val (.int hw2), .val (.long dd), .second, .val (.long (a3 &&& (9223372036854775807 : Int64))), .second, .unset, .unset, .unset, .unset, .unset, .unset, .unset, .unset, .unset, .unset] [(.int zz)])) t → Steps p.tables e below (s₁.setTop (entryFrame m #[(.long a1), (.long a2), (.long a3), (.long a4), (.long a5), (.int a6)] maxLocals)) t := by
        intro t kt
        refine pre33 t ?_
        show Steps p.tables e below (T2.setTop (mkF m 75 #[.val (.long a1), .second, .val (.long a2), .second, .val (.long a3), .second, .val (.long a4), .second, .val (.long a5), .second, .val (.int a6), .val (.int zz), .val (.int hw2), .val (.long dd), .second, .unset, .unset, .unset, .unset, .unset, .unset, .unset, .unset, .unset, .unset, .unset, .unset] [(.int (1 : Int32)), (.int hw2)])) _
        refine XS.icmpNo X2.here hx rfl (hb hby at_75) rfl (teq hc75).2 ?_
        show Steps p.tables e below (T2.setTop (mkF m 78 #[.val (.long a1), .second, .val (.long a2), .second, .val (.long a3), .second, .val (.long a4), .second, .val (.long a5), .second, .val (.int a6), .val (.int zz), .val (.int hw2), .val (.long dd), .second, .unset, .unset, .unset, .unset, .unset, .unset, .unset, .unset, .unset, .unset, .unset, .unset] [])) _
        refine XS.lload X2.here hx rfl (hb hby at_78) rfl ?_
        show Steps p.tables e below (T2.setTop (mkF m 80 #[.val (.long a1), .second, .val (.long a2), .second, .val (.long a3), .second, .val (.long a4), .second, .val (.long a5), .second, .val (.int a6), .val (.int zz), .val (.int hw2), .val (.long dd), .second, .unset, .unset, .unset, .unset, .unset, .unset, .unset, .unset, .unset, .unset, .unset, .unset] [(.long a3)])) _
        refine X2.ldc2Long hx hown (mvT hZ (hw _ (List.mem_of_getElem? (i := 0) rfl))) (g := (mkF m 80 #[.val (.long a1), .second, .val (.long a2), .second, .val (.long a3), .second, .val (.long a4), .second, .val (.long a5), .second, .val (.int a6), .val (.int zz), .val (.int hw2), .val (.long dd), .second, .unset, .unset, .unset, .unset, .unset, .unset, .unset, .unset, .unset, .unset, .unset, .unset] [(.long a3)])) rfl (hb hby at_80) _ ?_
        show Steps p.tables e below (T2.setTop (mkF m 83 #[.val (.long a1), .second, .val (.long a2), .second, .val (.long a3), .second, .val (.long a4), .second, .val (.long a5), .second, .val (.int a6), .val (.int zz), .val (.int hw2), .val (.long dd), .second, .unset, .unset, .unset, .unset, .unset, .unset, .unset, .unset, .unset, .unset, .unset, .unset] [(.long (9223372036854775807 : Int64)), (.long a3)])) _
        refine XS.land X2.here hx rfl (hb hby at_83) rfl ?_
        show Steps p.tables e below (T2.setTop (mkF m 84 #[.val (.long a1), .second, .val (.long a2), .second, .val (.long a3), .second, .val (.long a4), .second, .val (.long a5), .second, .val (.int a6), .val (.int zz), .val (.int hw2), .val (.long dd), .second, .unset, .unset, .unset, .unset, .unset, .unset, .unset, .unset, .unset, .unset, .unset, .unset] [(.long (a3 &&& (9223372036854775807 : Int64)))])) _
        refine XS.lstore X2.here hx rfl (hb hby at_84) rfl (l' := #[.val (.long a1), .second, .val (.long a2), .second, .val (.long a3), .second, .val (.long a4), .second, .val (.long a5), .second, .val (.int a6), .val (.int zz), .val (.int hw2), .val (.long dd), .second, .val (.long (a3 &&& (9223372036854775807 : Int64))), .second, .unset, .unset, .unset, .unset, .unset, .unset, .unset, .unset, .unset, .unset]) rfl ?_
        show Steps p.tables e below (T2.setTop (mkF m 86 #[.val (.long a1), .second, .val (.long a2), .second, .val (.long a3), .second, .val (.long a4), .second, .val (.long a5), .second, .val (.int a6), .val (.int zz), .val (.int hw2), .val (.long dd), .second, .val (.long (a3 &&& (9223372036854775807 : Int64))), .second, .unset, .unset, .unset, .unset, .unset, .unset, .unset, .unset, .unset, .unset] [])) _
        refine XS.iload X2.here hx rfl (hb hby at_86) rfl ?_
        exact kt
      obtain ⟨T35, Lc35, pe, X35, e35, N35, hp35, pre35⟩ : ∃ (T35 : State) (Lc35 : List Loc) (pe : Int64), Stand p l e room_1 s m #[(.long a1), (.long a2), (.long a3), (.long a4), (.long a5), (.int a6)] below meth c T35 Lc35 0 0 ∧ T35.heap = h0 ∧ Fr n0 Lc35 ∧ (0 ≤ pe.toInt) ∧ ∀ t, Steps p.tables e below (T35.setTop (mkF m 101 #[.val (.long a1), .second, .val (.long a2), .second, .val (.long a3), .second, .val (.long a4), .second, .val (.long a5), .second, .val (.int a6), .val (.int zz), .val (.int hw2), .val (.long dd), .second, .val (.long (a3 &&& (9223372036854775807 : Int64))), .second, .unset, .unset, .unset, .unset, .unset, .unset, .unset, .unset, .unset, .unset] [(.long pe)])) t → Steps p.tables e below (s₁.setTop (entryFrame m #[(.long a1), (.long a2), (.long a3), (.long a4), (.long a5), (.int a6)] maxLocals)) t := by
        by_cases hc88 : zz = (0 : Int32)
        case pos =>
          have pre36 : ∀ t, Steps p.tables e below (T2.setTop (mkF m 101 #[.val (.long a1), .second, .val (.long a2), .second, .val (.long a3), .second, .val (.long a4), .second, .val (.long a5), .second, .val (.int a6), .val (.int zz), .val (.int hw2), .val (.long dd), .second, .val (.long (a3 &&& (9223372036854775807 : Int64))), .second, .unset, .unset, .unset, .unset, .unset, .unset, .unset, .unset, .unset, .unset] [(.long (a4 &&& (9223372036854775807 : Int64)))])) t → Steps p.tables e below (s₁.setTop (entryFrame m #[(.long a1), (.long a2), (.long a3), (.long a4), (.long a5), (.int a6)] maxLocals)) t := by
            intro t kt
            refine pre34 t ?_
            show Steps p.tables e below (T2.setTop (mkF m 88 #[.val (.long a1), .second, .val (.long a2), .second, .val (.long a3), .second, .val (.long a4), .second, .val (.long a5), .second, .val (.int a6), .val (.int zz), .val (.int hw2), .val (.long dd), .second, .val (.long (a3 &&& (9223372036854775807 : Int64))), .second, .unset, .unset, .unset, .unset, .unset, .unset, .unset, .unset, .unset, .unset] [(.int zz)])) _
            refine XS.ifYes X2.here hx rfl (pc0 := 88) (pc' := 95) rfl (hb hby at_88) rfl ((if0 _ _).trans (teq hc88).1) (by decide) (by decide) ?_
            show Steps p.tables e below (T2.setTop (mkF m 95 #[.val (.long a1), .second, .val (.long a2), .second, .val (.long a3), .second, .val (.long a4), .second, .val (.long a5), .second, .val (.int a6), .val (.int zz), .val (.int hw2), .val (.long dd), .second, .val (.long (a3 &&& (9223372036854775807 : Int64))), .second, .unset, .unset, .unset, .unset, .unset, .unset, .unset, .unset, .unset, .unset] [])) _
            refine XS.lload X2.here hx rfl (hb hby at_95) rfl ?_
            show Steps p.tables e below (T2.setTop (mkF m 97 #[.val (.long a1), .second, .val (.long a2), .second, .val (.long a3), .second, .val (.long a4), .second, .val (.long a5), .second, .val (.int a6), .val (.int zz), .val (.int hw2), .val (.long dd), .second, .val (.long (a3 &&& (9223372036854775807 : Int64))), .second, .unset, .unset, .unset, .unset, .unset, .unset, .unset, .unset, .unset, .unset] [(.long a4)])) _
            refine X2.ldc2Long hx hown (mvT hZ (hw _ (List.mem_of_getElem? (i := 0) rfl))) (g := (mkF m 97 #[.val (.long a1), .second, .val (.long a2), .second, .val (.long a3), .second, .val (.long a4), .second, .val (.long a5), .second, .val (.int a6), .val (.int zz), .val (.int hw2), .val (.long dd), .second, .val (.long (a3 &&& (9223372036854775807 : Int64))), .second, .unset, .unset, .unset, .unset, .unset, .unset, .unset, .unset, .unset, .unset] [(.long a4)])) rfl (hb hby at_97) _ ?_
            show Steps p.tables e below (T2.setTop (mkF m 100 #[.val (.long a1), .second, .val (.long a2), .second, .val (.long a3), .second, .val (.long a4), .second, .val (.long a5), .second, .val (.int a6), .val (.int zz), .val (.int hw2), .val (.long dd), .second, .val (.long (a3 &&& (9223372036854775807 : Int64))), .second, .unset, .unset, .unset, .unset, .unset, .unset, .unset, .unset, .unset, .unset] [(.long (9223372036854775807 : Int64)), (.long a4)])) _
            refine XS.land X2.here hx rfl (hb hby at_100) rfl ?_
            exact kt
          exact ⟨T2, _, (a4 &&& (9223372036854775807 : Int64)), X2, e2, N2, (own_m63 a4), pre36⟩
        case neg =>
          have pre37 : ∀ t, Steps p.tables e below (T2.setTop (mkF m 101 #[.val (.long a1), .second, .val (.long a2), .second, .val (.long a3), .second, .val (.long a4), .second, .val (.long a5), .second, .val (.int a6), .val (.int zz), .val (.int hw2), .val (.long dd), .second, .val (.long (a3 &&& (9223372036854775807 : Int64))), .second, .unset, .unset, .unset, .unset, .unset, .unset, .unset, .unset, .unset, .unset] [(.long (0 : Int64))])) t → Steps p.tables e below (s₁.setTop (entryFrame m #[(.long a1), (.long a2), (.long a3), (.long a4), (.long a5), (.int a6)] maxLocals)) t := by
            intro t kt
            refine pre34 t ?_
            show Steps p.tables e below (T2.setTop (mkF m 88 #[.val (.long a1), .second, .val (.long a2), .second, .val (.long a3), .second, .val (.long a4), .second, .val (.long a5), .second, .val (.int a6), .val (.int zz), .val (.int hw2), .val (.long dd), .second, .val (.long (a3 &&& (9223372036854775807 : Int64))), .second, .unset, .unset, .unset, .unset, .unset, .unset, .unset, .unset, .unset, .unset] [(.int zz)])) _
            refine XS.ifNo X2.here hx rfl (hb hby at_88) rfl ((if0 _ _).trans (feq hc88).1) ?_
            show Steps p.tables e below (T2.setTop (mkF m 91 #[.val (.long a1), .second, .val (.long a2), .second, .val (.long a3), .second, .val (.long a4), .second, .val (.long a5), .second, .val (.int a6), .val (.int zz), .val (.int hw2), .val (.long dd), .second, .val (.long (a3 &&& (9223372036854775807 : Int64))), .second, .unset, .unset, .unset, .unset, .unset, .unset, .unset, .unset, .unset, .unset] [])) _
            refine XS.lconst X2.here hx rfl (hb hby at_91) ?_
            show Steps p.tables e below (T2.setTop (mkF m 92 #[.val (.long a1), .second, .val (.long a2), .second, .val (.long a3), .second, .val (.long a4), .second, .val (.long a5), .second, .val (.int a6), .val (.int zz), .val (.int hw2), .val (.long dd), .second, .val (.long (a3 &&& (9223372036854775807 : Int64))), .second, .unset, .unset, .unset, .unset, .unset, .unset, .unset, .unset, .unset, .unset] [(.long (0 : Int64))])) _
            refine XS.goto X2.here hx rfl (pc0 := 92) (pc' := 101) rfl (hb hby at_92) (by decide) (by decide) ?_
            exact kt
          exact ⟨T2, _, (0 : Int64), X2, e2, N2, (by decide), pre37⟩
      have hpe := hp35
      have pre38 : ∀ t, Steps p.tables e below (T35.setTop (mkF m 211 #[.val (.long a1), .second, .val (.long a2), .second, .val (.long a3), .second, .val (.long a4), .second, .val (.long a5), .second, .val (.int a6), .val (.int zz), .val (.int hw2), .val (.long dd), .second, .val (.long (a3 &&& (9223372036854775807 : Int64))), .second, .val (.long pe), .second, .val (.long (a3 &&& (9223372036854775807 : Int64))), .second, .unset, .unset, .unset, .unset, .unset, .unset] [])) t → Steps p.tables e below (s₁.setTop (entryFrame m #[(.long a1), (.long a2), (.long a3), (.long a4), (.long a5), (.int a6)] maxLocals)) t := by
        intro t kt
        refine pre35 t ?_
        show Steps p.tables e below (T35.setTop (mkF m 101 #[.val (.long a1), .second, .val (.long a2), .second, .val (.long a3), .second, .val (.long a4), .second, .val (.long a5), .second, .val (.int a6), .val (.int zz), .val (.int hw2), .val (.long dd), .second, .val (.long (a3 &&& (9223372036854775807 : Int64))), .second, .unset, .unset, .unset, .unset, .unset, .unset, .unset, .unset, .unset, .unset] [(.long pe)])) _
        refine XS.lstore X35.here hx rfl (hb hby at_101) rfl (l' := #[.val (.long a1), .second, .val (.long a2), .second, .val (.long a3), .second, .val (.long a4), .second, .val (.long a5), .second, .val (.int a6), .val (.int zz), .val (.int hw2), .val (.long dd), .second, .val (.long (a3 &&& (9223372036854775807 : Int64))), .second, .val (.long pe), .second, .unset, .unset, .unset, .unset, .unset, .unset, .unset, .unset]) rfl ?_
        show Steps p.tables e below (T35.setTop (mkF m 103 #[.val (.long a1), .second, .val (.long a2), .second, .val (.long a3), .second, .val (.long a4), .second, .val (.long a5), .second, .val (.int a6), .val (.int zz), .val (.int hw2), .val (.long dd), .second, .val (.long (a3 &&& (9223372036854775807 : Int64))), .second, .val (.long pe), .second, .unset, .unset, .unset, .unset, .unset, .unset, .unset, .unset] [])) _
        refine XS.lload X35.here hx rfl (hb hby at_103) rfl ?_
        show Steps p.tables e below (T35.setTop (mkF m 105 #[.val (.long a1), .second, .val (.long a2), .second, .val (.long a3), .second, .val (.long a4), .second, .val (.long a5), .second, .val (.int a6), .val (.int zz), .val (.int hw2), .val (.long dd), .second, .val (.long (a3 &&& (9223372036854775807 : Int64))), .second, .val (.long pe), .second, .unset, .unset, .unset, .unset, .unset, .unset, .unset, .unset] [(.long (a3 &&& (9223372036854775807 : Int64)))])) _
        refine XS.lstore X35.here hx rfl (hb hby at_105) rfl (l' := #[.val (.long a1), .second, .val (.long a2), .second, .val (.long a3), .second, .val (.long a4), .second, .val (.long a5), .second, .val (.int a6), .val (.int zz), .val (.int hw2), .val (.long dd), .second, .val (.long (a3 &&& (9223372036854775807 : Int64))), .second, .val (.long pe), .second, .val (.long (a3 &&& (9223372036854775807 : Int64))), .second, .unset, .unset, .unset, .unset, .unset, .unset]) rfl ?_
        show Steps p.tables e below (T35.setTop (mkF m 107 #[.val (.long a1), .second, .val (.long a2), .second, .val (.long a3), .second, .val (.long a4), .second, .val (.long a5), .second, .val (.int a6), .val (.int zz), .val (.int hw2), .val (.long dd), .second, .val (.long (a3 &&& (9223372036854775807 : Int64))), .second, .val (.long pe), .second, .val (.long (a3 &&& (9223372036854775807 : Int64))), .second, .unset, .unset, .unset, .unset, .unset, .unset] [])) _
        refine XS.goto X35.here hx rfl (pc0 := 107) (pc' := 211) rfl (hb hby at_107) (by decide) (by decide) ?_
        exact kt
      obtain ⟨st, hd_st⟩ : ∃ z : Int64, z = (a3 &&& (9223372036854775807 : Int64)) := ⟨_, rfl⟩
      have pre39 : ∀ t, Steps p.tables e below (T35.setTop (mkF m 211 #[.val (.long a1), .second, .val (.long a2), .second, .val (.long a3), .second, .val (.long a4), .second, .val (.long a5), .second, .val (.int a6), .val (.int zz), .val (.int hw2), .val (.long dd), .second, .val (.long st), .second, .val (.long pe), .second, .val (.long st), .second, .unset, .unset, .unset, .unset, .unset, .unset] [])) t → Steps p.tables e below (s₁.setTop (entryFrame m #[(.long a1), (.long a2), (.long a3), (.long a4), (.long a5), (.int a6)] maxLocals)) t := by rw [hd_st]; exact pre38
      have hst : 0 ≤ st.toInt := by rw [hd_st]; exact own_m63 a3
      have hcy : 0 ≤ st.toInt := by rw [hd_st]; exact own_m63 a3
      have pre40 : ∀ t, Steps p.tables e below (T35.setTop (mkF m 215 #[.val (.long a1), .second, .val (.long a2), .second, .val (.long a3), .second, .val (.long a4), .second, .val (.long a5), .second, .val (.int a6), .val (.int zz), .val (.int hw2), .val (.long dd), .second, .val (.long st), .second, .val (.long pe), .second, .val (.long st), .second, .unset, .unset, .unset, .unset, .unset, .unset] [(.int (lcmpW pe (0 : Int64)))])) t → Steps p.tables e below (s₁.setTop (entryFrame m #[(.long a1), (.long a2), (.long a3), (.long a4), (.long a5), (.int a6)] maxLocals)) t := by
        intro t kt
        refine pre39 t ?_
        show Steps p.tables e below (T35.setTop (mkF m 211 #[.val (.long a1), .second, .val (.long a2), .second, .val (.long a3), .second, .val (.long a4), .second, .val (.long a5), .second, .val (.int a6), .val (.int zz), .val (.int hw2), .val (.long dd), .second, .val (.long st), .second, .val (.long pe), .second, .val (.long st), .second, .unset, .unset, .unset, .unset, .unset, .unset] [])) _
        refine XS.lload X35.here hx rfl (hb hby at_211) rfl ?_
        show Steps p.tables e below (T35.setTop (mkF m 213 #[.val (.long a1), .second, .val (.long a2), .second, .val (.long a3), .second, .val (.long a4), .second, .val (.long a5), .second, .val (.int a6), .val (.int zz), .val (.int hw2), .val (.long dd), .second, .val (.long st), .second, .val (.long pe), .second, .val (.long st), .second, .unset, .unset, .unset, .unset, .unset, .unset] [(.long pe)])) _
        refine XS.lconst X35.here hx rfl (hb hby at_213) ?_
        show Steps p.tables e below (T35.setTop (mkF m 214 #[.val (.long a1), .second, .val (.long a2), .second, .val (.long a3), .second, .val (.long a4), .second, .val (.long a5), .second, .val (.int a6), .val (.int zz), .val (.int hw2), .val (.long dd), .second, .val (.long st), .second, .val (.long pe), .second, .val (.long st), .second, .unset, .unset, .unset, .unset, .unset, .unset] [(.long (0 : Int64)), (.long pe)])) _
        refine XS.lcmp X35.here hx rfl (hb hby at_214) rfl ?_
        exact kt
      obtain ⟨T41, Lc41, es, X41, e41, N41, hp41, pre41⟩ : ∃ (T41 : State) (Lc41 : List Loc) (es : Int32), Stand p l e room_1 s m #[(.long a1), (.long a2), (.long a3), (.long a4), (.long a5), (.int a6)] below meth c T41 Lc41 0 0 ∧ T41.heap = h0 ∧ Fr n0 Lc41 ∧ (es = own_is st st pe) ∧ ∀ t, Steps p.tables e below (T41.setTop (mkF m 256 #[.val (.long a1), .second, .val (.long a2), .second, .val (.long a3), .second, .val (.long a4), .second, .val (.long a5), .second, .val (.int a6), .val (.int zz), .val (.int hw2), .val (.long dd), .second, .val (.long st), .second, .val (.long pe), .second, .val (.long st), .second, .val (.int es), .unset, .unset, .unset, .unset, .unset] [])) t → Steps p.tables e below (s₁.setTop (entryFrame m #[(.long a1), (.long a2), (.long a3), (.long a4), (.long a5), (.int a6)] maxLocals)) t := by
        by_cases hc215_2 : pe = (0 : Int64)
        case pos =>
          have pre42 : ∀ t, Steps p.tables e below (T35.setTop (mkF m 256 #[.val (.long a1), .second, .val (.long a2), .second, .val (.long a3), .second, .val (.long a4), .second, .val (.long a5), .second, .val (.int a6), .val (.int zz), .val (.int hw2), .val (.long dd), .second, .val (.long st), .second, .val (.long pe), .second, .val (.long st), .second, .val (.int (1 : Int32)), .unset, .unset, .unset, .unset, .unset] [])) t → Steps p.tables e below (s₁.setTop (entryFrame m #[(.long a1), (.long a2), (.long a3), (.long a4), (.long a5), (.int a6)] maxLocals)) t := by
            intro t kt
            refine pre40 t ?_
            show Steps p.tables e below (T35.setTop (mkF m 215 #[.val (.long a1), .second, .val (.long a2), .second, .val (.long a3), .second, .val (.long a4), .second, .val (.long a5), .second, .val (.int a6), .val (.int zz), .val (.int hw2), .val (.long dd), .second, .val (.long st), .second, .val (.long pe), .second, .val (.long st), .second, .unset, .unset, .unset, .unset, .unset, .unset] [(.int (lcmpW pe (0 : Int64)))])) _
            refine XS.ifNo X35.here hx rfl (hb hby at_215) rfl ((if0 _ _).trans (teq ((lw_eq pe (0 : Int64)).mpr hc215_2)).2) ?_
            show Steps p.tables e below (T35.setTop (mkF m 218 #[.val (.long a1), .second, .val (.long a2), .second, .val (.long a3), .second, .val (.long a4), .second, .val (.long a5), .second, .val (.int a6), .val (.int zz), .val (.int hw2), .val (.long dd), .second, .val (.long st), .second, .val (.long pe), .second, .val (.long st), .second, .unset, .unset, .unset, .unset, .unset, .unset] [])) _
            refine XS.lload X35.here hx rfl (hb hby at_218) rfl ?_
            show Steps p.tables e below (T35.setTop (mkF m 220 #[.val (.long a1), .second, .val (.long a2), .second, .val (.long a3), .second, .val (.long a4), .second, .val (.long a5), .second, .val (.int a6), .val (.int zz), .val (.int hw2), .val (.long dd), .second, .val (.long st), .second, .val (.long pe), .second, .val (.long st), .second, .unset, .unset, .unset, .unset, .unset, .unset] [(.long st)])) _
            refine XS.lload X35.here hx rfl (hb hby at_220) rfl ?_
            show Steps p.tables e below (T35.setTop (mkF m 222 #[.val (.long a1), .second, .val (.long a2), .second, .val (.long a3), .second, .val (.long a4), .second, .val (.long a5), .second, .val (.int a6), .val (.int zz), .val (.int hw2), .val (.long dd), .second, .val (.long st), .second, .val (.long pe), .second, .val (.long st), .second, .unset, .unset, .unset, .unset, .unset, .unset] [(.long st), (.long st)])) _
            refine XS.lcmp X35.here hx rfl (hb hby at_222) rfl ?_
            show Steps p.tables e below (T35.setTop (mkF m 223 #[.val (.long a1), .second, .val (.long a2), .second, .val (.long a3), .second, .val (.long a4), .second, .val (.long a5), .second, .val (.int a6), .val (.int zz), .val (.int hw2), .val (.long dd), .second, .val (.long st), .second, .val (.long pe), .second, .val (.long st), .second, .unset, .unset, .unset, .unset, .unset, .unset] [(.int (lcmpW st st))])) _
            refine XS.ifNo X35.here hx rfl (hb hby at_223) rfl ((if0 _ _).trans (teq ((lw_eq st st).mpr rfl)).2) ?_
            show Steps p.tables e below (T35.setTop (mkF m 226 #[.val (.long a1), .second, .val (.long a2), .second, .val (.long a3), .second, .val (.long a4), .second, .val (.long a5), .second, .val (.int a6), .val (.int zz), .val (.int hw2), .val (.long dd), .second, .val (.long st), .second, .val (.long pe), .second, .val (.long st), .second, .unset, .unset, .unset, .unset, .unset, .unset] [])) _
            refine XS.iconst X35.here hx rfl (hb hby at_226) ?_
            show Steps p.tables e below (T35.setTop (mkF m 227 #[.val (.long a1), .second, .val (.long a2), .second, .val (.long a3), .second, .val (.long a4), .second, .val (.long a5), .second, .val (.int a6), .val (.int zz), .val (.int hw2), .val (.long dd), .second, .val (.long st), .second, .val (.long pe), .second, .val (.long st), .second, .unset, .unset, .unset, .unset, .unset, .unset] [(.int (1 : Int32))])) _
            refine XS.goto X35.here hx rfl (pc0 := 227) (pc' := 231) rfl (hb hby at_227) (by decide) (by decide) ?_
            show Steps p.tables e below (T35.setTop (mkF m 231 #[.val (.long a1), .second, .val (.long a2), .second, .val (.long a3), .second, .val (.long a4), .second, .val (.long a5), .second, .val (.int a6), .val (.int zz), .val (.int hw2), .val (.long dd), .second, .val (.long st), .second, .val (.long pe), .second, .val (.long st), .second, .unset, .unset, .unset, .unset, .unset, .unset] [(.int (1 : Int32))])) _
            refine XS.istore X35.here hx rfl (hb hby at_231) rfl (l' := #[.val (.long a1), .second, .val (.long a2), .second, .val (.long a3), .second, .val (.long a4), .second, .val (.long a5), .second, .val (.int a6), .val (.int zz), .val (.int hw2), .val (.long dd), .second, .val (.long st), .second, .val (.long pe), .second, .val (.long st), .second, .val (.int (1 : Int32)), .unset, .unset, .unset, .unset, .unset]) rfl ?_
            show Steps p.tables e below (T35.setTop (mkF m 233 #[.val (.long a1), .second, .val (.long a2), .second, .val (.long a3), .second, .val (.long a4), .second, .val (.long a5), .second, .val (.int a6), .val (.int zz), .val (.int hw2), .val (.long dd), .second, .val (.long st), .second, .val (.long pe), .second, .val (.long st), .second, .val (.int (1 : Int32)), .unset, .unset, .unset, .unset, .unset] [])) _
            refine XS.goto X35.here hx rfl (pc0 := 233) (pc' := 256) rfl (hb hby at_233) (by decide) (by decide) ?_
            exact kt
          exact ⟨T35, _, (1 : Int32), X35, e35, N35, (by simp [own_is, hc215_2]), pre42⟩
        case neg =>
          have pre43 : ∀ t, Steps p.tables e below (T35.setTop (mkF m 246 #[.val (.long a1), .second, .val (.long a2), .second, .val (.long a3), .second, .val (.long a4), .second, .val (.long a5), .second, .val (.int a6), .val (.int zz), .val (.int hw2), .val (.long dd), .second, .val (.long st), .second, .val (.long pe), .second, .val (.long st), .second, .unset, .unset, .unset, .unset, .unset, .unset] [(.int (lcmpW ((st - st) % pe) (0 : Int64)))])) t → Steps p.tables e below (s₁.setTop (entryFrame m #[(.long a1), (.long a2), (.long a3), (.long a4), (.long a5), (.int a6)] maxLocals)) t := by
            intro t kt
            refine pre40 t ?_
            show Steps p.tables e below (T35.setTop (mkF m 215 #[.val (.long a1), .second, .val (.long a2), .second, .val (.long a3), .second, .val (.long a4), .second, .val (.long a5), .second, .val (.int a6), .val (.int zz), .val (.int hw2), .val (.long dd), .second, .val (.long st), .second, .val (.long pe), .second, .val (.long st), .second, .unset, .unset, .unset, .unset, .unset, .unset] [(.int (lcmpW pe (0 : Int64)))])) _
            refine XS.ifYes X35.here hx rfl (pc0 := 215) (pc' := 236) rfl (hb hby at_215) rfl ((if0 _ _).trans (feq (fun q => hc215_2 ((lw_eq pe (0 : Int64)).mp q))).2) (by decide) (by decide) ?_
            show Steps p.tables e below (T35.setTop (mkF m 236 #[.val (.long a1), .second, .val (.long a2), .second, .val (.long a3), .second, .val (.long a4), .second, .val (.long a5), .second, .val (.int a6), .val (.int zz), .val (.int hw2), .val (.long dd), .second, .val (.long st), .second, .val (.long pe), .second, .val (.long st), .second, .unset, .unset, .unset, .unset, .unset, .unset] [])) _
            refine XS.lload X35.here hx rfl (hb hby at_236) rfl ?_
            show Steps p.tables e below (T35.setTop (mkF m 238 #[.val (.long a1), .second, .val (.long a2), .second, .val (.long a3), .second, .val (.long a4), .second, .val (.long a5), .second, .val (.int a6), .val (.int zz), .val (.int hw2), .val (.long dd), .second, .val (.long st), .second, .val (.long pe), .second, .val (.long st), .second, .unset, .unset, .unset, .unset, .unset, .unset] [(.long st)])) _
            refine XS.lload X35.here hx rfl (hb hby at_238) rfl ?_
            show Steps p.tables e below (T35.setTop (mkF m 240 #[.val (.long a1), .second, .val (.long a2), .second, .val (.long a3), .second, .val (.long a4), .second, .val (.long a5), .second, .val (.int a6), .val (.int zz), .val (.int hw2), .val (.long dd), .second, .val (.long st), .second, .val (.long pe), .second, .val (.long st), .second, .unset, .unset, .unset, .unset, .unset, .unset] [(.long st), (.long st)])) _
            refine XS.lsub X35.here hx rfl (hb hby at_240) rfl ?_
            show Steps p.tables e below (T35.setTop (mkF m 241 #[.val (.long a1), .second, .val (.long a2), .second, .val (.long a3), .second, .val (.long a4), .second, .val (.long a5), .second, .val (.int a6), .val (.int zz), .val (.int hw2), .val (.long dd), .second, .val (.long st), .second, .val (.long pe), .second, .val (.long st), .second, .unset, .unset, .unset, .unset, .unset, .unset] [(.long (st - st))])) _
            refine XS.lload X35.here hx rfl (hb hby at_241) rfl ?_
            show Steps p.tables e below (T35.setTop (mkF m 243 #[.val (.long a1), .second, .val (.long a2), .second, .val (.long a3), .second, .val (.long a4), .second, .val (.long a5), .second, .val (.int a6), .val (.int zz), .val (.int hw2), .val (.long dd), .second, .val (.long st), .second, .val (.long pe), .second, .val (.long st), .second, .unset, .unset, .unset, .unset, .unset, .unset] [(.long pe), (.long (st - st))])) _
            refine own_lremM X35 hx rfl (hb hby at_243) rfl hc215_2 ?_
            show Steps p.tables e below (T35.setTop (mkF m 244 #[.val (.long a1), .second, .val (.long a2), .second, .val (.long a3), .second, .val (.long a4), .second, .val (.long a5), .second, .val (.int a6), .val (.int zz), .val (.int hw2), .val (.long dd), .second, .val (.long st), .second, .val (.long pe), .second, .val (.long st), .second, .unset, .unset, .unset, .unset, .unset, .unset] [(.long ((st - st) % pe))])) _
            refine XS.lconst X35.here hx rfl (hb hby at_244) ?_
            show Steps p.tables e below (T35.setTop (mkF m 245 #[.val (.long a1), .second, .val (.long a2), .second, .val (.long a3), .second, .val (.long a4), .second, .val (.long a5), .second, .val (.int a6), .val (.int zz), .val (.int hw2), .val (.long dd), .second, .val (.long st), .second, .val (.long pe), .second, .val (.long st), .second, .unset, .unset, .unset, .unset, .unset, .unset] [(.long (0 : Int64)), (.long ((st - st) % pe))])) _
            refine XS.lcmp X35.here hx rfl (hb hby at_245) rfl ?_
            exact kt
          by_cases hc246_2 : ((st - st) % pe) = (0 : Int64)
          case pos =>
            have pre44 : ∀ t, Steps p.tables e below (T35.setTop (mkF m 256 #[.val (.long a1), .second, .val (.long a2), .second, .val (.long a3), .second, .val (.long a4), .second, .val (.long a5), .second, .val (.int a6), .val (.int zz), .val (.int hw2), .val (.long dd), .second, .val (.long st), .second, .val (.long pe), .second, .val (.long st), .second, .val (.int (1 : Int32)), .unset, .unset, .unset, .unset, .unset] [])) t → Steps p.tables e below (s₁.setTop (entryFrame m #[(.long a1), (.long a2), (.long a3), (.long a4), (.long a5), (.int a6)] maxLocals)) t := by
              intro t kt
              refine pre43 t ?_
              show Steps p.tables e below (T35.setTop (mkF m 246 #[.val (.long a1), .second, .val (.long a2), .second, .val (.long a3), .second, .val (.long a4), .second, .val (.long a5), .second, .val (.int a6), .val (.int zz), .val (.int hw2), .val (.long dd), .second, .val (.long st), .second, .val (.long pe), .second, .val (.long st), .second, .unset, .unset, .unset, .unset, .unset, .unset] [(.int (lcmpW ((st - st) % pe) (0 : Int64)))])) _
              refine XS.ifNo X35.here hx rfl (hb hby at_246) rfl ((if0 _ _).trans (teq ((lw_eq ((st - st) % pe) (0 : Int64)).mpr hc246_2)).2) ?_
              show Steps p.tables e below (T35.setTop (mkF m 249 #[.val (.long a1), .second, .val (.long a2), .second, .val (.long a3), .second, .val (.long a4), .second, .val (.long a5), .second, .val (.int a6), .val (.int zz), .val (.int hw2), .val (.long dd), .second, .val (.long st), .second, .val (.long pe), .second, .val (.long st), .second, .unset, .unset, .unset, .unset, .unset, .unset] [])) _
              refine XS.iconst X35.here hx rfl (hb hby at_249) ?_
              show Steps p.tables e below (T35.setTop (mkF m 250 #[.val (.long a1), .second, .val (.long a2), .second, .val (.long a3), .second, .val (.long a4), .second, .val (.long a5), .second, .val (.int a6), .val (.int zz), .val (.int hw2), .val (.long dd), .second, .val (.long st), .second, .val (.long pe), .second, .val (.long st), .second, .unset, .unset, .unset, .unset, .unset, .unset] [(.int (1 : Int32))])) _
              refine XS.goto X35.here hx rfl (pc0 := 250) (pc' := 254) rfl (hb hby at_250) (by decide) (by decide) ?_
              show Steps p.tables e below (T35.setTop (mkF m 254 #[.val (.long a1), .second, .val (.long a2), .second, .val (.long a3), .second, .val (.long a4), .second, .val (.long a5), .second, .val (.int a6), .val (.int zz), .val (.int hw2), .val (.long dd), .second, .val (.long st), .second, .val (.long pe), .second, .val (.long st), .second, .unset, .unset, .unset, .unset, .unset, .unset] [(.int (1 : Int32))])) _
              refine XS.istore X35.here hx rfl (hb hby at_254) rfl (l' := #[.val (.long a1), .second, .val (.long a2), .second, .val (.long a3), .second, .val (.long a4), .second, .val (.long a5), .second, .val (.int a6), .val (.int zz), .val (.int hw2), .val (.long dd), .second, .val (.long st), .second, .val (.long pe), .second, .val (.long st), .second, .val (.int (1 : Int32)), .unset, .unset, .unset, .unset, .unset]) rfl ?_
              exact kt
            exact ⟨T35, _, (1 : Int32), X35, e35, N35, (by rw [own_es hcy hst hc215_2]; exact (if_pos hc246_2).symm), pre44⟩
          case neg =>
            have pre45 : ∀ t, Steps p.tables e below (T35.setTop (mkF m 256 #[.val (.long a1), .second, .val (.long a2), .second, .val (.long a3), .second, .val (.long a4), .second, .val (.long a5), .second, .val (.int a6), .val (.int zz), .val (.int hw2), .val (.long dd), .second, .val (.long st), .second, .val (.long pe), .second, .val (.long st), .second, .val (.int (0 : Int32)), .unset, .unset, .unset, .unset, .unset] [])) t → Steps p.tables e below (s₁.setTop (entryFrame m #[(.long a1), (.long a2), (.long a3), (.long a4), (.long a5), (.int a6)] maxLocals)) t := by
              intro t kt
              refine pre43 t ?_
              show Steps p.tables e below (T35.setTop (mkF m 246 #[.val (.long a1), .second, .val (.long a2), .second, .val (.long a3), .second, .val (.long a4), .second, .val (.long a5), .second, .val (.int a6), .val (.int zz), .val (.int hw2), .val (.long dd), .second, .val (.long st), .second, .val (.long pe), .second, .val (.long st), .second, .unset, .unset, .unset, .unset, .unset, .unset] [(.int (lcmpW ((st - st) % pe) (0 : Int64)))])) _
              refine XS.ifYes X35.here hx rfl (pc0 := 246) (pc' := 253) rfl (hb hby at_246) rfl ((if0 _ _).trans (feq (fun q => hc246_2 ((lw_eq ((st - st) % pe) (0 : Int64)).mp q))).2) (by decide) (by decide) ?_
              show Steps p.tables e below (T35.setTop (mkF m 253 #[.val (.long a1), .second, .val (.long a2), .second, .val (.long a3), .second, .val (.long a4), .second, .val (.long a5), .second, .val (.int a6), .val (.int zz), .val (.int hw2), .val (.long dd), .second, .val (.long st), .second, .val (.long pe), .second, .val (.long st), .second, .unset, .unset, .unset, .unset, .unset, .unset] [])) _
              refine XS.iconst X35.here hx rfl (hb hby at_253) ?_
              show Steps p.tables e below (T35.setTop (mkF m 254 #[.val (.long a1), .second, .val (.long a2), .second, .val (.long a3), .second, .val (.long a4), .second, .val (.long a5), .second, .val (.int a6), .val (.int zz), .val (.int hw2), .val (.long dd), .second, .val (.long st), .second, .val (.long pe), .second, .val (.long st), .second, .unset, .unset, .unset, .unset, .unset, .unset] [(.int (0 : Int32))])) _
              refine XS.istore X35.here hx rfl (hb hby at_254) rfl (l' := #[.val (.long a1), .second, .val (.long a2), .second, .val (.long a3), .second, .val (.long a4), .second, .val (.long a5), .second, .val (.int a6), .val (.int zz), .val (.int hw2), .val (.long dd), .second, .val (.long st), .second, .val (.long pe), .second, .val (.long st), .second, .val (.int (0 : Int32)), .unset, .unset, .unset, .unset, .unset]) rfl ?_
              exact kt
            exact ⟨T35, _, (0 : Int32), X35, e35, N35, (by rw [own_es hcy hst hc215_2]; exact (if_neg hc246_2).symm), pre45⟩
      have hes := hp41
      obtain ⟨T46, h46, X46, e46, E46, A46, D46, -, st46⟩ := newO X41 hx hZ hown (hw _ (List.mem_of_getElem? (i := 1) rfl)) (hw _ (List.mem_of_getElem? (i := 2) rfl)) (hw _ (List.mem_of_getElem? (i := 3) rfl)) e41 (g := (mkF m 256 #[.val (.long a1), .second, .val (.long a2), .second, .val (.long a3), .second, .val (.long a4), .second, .val (.long a5), .second, .val (.int a6), .val (.int zz), .val (.int hw2), .val (.long dd), .second, .val (.long st), .second, .val (.long pe), .second, .val (.long st), .second, .val (.int es), .unset, .unset, .unset, .unset, .unset] [])) rfl (hb hby at_256) (by decide) (by decide)
      obtain ⟨ob, g46⟩ : ∃ z, z = h0.size := ⟨_, rfl⟩
      rw [← g46] at A46 D46 st46
      have g_ob : n0 ≤ ob := by rw [g46]; exact Z0
      have Z47 := Nat.le_trans Z0 E46.1
      have E_ob := A46
      have F_usual_ob : Fld Z h46 ob "com/example/paceline/paceline/sim/ServiceTimes" "usual" "J" (.long (0 : Int64)) := D46 (Or.inr (hw _ (List.mem_of_getElem? (i := 16) rfl))) (ty := .long) (by decide)
      have F_stalled_ob : Fld Z h46 ob "com/example/paceline/paceline/sim/ServiceTimes" "stalled" "J" (.long (0 : Int64)) := D46 (Or.inr (hw _ (List.mem_of_getElem? (i := 18) rfl))) (ty := .long) (by decide)
      have F_stallCycle_ob : Fld Z h46 ob "com/example/paceline/paceline/sim/ServiceTimes" "stallCycle" "J" (.long (0 : Int64)) := D46 (Or.inr (hw _ (List.mem_of_getElem? (i := 20) rfl))) (ty := .long) (by decide)
      have F_period_ob : Fld Z h46 ob "com/example/paceline/paceline/sim/ServiceTimes" "period" "J" (.long (0 : Int64)) := D46 (Or.inr (hw _ (List.mem_of_getElem? (i := 22) rfl))) (ty := .long) (by decide)
      obtain ⟨_, _, ⟨T48, L48, k48, n48⟩, -, X48, ⟨Lc48, hQ48, l48, y48, z48⟩, st48⟩ := X46.specialBack hx (y := (⟨"com/example/paceline/paceline/sim/ServiceTimes", "<init>", "(JJJJ)V"⟩ : MethodName)) rfl hown (mvT hZ (hw _ (List.mem_of_getElem? (i := 4) rfl))) (mvT hZ (hw _ (List.mem_of_getElem? (i := 5) rfl))) (mvT hZ (hw _ (List.mem_of_getElem? (i := 6) rfl))) (by decide) (backOf (W := 1) (own_rm1 l Z a0 hw [] (ob) (a1) (a2) (st) (pe) h46 n0 Z47 E_ob F_usual_ob F_stalled_ob F_stallCycle_ob F_period_ob g_ob) hZ (hw _ (List.mem_of_getElem? (i := 6) rfl)) (hw _ (List.mem_of_getElem? (i := 3) rfl)) (by decide) (by decide)) (g := (mkF m 266 #[.val (.long a1), .second, .val (.long a2), .second, .val (.long a3), .second, .val (.long a4), .second, .val (.long a5), .second, .val (.int a6), .val (.int zz), .val (.int hw2), .val (.long dd), .second, .val (.long st), .second, .val (.long pe), .second, .val (.long st), .second, .val (.int es), .unset, .unset, .unset, .unset, .unset] [(.long pe), (.long st), (.long a2), (.long a1), (.ref ob), (.ref ob)])) rfl (by rw [hml]; rfl) (Steps.refl _) (a := ob) (argsL := [(.long a1), (.long a2), (.long st), (.long pe)]) (rest := [(.ref ob)]) (lenOf own_pd1 rfl) rfl (by show 2 * 0 + _ ≤ _; exact Nat.le_of_eq rfl) (hb hby at_266) (fun _ _ => ⟨rfl, e46, (by decide : 1 + 0 ≤ _), (by decide : 4 + 0 ≤ _)⟩)
      dsimp only [Pt.U, Pt.locs, Pt.cells, Pt.slots] at X48 l48 y48 z48 st48 hQ48
      subst l48 y48 z48
      obtain ⟨rfl, Nq48, Kq48, E_ob, F_usual_ob, F_stalled_ob, F_stallCycle_ob, F_period_ob⟩ := hQ48
      have N48 := Fr.app N41 Nq48
      have Z48 := Nat.le_trans Z47 Kq48.1
      obtain ⟨cq49, kq49, q49a, q49b, q49c⟩ := isOf hZ rfl E_ob
      obtain ⟨_, _, ⟨T49, L49, k49, n49⟩, -, X49, ⟨Lc49, hQ49, l49, y49, z49⟩, st49⟩ := X48.virtualBack hx (y := (⟨"com/example/paceline/paceline/sim/ServiceTimes", "of", "(J)J"⟩ : MethodName)) (z := (⟨"com/example/paceline/paceline/sim/ServiceTimes", "of", "(J)J"⟩ : MethodName)) hown (mvT hZ (hw _ (List.mem_of_getElem? (i := 23) rfl))) (mvT hZ (hw _ (List.mem_of_getElem? (i := 24) rfl))) (notFace_of_selects (args := #[]) (mvT hZ (hw _ (List.mem_of_getElem? (i := 26) rfl)))) (mvT hZ (hw _ (List.mem_of_getElem? (i := 26) rfl))) (mvT hZ (hw _ (List.mem_of_getElem? (i := 25) rfl))) (by decide) (backOf (W := 0) (own_rm4 l Z a0 hw [] ob st a1 a2 st pe T48.heap n0 Z48 F_usual_ob F_stalled_ob F_stallCycle_ob F_period_ob) hZ (hw _ (List.mem_of_getElem? (i := 27) rfl)) (hw _ (List.mem_of_getElem? (i := 3) rfl)) (by decide) (by decide)) q49a q49c (g := (mkF m 275 #[.val (.long a1), .second, .val (.long a2), .second, .val (.long a3), .second, .val (.long a4), .second, .val (.long a5), .second, .val (.int a6), .val (.int zz), .val (.int hw2), .val (.long dd), .second, .val (.long st), .second, .val (.long pe), .second, .val (.long st), .second, .val (.int es), .val (.ref ob), .unset, .unset, .unset, .unset] [(.long st), (.ref ob)])) rfl (by rw [hml]; rfl) (Steps.refl _) (argsL := [(.long st)]) (rest := []) (lenOf own_pd2 rfl) rfl (by show 2 * 0 + _ ≤ _; exact Nat.le_of_eq rfl) (hb hby at_275) (fun _ _ => ⟨rfl, rfl, (by decide : 1 + 0 ≤ _), (by decide : 4 + 0 ≤ _)⟩)
      dsimp only [Pt.U, Pt.locs, Pt.cells, Pt.slots] at X49 l49 y49 z49 st49 hQ49
      subst l49 y49 z49
      obtain ⟨rfl, Nq49, eq49⟩ := hQ49
      have N49 := Fr.app N48 Nq49
      have pre50 : ∀ t, Steps p.tables e below (T49.setTop (mkF m 282 #[.val (.long a1), .second, .val (.long a2), .second, .val (.long a3), .second, .val (.long a4), .second, .val (.long a5), .second, .val (.int a6), .val (.int zz), .val (.int hw2), .val (.long dd), .second, .val (.long st), .second, .val (.long pe), .second, .val (.long st), .second, .val (.int es), .val (.ref ob), .val (.long (own_of st a1 a2 st pe)), .second, .unset, .unset] [(.int es)])) t → Steps p.tables e below (s₁.setTop (entryFrame m #[(.long a1), (.long a2), (.long a3), (.long a4), (.long a5), (.int a6)] maxLocals)) t := by
        intro t kt
        refine pre41 t ?_
        show Steps p.tables e below (T41.setTop (mkF m 256 #[.val (.long a1), .second, .val (.long a2), .second, .val (.long a3), .second, .val (.long a4), .second, .val (.long a5), .second, .val (.int a6), .val (.int zz), .val (.int hw2), .val (.long dd), .second, .val (.long st), .second, .val (.long pe), .second, .val (.long st), .second, .val (.int es), .unset, .unset, .unset, .unset, .unset] [])) _
        refine st46 _ ?_
        show Steps p.tables e below (T46.setTop (mkF m 259 #[.val (.long a1), .second, .val (.long a2), .second, .val (.long a3), .second, .val (.long a4), .second, .val (.long a5), .second, .val (.int a6), .val (.int zz), .val (.int hw2), .val (.long dd), .second, .val (.long st), .second, .val (.long pe), .second, .val (.long st), .second, .val (.int es), .unset, .unset, .unset, .unset, .unset] [(.ref ob)])) _
        refine XS.dup X46.here hx rfl (hb hby at_259) rfl rfl ?_
        show Steps p.tables e below (T46.setTop (mkF m 260 #[.val (.long a1), .second, .val (.long a2), .second, .val (.long a3), .second, .val (.long a4), .second, .val (.long a5), .second, .val (.int a6), .val (.int zz), .val (.int hw2), .val (.long dd), .second, .val (.long st), .second, .val (.long pe), .second, .val (.long st), .second, .val (.int es), .unset, .unset, .unset, .unset, .unset] [(.ref ob), (.ref ob)])) _
        refine XS.lloadN X46.here hx rfl (hb hby at_260) rfl ?_
        show Steps p.tables e below (T46.setTop (mkF m 261 #[.val (.long a1), .second, .val (.long a2), .second, .val (.long a3), .second, .val (.long a4), .second, .val (.long a5), .second, .val (.int a6), .val (.int zz), .val (.int hw2), .val (.long dd), .second, .val (.long st), .second, .val (.long pe), .second, .val (.long st), .second, .val (.int es), .unset, .unset, .unset, .unset, .unset] [(.long a1), (.ref ob), (.ref ob)])) _
        refine XS.lloadN X46.here hx rfl (hb hby at_261) rfl ?_
        show Steps p.tables e below (T46.setTop (mkF m 262 #[.val (.long a1), .second, .val (.long a2), .second, .val (.long a3), .second, .val (.long a4), .second, .val (.long a5), .second, .val (.int a6), .val (.int zz), .val (.int hw2), .val (.long dd), .second, .val (.long st), .second, .val (.long pe), .second, .val (.long st), .second, .val (.int es), .unset, .unset, .unset, .unset, .unset] [(.long a2), (.long a1), (.ref ob), (.ref ob)])) _
        refine XS.lload X46.here hx rfl (hb hby at_262) rfl ?_
        show Steps p.tables e below (T46.setTop (mkF m 264 #[.val (.long a1), .second, .val (.long a2), .second, .val (.long a3), .second, .val (.long a4), .second, .val (.long a5), .second, .val (.int a6), .val (.int zz), .val (.int hw2), .val (.long dd), .second, .val (.long st), .second, .val (.long pe), .second, .val (.long st), .second, .val (.int es), .unset, .unset, .unset, .unset, .unset] [(.long st), (.long a2), (.long a1), (.ref ob), (.ref ob)])) _
        refine XS.lload X46.here hx rfl (hb hby at_264) rfl ?_
        show Steps p.tables e below (T46.setTop (mkF m 266 #[.val (.long a1), .second, .val (.long a2), .second, .val (.long a3), .second, .val (.long a4), .second, .val (.long a5), .second, .val (.int a6), .val (.int zz), .val (.int hw2), .val (.long dd), .second, .val (.long st), .second, .val (.long pe), .second, .val (.long st), .second, .val (.int es), .unset, .unset, .unset, .unset, .unset] [(.long pe), (.long st), (.long a2), (.long a1), (.ref ob), (.ref ob)])) _
        refine st48.trans ?_
        show Steps p.tables e below (T48.setTop (mkF m 269 #[.val (.long a1), .second, .val (.long a2), .second, .val (.long a3), .second, .val (.long a4), .second, .val (.long a5), .second, .val (.int a6), .val (.int zz), .val (.int hw2), .val (.long dd), .second, .val (.long st), .second, .val (.long pe), .second, .val (.long st), .second, .val (.int es), .unset, .unset, .unset, .unset, .unset] [(.ref ob)])) _
        refine XS.astore X48.here hx rfl (hb hby at_269) rfl rfl (l' := #[.val (.long a1), .second, .val (.long a2), .second, .val (.long a3), .second, .val (.long a4), .second, .val (.long a5), .second, .val (.int a6), .val (.int zz), .val (.int hw2), .val (.long dd), .second, .val (.long st), .second, .val (.long pe), .second, .val (.long st), .second, .val (.int es), .val (.ref ob), .unset, .unset, .unset, .unset]) rfl ?_
        show Steps p.tables e below (T48.setTop (mkF m 271 #[.val (.long a1), .second, .val (.long a2), .second, .val (.long a3), .second, .val (.long a4), .second, .val (.long a5), .second, .val (.int a6), .val (.int zz), .val (.int hw2), .val (.long dd), .second, .val (.long st), .second, .val (.long pe), .second, .val (.long st), .second, .val (.int es), .val (.ref ob), .unset, .unset, .unset, .unset] [])) _
        refine XS.aload X48.here hx rfl (hb hby at_271) rfl rfl ?_
        show Steps p.tables e below (T48.setTop (mkF m 273 #[.val (.long a1), .second, .val (.long a2), .second, .val (.long a3), .second, .val (.long a4), .second, .val (.long a5), .second, .val (.int a6), .val (.int zz), .val (.int hw2), .val (.long dd), .second, .val (.long st), .second, .val (.long pe), .second, .val (.long st), .second, .val (.int es), .val (.ref ob), .unset, .unset, .unset, .unset] [(.ref ob)])) _
        refine XS.lload X48.here hx rfl (hb hby at_273) rfl ?_
        show Steps p.tables e below (T48.setTop (mkF m 275 #[.val (.long a1), .second, .val (.long a2), .second, .val (.long a3), .second, .val (.long a4), .second, .val (.long a5), .second, .val (.int a6), .val (.int zz), .val (.int hw2), .val (.long dd), .second, .val (.long st), .second, .val (.long pe), .second, .val (.long st), .second, .val (.int es), .val (.ref ob), .unset, .unset, .unset, .unset] [(.long st), (.ref ob)])) _
        refine st49.trans ?_
        show Steps p.tables e below (T49.setTop (mkF m 278 #[.val (.long a1), .second, .val (.long a2), .second, .val (.long a3), .second, .val (.long a4), .second, .val (.long a5), .second, .val (.int a6), .val (.int zz), .val (.int hw2), .val (.long dd), .second, .val (.long st), .second, .val (.long pe), .second, .val (.long st), .second, .val (.int es), .val (.ref ob), .unset, .unset, .unset, .unset] [(.long (own_of st a1 a2 st pe))])) _
        refine XS.lstore X49.here hx rfl (hb hby at_278) rfl (l' := #[.val (.long a1), .second, .val (.long a2), .second, .val (.long a3), .second, .val (.long a4), .second, .val (.long a5), .second, .val (.int a6), .val (.int zz), .val (.int hw2), .val (.long dd), .second, .val (.long st), .second, .val (.long pe), .second, .val (.long st), .second, .val (.int es), .val (.ref ob), .val (.long (own_of st a1 a2 st pe)), .second, .unset, .unset]) rfl ?_
        show Steps p.tables e below (T49.setTop (mkF m 280 #[.val (.long a1), .second, .val (.long a2), .second, .val (.long a3), .second, .val (.long a4), .second, .val (.long a5), .second, .val (.int a6), .val (.int zz), .val (.int hw2), .val (.long dd), .second, .val (.long st), .second, .val (.long pe), .second, .val (.long st), .second, .val (.int es), .val (.ref ob), .val (.long (own_of st a1 a2 st pe)), .second, .unset, .unset] [])) _
        refine XS.iload X49.here hx rfl (hb hby at_280) rfl ?_
        exact kt
      obtain ⟨T51, Lc51, wt, X51, e51, N51, hp51, pre51⟩ : ∃ (T51 : State) (Lc51 : List Loc) (wt : Int64), Stand p l e room_1 s m #[(.long a1), (.long a2), (.long a3), (.long a4), (.long a5), (.int a6)] below meth c T51 Lc51 1 4 ∧ T51.heap = T48.heap ∧ Fr n0 Lc51 ∧ (own_of st a1 a2 st pe = wt) ∧ ∀ t, Steps p.tables e below (T51.setTop (mkF m 290 #[.val (.long a1), .second, .val (.long a2), .second, .val (.long a3), .second, .val (.long a4), .second, .val (.long a5), .second, .val (.int a6), .val (.int zz), .val (.int hw2), .val (.long dd), .second, .val (.long st), .second, .val (.long pe), .second, .val (.long st), .second, .val (.int es), .val (.ref ob), .val (.long (own_of st a1 a2 st pe)), .second, .unset, .unset] [(.long wt)])) t → Steps p.tables e below (s₁.setTop (entryFrame m #[(.long a1), (.long a2), (.long a3), (.long a4), (.long a5), (.int a6)] maxLocals)) t := by
        by_cases hc282_2 : es = (0 : Int32)
        case pos =>
          have pre52 : ∀ t, Steps p.tables e below (T49.setTop (mkF m 290 #[.val (.long a1), .second, .val (.long a2), .second, .val (.long a3), .second, .val (.long a4), .second, .val (.long a5), .second, .val (.int a6), .val (.int zz), .val (.int hw2), .val (.long dd), .second, .val (.long st), .second, .val (.long pe), .second, .val (.long st), .second, .val (.int es), .val (.ref ob), .val (.long (own_of st a1 a2 st pe)), .second, .unset, .unset] [(.long a1)])) t → Steps p.tables e below (s₁.setTop (entryFrame m #[(.long a1), (.long a2), (.long a3), (.long a4), (.long a5), (.int a6)] maxLocals)) t := by
            intro t kt
            refine pre50 t ?_
            show Steps p.tables e below (T49.setTop (mkF m 282 #[.val (.long a1), .second, .val (.long a2), .second, .val (.long a3), .second, .val (.long a4), .second, .val (.long a5), .second, .val (.int a6), .val (.int zz), .val (.int hw2), .val (.long dd), .second, .val (.long st), .second, .val (.long pe), .second, .val (.long st), .second, .val (.int es), .val (.ref ob), .val (.long (own_of st a1 a2 st pe)), .second, .unset, .unset] [(.int es)])) _
            refine XS.ifYes X49.here hx rfl (pc0 := 282) (pc' := 289) rfl (hb hby at_282) rfl ((if0 _ _).trans (teq hc282_2).1) (by decide) (by decide) ?_
            show Steps p.tables e below (T49.setTop (mkF m 289 #[.val (.long a1), .second, .val (.long a2), .second, .val (.long a3), .second, .val (.long a4), .second, .val (.long a5), .second, .val (.int a6), .val (.int zz), .val (.int hw2), .val (.long dd), .second, .val (.long st), .second, .val (.long pe), .second, .val (.long st), .second, .val (.int es), .val (.ref ob), .val (.long (own_of st a1 a2 st pe)), .second, .unset, .unset] [])) _
            refine XS.lloadN X49.here hx rfl (hb hby at_289) rfl ?_
            exact kt
          exact ⟨T49, _, a1, X49, eq49, N49, (by rw [hes] at hc282_2; exact if_pos hc282_2), pre52⟩
        case neg =>
          have pre53 : ∀ t, Steps p.tables e below (T49.setTop (mkF m 290 #[.val (.long a1), .second, .val (.long a2), .second, .val (.long a3), .second, .val (.long a4), .second, .val (.long a5), .second, .val (.int a6), .val (.int zz), .val (.int hw2), .val (.long dd), .second, .val (.long st), .second, .val (.long pe), .second, .val (.long st), .second, .val (.int es), .val (.ref ob), .val (.long (own_of st a1 a2 st pe)), .second, .unset, .unset] [(.long a2)])) t → Steps p.tables e below (s₁.setTop (entryFrame m #[(.long a1), (.long a2), (.long a3), (.long a4), (.long a5), (.int a6)] maxLocals)) t := by
            intro t kt
            refine pre50 t ?_
            show Steps p.tables e below (T49.setTop (mkF m 282 #[.val (.long a1), .second, .val (.long a2), .second, .val (.long a3), .second, .val (.long a4), .second, .val (.long a5), .second, .val (.int a6), .val (.int zz), .val (.int hw2), .val (.long dd), .second, .val (.long st), .second, .val (.long pe), .second, .val (.long st), .second, .val (.int es), .val (.ref ob), .val (.long (own_of st a1 a2 st pe)), .second, .unset, .unset] [(.int es)])) _
            refine XS.ifNo X49.here hx rfl (hb hby at_282) rfl ((if0 _ _).trans (feq hc282_2).1) ?_
            show Steps p.tables e below (T49.setTop (mkF m 285 #[.val (.long a1), .second, .val (.long a2), .second, .val (.long a3), .second, .val (.long a4), .second, .val (.long a5), .second, .val (.int a6), .val (.int zz), .val (.int hw2), .val (.long dd), .second, .val (.long st), .second, .val (.long pe), .second, .val (.long st), .second, .val (.int es), .val (.ref ob), .val (.long (own_of st a1 a2 st pe)), .second, .unset, .unset] [])) _
            refine XS.lloadN X49.here hx rfl (hb hby at_285) rfl ?_
            show Steps p.tables e below (T49.setTop (mkF m 286 #[.val (.long a1), .second, .val (.long a2), .second, .val (.long a3), .second, .val (.long a4), .second, .val (.long a5), .second, .val (.int a6), .val (.int zz), .val (.int hw2), .val (.long dd), .second, .val (.long st), .second, .val (.long pe), .second, .val (.long st), .second, .val (.int es), .val (.ref ob), .val (.long (own_of st a1 a2 st pe)), .second, .unset, .unset] [(.long a2)])) _
            refine XS.goto X49.here hx rfl (pc0 := 286) (pc' := 290) rfl (hb hby at_286) (by decide) (by decide) ?_
            exact kt
          exact ⟨T49, _, a2, X49, eq49, N49, (by rw [hes] at hc282_2; exact if_neg hc282_2), pre53⟩
      have hwt := hp51
      obtain ⟨fs, hr, hrun, hended, hW, hsame⟩ := X51.leave (v := some (.int (1 : Int32))) (fun h => by rw [Bd.returns] at h; cases h) (BodyLoose.notSynchronized Bd)
      refine ⟨_, _, pre51 _ ?_, hrun, hended, _, _, rfl, ?_, ⟨_, rfl⟩, hW, hsame.mono (by decide) (by decide)⟩
      · skip
        show Steps p.tables e below (T51.setTop (mkF m 290 #[.val (.long a1), .second, .val (.long a2), .second, .val (.long a3), .second, .val (.long a4), .second, .val (.long a5), .second, .val (.int a6), .val (.int zz), .val (.int hw2), .val (.long dd), .second, .val (.long st), .second, .val (.long pe), .second, .val (.long st), .second, .val (.int es), .val (.ref ob), .val (.long (own_of st a1 a2 st pe)), .second, .unset, .unset] [(.long wt)])) _
        refine XS.lstore X51.here hx rfl (hb hby at_290) rfl (l' := #[.val (.long a1), .second, .val (.long a2), .second, .val (.long a3), .second, .val (.long a4), .second, .val (.long a5), .second, .val (.int a6), .val (.int zz), .val (.int hw2), .val (.long dd), .second, .val (.long st), .second, .val (.long pe), .second, .val (.long st), .second, .val (.int es), .val (.ref ob), .val (.long (own_of st a1 a2 st pe)), .second, .val (.long wt), .second]) rfl ?_
        show Steps p.tables e below (T51.setTop (mkF m 292 #[.val (.long a1), .second, .val (.long a2), .second, .val (.long a3), .second, .val (.long a4), .second, .val (.long a5), .second, .val (.int a6), .val (.int zz), .val (.int hw2), .val (.long dd), .second, .val (.long st), .second, .val (.long pe), .second, .val (.long st), .second, .val (.int es), .val (.ref ob), .val (.long (own_of st a1 a2 st pe)), .second, .val (.long wt), .second] [])) _
        refine XS.lload X51.here hx rfl (hb hby at_292) rfl ?_
        show Steps p.tables e below (T51.setTop (mkF m 294 #[.val (.long a1), .second, .val (.long a2), .second, .val (.long a3), .second, .val (.long a4), .second, .val (.long a5), .second, .val (.int a6), .val (.int zz), .val (.int hw2), .val (.long dd), .second, .val (.long st), .second, .val (.long pe), .second, .val (.long st), .second, .val (.int es), .val (.ref ob), .val (.long (own_of st a1 a2 st pe)), .second, .val (.long wt), .second] [(.long (own_of st a1 a2 st pe))])) _
        refine XS.lload X51.here hx rfl (hb hby at_294) rfl ?_
        show Steps p.tables e below (T51.setTop (mkF m 296 #[.val (.long a1), .second, .val (.long a2), .second, .val (.long a3), .second, .val (.long a4), .second, .val (.long a5), .second, .val (.int a6), .val (.int zz), .val (.int hw2), .val (.long dd), .second, .val (.long st), .second, .val (.long pe), .second, .val (.long st), .second, .val (.int es), .val (.ref ob), .val (.long (own_of st a1 a2 st pe)), .second, .val (.long wt), .second] [(.long wt), (.long (own_of st a1 a2 st pe))])) _
        refine XS.lcmp X51.here hx rfl (hb hby at_296) rfl ?_
        show Steps p.tables e below (T51.setTop (mkF m 297 #[.val (.long a1), .second, .val (.long a2), .second, .val (.long a3), .second, .val (.long a4), .second, .val (.long a5), .second, .val (.int a6), .val (.int zz), .val (.int hw2), .val (.long dd), .second, .val (.long st), .second, .val (.long pe), .second, .val (.long st), .second, .val (.int es), .val (.ref ob), .val (.long (own_of st a1 a2 st pe)), .second, .val (.long wt), .second] [(.int (lcmpW (own_of st a1 a2 st pe) wt))])) _
        refine XS.ifNo X51.here hx rfl (hb hby at_297) rfl ((if0 _ _).trans (teq ((lw_eq (own_of st a1 a2 st pe) wt).mpr hwt)).2) ?_
        show Steps p.tables e below (T51.setTop (mkF m 300 #[.val (.long a1), .second, .val (.long a2), .second, .val (.long a3), .second, .val (.long a4), .second, .val (.long a5), .second, .val (.int a6), .val (.int zz), .val (.int hw2), .val (.long dd), .second, .val (.long st), .second, .val (.long pe), .second, .val (.long st), .second, .val (.int es), .val (.ref ob), .val (.long (own_of st a1 a2 st pe)), .second, .val (.long wt), .second] [])) _
        refine XS.iconst X51.here hx rfl (hb hby at_300) ?_
        show Steps p.tables e below (T51.setTop (mkF m 301 #[.val (.long a1), .second, .val (.long a2), .second, .val (.long a3), .second, .val (.long a4), .second, .val (.long a5), .second, .val (.int a6), .val (.int zz), .val (.int hw2), .val (.long dd), .second, .val (.long st), .second, .val (.long pe), .second, .val (.long st), .second, .val (.int es), .val (.ref ob), .val (.long (own_of st a1 a2 st pe)), .second, .val (.long wt), .second] [(.int (1 : Int32))])) _
        refine XS.goto X51.here hx rfl (pc0 := 301) (pc' := 305) rfl (hb hby at_301) (by decide) (by decide) ?_
        show Steps p.tables e below (T51.setTop (mkF m 305 #[.val (.long a1), .second, .val (.long a2), .second, .val (.long a3), .second, .val (.long a4), .second, .val (.long a5), .second, .val (.int a6), .val (.int zz), .val (.int hw2), .val (.long dd), .second, .val (.long st), .second, .val (.long pe), .second, .val (.long st), .second, .val (.int es), .val (.ref ob), .val (.long (own_of st a1 a2 st pe)), .second, .val (.long wt), .second] [(.int (1 : Int32))])) _
        exact retN X51 hx (t := .boolean) Bd.returns (by simp) (hb hby at_305) hr
      · show own_Q0 Z a1 a2 a3 a4 a5 a6 h0 n0 _ T51.heap _
        rw [e51]
        exact ⟨rfl, N51⟩
    case neg =>
      have pre54 : ∀ t, Steps p.tables e below (T2.setTop (mkF m 113 #[.val (.long a1), .second, .val (.long a2), .second, .val (.long a3), .second, .val (.long a4), .second, .val (.long a5), .second, .val (.int a6), .val (.int zz), .val (.int hw2), .val (.long dd), .second, .unset, .unset, .unset, .unset, .unset, .unset, .unset, .unset, .unset, .unset, .unset, .unset] [(.int (2 : Int32)), (.int hw2)])) t → Steps p.tables e below (s₁.setTop (entryFrame m #[(.long a1), (.long a2), (.long a3), (.long a4), (.long a5), (.int a6)] maxLocals)) t := by
        intro t kt
        refine pre33 t ?_
        show Steps p.tables e below (T2.setTop (mkF m 75 #[.val (.long a1), .second, .val (.long a2), .second, .val (.long a3), .second, .val (.long a4), .second, .val (.long a5), .second, .val (.int a6), .val (.int zz), .val (.int hw2), .val (.long dd), .second, .unset, .unset, .unset, .unset, .unset, .unset, .unset, .unset, .unset, .unset, .unset, .unset] [(.int (1 : Int32)), (.int hw2)])) _
        refine XS.icmpYes X2.here hx rfl (pc0 := 75) (pc' := 110) rfl (hb hby at_75) rfl (feq hc75).2 (by decide) (by decide) ?_
        show Steps p.tables e below (T2.setTop (mkF m 110 #[.val (.long a1), .second, .val (.long a2), .second, .val (.long a3), .second, .val (.long a4), .second, .val (.long a5), .second, .val (.int a6), .val (.int zz), .val (.int hw2), .val (.long dd), .second, .unset, .unset, .unset, .unset, .unset, .unset, .unset, .unset, .unset, .unset, .unset, .unset] [])) _
        refine XS.iload X2.here hx rfl (hb hby at_110) rfl ?_
        show Steps p.tables e below (T2.setTop (mkF m 112 #[.val (.long a1), .second, .val (.long a2), .second, .val (.long a3), .second, .val (.long a4), .second, .val (.long a5), .second, .val (.int a6), .val (.int zz), .val (.int hw2), .val (.long dd), .second, .unset, .unset, .unset, .unset, .unset, .unset, .unset, .unset, .unset, .unset, .unset, .unset] [(.int hw2)])) _
        refine XS.iconst X2.here hx rfl (hb hby at_112) ?_
        exact kt
      by_cases hc113 : hw2 = (2 : Int32)
      case pos =>
        have pre55 : ∀ t, Steps p.tables e below (T2.setTop (mkF m 124 #[.val (.long a1), .second, .val (.long a2), .second, .val (.long a3), .second, .val (.long a4), .second, .val (.long a5), .second, .val (.int a6), .val (.int zz), .val (.int hw2), .val (.long dd), .second, .val (.long (a3 &&& (4611686018427387903 : Int64))), .second, .unset, .unset, .unset, .unset, .unset, .unset, .unset, .unset, .unset, .unset] [])) t → Steps p.tables e below (s₁.setTop (entryFrame m #[(.long a1), (.long a2), (.long a3), (.long a4), (.long a5), (.int a6)] maxLocals)) t := by
          intro t kt
          refine pre54 t ?_
          show Steps p.tables e below (T2.setTop (mkF m 113 #[.val (.long a1), .second, .val (.long a2), .second, .val (.long a3), .second, .val (.long a4), .second, .val (.long a5), .second, .val (.int a6), .val (.int zz), .val (.int hw2), .val (.long dd), .second, .unset, .unset, .unset, .unset, .unset, .unset, .unset, .unset, .unset, .unset, .unset, .unset] [(.int (2 : Int32)), (.int hw2)])) _
          refine XS.icmpNo X2.here hx rfl (hb hby at_113) rfl (teq hc113).2 ?_
          show Steps p.tables e below (T2.setTop (mkF m 116 #[.val (.long a1), .second, .val (.long a2), .second, .val (.long a3), .second, .val (.long a4), .second, .val (.long a5), .second, .val (.int a6), .val (.int zz), .val (.int hw2), .val (.long dd), .second, .unset, .unset, .unset, .unset, .unset, .unset, .unset, .unset, .unset, .unset, .unset, .unset] [])) _
          refine XS.lload X2.here hx rfl (hb hby at_116) rfl ?_
          show Steps p.tables e below (T2.setTop (mkF m 118 #[.val (.long a1), .second, .val (.long a2), .second, .val (.long a3), .second, .val (.long a4), .second, .val (.long a5), .second, .val (.int a6), .val (.int zz), .val (.int hw2), .val (.long dd), .second, .unset, .unset, .unset, .unset, .unset, .unset, .unset, .unset, .unset, .unset, .unset, .unset] [(.long a3)])) _
          refine X2.ldc2Long hx hown (mvT hZ (hw _ (List.mem_of_getElem? (i := 28) rfl))) (g := (mkF m 118 #[.val (.long a1), .second, .val (.long a2), .second, .val (.long a3), .second, .val (.long a4), .second, .val (.long a5), .second, .val (.int a6), .val (.int zz), .val (.int hw2), .val (.long dd), .second, .unset, .unset, .unset, .unset, .unset, .unset, .unset, .unset, .unset, .unset, .unset, .unset] [(.long a3)])) rfl (hb hby at_118) _ ?_
          show Steps p.tables e below (T2.setTop (mkF m 121 #[.val (.long a1), .second, .val (.long a2), .second, .val (.long a3), .second, .val (.long a4), .second, .val (.long a5), .second, .val (.int a6), .val (.int zz), .val (.int hw2), .val (.long dd), .second, .unset, .unset, .unset, .unset, .unset, .unset, .unset, .unset, .unset, .unset, .unset, .unset] [(.long (4611686018427387903 : Int64)), (.long a3)])) _
          refine XS.land X2.here hx rfl (hb hby at_121) rfl ?_
          show Steps p.tables e below (T2.setTop (mkF m 122 #[.val (.long a1), .second, .val (.long a2), .second, .val (.long a3), .second, .val (.long a4), .second, .val (.long a5), .second, .val (.int a6), .val (.int zz), .val (.int hw2), .val (.long dd), .second, .unset, .unset, .unset, .unset, .unset, .unset, .unset, .unset, .unset, .unset, .unset, .unset] [(.long (a3 &&& (4611686018427387903 : Int64)))])) _
          refine XS.lstore X2.here hx rfl (hb hby at_122) rfl (l' := #[.val (.long a1), .second, .val (.long a2), .second, .val (.long a3), .second, .val (.long a4), .second, .val (.long a5), .second, .val (.int a6), .val (.int zz), .val (.int hw2), .val (.long dd), .second, .val (.long (a3 &&& (4611686018427387903 : Int64))), .second, .unset, .unset, .unset, .unset, .unset, .unset, .unset, .unset, .unset, .unset]) rfl ?_
          exact kt
        obtain ⟨st0, hd_st0⟩ : ∃ z : Int64, z = (a3 &&& (4611686018427387903 : Int64)) := ⟨_, rfl⟩
        have pre56 : ∀ t, Steps p.tables e below (T2.setTop (mkF m 124 #[.val (.long a1), .second, .val (.long a2), .second, .val (.long a3), .second, .val (.long a4), .second, .val (.long a5), .second, .val (.int a6), .val (.int zz), .val (.int hw2), .val (.long dd), .second, .val (.long st0), .second, .unset, .unset, .unset, .unset, .unset, .unset, .unset, .unset, .unset, .unset] [])) t → Steps p.tables e below (s₁.setTop (entryFrame m #[(.long a1), (.long a2), (.long a3), (.long a4), (.long a5), (.int a6)] maxLocals)) t := by rw [hd_st0]; exact pre55
        have pre57 : ∀ t, Steps p.tables e below (T2.setTop (mkF m 126 #[.val (.long a1), .second, .val (.long a2), .second, .val (.long a3), .second, .val (.long a4), .second, .val (.long a5), .second, .val (.int a6), .val (.int zz), .val (.int hw2), .val (.long dd), .second, .val (.long st0), .second, .unset, .unset, .unset, .unset, .unset, .unset, .unset, .unset, .unset, .unset] [(.int zz)])) t → Steps p.tables e below (s₁.setTop (entryFrame m #[(.long a1), (.long a2), (.long a3), (.long a4), (.long a5), (.int a6)] maxLocals)) t := by
          intro t kt
          refine pre56 t ?_
          show Steps p.tables e below (T2.setTop (mkF m 124 #[.val (.long a1), .second, .val (.long a2), .second, .val (.long a3), .second, .val (.long a4), .second, .val (.long a5), .second, .val (.int a6), .val (.int zz), .val (.int hw2), .val (.long dd), .second, .val (.long st0), .second, .unset, .unset, .unset, .unset, .unset, .unset, .unset, .unset, .unset, .unset] [])) _
          refine XS.iload X2.here hx rfl (hb hby at_124) rfl ?_
          exact kt
        obtain ⟨T58, Lc58, pe, X58, e58, N58, hp58, pre58⟩ : ∃ (T58 : State) (Lc58 : List Loc) (pe : Int64), Stand p l e room_1 s m #[(.long a1), (.long a2), (.long a3), (.long a4), (.long a5), (.int a6)] below meth c T58 Lc58 0 0 ∧ T58.heap = h0 ∧ Fr n0 Lc58 ∧ (0 ≤ pe.toInt ∧ pe.toInt < 4294967296) ∧ ∀ t, Steps p.tables e below (T58.setTop (mkF m 139 #[.val (.long a1), .second, .val (.long a2), .second, .val (.long a3), .second, .val (.long a4), .second, .val (.long a5), .second, .val (.int a6), .val (.int zz), .val (.int hw2), .val (.long dd), .second, .val (.long st0), .second, .unset, .unset, .unset, .unset, .unset, .unset, .unset, .unset, .unset, .unset] [(.long pe)])) t → Steps p.tables e below (s₁.setTop (entryFrame m #[(.long a1), (.long a2), (.long a3), (.long a4), (.long a5), (.int a6)] maxLocals)) t := by
          by_cases hc126 : zz = (0 : Int32)
          case pos =>
            have pre59 : ∀ t, Steps p.tables e below (T2.setTop (mkF m 139 #[.val (.long a1), .second, .val (.long a2), .second, .val (.long a3), .second, .val (.long a4), .second, .val (.long a5), .second, .val (.int a6), .val (.int zz), .val (.int hw2), .val (.long dd), .second, .val (.long st0), .second, .unset, .unset, .unset, .unset, .unset, .unset, .unset, .unset, .unset, .unset] [(.long (a4 &&& (4294967295 : Int64)))])) t → Steps p.tables e below (s₁.setTop (entryFrame m #[(.long a1), (.long a2), (.long a3), (.long a4), (.long a5), (.int a6)] maxLocals)) t := by
              intro t kt
              refine pre57 t ?_
              show Steps p.tables e below (T2.setTop (mkF m 126 #[.val (.long a1), .second, .val (.long a2), .second, .val (.long a3), .second, .val (.long a4), .second, .val (.long a5), .second, .val (.int a6), .val (.int zz), .val (.int hw2), .val (.long dd), .second, .val (.long st0), .second, .unset, .unset, .unset, .unset, .unset, .unset, .unset, .unset, .unset, .unset] [(.int zz)])) _
              refine XS.ifYes X2.here hx rfl (pc0 := 126) (pc' := 133) rfl (hb hby at_126) rfl ((if0 _ _).trans (teq hc126).1) (by decide) (by decide) ?_
              show Steps p.tables e below (T2.setTop (mkF m 133 #[.val (.long a1), .second, .val (.long a2), .second, .val (.long a3), .second, .val (.long a4), .second, .val (.long a5), .second, .val (.int a6), .val (.int zz), .val (.int hw2), .val (.long dd), .second, .val (.long st0), .second, .unset, .unset, .unset, .unset, .unset, .unset, .unset, .unset, .unset, .unset] [])) _
              refine XS.lload X2.here hx rfl (hb hby at_133) rfl ?_
              show Steps p.tables e below (T2.setTop (mkF m 135 #[.val (.long a1), .second, .val (.long a2), .second, .val (.long a3), .second, .val (.long a4), .second, .val (.long a5), .second, .val (.int a6), .val (.int zz), .val (.int hw2), .val (.long dd), .second, .val (.long st0), .second, .unset, .unset, .unset, .unset, .unset, .unset, .unset, .unset, .unset, .unset] [(.long a4)])) _
              refine X2.ldc2Long hx hown (mvT hZ (hw _ (List.mem_of_getElem? (i := 29) rfl))) (g := (mkF m 135 #[.val (.long a1), .second, .val (.long a2), .second, .val (.long a3), .second, .val (.long a4), .second, .val (.long a5), .second, .val (.int a6), .val (.int zz), .val (.int hw2), .val (.long dd), .second, .val (.long st0), .second, .unset, .unset, .unset, .unset, .unset, .unset, .unset, .unset, .unset, .unset] [(.long a4)])) rfl (hb hby at_135) _ ?_
              show Steps p.tables e below (T2.setTop (mkF m 138 #[.val (.long a1), .second, .val (.long a2), .second, .val (.long a3), .second, .val (.long a4), .second, .val (.long a5), .second, .val (.int a6), .val (.int zz), .val (.int hw2), .val (.long dd), .second, .val (.long st0), .second, .unset, .unset, .unset, .unset, .unset, .unset, .unset, .unset, .unset, .unset] [(.long (4294967295 : Int64)), (.long a4)])) _
              refine XS.land X2.here hx rfl (hb hby at_138) rfl ?_
              exact kt
            exact ⟨T2, _, (a4 &&& (4294967295 : Int64)), X2, e2, N2, (own_m32 a4), pre59⟩
          case neg =>
            have pre60 : ∀ t, Steps p.tables e below (T2.setTop (mkF m 139 #[.val (.long a1), .second, .val (.long a2), .second, .val (.long a3), .second, .val (.long a4), .second, .val (.long a5), .second, .val (.int a6), .val (.int zz), .val (.int hw2), .val (.long dd), .second, .val (.long st0), .second, .unset, .unset, .unset, .unset, .unset, .unset, .unset, .unset, .unset, .unset] [(.long (0 : Int64))])) t → Steps p.tables e below (s₁.setTop (entryFrame m #[(.long a1), (.long a2), (.long a3), (.long a4), (.long a5), (.int a6)] maxLocals)) t := by
              intro t kt
              refine pre57 t ?_
              show Steps p.tables e below (T2.setTop (mkF m 126 #[.val (.long a1), .second, .val (.long a2), .second, .val (.long a3), .second, .val (.long a4), .second, .val (.long a5), .second, .val (.int a6), .val (.int zz), .val (.int hw2), .val (.long dd), .second, .val (.long st0), .second, .unset, .unset, .unset, .unset, .unset, .unset, .unset, .unset, .unset, .unset] [(.int zz)])) _
              refine XS.ifNo X2.here hx rfl (hb hby at_126) rfl ((if0 _ _).trans (feq hc126).1) ?_
              show Steps p.tables e below (T2.setTop (mkF m 129 #[.val (.long a1), .second, .val (.long a2), .second, .val (.long a3), .second, .val (.long a4), .second, .val (.long a5), .second, .val (.int a6), .val (.int zz), .val (.int hw2), .val (.long dd), .second, .val (.long st0), .second, .unset, .unset, .unset, .unset, .unset, .unset, .unset, .unset, .unset, .unset] [])) _
              refine XS.lconst X2.here hx rfl (hb hby at_129) ?_
              show Steps p.tables e below (T2.setTop (mkF m 130 #[.val (.long a1), .second, .val (.long a2), .second, .val (.long a3), .second, .val (.long a4), .second, .val (.long a5), .second, .val (.int a6), .val (.int zz), .val (.int hw2), .val (.long dd), .second, .val (.long st0), .second, .unset, .unset, .unset, .unset, .unset, .unset, .unset, .unset, .unset, .unset] [(.long (0 : Int64))])) _
              refine XS.goto X2.here hx rfl (pc0 := 130) (pc' := 139) rfl (hb hby at_130) (by decide) (by decide) ?_
              exact kt
            exact ⟨T2, _, (0 : Int64), X2, e2, N2, (by decide), pre60⟩
        have hpe := hp58
        have pre61 : ∀ t, Steps p.tables e below (T58.setTop (mkF m 211 #[.val (.long a1), .second, .val (.long a2), .second, .val (.long a3), .second, .val (.long a4), .second, .val (.long a5), .second, .val (.int a6), .val (.int zz), .val (.int hw2), .val (.long dd), .second, .val (.long st0), .second, .val (.long pe), .second, .val (.long ((st0 + ((a5 &&& (1073741823 : Int64)) * pe)) + dd)), .second, .val (.long (a5 &&& (1073741823 : Int64))), .second, .unset, .unset, .unset, .unset] [])) t → Steps p.tables e below (s₁.setTop (entryFrame m #[(.long a1), (.long a2), (.long a3), (.long a4), (.long a5), (.int a6)] maxLocals)) t := by
          intro t kt
          refine pre58 t ?_
          show Steps p.tables e below (T58.setTop (mkF m 139 #[.val (.long a1), .second, .val (.long a2), .second, .val (.long a3), .second, .val (.long a4), .second, .val (.long a5), .second, .val (.int a6), .val (.int zz), .val (.int hw2), .val (.long dd), .second, .val (.long st0), .second, .unset, .unset, .unset, .unset, .unset, .unset, .unset, .unset, .unset, .unset] [(.long pe)])) _
          refine XS.lstore X58.here hx rfl (hb hby at_139) rfl (l' := #[.val (.long a1), .second, .val (.long a2), .second, .val (.long a3), .second, .val (.long a4), .second, .val (.long a5), .second, .val (.int a6), .val (.int zz), .val (.int hw2), .val (.long dd), .second, .val (.long st0), .second, .val (.long pe), .second, .unset, .unset, .unset, .unset, .unset, .unset, .unset, .unset]) rfl ?_
          show Steps p.tables e below (T58.setTop (mkF m 141 #[.val (.long a1), .second, .val (.long a2), .second, .val (.long a3), .second, .val (.long a4), .second, .val (.long a5), .second, .val (.int a6), .val (.int zz), .val (.int hw2), .val (.long dd), .second, .val (.long st0), .second, .val (.long pe), .second, .unset, .unset, .unset, .unset, .unset, .unset, .unset, .unset] [])) _
          refine XS.lload X58.here hx rfl (hb hby at_141) rfl ?_
          show Steps p.tables e below (T58.setTop (mkF m 143 #[.val (.long a1), .second, .val (.long a2), .second, .val (.long a3), .second, .val (.long a4), .second, .val (.long a5), .second, .val (.int a6), .val (.int zz), .val (.int hw2), .val (.long dd), .second, .val (.long st0), .second, .val (.long pe), .second, .unset, .unset, .unset, .unset, .unset, .unset, .unset, .unset] [(.long a5)])) _
          refine X58.ldc2Long hx hown (mvT hZ (hw _ (List.mem_of_getElem? (i := 30) rfl))) (g := (mkF m 143 #[.val (.long a1), .second, .val (.long a2), .second, .val (.long a3), .second, .val (.long a4), .second, .val (.long a5), .second, .val (.int a6), .val (.int zz), .val (.int hw2), .val (.long dd), .second, .val (.long st0), .second, .val (.long pe), .second, .unset, .unset, .unset, .unset, .unset, .unset, .unset, .unset] [(.long a5)])) rfl (hb hby at_143) _ ?_
          show Steps p.tables e below (T58.setTop (mkF m 146 #[.val (.long a1), .second, .val (.long a2), .second, .val (.long a3), .second, .val (.long a4), .second, .val (.long a5), .second, .val (.int a6), .val (.int zz), .val (.int hw2), .val (.long dd), .second, .val (.long st0), .second, .val (.long pe), .second, .unset, .unset, .unset, .unset, .unset, .unset, .unset, .unset] [(.long (1073741823 : Int64)), (.long a5)])) _
          refine XS.land X58.here hx rfl (hb hby at_146) rfl ?_
          show Steps p.tables e below (T58.setTop (mkF m 147 #[.val (.long a1), .second, .val (.long a2), .second, .val (.long a3), .second, .val (.long a4), .second, .val (.long a5), .second, .val (.int a6), .val (.int zz), .val (.int hw2), .val (.long dd), .second, .val (.long st0), .second, .val (.long pe), .second, .unset, .unset, .unset, .unset, .unset, .unset, .unset, .unset] [(.long (a5 &&& (1073741823 : Int64)))])) _
          refine XS.lstore X58.here hx rfl (hb hby at_147) rfl (l' := #[.val (.long a1), .second, .val (.long a2), .second, .val (.long a3), .second, .val (.long a4), .second, .val (.long a5), .second, .val (.int a6), .val (.int zz), .val (.int hw2), .val (.long dd), .second, .val (.long st0), .second, .val (.long pe), .second, .unset, .unset, .val (.long (a5 &&& (1073741823 : Int64))), .second, .unset, .unset, .unset, .unset]) rfl ?_
          show Steps p.tables e below (T58.setTop (mkF m 149 #[.val (.long a1), .second, .val (.long a2), .second, .val (.long a3), .second, .val (.long a4), .second, .val (.long a5), .second, .val (.int a6), .val (.int zz), .val (.int hw2), .val (.long dd), .second, .val (.long st0), .second, .val (.long pe), .second, .unset, .unset, .val (.long (a5 &&& (1073741823 : Int64))), .second, .unset, .unset, .unset, .unset] [])) _
          refine XS.lload X58.here hx rfl (hb hby at_149) rfl ?_
          show Steps p.tables e below (T58.setTop (mkF m 151 #[.val (.long a1), .second, .val (.long a2), .second, .val (.long a3), .second, .val (.long a4), .second, .val (.long a5), .second, .val (.int a6), .val (.int zz), .val (.int hw2), .val (.long dd), .second, .val (.long st0), .second, .val (.long pe), .second, .unset, .unset, .val (.long (a5 &&& (1073741823 : Int64))), .second, .unset, .unset, .unset, .unset] [(.long st0)])) _
          refine XS.lload X58.here hx rfl (hb hby at_151) rfl ?_
          show Steps p.tables e below (T58.setTop (mkF m 153 #[.val (.long a1), .second, .val (.long a2), .second, .val (.long a3), .second, .val (.long a4), .second, .val (.long a5), .second, .val (.int a6), .val (.int zz), .val (.int hw2), .val (.long dd), .second, .val (.long st0), .second, .val (.long pe), .second, .unset, .unset, .val (.long (a5 &&& (1073741823 : Int64))), .second, .unset, .unset, .unset, .unset] [(.long (a5 &&& (1073741823 : Int64))), (.long st0)])) _
          refine XS.lload X58.here hx rfl (hb hby at_153) rfl ?_
          show Steps p.tables e below (T58.setTop (mkF m 155 #[.val (.long a1), .second, .val (.long a2), .second, .val (.long a3), .second, .val (.long a4), .second, .val (.long a5), .second, .val (.int a6), .val (.int zz), .val (.int hw2), .val (.long dd), .second, .val (.long st0), .second, .val (.long pe), .second, .unset, .unset, .val (.long (a5 &&& (1073741823 : Int64))), .second, .unset, .unset, .unset, .unset] [(.long pe), (.long (a5 &&& (1073741823 : Int64))), (.long st0)])) _
          refine XS.lmul X58.here hx rfl (hb hby at_155) rfl ?_
          show Steps p.tables e below (T58.setTop (mkF m 156 #[.val (.long a1), .second, .val (.long a2), .second, .val (.long a3), .second, .val (.long a4), .second, .val (.long a5), .second, .val (.int a6), .val (.int zz), .val (.int hw2), .val (.long dd), .second, .val (.long st0), .second, .val (.long pe), .second, .unset, .unset, .val (.long (a5 &&& (1073741823 : Int64))), .second, .unset, .unset, .unset, .unset] [(.long ((a5 &&& (1073741823 : Int64)) * pe)), (.long st0)])) _
          refine XS.ladd X58.here hx rfl (hb hby at_156) rfl ?_
          show Steps p.tables e below (T58.setTop (mkF m 157 #[.val (.long a1), .second, .val (.long a2), .second, .val (.long a3), .second, .val (.long a4), .second, .val (.long a5), .second, .val (.int a6), .val (.int zz), .val (.int hw2), .val (.long dd), .second, .val (.long st0), .second, .val (.long pe), .second, .unset, .unset, .val (.long (a5 &&& (1073741823 : Int64))), .second, .unset, .unset, .unset, .unset] [(.long (st0 + ((a5 &&& (1073741823 : Int64)) * pe)))])) _
          refine XS.lload X58.here hx rfl (hb hby at_157) rfl ?_
          show Steps p.tables e below (T58.setTop (mkF m 159 #[.val (.long a1), .second, .val (.long a2), .second, .val (.long a3), .second, .val (.long a4), .second, .val (.long a5), .second, .val (.int a6), .val (.int zz), .val (.int hw2), .val (.long dd), .second, .val (.long st0), .second, .val (.long pe), .second, .unset, .unset, .val (.long (a5 &&& (1073741823 : Int64))), .second, .unset, .unset, .unset, .unset] [(.long dd), (.long (st0 + ((a5 &&& (1073741823 : Int64)) * pe)))])) _
          refine XS.ladd X58.here hx rfl (hb hby at_159) rfl ?_
          show Steps p.tables e below (T58.setTop (mkF m 160 #[.val (.long a1), .second, .val (.long a2), .second, .val (.long a3), .second, .val (.long a4), .second, .val (.long a5), .second, .val (.int a6), .val (.int zz), .val (.int hw2), .val (.long dd), .second, .val (.long st0), .second, .val (.long pe), .second, .unset, .unset, .val (.long (a5 &&& (1073741823 : Int64))), .second, .unset, .unset, .unset, .unset] [(.long ((st0 + ((a5 &&& (1073741823 : Int64)) * pe)) + dd))])) _
          refine XS.lstore X58.here hx rfl (hb hby at_160) rfl (l' := #[.val (.long a1), .second, .val (.long a2), .second, .val (.long a3), .second, .val (.long a4), .second, .val (.long a5), .second, .val (.int a6), .val (.int zz), .val (.int hw2), .val (.long dd), .second, .val (.long st0), .second, .val (.long pe), .second, .val (.long ((st0 + ((a5 &&& (1073741823 : Int64)) * pe)) + dd)), .second, .val (.long (a5 &&& (1073741823 : Int64))), .second, .unset, .unset, .unset, .unset]) rfl ?_
          show Steps p.tables e below (T58.setTop (mkF m 162 #[.val (.long a1), .second, .val (.long a2), .second, .val (.long a3), .second, .val (.long a4), .second, .val (.long a5), .second, .val (.int a6), .val (.int zz), .val (.int hw2), .val (.long dd), .second, .val (.long st0), .second, .val (.long pe), .second, .val (.long ((st0 + ((a5 &&& (1073741823 : Int64)) * pe)) + dd)), .second, .val (.long (a5 &&& (1073741823 : Int64))), .second, .unset, .unset, .unset, .unset] [])) _
          refine XS.goto X58.here hx rfl (pc0 := 162) (pc' := 211) rfl (hb hby at_162) (by decide) (by decide) ?_
          exact kt
        obtain ⟨cy, hd_cy⟩ : ∃ z : Int64, z = ((st0 + ((a5 &&& (1073741823 : Int64)) * pe)) + dd) := ⟨_, rfl⟩
        have pre62 : ∀ t, Steps p.tables e below (T58.setTop (mkF m 211 #[.val (.long a1), .second, .val (.long a2), .second, .val (.long a3), .second, .val (.long a4), .second, .val (.long a5), .second, .val (.int a6), .val (.int zz), .val (.int hw2), .val (.long dd), .second, .val (.long st0), .second, .val (.long pe), .second, .val (.long cy), .second, .val (.long (a5 &&& (1073741823 : Int64))), .second, .unset, .unset, .unset, .unset] [])) t → Steps p.tables e below (s₁.setTop (entryFrame m #[(.long a1), (.long a2), (.long a3), (.long a4), (.long a5), (.int a6)] maxLocals)) t := by rw [hd_cy]; exact pre61
        have hst : 0 ≤ st0.toInt := by rw [hd_st0]; exact (own_m62 a3).1
        have hcy : 0 ≤ cy.toInt := by rw [hd_cy]; exact own_sum (by rw [hd_st0]; exact own_m62 a3) (own_m30 a5) hpe (by rw [hd_dd]; exact own_d _)
        have pre63 : ∀ t, Steps p.tables e below (T58.setTop (mkF m 215 #[.val (.long a1), .second, .val (.long a2), .second, .val (.long a3), .second, .val (.long a4), .second, .val (.long a5), .second, .val (.int a6), .val (.int zz), .val (.int hw2), .val (.long dd), .second, .val (.long st0), .second, .val (.long pe), .second, .val (.long cy), .second, .val (.long (a5 &&& (1073741823 : Int64))), .second, .unset, .unset, .unset, .unset] [(.int (lcmpW pe (0 : Int64)))])) t → Steps p.tables e below (s₁.setTop (entryFrame m #[(.long a1), (.long a2), (.long a3), (.long a4), (.long a5), (.int a6)] maxLocals)) t := by
          intro t kt
          refine pre62 t ?_
          show Steps p.tables e below (T58.setTop (mkF m 211 #[.val (.long a1), .second, .val (.long a2), .second, .val (.long a3), .second, .val (.long a4), .second, .val (.long a5), .second, .val (.int a6), .val (.int zz), .val (.int hw2), .val (.long dd), .second, .val (.long st0), .second, .val (.long pe), .second, .val (.long cy), .second, .val (.long (a5 &&& (1073741823 : Int64))), .second, .unset, .unset, .unset, .unset] [])) _
          refine XS.lload X58.here hx rfl (hb hby at_211) rfl ?_
          show Steps p.tables e below (T58.setTop (mkF m 213 #[.val (.long a1), .second, .val (.long a2), .second, .val (.long a3), .second, .val (.long a4), .second, .val (.long a5), .second, .val (.int a6), .val (.int zz), .val (.int hw2), .val (.long dd), .second, .val (.long st0), .second, .val (.long pe), .second, .val (.long cy), .second, .val (.long (a5 &&& (1073741823 : Int64))), .second, .unset, .unset, .unset, .unset] [(.long pe)])) _
          refine XS.lconst X58.here hx rfl (hb hby at_213) ?_
          show Steps p.tables e below (T58.setTop (mkF m 214 #[.val (.long a1), .second, .val (.long a2), .second, .val (.long a3), .second, .val (.long a4), .second, .val (.long a5), .second, .val (.int a6), .val (.int zz), .val (.int hw2), .val (.long dd), .second, .val (.long st0), .second, .val (.long pe), .second, .val (.long cy), .second, .val (.long (a5 &&& (1073741823 : Int64))), .second, .unset, .unset, .unset, .unset] [(.long (0 : Int64)), (.long pe)])) _
          refine XS.lcmp X58.here hx rfl (hb hby at_214) rfl ?_
          exact kt
        obtain ⟨T64, Lc64, es, X64, e64, N64, hp64, pre64⟩ : ∃ (T64 : State) (Lc64 : List Loc) (es : Int32), Stand p l e room_1 s m #[(.long a1), (.long a2), (.long a3), (.long a4), (.long a5), (.int a6)] below meth c T64 Lc64 0 0 ∧ T64.heap = h0 ∧ Fr n0 Lc64 ∧ (es = own_is cy st0 pe) ∧ ∀ t, Steps p.tables e below (T64.setTop (mkF m 256 #[.val (.long a1), .second, .val (.long a2), .second, .val (.long a3), .second, .val (.long a4), .second, .val (.long a5), .second, .val (.int a6), .val (.int zz), .val (.int hw2), .val (.long dd), .second, .val (.long st0), .second, .val (.long pe), .second, .val (.long cy), .second, .val (.int es), .unset, .unset, .unset, .unset, .unset] [])) t → Steps p.tables e below (s₁.setTop (entryFrame m #[(.long a1), (.long a2), (.long a3), (.long a4), (.long a5), (.int a6)] maxLocals)) t := by
          by_cases hc215_3 : pe = (0 : Int64)
          case pos =>
            have pre65 : ∀ t, Steps p.tables e below (T58.setTop (mkF m 223 #[.val (.long a1), .second, .val (.long a2), .second, .val (.long a3), .second, .val (.long a4), .second, .val (.long a5), .second, .val (.int a6), .val (.int zz), .val (.int hw2), .val (.long dd), .second, .val (.long st0), .second, .val (.long pe), .second, .val (.long cy), .second, .val (.long (a5 &&& (1073741823 : Int64))), .second, .unset, .unset, .unset, .unset] [(.int (lcmpW cy st0))])) t → Steps p.tables e below (s₁.setTop (entryFrame m #[(.long a1), (.long a2), (.long a3), (.long a4), (.long a5), (.int a6)] maxLocals)) t := by
              intro t kt
              refine pre63 t ?_
              show Steps p.tables e below (T58.setTop (mkF m 215 #[.val (.long a1), .second, .val (.long a2), .second, .val (.long a3), .second, .val (.long a4), .second, .val (.long a5), .second, .val (.int a6), .val (.int zz), .val (.int hw2), .val (.long dd), .second, .val (.long st0), .second, .val (.long pe), .second, .val (.long cy), .second, .val (.long (a5 &&& (1073741823 : Int64))), .second, .unset, .unset, .unset, .unset] [(.int (lcmpW pe (0 : Int64)))])) _
              refine XS.ifNo X58.here hx rfl (hb hby at_215) rfl ((if0 _ _).trans (teq ((lw_eq pe (0 : Int64)).mpr hc215_3)).2) ?_
              show Steps p.tables e below (T58.setTop (mkF m 218 #[.val (.long a1), .second, .val (.long a2), .second, .val (.long a3), .second, .val (.long a4), .second, .val (.long a5), .second, .val (.int a6), .val (.int zz), .val (.int hw2), .val (.long dd), .second, .val (.long st0), .second, .val (.long pe), .second, .val (.long cy), .second, .val (.long (a5 &&& (1073741823 : Int64))), .second, .unset, .unset, .unset, .unset] [])) _
              refine XS.lload X58.here hx rfl (hb hby at_218) rfl ?_
              show Steps p.tables e below (T58.setTop (mkF m 220 #[.val (.long a1), .second, .val (.long a2), .second, .val (.long a3), .second, .val (.long a4), .second, .val (.long a5), .second, .val (.int a6), .val (.int zz), .val (.int hw2), .val (.long dd), .second, .val (.long st0), .second, .val (.long pe), .second, .val (.long cy), .second, .val (.long (a5 &&& (1073741823 : Int64))), .second, .unset, .unset, .unset, .unset] [(.long cy)])) _
              refine XS.lload X58.here hx rfl (hb hby at_220) rfl ?_
              show Steps p.tables e below (T58.setTop (mkF m 222 #[.val (.long a1), .second, .val (.long a2), .second, .val (.long a3), .second, .val (.long a4), .second, .val (.long a5), .second, .val (.int a6), .val (.int zz), .val (.int hw2), .val (.long dd), .second, .val (.long st0), .second, .val (.long pe), .second, .val (.long cy), .second, .val (.long (a5 &&& (1073741823 : Int64))), .second, .unset, .unset, .unset, .unset] [(.long st0), (.long cy)])) _
              refine XS.lcmp X58.here hx rfl (hb hby at_222) rfl ?_
              exact kt
            by_cases hc223_2 : cy = st0
            case pos =>
              have pre66 : ∀ t, Steps p.tables e below (T58.setTop (mkF m 256 #[.val (.long a1), .second, .val (.long a2), .second, .val (.long a3), .second, .val (.long a4), .second, .val (.long a5), .second, .val (.int a6), .val (.int zz), .val (.int hw2), .val (.long dd), .second, .val (.long st0), .second, .val (.long pe), .second, .val (.long cy), .second, .val (.int (1 : Int32)), .unset, .unset, .unset, .unset, .unset] [])) t → Steps p.tables e below (s₁.setTop (entryFrame m #[(.long a1), (.long a2), (.long a3), (.long a4), (.long a5), (.int a6)] maxLocals)) t := by
                intro t kt
                refine pre65 t ?_
                show Steps p.tables e below (T58.setTop (mkF m 223 #[.val (.long a1), .second, .val (.long a2), .second, .val (.long a3), .second, .val (.long a4), .second, .val (.long a5), .second, .val (.int a6), .val (.int zz), .val (.int hw2), .val (.long dd), .second, .val (.long st0), .second, .val (.long pe), .second, .val (.long cy), .second, .val (.long (a5 &&& (1073741823 : Int64))), .second, .unset, .unset, .unset, .unset] [(.int (lcmpW cy st0))])) _
                refine XS.ifNo X58.here hx rfl (hb hby at_223) rfl ((if0 _ _).trans (teq ((lw_eq cy st0).mpr hc223_2)).2) ?_
                show Steps p.tables e below (T58.setTop (mkF m 226 #[.val (.long a1), .second, .val (.long a2), .second, .val (.long a3), .second, .val (.long a4), .second, .val (.long a5), .second, .val (.int a6), .val (.int zz), .val (.int hw2), .val (.long dd), .second, .val (.long st0), .second, .val (.long pe), .second, .val (.long cy), .second, .val (.long (a5 &&& (1073741823 : Int64))), .second, .unset, .unset, .unset, .unset] [])) _
                refine XS.iconst X58.here hx rfl (hb hby at_226) ?_
                show Steps p.tables e below (T58.setTop (mkF m 227 #[.val (.long a1), .second, .val (.long a2), .second, .val (.long a3), .second, .val (.long a4), .second, .val (.long a5), .second, .val (.int a6), .val (.int zz), .val (.int hw2), .val (.long dd), .second, .val (.long st0), .second, .val (.long pe), .second, .val (.long cy), .second, .val (.long (a5 &&& (1073741823 : Int64))), .second, .unset, .unset, .unset, .unset] [(.int (1 : Int32))])) _
                refine XS.goto X58.here hx rfl (pc0 := 227) (pc' := 231) rfl (hb hby at_227) (by decide) (by decide) ?_
                show Steps p.tables e below (T58.setTop (mkF m 231 #[.val (.long a1), .second, .val (.long a2), .second, .val (.long a3), .second, .val (.long a4), .second, .val (.long a5), .second, .val (.int a6), .val (.int zz), .val (.int hw2), .val (.long dd), .second, .val (.long st0), .second, .val (.long pe), .second, .val (.long cy), .second, .val (.long (a5 &&& (1073741823 : Int64))), .second, .unset, .unset, .unset, .unset] [(.int (1 : Int32))])) _
                refine XS.istore X58.here hx rfl (hb hby at_231) rfl (l' := #[.val (.long a1), .second, .val (.long a2), .second, .val (.long a3), .second, .val (.long a4), .second, .val (.long a5), .second, .val (.int a6), .val (.int zz), .val (.int hw2), .val (.long dd), .second, .val (.long st0), .second, .val (.long pe), .second, .val (.long cy), .second, .val (.int (1 : Int32)), .unset, .unset, .unset, .unset, .unset]) rfl ?_
                show Steps p.tables e below (T58.setTop (mkF m 233 #[.val (.long a1), .second, .val (.long a2), .second, .val (.long a3), .second, .val (.long a4), .second, .val (.long a5), .second, .val (.int a6), .val (.int zz), .val (.int hw2), .val (.long dd), .second, .val (.long st0), .second, .val (.long pe), .second, .val (.long cy), .second, .val (.int (1 : Int32)), .unset, .unset, .unset, .unset, .unset] [])) _
                refine XS.goto X58.here hx rfl (pc0 := 233) (pc' := 256) rfl (hb hby at_233) (by decide) (by decide) ?_
                exact kt
              exact ⟨T58, _, (1 : Int32), X58, e58, N58, (by simp [own_is, hc215_3, hc223_2]), pre66⟩
            case neg =>
              have pre67 : ∀ t, Steps p.tables e below (T58.setTop (mkF m 256 #[.val (.long a1), .second, .val (.long a2), .second, .val (.long a3), .second, .val (.long a4), .second, .val (.long a5), .second, .val (.int a6), .val (.int zz), .val (.int hw2), .val (.long dd), .second, .val (.long st0), .second, .val (.long pe), .second, .val (.long cy), .second, .val (.int (0 : Int32)), .unset, .unset, .unset, .unset, .unset] [])) t → Steps p.tables e below (s₁.setTop (entryFrame m #[(.long a1), (.long a2), (.long a3), (.long a4), (.long a5), (.int a6)] maxLocals)) t := by
                intro t kt
                refine pre65 t ?_
                show Steps p.tables e below (T58.setTop (mkF m 223 #[.val (.long a1), .second, .val (.long a2), .second, .val (.long a3), .second, .val (.long a4), .second, .val (.long a5), .second, .val (.int a6), .val (.int zz), .val (.int hw2), .val (.long dd), .second, .val (.long st0), .second, .val (.long pe), .second, .val (.long cy), .second, .val (.long (a5 &&& (1073741823 : Int64))), .second, .unset, .unset, .unset, .unset] [(.int (lcmpW cy st0))])) _
                refine XS.ifYes X58.here hx rfl (pc0 := 223) (pc' := 230) rfl (hb hby at_223) rfl ((if0 _ _).trans (feq (fun q => hc223_2 ((lw_eq cy st0).mp q))).2) (by decide) (by decide) ?_
                show Steps p.tables e below (T58.setTop (mkF m 230 #[.val (.long a1), .second, .val (.long a2), .second, .val (.long a3), .second, .val (.long a4), .second, .val (.long a5), .second, .val (.int a6), .val (.int zz), .val (.int hw2), .val (.long dd), .second, .val (.long st0), .second, .val (.long pe), .second, .val (.long cy), .second, .val (.long (a5 &&& (1073741823 : Int64))), .second, .unset, .unset, .unset, .unset] [])) _
                refine XS.iconst X58.here hx rfl (hb hby at_230) ?_
                show Steps p.tables e below (T58.setTop (mkF m 231 #[.val (.long a1), .second, .val (.long a2), .second, .val (.long a3), .second, .val (.long a4), .second, .val (.long a5), .second, .val (.int a6), .val (.int zz), .val (.int hw2), .val (.long dd), .second, .val (.long st0), .second, .val (.long pe), .second, .val (.long cy), .second, .val (.long (a5 &&& (1073741823 : Int64))), .second, .unset, .unset, .unset, .unset] [(.int (0 : Int32))])) _
                refine XS.istore X58.here hx rfl (hb hby at_231) rfl (l' := #[.val (.long a1), .second, .val (.long a2), .second, .val (.long a3), .second, .val (.long a4), .second, .val (.long a5), .second, .val (.int a6), .val (.int zz), .val (.int hw2), .val (.long dd), .second, .val (.long st0), .second, .val (.long pe), .second, .val (.long cy), .second, .val (.int (0 : Int32)), .unset, .unset, .unset, .unset, .unset]) rfl ?_
                show Steps p.tables e below (T58.setTop (mkF m 233 #[.val (.long a1), .second, .val (.long a2), .second, .val (.long a3), .second, .val (.long a4), .second, .val (.long a5), .second, .val (.int a6), .val (.int zz), .val (.int hw2), .val (.long dd), .second, .val (.long st0), .second, .val (.long pe), .second, .val (.long cy), .second, .val (.int (0 : Int32)), .unset, .unset, .unset, .unset, .unset] [])) _
                refine XS.goto X58.here hx rfl (pc0 := 233) (pc' := 256) rfl (hb hby at_233) (by decide) (by decide) ?_
                exact kt
              exact ⟨T58, _, (0 : Int32), X58, e58, N58, (by simp [own_is, hc215_3, hc223_2]), pre67⟩
          case neg =>
            have pre68 : ∀ t, Steps p.tables e below (T58.setTop (mkF m 246 #[.val (.long a1), .second, .val (.long a2), .second, .val (.long a3), .second, .val (.long a4), .second, .val (.long a5), .second, .val (.int a6), .val (.int zz), .val (.int hw2), .val (.long dd), .second, .val (.long st0), .second, .val (.long pe), .second, .val (.long cy), .second, .val (.long (a5 &&& (1073741823 : Int64))), .second, .unset, .unset, .unset, .unset] [(.int (lcmpW ((cy - st0) % pe) (0 : Int64)))])) t → Steps p.tables e below (s₁.setTop (entryFrame m #[(.long a1), (.long a2), (.long a3), (.long a4), (.long a5), (.int a6)] maxLocals)) t := by
              intro t kt
              refine pre63 t ?_
              show Steps p.tables e below (T58.setTop (mkF m 215 #[.val (.long a1), .second, .val (.long a2), .second, .val (.long a3), .second, .val (.long a4), .second, .val (.long a5), .second, .val (.int a6), .val (.int zz), .val (.int hw2), .val (.long dd), .second, .val (.long st0), .second, .val (.long pe), .second, .val (.long cy), .second, .val (.long (a5 &&& (1073741823 : Int64))), .second, .unset, .unset, .unset, .unset] [(.int (lcmpW pe (0 : Int64)))])) _
              refine XS.ifYes X58.here hx rfl (pc0 := 215) (pc' := 236) rfl (hb hby at_215) rfl ((if0 _ _).trans (feq (fun q => hc215_3 ((lw_eq pe (0 : Int64)).mp q))).2) (by decide) (by decide) ?_
              show Steps p.tables e below (T58.setTop (mkF m 236 #[.val (.long a1), .second, .val (.long a2), .second, .val (.long a3), .second, .val (.long a4), .second, .val (.long a5), .second, .val (.int a6), .val (.int zz), .val (.int hw2), .val (.long dd), .second, .val (.long st0), .second, .val (.long pe), .second, .val (.long cy), .second, .val (.long (a5 &&& (1073741823 : Int64))), .second, .unset, .unset, .unset, .unset] [])) _
              refine XS.lload X58.here hx rfl (hb hby at_236) rfl ?_
              show Steps p.tables e below (T58.setTop (mkF m 238 #[.val (.long a1), .second, .val (.long a2), .second, .val (.long a3), .second, .val (.long a4), .second, .val (.long a5), .second, .val (.int a6), .val (.int zz), .val (.int hw2), .val (.long dd), .second, .val (.long st0), .second, .val (.long pe), .second, .val (.long cy), .second, .val (.long (a5 &&& (1073741823 : Int64))), .second, .unset, .unset, .unset, .unset] [(.long cy)])) _
              refine XS.lload X58.here hx rfl (hb hby at_238) rfl ?_
              show Steps p.tables e below (T58.setTop (mkF m 240 #[.val (.long a1), .second, .val (.long a2), .second, .val (.long a3), .second, .val (.long a4), .second, .val (.long a5), .second, .val (.int a6), .val (.int zz), .val (.int hw2), .val (.long dd), .second, .val (.long st0), .second, .val (.long pe), .second, .val (.long cy), .second, .val (.long (a5 &&& (1073741823 : Int64))), .second, .unset, .unset, .unset, .unset] [(.long st0), (.long cy)])) _
              refine XS.lsub X58.here hx rfl (hb hby at_240) rfl ?_
              show Steps p.tables e below (T58.setTop (mkF m 241 #[.val (.long a1), .second, .val (.long a2), .second, .val (.long a3), .second, .val (.long a4), .second, .val (.long a5), .second, .val (.int a6), .val (.int zz), .val (.int hw2), .val (.long dd), .second, .val (.long st0), .second, .val (.long pe), .second, .val (.long cy), .second, .val (.long (a5 &&& (1073741823 : Int64))), .second, .unset, .unset, .unset, .unset] [(.long (cy - st0))])) _
              refine XS.lload X58.here hx rfl (hb hby at_241) rfl ?_
              show Steps p.tables e below (T58.setTop (mkF m 243 #[.val (.long a1), .second, .val (.long a2), .second, .val (.long a3), .second, .val (.long a4), .second, .val (.long a5), .second, .val (.int a6), .val (.int zz), .val (.int hw2), .val (.long dd), .second, .val (.long st0), .second, .val (.long pe), .second, .val (.long cy), .second, .val (.long (a5 &&& (1073741823 : Int64))), .second, .unset, .unset, .unset, .unset] [(.long pe), (.long (cy - st0))])) _
              refine own_lremM X58 hx rfl (hb hby at_243) rfl hc215_3 ?_
              show Steps p.tables e below (T58.setTop (mkF m 244 #[.val (.long a1), .second, .val (.long a2), .second, .val (.long a3), .second, .val (.long a4), .second, .val (.long a5), .second, .val (.int a6), .val (.int zz), .val (.int hw2), .val (.long dd), .second, .val (.long st0), .second, .val (.long pe), .second, .val (.long cy), .second, .val (.long (a5 &&& (1073741823 : Int64))), .second, .unset, .unset, .unset, .unset] [(.long ((cy - st0) % pe))])) _
              refine XS.lconst X58.here hx rfl (hb hby at_244) ?_
              show Steps p.tables e below (T58.setTop (mkF m 245 #[.val (.long a1), .second, .val (.long a2), .second, .val (.long a3), .second, .val (.long a4), .second, .val (.long a5), .second, .val (.int a6), .val (.int zz), .val (.int hw2), .val (.long dd), .second, .val (.long st0), .second, .val (.long pe), .second, .val (.long cy), .second, .val (.long (a5 &&& (1073741823 : Int64))), .second, .unset, .unset, .unset, .unset] [(.long (0 : Int64)), (.long ((cy - st0) % pe))])) _
              refine XS.lcmp X58.here hx rfl (hb hby at_245) rfl ?_
              exact kt
            by_cases hc246_3 : ((cy - st0) % pe) = (0 : Int64)
            case pos =>
              have pre69 : ∀ t, Steps p.tables e below (T58.setTop (mkF m 256 #[.val (.long a1), .second, .val (.long a2), .second, .val (.long a3), .second, .val (.long a4), .second, .val (.long a5), .second, .val (.int a6), .val (.int zz), .val (.int hw2), .val (.long dd), .second, .val (.long st0), .second, .val (.long pe), .second, .val (.long cy), .second, .val (.int (1 : Int32)), .unset, .unset, .unset, .unset, .unset] [])) t → Steps p.tables e below (s₁.setTop (entryFrame m #[(.long a1), (.long a2), (.long a3), (.long a4), (.long a5), (.int a6)] maxLocals)) t := by
                intro t kt
                refine pre68 t ?_
                show Steps p.tables e below (T58.setTop (mkF m 246 #[.val (.long a1), .second, .val (.long a2), .second, .val (.long a3), .second, .val (.long a4), .second, .val (.long a5), .second, .val (.int a6), .val (.int zz), .val (.int hw2), .val (.long dd), .second, .val (.long st0), .second, .val (.long pe), .second, .val (.long cy), .second, .val (.long (a5 &&& (1073741823 : Int64))), .second, .unset, .unset, .unset, .unset] [(.int (lcmpW ((cy - st0) % pe) (0 : Int64)))])) _
                refine XS.ifNo X58.here hx rfl (hb hby at_246) rfl ((if0 _ _).trans (teq ((lw_eq ((cy - st0) % pe) (0 : Int64)).mpr hc246_3)).2) ?_
                show Steps p.tables e below (T58.setTop (mkF m 249 #[.val (.long a1), .second, .val (.long a2), .second, .val (.long a3), .second, .val (.long a4), .second, .val (.long a5), .second, .val (.int a6), .val (.int zz), .val (.int hw2), .val (.long dd), .second, .val (.long st0), .second, .val (.long pe), .second, .val (.long cy), .second, .val (.long (a5 &&& (1073741823 : Int64))), .second, .unset, .unset, .unset, .unset] [])) _
                refine XS.iconst X58.here hx rfl (hb hby at_249) ?_
                show Steps p.tables e below (T58.setTop (mkF m 250 #[.val (.long a1), .second, .val (.long a2), .second, .val (.long a3), .second, .val (.long a4), .second, .val (.long a5), .second, .val (.int a6), .val (.int zz), .val (.int hw2), .val (.long dd), .second, .val (.long st0), .second, .val (.long pe), .second, .val (.long cy), .second, .val (.long (a5 &&& (1073741823 : Int64))), .second, .unset, .unset, .unset, .unset] [(.int (1 : Int32))])) _
                refine XS.goto X58.here hx rfl (pc0 := 250) (pc' := 254) rfl (hb hby at_250) (by decide) (by decide) ?_
                show Steps p.tables e below (T58.setTop (mkF m 254 #[.val (.long a1), .second, .val (.long a2), .second, .val (.long a3), .second, .val (.long a4), .second, .val (.long a5), .second, .val (.int a6), .val (.int zz), .val (.int hw2), .val (.long dd), .second, .val (.long st0), .second, .val (.long pe), .second, .val (.long cy), .second, .val (.long (a5 &&& (1073741823 : Int64))), .second, .unset, .unset, .unset, .unset] [(.int (1 : Int32))])) _
                refine XS.istore X58.here hx rfl (hb hby at_254) rfl (l' := #[.val (.long a1), .second, .val (.long a2), .second, .val (.long a3), .second, .val (.long a4), .second, .val (.long a5), .second, .val (.int a6), .val (.int zz), .val (.int hw2), .val (.long dd), .second, .val (.long st0), .second, .val (.long pe), .second, .val (.long cy), .second, .val (.int (1 : Int32)), .unset, .unset, .unset, .unset, .unset]) rfl ?_
                exact kt
              exact ⟨T58, _, (1 : Int32), X58, e58, N58, (by rw [own_es hcy hst hc215_3]; exact (if_pos hc246_3).symm), pre69⟩
            case neg =>
              have pre70 : ∀ t, Steps p.tables e below (T58.setTop (mkF m 256 #[.val (.long a1), .second, .val (.long a2), .second, .val (.long a3), .second, .val (.long a4), .second, .val (.long a5), .second, .val (.int a6), .val (.int zz), .val (.int hw2), .val (.long dd), .second, .val (.long st0), .second, .val (.long pe), .second, .val (.long cy), .second, .val (.int (0 : Int32)), .unset, .unset, .unset, .unset, .unset] [])) t → Steps p.tables e below (s₁.setTop (entryFrame m #[(.long a1), (.long a2), (.long a3), (.long a4), (.long a5), (.int a6)] maxLocals)) t := by
                intro t kt
                refine pre68 t ?_
                show Steps p.tables e below (T58.setTop (mkF m 246 #[.val (.long a1), .second, .val (.long a2), .second, .val (.long a3), .second, .val (.long a4), .second, .val (.long a5), .second, .val (.int a6), .val (.int zz), .val (.int hw2), .val (.long dd), .second, .val (.long st0), .second, .val (.long pe), .second, .val (.long cy), .second, .val (.long (a5 &&& (1073741823 : Int64))), .second, .unset, .unset, .unset, .unset] [(.int (lcmpW ((cy - st0) % pe) (0 : Int64)))])) _
                refine XS.ifYes X58.here hx rfl (pc0 := 246) (pc' := 253) rfl (hb hby at_246) rfl ((if0 _ _).trans (feq (fun q => hc246_3 ((lw_eq ((cy - st0) % pe) (0 : Int64)).mp q))).2) (by decide) (by decide) ?_
                show Steps p.tables e below (T58.setTop (mkF m 253 #[.val (.long a1), .second, .val (.long a2), .second, .val (.long a3), .second, .val (.long a4), .second, .val (.long a5), .second, .val (.int a6), .val (.int zz), .val (.int hw2), .val (.long dd), .second, .val (.long st0), .second, .val (.long pe), .second, .val (.long cy), .second, .val (.long (a5 &&& (1073741823 : Int64))), .second, .unset, .unset, .unset, .unset] [])) _
                refine XS.iconst X58.here hx rfl (hb hby at_253) ?_
                show Steps p.tables e below (T58.setTop (mkF m 254 #[.val (.long a1), .second, .val (.long a2), .second, .val (.long a3), .second, .val (.long a4), .second, .val (.long a5), .second, .val (.int a6), .val (.int zz), .val (.int hw2), .val (.long dd), .second, .val (.long st0), .second, .val (.long pe), .second, .val (.long cy), .second, .val (.long (a5 &&& (1073741823 : Int64))), .second, .unset, .unset, .unset, .unset] [(.int (0 : Int32))])) _
                refine XS.istore X58.here hx rfl (hb hby at_254) rfl (l' := #[.val (.long a1), .second, .val (.long a2), .second, .val (.long a3), .second, .val (.long a4), .second, .val (.long a5), .second, .val (.int a6), .val (.int zz), .val (.int hw2), .val (.long dd), .second, .val (.long st0), .second, .val (.long pe), .second, .val (.long cy), .second, .val (.int (0 : Int32)), .unset, .unset, .unset, .unset, .unset]) rfl ?_
                exact kt
              exact ⟨T58, _, (0 : Int32), X58, e58, N58, (by rw [own_es hcy hst hc215_3]; exact (if_neg hc246_3).symm), pre70⟩
        have hes := hp64
        obtain ⟨T71, h71, X71, e71, E71, A71, D71, -, st71⟩ := newO X64 hx hZ hown (hw _ (List.mem_of_getElem? (i := 1) rfl)) (hw _ (List.mem_of_getElem? (i := 2) rfl)) (hw _ (List.mem_of_getElem? (i := 3) rfl)) e64 (g := (mkF m 256 #[.val (.long a1), .second, .val (.long a2), .second, .val (.long a3), .second, .val (.long a4), .second, .val (.long a5), .second, .val (.int a6), .val (.int zz), .val (.int hw2), .val (.long dd), .second, .val (.long st0), .second, .val (.long pe), .second, .val (.long cy), .second, .val (.int es), .unset, .unset, .unset, .unset, .unset] [])) rfl (hb hby at_256) (by decide) (by decide)
        obtain ⟨ob, g71⟩ : ∃ z, z = h0.size := ⟨_, rfl⟩
        rw [← g71] at A71 D71 st71
        have g_ob : n0 ≤ ob := by rw [g71]; exact Z0
        have Z72 := Nat.le_trans Z0 E71.1
        have E_ob := A71
        have F_usual_ob : Fld Z h71 ob "com/example/paceline/paceline/sim/ServiceTimes" "usual" "J" (.long (0 : Int64)) := D71 (Or.inr (hw _ (List.mem_of_getElem? (i := 16) rfl))) (ty := .long) (by decide)
        have F_stalled_ob : Fld Z h71 ob "com/example/paceline/paceline/sim/ServiceTimes" "stalled" "J" (.long (0 : Int64)) := D71 (Or.inr (hw _ (List.mem_of_getElem? (i := 18) rfl))) (ty := .long) (by decide)
        have F_stallCycle_ob : Fld Z h71 ob "com/example/paceline/paceline/sim/ServiceTimes" "stallCycle" "J" (.long (0 : Int64)) := D71 (Or.inr (hw _ (List.mem_of_getElem? (i := 20) rfl))) (ty := .long) (by decide)
        have F_period_ob : Fld Z h71 ob "com/example/paceline/paceline/sim/ServiceTimes" "period" "J" (.long (0 : Int64)) := D71 (Or.inr (hw _ (List.mem_of_getElem? (i := 22) rfl))) (ty := .long) (by decide)
        obtain ⟨_, _, ⟨T73, L73, k73, n73⟩, -, X73, ⟨Lc73, hQ73, l73, y73, z73⟩, st73⟩ := X71.specialBack hx (y := (⟨"com/example/paceline/paceline/sim/ServiceTimes", "<init>", "(JJJJ)V"⟩ : MethodName)) rfl hown (mvT hZ (hw _ (List.mem_of_getElem? (i := 4) rfl))) (mvT hZ (hw _ (List.mem_of_getElem? (i := 5) rfl))) (mvT hZ (hw _ (List.mem_of_getElem? (i := 6) rfl))) (by decide) (backOf (W := 1) (own_rm1 l Z a0 hw [] (ob) (a1) (a2) (st0) (pe) h71 n0 Z72 E_ob F_usual_ob F_stalled_ob F_stallCycle_ob F_period_ob g_ob) hZ (hw _ (List.mem_of_getElem? (i := 6) rfl)) (hw _ (List.mem_of_getElem? (i := 3) rfl)) (by decide) (by decide)) (g := (mkF m 266 #[.val (.long a1), .second, .val (.long a2), .second, .val (.long a3), .second, .val (.long a4), .second, .val (.long a5), .second, .val (.int a6), .val (.int zz), .val (.int hw2), .val (.long dd), .second, .val (.long st0), .second, .val (.long pe), .second, .val (.long cy), .second, .val (.int es), .unset, .unset, .unset, .unset, .unset] [(.long pe), (.long st0), (.long a2), (.long a1), (.ref ob), (.ref ob)])) rfl (by rw [hml]; rfl) (Steps.refl _) (a := ob) (argsL := [(.long a1), (.long a2), (.long st0), (.long pe)]) (rest := [(.ref ob)]) (lenOf own_pd1 rfl) rfl (by show 2 * 0 + _ ≤ _; exact Nat.le_of_eq rfl) (hb hby at_266) (fun _ _ => ⟨rfl, e71, (by decide : 1 + 0 ≤ _), (by decide : 4 + 0 ≤ _)⟩)
        dsimp only [Pt.U, Pt.locs, Pt.cells, Pt.slots] at X73 l73 y73 z73 st73 hQ73
        subst l73 y73 z73
        obtain ⟨rfl, Nq73, Kq73, E_ob, F_usual_ob, F_stalled_ob, F_stallCycle_ob, F_period_ob⟩ := hQ73
        have N73 := Fr.app N64 Nq73
        have Z73 := Nat.le_trans Z72 Kq73.1
        obtain ⟨cq74, kq74, q74a, q74b, q74c⟩ := isOf hZ rfl E_ob
        obtain ⟨_, _, ⟨T74, L74, k74, n74⟩, -, X74, ⟨Lc74, hQ74, l74, y74, z74⟩, st74⟩ := X73.virtualBack hx (y := (⟨"com/example/paceline/paceline/sim/ServiceTimes", "of", "(J)J"⟩ : MethodName)) (z := (⟨"com/example/paceline/paceline/sim/ServiceTimes", "of", "(J)J"⟩ : MethodName)) hown (mvT hZ (hw _ (List.mem_of_getElem? (i := 23) rfl))) (mvT hZ (hw _ (List.mem_of_getElem? (i := 24) rfl))) (notFace_of_selects (args := #[]) (mvT hZ (hw _ (List.mem_of_getElem? (i := 26) rfl)))) (mvT hZ (hw _ (List.mem_of_getElem? (i := 26) rfl))) (mvT hZ (hw _ (List.mem_of_getElem? (i := 25) rfl))) (by decide) (backOf (W := 0) (own_rm4 l Z a0 hw [] ob cy a1 a2 st0 pe T73.heap n0 Z73 F_usual_ob F_stalled_ob F_stallCycle_ob F_period_ob) hZ (hw _ (List.mem_of_getElem? (i := 27) rfl)) (hw _ (List.mem_of_getElem? (i := 3) rfl)) (by decide) (by decide)) q74a q74c (g := (mkF m 275 #[.val (.long a1), .second, .val (.long a2), .second, .val (.long a3), .second, .val (.long a4), .second, .val (.long a5), .second, .val (.int a6), .val (.int zz), .val (.int hw2), .val (.long dd), .second, .val (.long st0), .second, .val (.long pe), .second, .val (.long cy), .second, .val (.int es), .val (.ref ob), .unset, .unset, .unset, .unset] [(.long cy), (.ref ob)])) rfl (by rw [hml]; rfl) (Steps.refl _) (argsL := [(.long cy)]) (rest := []) (lenOf own_pd2 rfl) rfl (by show 2 * 0 + _ ≤ _; exact Nat.le_of_eq rfl) (hb hby at_275) (fun _ _ => ⟨rfl, rfl, (by decide : 1 + 0 ≤ _), (by decide : 4 + 0 ≤ _)⟩)
        dsimp only [Pt.U, Pt.locs, Pt.cells, Pt.slots] at X74 l74 y74 z74 st74 hQ74
        subst l74 y74 z74
        obtain ⟨rfl, Nq74, eq74⟩ := hQ74
        have N74 := Fr.app N73 Nq74
        have pre75 : ∀ t, Steps p.tables e below (T74.setTop (mkF m 282 #[.val (.long a1), .second, .val (.long a2), .second, .val (.long a3), .second, .val (.long a4), .second, .val (.long a5), .second, .val (.int a6), .val (.int zz), .val (.int hw2), .val (.long dd), .second, .val (.long st0), .second, .val (.long pe), .second, .val (.long cy), .second, .val (.int es), .val (.ref ob), .val (.long (own_of cy a1 a2 st0 pe)), .second, .unset, .unset] [(.int es)])) t → Steps p.tables e below (s₁.setTop (entryFrame m #[(.long a1), (.long a2), (.long a3), (.long a4), (.long a5), (.int a6)] maxLocals)) t := by
          intro t kt
          refine pre64 t ?_
          show Steps p.tables e below (T64.setTop (mkF m 256 #[.val (.long a1), .second, .val (.long a2), .second, .val (.long a3), .second, .val (.long a4), .second, .val (.long a5), .second, .val (.int a6), .val (.int zz), .val (.int hw2), .val (.long dd), .second, .val (.long st0), .second, .val (.long pe), .second, .val (.long cy), .second, .val (.int es), .unset, .unset, .unset, .unset, .unset] [])) _
          refine st71 _ ?_
          show Steps p.tables e below (T71.setTop (mkF m 259 #[.val (.long a1), .second, .val (.long a2), .second, .val (.long a3), .second, .val (.long a4), .second, .val (.long a5), .second, .val (.int a6), .val (.int zz), .val (.int hw2), .val (.long dd), .second, .val (.long st0), .second, .val (.long pe), .second, .val (.long cy), .second, .val (.int es), .unset, .unset, .unset, .unset, .unset] [(.ref ob)])) _
          refine XS.dup X71.here hx rfl (hb hby at_259) rfl rfl ?_
          show Steps p.tables e below (T71.setTop (mkF m 260 #[.val (.long a1), .second, .val (.long a2), .second, .val (.long a3), .second, .val (.long a4), .second, .val (.long a5), .second, .val (.int a6), .val (.int zz), .val (.int hw2), .val (.long dd), .second, .val (.long st0), .second, .val (.long pe), .second, .val (.long cy), .second, .val (.int es), .unset, .unset, .unset, .unset, .unset] [(.ref ob), (.ref ob)])) _
          refine XS.lloadN X71.here hx rfl (hb hby at_260) rfl ?_
          show Steps p.tables e below (T71.setTop (mkF m 261 #[.val (.long a1), .second, .val (.long a2), .second, .val (.long a3), .second, .val (.long a4), .second, .val (.long a5), .second, .val (.int a6), .val (.int zz), .val (.int hw2), .val (.long dd), .second, .val (.long st0), .second, .val (.long pe), .second, .val (.long cy), .second, .val (.int es), .unset, .unset, .unset, .unset, .unset] [(.long a1), (.ref ob), (.ref ob)])) _
          refine XS.lloadN X71.here hx rfl (hb hby at_261) rfl ?_
          show Steps p.tables e below (T71.setTop (mkF m 262 #[.val (.long a1), .second, .val (.long a2), .second, .val (.long a3), .second, .val (.long a4), .second, .val (.long a5), .second, .val (.int a6), .val (.int zz), .val (.int hw2), .val (.long dd), .second, .val (.long st0), .second, .val (.long pe), .second, .val (.long cy), .second, .val (.int es), .unset, .unset, .unset, .unset, .unset] [(.long a2), (.long a1), (.ref ob), (.ref ob)])) _
          refine XS.lload X71.here hx rfl (hb hby at_262) rfl ?_
          show Steps p.tables e below (T71.setTop (mkF m 264 #[.val (.long a1), .second, .val (.long a2), .second, .val (.long a3), .second, .val (.long a4), .second, .val (.long a5), .second, .val (.int a6), .val (.int zz), .val (.int hw2), .val (.long dd), .second, .val (.long st0), .second, .val (.long pe), .second, .val (.long cy), .second, .val (.int es), .unset, .unset, .unset, .unset, .unset] [(.long st0), (.long a2), (.long a1), (.ref ob), (.ref ob)])) _
          refine XS.lload X71.here hx rfl (hb hby at_264) rfl ?_
          show Steps p.tables e below (T71.setTop (mkF m 266 #[.val (.long a1), .second, .val (.long a2), .second, .val (.long a3), .second, .val (.long a4), .second, .val (.long a5), .second, .val (.int a6), .val (.int zz), .val (.int hw2), .val (.long dd), .second, .val (.long st0), .second, .val (.long pe), .second, .val (.long cy), .second, .val (.int es), .unset, .unset, .unset, .unset, .unset] [(.long pe), (.long st0), (.long a2), (.long a1), (.ref ob), (.ref ob)])) _
          refine st73.trans ?_
          show Steps p.tables e below (T73.setTop (mkF m 269 #[.val (.long a1), .second, .val (.long a2), .second, .val (.long a3), .second, .val (.long a4), .second, .val (.long a5), .second, .val (.int a6), .val (.int zz), .val (.int hw2), .val (.long dd), .second, .val (.long st0), .second, .val (.long pe), .second, .val (.long cy), .second, .val (.int es), .unset, .unset, .unset, .unset, .unset] [(.ref ob)])) _
          refine XS.astore X73.here hx rfl (hb hby at_269) rfl rfl (l' := #[.val (.long a1), .second, .val (.long a2), .second, .val (.long a3), .second, .val (.long a4), .second, .val (.long a5), .second, .val (.int a6), .val (.int zz), .val (.int hw2), .val (.long dd), .second, .val (.long st0), .second, .val (.long pe), .second, .val (.long cy), .second, .val (.int es), .val (.ref ob), .unset, .unset, .unset, .unset]) rfl ?_
          show Steps p.tables e below (T73.setTop (mkF m 271 #[.val (.long a1), .second, .val (.long a2), .second, .val (.long a3), .second, .val (.long a4), .second, .val (.long a5), .second, .val (.int a6), .val (.int zz), .val (.int hw2), .val (.long dd), .second, .val (.long st0), .second, .val (.long pe), .second, .val (.long cy), .second, .val (.int es), .val (.ref ob), .unset, .unset, .unset, .unset] [])) _
          refine XS.aload X73.here hx rfl (hb hby at_271) rfl rfl ?_
          show Steps p.tables e below (T73.setTop (mkF m 273 #[.val (.long a1), .second, .val (.long a2), .second, .val (.long a3), .second, .val (.long a4), .second, .val (.long a5), .second, .val (.int a6), .val (.int zz), .val (.int hw2), .val (.long dd), .second, .val (.long st0), .second, .val (.long pe), .second, .val (.long cy), .second, .val (.int es), .val (.ref ob), .unset, .unset, .unset, .unset] [(.ref ob)])) _
          refine XS.lload X73.here hx rfl (hb hby at_273) rfl ?_
          show Steps p.tables e below (T73.setTop (mkF m 275 #[.val (.long a1), .second, .val (.long a2), .second, .val (.long a3), .second, .val (.long a4), .second, .val (.long a5), .second, .val (.int a6), .val (.int zz), .val (.int hw2), .val (.long dd), .second, .val (.long st0), .second, .val (.long pe), .second, .val (.long cy), .second, .val (.int es), .val (.ref ob), .unset, .unset, .unset, .unset] [(.long cy), (.ref ob)])) _
          refine st74.trans ?_
          show Steps p.tables e below (T74.setTop (mkF m 278 #[.val (.long a1), .second, .val (.long a2), .second, .val (.long a3), .second, .val (.long a4), .second, .val (.long a5), .second, .val (.int a6), .val (.int zz), .val (.int hw2), .val (.long dd), .second, .val (.long st0), .second, .val (.long pe), .second, .val (.long cy), .second, .val (.int es), .val (.ref ob), .unset, .unset, .unset, .unset] [(.long (own_of cy a1 a2 st0 pe))])) _
          refine XS.lstore X74.here hx rfl (hb hby at_278) rfl (l' := #[.val (.long a1), .second, .val (.long a2), .second, .val (.long a3), .second, .val (.long a4), .second, .val (.long a5), .second, .val (.int a6), .val (.int zz), .val (.int hw2), .val (.long dd), .second, .val (.long st0), .second, .val (.long pe), .second, .val (.long cy), .second, .val (.int es), .val (.ref ob), .val (.long (own_of cy a1 a2 st0 pe)), .second, .unset, .unset]) rfl ?_
          show Steps p.tables e below (T74.setTop (mkF m 280 #[.val (.long a1), .second, .val (.long a2), .second, .val (.long a3), .second, .val (.long a4), .second, .val (.long a5), .second, .val (.int a6), .val (.int zz), .val (.int hw2), .val (.long dd), .second, .val (.long st0), .second, .val (.long pe), .second, .val (.long cy), .second, .val (.int es), .val (.ref ob), .val (.long (own_of cy a1 a2 st0 pe)), .second, .unset, .unset] [])) _
          refine XS.iload X74.here hx rfl (hb hby at_280) rfl ?_
          exact kt
        obtain ⟨T76, Lc76, wt, X76, e76, N76, hp76, pre76⟩ : ∃ (T76 : State) (Lc76 : List Loc) (wt : Int64), Stand p l e room_1 s m #[(.long a1), (.long a2), (.long a3), (.long a4), (.long a5), (.int a6)] below meth c T76 Lc76 1 4 ∧ T76.heap = T73.heap ∧ Fr n0 Lc76 ∧ (own_of cy a1 a2 st0 pe = wt) ∧ ∀ t, Steps p.tables e below (T76.setTop (mkF m 290 #[.val (.long a1), .second, .val (.long a2), .second, .val (.long a3), .second, .val (.long a4), .second, .val (.long a5), .second, .val (.int a6), .val (.int zz), .val (.int hw2), .val (.long dd), .second, .val (.long st0), .second, .val (.long pe), .second, .val (.long cy), .second, .val (.int es), .val (.ref ob), .val (.long (own_of cy a1 a2 st0 pe)), .second, .unset, .unset] [(.long wt)])) t → Steps p.tables e below (s₁.setTop (entryFrame m #[(.long a1), (.long a2), (.long a3), (.long a4), (.long a5), (.int a6)] maxLocals)) t := by
          by_cases hc282_3 : es = (0 : Int32)
          case pos =>
            have pre77 : ∀ t, Steps p.tables e below (T74.setTop (mkF m 290 #[.val (.long a1), .second, .val (.long a2), .second, .val (.long a3), .second, .val (.long a4), .second, .val (.long a5), .second, .val (.int a6), .val (.int zz), .val (.int hw2), .val (.long dd), .second, .val (.long st0), .second, .val (.long pe), .second, .val (.long cy), .second, .val (.int es), .val (.ref ob), .val (.long (own_of cy a1 a2 st0 pe)), .second, .unset, .unset] [(.long a1)])) t → Steps p.tables e below (s₁.setTop (entryFrame m #[(.long a1), (.long a2), (.long a3), (.long a4), (.long a5), (.int a6)] maxLocals)) t := by
              intro t kt
              refine pre75 t ?_
              show Steps p.tables e below (T74.setTop (mkF m 282 #[.val (.long a1), .second, .val (.long a2), .second, .val (.long a3), .second, .val (.long a4), .second, .val (.long a5), .second, .val (.int a6), .val (.int zz), .val (.int hw2), .val (.long dd), .second, .val (.long st0), .second, .val (.long pe), .second, .val (.long cy), .second, .val (.int es), .val (.ref ob), .val (.long (own_of cy a1 a2 st0 pe)), .second, .unset, .unset] [(.int es)])) _
              refine XS.ifYes X74.here hx rfl (pc0 := 282) (pc' := 289) rfl (hb hby at_282) rfl ((if0 _ _).trans (teq hc282_3).1) (by decide) (by decide) ?_
              show Steps p.tables e below (T74.setTop (mkF m 289 #[.val (.long a1), .second, .val (.long a2), .second, .val (.long a3), .second, .val (.long a4), .second, .val (.long a5), .second, .val (.int a6), .val (.int zz), .val (.int hw2), .val (.long dd), .second, .val (.long st0), .second, .val (.long pe), .second, .val (.long cy), .second, .val (.int es), .val (.ref ob), .val (.long (own_of cy a1 a2 st0 pe)), .second, .unset, .unset] [])) _
              refine XS.lloadN X74.here hx rfl (hb hby at_289) rfl ?_
              exact kt
            exact ⟨T74, _, a1, X74, eq74, N74, (by rw [hes] at hc282_3; exact if_pos hc282_3), pre77⟩
          case neg =>
            have pre78 : ∀ t, Steps p.tables e below (T74.setTop (mkF m 290 #[.val (.long a1), .second, .val (.long a2), .second, .val (.long a3), .second, .val (.long a4), .second, .val (.long a5), .second, .val (.int a6), .val (.int zz), .val (.int hw2), .val (.long dd), .second, .val (.long st0), .second, .val (.long pe), .second, .val (.long cy), .second, .val (.int es), .val (.ref ob), .val (.long (own_of cy a1 a2 st0 pe)), .second, .unset, .unset] [(.long a2)])) t → Steps p.tables e below (s₁.setTop (entryFrame m #[(.long a1), (.long a2), (.long a3), (.long a4), (.long a5), (.int a6)] maxLocals)) t := by
              intro t kt
              refine pre75 t ?_
              show Steps p.tables e below (T74.setTop (mkF m 282 #[.val (.long a1), .second, .val (.long a2), .second, .val (.long a3), .second, .val (.long a4), .second, .val (.long a5), .second, .val (.int a6), .val (.int zz), .val (.int hw2), .val (.long dd), .second, .val (.long st0), .second, .val (.long pe), .second, .val (.long cy), .second, .val (.int es), .val (.ref ob), .val (.long (own_of cy a1 a2 st0 pe)), .second, .unset, .unset] [(.int es)])) _
              refine XS.ifNo X74.here hx rfl (hb hby at_282) rfl ((if0 _ _).trans (feq hc282_3).1) ?_
              show Steps p.tables e below (T74.setTop (mkF m 285 #[.val (.long a1), .second, .val (.long a2), .second, .val (.long a3), .second, .val (.long a4), .second, .val (.long a5), .second, .val (.int a6), .val (.int zz), .val (.int hw2), .val (.long dd), .second, .val (.long st0), .second, .val (.long pe), .second, .val (.long cy), .second, .val (.int es), .val (.ref ob), .val (.long (own_of cy a1 a2 st0 pe)), .second, .unset, .unset] [])) _
              refine XS.lloadN X74.here hx rfl (hb hby at_285) rfl ?_
              show Steps p.tables e below (T74.setTop (mkF m 286 #[.val (.long a1), .second, .val (.long a2), .second, .val (.long a3), .second, .val (.long a4), .second, .val (.long a5), .second, .val (.int a6), .val (.int zz), .val (.int hw2), .val (.long dd), .second, .val (.long st0), .second, .val (.long pe), .second, .val (.long cy), .second, .val (.int es), .val (.ref ob), .val (.long (own_of cy a1 a2 st0 pe)), .second, .unset, .unset] [(.long a2)])) _
              refine XS.goto X74.here hx rfl (pc0 := 286) (pc' := 290) rfl (hb hby at_286) (by decide) (by decide) ?_
              exact kt
            exact ⟨T74, _, a2, X74, eq74, N74, (by rw [hes] at hc282_3; exact if_neg hc282_3), pre78⟩
        have hwt := hp76
        obtain ⟨fs, hr, hrun, hended, hW, hsame⟩ := X76.leave (v := some (.int (1 : Int32))) (fun h => by rw [Bd.returns] at h; cases h) (BodyLoose.notSynchronized Bd)
        refine ⟨_, _, pre76 _ ?_, hrun, hended, _, _, rfl, ?_, ⟨_, rfl⟩, hW, hsame.mono (by decide) (by decide)⟩
        · skip
          show Steps p.tables e below (T76.setTop (mkF m 290 #[.val (.long a1), .second, .val (.long a2), .second, .val (.long a3), .second, .val (.long a4), .second, .val (.long a5), .second, .val (.int a6), .val (.int zz), .val (.int hw2), .val (.long dd), .second, .val (.long st0), .second, .val (.long pe), .second, .val (.long cy), .second, .val (.int es), .val (.ref ob), .val (.long (own_of cy a1 a2 st0 pe)), .second, .unset, .unset] [(.long wt)])) _
          refine XS.lstore X76.here hx rfl (hb hby at_290) rfl (l' := #[.val (.long a1), .second, .val (.long a2), .second, .val (.long a3), .second, .val (.long a4), .second, .val (.long a5), .second, .val (.int a6), .val (.int zz), .val (.int hw2), .val (.long dd), .second, .val (.long st0), .second, .val (.long pe), .second, .val (.long cy), .second, .val (.int es), .val (.ref ob), .val (.long (own_of cy a1 a2 st0 pe)), .second, .val (.long wt), .second]) rfl ?_
          show Steps p.tables e below (T76.setTop (mkF m 292 #[.val (.long a1), .second, .val (.long a2), .second, .val (.long a3), .second, .val (.long a4), .second, .val (.long a5), .second, .val (.int a6), .val (.int zz), .val (.int hw2), .val (.long dd), .second, .val (.long st0), .second, .val (.long pe), .second, .val (.long cy), .second, .val (.int es), .val (.ref ob), .val (.long (own_of cy a1 a2 st0 pe)), .second, .val (.long wt), .second] [])) _
          refine XS.lload X76.here hx rfl (hb hby at_292) rfl ?_
          show Steps p.tables e below (T76.setTop (mkF m 294 #[.val (.long a1), .second, .val (.long a2), .second, .val (.long a3), .second, .val (.long a4), .second, .val (.long a5), .second, .val (.int a6), .val (.int zz), .val (.int hw2), .val (.long dd), .second, .val (.long st0), .second, .val (.long pe), .second, .val (.long cy), .second, .val (.int es), .val (.ref ob), .val (.long (own_of cy a1 a2 st0 pe)), .second, .val (.long wt), .second] [(.long (own_of cy a1 a2 st0 pe))])) _
          refine XS.lload X76.here hx rfl (hb hby at_294) rfl ?_
          show Steps p.tables e below (T76.setTop (mkF m 296 #[.val (.long a1), .second, .val (.long a2), .second, .val (.long a3), .second, .val (.long a4), .second, .val (.long a5), .second, .val (.int a6), .val (.int zz), .val (.int hw2), .val (.long dd), .second, .val (.long st0), .second, .val (.long pe), .second, .val (.long cy), .second, .val (.int es), .val (.ref ob), .val (.long (own_of cy a1 a2 st0 pe)), .second, .val (.long wt), .second] [(.long wt), (.long (own_of cy a1 a2 st0 pe))])) _
          refine XS.lcmp X76.here hx rfl (hb hby at_296) rfl ?_
          show Steps p.tables e below (T76.setTop (mkF m 297 #[.val (.long a1), .second, .val (.long a2), .second, .val (.long a3), .second, .val (.long a4), .second, .val (.long a5), .second, .val (.int a6), .val (.int zz), .val (.int hw2), .val (.long dd), .second, .val (.long st0), .second, .val (.long pe), .second, .val (.long cy), .second, .val (.int es), .val (.ref ob), .val (.long (own_of cy a1 a2 st0 pe)), .second, .val (.long wt), .second] [(.int (lcmpW (own_of cy a1 a2 st0 pe) wt))])) _
          refine XS.ifNo X76.here hx rfl (hb hby at_297) rfl ((if0 _ _).trans (teq ((lw_eq (own_of cy a1 a2 st0 pe) wt).mpr hwt)).2) ?_
          show Steps p.tables e below (T76.setTop (mkF m 300 #[.val (.long a1), .second, .val (.long a2), .second, .val (.long a3), .second, .val (.long a4), .second, .val (.long a5), .second, .val (.int a6), .val (.int zz), .val (.int hw2), .val (.long dd), .second, .val (.long st0), .second, .val (.long pe), .second, .val (.long cy), .second, .val (.int es), .val (.ref ob), .val (.long (own_of cy a1 a2 st0 pe)), .second, .val (.long wt), .second] [])) _
          refine XS.iconst X76.here hx rfl (hb hby at_300) ?_
          show Steps p.tables e below (T76.setTop (mkF m 301 #[.val (.long a1), .second, .val (.long a2), .second, .val (.long a3), .second, .val (.long a4), .second, .val (.long a5), .second, .val (.int a6), .val (.int zz), .val (.int hw2), .val (.long dd), .second, .val (.long st0), .second, .val (.long pe), .second, .val (.long cy), .second, .val (.int es), .val (.ref ob), .val (.long (own_of cy a1 a2 st0 pe)), .second, .val (.long wt), .second] [(.int (1 : Int32))])) _
          refine XS.goto X76.here hx rfl (pc0 := 301) (pc' := 305) rfl (hb hby at_301) (by decide) (by decide) ?_
          show Steps p.tables e below (T76.setTop (mkF m 305 #[.val (.long a1), .second, .val (.long a2), .second, .val (.long a3), .second, .val (.long a4), .second, .val (.long a5), .second, .val (.int a6), .val (.int zz), .val (.int hw2), .val (.long dd), .second, .val (.long st0), .second, .val (.long pe), .second, .val (.long cy), .second, .val (.int es), .val (.ref ob), .val (.long (own_of cy a1 a2 st0 pe)), .second, .val (.long wt), .second] [(.int (1 : Int32))])) _
          exact retN X76 hx (t := .boolean) Bd.returns (by simp) (hb hby at_305) hr
        · show own_Q0 Z a1 a2 a3 a4 a5 a6 h0 n0 _ T76.heap _
          rw [e76]
          exact ⟨rfl, N76⟩
      case neg =>
        have pre79 : ∀ t, Steps p.tables e below (T2.setTop (mkF m 173 #[.val (.long a1), .second, .val (.long a2), .second, .val (.long a3), .second, .val (.long a4), .second, .val (.long a5), .second, .val (.int a6), .val (.int zz), .val (.int hw2), .val (.long dd), .second, .unset, .unset, .unset, .unset, .val (.long (a5 &&& (4611686018427387903 : Int64))), .second, .unset, .unset, .unset, .unset, .unset, .unset] [])) t → Steps p.tables e below (s₁.setTop (entryFrame m #[(.long a1), (.long a2), (.long a3), (.long a4), (.long a5), (.int a6)] maxLocals)) t := by
          intro t kt
          refine pre54 t ?_
          show Steps p.tables e below (T2.setTop (mkF m 113 #[.val (.long a1), .second, .val (.long a2), .second, .val (.long a3), .second, .val (.long a4), .second, .val (.long a5), .second, .val (.int a6), .val (.int zz), .val (.int hw2), .val (.long dd), .second, .unset, .unset, .unset, .unset, .unset, .unset, .unset, .unset, .unset, .unset, .unset, .unset] [(.int (2 : Int32)), (.int hw2)])) _
          refine XS.icmpYes X2.here hx rfl (pc0 := 113) (pc' := 165) rfl (hb hby at_113) rfl (feq hc113).2 (by decide) (by decide) ?_
          show Steps p.tables e below (T2.setTop (mkF m 165 #[.val (.long a1), .second, .val (.long a2), .second, .val (.long a3), .second, .val (.long a4), .second, .val (.long a5), .second, .val (.int a6), .val (.int zz), .val (.int hw2), .val (.long dd), .second, .unset, .unset, .unset, .unset, .unset, .unset, .unset, .unset, .unset, .unset, .unset, .unset] [])) _
          refine XS.lload X2.here hx rfl (hb hby at_165) rfl ?_
          show Steps p.tables e below (T2.setTop (mkF m 167 #[.val (.long a1), .second, .val (.long a2), .second, .val (.long a3), .second, .val (.long a4), .second, .val (.long a5), .second, .val (.int a6), .val (.int zz), .val (.int hw2), .val (.long dd), .second, .unset, .unset, .unset, .unset, .unset, .unset, .unset, .unset, .unset, .unset, .unset, .unset] [(.long a5)])) _
          refine X2.ldc2Long hx hown (mvT hZ (hw _ (List.mem_of_getElem? (i := 28) rfl))) (g := (mkF m 167 #[.val (.long a1), .second, .val (.long a2), .second, .val (.long a3), .second, .val (.long a4), .second, .val (.long a5), .second, .val (.int a6), .val (.int zz), .val (.int hw2), .val (.long dd), .second, .unset, .unset, .unset, .unset, .unset, .unset, .unset, .unset, .unset, .unset, .unset, .unset] [(.long a5)])) rfl (hb hby at_167) _ ?_
          show Steps p.tables e below (T2.setTop (mkF m 170 #[.val (.long a1), .second, .val (.long a2), .second, .val (.long a3), .second, .val (.long a4), .second, .val (.long a5), .second, .val (.int a6), .val (.int zz), .val (.int hw2), .val (.long dd), .second, .unset, .unset, .unset, .unset, .unset, .unset, .unset, .unset, .unset, .unset, .unset, .unset] [(.long (4611686018427387903 : Int64)), (.long a5)])) _
          refine XS.land X2.here hx rfl (hb hby at_170) rfl ?_
          show Steps p.tables e below (T2.setTop (mkF m 171 #[.val (.long a1), .second, .val (.long a2), .second, .val (.long a3), .second, .val (.long a4), .second, .val (.long a5), .second, .val (.int a6), .val (.int zz), .val (.int hw2), .val (.long dd), .second, .unset, .unset, .unset, .unset, .unset, .unset, .unset, .unset, .unset, .unset, .unset, .unset] [(.long (a5 &&& (4611686018427387903 : Int64)))])) _
          refine XS.lstore X2.here hx rfl (hb hby at_171) rfl (l' := #[.val (.long a1), .second, .val (.long a2), .second, .val (.long a3), .second, .val (.long a4), .second, .val (.long a5), .second, .val (.int a6), .val (.int zz), .val (.int hw2), .val (.long dd), .second, .unset, .unset, .unset, .unset, .val (.long (a5 &&& (4611686018427387903 : Int64))), .second, .unset, .unset, .unset, .unset, .unset, .unset]) rfl ?_
          exact kt
        obtain ⟨cy0, hd_cy0⟩ : ∃ z : Int64, z = (a5 &&& (4611686018427387903 : Int64)) := ⟨_, rfl⟩
        have pre80 : ∀ t, Steps p.tables e below (T2.setTop (mkF m 173 #[.val (.long a1), .second, .val (.long a2), .second, .val (.long a3), .second, .val (.long a4), .second, .val (.long a5), .second, .val (.int a6), .val (.int zz), .val (.int hw2), .val (.long dd), .second, .unset, .unset, .unset, .unset, .val (.long cy0), .second, .unset, .unset, .unset, .unset, .unset, .unset] [])) t → Steps p.tables e below (s₁.setTop (entryFrame m #[(.long a1), (.long a2), (.long a3), (.long a4), (.long a5), (.int a6)] maxLocals)) t := by rw [hd_cy0]; exact pre79
        have pre81 : ∀ t, Steps p.tables e below (T2.setTop (mkF m 175 #[.val (.long a1), .second, .val (.long a2), .second, .val (.long a3), .second, .val (.long a4), .second, .val (.long a5), .second, .val (.int a6), .val (.int zz), .val (.int hw2), .val (.long dd), .second, .unset, .unset, .unset, .unset, .val (.long cy0), .second, .unset, .unset, .unset, .unset, .unset, .unset] [(.int zz)])) t → Steps p.tables e below (s₁.setTop (entryFrame m #[(.long a1), (.long a2), (.long a3), (.long a4), (.long a5), (.int a6)] maxLocals)) t := by
          intro t kt
          refine pre80 t ?_
          show Steps p.tables e below (T2.setTop (mkF m 173 #[.val (.long a1), .second, .val (.long a2), .second, .val (.long a3), .second, .val (.long a4), .second, .val (.long a5), .second, .val (.int a6), .val (.int zz), .val (.int hw2), .val (.long dd), .second, .unset, .unset, .unset, .unset, .val (.long cy0), .second, .unset, .unset, .unset, .unset, .unset, .unset] [])) _
          refine XS.iload X2.here hx rfl (hb hby at_173) rfl ?_
          exact kt
        obtain ⟨T82, Lc82, pe, X82, e82, N82, hp82, pre82⟩ : ∃ (T82 : State) (Lc82 : List Loc) (pe : Int64), Stand p l e room_1 s m #[(.long a1), (.long a2), (.long a3), (.long a4), (.long a5), (.int a6)] below meth c T82 Lc82 0 0 ∧ T82.heap = h0 ∧ Fr n0 Lc82 ∧ (0 ≤ pe.toInt ∧ pe.toInt < 4294967296) ∧ ∀ t, Steps p.tables e below (T82.setTop (mkF m 188 #[.val (.long a1), .second, .val (.long a2), .second, .val (.long a3), .second, .val (.long a4), .second, .val (.long a5), .second, .val (.int a6), .val (.int zz), .val (.int hw2), .val (.long dd), .second, .unset, .unset, .unset, .unset, .val (.long cy0), .second, .unset, .unset, .unset, .unset, .unset, .unset] [(.long pe)])) t → Steps p.tables e below (s₁.setTop (entryFrame m #[(.long a1), (.long a2), (.long a3), (.long a4), (.long a5), (.int a6)] maxLocals)) t := by
          by_cases hc175 : zz = (0 : Int32)
          case pos =>
            have pre83 : ∀ t, Steps p.tables e below (T2.setTop (mkF m 188 #[.val (.long a1), .second, .val (.long a2), .second, .val (.long a3), .second, .val (.long a4), .second, .val (.long a5), .second, .val (.int a6), .val (.int zz), .val (.int hw2), .val (.long dd), .second, .unset, .unset, .unset, .unset, .val (.long cy0), .second, .unset, .unset, .unset, .unset, .unset, .unset] [(.long (a4 &&& (4294967295 : Int64)))])) t → Steps p.tables e below (s₁.setTop (entryFrame m #[(.long a1), (.long a2), (.long a3), (.long a4), (.long a5), (.int a6)] maxLocals)) t := by
              intro t kt
              refine pre81 t ?_
              show Steps p.tables e below (T2.setTop (mkF m 175 #[.val (.long a1), .second, .val (.long a2), .second, .val (.long a3), .second, .val (.long a4), .second, .val (.long a5), .second, .val (.int a6), .val (.int zz), .val (.int hw2), .val (.long dd), .second, .unset, .unset, .unset, .unset, .val (.long cy0), .second, .unset, .unset, .unset, .unset, .unset, .unset] [(.int zz)])) _
              refine XS.ifYes X2.here hx rfl (pc0 := 175) (pc' := 182) rfl (hb hby at_175) rfl ((if0 _ _).trans (teq hc175).1) (by decide) (by decide) ?_
              show Steps p.tables e below (T2.setTop (mkF m 182 #[.val (.long a1), .second, .val (.long a2), .second, .val (.long a3), .second, .val (.long a4), .second, .val (.long a5), .second, .val (.int a6), .val (.int zz), .val (.int hw2), .val (.long dd), .second, .unset, .unset, .unset, .unset, .val (.long cy0), .second, .unset, .unset, .unset, .unset, .unset, .unset] [])) _
              refine XS.lload X2.here hx rfl (hb hby at_182) rfl ?_
              show Steps p.tables e below (T2.setTop (mkF m 184 #[.val (.long a1), .second, .val (.long a2), .second, .val (.long a3), .second, .val (.long a4), .second, .val (.long a5), .second, .val (.int a6), .val (.int zz), .val (.int hw2), .val (.long dd), .second, .unset, .unset, .unset, .unset, .val (.long cy0), .second, .unset, .unset, .unset, .unset, .unset, .unset] [(.long a4)])) _
              refine X2.ldc2Long hx hown (mvT hZ (hw _ (List.mem_of_getElem? (i := 29) rfl))) (g := (mkF m 184 #[.val (.long a1), .second, .val (.long a2), .second, .val (.long a3), .second, .val (.long a4), .second, .val (.long a5), .second, .val (.int a6), .val (.int zz), .val (.int hw2), .val (.long dd), .second, .unset, .unset, .unset, .unset, .val (.long cy0), .second, .unset, .unset, .unset, .unset, .unset, .unset] [(.long a4)])) rfl (hb hby at_184) _ ?_
              show Steps p.tables e below (T2.setTop (mkF m 187 #[.val (.long a1), .second, .val (.long a2), .second, .val (.long a3), .second, .val (.long a4), .second, .val (.long a5), .second, .val (.int a6), .val (.int zz), .val (.int hw2), .val (.long dd), .second, .unset, .unset, .unset, .unset, .val (.long cy0), .second, .unset, .unset, .unset, .unset, .unset, .unset] [(.long (4294967295 : Int64)), (.long a4)])) _
              refine XS.land X2.here hx rfl (hb hby at_187) rfl ?_
              exact kt
            exact ⟨T2, _, (a4 &&& (4294967295 : Int64)), X2, e2, N2, (own_m32 a4), pre83⟩
          case neg =>
            have pre84 : ∀ t, Steps p.tables e below (T2.setTop (mkF m 188 #[.val (.long a1), .second, .val (.long a2), .second, .val (.long a3), .second, .val (.long a4), .second, .val (.long a5), .second, .val (.int a6), .val (.int zz), .val (.int hw2), .val (.long dd), .second, .unset, .unset, .unset, .unset, .val (.long cy0), .second, .unset, .unset, .unset, .unset, .unset, .unset] [(.long (0 : Int64))])) t → Steps p.tables e below (s₁.setTop (entryFrame m #[(.long a1), (.long a2), (.long a3), (.long a4), (.long a5), (.int a6)] maxLocals)) t := by
              intro t kt
              refine pre81 t ?_
              show Steps p.tables e below (T2.setTop (mkF m 175 #[.val (.long a1), .second, .val (.long a2), .second, .val (.long a3), .second, .val (.long a4), .second, .val (.long a5), .second, .val (.int a6), .val (.int zz), .val (.int hw2), .val (.long dd), .second, .unset, .unset, .unset, .unset, .val (.long cy0), .second, .unset, .unset, .unset, .unset, .unset, .unset] [(.int zz)])) _
              refine XS.ifNo X2.here hx rfl (hb hby at_175) rfl ((if0 _ _).trans (feq hc175).1) ?_
              show Steps p.tables e below (T2.setTop (mkF m 178 #[.val (.long a1), .second, .val (.long a2), .second, .val (.long a3), .second, .val (.long a4), .second, .val (.long a5), .second, .val (.int a6), .val (.int zz), .val (.int hw2), .val (.long dd), .second, .unset, .unset, .unset, .unset, .val (.long cy0), .second, .unset, .unset, .unset, .unset, .unset, .unset] [])) _
              refine XS.lconst X2.here hx rfl (hb hby at_178) ?_
              show Steps p.tables e below (T2.setTop (mkF m 179 #[.val (.long a1), .second, .val (.long a2), .second, .val (.long a3), .second, .val (.long a4), .second, .val (.long a5), .second, .val (.int a6), .val (.int zz), .val (.int hw2), .val (.long dd), .second, .unset, .unset, .unset, .unset, .val (.long cy0), .second, .unset, .unset, .unset, .unset, .unset, .unset] [(.long (0 : Int64))])) _
              refine XS.goto X2.here hx rfl (pc0 := 179) (pc' := 188) rfl (hb hby at_179) (by decide) (by decide) ?_
              exact kt
            exact ⟨T2, _, (0 : Int64), X2, e2, N2, (by decide), pre84⟩
        have hpe := hp82
        have pre85 : ∀ t, Steps p.tables e below (T82.setTop (mkF m 211 #[.val (.long a1), .second, .val (.long a2), .second, .val (.long a3), .second, .val (.long a4), .second, .val (.long a5), .second, .val (.int a6), .val (.int zz), .val (.int hw2), .val (.long dd), .second, .val (.long ((cy0 + ((a3 &&& (1073741823 : Int64)) * pe)) + dd)), .second, .val (.long pe), .second, .val (.long cy0), .second, .val (.long (a3 &&& (1073741823 : Int64))), .second, .unset, .unset, .unset, .unset] [])) t → Steps p.tables e below (s₁.setTop (entryFrame m #[(.long a1), (.long a2), (.long a3), (.long a4), (.long a5), (.int a6)] maxLocals)) t := by
          intro t kt
          refine pre82 t ?_
          show Steps p.tables e below (T82.setTop (mkF m 188 #[.val (.long a1), .second, .val (.long a2), .second, .val (.long a3), .second, .val (.long a4), .second, .val (.long a5), .second, .val (.int a6), .val (.int zz), .val (.int hw2), .val (.long dd), .second, .unset, .unset, .unset, .unset, .val (.long cy0), .second, .unset, .unset, .unset, .unset, .unset, .unset] [(.long pe)])) _
          refine XS.lstore X82.here hx rfl (hb hby at_188) rfl (l' := #[.val (.long a1), .second, .val (.long a2), .second, .val (.long a3), .second, .val (.long a4), .second, .val (.long a5), .second, .val (.int a6), .val (.int zz), .val (.int hw2), .val (.long dd), .second, .unset, .unset, .val (.long pe), .second, .val (.long cy0), .second, .unset, .unset, .unset, .unset, .unset, .unset]) rfl ?_
          show Steps p.tables e below (T82.setTop (mkF m 190 #[.val (.long a1), .second, .val (.long a2), .second, .val (.long a3), .second, .val (.long a4), .second, .val (.long a5), .second, .val (.int a6), .val (.int zz), .val (.int hw2), .val (.long dd), .second, .unset, .unset, .val (.long pe), .second, .val (.long cy0), .second, .unset, .unset, .unset, .unset, .unset, .unset] [])) _
          refine XS.lload X82.here hx rfl (hb hby at_190) rfl ?_
          show Steps p.tables e below (T82.setTop (mkF m 192 #[.val (.long a1), .second, .val (.long a2), .second, .val (.long a3), .second, .val (.long a4), .second, .val (.long a5), .second, .val (.int a6), .val (.int zz), .val (.int hw2), .val (.long dd), .second, .unset, .unset, .val (.long pe), .second, .val (.long cy0), .second, .unset, .unset, .unset, .unset, .unset, .unset] [(.long a3)])) _
          refine X82.ldc2Long hx hown (mvT hZ (hw _ (List.mem_of_getElem? (i := 30) rfl))) (g := (mkF m 192 #[.val (.long a1), .second, .val (.long a2), .second, .val (.long a3), .second, .val (.long a4), .second, .val (.long a5), .second, .val (.int a6), .val (.int zz), .val (.int hw2), .val (.long dd), .second, .unset, .unset, .val (.long pe), .second, .val (.long cy0), .second, .unset, .unset, .unset, .unset, .unset, .unset] [(.long a3)])) rfl (hb hby at_192) _ ?_
          show Steps p.tables e below (T82.setTop (mkF m 195 #[.val (.long a1), .second, .val (.long a2), .second, .val (.long a3), .second, .val (.long a4), .second, .val (.long a5), .second, .val (.int a6), .val (.int zz), .val (.int hw2), .val (.long dd), .second, .unset, .unset, .val (.long pe), .second, .val (.long cy0), .second, .unset, .unset, .unset, .unset, .unset, .unset] [(.long (1073741823 : Int64)), (.long a3)])) _
          refine XS.land X82.here hx rfl (hb hby at_195) rfl ?_
          show Steps p.tables e below (T82.setTop (mkF m 196 #[.val (.long a1), .second, .val (.long a2), .second, .val (.long a3), .second, .val (.long a4), .second, .val (.long a5), .second, .val (.int a6), .val (.int zz), .val (.int hw2), .val (.long dd), .second, .unset, .unset, .val (.long pe), .second, .val (.long cy0), .second, .unset, .unset, .unset, .unset, .unset, .unset] [(.long (a3 &&& (1073741823 : Int64)))])) _
          refine XS.lstore X82.here hx rfl (hb hby at_196) rfl (l' := #[.val (.long a1), .second, .val (.long a2), .second, .val (.long a3), .second, .val (.long a4), .second, .val (.long a5), .second, .val (.int a6), .val (.int zz), .val (.int hw2), .val (.long dd), .second, .unset, .unset, .val (.long pe), .second, .val (.long cy0), .second, .val (.long (a3 &&& (1073741823 : Int64))), .second, .unset, .unset, .unset, .unset]) rfl ?_
          show Steps p.tables e below (T82.setTop (mkF m 198 #[.val (.long a1), .second, .val (.long a2), .second, .val (.long a3), .second, .val (.long a4), .second, .val (.long a5), .second, .val (.int a6), .val (.int zz), .val (.int hw2), .val (.long dd), .second, .unset, .unset, .val (.long pe), .second, .val (.long cy0), .second, .val (.long (a3 &&& (1073741823 : Int64))), .second, .unset, .unset, .unset, .unset] [])) _
          refine XS.lload X82.here hx rfl (hb hby at_198) rfl ?_
          show Steps p.tables e below (T82.setTop (mkF m 200 #[.val (.long a1), .second, .val (.long a2), .second, .val (.long a3), .second, .val (.long a4), .second, .val (.long a5), .second, .val (.int a6), .val (.int zz), .val (.int hw2), .val (.long dd), .second, .unset, .unset, .val (.long pe), .second, .val (.long cy0), .second, .val (.long (a3 &&& (1073741823 : Int64))), .second, .unset, .unset, .unset, .unset] [(.long cy0)])) _
          refine XS.lload X82.here hx rfl (hb hby at_200) rfl ?_
          show Steps p.tables e below (T82.setTop (mkF m 202 #[.val (.long a1), .second, .val (.long a2), .second, .val (.long a3), .second, .val (.long a4), .second, .val (.long a5), .second, .val (.int a6), .val (.int zz), .val (.int hw2), .val (.long dd), .second, .unset, .unset, .val (.long pe), .second, .val (.long cy0), .second, .val (.long (a3 &&& (1073741823 : Int64))), .second, .unset, .unset, .unset, .unset] [(.long (a3 &&& (1073741823 : Int64))), (.long cy0)])) _
          refine XS.lload X82.here hx rfl (hb hby at_202) rfl ?_
          show Steps p.tables e below (T82.setTop (mkF m 204 #[.val (.long a1), .second, .val (.long a2), .second, .val (.long a3), .second, .val (.long a4), .second, .val (.long a5), .second, .val (.int a6), .val (.int zz), .val (.int hw2), .val (.long dd), .second, .unset, .unset, .val (.long pe), .second, .val (.long cy0), .second, .val (.long (a3 &&& (1073741823 : Int64))), .second, .unset, .unset, .unset, .unset] [(.long pe), (.long (a3 &&& (1073741823 : Int64))), (.long cy0)])) _
          refine XS.lmul X82.here hx rfl (hb hby at_204) rfl ?_
          show Steps p.tables e below (T82.setTop (mkF m 205 #[.val (.long a1), .second, .val (.long a2), .second, .val (.long a3), .second, .val (.long a4), .second, .val (.long a5), .second, .val (.int a6), .val (.int zz), .val (.int hw2), .val (.long dd), .second, .unset, .unset, .val (.long pe), .second, .val (.long cy0), .second, .val (.long (a3 &&& (1073741823 : Int64))), .second, .unset, .unset, .unset, .unset] [(.long ((a3 &&& (1073741823 : Int64)) * pe)), (.long cy0)])) _
          refine XS.ladd X82.here hx rfl (hb hby at_205) rfl ?_
          show Steps p.tables e below (T82.setTop (mkF m 206 #[.val (.long a1), .second, .val (.long a2), .second, .val (.long a3), .second, .val (.long a4), .second, .val (.long a5), .second, .val (.int a6), .val (.int zz), .val (.int hw2), .val (.long dd), .second, .unset, .unset, .val (.long pe), .second, .val (.long cy0), .second, .val (.long (a3 &&& (1073741823 : Int64))), .second, .unset, .unset, .unset, .unset] [(.long (cy0 + ((a3 &&& (1073741823 : Int64)) * pe)))])) _
          refine XS.lload X82.here hx rfl (hb hby at_206) rfl ?_
          show Steps p.tables e below (T82.setTop (mkF m 208 #[.val (.long a1), .second, .val (.long a2), .second, .val (.long a3), .second, .val (.long a4), .second, .val (.long a5), .second, .val (.int a6), .val (.int zz), .val (.int hw2), .val (.long dd), .second, .unset, .unset, .val (.long pe), .second, .val (.long cy0), .second, .val (.long (a3 &&& (1073741823 : Int64))), .second, .unset, .unset, .unset, .unset] [(.long dd), (.long (cy0 + ((a3 &&& (1073741823 : Int64)) * pe)))])) _
          refine XS.ladd X82.here hx rfl (hb hby at_208) rfl ?_
          show Steps p.tables e below (T82.setTop (mkF m 209 #[.val (.long a1), .second, .val (.long a2), .second, .val (.long a3), .second, .val (.long a4), .second, .val (.long a5), .second, .val (.int a6), .val (.int zz), .val (.int hw2), .val (.long dd), .second, .unset, .unset, .val (.long pe), .second, .val (.long cy0), .second, .val (.long (a3 &&& (1073741823 : Int64))), .second, .unset, .unset, .unset, .unset] [(.long ((cy0 + ((a3 &&& (1073741823 : Int64)) * pe)) + dd))])) _
          refine XS.lstore X82.here hx rfl (hb hby at_209) rfl (l' := #[.val (.long a1), .second, .val (.long a2), .second, .val (.long a3), .second, .val (.long a4), .second, .val (.long a5), .second, .val (.int a6), .val (.int zz), .val (.int hw2), .val (.long dd), .second, .val (.long ((cy0 + ((a3 &&& (1073741823 : Int64)) * pe)) + dd)), .second, .val (.long pe), .second, .val (.long cy0), .second, .val (.long (a3 &&& (1073741823 : Int64))), .second, .unset, .unset, .unset, .unset]) rfl ?_
          exact kt
        obtain ⟨st, hd_st⟩ : ∃ z : Int64, z = ((cy0 + ((a3 &&& (1073741823 : Int64)) * pe)) + dd) := ⟨_, rfl⟩
        have pre86 : ∀ t, Steps p.tables e below (T82.setTop (mkF m 211 #[.val (.long a1), .second, .val (.long a2), .second, .val (.long a3), .second, .val (.long a4), .second, .val (.long a5), .second, .val (.int a6), .val (.int zz), .val (.int hw2), .val (.long dd), .second, .val (.long st), .second, .val (.long pe), .second, .val (.long cy0), .second, .val (.long (a3 &&& (1073741823 : Int64))), .second, .unset, .unset, .unset, .unset] [])) t → Steps p.tables e below (s₁.setTop (entryFrame m #[(.long a1), (.long a2), (.long a3), (.long a4), (.long a5), (.int a6)] maxLocals)) t := by rw [hd_st]; exact pre85
        have hst : 0 ≤ st.toInt := by rw [hd_st]; exact own_sum (by rw [hd_cy0]; exact own_m62 a5) (own_m30 a3) hpe (by rw [hd_dd]; exact own_d _)
        have hcy : 0 ≤ cy0.toInt := by rw [hd_cy0]; exact (own_m62 a5).1
        have pre87 : ∀ t, Steps p.tables e below (T82.setTop (mkF m 215 #[.val (.long a1), .second, .val (.long a2), .second, .val (.long a3), .second, .val (.long a4), .second, .val (.long a5), .second, .val (.int a6), .val (.int zz), .val (.int hw2), .val (.long dd), .second, .val (.long st), .second, .val (.long pe), .second, .val (.long cy0), .second, .val (.long (a3 &&& (1073741823 : Int64))), .second, .unset, .unset, .unset, .unset] [(.int (lcmpW pe (0 : Int64)))])) t → Steps p.tables e below (s₁.setTop (entryFrame m #[(.long a1), (.long a2), (.long a3), (.long a4), (.long a5), (.int a6)] maxLocals)) t := by
          intro t kt
          refine pre86 t ?_
          show Steps p.tables e below (T82.setTop (mkF m 211 #[.val (.long a1), .second, .val (.long a2), .second, .val (.long a3), .second, .val (.long a4), .second, .val (.long a5), .second, .val (.int a6), .val (.int zz), .val (.int hw2), .val (.long dd), .second, .val (.long st), .second, .val (.long pe), .second, .val (.long cy0), .second, .val (.long (a3 &&& (1073741823 : Int64))), .second, .unset, .unset, .unset, .unset] [])) _
          refine XS.lload X82.here hx rfl (hb hby at_211) rfl ?_
          show Steps p.tables e below (T82.setTop (mkF m 213 #[.val (.long a1), .second, .val (.long a2), .second, .val (.long a3), .second, .val (.long a4), .second, .val (.long a5), .second, .val (.int a6), .val (.int zz), .val (.int hw2), .val (.long dd), .second, .val (.long st), .second, .val (.long pe), .second, .val (.long cy0), .second, .val (.long (a3 &&& (1073741823 : Int64))), .second, .unset, .unset, .unset, .unset] [(.long pe)])) _
          refine XS.lconst X82.here hx rfl (hb hby at_213) ?_
          show Steps p.tables e below (T82.setTop (mkF m 214 #[.val (.long a1), .second, .val (.long a2), .second, .val (.long a3), .second, .val (.long a4), .second, .val (.long a5), .second, .val (.int a6), .val (.int zz), .val (.int hw2), .val (.long dd), .second, .val (.long st), .second, .val (.long pe), .second, .val (.long cy0), .second, .val (.long (a3 &&& (1073741823 : Int64))), .second, .unset, .unset, .unset, .unset] [(.long (0 : Int64)), (.long pe)])) _
          refine XS.lcmp X82.here hx rfl (hb hby at_214) rfl ?_
          exact kt
        obtain ⟨T88, Lc88, es, X88, e88, N88, hp88, pre88⟩ : ∃ (T88 : State) (Lc88 : List Loc) (es : Int32), Stand p l e room_1 s m #[(.long a1), (.long a2), (.long a3), (.long a4), (.long a5), (.int a6)] below meth c T88 Lc88 0 0 ∧ T88.heap = h0 ∧ Fr n0 Lc88 ∧ (es = own_is cy0 st pe) ∧ ∀ t, Steps p.tables e below (T88.setTop (mkF m 256 #[.val (.long a1), .second, .val (.long a2), .second, .val (.long a3), .second, .val (.long a4), .second, .val (.long a5), .second, .val (.int a6), .val (.int zz), .val (.int hw2), .val (.long dd), .second, .val (.long st), .second, .val (.long pe), .second, .val (.long cy0), .second, .val (.int es), .unset, .unset, .unset, .unset, .unset] [])) t → Steps p.tables e below (s₁.setTop (entryFrame m #[(.long a1), (.long a2), (.long a3), (.long a4), (.long a5), (.int a6)] maxLocals)) t := by
          by_cases hc215_4 : pe = (0 : Int64)
          case pos =>
            have pre89 : ∀ t, Steps p.tables e below (T82.setTop (mkF m 223 #[.val (.long a1), .second, .val (.long a2), .second, .val (.long a3), .second, .val (.long a4), .second, .val (.long a5), .second, .val (.int a6), .val (.int zz), .val (.int hw2), .val (.long dd), .second, .val (.long st), .second, .val (.long pe), .second, .val (.long cy0), .second, .val (.long (a3 &&& (1073741823 : Int64))), .second, .unset, .unset, .unset, .unset] [(.int (lcmpW cy0 st))])) t → Steps p.tables e below (s₁.setTop (entryFrame m #[(.long a1), (.long a2), (.long a3), (.long a4), (.long a5), (.int a6)] maxLocals)) t := by
              intro t kt
              refine pre87 t ?_
              show Steps p.tables e below (T82.setTop (mkF m 215 #[.val (.long a1), .second, .val (.long a2), .second, .val (.long a3), .second, .val (.long a4), .second, .val (.long a5), .second, .val (.int a6), .val (.int zz), .val (.int hw2), .val (.long dd), .second, .val (.long st), .second, .val (.long pe), .second, .val (.long cy0), .second, .val (.long (a3 &&& (1073741823 : Int64))), .second, .unset, .unset, .unset, .unset] [(.int (lcmpW pe (0 : Int64)))])) _
              refine XS.ifNo X82.here hx rfl (hb hby at_215) rfl ((if0 _ _).trans (teq ((lw_eq pe (0 : Int64)).mpr hc215_4)).2) ?_
              show Steps p.tables e below (T82.setTop (mkF m 218 #[.val (.long a1), .second, .val (.long a2), .second, .val (.long a3), .second, .val (.long a4), .second, .val (.long a5), .second, .val (.int a6), .val (.int zz), .val (.int hw2), .val (.long dd), .second, .val (.long st), .second, .val (.long pe), .second, .val (.long cy0), .second, .val (.long (a3 &&& (1073741823 : Int64))), .second, .unset, .unset, .unset, .unset] [])) _
              refine XS.lload X82.here hx rfl (hb hby at_218) rfl ?_
              show Steps p.tables e below (T82.setTop (mkF m 220 #[.val (.long a1), .second, .val (.long a2), .second, .val (.long a3), .second, .val (.long a4), .second, .val (.long a5), .second, .val (.int a6), .val (.int zz), .val (.int hw2), .val (.long dd), .second, .val (.long st), .second, .val (.long pe), .second, .val (.long cy0), .second, .val (.long (a3 &&& (1073741823 : Int64))), .second, .unset, .unset, .unset, .unset] [(.long cy0)])) _
              refine XS.lload X82.here hx rfl (hb hby at_220) rfl ?_
              show Steps p.tables e below (T82.setTop (mkF m 222 #[.val (.long a1), .second, .val (.long a2), .second, .val (.long a3), .second, .val (.long a4), .second, .val (.long a5), .second, .val (.int a6), .val (.int zz), .val (.int hw2), .val (.long dd), .second, .val (.long st), .second, .val (.long pe), .second, .val (.long cy0), .second, .val (.long (a3 &&& (1073741823 : Int64))), .second, .unset, .unset, .unset, .unset] [(.long st), (.long cy0)])) _
              refine XS.lcmp X82.here hx rfl (hb hby at_222) rfl ?_
              exact kt
            by_cases hc223_3 : cy0 = st
            case pos =>
              have pre90 : ∀ t, Steps p.tables e below (T82.setTop (mkF m 256 #[.val (.long a1), .second, .val (.long a2), .second, .val (.long a3), .second, .val (.long a4), .second, .val (.long a5), .second, .val (.int a6), .val (.int zz), .val (.int hw2), .val (.long dd), .second, .val (.long st), .second, .val (.long pe), .second, .val (.long cy0), .second, .val (.int (1 : Int32)), .unset, .unset, .unset, .unset, .unset] [])) t → Steps p.tables e below (s₁.setTop (entryFrame m #[(.long a1), (.long a2), (.long a3), (.long a4), (.long a5), (.int a6)] maxLocals)) t := by
                intro t kt
                refine pre89 t ?_
                show Steps p.tables e below (T82.setTop (mkF m 223 #[.val (.long a1), .second, .val (.long a2), .second, .val (.long a3), .second, .val (.long a4), .second, .val (.long a5), .second, .val (.int a6), .val (.int zz), .val (.int hw2), .val (.long dd), .second, .val (.long st), .second, .val (.long pe), .second, .val (.long cy0), .second, .val (.long (a3 &&& (1073741823 : Int64))), .second, .unset, .unset, .unset, .unset] [(.int (lcmpW cy0 st))])) _
                refine XS.ifNo X82.here hx rfl (hb hby at_223) rfl ((if0 _ _).trans (teq ((lw_eq cy0 st).mpr hc223_3)).2) ?_
                show Steps p.tables e below (T82.setTop (mkF m 226 #[.val (.long a1), .second, .val (.long a2), .second, .val (.long a3), .second, .val (.long a4), .second, .val (.long a5), .second, .val (.int a6), .val (.int zz), .val (.int hw2), .val (.long dd), .second, .val (.long st), .second, .val (.long pe), .second, .val (.long cy0), .second, .val (.long (a3 &&& (1073741823 : Int64))), .second, .unset, .unset, .unset, .unset] [])) _
                refine XS.iconst X82.here hx rfl (hb hby at_226) ?_
                show Steps p.tables e below (T82.setTop (mkF m 227 #[.val (.long a1), .second, .val (.long a2), .second, .val (.long a3), .second, .val (.long a4), .second, .val (.long a5), .second, .val (.int a6), .val (.int zz), .val (.int hw2), .val (.long dd), .second, .val (.long st), .second, .val (.long pe), .second, .val (.long cy0), .second, .val (.long (a3 &&& (1073741823 : Int64))), .second, .unset, .unset, .unset, .unset] [(.int (1 : Int32))])) _
                refine XS.goto X82.here hx rfl (pc0 := 227) (pc' := 231) rfl (hb hby at_227) (by decide) (by decide) ?_
                show Steps p.tables e below (T82.setTop (mkF m 231 #[.val (.long a1), .second, .val (.long a2), .second, .val (.long a3), .second, .val (.long a4), .second, .val (.long a5), .second, .val (.int a6), .val (.int zz), .val (.int hw2), .val (.long dd), .second, .val (.long st), .second, .val (.long pe), .second, .val (.long cy0), .second, .val (.long (a3 &&& (1073741823 : Int64))), .second, .unset, .unset, .unset, .unset] [(.int (1 : Int32))])) _
                refine XS.istore X82.here hx rfl (hb hby at_231) rfl (l' := #[.val (.long a1), .second, .val (.long a2), .second, .val (.long a3), .second, .val (.long a4), .second, .val (.long a5), .second, .val (.int a6), .val (.int zz), .val (.int hw2), .val (.long dd), .second, .val (.long st), .second, .val (.long pe), .second, .val (.long cy0), .second, .val (.int (1 : Int32)), .unset, .unset, .unset, .unset, .unset]) rfl ?_
                show Steps p.tables e below (T82.setTop (mkF m 233 #[.val (.long a1), .second, .val (.long a2), .second, .val (.long a3), .second, .val (.long a4), .second, .val (.long a5), .second, .val (.int a6), .val (.int zz), .val (.int hw2), .val (.long dd), .second, .val (.long st), .second, .val (.long pe), .second, .val (.long cy0), .second, .val (.int (1 : Int32)), .unset, .unset, .unset, .unset, .unset] [])) _
                refine XS.goto X82.here hx rfl (pc0 := 233) (pc' := 256) rfl (hb hby at_233) (by decide) (by decide) ?_
                exact kt
              exact ⟨T82, _, (1 : Int32), X82, e82, N82, (by simp [own_is, hc215_4, hc223_3]), pre90⟩
            case neg =>
              have pre91 : ∀ t, Steps p.tables e below (T82.setTop (mkF m 256 #[.val (.long a1), .second, .val (.long a2), .second, .val (.long a3), .second, .val (.long a4), .second, .val (.long a5), .second, .val (.int a6), .val (.int zz), .val (.int hw2), .val (.long dd), .second, .val (.long st), .second, .val (.long pe), .second, .val (.long cy0), .second, .val (.int (0 : Int32)), .unset, .unset, .unset, .unset, .unset] [])) t → Steps p.tables e below (s₁.setTop (entryFrame m #[(.long a1), (.long a2), (.long a3), (.long a4), (.long a5), (.int a6)] maxLocals)) t := by
                intro t kt
                refine pre89 t ?_
                show Steps p.tables e below (T82.setTop (mkF m 223 #[.val (.long a1), .second, .val (.long a2), .second, .val (.long a3), .second, .val (.long a4), .second, .val (.long a5), .second, .val (.int a6), .val (.int zz), .val (.int hw2), .val (.long dd), .second, .val (.long st), .second, .val (.long pe), .second, .val (.long cy0), .second, .val (.long (a3 &&& (1073741823 : Int64))), .second, .unset, .unset, .unset, .unset] [(.int (lcmpW cy0 st))])) _
                refine XS.ifYes X82.here hx rfl (pc0 := 223) (pc' := 230) rfl (hb hby at_223) rfl ((if0 _ _).trans (feq (fun q => hc223_3 ((lw_eq cy0 st).mp q))).2) (by decide) (by decide) ?_
                show Steps p.tables e below (T82.setTop (mkF m 230 #[.val (.long a1), .second, .val (.long a2), .second, .val (.long a3), .second, .val (.long a4), .second, .val (.long a5), .second, .val (.int a6), .val (.int zz), .val (.int hw2), .val (.long dd), .second, .val (.long st), .second, .val (.long pe), .second, .val (.long cy0), .second, .val (.long (a3 &&& (1073741823 : Int64))), .second, .unset, .unset, .unset, .unset] [])) _
                refine XS.iconst X82.here hx rfl (hb hby at_230) ?_
                show Steps p.tables e below (T82.setTop (mkF m 231 #[.val (.long a1), .second, .val (.long a2), .second, .val (.long a3), .second, .val (.long a4), .second, .val (.long a5), .second, .val (.int a6), .val (.int zz), .val (.int hw2), .val (.long dd), .second, .val (.long st), .second, .val (.long pe), .second, .val (.long cy0), .second, .val (.long (a3 &&& (1073741823 : Int64))), .second, .unset, .unset, .unset, .unset] [(.int (0 : Int32))])) _
                refine XS.istore X82.here hx rfl (hb hby at_231) rfl (l' := #[.val (.long a1), .second, .val (.long a2), .second, .val (.long a3), .second, .val (.long a4), .second, .val (.long a5), .second, .val (.int a6), .val (.int zz), .val (.int hw2), .val (.long dd), .second, .val (.long st), .second, .val (.long pe), .second, .val (.long cy0), .second, .val (.int (0 : Int32)), .unset, .unset, .unset, .unset, .unset]) rfl ?_
                show Steps p.tables e below (T82.setTop (mkF m 233 #[.val (.long a1), .second, .val (.long a2), .second, .val (.long a3), .second, .val (.long a4), .second, .val (.long a5), .second, .val (.int a6), .val (.int zz), .val (.int hw2), .val (.long dd), .second, .val (.long st), .second, .val (.long pe), .second, .val (.long cy0), .second, .val (.int (0 : Int32)), .unset, .unset, .unset, .unset, .unset] [])) _
                refine XS.goto X82.here hx rfl (pc0 := 233) (pc' := 256) rfl (hb hby at_233) (by decide) (by decide) ?_
                exact kt
              exact ⟨T82, _, (0 : Int32), X82, e82, N82, (by simp [own_is, hc215_4, hc223_3]), pre91⟩
          case neg =>
            have pre92 : ∀ t, Steps p.tables e below (T82.setTop (mkF m 246 #[.val (.long a1), .second, .val (.long a2), .second, .val (.long a3), .second, .val (.long a4), .second, .val (.long a5), .second, .val (.int a6), .val (.int zz), .val (.int hw2), .val (.long dd), .second, .val (.long st), .second, .val (.long pe), .second, .val (.long cy0), .second, .val (.long (a3 &&& (1073741823 : Int64))), .second, .unset, .unset, .unset, .unset] [(.int (lcmpW ((cy0 - st) % pe) (0 : Int64)))])) t → Steps p.tables e below (s₁.setTop (entryFrame m #[(.long a1), (.long a2), (.long a3), (.long a4), (.long a5), (.int a6)] maxLocals)) t := by
              intro t kt
              refine pre87 t ?_
              show Steps p.tables e below (T82.setTop (mkF m 215 #[.val (.long a1), .second, .val (.long a2), .second, .val (.long a3), .second, .val (.long a4), .second, .val (.long a5), .second, .val (.int a6), .val (.int zz), .val (.int hw2), .val (.long dd), .second, .val (.long st), .second, .val (.long pe), .second, .val (.long cy0), .second, .val (.long (a3 &&& (1073741823 : Int64))), .second, .unset, .unset, .unset, .unset] [(.int (lcmpW pe (0 : Int64)))])) _
              refine XS.ifYes X82.here hx rfl (pc0 := 215) (pc' := 236) rfl (hb hby at_215) rfl ((if0 _ _).trans (feq (fun q => hc215_4 ((lw_eq pe (0 : Int64)).mp q))).2) (by decide) (by decide) ?_
              show Steps p.tables e below (T82.setTop (mkF m 236 #[.val (.long a1), .second, .val (.long a2), .second, .val (.long a3), .second, .val (.long a4), .second, .val (.long a5), .second, .val (.int a6), .val (.int zz), .val (.int hw2), .val (.long dd), .second, .val (.long st), .second, .val (.long pe), .second, .val (.long cy0), .second, .val (.long (a3 &&& (1073741823 : Int64))), .second, .unset, .unset, .unset, .unset] [])) _
              refine XS.lload X82.here hx rfl (hb hby at_236) rfl ?_
              show Steps p.tables e below (T82.setTop (mkF m 238 #[.val (.long a1), .second, .val (.long a2), .second, .val (.long a3), .second, .val (.long a4), .second, .val (.long a5), .second, .val (.int a6), .val (.int zz), .val (.int hw2), .val (.long dd), .second, .val (.long st), .second, .val (.long pe), .second, .val (.long cy0), .second, .val (.long (a3 &&& (1073741823 : Int64))), .second, .unset, .unset, .unset, .unset] [(.long cy0)])) _
              refine XS.lload X82.here hx rfl (hb hby at_238) rfl ?_
              show Steps p.tables e below (T82.setTop (mkF m 240 #[.val (.long a1), .second, .val (.long a2), .second, .val (.long a3), .second, .val (.long a4), .second, .val (.long a5), .second, .val (.int a6), .val (.int zz), .val (.int hw2), .val (.long dd), .second, .val (.long st), .second, .val (.long pe), .second, .val (.long cy0), .second, .val (.long (a3 &&& (1073741823 : Int64))), .second, .unset, .unset, .unset, .unset] [(.long st), (.long cy0)])) _
              refine XS.lsub X82.here hx rfl (hb hby at_240) rfl ?_
              show Steps p.tables e below (T82.setTop (mkF m 241 #[.val (.long a1), .second, .val (.long a2), .second, .val (.long a3), .second, .val (.long a4), .second, .val (.long a5), .second, .val (.int a6), .val (.int zz), .val (.int hw2), .val (.long dd), .second, .val (.long st), .second, .val (.long pe), .second, .val (.long cy0), .second, .val (.long (a3 &&& (1073741823 : Int64))), .second, .unset, .unset, .unset, .unset] [(.long (cy0 - st))])) _
              refine XS.lload X82.here hx rfl (hb hby at_241) rfl ?_
              show Steps p.tables e below (T82.setTop (mkF m 243 #[.val (.long a1), .second, .val (.long a2), .second, .val (.long a3), .second, .val (.long a4), .second, .val (.long a5), .second, .val (.int a6), .val (.int zz), .val (.int hw2), .val (.long dd), .second, .val (.long st), .second, .val (.long pe), .second, .val (.long cy0), .second, .val (.long (a3 &&& (1073741823 : Int64))), .second, .unset, .unset, .unset, .unset] [(.long pe), (.long (cy0 - st))])) _
              refine own_lremM X82 hx rfl (hb hby at_243) rfl hc215_4 ?_
              show Steps p.tables e below (T82.setTop (mkF m 244 #[.val (.long a1), .second, .val (.long a2), .second, .val (.long a3), .second, .val (.long a4), .second, .val (.long a5), .second, .val (.int a6), .val (.int zz), .val (.int hw2), .val (.long dd), .second, .val (.long st), .second, .val (.long pe), .second, .val (.long cy0), .second, .val (.long (a3 &&& (1073741823 : Int64))), .second, .unset, .unset, .unset, .unset] [(.long ((cy0 - st) % pe))])) _
              refine XS.lconst X82.here hx rfl (hb hby at_244) ?_
              show Steps p.tables e below (T82.setTop (mkF m 245 #[.val (.long a1), .second, .val (.long a2), .second, .val (.long a3), .second, .val (.long a4), .second, .val (.long a5), .second, .val (.int a6), .val (.int zz), .val (.int hw2), .val (.long dd), .second, .val (.long st), .second, .val (.long pe), .second, .val (.long cy0), .second, .val (.long (a3 &&& (1073741823 : Int64))), .second, .unset, .unset, .unset, .unset] [(.long (0 : Int64)), (.long ((cy0 - st) % pe))])) _
              refine XS.lcmp X82.here hx rfl (hb hby at_245) rfl ?_
              exact kt
            by_cases hc246_4 : ((cy0 - st) % pe) = (0 : Int64)
            case pos =>
              have pre93 : ∀ t, Steps p.tables e below (T82.setTop (mkF m 256 #[.val (.long a1), .second, .val (.long a2), .second, .val (.long a3), .second, .val (.long a4), .second, .val (.long a5), .second, .val (.int a6), .val (.int zz), .val (.int hw2), .val (.long dd), .second, .val (.long st), .second, .val (.long pe), .second, .val (.long cy0), .second, .val (.int (1 : Int32)), .unset, .unset, .unset, .unset, .unset] [])) t → Steps p.tables e below (s₁.setTop (entryFrame m #[(.long a1), (.long a2), (.long a3), (.long a4), (.long a5), (.int a6)] maxLocals)) t := by
                intro t kt
                refine pre92 t ?_
                show Steps p.tables e below (T82.setTop (mkF m 246 #[.val (.long a1), .second, .val (.long a2), .second, .val (.long a3), .second, .val (.long a4), .second, .val (.long a5), .second, .val (.int a6), .val (.int zz), .val (.int hw2), .val (.long dd), .second, .val (.long st), .second, .val (.long pe), .second, .val (.long cy0), .second, .val (.long (a3 &&& (1073741823 : Int64))), .second, .unset, .unset, .unset, .unset] [(.int (lcmpW ((cy0 - st) % pe) (0 : Int64)))])) _
                refine XS.ifNo X82.here hx rfl (hb hby at_246) rfl ((if0 _ _).trans (teq ((lw_eq ((cy0 - st) % pe) (0 : Int64)).mpr hc246_4)).2) ?_
                show Steps p.tables e below (T82.setTop (mkF m 249 #[.val (.long a1), .second, .val (.long a2), .second, .val (.long a3), .second, .val (.long a4), .second, .val (.long a5), .second, .val (.int a6), .val (.int zz), .val (.int hw2), .val (.long dd), .second, .val (.long st), .second, .val (.long pe), .second, .val (.long cy0), .second, .val (.long (a3 &&& (1073741823 : Int64))), .second, .unset, .unset, .unset, .unset] [])) _
                refine XS.iconst X82.here hx rfl (hb hby at_249) ?_
                show Steps p.tables e below (T82.setTop (mkF m 250 #[.val (.long a1), .second, .val (.long a2), .second, .val (.long a3), .second, .val (.long a4), .second, .val (.long a5), .second, .val (.int a6), .val (.int zz), .val (.int hw2), .val (.long dd), .second, .val (.long st), .second, .val (.long pe), .second, .val (.long cy0), .second, .val (.long (a3 &&& (1073741823 : Int64))), .second, .unset, .unset, .unset, .unset] [(.int (1 : Int32))])) _
                refine XS.goto X82.here hx rfl (pc0 := 250) (pc' := 254) rfl (hb hby at_250) (by decide) (by decide) ?_
                show Steps p.tables e below (T82.setTop (mkF m 254 #[.val (.long a1), .second, .val (.long a2), .second, .val (.long a3), .second, .val (.long a4), .second, .val (.long a5), .second, .val (.int a6), .val (.int zz), .val (.int hw2), .val (.long dd), .second, .val (.long st), .second, .val (.long pe), .second, .val (.long cy0), .second, .val (.long (a3 &&& (1073741823 : Int64))), .second, .unset, .unset, .unset, .unset] [(.int (1 : Int32))])) _
                refine XS.istore X82.here hx rfl (hb hby at_254) rfl (l' := #[.val (.long a1), .second, .val (.long a2), .second, .val (.long a3), .second, .val (.long a4), .second, .val (.long a5), .second, .val (.int a6), .val (.int zz), .val (.int hw2), .val (.long dd), .second, .val (.long st), .second, .val (.long pe), .second, .val (.long cy0), .second, .val (.int (1 : Int32)), .unset, .unset, .unset, .unset, .unset]) rfl ?_
                exact kt
              exact ⟨T82, _, (1 : Int32), X82, e82, N82, (by rw [own_es hcy hst hc215_4]; exact (if_pos hc246_4).symm), pre93⟩
            case neg =>
              have pre94 : ∀ t, Steps p.tables e below (T82.setTop (mkF m 256 #[.val (.long a1), .second, .val (.long a2), .second, .val (.long a3), .second, .val (.long a4), .second, .val (.long a5), .second, .val (.int a6), .val (.int zz), .val (.int hw2), .val (.long dd), .second, .val (.long st), .second, .val (.long pe), .second, .val (.long cy0), .second, .val (.int (0 : Int32)), .unset, .unset, .unset, .unset, .unset] [])) t → Steps p.tables e below (s₁.setTop (entryFrame m #[(.long a1), (.long a2), (.long a3), (.long a4), (.long a5), (.int a6)] maxLocals)) t := by
                intro t kt
                refine pre92 t ?_
                show Steps p.tables e below (T82.setTop (mkF m 246 #[.val (.long a1), .second, .val (.long a2), .second, .val (.long a3), .second, .val (.long a4), .second, .val (.long a5), .second, .val (.int a6), .val (.int zz), .val (.int hw2), .val (.long dd), .second, .val (.long st), .second, .val (.long pe), .second, .val (.long cy0), .second, .val (.long (a3 &&& (1073741823 : Int64))), .second, .unset, .unset, .unset, .unset] [(.int (lcmpW ((cy0 - st) % pe) (0 : Int64)))])) _
                refine XS.ifYes X82.here hx rfl (pc0 := 246) (pc' := 253) rfl (hb hby at_246) rfl ((if0 _ _).trans (feq (fun q => hc246_4 ((lw_eq ((cy0 - st) % pe) (0 : Int64)).mp q))).2) (by decide) (by decide) ?_
                show Steps p.tables e below (T82.setTop (mkF m 253 #[.val (.long a1), .second, .val (.long a2), .second, .val (.long a3), .second, .val (.long a4), .second, .val (.long a5), .second, .val (.int a6), .val (.int zz), .val (.int hw2), .val (.long dd), .second, .val (.long st), .second, .val (.long pe), .second, .val (.long cy0), .second, .val (.long (a3 &&& (1073741823 : Int64))), .second, .unset, .unset, .unset, .unset] [])) _
                refine XS.iconst X82.here hx rfl (hb hby at_253) ?_
                show Steps p.tables e below (T82.setTop (mkF m 254 #[.val (.long a1), .second, .val (.long a2), .second, .val (.long a3), .second, .val (.long a4), .second, .val (.long a5), .second, .val (.int a6), .val (.int zz), .val (.int hw2), .val (.long dd), .second, .val (.long st), .second, .val (.long pe), .second, .val (.long cy0), .second, .val (.long (a3 &&& (1073741823 : Int64))), .second, .unset, .unset, .unset, .unset] [(.int (0 : Int32))])) _
                refine XS.istore X82.here hx rfl (hb hby at_254) rfl (l' := #[.val (.long a1), .second, .val (.long a2), .second, .val (.long a3), .second, .val (.long a4), .second, .val (.long a5), .second, .val (.int a6), .val (.int zz), .val (.int hw2), .val (.long dd), .second, .val (.long st), .second, .val (.long pe), .second, .val (.long cy0), .second, .val (.int (0 : Int32)), .unset, .unset, .unset, .unset, .unset]) rfl ?_
                exact kt
              exact ⟨T82, _, (0 : Int32), X82, e82, N82, (by rw [own_es hcy hst hc215_4]; exact (if_neg hc246_4).symm), pre94⟩
        have hes := hp88
        obtain ⟨T95, h95, X95, e95, E95, A95, D95, -, st95⟩ := newO X88 hx hZ hown (hw _ (List.mem_of_getElem? (i := 1) rfl)) (hw _ (List.mem_of_getElem? (i := 2) rfl)) (hw _ (List.mem_of_getElem? (i := 3) rfl)) e88 (g := (mkF m 256 #[.val (.long a1), .second, .val (.long a2), .second, .val (.long a3), .second, .val (.long a4), .second, .val (.long a5), .second, .val (.int a6), .val (.int zz), .val (.int hw2), .val (.long dd), .second, .val (.long st), .second, .val (.long pe), .second, .val (.long cy0), .second, .val (.int es), .unset, .unset, .unset, .unset, .unset] [])) rfl (hb hby at_256) (by decide) (by decide)
        obtain ⟨ob, g95⟩ : ∃ z, z = h0.size := ⟨_, rfl⟩
        rw [← g95] at A95 D95 st95
        have g_ob : n0 ≤ ob := by rw [g95]; exact Z0
        have Z96 := Nat.le_trans Z0 E95.1
        have E_ob := A95
        have F_usual_ob : Fld Z h95 ob "com/example/paceline/paceline/sim/ServiceTimes" "usual" "J" (.long (0 : Int64)) := D95 (Or.inr (hw _ (List.mem_of_getElem? (i := 16) rfl))) (ty := .long) (by decide)
        have F_stalled_ob : Fld Z h95 ob "com/example/paceline/paceline/sim/ServiceTimes" "stalled" "J" (.long (0 : Int64)) := D95 (Or.inr (hw _ (List.mem_of_getElem? (i := 18) rfl))) (ty := .long) (by decide)
        have F_stallCycle_ob : Fld Z h95 ob "com/example/paceline/paceline/sim/ServiceTimes" "stallCycle" "J" (.long (0 : Int64)) := D95 (Or.inr (hw _ (List.mem_of_getElem? (i := 20) rfl))) (ty := .long) (by decide)
        have F_period_ob : Fld Z h95 ob "com/example/paceline/paceline/sim/ServiceTimes" "period" "J" (.long (0 : Int64)) := D95 (Or.inr (hw _ (List.mem_of_getElem? (i := 22) rfl))) (ty := .long) (by decide)
        obtain ⟨_, _, ⟨T97, L97, k97, n97⟩, -, X97, ⟨Lc97, hQ97, l97, y97, z97⟩, st97⟩ := X95.specialBack hx (y := (⟨"com/example/paceline/paceline/sim/ServiceTimes", "<init>", "(JJJJ)V"⟩ : MethodName)) rfl hown (mvT hZ (hw _ (List.mem_of_getElem? (i := 4) rfl))) (mvT hZ (hw _ (List.mem_of_getElem? (i := 5) rfl))) (mvT hZ (hw _ (List.mem_of_getElem? (i := 6) rfl))) (by decide) (backOf (W := 1) (own_rm1 l Z a0 hw [] (ob) (a1) (a2) (st) (pe) h95 n0 Z96 E_ob F_usual_ob F_stalled_ob F_stallCycle_ob F_period_ob g_ob) hZ (hw _ (List.mem_of_getElem? (i := 6) rfl)) (hw _ (List.mem_of_getElem? (i := 3) rfl)) (by decide) (by decide)) (g := (mkF m 266 #[.val (.long a1), .second, .val (.long a2), .second, .val (.long a3), .second, .val (.long a4), .second, .val (.long a5), .second, .val (.int a6), .val (.int zz), .val (.int hw2), .val (.long dd), .second, .val (.long st), .second, .val (.long pe), .second, .val (.long cy0), .second, .val (.int es), .unset, .unset, .unset, .unset, .unset] [(.long pe), (.long st), (.long a2), (.long a1), (.ref ob), (.ref ob)])) rfl (by rw [hml]; rfl) (Steps.refl _) (a := ob) (argsL := [(.long a1), (.long a2), (.long st), (.long pe)]) (rest := [(.ref ob)]) (lenOf own_pd1 rfl) rfl (by show 2 * 0 + _ ≤ _; exact Nat.le_of_eq rfl) (hb hby at_266) (fun _ _ => ⟨rfl, e95, (by decide : 1 + 0 ≤ _), (by decide : 4 + 0 ≤ _)⟩)
        dsimp only [Pt.U, Pt.locs, Pt.cells, Pt.slots] at X97 l97 y97 z97 st97 hQ97
        subst l97 y97 z97
        obtain ⟨rfl, Nq97, Kq97, E_ob, F_usual_ob, F_stalled_ob, F_stallCycle_ob, F_period_ob⟩ := hQ97
        have N97 := Fr.app N88 Nq97
        have Z97 := Nat.le_trans Z96 Kq97.1
        obtain ⟨cq98, kq98, q98a, q98b, q98c⟩ := isOf hZ rfl E_ob
        obtain ⟨_, _, ⟨T98, L98, k98, n98⟩, -, X98, ⟨Lc98, hQ98, l98, y98, z98⟩, st98⟩ := X97.virtualBack hx (y := (⟨"com/example/paceline/paceline/sim/ServiceTimes", "of", "(J)J"⟩ : MethodName)) (z := (⟨"com/example/paceline/paceline/sim/ServiceTimes", "of", "(J)J"⟩ : MethodName)) hown (mvT hZ (hw _ (List.mem_of_getElem? (i := 23) rfl))) (mvT hZ (hw _ (List.mem_of_getElem? (i := 24) rfl))) (notFace_of_selects (args := #[]) (mvT hZ (hw _ (List.mem_of_getElem? (i := 26) rfl)))) (mvT hZ (hw _ (List.mem_of_getElem? (i := 26) rfl))) (mvT hZ (hw _ (List.mem_of_getElem? (i := 25) rfl))) (by decide) (backOf (W := 0) (own_rm4 l Z a0 hw [] ob cy0 a1 a2 st pe T97.heap n0 Z97 F_usual_ob F_stalled_ob F_stallCycle_ob F_period_ob) hZ (hw _ (List.mem_of_getElem? (i := 27) rfl)) (hw _ (List.mem_of_getElem? (i := 3) rfl)) (by decide) (by decide)) q98a q98c (g := (mkF m 275 #[.val (.long a1), .second, .val (.long a2), .second, .val (.long a3), .second, .val (.long a4), .second, .val (.long a5), .second, .val (.int a6), .val (.int zz), .val (.int hw2), .val (.long dd), .second, .val (.long st), .second, .val (.long pe), .second, .val (.long cy0), .second, .val (.int es), .val (.ref ob), .unset, .unset, .unset, .unset] [(.long cy0), (.ref ob)])) rfl (by rw [hml]; rfl) (Steps.refl _) (argsL := [(.long cy0)]) (rest := []) (lenOf own_pd2 rfl) rfl (by show 2 * 0 + _ ≤ _; exact Nat.le_of_eq rfl) (hb hby at_275) (fun _ _ => ⟨rfl, rfl, (by decide : 1 + 0 ≤ _), (by decide : 4 + 0 ≤ _)⟩)
        dsimp only [Pt.U, Pt.locs, Pt.cells, Pt.slots] at X98 l98 y98 z98 st98 hQ98
        subst l98 y98 z98
        obtain ⟨rfl, Nq98, eq98⟩ := hQ98
        have N98 := Fr.app N97 Nq98
        have pre99 : ∀ t, Steps p.tables e below (T98.setTop (mkF m 282 #[.val (.long a1), .second, .val (.long a2), .second, .val (.long a3), .second, .val (.long a4), .second, .val (.long a5), .second, .val (.int a6), .val (.int zz), .val (.int hw2), .val (.long dd), .second, .val (.long st), .second, .val (.long pe), .second, .val (.long cy0), .second, .val (.int es), .val (.ref ob), .val (.long (own_of cy0 a1 a2 st pe)), .second, .unset, .unset] [(.int es)])) t → Steps p.tables e below (s₁.setTop (entryFrame m #[(.long a1), (.long a2), (.long a3), (.long a4), (.long a5), (.int a6)] maxLocals)) t := by
          intro t kt
          refine pre88 t ?_
          show Steps p.tables e below (T88.setTop (mkF m 256 #[.val (.long a1), .second, .val (.long a2), .second, .val (.long a3), .second, .val (.long a4), .second, .val (.long a5), .second, .val (.int a6), .val (.int zz), .val (.int hw2), .val (.long dd), .second, .val (.long st), .second, .val (.long pe), .second, .val (.long cy0), .second, .val (.int es), .unset, .unset, .unset, .unset, .unset] [])) _
          refine st95 _ ?_
          show Steps p.tables e below (T95.setTop (mkF m 259 #[.val (.long a1), .second, .val (.long a2), .second, .val (.long a3), .second, .val (.long a4), .second, .val (.long a5), .second, .val (.int a6), .val (.int zz), .val (.int hw2), .val (.long dd), .second, .val (.long st), .second, .val (.long pe), .second, .val (.long cy0), .second, .val (.int es), .unset, .unset, .unset, .unset, .unset] [(.ref ob)])) _
          refine XS.dup X95.here hx rfl (hb hby at_259) rfl rfl ?_
          show Steps p.tables e below (T95.setTop (mkF m 260 #[.val (.long a1), .second, .val (.long a2), .second, .val (.long a3), .second, .val (.long a4), .second, .val (.long a5), .second, .val (.int a6), .val (.int zz), .val (.int hw2), .val (.long dd), .second, .val (.long st), .second, .val (.long pe), .second, .val (.long cy0), .second, .val (.int es), .unset, .unset, .unset, .unset, .unset] [(.ref ob), (.ref ob)])) _
          refine XS.lloadN X95.here hx rfl (hb hby at_260) rfl ?_
          show Steps p.tables e below (T95.setTop (mkF m 261 #[.val (.long a1), .second, .val (.long a2), .second, .val (.long a3), .second, .val (.long a4), .second, .val (.long a5), .second, .val (.int a6), .val (.int zz), .val (.int hw2), .val (.long dd), .second, .val (.long st), .second, .val (.long pe), .second, .val (.long cy0), .second, .val (.int es), .unset, .unset, .unset, .unset, .unset] [(.long a1), (.ref ob), (.ref ob)])) _
          refine XS.lloadN X95.here hx rfl (hb hby at_261) rfl ?_
          show Steps p.tables e below (T95.setTop (mkF m 262 #[.val (.long a1), .second, .val (.long a2), .second, .val (.long a3), .second, .val (.long a4), .second, .val (.long a5), .second, .val (.int a6), .val (.int zz), .val (.int hw2), .val (.long dd), .second, .val (.long st), .second, .val (.long pe), .second, .val (.long cy0), .second, .val (.int es), .unset, .unset, .unset, .unset, .unset] [(.long a2), (.long a1), (.ref ob), (.ref ob)])) _
          refine XS.lload X95.here hx rfl (hb hby at_262) rfl ?_
          show Steps p.tables e below (T95.setTop (mkF m 264 #[.val (.long a1), .second, .val (.long a2), .second, .val (.long a3), .second, .val (.long a4), .second, .val (.long a5), .second, .val (.int a6), .val (.int zz), .val (.int hw2), .val (.long dd), .second, .val (.long st), .second, .val (.long pe), .second, .val (.long cy0), .second, .val (.int es), .unset, .unset, .unset, .unset, .unset] [(.long st), (.long a2), (.long a1), (.ref ob), (.ref ob)])) _
          refine XS.lload X95.here hx rfl (hb hby at_264) rfl ?_
          show Steps p.tables e below (T95.setTop (mkF m 266 #[.val (.long a1), .second, .val (.long a2), .second, .val (.long a3), .second, .val (.long a4), .second, .val (.long a5), .second, .val (.int a6), .val (.int zz), .val (.int hw2), .val (.long dd), .second, .val (.long st), .second, .val (.long pe), .second, .val (.long cy0), .second, .val (.int es), .unset, .unset, .unset, .unset, .unset] [(.long pe), (.long st), (.long a2), (.long a1), (.ref ob), (.ref ob)])) _
          refine st97.trans ?_
          show Steps p.tables e below (T97.setTop (mkF m 269 #[.val (.long a1), .second, .val (.long a2), .second, .val (.long a3), .second, .val (.long a4), .second, .val (.long a5), .second, .val (.int a6), .val (.int zz), .val (.int hw2), .val (.long dd), .second, .val (.long st), .second, .val (.long pe), .second, .val (.long cy0), .second, .val (.int es), .unset, .unset, .unset, .unset, .unset] [(.ref ob)])) _
          refine XS.astore X97.here hx rfl (hb hby at_269) rfl rfl (l' := #[.val (.long a1), .second, .val (.long a2), .second, .val (.long a3), .second, .val (.long a4), .second, .val (.long a5), .second, .val (.int a6), .val (.int zz), .val (.int hw2), .val (.long dd), .second, .val (.long st), .second, .val (.long pe), .second, .val (.long cy0), .second, .val (.int es), .val (.ref ob), .unset, .unset, .unset, .unset]) rfl ?_
          show Steps p.tables e below (T97.setTop (mkF m 271 #[.val (.long a1), .second, .val (.long a2), .second, .val (.long a3), .second, .val (.long a4), .second, .val (.long a5), .second, .val (.int a6), .val (.int zz), .val (.int hw2), .val (.long dd), .second, .val (.long st), .second, .val (.long pe), .second, .val (.long cy0), .second, .val (.int es), .val (.ref ob), .unset, .unset, .unset, .unset] [])) _
          refine XS.aload X97.here hx rfl (hb hby at_271) rfl rfl ?_
          show Steps p.tables e below (T97.setTop (mkF m 273 #[.val (.long a1), .second, .val (.long a2), .second, .val (.long a3), .second, .val (.long a4), .second, .val (.long a5), .second, .val (.int a6), .val (.int zz), .val (.int hw2), .val (.long dd), .second, .val (.long st), .second, .val (.long pe), .second, .val (.long cy0), .second, .val (.int es), .val (.ref ob), .unset, .unset, .unset, .unset] [(.ref ob)])) _
          refine XS.lload X97.here hx rfl (hb hby at_273) rfl ?_
          show Steps p.tables e below (T97.setTop (mkF m 275 #[.val (.long a1), .second, .val (.long a2), .second, .val (.long a3), .second, .val (.long a4), .second, .val (.long a5), .second, .val (.int a6), .val (.int zz), .val (.int hw2), .val (.long dd), .second, .val (.long st), .second, .val (.long pe), .second, .val (.long cy0), .second, .val (.int es), .val (.ref ob), .unset, .unset, .unset, .unset] [(.long cy0), (.ref ob)])) _
          refine st98.trans ?_
          show Steps p.tables e below (T98.setTop (mkF m 278 #[.val (.long a1), .second, .val (.long a2), .second, .val (.long a3), .second, .val (.long a4), .second, .val (.long a5), .second, .val (.int a6), .val (.int zz), .val (.int hw2), .val (.long dd), .second, .val (.long st), .second, .val (.long pe), .second, .val (.long cy0), .second, .val (.int es), .val (.ref ob), .unset, .unset, .unset, .unset] [(.long (own_of cy0 a1 a2 st pe))])) _
          refine XS.lstore X98.here hx rfl (hb hby at_278) rfl (l' := #[.val (.long a1), .second, .val (.long a2), .second, .val (.long a3), .second, .val (.long a4), .second, .val (.long a5), .second, .val (.int a6), .val (.int zz), .val (.int hw2), .val (.long dd), .second, .val (.long st), .second, .val (.long pe), .second, .val (.long cy0), .second, .val (.int es), .val (.ref ob), .val (.long (own_of cy0 a1 a2 st pe)), .second, .unset, .unset]) rfl ?_
          show Steps p.tables e below (T98.setTop (mkF m 280 #[.val (.long a1), .second, .val (.long a2), .second, .val (.long a3), .second, .val (.long a4), .second, .val (.long a5), .second, .val (.int a6), .val (.int zz), .val (.int hw2), .val (.long dd), .second, .val (.long st), .second, .val (.long pe), .second, .val (.long cy0), .second, .val (.int es), .val (.ref ob), .val (.long (own_of cy0 a1 a2 st pe)), .second, .unset, .unset] [])) _
          refine XS.iload X98.here hx rfl (hb hby at_280) rfl ?_
          exact kt
        obtain ⟨T100, Lc100, wt, X100, e100, N100, hp100, pre100⟩ : ∃ (T100 : State) (Lc100 : List Loc) (wt : Int64), Stand p l e room_1 s m #[(.long a1), (.long a2), (.long a3), (.long a4), (.long a5), (.int a6)] below meth c T100 Lc100 1 4 ∧ T100.heap = T97.heap ∧ Fr n0 Lc100 ∧ (own_of cy0 a1 a2 st pe = wt) ∧ ∀ t, Steps p.tables e below (T100.setTop (mkF m 290 #[.val (.long a1), .second, .val (.long a2), .second, .val (.long a3), .second, .val (.long a4), .second, .val (.long a5), .second, .val (.int a6), .val (.int zz), .val (.int hw2), .val (.long dd), .second, .val (.long st), .second, .val (.long pe), .second, .val (.long cy0), .second, .val (.int es), .val (.ref ob), .val (.long (own_of cy0 a1 a2 st pe)), .second, .unset, .unset] [(.long wt)])) t → Steps p.tables e below (s₁.setTop (entryFrame m #[(.long a1), (.long a2), (.long a3), (.long a4), (.long a5), (.int a6)] maxLocals)) t := by
          by_cases hc282_4 : es = (0 : Int32)
          case pos =>
            have pre101 : ∀ t, Steps p.tables e below (T98.setTop (mkF m 290 #[.val (.long a1), .second, .val (.long a2), .second, .val (.long a3), .second, .val (.long a4), .second, .val (.long a5), .second, .val (.int a6), .val (.int zz), .val (.int hw2), .val (.long dd), .second, .val (.long st), .second, .val (.long pe), .second, .val (.long cy0), .second, .val (.int es), .val (.ref ob), .val (.long (own_of cy0 a1 a2 st pe)), .second, .unset, .unset] [(.long a1)])) t → Steps p.tables e below (s₁.setTop (entryFrame m #[(.long a1), (.long a2), (.long a3), (.long a4), (.long a5), (.int a6)] maxLocals)) t := by
              intro t kt
              refine pre99 t ?_
              show Steps p.tables e below (T98.setTop (mkF m 282 #[.val (.long a1), .second, .val (.long a2), .second, .val (.long a3), .second, .val (.long a4), .second, .val (.long a5), .second, .val (.int a6), .val (.int zz), .val (.int hw2), .val (.long dd), .second, .val (.long st), .second, .val (.long pe), .second, .val (.long cy0), .second, .val (.int es), .val (.ref ob), .val (.long (own_of cy0 a1 a2 st pe)), .second, .unset, .unset] [(.int es)])) _
              refine XS.ifYes X98.here hx rfl (pc0 := 282) (pc' := 289) rfl (hb hby at_282) rfl ((if0 _ _).trans (teq hc282_4).1) (by decide) (by decide) ?_
              show Steps p.tables e below (T98.setTop (mkF m 289 #[.val (.long a1), .second, .val (.long a2), .second, .val (.long a3), .second, .val (.long a4), .second, .val (.long a5), .second, .val (.int a6), .val (.int zz), .val (.int hw2), .val (.long dd), .second, .val (.long st), .second, .val (.long pe), .second, .val (.long cy0), .second, .val (.int es), .val (.ref ob), .val (.long (own_of cy0 a1 a2 st pe)), .second, .unset, .unset] [])) _
              refine XS.lloadN X98.here hx rfl (hb hby at_289) rfl ?_
              exact kt
            exact ⟨T98, _, a1, X98, eq98, N98, (by rw [hes] at hc282_4; exact if_pos hc282_4), pre101⟩
          case neg =>
            have pre102 : ∀ t, Steps p.tables e below (T98.setTop (mkF m 290 #[.val (.long a1), .second, .val (.long a2), .second, .val (.long a3), .second, .val (.long a4), .second, .val (.long a5), .second, .val (.int a6), .val (.int zz), .val (.int hw2), .val (.long dd), .second, .val (.long st), .second, .val (.long pe), .second, .val (.long cy0), .second, .val (.int es), .val (.ref ob), .val (.long (own_of cy0 a1 a2 st pe)), .second, .unset, .unset] [(.long a2)])) t → Steps p.tables e below (s₁.setTop (entryFrame m #[(.long a1), (.long a2), (.long a3), (.long a4), (.long a5), (.int a6)] maxLocals)) t := by
              intro t kt
              refine pre99 t ?_
              show Steps p.tables e below (T98.setTop (mkF m 282 #[.val (.long a1), .second, .val (.long a2), .second, .val (.long a3), .second, .val (.long a4), .second, .val (.long a5), .second, .val (.int a6), .val (.int zz), .val (.int hw2), .val (.long dd), .second, .val (.long st), .second, .val (.long pe), .second, .val (.long cy0), .second, .val (.int es), .val (.ref ob), .val (.long (own_of cy0 a1 a2 st pe)), .second, .unset, .unset] [(.int es)])) _
              refine XS.ifNo X98.here hx rfl (hb hby at_282) rfl ((if0 _ _).trans (feq hc282_4).1) ?_
              show Steps p.tables e below (T98.setTop (mkF m 285 #[.val (.long a1), .second, .val (.long a2), .second, .val (.long a3), .second, .val (.long a4), .second, .val (.long a5), .second, .val (.int a6), .val (.int zz), .val (.int hw2), .val (.long dd), .second, .val (.long st), .second, .val (.long pe), .second, .val (.long cy0), .second, .val (.int es), .val (.ref ob), .val (.long (own_of cy0 a1 a2 st pe)), .second, .unset, .unset] [])) _
              refine XS.lloadN X98.here hx rfl (hb hby at_285) rfl ?_
              show Steps p.tables e below (T98.setTop (mkF m 286 #[.val (.long a1), .second, .val (.long a2), .second, .val (.long a3), .second, .val (.long a4), .second, .val (.long a5), .second, .val (.int a6), .val (.int zz), .val (.int hw2), .val (.long dd), .second, .val (.long st), .second, .val (.long pe), .second, .val (.long cy0), .second, .val (.int es), .val (.ref ob), .val (.long (own_of cy0 a1 a2 st pe)), .second, .unset, .unset] [(.long a2)])) _
              refine XS.goto X98.here hx rfl (pc0 := 286) (pc' := 290) rfl (hb hby at_286) (by decide) (by decide) ?_
              exact kt
            exact ⟨T98, _, a2, X98, eq98, N98, (by rw [hes] at hc282_4; exact if_neg hc282_4), pre102⟩
        have hwt := hp100
        obtain ⟨fs, hr, hrun, hended, hW, hsame⟩ := X100.leave (v := some (.int (1 : Int32))) (fun h => by rw [Bd.returns] at h; cases h) (BodyLoose.notSynchronized Bd)
        refine ⟨_, _, pre100 _ ?_, hrun, hended, _, _, rfl, ?_, ⟨_, rfl⟩, hW, hsame.mono (by decide) (by decide)⟩
        · skip
          show Steps p.tables e below (T100.setTop (mkF m 290 #[.val (.long a1), .second, .val (.long a2), .second, .val (.long a3), .second, .val (.long a4), .second, .val (.long a5), .second, .val (.int a6), .val (.int zz), .val (.int hw2), .val (.long dd), .second, .val (.long st), .second, .val (.long pe), .second, .val (.long cy0), .second, .val (.int es), .val (.ref ob), .val (.long (own_of cy0 a1 a2 st pe)), .second, .unset, .unset] [(.long wt)])) _
          refine XS.lstore X100.here hx rfl (hb hby at_290) rfl (l' := #[.val (.long a1), .second, .val (.long a2), .second, .val (.long a3), .second, .val (.long a4), .second, .val (.long a5), .second, .val (.int a6), .val (.int zz), .val (.int hw2), .val (.long dd), .second, .val (.long st), .second, .val (.long pe), .second, .val (.long cy0), .second, .val (.int es), .val (.ref ob), .val (.long (own_of cy0 a1 a2 st pe)), .second, .val (.long wt), .second]) rfl ?_
          show Steps p.tables e below (T100.setTop (mkF m 292 #[.val (.long a1), .second, .val (.long a2), .second, .val (.long a3), .second, .val (.long a4), .second, .val (.long a5), .second, .val (.int a6), .val (.int zz), .val (.int hw2), .val (.long dd), .second, .val (.long st), .second, .val (.long pe), .second, .val (.long cy0), .second, .val (.int es), .val (.ref ob), .val (.long (own_of cy0 a1 a2 st pe)), .second, .val (.long wt), .second] [])) _
          refine XS.lload X100.here hx rfl (hb hby at_292) rfl ?_
          show Steps p.tables e below (T100.setTop (mkF m 294 #[.val (.long a1), .second, .val (.long a2), .second, .val (.long a3), .second, .val (.long a4), .second, .val (.long a5), .second, .val (.int a6), .val (.int zz), .val (.int hw2), .val (.long dd), .second, .val (.long st), .second, .val (.long pe), .second, .val (.long cy0), .second, .val (.int es), .val (.ref ob), .val (.long (own_of cy0 a1 a2 st pe)), .second, .val (.long wt), .second] [(.long (own_of cy0 a1 a2 st pe))])) _
          refine XS.lload X100.here hx rfl (hb hby at_294) rfl ?_
          show Steps p.tables e below (T100.setTop (mkF m 296 #[.val (.long a1), .second, .val (.long a2), .second, .val (.long a3), .second, .val (.long a4), .second, .val (.long a5), .second, .val (.int a6), .val (.int zz), .val (.int hw2), .val (.long dd), .second, .val (.long st), .second, .val (.long pe), .second, .val (.long cy0), .second, .val (.int es), .val (.ref ob), .val (.long (own_of cy0 a1 a2 st pe)), .second, .val (.long wt), .second] [(.long wt), (.long (own_of cy0 a1 a2 st pe))])) _
          refine XS.lcmp X100.here hx rfl (hb hby at_296) rfl ?_
          show Steps p.tables e below (T100.setTop (mkF m 297 #[.val (.long a1), .second, .val (.long a2), .second, .val (.long a3), .second, .val (.long a4), .second, .val (.long a5), .second, .val (.int a6), .val (.int zz), .val (.int hw2), .val (.long dd), .second, .val (.long st), .second, .val (.long pe), .second, .val (.long cy0), .second, .val (.int es), .val (.ref ob), .val (.long (own_of cy0 a1 a2 st pe)), .second, .val (.long wt), .second] [(.int (lcmpW (own_of cy0 a1 a2 st pe) wt))])) _
          refine XS.ifNo X100.here hx rfl (hb hby at_297) rfl ((if0 _ _).trans (teq ((lw_eq (own_of cy0 a1 a2 st pe) wt).mpr hwt)).2) ?_
          show Steps p.tables e below (T100.setTop (mkF m 300 #[.val (.long a1), .second, .val (.long a2), .second, .val (.long a3), .second, .val (.long a4), .second, .val (.long a5), .second, .val (.int a6), .val (.int zz), .val (.int hw2), .val (.long dd), .second, .val (.long st), .second, .val (.long pe), .second, .val (.long cy0), .second, .val (.int es), .val (.ref ob), .val (.long (own_of cy0 a1 a2 st pe)), .second, .val (.long wt), .second] [])) _
          refine XS.iconst X100.here hx rfl (hb hby at_300) ?_
          show Steps p.tables e below (T100.setTop (mkF m 301 #[.val (.long a1), .second, .val (.long a2), .second, .val (.long a3), .second, .val (.long a4), .second, .val (.long a5), .second, .val (.int a6), .val (.int zz), .val (.int hw2), .val (.long dd), .second, .val (.long st), .second, .val (.long pe), .second, .val (.long cy0), .second, .val (.int es), .val (.ref ob), .val (.long (own_of cy0 a1 a2 st pe)), .second, .val (.long wt), .second] [(.int (1 : Int32))])) _
          refine XS.goto X100.here hx rfl (pc0 := 301) (pc' := 305) rfl (hb hby at_301) (by decide) (by decide) ?_
          show Steps p.tables e below (T100.setTop (mkF m 305 #[.val (.long a1), .second, .val (.long a2), .second, .val (.long a3), .second, .val (.long a4), .second, .val (.long a5), .second, .val (.int a6), .val (.int zz), .val (.int hw2), .val (.long dd), .second, .val (.long st), .second, .val (.long pe), .second, .val (.long cy0), .second, .val (.int es), .val (.ref ob), .val (.long (own_of cy0 a1 a2 st pe)), .second, .val (.long wt), .second] [(.int (1 : Int32))])) _
          exact retN X100 hx (t := .boolean) Bd.returns (by simp) (hb hby at_305) hr
        · show own_Q0 Z a1 a2 a3 a4 a5 a6 h0 n0 _ T100.heap _
          rw [e100]
          exact ⟨rfl, N100⟩
set_option maxRecDepth 65536 in
set_option maxHeartbeats 40000000 in
theorem own_comes {Post : Tables → Env → Array Value → State → Outcome → State → Prop} (hpost : ∀ tb e args s v u, (limb_1_1.after args s (.returned v) u = true ∧ limb_1_2.after args s (.returned v) u = true ∧ True) → FrameEnd s (.returned v) u (Jvm.fieldLocs frame_1_writes args s ++ Jvm.arrayLocs frame_1_arrays args s ++ Jvm.staticLocs frame_1_statics s) 16 128 → Post tb e args s (.returned v) u) :
    ArmFor flags0 classFile x code maxLocals ret World_1 tables_1 room_1 Calls_1 rest_1 Pre_1 Post := by
  intro l hfl _ _ p e ha hc hk s m args below hf hA hF happ hP
  obtain ⟨hcalls, hrest, hpre⟩ := hP
  obtain ⟨-, -, -, hnamed, -, -, -, hat⟩ := (Spec.applies_iff hf).mp happ
  obtain ⟨hg, hn⟩ := and_e (Cond.before_iff.mp (show (Jvm.Cond.and given_1 narrow_1).before args s = true from hpre))
  obtain ⟨gc, ga0⟩ := and_e hg
  obtain ⟨gv0, ga1⟩ := and_e ga0
  obtain ⟨gv1, ga2⟩ := and_e ga1
  obtain ⟨gv2, ga3⟩ := and_e ga2
  obtain ⟨gv3, ga4⟩ := and_e ga3
  obtain ⟨gv4, ga5⟩ := and_e ga4
  obtain ⟨w0, w1, w2, w3, w4, w5, rfl⟩ : ∃ w0 w1 w2 w3 w4 w5 : Value, args = #[w0, w1, w2, w3, w4, w5] := by
    have hs : args.size = 6 := by simpa [Cond.value, given_1] using gc
    obtain ⟨L⟩ := args
    match L, hs with
    | [w0, w1, w2, w3, w4, w5], _ => exact ⟨w0, w1, w2, w3, w4, w5, rfl⟩
  have hw := fun d (hd : d ∈ tables_1) => atoms_spec (ws := Jvm.Cond.code x code maxLocals ret :: tables_1) hat d (List.mem_cons_of_mem _ hd)
  obtain ⟨i0, ei0⟩ := isL_v gv0
  obtain rfl : w0 = (.long i0) := Option.some.inj ei0
  obtain ⟨i1, ei1⟩ := isL_v gv1
  obtain rfl : w1 = (.long i1) := Option.some.inj ei1
  obtain ⟨i2, ei2⟩ := isL_v gv2
  obtain rfl : w2 = (.long i2) := Option.some.inj ei2
  obtain ⟨i3, ei3⟩ := isL_v gv3
  obtain rfl : w3 = (.long i3) := Option.some.inj ei3
  obtain ⟨i4, ei4⟩ := isL_v gv4
  obtain rfl : w4 = (.long i4) := Option.some.inj ei4
  obtain ⟨i5, ei5⟩ := is_v ga5
  obtain rfl : w5 = (.int i5) := Option.some.inj ei5
  obtain ⟨n, o, h1, h2, h3, _, L, rfl, ⟨rfl, N⟩, hq⟩ := own_rm0 l s _ hw tables_1 i0 i1 i2 i3 i4 i5 s.heap s.heap.size (Nat.le_refl _) p e ha hc hk s m _ below hf ((Spec.applies_iff_loose hf).mp happ).1 ⟨rfl, State.Warmed39.refl s, rfl⟩ trivial
  refine ⟨n, _, h1, h2, h3, hpost _ _ _ _ _ _ ⟨Cond.after_iff.mpr rfl, Cond.after_iff.mpr (eq_i res_at (Term.int_eval (1)) rfl), trivial⟩ ⟨hq.1, hq.2.1, (hq.2.2.sift fun y hy => Or.inr (N y hy)).mono (by decide) (by decide)⟩⟩
theorem main_1_1 : Claimed_1_1 := own_comes fun _ _ _ _ _ _ h hF => ⟨h.1, hF⟩
theorem main_1_2 : Claimed_1_2 := own_comes fun _ _ _ _ _ _ h hF => ⟨h.2.1, hF⟩
end Jvm.Pilot.@@N@@
namespace Jvm.Pilot.@@N@@
open Jvm Jvm.ClassFile Sem Op Lib Jvm.Free Jvm.Stand Jvm.Pilot.@@N@@.Jvm.D
/-! MADE BY PROGRAM (witnessworld.py) out of the Statement's table words and the real class files: 10 classes; the members and pool entries that the words name. The judged class is class 1, her method 1. -/
namespace start1
open Jvm.ClassFile
def u (s : String) : CpInfo := .utf8 (stringToUtf16 s)
/-- a pool by its gaps: so many unusable entries, then the entry; so many at the end -/
def gap : Nat → List CpInfo → List CpInfo
  | 0, r => r
  | n + 1, r => .unusable :: gap n r
def poolList (es : List (Nat × CpInfo)) (last : Nat) : List CpInfo := es.foldr (fun e r => gap e.1 (e.2 :: r)) (gap last [])
def pool (es : List (Nat × CpInfo)) (last : Nat) : Array CpInfo := ⟨poolList es last⟩
def fileOf (pool : Array CpInfo) (this : Nat) (attrs : Array Attribute := #[]) (ms : Array MethodInfo := #[]) (fl : Nat := 33) (sup : Nat := 0) (ifs : Array Nat := #[]) (fds : Array FieldInfo := #[]) : ClassFile where
  minorVersion := 0
  majorVersion := 65
  constantPool := pool
  accessFlags := fl
  thisClass := this
  superClass := sup
  interfaces := ifs
  fields := fds
  methods := ms
  attributes := attrs
def plain (name : String) (sup : Option ClassId) : Class where
  name := name
  kind := .ordinary
  loader := none
  accessFlags := 33
  super := sup
  interfaces := #[]
  cf := none
  fields := #[]
  methods := #[]
  instanceTypes := #[]
  staticTypes := #[]
  resolved := #[]
  callSites := []
  init := .initialized
  statics := none
  mirror := none

def pool0 : Array CpInfo := pool [(5, u "<init>"), (0, u "()V"), (1, .class_ 10), (1, u "java/lang/Object")] 113

def k0c0 : Code := { maxStack := 0, maxLocals := 1, code := object_method_1_code, exceptionTable := #[], attributes := #[] }
def k0m0 : Method := { name := "<init>", desc := "()V", sig := { parameters := [], returnType := none }, accessFlags := 1, code := some k0c0 }
/-- java/lang/Object -/
def k0 : Class := { plain "java/lang/Object" none with
  accessFlags := 33
  interfaces := #[]
  cf := some (fileOf pool0 8 #[] #[{ accessFlags := 1, nameIndex := 5, descriptorIndex := 6, attributes := #[] }] 33 0 #[] #[])
  fields := #[]
  methods := #[k0m0]
  instanceTypes := #[]
  staticTypes := #[]
  resolved := Array.replicate 124 none
  statics := none }

def pool1 : Array CpInfo := pool [(2, .class_ 4), (1, u "java/lang/Object"), (0, u "<init>"), (0, u "()V"), (2, .long 9223372036854775807), (1, .long 4611686018427387903), (1, .long 4294967295), (1, .long 1073741823), (1, .class_ 18), (0, u "com/example/paceline/paceline/sim/ServiceTimes"), (0, .methodref 17 20), (0, .nameAndType 5 21), (0, u "(JJJJ)V"), (0, .methodref 17 23), (0, .nameAndType 24 25), (0, u "of"), (0, u "(J)J"), (0, .class_ 27), (0, u "com/example/paceline/paceline/sim/ServiceTimesOfPinLaw"), (2, u "law"), (0, u "(JJJJJI)Z")] 3

def k1m0 : Method := { name := "<init>", desc := "()V", sig := { parameters := [], returnType := none }, accessFlags := 2, code := none }
def k1c1 : Code := { maxStack := 10, maxLocals := 27, code := code, exceptionTable := #[], attributes := #[] }
def k1m1 : Method := { name := "law", desc := "(JJJJJI)Z", sig := { parameters := [.long, .long, .long, .long, .long, .int], returnType := some .boolean }, accessFlags := 9, code := some k1c1 }
/-- com/example/paceline/paceline/sim/ServiceTimesOfPinLaw -/
def k1 : Class := { plain "com/example/paceline/paceline/sim/ServiceTimesOfPinLaw" (some 0) with
  accessFlags := 49
  interfaces := #[]
  cf := some (fileOf pool1 26 #[] #[{ accessFlags := 2, nameIndex := 5, descriptorIndex := 6, attributes := #[] }, { accessFlags := 9, nameIndex := 30, descriptorIndex := 31, attributes := #[] }] 49 2 #[] #[])
  fields := #[]
  methods := #[k1m0, k1m1]
  instanceTypes := #[]
  staticTypes := #[]
  resolved := Array.replicate 35 none
  statics := none }

def pool2 : Array CpInfo := pool [(1, .methodref 2 3), (0, .class_ 4), (0, .nameAndType 5 6), (0, u "java/lang/Object"), (0, u "<init>"), (0, u "()V"), (0, .class_ 8), (0, u "java/lang/Record")] 13

def k2c0 : Code := { maxStack := 1, maxLocals := 1, code := jdk_30_method_1_code, exceptionTable := #[], attributes := #[] }
def k2m0 : Method := { name := "<init>", desc := "()V", sig := { parameters := [], returnType := none }, accessFlags := 4, code := some k2c0 }
/-- java/lang/Record -/
def k2 : Class := { plain "java/lang/Record" (some 0) with
  accessFlags := 1057
  interfaces := #[]
  cf := some (fileOf pool2 7 #[] #[{ accessFlags := 4, nameIndex := 5, descriptorIndex := 6, attributes := #[] }] 1057 2 #[] #[])
  fields := #[]
  methods := #[k2m0]
  instanceTypes := #[]
  staticTypes := #[]
  resolved := Array.replicate 22 none
  statics := none }

def pool3 : Array CpInfo := pool [(1, .methodref 2 3), (0, .class_ 4), (0, .nameAndType 5 6), (0, u "java/lang/Record"), (0, u "<init>"), (0, u "()V"), (0, .fieldref 8 9), (0, .class_ 10), (0, .nameAndType 11 12), (0, u "com/example/paceline/paceline/sim/ServiceTimes"), (0, u "usual"), (0, u "J"), (0, .fieldref 8 14), (0, .nameAndType 15 12), (0, u "stalled"), (0, .fieldref 8 17), (0, .nameAndType 18 12), (0, u "stallCycle"), (0, .fieldref 8 20), (0, .nameAndType 21 12), (0, u "period"), (12, u "(JJJJ)V"), (3, u "of"), (0, u "(J)J")] 28

def k3c0 : Code := { maxStack := 3, maxLocals := 9, code := prog_53_method_1_code, exceptionTable := #[], attributes := #[] }
def k3m0 : Method := { name := "<init>", desc := "(JJJJ)V", sig := { parameters := [.long, .long, .long, .long], returnType := none }, accessFlags := 0, code := some k3c0 }
def k3c1 : Code := { maxStack := 6, maxLocals := 4, code := prog_53_method_2_code, exceptionTable := #[], attributes := #[] }
def k3m1 : Method := { name := "of", desc := "(J)J", sig := { parameters := [.long], returnType := some .long }, accessFlags := 0, code := some k3c1 }
/-- com/example/paceline/paceline/sim/ServiceTimes -/
def k3 : Class := { plain "com/example/paceline/paceline/sim/ServiceTimes" (some 2) with
  accessFlags := 48
  interfaces := #[]
  cf := some (fileOf pool3 8 #[] #[{ accessFlags := 0, nameIndex := 5, descriptorIndex := 34, attributes := #[] }, { accessFlags := 0, nameIndex := 38, descriptorIndex := 39, attributes := #[] }] 48 2 #[] #[{ accessFlags := 18, nameIndex := 11, descriptorIndex := 12, attributes := #[] }, { accessFlags := 18, nameIndex := 15, descriptorIndex := 12, attributes := #[] }, { accessFlags := 18, nameIndex := 18, descriptorIndex := 12, attributes := #[] }, { accessFlags := 18, nameIndex := 21, descriptorIndex := 12, attributes := #[] }])
  fields := #[{ name := "usual", type := .long, accessFlags := 18, slot := 0, constantValue := 0 }, { name := "stalled", type := .long, accessFlags := 18, slot := 1, constantValue := 0 }, { name := "stallCycle", type := .long, accessFlags := 18, slot := 2, constantValue := 0 }, { name := "period", type := .long, accessFlags := 18, slot := 3, constantValue := 0 }]
  methods := #[k3m0, k3m1]
  instanceTypes := #[.long, .long, .long, .long]
  staticTypes := #[]
  resolved := Array.replicate 68 none
  statics := none }

def pool4 : Array CpInfo := pool [(1, u "java/lang/Cloneable"), (0, .class_ 1), (0, u "java/lang/Object"), (0, .class_ 3)] 3

/-- java/lang/Cloneable -/
def k4 : Class := { plain "java/lang/Cloneable" (some 0) with
  accessFlags := 1537
  interfaces := #[]
  cf := some (fileOf pool4 2 #[] #[] 1537 4 #[] #[])
  fields := #[]
  methods := #[]
  instanceTypes := #[]
  staticTypes := #[]
  resolved := Array.replicate 8 none
  statics := none }

def pool5 : Array CpInfo := pool [(1, u "java/io/Serializable"), (0, .class_ 1), (0, u "java/lang/Object"), (0, .class_ 3)] 3

/-- java/io/Serializable -/
def k5 : Class := { plain "java/io/Serializable" (some 0) with
  accessFlags := 1537
  interfaces := #[]
  cf := some (fileOf pool5 2 #[] #[] 1537 4 #[] #[])
  fields := #[]
  methods := #[]
  instanceTypes := #[]
  staticTypes := #[]
  resolved := Array.replicate 8 none
  statics := none }

/-- the primitive byte -/
def k6 : Class := { plain "byte" none with kind := .primitive 'B', accessFlags := 0x411 }
/-- [B -/
def k7 : Class := { plain "[B" (some 0) with kind := .array 6 .byte, interfaces := #[4, 5], accessFlags := 1041 }

/-- the primitive int -/
def k8 : Class := { plain "int" none with kind := .primitive 'I', accessFlags := 0x411 }
/-- [I -/
def k9 : Class := { plain "[I" (some 0) with kind := .array 8 .int, interfaces := #[4, 5], accessFlags := 1041 }

def heap : Heap := #[]
def classes : Array Class := #[k0, k1, k2, k3, k4, k5, k6, k7, k8, k9]
def interned : List (Array UInt16 × Addr) := []
def slotsUsed : Nat := 0
def theMethod : MethodId := ⟨1, 1⟩
def args0 : Array Value := #[.long 5, .long 6, .long 7, .long 8, .long 9, .int 0]
def aboutOver (below : List Frame) : State where
  vm := { classes := classes, interned := interned.toArray }
  heap := heap
  slotsUsed := slotsUsed
  threads := #[{ frames := .invoking theMethod args0 :: below }]
def below0 : List Frame := [.native { method := ⟨0, 0⟩, args := #[] }]
def about1 : State := aboutOver below0
def p0 : Program := .bare "" "" ""
def e0 : Env := launch0.env 0 0 0
theorem w_frames : about1.frames = Frame.invoking theMethod args0 :: below0 := rfl
set_option maxRecDepth 65536 in
theorem w_args : argsFit about1.vm theMethod args0 = true := by decide +kernel
set_option maxRecDepth 65536 in
theorem w_heap : heapFits about1 = true := by decide +kernel
set_option maxRecDepth 65536 in
theorem w_runnable : about1.curStatus? = some .runnable := by decide +kernel
set_option maxRecDepth 65536 in
theorem w_alone : about1.alone = true := by decide +kernel
set_option maxRecDepth 65536 in
theorem w_named : about1.methodNamed? x = some theMethod := by decide +kernel
set_option maxRecDepth 65536 in
theorem w_hears : about1.hears theMethod below0 = true := by decide +kernel
set_option maxRecDepth 65536 in
theorem w_ripe : about1.ripe theMethod args0 below0 = true := by decide +kernel
theorem w_running : about1.status = .running := rfl
set_option maxRecDepth 65536 in
theorem w_room : about1.hasRoom e0.platform room_1 = true :=
  launch0.hasRoom_least _ room_1 (by decide +kernel) (by decide +kernel) (by decide +kernel) (by decide +kernel) (by decide +kernel) (by decide +kernel)
theorem allAtoms_all (ts : List Jvm.Cond) (a : Array Jvm.Value) (st : Jvm.State) : (allAtoms ts).before a st = ts.all (fun c => c.before a st) := by
  induction ts with
  | nil => rfl
  | cons c t ih =>
    show (Jvm.Cond.and c (allAtoms t)).before a st = _
    rw [Jvm.Cond.before_and, ih, List.all_cons]
def words1 : List Jvm.Cond := Jvm.Cond.code x code maxLocals ret :: tables_1
/-- a 'code' word, met by the world's own term for the bytes: nothing is compared byte by byte -/
theorem code_word {y : MethodName} {bytes : ByteArray} {mx : Nat} {rt : Option FieldType} {a : Array Value} {s : State} {m : MethodId} {meth : Method} {c : Code} (h1 : s.methodNamed? y = some m) (h2 : s.vm.method? m = some meth) (h3 : meth.code = some c) (h4 : c.code = bytes)
    (h5 : (c.maxLocals == mx && c.exceptionTable.isEmpty && decide (c.maxStack ≤ mostOperands) && decide (meth.sig.returnType = rt) && !meth.locks && decide (parseMethodDescriptor y.desc = some meth.sig)) = true) : (Jvm.Cond.code y bytes mx rt).before a s = true := by
  simp only [Bool.and_eq_true, beq_iff_eq, Bool.not_eq_true', decide_eq_true_eq] at h5
  obtain ⟨⟨⟨⟨⟨g1, g2⟩, g3⟩, g4⟩, g5⟩, g6⟩ := h5
  simp [Cond.before, Cond.holds, Cond.value, h1, h2, h3, h4, g1, g2, g3, g4, g5, g6]
def isCode : Jvm.Cond → Bool
  | .code _ _ _ _ => true
  | _ => false
theorem all_split {L : List Jvm.Cond} {P : Jvm.Cond → Bool} (h1 : L.all (fun c => isCode c || P c) = true) (h2 : ∀ c ∈ L.filter isCode, P c = true) : L.all P = true := by
  refine List.all_eq_true.mpr fun c hc => ?_
  have h := List.all_eq_true.mp h1 c hc
  rcases Bool.eq_false_or_eq_true (isCode c) with hi | hi
  · exact h2 c (List.mem_filter.mpr ⟨hc, hi⟩)
  · simpa [hi] using h
set_option maxRecDepth 65536 in
theorem w_c0 : (Jvm.Cond.code x code maxLocals ret).before args0 about1 = true := code_word (m := ⟨1, 1⟩) (meth := k1m1) (c := k1c1) (by decide +kernel) rfl rfl rfl (by decide +kernel)
set_option maxRecDepth 65536 in
theorem w_c1 : (Jvm.Cond.code ({ cls := "com/example/paceline/paceline/sim/ServiceTimes", name := "<init>", desc := "(JJJJ)V" } : Jvm.MethodName) prog_53_method_1_code (9 : Nat) (Option.none : Option Jvm.ClassFile.FieldType)).before args0 about1 = true := code_word (m := ⟨3, 0⟩) (meth := k3m0) (c := k3c0) (by decide +kernel) rfl rfl rfl (by decide +kernel)
set_option maxRecDepth 65536 in
theorem w_c2 : (Jvm.Cond.code ({ cls := "java/lang/Record", name := "<init>", desc := "()V" } : Jvm.MethodName) jdk_30_method_1_code (1 : Nat) (Option.none : Option Jvm.ClassFile.FieldType)).before args0 about1 = true := code_word (m := ⟨2, 0⟩) (meth := k2m0) (c := k2c0) (by decide +kernel) rfl rfl rfl (by decide +kernel)
set_option maxRecDepth 65536 in
theorem w_c3 : (Jvm.Cond.code ({ cls := "java/lang/Object", name := "<init>", desc := "()V" } : Jvm.MethodName) object_method_1_code (1 : Nat) (Option.none : Option Jvm.ClassFile.FieldType)).before args0 about1 = true := code_word (m := ⟨0, 0⟩) (meth := k0m0) (c := k0c0) (by decide +kernel) rfl rfl rfl (by decide +kernel)
set_option maxRecDepth 65536 in
theorem w_c4 : (Jvm.Cond.code ({ cls := "com/example/paceline/paceline/sim/ServiceTimes", name := "of", desc := "(J)J" } : Jvm.MethodName) prog_53_method_2_code (4 : Nat) (Option.some Jvm.ClassFile.FieldType.long)).before args0 about1 = true := code_word (m := ⟨3, 1⟩) (meth := k3m1) (c := k3c1) (by decide +kernel) rfl rfl rfl (by decide +kernel)
def codes1 : List Jvm.Cond := [Jvm.Cond.code x code maxLocals ret, Jvm.Cond.code ({ cls := "com/example/paceline/paceline/sim/ServiceTimes", name := "<init>", desc := "(JJJJ)V" } : Jvm.MethodName) prog_53_method_1_code (9 : Nat) (Option.none : Option Jvm.ClassFile.FieldType), Jvm.Cond.code ({ cls := "java/lang/Record", name := "<init>", desc := "()V" } : Jvm.MethodName) jdk_30_method_1_code (1 : Nat) (Option.none : Option Jvm.ClassFile.FieldType), Jvm.Cond.code ({ cls := "java/lang/Object", name := "<init>", desc := "()V" } : Jvm.MethodName) object_method_1_code (1 : Nat) (Option.none : Option Jvm.ClassFile.FieldType), Jvm.Cond.code ({ cls := "com/example/paceline/paceline/sim/ServiceTimes", name := "of", desc := "(J)J" } : Jvm.MethodName) prog_53_method_2_code (4 : Nat) (Option.some Jvm.ClassFile.FieldType.long)]
set_option maxRecDepth 65536 in
theorem codes_eq : words1.filter isCode = codes1 := rfl
theorem w_codes : ∀ c ∈ words1.filter isCode, c.before args0 about1 = true := by
  rw [codes_eq]
  intro c hc
  simp only [codes1, List.mem_cons, List.not_mem_nil, or_false] at hc
  rcases hc with rfl | rfl | rfl | rfl | rfl
  · exact w_c0
  · exact w_c1
  · exact w_c2
  · exact w_c3
  · exact w_c4
set_option maxRecDepth 65536 in
theorem w_t1 : (words1.take 24).all (fun c => isCode c || c.before args0 about1) = true := by decide +kernel
set_option maxRecDepth 65536 in
theorem w_t2 : (words1.drop 24).all (fun c => isCode c || c.before args0 about1) = true := by decide +kernel
theorem w_tables : (allAtoms (Jvm.Cond.code x code maxLocals ret :: tables_1)).before args0 about1 = true := by
  rw [allAtoms_all]
  show words1.all (fun c => c.before args0 about1) = true
  refine all_split ?_ w_codes
  rw [← List.take_append_drop 24 words1, List.all_append, w_t1, w_t2]
  rfl
set_option maxRecDepth 65536 in
theorem w_case : (Jvm.Cond.and given_1 narrow_1).before args0 about1 = true := by decide +kernel
theorem w_applies : (headSpec (Jvm.Cond.code x code maxLocals ret :: tables_1) room_1).applies x e0.platform about1 = true :=
  (Spec.applies_iff w_frames).mpr ⟨w_running, w_runnable, w_alone, w_named, w_hears, w_ripe, w_room, w_tables⟩
theorem atStart : AtStart classFile x code maxLocals ret World_1 tables_1 room_1 Calls_1 rest_1 Pre_1 launch0 p0 e0 about1 theMethod args0 below0 :=
  ⟨lists_1, trivial, launch0.admits_env _ _ _, launch0.least_env, fairChoices_fair.cas, fairChoices_fair.clock, w_frames, w_args, w_heap, w_applies, trivial, trivial, w_case⟩
end start1
theorem witness_1 : WitnessClaimed_1 := ⟨start1.p0, start1.e0, start1.about1, start1.theMethod, start1.args0, start1.below0, start1.atStart⟩
end Jvm.Pilot.@@N@@
