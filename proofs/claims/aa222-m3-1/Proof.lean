import JvmDerived
import JvmDerived.Pilot.@@N@@Statement
import JvmDerived.Pilot.@@N@@Code
set_option linter.unusedVariables false
set_option linter.unusedSimpArgs false
namespace Jvm.RoadKit
open Sem ClassFile Op Lib Jvm.Stand Jvm.Free Jvm.LawKit
section New
variable {p : Program} {l : Launch} {e : Env} {R : Room} {s : State} {m : MethodId} {args : Array Value} {below : List Frame} {meth : Method} {c : Code} {T : State} {locs : List Loc} {cells slots : Nat}
theorem retI (X : Stand p l e R s m args below meth c T locs cells slots) (hx : p.tables.exec = Jvm.exec) {pc : Nat} {Ls : Array Slot} {z : Int32} {rest : List Value} (hret : meth.sig.returnType = some .int) (hd : decode c.code pc = .ok (.ireturn, 1)) {fs : List Frame}
    (hl : ∀ (f : JFrame) (acts : List Action), f.method = m → f.locked = none → f.entered = [] → (doReturn e (T.setTop f) acts (some (.int z))).1 = T.setFrames fs) : Steps p.tables e below (T.setTop (mkF m pc Ls (.int z :: rest))) (T.setFrames fs) := by
  have hm' : T.vm.method? m = some meth := X.method'
  have hn : narrow .int (.int z) = .int z := rfl
  show Steps p.tables e below (T.setTop { method := m, pc := pc, locals := Ls, stack := _ :: rest, locked := none }) _
  jvm_step X.here [X.here.top, hx, hd, hm', hret, hn]
  first | (intro acts; rw [hl _ acts rfl rfl rfl]) | rw [hl _ _ rfl rfl rfl]
  exact Steps.refl _
end New
end Jvm.RoadKit
namespace Jvm.Pilot.@@N@@
open Jvm Jvm.ClassFile Sem Op Lib Jvm.Free Jvm.Stand Jvm.LawKit Jvm.RoadKit Bundle Jvm.Pilot.@@N@@.Jvm.D
section OwnKit
variable {p : Program} {l : Launch} {e : Env} {R : Room} {s : State} {m : MethodId} {args : Array Value} {below : List Frame} {meth : Method} {c : Code} {T : State} {locs : List Loc} {cells slots : Nat} {Z : State} {h h' : Heap} {a b : Addr} {ty : FieldType} {n : Nat} {f : Nat → Value}
/-- an array by its length and the value at each place -/
def own_AF (Z : State) (h : Heap) (a : Addr) (ty : FieldType) (n : Nat) (f : Nat → Value) : Prop := ∃ c : Cell, Arr Z h a c ty ∧ c.slots.size = n ∧ n < 2 ^ 31 ∧ ∀ i, i < n → c.slots[i]? = some (f i)
theorem own_AF.lt (F : own_AF Z h a ty n f) : a < h.size := by obtain ⟨c, A, -⟩ := F; exact A.lt
theorem own_AF.ext (F : own_AF Z h a ty n f) (E : Ext h h') : own_AF Z h' a ty n f := by obtain ⟨c, A, r⟩ := F; exact ⟨c, A.ext E, r⟩
theorem own_AF.other {sl : Nat} {v : Value} (F : own_AF Z h b ty n f) (W : Wr h h' a sl v) (q : b ≠ a) : own_AF Z h' b ty n f := by obtain ⟨c, A, r⟩ := F; exact ⟨c, A.other W q, r⟩
theorem own_AF.keep {ws : List Addr} (F : own_AF Z h a ty n f) (K : Keep h h' ws) (q : a ∉ ws) : own_AF Z h' a ty n f := by obtain ⟨c, A, r⟩ := F; exact ⟨c, ⟨K.2.1 a c A.1 q, A.2⟩, r⟩
theorem own_AF.congr {g : Nat → Value} (F : own_AF Z h a ty n f) (q : ∀ i, i < n → f i = g i) : own_AF Z h a ty n g := by
  obtain ⟨c, A, r1, r2, r3⟩ := F; exact ⟨c, A, r1, r2, fun i hi => by rw [r3 i hi, q i hi]⟩
theorem own_AF.set {j : Nat} {v : Value} (F : own_AF Z h a ty n f) (W : Wr h h' a j v) : own_AF Z h' a ty n (fun i => if i = j then v else f i) := by
  obtain ⟨c, A, r1, r2, r3⟩ := F
  obtain ⟨cb', q1, q2, q3, q4, -, q6, q7⟩ := wr_at W A.1
  obtain ⟨e1, e2, -⟩ := q7 rfl
  refine ⟨_, A.same W, ?_, r2, fun i hi => ?_⟩
  · rw [sz_set]; exact r1
  · rw [← e1]
    by_cases hij : i = j
    · subst hij; simp only [if_true]; exact e2
    · rw [q6 i hij, r3 i hi]; simp only [hij, if_false]
theorem own_AF.new {k : ClassId} {z : Int32} {d : Value} (A : Arr Z h a (newA k ty z) ty) (q : ¬ z < 0) (hn : z.toNatClampNeg = n) (hd : defaultValue ty = d := by rfl) : own_AF Z h a ty n (fun _ => d) := by
  subst hn
  refine ⟨_, A, sz_new _ _ _, (back32 q).2, fun i hi => ?_⟩
  simp [newA, hi, hd]
theorem own_AF.inb {c : Cell} {j : Int32} {k : Nat} (S : c.slots.size = n) (h1 : ¬ j < 0) (hk : j.toNatClampNeg = k) (h2 : k < n) : ¬ (j < 0 ∨ c.slots.size ≤ j.toNatClampNeg) := by
  rw [S, hk]; exact fun q => q.elim h1 fun q => by omega
theorem own_ldI (X : Stand p l e R s m args below meth c T locs cells slots) (hx : p.tables.exec = Jvm.exec) (hZ : Z.Warmed39 s.vm) (eT : T.heap = h) (A : own_AF Z h a .int n f) {j : Int32} (h1 : ¬ j < 0) {k : Nat} (hk : j.toNatClampNeg = k) (h2 : k < n) {v : Value} (hv : f k = v)
    {g : JFrame} (hg : g.method = m) {rest : List Value} (hs : g.stack = .int j :: .ref a :: rest) (hd : decode c.code g.pc = .ok (.iaload, 1)) (target : State)
    (hr : Steps p.tables e below (T.setTop { g with pc := g.pc + 1, stack := v :: rest }) target) : Steps p.tables e below (T.setTop g) target := by
  obtain ⟨cl, A, r1, r2, r3⟩ := A
  exact X.iaload hx (by rw [eT]; exact A.1) (State.isArrayOf_alike hZ.alike A.2.1) A.2.2 (own_AF.inb r1 h1 hk h2) (by rw [hk, ← hv]; exact r3 k h2) hg hs hd _ hr
theorem own_ldJ (X : Stand p l e R s m args below meth c T locs cells slots) (hx : p.tables.exec = Jvm.exec) (hZ : Z.Warmed39 s.vm) (eT : T.heap = h) (A : own_AF Z h a .long n f) {j : Int32} (h1 : ¬ j < 0) {k : Nat} (hk : j.toNatClampNeg = k) (h2 : k < n) {v : Value} (hv : f k = v)
    {g : JFrame} (hg : g.method = m) {rest : List Value} (hs : g.stack = .int j :: .ref a :: rest) (hd : decode c.code g.pc = .ok (.laload, 1)) (target : State)
    (hr : Steps p.tables e below (T.setTop { g with pc := g.pc + 1, stack := v :: rest }) target) : Steps p.tables e below (T.setTop g) target := by
  obtain ⟨cl, A, r1, r2, r3⟩ := A
  exact X.laload hx (by rw [eT]; exact A.1) (State.isArrayOf_alike hZ.alike A.2.1) A.2.2 (own_AF.inb r1 h1 hk h2) (by rw [hk, ← hv]; exact r3 k h2) hg hs hd _ hr
theorem own_ldB (X : Stand p l e R s m args below meth c T locs cells slots) (hx : p.tables.exec = Jvm.exec) (hZ : Z.Warmed39 s.vm) (eT : T.heap = h) (A : own_AF Z h a .byte n f) {j : Int32} (h1 : ¬ j < 0) {k : Nat} (hk : j.toNatClampNeg = k) (h2 : k < n) {v : Value} (hv : f k = v)
    {g : JFrame} (hg : g.method = m) {rest : List Value} (hs : g.stack = .int j :: .ref a :: rest) (hd : decode c.code g.pc = .ok (.baload, 1)) (target : State)
    (hr : Steps p.tables e below (T.setTop { g with pc := g.pc + 1, stack := v :: rest }) target) : Steps p.tables e below (T.setTop g) target := by
  obtain ⟨cl, A, r1, r2, r3⟩ := A
  exact X.baloadBytes hx (by rw [eT]; exact A.1) (State.isArrayOf_alike hZ.alike A.2.1) A.2.2 (own_AF.inb r1 h1 hk h2) (by rw [hk, ← hv]; exact r3 k h2) hg hs hd _ hr
theorem own_ldZ (X : Stand p l e R s m args below meth c T locs cells slots) (hx : p.tables.exec = Jvm.exec) (hZ : Z.Warmed39 s.vm) (eT : T.heap = h) (A : own_AF Z h a .boolean n f) {j : Int32} (h1 : ¬ j < 0) {k : Nat} (hk : j.toNatClampNeg = k) (h2 : k < n) {v : Value} (hv : f k = v)
    {g : JFrame} (hg : g.method = m) {rest : List Value} (hs : g.stack = .int j :: .ref a :: rest) (hd : decode c.code g.pc = .ok (.baload, 1)) (target : State)
    (hr : Steps p.tables e below (T.setTop { g with pc := g.pc + 1, stack := v :: rest }) target) : Steps p.tables e below (T.setTop g) target := by
  obtain ⟨cl, A, r1, r2, r3⟩ := A
  exact X.baloadBooleans hx (by rw [eT]; exact A.1) (State.isArrayOf_alike hZ.alike A.2.1) A.2.2 (own_AF.inb r1 h1 hk h2) (by rw [hk, ← hv]; exact r3 k h2) hg hs hd _ hr
theorem own_len (X : Stand p l e R s m args below meth c T locs cells slots) (hx : p.tables.exec = Jvm.exec) (hZ : Z.Warmed39 s.vm) (eT : T.heap = h) (A : own_AF Z h a ty n f) {z : Int32} (hz : n.toInt32 = z)
    {g : JFrame} (hg : g.method = m) {rest : List Value} (hs : g.stack = .ref a :: rest) (hd : decode c.code g.pc = .ok (.arraylength, 1)) (target : State)
    (hr : Steps p.tables e below (T.setTop { g with pc := g.pc + 1, stack := .int z :: rest }) target) : Steps p.tables e below (T.setTop g) target := by
  obtain ⟨cl, A, r1, r2, r3⟩ := A
  exact X.arraylength hx (by rw [eT]; exact A.1) (State.isArrayOf_alike hZ.alike A.2.1) hg hs hd _ (by rw [r1, hz]; exact hr)
theorem own_stI (X : Stand p l e R s m args below meth c T locs cells slots) (hx : p.tables.exec = Jvm.exec) (hZ : Z.Warmed39 s.vm) (eT : T.heap = h) (A : own_AF Z h a .int n f) {j x : Int32} (h1 : ¬ j < 0) {k : Nat} (hk : j.toNatClampNeg = k) (h2 : k < n)
    {g : JFrame} (hg : g.method = m) {rest : List Value} (hs : g.stack = .int x :: .int j :: .ref a :: rest) (hd : decode c.code g.pc = .ok (.iastore, 1)) :
    ∃ T' h', Stand p l e R s m args below meth c T' (locs ++ [⟨a, k⟩]) cells slots ∧ T'.heap = h' ∧ Wr h h' a k (.int x) ∧ own_AF Z h' a .int n (fun i => if i = k then .int x else f i) ∧ ∀ target, Steps p.tables e below (T'.setTop { g with pc := g.pc + 1, stack := rest }) target → Steps p.tables e below (T.setTop g) target := by
  obtain ⟨cl, A', r1, r2, r3⟩ := id A
  obtain ⟨T', h', X', e', W', st⟩ := stI X hx hZ eT A' (own_AF.inb r1 h1 hk h2) hg hs hd
  subst hk
  exact ⟨T', h', X', e', W', A.set W', st⟩
theorem own_stJ (X : Stand p l e R s m args below meth c T locs cells slots) (hx : p.tables.exec = Jvm.exec) (hZ : Z.Warmed39 s.vm) (eT : T.heap = h) (A : own_AF Z h a .long n f) {j : Int32} {x : Int64} (h1 : ¬ j < 0) {k : Nat} (hk : j.toNatClampNeg = k) (h2 : k < n)
    {g : JFrame} (hg : g.method = m) {rest : List Value} (hs : g.stack = .long x :: .int j :: .ref a :: rest) (hd : decode c.code g.pc = .ok (.lastore, 1)) :
    ∃ T' h', Stand p l e R s m args below meth c T' (locs ++ [⟨a, k⟩]) cells slots ∧ T'.heap = h' ∧ Wr h h' a k (.long x) ∧ own_AF Z h' a .long n (fun i => if i = k then .long x else f i) ∧ ∀ target, Steps p.tables e below (T'.setTop { g with pc := g.pc + 1, stack := rest }) target → Steps p.tables e below (T.setTop g) target := by
  obtain ⟨cl, A', r1, r2, r3⟩ := id A
  obtain ⟨T', h', X', e', W', st⟩ := stJ X hx hZ eT A' (own_AF.inb r1 h1 hk h2) hg hs hd
  subst hk
  exact ⟨T', h', X', e', W', A.set W', st⟩
theorem own_stB (X : Stand p l e R s m args below meth c T locs cells slots) (hx : p.tables.exec = Jvm.exec) (hZ : Z.Warmed39 s.vm) (eT : T.heap = h) (A : own_AF Z h a .byte n f) {j x : Int32} (h1 : ¬ j < 0) {k : Nat} (hk : j.toNatClampNeg = k) (h2 : k < n)
    {g : JFrame} (hg : g.method = m) {rest : List Value} (hs : g.stack = .int x :: .int j :: .ref a :: rest) (hd : decode c.code g.pc = .ok (.bastore, 1)) :
    ∃ T' h', Stand p l e R s m args below meth c T' (locs ++ [⟨a, k⟩]) cells slots ∧ T'.heap = h' ∧ Wr h h' a k (.int (nar .byte x)) ∧ own_AF Z h' a .byte n (fun i => if i = k then .int (nar .byte x) else f i) ∧ ∀ target, Steps p.tables e below (T'.setTop { g with pc := g.pc + 1, stack := rest }) target → Steps p.tables e below (T.setTop g) target := by
  obtain ⟨cl, A', r1, r2, r3⟩ := id A
  obtain ⟨T', h', X', e', W', st⟩ := stB X hx hZ eT A' (own_AF.inb r1 h1 hk h2) hg hs hd
  subst hk
  exact ⟨T', h', X', e', W', A.set W', st⟩
theorem own_stZ (X : Stand p l e R s m args below meth c T locs cells slots) (hx : p.tables.exec = Jvm.exec) (hZ : Z.Warmed39 s.vm) (eT : T.heap = h) (A : own_AF Z h a .boolean n f) {j x : Int32} (h1 : ¬ j < 0) {k : Nat} (hk : j.toNatClampNeg = k) (h2 : k < n)
    {g : JFrame} (hg : g.method = m) {rest : List Value} (hs : g.stack = .int x :: .int j :: .ref a :: rest) (hd : decode c.code g.pc = .ok (.bastore, 1)) :
    ∃ T' h', Stand p l e R s m args below meth c T' (locs ++ [⟨a, k⟩]) cells slots ∧ T'.heap = h' ∧ Wr h h' a k (.int (nar .boolean x)) ∧ own_AF Z h' a .boolean n (fun i => if i = k then .int (nar .boolean x) else f i) ∧ ∀ target, Steps p.tables e below (T'.setTop { g with pc := g.pc + 1, stack := rest }) target → Steps p.tables e below (T.setTop g) target := by
  obtain ⟨cl, A', r1, r2, r3⟩ := id A
  obtain ⟨T', h', X', e', W', st⟩ := stZ X hx hZ eT A' (own_AF.inb r1 h1 hk h2) hg hs hd
  subst hk
  exact ⟨T', h', X', e', W', A.set W', st⟩
theorem own_lremM {g : JFrame} {target : State} (X : Stand p l e R s m args below meth c T locs cells slots) (hx : p.tables.exec = Jvm.exec) (hg : g.method = m) {x y : Int64} {rest : List Value} (hd : decode c.code g.pc = .ok (.lrem, 1)) (hs : g.stack = .long y :: .long x :: rest) (hy : y ≠ 0)
    (hr : Steps p.tables e below (T.setTop { g with pc := g.pc + 1, stack := .long (x % y) :: rest }) target) : Steps p.tables e below (T.setTop g) target :=
  XS.lrem X.here hx hg hd hs hy (by rw [lrem_mod x y]; exact hr)
theorem own_cloneI {a0 : Array Value} (X : Stand p l e R s m args below meth c T locs cells slots) (hx : p.tables.exec = Jvm.exec) (hZ : Z.Warmed39 s.vm) {own : String} {index : Nat} (hown : s.vm.findClass own = some m.cls)
    (w1 : (Cond.methodLink own index ⟨"[I", "clone", "()Ljava/lang/Object;"⟩).before a0 Z = true) (w2 : (Cond.sameMethod "[I" "java/lang/Object" "clone" "()Ljava/lang/Object;").before a0 Z = true) (w3 : (Cond.native ⟨"java/lang/Object", "clone", "()Ljava/lang/Object;"⟩).before a0 Z = true)
    (w4 : (Cond.instanceMethod ⟨"java/lang/Object", "clone", "()Ljava/lang/Object;"⟩).before a0 Z = true) (w5 : (Cond.selects "[I" ⟨"[I", "clone", "()Ljava/lang/Object;"⟩ ⟨"java/lang/Object", "clone", "()Ljava/lang/Object;"⟩).before a0 Z = true) (w6 : (Cond.castable "[I" "java/lang/Cloneable").before a0 Z = true)
    (eT : T.heap = h) (F : own_AF Z h a .int n f) (E : Exa Z h a "[I") (hfit : ∀ i, i < n → fits .int (f i) = true) {g : JFrame} (hg : g.method = m) (hsize : g.locals.size = c.maxLocals) {rest : List Value} (hs : g.stack = .ref a :: rest) (hd : decode c.code g.pc = .ok (.invokevirtual index, 3))
    (hf : 1 ≤ R.frames) {W cap : Nat} (hW : 2 * g.monitorRoom + (rest.map fun v => v.category).sum ≤ W) (hl : W + 14 ≤ R.locals) (hcap : n ≤ cap) (hc : cells + 1 ≤ R.cells) (hsl : slots + cap ≤ R.slots) :
    ∃ T' h', Stand p l e R s m args below meth c T' locs (cells + 1) (slots + cap) ∧ T'.heap = h' ∧ Ext h h' ∧ own_AF Z h' h.size .int n f ∧ Exa Z h' h.size "[I" ∧
      ∀ target, Steps p.tables e below (T'.setTop { g with pc := g.pc + 3, stack := .ref h.size :: rest }) target → Steps p.tables e below (T.setTop g) target := by
  obtain ⟨cl, A, r1, r2, r3⟩ := F
  have FC : FitC Z cl := fitC_of A fun i hi v hv => by rw [r3 i (by omega)] at hv; cases hv; exact hfit i (by omega)
  obtain ⟨T', h', X', e', ex, A', E', st⟩ := cloneA X hx hZ hown w1 w2 w3 w4 w5 w6 eT A E FC hg hsize hs hd hf hW hl (by rw [r1]; exact hcap) hc hsl
  exact ⟨T', h', X', e', ex, ⟨cloneOf cl, A', r1, r2, r3⟩, E', st⟩
end OwnKit
def own_at (d : Int64) (b : Int32) : Int32 := if d < ((1 : Int64) <<< (b &&& 0x3f).toInt64) then 0 else 1
def own_cnt (d : Int64) : Int32 := (((((((((2 : Int32) + (own_at d (7 : Int32))) + (own_at d (14 : Int32))) + (own_at d (21 : Int32))) + (own_at d (28 : Int32))) + (own_at d (35 : Int32))) + (own_at d (42 : Int32))) + (own_at d (49 : Int32))) + (own_at d (56 : Int32)))
def own_mm (pf : Int32) : Int64 := ((((1 : Int32) <<< (pf &&& 31)) - (1 : Int32)).toInt64)
def own_len9 (pf : Int32) (nu : Int64) : Int32 := if nu < own_mm pf then 1 else own_cnt (nu - own_mm pf)
theorem own_at0 {d : Int64} {b : Int32} {N : Int} (hN : ((1 : Int64) <<< (b &&& 0x3f).toInt64).toInt = N) (h : d.toInt < N) : own_at d b = 0 := if_pos (Int64.lt_iff_toInt_lt.mpr (by rw [hN]; exact h))
theorem own_at1 {d : Int64} {b : Int32} {N : Int} (hN : ((1 : Int64) <<< (b &&& 0x3f).toInt64).toInt = N) (h : N ≤ d.toInt) : own_at d b = 1 := if_neg (fun q => by rw [Int64.lt_iff_toInt_lt, hN] at q; omega)
theorem own_sh (x : Int64) (h : 0 ≤ x.toInt) : ((x.toUInt64 >>> ((7 : Int32) &&& 0x3f).toInt64.toUInt64).toInt64).toInt = x.toInt / 128 := by
  have h1 := c_lushr x (7 : Int32) 7 (by decide) (by decide)
  have h2 := rng64 x
  rw [h1]
  omega
theorem own_nonneg (x : Int64) (q : Int32) (h : 0 ≤ x.toInt) : 0 ≤ ((x.toUInt64 >>> (q &&& 0x3f).toInt64.toUInt64).toInt64).toInt := by
  by_cases h0 : q.toBitVec.toNat % 64 = 0
  · have h1 := (sm64 q 0 h0).1
    have h2 : (q &&& 0x3f).toInt64 = 0 := Int64.toBitVec_inj.mp h1
    rw [h2]
    have h3 : x.toUInt64 >>> (0 : Int64).toUInt64 = x.toUInt64 := by
      show x.toUInt64 >>> (0 : UInt64) = x.toUInt64
      exact UInt64.shiftRight_zero
    rw [h3]
    exact h
  · have h1 := c_lushr x q _ rfl (Nat.pos_of_ne_zero h0)
    rw [h1]
    have h2 := rng64 x
    exact Int.ediv_nonneg (by omega) (Int.natCast_nonneg _)
theorem own_pf (p : Int32) : ∃ k : Fin 8, ((p &&& (7 : Int32)) + (1 : Int32)) = Int32.ofNat (k.1 + 1) := by
  have h1 := c_mask p (7 : Int32) 3 (by decide) (by decide)
  have h2 := c_iadd (p &&& (7 : Int32)) (1 : Int32)
  have h3 := rng32 ((p &&& (7 : Int32)) + (1 : Int32))
  have o1 : (1 : Int32).toInt = 1 := rfl
  refine ⟨⟨(p.toInt % 8).toNat, by omega⟩, ?_⟩
  apply Int32.toInt_inj.mp
  rw [Int32.toInt_ofNat_of_lt (by show (p.toInt % 8).toNat + 1 < 2 ^ 31; omega)]
  show _ = (((p.toInt % 8).toNat + 1 : Nat) : Int)
  omega
theorem own_mmF : ∀ k : Fin 8, own_mm (Int32.ofNat (k.1 + 1)) = ((1 : Int64) <<< ((Int32.ofNat (k.1 + 1)) &&& 0x3f).toInt64) - (1 : Int64) ∧ 0 ≤ (own_mm (Int32.ofNat (k.1 + 1))).toInt := by decide +kernel
theorem own_d1_0 : decode method_2_code 0 = .ok (.lload_n 0, 1) := by decide +kernel
theorem own_d1_1 : decode method_2_code 1 = .ok (.lconst 1, 1) := by decide +kernel
theorem own_d1_2 : decode method_2_code 2 = .ok (.iload_n 2, 1) := by decide +kernel
theorem own_d1_3 : decode method_2_code 3 = .ok (.lshl, 1) := by decide +kernel
theorem own_d1_4 : decode method_2_code 4 = .ok (.lcmp, 1) := by decide +kernel
theorem own_d1_5 : decode method_2_code 5 = .ok (.ifCond .lt 7, 3) := by decide +kernel
theorem own_d1_8 : decode method_2_code 8 = .ok (.iconst 1, 1) := by decide +kernel
theorem own_d1_9 : decode method_2_code 9 = .ok (.goto 4, 3) := by decide +kernel
theorem own_d1_12 : decode method_2_code 12 = .ok (.iconst 0, 1) := by decide +kernel
theorem own_d1_13 : decode method_2_code 13 = .ok (.ireturn, 1) := by decide +kernel
theorem own_pn0 : plainName "com/example/paceline/paceline/http/HpackIntLengthPinLaw" = true := by first | (simp [plainName, overriddenIn]; done) | decide +kernel
theorem own_ef1 (m : MethodId) (x0 : Int64) (x1 : Int32) : entryFrame m #[(.long x0), (.int x1)] 3 = mkF m 0 #[.val (.long x0), .second, .val (.int x1)] [] := by first | (simp [entryFrame, mkF, argsToLocals, Value.category]; done) | rfl
def own_Q1 (Z : State) (d1 : Int64) (b1 : Int32) (h0 : Heap) (n0 : Nat) (v : Option Value) (h : Heap) (L : List Loc) : Prop := v = some (.int (own_at d1 b1)) ∧ Fr n0 L ∧ h = h0
set_option maxRecDepth 65536 in
set_option maxHeartbeats 40000000 in
theorem own_rm1 (l : Launch) (Z : State) (a0 : Array Value) (hw : ∀ d ∈ tables_1, d.before a0 Z = true) (ws : List Jvm.Cond) (d1 : Int64) (b1 : Int32) (h0 : Heap) (n0 : Nat) (Z0 : n0 ≤ h0.size) :
    MetFree l (⟨"com/example/paceline/paceline/http/HpackIntLengthPinLaw", "at", "(JI)I"⟩ : MethodName) (head1 (Jvm.Cond.code (⟨"com/example/paceline/paceline/http/HpackIntLengthPinLaw", "at", "(JI)I"⟩ : MethodName) method_2_code 3 (some .int) :: ws) ({ frames := 0, cells := 0, slots := 0, locals := 0 } : Room)) (fun a U => a = #[(.long d1), (.int b1)] ∧ Z.Warmed39 U.vm ∧ U.heap = h0) (fun _ _ _ _ _ => True) (fun _ U o U' => ∃ v L, o = .returned v ∧ own_Q1 Z d1 b1 h0 n0 v U'.heap L ∧ FrameEnd U o U' L ({ frames := 0, cells := 0, slots := 0, locals := 0 } : Room).cells ({ frames := 0, cells := 0, slots := 0, locals := 0 } : Room).slots) := by
  refine MetFree.of_bodySF (plainFor_of_name own_pn0) hisR ?_
  intro p e s m args below meth c s₁ Bd hml0 hP hK
  obtain ⟨rfl, hZ, hh⟩ := hP
  have hx := Bd.exec
  have hby := Bd.bytes
  have hml : c.maxLocals = 3 := hml0
  have hown : s.vm.findClass "com/example/paceline/paceline/http/HpackIntLengthPinLaw" = some m.cls := findClass_of_methodNamed Bd.named
  have hnm := (name_of_methodNamed Bd.named Bd.method).1
  have X0 : Stand p l e ({ frames := 0, cells := 0, slots := 0, locals := 0 } : Room) s m #[(.long d1), (.int b1)] below meth c s₁ [] 0 0 := Stand.of_body Bd
  have e0 : s₁.heap = h0 := by rw [← hh, Bd.state]; rfl
  have N0 := Fr.nil n0
  have K0 := Keep.refl h0 []
  have pre0 : ∀ t, Steps p.tables e below (s₁.setTop (mkF m 0 #[.val (.long d1), .second, .val (.int b1)] [])) t → Steps p.tables e below (s₁.setTop (entryFrame m #[(.long d1), (.int b1)] 3)) t := fun t kt0 => castTop (own_ef1 m (d1) (b1)) kt0
  have pre1 : ∀ t, Steps p.tables e below (s₁.setTop (mkF m 5 #[.val (.long d1), .second, .val (.int b1)] [(.int (lcmpW d1 ((1 : Int64) <<< (b1 &&& 0x3f).toInt64)))])) t → Steps p.tables e below (s₁.setTop (entryFrame m #[(.long d1), (.int b1)] 3)) t := by
    intro t kt
    refine pre0 t ?_
    show Steps p.tables e below (s₁.setTop (mkF m 0 #[.val (.long d1), .second, .val (.int b1)] [])) _
    refine XS.lloadN X0.here hx rfl (hb hby own_d1_0) rfl ?_
    show Steps p.tables e below (s₁.setTop (mkF m 1 #[.val (.long d1), .second, .val (.int b1)] [(.long d1)])) _
    refine XS.lconst X0.here hx rfl (hb hby own_d1_1) ?_
    show Steps p.tables e below (s₁.setTop (mkF m 2 #[.val (.long d1), .second, .val (.int b1)] [(.long (1 : Int64)), (.long d1)])) _
    refine XS.iloadN X0.here hx rfl (hb hby own_d1_2) rfl ?_
    show Steps p.tables e below (s₁.setTop (mkF m 3 #[.val (.long d1), .second, .val (.int b1)] [(.int b1), (.long (1 : Int64)), (.long d1)])) _
    refine XS.lshl X0.here hx rfl (hb hby own_d1_3) rfl ?_
    show Steps p.tables e below (s₁.setTop (mkF m 4 #[.val (.long d1), .second, .val (.int b1)] [(.long ((1 : Int64) <<< (b1 &&& 0x3f).toInt64)), (.long d1)])) _
    refine XS.lcmp X0.here hx rfl (hb hby own_d1_4) rfl ?_
    exact kt
  by_cases hc5 : d1 < ((1 : Int64) <<< (b1 &&& 0x3f).toInt64)
  case pos =>
    obtain ⟨fs, hr, hrun, hended, hW, hsame⟩ := X0.leave (v := some (.int (0 : Int32))) (fun h => by rw [Bd.returns] at h; cases h) (BodyLoose.notSynchronized Bd)
    refine ⟨_, _, pre1 _ ?_, hrun, hended, _, _, rfl, ?_, ⟨_, rfl⟩, hW, hsame.mono (by decide) (by decide)⟩
    · skip
      show Steps p.tables e below (s₁.setTop (mkF m 5 #[.val (.long d1), .second, .val (.int b1)] [(.int (lcmpW d1 ((1 : Int64) <<< (b1 &&& 0x3f).toInt64)))])) _
      refine XS.ifYes X0.here hx rfl (pc0 := 5) (pc' := 12) rfl (hb hby own_d1_5) rfl ((if0 _ _).trans (tlt ((lw_lt d1 ((1 : Int64) <<< (b1 &&& 0x3f).toInt64)).mpr hc5)).1) (by decide) (by decide) ?_
      show Steps p.tables e below (s₁.setTop (mkF m 12 #[.val (.long d1), .second, .val (.int b1)] [])) _
      refine XS.iconst X0.here hx rfl (hb hby own_d1_12) ?_
      show Steps p.tables e below (s₁.setTop (mkF m 13 #[.val (.long d1), .second, .val (.int b1)] [(.int (0 : Int32))])) _
      exact retI X0 hx Bd.returns (hb hby own_d1_13) hr
    · show own_Q1 Z d1 b1 h0 n0 _ s₁.heap _
      rw [e0]
      refine ⟨?_, N0, rfl⟩
      exact congrArg (fun z => some (Value.int z)) (if_pos hc5).symm
  case neg =>
    obtain ⟨fs, hr, hrun, hended, hW, hsame⟩ := X0.leave (v := some (.int (1 : Int32))) (fun h => by rw [Bd.returns] at h; cases h) (BodyLoose.notSynchronized Bd)
    refine ⟨_, _, pre1 _ ?_, hrun, hended, _, _, rfl, ?_, ⟨_, rfl⟩, hW, hsame.mono (by decide) (by decide)⟩
    · skip
      show Steps p.tables e below (s₁.setTop (mkF m 5 #[.val (.long d1), .second, .val (.int b1)] [(.int (lcmpW d1 ((1 : Int64) <<< (b1 &&& 0x3f).toInt64)))])) _
      refine XS.ifNo X0.here hx rfl (hb hby own_d1_5) rfl ((if0 _ _).trans (flt (fun q => hc5 ((lw_lt d1 ((1 : Int64) <<< (b1 &&& 0x3f).toInt64)).mp q))).1) ?_
      show Steps p.tables e below (s₁.setTop (mkF m 8 #[.val (.long d1), .second, .val (.int b1)] [])) _
      refine XS.iconst X0.here hx rfl (hb hby own_d1_8) ?_
      show Steps p.tables e below (s₁.setTop (mkF m 9 #[.val (.long d1), .second, .val (.int b1)] [(.int (1 : Int32))])) _
      refine XS.goto X0.here hx rfl (pc0 := 9) (pc' := 13) rfl (hb hby own_d1_9) (by decide) (by decide) ?_
      show Steps p.tables e below (s₁.setTop (mkF m 13 #[.val (.long d1), .second, .val (.int b1)] [(.int (1 : Int32))])) _
      exact retI X0 hx Bd.returns (hb hby own_d1_13) hr
    · show own_Q1 Z d1 b1 h0 n0 _ s₁.heap _
      rw [e0]
      refine ⟨?_, N0, rfl⟩
      exact congrArg (fun z => some (Value.int z)) (if_neg hc5).symm
theorem own_d2_0 : decode prog_35_method_6_code 0 = .ok (.iconst 1, 1) := by decide +kernel
theorem own_d2_1 : decode prog_35_method_6_code 1 = .ok (.iload_n 0, 1) := by decide +kernel
theorem own_d2_2 : decode prog_35_method_6_code 2 = .ok (.ishl, 1) := by decide +kernel
theorem own_d2_3 : decode prog_35_method_6_code 3 = .ok (.iconst 1, 1) := by decide +kernel
theorem own_d2_4 : decode prog_35_method_6_code 4 = .ok (.isub, 1) := by decide +kernel
theorem own_d2_5 : decode prog_35_method_6_code 5 = .ok (.istore_n 3, 1) := by decide +kernel
theorem own_d2_6 : decode prog_35_method_6_code 6 = .ok (.lload_n 1, 1) := by decide +kernel
theorem own_d2_7 : decode prog_35_method_6_code 7 = .ok (.iload_n 3, 1) := by decide +kernel
theorem own_d2_8 : decode prog_35_method_6_code 8 = .ok (.i2l, 1) := by decide +kernel
theorem own_d2_9 : decode prog_35_method_6_code 9 = .ok (.lcmp, 1) := by decide +kernel
theorem own_d2_10 : decode prog_35_method_6_code 10 = .ok (.ifCond .ge 5, 3) := by decide +kernel
theorem own_d2_13 : decode prog_35_method_6_code 13 = .ok (.iconst 1, 1) := by decide +kernel
theorem own_d2_14 : decode prog_35_method_6_code 14 = .ok (.ireturn, 1) := by decide +kernel
theorem own_d2_15 : decode prog_35_method_6_code 15 = .ok (.iconst 2, 1) := by decide +kernel
theorem own_d2_16 : decode prog_35_method_6_code 16 = .ok (.istore 4, 2) := by decide +kernel
theorem own_d2_18 : decode prog_35_method_6_code 18 = .ok (.lload_n 1, 1) := by decide +kernel
theorem own_d2_19 : decode prog_35_method_6_code 19 = .ok (.iload_n 3, 1) := by decide +kernel
theorem own_d2_20 : decode prog_35_method_6_code 20 = .ok (.i2l, 1) := by decide +kernel
theorem own_d2_21 : decode prog_35_method_6_code 21 = .ok (.lsub, 1) := by decide +kernel
theorem own_d2_22 : decode prog_35_method_6_code 22 = .ok (.bipush 7, 2) := by decide +kernel
theorem own_d2_24 : decode prog_35_method_6_code 24 = .ok (.lushr, 1) := by decide +kernel
theorem own_d2_25 : decode prog_35_method_6_code 25 = .ok (.lstore 5, 2) := by decide +kernel
theorem own_d2_27 : decode prog_35_method_6_code 27 = .ok (.lload 5, 2) := by decide +kernel
theorem own_d2_29 : decode prog_35_method_6_code 29 = .ok (.lconst 0, 1) := by decide +kernel
theorem own_d2_30 : decode prog_35_method_6_code 30 = .ok (.lcmp, 1) := by decide +kernel
theorem own_d2_31 : decode prog_35_method_6_code 31 = .ok (.ifCond .le 16, 3) := by decide +kernel
theorem own_d2_34 : decode prog_35_method_6_code 34 = .ok (.iinc 4 1, 3) := by decide +kernel
theorem own_d2_37 : decode prog_35_method_6_code 37 = .ok (.lload 5, 2) := by decide +kernel
theorem own_d2_39 : decode prog_35_method_6_code 39 = .ok (.bipush 7, 2) := by decide +kernel
theorem own_d2_41 : decode prog_35_method_6_code 41 = .ok (.lushr, 1) := by decide +kernel
theorem own_d2_42 : decode prog_35_method_6_code 42 = .ok (.lstore 5, 2) := by decide +kernel
theorem own_d2_44 : decode prog_35_method_6_code 44 = .ok (.goto (-17), 3) := by decide +kernel
theorem own_d2_47 : decode prog_35_method_6_code 47 = .ok (.iload 4, 2) := by decide +kernel
theorem own_d2_49 : decode prog_35_method_6_code 49 = .ok (.ireturn, 1) := by decide +kernel
theorem own_pn1 : plainName "com/example/paceline/paceline/http/Hpack" = true := by first | (simp [plainName, overriddenIn]; done) | decide +kernel
theorem own_ef2 (m : MethodId) (x0 : Int32) (x1 : Int64) : entryFrame m #[(.int x0), (.long x1)] 7 = mkF m 0 #[.val (.int x0), .val (.long x1), .second, .unset, .unset, .unset, .unset] [] := by first | (simp [entryFrame, mkF, argsToLocals, Value.category]; done) | rfl
def own_Q2 (Z : State) (pf : Int32) (nu : Int64) (h0 : Heap) (n0 : Nat) (v : Option Value) (h : Heap) (L : List Loc) : Prop := v = some (.int (own_len9 pf nu)) ∧ Fr n0 L ∧ h = h0
set_option maxRecDepth 65536 in
set_option maxHeartbeats 40000000 in
theorem own_rm2 (l : Launch) (Z : State) (a0 : Array Value) (hw : ∀ d ∈ tables_1, d.before a0 Z = true) (ws : List Jvm.Cond) (pf : Int32) (nu : Int64) (h0 : Heap) (n0 : Nat) (Z0 : n0 ≤ h0.size) (hnu : 0 ≤ nu.toInt) (hmm : 0 ≤ (own_mm pf).toInt) :
    MetFree l (⟨"com/example/paceline/paceline/http/Hpack", "intLength", "(IJ)I"⟩ : MethodName) (head1 (Jvm.Cond.code (⟨"com/example/paceline/paceline/http/Hpack", "intLength", "(IJ)I"⟩ : MethodName) prog_35_method_6_code 7 (some .int) :: ws) ({ frames := 0, cells := 0, slots := 0, locals := 0 } : Room)) (fun a U => a = #[(.int pf), (.long nu)] ∧ Z.Warmed39 U.vm ∧ U.heap = h0) (fun _ _ _ _ _ => True) (fun _ U o U' => ∃ v L, o = .returned v ∧ own_Q2 Z pf nu h0 n0 v U'.heap L ∧ FrameEnd U o U' L ({ frames := 0, cells := 0, slots := 0, locals := 0 } : Room).cells ({ frames := 0, cells := 0, slots := 0, locals := 0 } : Room).slots) := by
  refine MetFree.of_bodySF (plainFor_of_name own_pn1) hisR ?_
  intro p e s m args below meth c s₁ Bd hml0 hP hK
  obtain ⟨rfl, hZ, hh⟩ := hP
  have hx := Bd.exec
  have hby := Bd.bytes
  have hml : c.maxLocals = 7 := hml0
  have hown : s.vm.findClass "com/example/paceline/paceline/http/Hpack" = some m.cls := findClass_of_methodNamed Bd.named
  have hnm := (name_of_methodNamed Bd.named Bd.method).1
  have X0 : Stand p l e ({ frames := 0, cells := 0, slots := 0, locals := 0 } : Room) s m #[(.int pf), (.long nu)] below meth c s₁ [] 0 0 := Stand.of_body Bd
  have e0 : s₁.heap = h0 := by rw [← hh, Bd.state]; rfl
  have N0 := Fr.nil n0
  have K0 := Keep.refl h0 []
  have pre0 : ∀ t, Steps p.tables e below (s₁.setTop (mkF m 0 #[.val (.int pf), .val (.long nu), .second, .unset, .unset, .unset, .unset] [])) t → Steps p.tables e below (s₁.setTop (entryFrame m #[(.int pf), (.long nu)] 7)) t := fun t kt0 => castTop (own_ef2 m (pf) (nu)) kt0
  have pre1 : ∀ t, Steps p.tables e below (s₁.setTop (mkF m 10 #[.val (.int pf), .val (.long nu), .second, .val (.int (((1 : Int32) <<< (pf &&& 31)) - (1 : Int32))), .unset, .unset, .unset] [(.int (lcmpW nu ((((1 : Int32) <<< (pf &&& 31)) - (1 : Int32)).toInt64)))])) t → Steps p.tables e below (s₁.setTop (entryFrame m #[(.int pf), (.long nu)] 7)) t := by
    intro t kt
    refine pre0 t ?_
    show Steps p.tables e below (s₁.setTop (mkF m 0 #[.val (.int pf), .val (.long nu), .second, .unset, .unset, .unset, .unset] [])) _
    refine XS.iconst X0.here hx rfl (hb hby own_d2_0) ?_
    show Steps p.tables e below (s₁.setTop (mkF m 1 #[.val (.int pf), .val (.long nu), .second, .unset, .unset, .unset, .unset] [(.int (1 : Int32))])) _
    refine XS.iloadN X0.here hx rfl (hb hby own_d2_1) rfl ?_
    show Steps p.tables e below (s₁.setTop (mkF m 2 #[.val (.int pf), .val (.long nu), .second, .unset, .unset, .unset, .unset] [(.int pf), (.int (1 : Int32))])) _
    refine XS.ishl X0.here hx rfl (hb hby own_d2_2) rfl ?_
    show Steps p.tables e below (s₁.setTop (mkF m 3 #[.val (.int pf), .val (.long nu), .second, .unset, .unset, .unset, .unset] [(.int ((1 : Int32) <<< (pf &&& 31)))])) _
    refine XS.iconst X0.here hx rfl (hb hby own_d2_3) ?_
    show Steps p.tables e below (s₁.setTop (mkF m 4 #[.val (.int pf), .val (.long nu), .second, .unset, .unset, .unset, .unset] [(.int (1 : Int32)), (.int ((1 : Int32) <<< (pf &&& 31)))])) _
    refine XS.isub X0.here hx rfl (hb hby own_d2_4) rfl ?_
    show Steps p.tables e below (s₁.setTop (mkF m 5 #[.val (.int pf), .val (.long nu), .second, .unset, .unset, .unset, .unset] [(.int (((1 : Int32) <<< (pf &&& 31)) - (1 : Int32)))])) _
    refine XS.istoreN X0.here hx rfl (hb hby own_d2_5) rfl (l' := #[.val (.int pf), .val (.long nu), .second, .val (.int (((1 : Int32) <<< (pf &&& 31)) - (1 : Int32))), .unset, .unset, .unset]) rfl ?_
    show Steps p.tables e below (s₁.setTop (mkF m 6 #[.val (.int pf), .val (.long nu), .second, .val (.int (((1 : Int32) <<< (pf &&& 31)) - (1 : Int32))), .unset, .unset, .unset] [])) _
    refine XS.lloadN X0.here hx rfl (hb hby own_d2_6) rfl ?_
    show Steps p.tables e below (s₁.setTop (mkF m 7 #[.val (.int pf), .val (.long nu), .second, .val (.int (((1 : Int32) <<< (pf &&& 31)) - (1 : Int32))), .unset, .unset, .unset] [(.long nu)])) _
    refine XS.iloadN X0.here hx rfl (hb hby own_d2_7) rfl ?_
    show Steps p.tables e below (s₁.setTop (mkF m 8 #[.val (.int pf), .val (.long nu), .second, .val (.int (((1 : Int32) <<< (pf &&& 31)) - (1 : Int32))), .unset, .unset, .unset] [(.int (((1 : Int32) <<< (pf &&& 31)) - (1 : Int32))), (.long nu)])) _
    refine XS.i2l X0.here hx rfl (hb hby own_d2_8) rfl ?_
    show Steps p.tables e below (s₁.setTop (mkF m 9 #[.val (.int pf), .val (.long nu), .second, .val (.int (((1 : Int32) <<< (pf &&& 31)) - (1 : Int32))), .unset, .unset, .unset] [(.long ((((1 : Int32) <<< (pf &&& 31)) - (1 : Int32)).toInt64)), (.long nu)])) _
    refine XS.lcmp X0.here hx rfl (hb hby own_d2_9) rfl ?_
    exact kt
  by_cases hc10 : nu < ((((1 : Int32) <<< (pf &&& 31)) - (1 : Int32)).toInt64)
  case pos =>
    obtain ⟨fs, hr, hrun, hended, hW, hsame⟩ := X0.leave (v := some (.int (1 : Int32))) (fun h => by rw [Bd.returns] at h; cases h) (BodyLoose.notSynchronized Bd)
    refine ⟨_, _, pre1 _ ?_, hrun, hended, _, _, rfl, ?_, ⟨_, rfl⟩, hW, hsame.mono (by decide) (by decide)⟩
    · skip
      show Steps p.tables e below (s₁.setTop (mkF m 10 #[.val (.int pf), .val (.long nu), .second, .val (.int (((1 : Int32) <<< (pf &&& 31)) - (1 : Int32))), .unset, .unset, .unset] [(.int (lcmpW nu ((((1 : Int32) <<< (pf &&& 31)) - (1 : Int32)).toInt64)))])) _
      refine XS.ifNo X0.here hx rfl (hb hby own_d2_10) rfl ((if0 _ _).trans (tlt ((lw_lt nu ((((1 : Int32) <<< (pf &&& 31)) - (1 : Int32)).toInt64)).mpr hc10)).2.1) ?_
      show Steps p.tables e below (s₁.setTop (mkF m 13 #[.val (.int pf), .val (.long nu), .second, .val (.int (((1 : Int32) <<< (pf &&& 31)) - (1 : Int32))), .unset, .unset, .unset] [])) _
      refine XS.iconst X0.here hx rfl (hb hby own_d2_13) ?_
      show Steps p.tables e below (s₁.setTop (mkF m 14 #[.val (.int pf), .val (.long nu), .second, .val (.int (((1 : Int32) <<< (pf &&& 31)) - (1 : Int32))), .unset, .unset, .unset] [(.int (1 : Int32))])) _
      exact retI X0 hx Bd.returns (hb hby own_d2_14) hr
    · show own_Q2 Z pf nu h0 n0 _ s₁.heap _
      rw [e0]
      refine ⟨?_, N0, rfl⟩
      exact congrArg (fun z => some (Value.int z)) (if_pos hc10).symm
  case neg =>
    have pre2 : ∀ t, Steps p.tables e below (s₁.setTop (mkF m 22 #[.val (.int pf), .val (.long nu), .second, .val (.int (((1 : Int32) <<< (pf &&& 31)) - (1 : Int32))), .val (.int (2 : Int32)), .unset, .unset] [(.long (nu - ((((1 : Int32) <<< (pf &&& 31)) - (1 : Int32)).toInt64)))])) t → Steps p.tables e below (s₁.setTop (entryFrame m #[(.int pf), (.long nu)] 7)) t := by
      intro t kt
      refine pre1 t ?_
      show Steps p.tables e below (s₁.setTop (mkF m 10 #[.val (.int pf), .val (.long nu), .second, .val (.int (((1 : Int32) <<< (pf &&& 31)) - (1 : Int32))), .unset, .unset, .unset] [(.int (lcmpW nu ((((1 : Int32) <<< (pf &&& 31)) - (1 : Int32)).toInt64)))])) _
      refine XS.ifYes X0.here hx rfl (pc0 := 10) (pc' := 15) rfl (hb hby own_d2_10) rfl ((if0 _ _).trans (flt (fun q => hc10 ((lw_lt nu ((((1 : Int32) <<< (pf &&& 31)) - (1 : Int32)).toInt64)).mp q))).2.1) (by decide) (by decide) ?_
      show Steps p.tables e below (s₁.setTop (mkF m 15 #[.val (.int pf), .val (.long nu), .second, .val (.int (((1 : Int32) <<< (pf &&& 31)) - (1 : Int32))), .unset, .unset, .unset] [])) _
      refine XS.iconst X0.here hx rfl (hb hby own_d2_15) ?_
      show Steps p.tables e below (s₁.setTop (mkF m 16 #[.val (.int pf), .val (.long nu), .second, .val (.int (((1 : Int32) <<< (pf &&& 31)) - (1 : Int32))), .unset, .unset, .unset] [(.int (2 : Int32))])) _
      refine XS.istore X0.here hx rfl (hb hby own_d2_16) rfl (l' := #[.val (.int pf), .val (.long nu), .second, .val (.int (((1 : Int32) <<< (pf &&& 31)) - (1 : Int32))), .val (.int (2 : Int32)), .unset, .unset]) rfl ?_
      show Steps p.tables e below (s₁.setTop (mkF m 18 #[.val (.int pf), .val (.long nu), .second, .val (.int (((1 : Int32) <<< (pf &&& 31)) - (1 : Int32))), .val (.int (2 : Int32)), .unset, .unset] [])) _
      refine XS.lloadN X0.here hx rfl (hb hby own_d2_18) rfl ?_
      show Steps p.tables e below (s₁.setTop (mkF m 19 #[.val (.int pf), .val (.long nu), .second, .val (.int (((1 : Int32) <<< (pf &&& 31)) - (1 : Int32))), .val (.int (2 : Int32)), .unset, .unset] [(.long nu)])) _
      refine XS.iloadN X0.here hx rfl (hb hby own_d2_19) rfl ?_
      show Steps p.tables e below (s₁.setTop (mkF m 20 #[.val (.int pf), .val (.long nu), .second, .val (.int (((1 : Int32) <<< (pf &&& 31)) - (1 : Int32))), .val (.int (2 : Int32)), .unset, .unset] [(.int (((1 : Int32) <<< (pf &&& 31)) - (1 : Int32))), (.long nu)])) _
      refine XS.i2l X0.here hx rfl (hb hby own_d2_20) rfl ?_
      show Steps p.tables e below (s₁.setTop (mkF m 21 #[.val (.int pf), .val (.long nu), .second, .val (.int (((1 : Int32) <<< (pf &&& 31)) - (1 : Int32))), .val (.int (2 : Int32)), .unset, .unset] [(.long ((((1 : Int32) <<< (pf &&& 31)) - (1 : Int32)).toInt64)), (.long nu)])) _
      refine XS.lsub X0.here hx rfl (hb hby own_d2_21) rfl ?_
      exact kt
    obtain ⟨dd, hd_dd⟩ : ∃ z : Int64, z = (nu - ((((1 : Int32) <<< (pf &&& 31)) - (1 : Int32)).toInt64)) := ⟨_, rfl⟩
    have pre3 : ∀ t, Steps p.tables e below (s₁.setTop (mkF m 22 #[.val (.int pf), .val (.long nu), .second, .val (.int (((1 : Int32) <<< (pf &&& 31)) - (1 : Int32))), .val (.int (2 : Int32)), .unset, .unset] [(.long dd)])) t → Steps p.tables e below (s₁.setTop (entryFrame m #[(.int pf), (.long nu)] 7)) t := by rw [hd_dd]; exact pre2
    have hz0 : 0 ≤ dd.toInt := by rw [hd_dd]; show 0 ≤ (nu - own_mm pf).toInt; have q := c_lsub nu (own_mm pf); have q1 : ¬ nu.toInt < (own_mm pf).toInt := fun q => hc10 (Int64.lt_iff_toInt_lt.mpr q); have r1 := rng64 (nu - own_mm pf); have r2 := rng64 nu; omega
    have pre4 : ∀ t, Steps p.tables e below (s₁.setTop (mkF m 27 #[.val (.int pf), .val (.long nu), .second, .val (.int (((1 : Int32) <<< (pf &&& 31)) - (1 : Int32))), .val (.int (2 : Int32)), .val (.long ((dd.toUInt64 >>> ((7 : Int32) &&& 0x3f).toInt64.toUInt64).toInt64)), .second] [])) t → Steps p.tables e below (s₁.setTop (entryFrame m #[(.int pf), (.long nu)] 7)) t := by
      intro t kt
      refine pre3 t ?_
      show Steps p.tables e below (s₁.setTop (mkF m 22 #[.val (.int pf), .val (.long nu), .second, .val (.int (((1 : Int32) <<< (pf &&& 31)) - (1 : Int32))), .val (.int (2 : Int32)), .unset, .unset] [(.long dd)])) _
      refine XS.bipush X0.here hx rfl (hb hby own_d2_22) ?_
      show Steps p.tables e below (s₁.setTop (mkF m 24 #[.val (.int pf), .val (.long nu), .second, .val (.int (((1 : Int32) <<< (pf &&& 31)) - (1 : Int32))), .val (.int (2 : Int32)), .unset, .unset] [(.int (7 : Int32)), (.long dd)])) _
      refine XS.lushr X0.here hx rfl (hb hby own_d2_24) rfl ?_
      show Steps p.tables e below (s₁.setTop (mkF m 25 #[.val (.int pf), .val (.long nu), .second, .val (.int (((1 : Int32) <<< (pf &&& 31)) - (1 : Int32))), .val (.int (2 : Int32)), .unset, .unset] [(.long ((dd.toUInt64 >>> ((7 : Int32) &&& 0x3f).toInt64.toUInt64).toInt64))])) _
      refine XS.lstore X0.here hx rfl (hb hby own_d2_25) rfl (l' := #[.val (.int pf), .val (.long nu), .second, .val (.int (((1 : Int32) <<< (pf &&& 31)) - (1 : Int32))), .val (.int (2 : Int32)), .val (.long ((dd.toUInt64 >>> ((7 : Int32) &&& 0x3f).toInt64.toUInt64).toInt64)), .second]) rfl ?_
      exact kt
    obtain ⟨lf1, hd_lf1⟩ : ∃ z : Int64, z = ((dd.toUInt64 >>> ((7 : Int32) &&& 0x3f).toInt64.toUInt64).toInt64) := ⟨_, rfl⟩
    have pre5 : ∀ t, Steps p.tables e below (s₁.setTop (mkF m 27 #[.val (.int pf), .val (.long nu), .second, .val (.int (((1 : Int32) <<< (pf &&& 31)) - (1 : Int32))), .val (.int (2 : Int32)), .val (.long lf1), .second] [])) t → Steps p.tables e below (s₁.setTop (entryFrame m #[(.int pf), (.long nu)] 7)) t := by rw [hd_lf1]; exact pre4
    have hl1 : lf1.toInt = dd.toInt / 128 := by rw [hd_lf1]; exact own_sh _ hz0
    have hz1 : 0 ≤ lf1.toInt := by omega
    have pre6 : ∀ t, Steps p.tables e below (s₁.setTop (mkF m 31 #[.val (.int pf), .val (.long nu), .second, .val (.int (((1 : Int32) <<< (pf &&& 31)) - (1 : Int32))), .val (.int (2 : Int32)), .val (.long lf1), .second] [(.int (lcmpW lf1 (0 : Int64)))])) t → Steps p.tables e below (s₁.setTop (entryFrame m #[(.int pf), (.long nu)] 7)) t := by
      intro t kt
      refine pre5 t ?_
      show Steps p.tables e below (s₁.setTop (mkF m 27 #[.val (.int pf), .val (.long nu), .second, .val (.int (((1 : Int32) <<< (pf &&& 31)) - (1 : Int32))), .val (.int (2 : Int32)), .val (.long lf1), .second] [])) _
      refine XS.lload X0.here hx rfl (hb hby own_d2_27) rfl ?_
      show Steps p.tables e below (s₁.setTop (mkF m 29 #[.val (.int pf), .val (.long nu), .second, .val (.int (((1 : Int32) <<< (pf &&& 31)) - (1 : Int32))), .val (.int (2 : Int32)), .val (.long lf1), .second] [(.long lf1)])) _
      refine XS.lconst X0.here hx rfl (hb hby own_d2_29) ?_
      show Steps p.tables e below (s₁.setTop (mkF m 30 #[.val (.int pf), .val (.long nu), .second, .val (.int (((1 : Int32) <<< (pf &&& 31)) - (1 : Int32))), .val (.int (2 : Int32)), .val (.long lf1), .second] [(.long (0 : Int64)), (.long lf1)])) _
      refine XS.lcmp X0.here hx rfl (hb hby own_d2_30) rfl ?_
      exact kt
    by_cases hc31 : (0 : Int64) < lf1
    case pos =>
      have pre7 : ∀ t, Steps p.tables e below (s₁.setTop (mkF m 27 #[.val (.int pf), .val (.long nu), .second, .val (.int (((1 : Int32) <<< (pf &&& 31)) - (1 : Int32))), .val (.int (3 : Int32)), .val (.long ((lf1.toUInt64 >>> ((7 : Int32) &&& 0x3f).toInt64.toUInt64).toInt64)), .second] [])) t → Steps p.tables e below (s₁.setTop (entryFrame m #[(.int pf), (.long nu)] 7)) t := by
        intro t kt
        refine pre6 t ?_
        show Steps p.tables e below (s₁.setTop (mkF m 31 #[.val (.int pf), .val (.long nu), .second, .val (.int (((1 : Int32) <<< (pf &&& 31)) - (1 : Int32))), .val (.int (2 : Int32)), .val (.long lf1), .second] [(.int (lcmpW lf1 (0 : Int64)))])) _
        refine XS.ifNo X0.here hx rfl (hb hby own_d2_31) rfl ((if0 _ _).trans (tlt ((lw_gt lf1 (0 : Int64)).mpr hc31)).2.2.2) ?_
        show Steps p.tables e below (s₁.setTop (mkF m 34 #[.val (.int pf), .val (.long nu), .second, .val (.int (((1 : Int32) <<< (pf &&& 31)) - (1 : Int32))), .val (.int (2 : Int32)), .val (.long lf1), .second] [])) _
        refine XS.iinc X0.here hx rfl (hb hby own_d2_34) rfl (l' := #[.val (.int pf), .val (.long nu), .second, .val (.int (((1 : Int32) <<< (pf &&& 31)) - (1 : Int32))), .val (.int (3 : Int32)), .val (.long lf1), .second]) rfl ?_
        show Steps p.tables e below (s₁.setTop (mkF m 37 #[.val (.int pf), .val (.long nu), .second, .val (.int (((1 : Int32) <<< (pf &&& 31)) - (1 : Int32))), .val (.int (3 : Int32)), .val (.long lf1), .second] [])) _
        refine XS.lload X0.here hx rfl (hb hby own_d2_37) rfl ?_
        show Steps p.tables e below (s₁.setTop (mkF m 39 #[.val (.int pf), .val (.long nu), .second, .val (.int (((1 : Int32) <<< (pf &&& 31)) - (1 : Int32))), .val (.int (3 : Int32)), .val (.long lf1), .second] [(.long lf1)])) _
        refine XS.bipush X0.here hx rfl (hb hby own_d2_39) ?_
        show Steps p.tables e below (s₁.setTop (mkF m 41 #[.val (.int pf), .val (.long nu), .second, .val (.int (((1 : Int32) <<< (pf &&& 31)) - (1 : Int32))), .val (.int (3 : Int32)), .val (.long lf1), .second] [(.int (7 : Int32)), (.long lf1)])) _
        refine XS.lushr X0.here hx rfl (hb hby own_d2_41) rfl ?_
        show Steps p.tables e below (s₁.setTop (mkF m 42 #[.val (.int pf), .val (.long nu), .second, .val (.int (((1 : Int32) <<< (pf &&& 31)) - (1 : Int32))), .val (.int (3 : Int32)), .val (.long lf1), .second] [(.long ((lf1.toUInt64 >>> ((7 : Int32) &&& 0x3f).toInt64.toUInt64).toInt64))])) _
        refine XS.lstore X0.here hx rfl (hb hby own_d2_42) rfl (l' := #[.val (.int pf), .val (.long nu), .second, .val (.int (((1 : Int32) <<< (pf &&& 31)) - (1 : Int32))), .val (.int (3 : Int32)), .val (.long ((lf1.toUInt64 >>> ((7 : Int32) &&& 0x3f).toInt64.toUInt64).toInt64)), .second]) rfl ?_
        show Steps p.tables e below (s₁.setTop (mkF m 44 #[.val (.int pf), .val (.long nu), .second, .val (.int (((1 : Int32) <<< (pf &&& 31)) - (1 : Int32))), .val (.int (3 : Int32)), .val (.long ((lf1.toUInt64 >>> ((7 : Int32) &&& 0x3f).toInt64.toUInt64).toInt64)), .second] [])) _
        refine XS.goto X0.here hx rfl (pc0 := 44) (pc' := 27) rfl (hb hby own_d2_44) (by decide) (by decide) ?_
        exact kt
      obtain ⟨lf2, hd_lf2⟩ : ∃ z : Int64, z = ((lf1.toUInt64 >>> ((7 : Int32) &&& 0x3f).toInt64.toUInt64).toInt64) := ⟨_, rfl⟩
      have pre8 : ∀ t, Steps p.tables e below (s₁.setTop (mkF m 27 #[.val (.int pf), .val (.long nu), .second, .val (.int (((1 : Int32) <<< (pf &&& 31)) - (1 : Int32))), .val (.int (3 : Int32)), .val (.long lf2), .second] [])) t → Steps p.tables e below (s₁.setTop (entryFrame m #[(.int pf), (.long nu)] 7)) t := by rw [hd_lf2]; exact pre7
      have hl2 : lf2.toInt = lf1.toInt / 128 := by rw [hd_lf2]; exact own_sh _ hz1
      have hz2 : 0 ≤ lf2.toInt := by omega
      have pre9 : ∀ t, Steps p.tables e below (s₁.setTop (mkF m 31 #[.val (.int pf), .val (.long nu), .second, .val (.int (((1 : Int32) <<< (pf &&& 31)) - (1 : Int32))), .val (.int (3 : Int32)), .val (.long lf2), .second] [(.int (lcmpW lf2 (0 : Int64)))])) t → Steps p.tables e below (s₁.setTop (entryFrame m #[(.int pf), (.long nu)] 7)) t := by
        intro t kt
        refine pre8 t ?_
        show Steps p.tables e below (s₁.setTop (mkF m 27 #[.val (.int pf), .val (.long nu), .second, .val (.int (((1 : Int32) <<< (pf &&& 31)) - (1 : Int32))), .val (.int (3 : Int32)), .val (.long lf2), .second] [])) _
        refine XS.lload X0.here hx rfl (hb hby own_d2_27) rfl ?_
        show Steps p.tables e below (s₁.setTop (mkF m 29 #[.val (.int pf), .val (.long nu), .second, .val (.int (((1 : Int32) <<< (pf &&& 31)) - (1 : Int32))), .val (.int (3 : Int32)), .val (.long lf2), .second] [(.long lf2)])) _
        refine XS.lconst X0.here hx rfl (hb hby own_d2_29) ?_
        show Steps p.tables e below (s₁.setTop (mkF m 30 #[.val (.int pf), .val (.long nu), .second, .val (.int (((1 : Int32) <<< (pf &&& 31)) - (1 : Int32))), .val (.int (3 : Int32)), .val (.long lf2), .second] [(.long (0 : Int64)), (.long lf2)])) _
        refine XS.lcmp X0.here hx rfl (hb hby own_d2_30) rfl ?_
        exact kt
      by_cases hc31_2 : (0 : Int64) < lf2
      case pos =>
        have pre10 : ∀ t, Steps p.tables e below (s₁.setTop (mkF m 27 #[.val (.int pf), .val (.long nu), .second, .val (.int (((1 : Int32) <<< (pf &&& 31)) - (1 : Int32))), .val (.int (4 : Int32)), .val (.long ((lf2.toUInt64 >>> ((7 : Int32) &&& 0x3f).toInt64.toUInt64).toInt64)), .second] [])) t → Steps p.tables e below (s₁.setTop (entryFrame m #[(.int pf), (.long nu)] 7)) t := by
          intro t kt
          refine pre9 t ?_
          show Steps p.tables e below (s₁.setTop (mkF m 31 #[.val (.int pf), .val (.long nu), .second, .val (.int (((1 : Int32) <<< (pf &&& 31)) - (1 : Int32))), .val (.int (3 : Int32)), .val (.long lf2), .second] [(.int (lcmpW lf2 (0 : Int64)))])) _
          refine XS.ifNo X0.here hx rfl (hb hby own_d2_31) rfl ((if0 _ _).trans (tlt ((lw_gt lf2 (0 : Int64)).mpr hc31_2)).2.2.2) ?_
          show Steps p.tables e below (s₁.setTop (mkF m 34 #[.val (.int pf), .val (.long nu), .second, .val (.int (((1 : Int32) <<< (pf &&& 31)) - (1 : Int32))), .val (.int (3 : Int32)), .val (.long lf2), .second] [])) _
          refine XS.iinc X0.here hx rfl (hb hby own_d2_34) rfl (l' := #[.val (.int pf), .val (.long nu), .second, .val (.int (((1 : Int32) <<< (pf &&& 31)) - (1 : Int32))), .val (.int (4 : Int32)), .val (.long lf2), .second]) rfl ?_
          show Steps p.tables e below (s₁.setTop (mkF m 37 #[.val (.int pf), .val (.long nu), .second, .val (.int (((1 : Int32) <<< (pf &&& 31)) - (1 : Int32))), .val (.int (4 : Int32)), .val (.long lf2), .second] [])) _
          refine XS.lload X0.here hx rfl (hb hby own_d2_37) rfl ?_
          show Steps p.tables e below (s₁.setTop (mkF m 39 #[.val (.int pf), .val (.long nu), .second, .val (.int (((1 : Int32) <<< (pf &&& 31)) - (1 : Int32))), .val (.int (4 : Int32)), .val (.long lf2), .second] [(.long lf2)])) _
          refine XS.bipush X0.here hx rfl (hb hby own_d2_39) ?_
          show Steps p.tables e below (s₁.setTop (mkF m 41 #[.val (.int pf), .val (.long nu), .second, .val (.int (((1 : Int32) <<< (pf &&& 31)) - (1 : Int32))), .val (.int (4 : Int32)), .val (.long lf2), .second] [(.int (7 : Int32)), (.long lf2)])) _
          refine XS.lushr X0.here hx rfl (hb hby own_d2_41) rfl ?_
          show Steps p.tables e below (s₁.setTop (mkF m 42 #[.val (.int pf), .val (.long nu), .second, .val (.int (((1 : Int32) <<< (pf &&& 31)) - (1 : Int32))), .val (.int (4 : Int32)), .val (.long lf2), .second] [(.long ((lf2.toUInt64 >>> ((7 : Int32) &&& 0x3f).toInt64.toUInt64).toInt64))])) _
          refine XS.lstore X0.here hx rfl (hb hby own_d2_42) rfl (l' := #[.val (.int pf), .val (.long nu), .second, .val (.int (((1 : Int32) <<< (pf &&& 31)) - (1 : Int32))), .val (.int (4 : Int32)), .val (.long ((lf2.toUInt64 >>> ((7 : Int32) &&& 0x3f).toInt64.toUInt64).toInt64)), .second]) rfl ?_
          show Steps p.tables e below (s₁.setTop (mkF m 44 #[.val (.int pf), .val (.long nu), .second, .val (.int (((1 : Int32) <<< (pf &&& 31)) - (1 : Int32))), .val (.int (4 : Int32)), .val (.long ((lf2.toUInt64 >>> ((7 : Int32) &&& 0x3f).toInt64.toUInt64).toInt64)), .second] [])) _
          refine XS.goto X0.here hx rfl (pc0 := 44) (pc' := 27) rfl (hb hby own_d2_44) (by decide) (by decide) ?_
          exact kt
        obtain ⟨lf3, hd_lf3⟩ : ∃ z : Int64, z = ((lf2.toUInt64 >>> ((7 : Int32) &&& 0x3f).toInt64.toUInt64).toInt64) := ⟨_, rfl⟩
        have pre11 : ∀ t, Steps p.tables e below (s₁.setTop (mkF m 27 #[.val (.int pf), .val (.long nu), .second, .val (.int (((1 : Int32) <<< (pf &&& 31)) - (1 : Int32))), .val (.int (4 : Int32)), .val (.long lf3), .second] [])) t → Steps p.tables e below (s₁.setTop (entryFrame m #[(.int pf), (.long nu)] 7)) t := by rw [hd_lf3]; exact pre10
        have hl3 : lf3.toInt = lf2.toInt / 128 := by rw [hd_lf3]; exact own_sh _ hz2
        have hz3 : 0 ≤ lf3.toInt := by omega
        have pre12 : ∀ t, Steps p.tables e below (s₁.setTop (mkF m 31 #[.val (.int pf), .val (.long nu), .second, .val (.int (((1 : Int32) <<< (pf &&& 31)) - (1 : Int32))), .val (.int (4 : Int32)), .val (.long lf3), .second] [(.int (lcmpW lf3 (0 : Int64)))])) t → Steps p.tables e below (s₁.setTop (entryFrame m #[(.int pf), (.long nu)] 7)) t := by
          intro t kt
          refine pre11 t ?_
          show Steps p.tables e below (s₁.setTop (mkF m 27 #[.val (.int pf), .val (.long nu), .second, .val (.int (((1 : Int32) <<< (pf &&& 31)) - (1 : Int32))), .val (.int (4 : Int32)), .val (.long lf3), .second] [])) _
          refine XS.lload X0.here hx rfl (hb hby own_d2_27) rfl ?_
          show Steps p.tables e below (s₁.setTop (mkF m 29 #[.val (.int pf), .val (.long nu), .second, .val (.int (((1 : Int32) <<< (pf &&& 31)) - (1 : Int32))), .val (.int (4 : Int32)), .val (.long lf3), .second] [(.long lf3)])) _
          refine XS.lconst X0.here hx rfl (hb hby own_d2_29) ?_
          show Steps p.tables e below (s₁.setTop (mkF m 30 #[.val (.int pf), .val (.long nu), .second, .val (.int (((1 : Int32) <<< (pf &&& 31)) - (1 : Int32))), .val (.int (4 : Int32)), .val (.long lf3), .second] [(.long (0 : Int64)), (.long lf3)])) _
          refine XS.lcmp X0.here hx rfl (hb hby own_d2_30) rfl ?_
          exact kt
        by_cases hc31_3 : (0 : Int64) < lf3
        case pos =>
          have pre13 : ∀ t, Steps p.tables e below (s₁.setTop (mkF m 27 #[.val (.int pf), .val (.long nu), .second, .val (.int (((1 : Int32) <<< (pf &&& 31)) - (1 : Int32))), .val (.int (5 : Int32)), .val (.long ((lf3.toUInt64 >>> ((7 : Int32) &&& 0x3f).toInt64.toUInt64).toInt64)), .second] [])) t → Steps p.tables e below (s₁.setTop (entryFrame m #[(.int pf), (.long nu)] 7)) t := by
            intro t kt
            refine pre12 t ?_
            show Steps p.tables e below (s₁.setTop (mkF m 31 #[.val (.int pf), .val (.long nu), .second, .val (.int (((1 : Int32) <<< (pf &&& 31)) - (1 : Int32))), .val (.int (4 : Int32)), .val (.long lf3), .second] [(.int (lcmpW lf3 (0 : Int64)))])) _
            refine XS.ifNo X0.here hx rfl (hb hby own_d2_31) rfl ((if0 _ _).trans (tlt ((lw_gt lf3 (0 : Int64)).mpr hc31_3)).2.2.2) ?_
            show Steps p.tables e below (s₁.setTop (mkF m 34 #[.val (.int pf), .val (.long nu), .second, .val (.int (((1 : Int32) <<< (pf &&& 31)) - (1 : Int32))), .val (.int (4 : Int32)), .val (.long lf3), .second] [])) _
            refine XS.iinc X0.here hx rfl (hb hby own_d2_34) rfl (l' := #[.val (.int pf), .val (.long nu), .second, .val (.int (((1 : Int32) <<< (pf &&& 31)) - (1 : Int32))), .val (.int (5 : Int32)), .val (.long lf3), .second]) rfl ?_
            show Steps p.tables e below (s₁.setTop (mkF m 37 #[.val (.int pf), .val (.long nu), .second, .val (.int (((1 : Int32) <<< (pf &&& 31)) - (1 : Int32))), .val (.int (5 : Int32)), .val (.long lf3), .second] [])) _
            refine XS.lload X0.here hx rfl (hb hby own_d2_37) rfl ?_
            show Steps p.tables e below (s₁.setTop (mkF m 39 #[.val (.int pf), .val (.long nu), .second, .val (.int (((1 : Int32) <<< (pf &&& 31)) - (1 : Int32))), .val (.int (5 : Int32)), .val (.long lf3), .second] [(.long lf3)])) _
            refine XS.bipush X0.here hx rfl (hb hby own_d2_39) ?_
            show Steps p.tables e below (s₁.setTop (mkF m 41 #[.val (.int pf), .val (.long nu), .second, .val (.int (((1 : Int32) <<< (pf &&& 31)) - (1 : Int32))), .val (.int (5 : Int32)), .val (.long lf3), .second] [(.int (7 : Int32)), (.long lf3)])) _
            refine XS.lushr X0.here hx rfl (hb hby own_d2_41) rfl ?_
            show Steps p.tables e below (s₁.setTop (mkF m 42 #[.val (.int pf), .val (.long nu), .second, .val (.int (((1 : Int32) <<< (pf &&& 31)) - (1 : Int32))), .val (.int (5 : Int32)), .val (.long lf3), .second] [(.long ((lf3.toUInt64 >>> ((7 : Int32) &&& 0x3f).toInt64.toUInt64).toInt64))])) _
            refine XS.lstore X0.here hx rfl (hb hby own_d2_42) rfl (l' := #[.val (.int pf), .val (.long nu), .second, .val (.int (((1 : Int32) <<< (pf &&& 31)) - (1 : Int32))), .val (.int (5 : Int32)), .val (.long ((lf3.toUInt64 >>> ((7 : Int32) &&& 0x3f).toInt64.toUInt64).toInt64)), .second]) rfl ?_
            show Steps p.tables e below (s₁.setTop (mkF m 44 #[.val (.int pf), .val (.long nu), .second, .val (.int (((1 : Int32) <<< (pf &&& 31)) - (1 : Int32))), .val (.int (5 : Int32)), .val (.long ((lf3.toUInt64 >>> ((7 : Int32) &&& 0x3f).toInt64.toUInt64).toInt64)), .second] [])) _
            refine XS.goto X0.here hx rfl (pc0 := 44) (pc' := 27) rfl (hb hby own_d2_44) (by decide) (by decide) ?_
            exact kt
          obtain ⟨lf4, hd_lf4⟩ : ∃ z : Int64, z = ((lf3.toUInt64 >>> ((7 : Int32) &&& 0x3f).toInt64.toUInt64).toInt64) := ⟨_, rfl⟩
          have pre14 : ∀ t, Steps p.tables e below (s₁.setTop (mkF m 27 #[.val (.int pf), .val (.long nu), .second, .val (.int (((1 : Int32) <<< (pf &&& 31)) - (1 : Int32))), .val (.int (5 : Int32)), .val (.long lf4), .second] [])) t → Steps p.tables e below (s₁.setTop (entryFrame m #[(.int pf), (.long nu)] 7)) t := by rw [hd_lf4]; exact pre13
          have hl4 : lf4.toInt = lf3.toInt / 128 := by rw [hd_lf4]; exact own_sh _ hz3
          have hz4 : 0 ≤ lf4.toInt := by omega
          have pre15 : ∀ t, Steps p.tables e below (s₁.setTop (mkF m 31 #[.val (.int pf), .val (.long nu), .second, .val (.int (((1 : Int32) <<< (pf &&& 31)) - (1 : Int32))), .val (.int (5 : Int32)), .val (.long lf4), .second] [(.int (lcmpW lf4 (0 : Int64)))])) t → Steps p.tables e below (s₁.setTop (entryFrame m #[(.int pf), (.long nu)] 7)) t := by
            intro t kt
            refine pre14 t ?_
            show Steps p.tables e below (s₁.setTop (mkF m 27 #[.val (.int pf), .val (.long nu), .second, .val (.int (((1 : Int32) <<< (pf &&& 31)) - (1 : Int32))), .val (.int (5 : Int32)), .val (.long lf4), .second] [])) _
            refine XS.lload X0.here hx rfl (hb hby own_d2_27) rfl ?_
            show Steps p.tables e below (s₁.setTop (mkF m 29 #[.val (.int pf), .val (.long nu), .second, .val (.int (((1 : Int32) <<< (pf &&& 31)) - (1 : Int32))), .val (.int (5 : Int32)), .val (.long lf4), .second] [(.long lf4)])) _
            refine XS.lconst X0.here hx rfl (hb hby own_d2_29) ?_
            show Steps p.tables e below (s₁.setTop (mkF m 30 #[.val (.int pf), .val (.long nu), .second, .val (.int (((1 : Int32) <<< (pf &&& 31)) - (1 : Int32))), .val (.int (5 : Int32)), .val (.long lf4), .second] [(.long (0 : Int64)), (.long lf4)])) _
            refine XS.lcmp X0.here hx rfl (hb hby own_d2_30) rfl ?_
            exact kt
          by_cases hc31_4 : (0 : Int64) < lf4
          case pos =>
            have pre16 : ∀ t, Steps p.tables e below (s₁.setTop (mkF m 27 #[.val (.int pf), .val (.long nu), .second, .val (.int (((1 : Int32) <<< (pf &&& 31)) - (1 : Int32))), .val (.int (6 : Int32)), .val (.long ((lf4.toUInt64 >>> ((7 : Int32) &&& 0x3f).toInt64.toUInt64).toInt64)), .second] [])) t → Steps p.tables e below (s₁.setTop (entryFrame m #[(.int pf), (.long nu)] 7)) t := by
              intro t kt
              refine pre15 t ?_
              show Steps p.tables e below (s₁.setTop (mkF m 31 #[.val (.int pf), .val (.long nu), .second, .val (.int (((1 : Int32) <<< (pf &&& 31)) - (1 : Int32))), .val (.int (5 : Int32)), .val (.long lf4), .second] [(.int (lcmpW lf4 (0 : Int64)))])) _
              refine XS.ifNo X0.here hx rfl (hb hby own_d2_31) rfl ((if0 _ _).trans (tlt ((lw_gt lf4 (0 : Int64)).mpr hc31_4)).2.2.2) ?_
              show Steps p.tables e below (s₁.setTop (mkF m 34 #[.val (.int pf), .val (.long nu), .second, .val (.int (((1 : Int32) <<< (pf &&& 31)) - (1 : Int32))), .val (.int (5 : Int32)), .val (.long lf4), .second] [])) _
              refine XS.iinc X0.here hx rfl (hb hby own_d2_34) rfl (l' := #[.val (.int pf), .val (.long nu), .second, .val (.int (((1 : Int32) <<< (pf &&& 31)) - (1 : Int32))), .val (.int (6 : Int32)), .val (.long lf4), .second]) rfl ?_
              show Steps p.tables e below (s₁.setTop (mkF m 37 #[.val (.int pf), .val (.long nu), .second, .val (.int (((1 : Int32) <<< (pf &&& 31)) - (1 : Int32))), .val (.int (6 : Int32)), .val (.long lf4), .second] [])) _
              refine XS.lload X0.here hx rfl (hb hby own_d2_37) rfl ?_
              show Steps p.tables e below (s₁.setTop (mkF m 39 #[.val (.int pf), .val (.long nu), .second, .val (.int (((1 : Int32) <<< (pf &&& 31)) - (1 : Int32))), .val (.int (6 : Int32)), .val (.long lf4), .second] [(.long lf4)])) _
              refine XS.bipush X0.here hx rfl (hb hby own_d2_39) ?_
              show Steps p.tables e below (s₁.setTop (mkF m 41 #[.val (.int pf), .val (.long nu), .second, .val (.int (((1 : Int32) <<< (pf &&& 31)) - (1 : Int32))), .val (.int (6 : Int32)), .val (.long lf4), .second] [(.int (7 : Int32)), (.long lf4)])) _
              refine XS.lushr X0.here hx rfl (hb hby own_d2_41) rfl ?_
              show Steps p.tables e below (s₁.setTop (mkF m 42 #[.val (.int pf), .val (.long nu), .second, .val (.int (((1 : Int32) <<< (pf &&& 31)) - (1 : Int32))), .val (.int (6 : Int32)), .val (.long lf4), .second] [(.long ((lf4.toUInt64 >>> ((7 : Int32) &&& 0x3f).toInt64.toUInt64).toInt64))])) _
              refine XS.lstore X0.here hx rfl (hb hby own_d2_42) rfl (l' := #[.val (.int pf), .val (.long nu), .second, .val (.int (((1 : Int32) <<< (pf &&& 31)) - (1 : Int32))), .val (.int (6 : Int32)), .val (.long ((lf4.toUInt64 >>> ((7 : Int32) &&& 0x3f).toInt64.toUInt64).toInt64)), .second]) rfl ?_
              show Steps p.tables e below (s₁.setTop (mkF m 44 #[.val (.int pf), .val (.long nu), .second, .val (.int (((1 : Int32) <<< (pf &&& 31)) - (1 : Int32))), .val (.int (6 : Int32)), .val (.long ((lf4.toUInt64 >>> ((7 : Int32) &&& 0x3f).toInt64.toUInt64).toInt64)), .second] [])) _
              refine XS.goto X0.here hx rfl (pc0 := 44) (pc' := 27) rfl (hb hby own_d2_44) (by decide) (by decide) ?_
              exact kt
            obtain ⟨lf5, hd_lf5⟩ : ∃ z : Int64, z = ((lf4.toUInt64 >>> ((7 : Int32) &&& 0x3f).toInt64.toUInt64).toInt64) := ⟨_, rfl⟩
            have pre17 : ∀ t, Steps p.tables e below (s₁.setTop (mkF m 27 #[.val (.int pf), .val (.long nu), .second, .val (.int (((1 : Int32) <<< (pf &&& 31)) - (1 : Int32))), .val (.int (6 : Int32)), .val (.long lf5), .second] [])) t → Steps p.tables e below (s₁.setTop (entryFrame m #[(.int pf), (.long nu)] 7)) t := by rw [hd_lf5]; exact pre16
            have hl5 : lf5.toInt = lf4.toInt / 128 := by rw [hd_lf5]; exact own_sh _ hz4
            have hz5 : 0 ≤ lf5.toInt := by omega
            have pre18 : ∀ t, Steps p.tables e below (s₁.setTop (mkF m 31 #[.val (.int pf), .val (.long nu), .second, .val (.int (((1 : Int32) <<< (pf &&& 31)) - (1 : Int32))), .val (.int (6 : Int32)), .val (.long lf5), .second] [(.int (lcmpW lf5 (0 : Int64)))])) t → Steps p.tables e below (s₁.setTop (entryFrame m #[(.int pf), (.long nu)] 7)) t := by
              intro t kt
              refine pre17 t ?_
              show Steps p.tables e below (s₁.setTop (mkF m 27 #[.val (.int pf), .val (.long nu), .second, .val (.int (((1 : Int32) <<< (pf &&& 31)) - (1 : Int32))), .val (.int (6 : Int32)), .val (.long lf5), .second] [])) _
              refine XS.lload X0.here hx rfl (hb hby own_d2_27) rfl ?_
              show Steps p.tables e below (s₁.setTop (mkF m 29 #[.val (.int pf), .val (.long nu), .second, .val (.int (((1 : Int32) <<< (pf &&& 31)) - (1 : Int32))), .val (.int (6 : Int32)), .val (.long lf5), .second] [(.long lf5)])) _
              refine XS.lconst X0.here hx rfl (hb hby own_d2_29) ?_
              show Steps p.tables e below (s₁.setTop (mkF m 30 #[.val (.int pf), .val (.long nu), .second, .val (.int (((1 : Int32) <<< (pf &&& 31)) - (1 : Int32))), .val (.int (6 : Int32)), .val (.long lf5), .second] [(.long (0 : Int64)), (.long lf5)])) _
              refine XS.lcmp X0.here hx rfl (hb hby own_d2_30) rfl ?_
              exact kt
            by_cases hc31_5 : (0 : Int64) < lf5
            case pos =>
              have pre19 : ∀ t, Steps p.tables e below (s₁.setTop (mkF m 27 #[.val (.int pf), .val (.long nu), .second, .val (.int (((1 : Int32) <<< (pf &&& 31)) - (1 : Int32))), .val (.int (7 : Int32)), .val (.long ((lf5.toUInt64 >>> ((7 : Int32) &&& 0x3f).toInt64.toUInt64).toInt64)), .second] [])) t → Steps p.tables e below (s₁.setTop (entryFrame m #[(.int pf), (.long nu)] 7)) t := by
                intro t kt
                refine pre18 t ?_
                show Steps p.tables e below (s₁.setTop (mkF m 31 #[.val (.int pf), .val (.long nu), .second, .val (.int (((1 : Int32) <<< (pf &&& 31)) - (1 : Int32))), .val (.int (6 : Int32)), .val (.long lf5), .second] [(.int (lcmpW lf5 (0 : Int64)))])) _
                refine XS.ifNo X0.here hx rfl (hb hby own_d2_31) rfl ((if0 _ _).trans (tlt ((lw_gt lf5 (0 : Int64)).mpr hc31_5)).2.2.2) ?_
                show Steps p.tables e below (s₁.setTop (mkF m 34 #[.val (.int pf), .val (.long nu), .second, .val (.int (((1 : Int32) <<< (pf &&& 31)) - (1 : Int32))), .val (.int (6 : Int32)), .val (.long lf5), .second] [])) _
                refine XS.iinc X0.here hx rfl (hb hby own_d2_34) rfl (l' := #[.val (.int pf), .val (.long nu), .second, .val (.int (((1 : Int32) <<< (pf &&& 31)) - (1 : Int32))), .val (.int (7 : Int32)), .val (.long lf5), .second]) rfl ?_
                show Steps p.tables e below (s₁.setTop (mkF m 37 #[.val (.int pf), .val (.long nu), .second, .val (.int (((1 : Int32) <<< (pf &&& 31)) - (1 : Int32))), .val (.int (7 : Int32)), .val (.long lf5), .second] [])) _
                refine XS.lload X0.here hx rfl (hb hby own_d2_37) rfl ?_
                show Steps p.tables e below (s₁.setTop (mkF m 39 #[.val (.int pf), .val (.long nu), .second, .val (.int (((1 : Int32) <<< (pf &&& 31)) - (1 : Int32))), .val (.int (7 : Int32)), .val (.long lf5), .second] [(.long lf5)])) _
                refine XS.bipush X0.here hx rfl (hb hby own_d2_39) ?_
                show Steps p.tables e below (s₁.setTop (mkF m 41 #[.val (.int pf), .val (.long nu), .second, .val (.int (((1 : Int32) <<< (pf &&& 31)) - (1 : Int32))), .val (.int (7 : Int32)), .val (.long lf5), .second] [(.int (7 : Int32)), (.long lf5)])) _
                refine XS.lushr X0.here hx rfl (hb hby own_d2_41) rfl ?_
                show Steps p.tables e below (s₁.setTop (mkF m 42 #[.val (.int pf), .val (.long nu), .second, .val (.int (((1 : Int32) <<< (pf &&& 31)) - (1 : Int32))), .val (.int (7 : Int32)), .val (.long lf5), .second] [(.long ((lf5.toUInt64 >>> ((7 : Int32) &&& 0x3f).toInt64.toUInt64).toInt64))])) _
                refine XS.lstore X0.here hx rfl (hb hby own_d2_42) rfl (l' := #[.val (.int pf), .val (.long nu), .second, .val (.int (((1 : Int32) <<< (pf &&& 31)) - (1 : Int32))), .val (.int (7 : Int32)), .val (.long ((lf5.toUInt64 >>> ((7 : Int32) &&& 0x3f).toInt64.toUInt64).toInt64)), .second]) rfl ?_
                show Steps p.tables e below (s₁.setTop (mkF m 44 #[.val (.int pf), .val (.long nu), .second, .val (.int (((1 : Int32) <<< (pf &&& 31)) - (1 : Int32))), .val (.int (7 : Int32)), .val (.long ((lf5.toUInt64 >>> ((7 : Int32) &&& 0x3f).toInt64.toUInt64).toInt64)), .second] [])) _
                refine XS.goto X0.here hx rfl (pc0 := 44) (pc' := 27) rfl (hb hby own_d2_44) (by decide) (by decide) ?_
                exact kt
              obtain ⟨lf6, hd_lf6⟩ : ∃ z : Int64, z = ((lf5.toUInt64 >>> ((7 : Int32) &&& 0x3f).toInt64.toUInt64).toInt64) := ⟨_, rfl⟩
              have pre20 : ∀ t, Steps p.tables e below (s₁.setTop (mkF m 27 #[.val (.int pf), .val (.long nu), .second, .val (.int (((1 : Int32) <<< (pf &&& 31)) - (1 : Int32))), .val (.int (7 : Int32)), .val (.long lf6), .second] [])) t → Steps p.tables e below (s₁.setTop (entryFrame m #[(.int pf), (.long nu)] 7)) t := by rw [hd_lf6]; exact pre19
              have hl6 : lf6.toInt = lf5.toInt / 128 := by rw [hd_lf6]; exact own_sh _ hz5
              have hz6 : 0 ≤ lf6.toInt := by omega
              have pre21 : ∀ t, Steps p.tables e below (s₁.setTop (mkF m 31 #[.val (.int pf), .val (.long nu), .second, .val (.int (((1 : Int32) <<< (pf &&& 31)) - (1 : Int32))), .val (.int (7 : Int32)), .val (.long lf6), .second] [(.int (lcmpW lf6 (0 : Int64)))])) t → Steps p.tables e below (s₁.setTop (entryFrame m #[(.int pf), (.long nu)] 7)) t := by
                intro t kt
                refine pre20 t ?_
                show Steps p.tables e below (s₁.setTop (mkF m 27 #[.val (.int pf), .val (.long nu), .second, .val (.int (((1 : Int32) <<< (pf &&& 31)) - (1 : Int32))), .val (.int (7 : Int32)), .val (.long lf6), .second] [])) _
                refine XS.lload X0.here hx rfl (hb hby own_d2_27) rfl ?_
                show Steps p.tables e below (s₁.setTop (mkF m 29 #[.val (.int pf), .val (.long nu), .second, .val (.int (((1 : Int32) <<< (pf &&& 31)) - (1 : Int32))), .val (.int (7 : Int32)), .val (.long lf6), .second] [(.long lf6)])) _
                refine XS.lconst X0.here hx rfl (hb hby own_d2_29) ?_
                show Steps p.tables e below (s₁.setTop (mkF m 30 #[.val (.int pf), .val (.long nu), .second, .val (.int (((1 : Int32) <<< (pf &&& 31)) - (1 : Int32))), .val (.int (7 : Int32)), .val (.long lf6), .second] [(.long (0 : Int64)), (.long lf6)])) _
                refine XS.lcmp X0.here hx rfl (hb hby own_d2_30) rfl ?_
                exact kt
              by_cases hc31_6 : (0 : Int64) < lf6
              case pos =>
                have pre22 : ∀ t, Steps p.tables e below (s₁.setTop (mkF m 27 #[.val (.int pf), .val (.long nu), .second, .val (.int (((1 : Int32) <<< (pf &&& 31)) - (1 : Int32))), .val (.int (8 : Int32)), .val (.long ((lf6.toUInt64 >>> ((7 : Int32) &&& 0x3f).toInt64.toUInt64).toInt64)), .second] [])) t → Steps p.tables e below (s₁.setTop (entryFrame m #[(.int pf), (.long nu)] 7)) t := by
                  intro t kt
                  refine pre21 t ?_
                  show Steps p.tables e below (s₁.setTop (mkF m 31 #[.val (.int pf), .val (.long nu), .second, .val (.int (((1 : Int32) <<< (pf &&& 31)) - (1 : Int32))), .val (.int (7 : Int32)), .val (.long lf6), .second] [(.int (lcmpW lf6 (0 : Int64)))])) _
                  refine XS.ifNo X0.here hx rfl (hb hby own_d2_31) rfl ((if0 _ _).trans (tlt ((lw_gt lf6 (0 : Int64)).mpr hc31_6)).2.2.2) ?_
                  show Steps p.tables e below (s₁.setTop (mkF m 34 #[.val (.int pf), .val (.long nu), .second, .val (.int (((1 : Int32) <<< (pf &&& 31)) - (1 : Int32))), .val (.int (7 : Int32)), .val (.long lf6), .second] [])) _
                  refine XS.iinc X0.here hx rfl (hb hby own_d2_34) rfl (l' := #[.val (.int pf), .val (.long nu), .second, .val (.int (((1 : Int32) <<< (pf &&& 31)) - (1 : Int32))), .val (.int (8 : Int32)), .val (.long lf6), .second]) rfl ?_
                  show Steps p.tables e below (s₁.setTop (mkF m 37 #[.val (.int pf), .val (.long nu), .second, .val (.int (((1 : Int32) <<< (pf &&& 31)) - (1 : Int32))), .val (.int (8 : Int32)), .val (.long lf6), .second] [])) _
                  refine XS.lload X0.here hx rfl (hb hby own_d2_37) rfl ?_
                  show Steps p.tables e below (s₁.setTop (mkF m 39 #[.val (.int pf), .val (.long nu), .second, .val (.int (((1 : Int32) <<< (pf &&& 31)) - (1 : Int32))), .val (.int (8 : Int32)), .val (.long lf6), .second] [(.long lf6)])) _
                  refine XS.bipush X0.here hx rfl (hb hby own_d2_39) ?_
                  show Steps p.tables e below (s₁.setTop (mkF m 41 #[.val (.int pf), .val (.long nu), .second, .val (.int (((1 : Int32) <<< (pf &&& 31)) - (1 : Int32))), .val (.int (8 : Int32)), .val (.long lf6), .second] [(.int (7 : Int32)), (.long lf6)])) _
                  refine XS.lushr X0.here hx rfl (hb hby own_d2_41) rfl ?_
                  show Steps p.tables e below (s₁.setTop (mkF m 42 #[.val (.int pf), .val (.long nu), .second, .val (.int (((1 : Int32) <<< (pf &&& 31)) - (1 : Int32))), .val (.int (8 : Int32)), .val (.long lf6), .second] [(.long ((lf6.toUInt64 >>> ((7 : Int32) &&& 0x3f).toInt64.toUInt64).toInt64))])) _
                  refine XS.lstore X0.here hx rfl (hb hby own_d2_42) rfl (l' := #[.val (.int pf), .val (.long nu), .second, .val (.int (((1 : Int32) <<< (pf &&& 31)) - (1 : Int32))), .val (.int (8 : Int32)), .val (.long ((lf6.toUInt64 >>> ((7 : Int32) &&& 0x3f).toInt64.toUInt64).toInt64)), .second]) rfl ?_
                  show Steps p.tables e below (s₁.setTop (mkF m 44 #[.val (.int pf), .val (.long nu), .second, .val (.int (((1 : Int32) <<< (pf &&& 31)) - (1 : Int32))), .val (.int (8 : Int32)), .val (.long ((lf6.toUInt64 >>> ((7 : Int32) &&& 0x3f).toInt64.toUInt64).toInt64)), .second] [])) _
                  refine XS.goto X0.here hx rfl (pc0 := 44) (pc' := 27) rfl (hb hby own_d2_44) (by decide) (by decide) ?_
                  exact kt
                obtain ⟨lf7, hd_lf7⟩ : ∃ z : Int64, z = ((lf6.toUInt64 >>> ((7 : Int32) &&& 0x3f).toInt64.toUInt64).toInt64) := ⟨_, rfl⟩
                have pre23 : ∀ t, Steps p.tables e below (s₁.setTop (mkF m 27 #[.val (.int pf), .val (.long nu), .second, .val (.int (((1 : Int32) <<< (pf &&& 31)) - (1 : Int32))), .val (.int (8 : Int32)), .val (.long lf7), .second] [])) t → Steps p.tables e below (s₁.setTop (entryFrame m #[(.int pf), (.long nu)] 7)) t := by rw [hd_lf7]; exact pre22
                have hl7 : lf7.toInt = lf6.toInt / 128 := by rw [hd_lf7]; exact own_sh _ hz6
                have hz7 : 0 ≤ lf7.toInt := by omega
                have pre24 : ∀ t, Steps p.tables e below (s₁.setTop (mkF m 31 #[.val (.int pf), .val (.long nu), .second, .val (.int (((1 : Int32) <<< (pf &&& 31)) - (1 : Int32))), .val (.int (8 : Int32)), .val (.long lf7), .second] [(.int (lcmpW lf7 (0 : Int64)))])) t → Steps p.tables e below (s₁.setTop (entryFrame m #[(.int pf), (.long nu)] 7)) t := by
                  intro t kt
                  refine pre23 t ?_
                  show Steps p.tables e below (s₁.setTop (mkF m 27 #[.val (.int pf), .val (.long nu), .second, .val (.int (((1 : Int32) <<< (pf &&& 31)) - (1 : Int32))), .val (.int (8 : Int32)), .val (.long lf7), .second] [])) _
                  refine XS.lload X0.here hx rfl (hb hby own_d2_27) rfl ?_
                  show Steps p.tables e below (s₁.setTop (mkF m 29 #[.val (.int pf), .val (.long nu), .second, .val (.int (((1 : Int32) <<< (pf &&& 31)) - (1 : Int32))), .val (.int (8 : Int32)), .val (.long lf7), .second] [(.long lf7)])) _
                  refine XS.lconst X0.here hx rfl (hb hby own_d2_29) ?_
                  show Steps p.tables e below (s₁.setTop (mkF m 30 #[.val (.int pf), .val (.long nu), .second, .val (.int (((1 : Int32) <<< (pf &&& 31)) - (1 : Int32))), .val (.int (8 : Int32)), .val (.long lf7), .second] [(.long (0 : Int64)), (.long lf7)])) _
                  refine XS.lcmp X0.here hx rfl (hb hby own_d2_30) rfl ?_
                  exact kt
                by_cases hc31_7 : (0 : Int64) < lf7
                case pos =>
                  have pre25 : ∀ t, Steps p.tables e below (s₁.setTop (mkF m 27 #[.val (.int pf), .val (.long nu), .second, .val (.int (((1 : Int32) <<< (pf &&& 31)) - (1 : Int32))), .val (.int (9 : Int32)), .val (.long ((lf7.toUInt64 >>> ((7 : Int32) &&& 0x3f).toInt64.toUInt64).toInt64)), .second] [])) t → Steps p.tables e below (s₁.setTop (entryFrame m #[(.int pf), (.long nu)] 7)) t := by
                    intro t kt
                    refine pre24 t ?_
                    show Steps p.tables e below (s₁.setTop (mkF m 31 #[.val (.int pf), .val (.long nu), .second, .val (.int (((1 : Int32) <<< (pf &&& 31)) - (1 : Int32))), .val (.int (8 : Int32)), .val (.long lf7), .second] [(.int (lcmpW lf7 (0 : Int64)))])) _
                    refine XS.ifNo X0.here hx rfl (hb hby own_d2_31) rfl ((if0 _ _).trans (tlt ((lw_gt lf7 (0 : Int64)).mpr hc31_7)).2.2.2) ?_
                    show Steps p.tables e below (s₁.setTop (mkF m 34 #[.val (.int pf), .val (.long nu), .second, .val (.int (((1 : Int32) <<< (pf &&& 31)) - (1 : Int32))), .val (.int (8 : Int32)), .val (.long lf7), .second] [])) _
                    refine XS.iinc X0.here hx rfl (hb hby own_d2_34) rfl (l' := #[.val (.int pf), .val (.long nu), .second, .val (.int (((1 : Int32) <<< (pf &&& 31)) - (1 : Int32))), .val (.int (9 : Int32)), .val (.long lf7), .second]) rfl ?_
                    show Steps p.tables e below (s₁.setTop (mkF m 37 #[.val (.int pf), .val (.long nu), .second, .val (.int (((1 : Int32) <<< (pf &&& 31)) - (1 : Int32))), .val (.int (9 : Int32)), .val (.long lf7), .second] [])) _
                    refine XS.lload X0.here hx rfl (hb hby own_d2_37) rfl ?_
                    show Steps p.tables e below (s₁.setTop (mkF m 39 #[.val (.int pf), .val (.long nu), .second, .val (.int (((1 : Int32) <<< (pf &&& 31)) - (1 : Int32))), .val (.int (9 : Int32)), .val (.long lf7), .second] [(.long lf7)])) _
                    refine XS.bipush X0.here hx rfl (hb hby own_d2_39) ?_
                    show Steps p.tables e below (s₁.setTop (mkF m 41 #[.val (.int pf), .val (.long nu), .second, .val (.int (((1 : Int32) <<< (pf &&& 31)) - (1 : Int32))), .val (.int (9 : Int32)), .val (.long lf7), .second] [(.int (7 : Int32)), (.long lf7)])) _
                    refine XS.lushr X0.here hx rfl (hb hby own_d2_41) rfl ?_
                    show Steps p.tables e below (s₁.setTop (mkF m 42 #[.val (.int pf), .val (.long nu), .second, .val (.int (((1 : Int32) <<< (pf &&& 31)) - (1 : Int32))), .val (.int (9 : Int32)), .val (.long lf7), .second] [(.long ((lf7.toUInt64 >>> ((7 : Int32) &&& 0x3f).toInt64.toUInt64).toInt64))])) _
                    refine XS.lstore X0.here hx rfl (hb hby own_d2_42) rfl (l' := #[.val (.int pf), .val (.long nu), .second, .val (.int (((1 : Int32) <<< (pf &&& 31)) - (1 : Int32))), .val (.int (9 : Int32)), .val (.long ((lf7.toUInt64 >>> ((7 : Int32) &&& 0x3f).toInt64.toUInt64).toInt64)), .second]) rfl ?_
                    show Steps p.tables e below (s₁.setTop (mkF m 44 #[.val (.int pf), .val (.long nu), .second, .val (.int (((1 : Int32) <<< (pf &&& 31)) - (1 : Int32))), .val (.int (9 : Int32)), .val (.long ((lf7.toUInt64 >>> ((7 : Int32) &&& 0x3f).toInt64.toUInt64).toInt64)), .second] [])) _
                    refine XS.goto X0.here hx rfl (pc0 := 44) (pc' := 27) rfl (hb hby own_d2_44) (by decide) (by decide) ?_
                    exact kt
                  obtain ⟨lf8, hd_lf8⟩ : ∃ z : Int64, z = ((lf7.toUInt64 >>> ((7 : Int32) &&& 0x3f).toInt64.toUInt64).toInt64) := ⟨_, rfl⟩
                  have pre26 : ∀ t, Steps p.tables e below (s₁.setTop (mkF m 27 #[.val (.int pf), .val (.long nu), .second, .val (.int (((1 : Int32) <<< (pf &&& 31)) - (1 : Int32))), .val (.int (9 : Int32)), .val (.long lf8), .second] [])) t → Steps p.tables e below (s₁.setTop (entryFrame m #[(.int pf), (.long nu)] 7)) t := by rw [hd_lf8]; exact pre25
                  have hl8 : lf8.toInt = lf7.toInt / 128 := by rw [hd_lf8]; exact own_sh _ hz7
                  have hz8 : 0 ≤ lf8.toInt := by omega
                  have pre27 : ∀ t, Steps p.tables e below (s₁.setTop (mkF m 31 #[.val (.int pf), .val (.long nu), .second, .val (.int (((1 : Int32) <<< (pf &&& 31)) - (1 : Int32))), .val (.int (9 : Int32)), .val (.long lf8), .second] [(.int (lcmpW lf8 (0 : Int64)))])) t → Steps p.tables e below (s₁.setTop (entryFrame m #[(.int pf), (.long nu)] 7)) t := by
                    intro t kt
                    refine pre26 t ?_
                    show Steps p.tables e below (s₁.setTop (mkF m 27 #[.val (.int pf), .val (.long nu), .second, .val (.int (((1 : Int32) <<< (pf &&& 31)) - (1 : Int32))), .val (.int (9 : Int32)), .val (.long lf8), .second] [])) _
                    refine XS.lload X0.here hx rfl (hb hby own_d2_27) rfl ?_
                    show Steps p.tables e below (s₁.setTop (mkF m 29 #[.val (.int pf), .val (.long nu), .second, .val (.int (((1 : Int32) <<< (pf &&& 31)) - (1 : Int32))), .val (.int (9 : Int32)), .val (.long lf8), .second] [(.long lf8)])) _
                    refine XS.lconst X0.here hx rfl (hb hby own_d2_29) ?_
                    show Steps p.tables e below (s₁.setTop (mkF m 30 #[.val (.int pf), .val (.long nu), .second, .val (.int (((1 : Int32) <<< (pf &&& 31)) - (1 : Int32))), .val (.int (9 : Int32)), .val (.long lf8), .second] [(.long (0 : Int64)), (.long lf8)])) _
                    refine XS.lcmp X0.here hx rfl (hb hby own_d2_30) rfl ?_
                    exact kt
                  by_cases hc31_8 : (0 : Int64) < lf8
                  case pos =>
                    have pre28 : ∀ t, Steps p.tables e below (s₁.setTop (mkF m 27 #[.val (.int pf), .val (.long nu), .second, .val (.int (((1 : Int32) <<< (pf &&& 31)) - (1 : Int32))), .val (.int (10 : Int32)), .val (.long ((lf8.toUInt64 >>> ((7 : Int32) &&& 0x3f).toInt64.toUInt64).toInt64)), .second] [])) t → Steps p.tables e below (s₁.setTop (entryFrame m #[(.int pf), (.long nu)] 7)) t := by
                      intro t kt
                      refine pre27 t ?_
                      show Steps p.tables e below (s₁.setTop (mkF m 31 #[.val (.int pf), .val (.long nu), .second, .val (.int (((1 : Int32) <<< (pf &&& 31)) - (1 : Int32))), .val (.int (9 : Int32)), .val (.long lf8), .second] [(.int (lcmpW lf8 (0 : Int64)))])) _
                      refine XS.ifNo X0.here hx rfl (hb hby own_d2_31) rfl ((if0 _ _).trans (tlt ((lw_gt lf8 (0 : Int64)).mpr hc31_8)).2.2.2) ?_
                      show Steps p.tables e below (s₁.setTop (mkF m 34 #[.val (.int pf), .val (.long nu), .second, .val (.int (((1 : Int32) <<< (pf &&& 31)) - (1 : Int32))), .val (.int (9 : Int32)), .val (.long lf8), .second] [])) _
                      refine XS.iinc X0.here hx rfl (hb hby own_d2_34) rfl (l' := #[.val (.int pf), .val (.long nu), .second, .val (.int (((1 : Int32) <<< (pf &&& 31)) - (1 : Int32))), .val (.int (10 : Int32)), .val (.long lf8), .second]) rfl ?_
                      show Steps p.tables e below (s₁.setTop (mkF m 37 #[.val (.int pf), .val (.long nu), .second, .val (.int (((1 : Int32) <<< (pf &&& 31)) - (1 : Int32))), .val (.int (10 : Int32)), .val (.long lf8), .second] [])) _
                      refine XS.lload X0.here hx rfl (hb hby own_d2_37) rfl ?_
                      show Steps p.tables e below (s₁.setTop (mkF m 39 #[.val (.int pf), .val (.long nu), .second, .val (.int (((1 : Int32) <<< (pf &&& 31)) - (1 : Int32))), .val (.int (10 : Int32)), .val (.long lf8), .second] [(.long lf8)])) _
                      refine XS.bipush X0.here hx rfl (hb hby own_d2_39) ?_
                      show Steps p.tables e below (s₁.setTop (mkF m 41 #[.val (.int pf), .val (.long nu), .second, .val (.int (((1 : Int32) <<< (pf &&& 31)) - (1 : Int32))), .val (.int (10 : Int32)), .val (.long lf8), .second] [(.int (7 : Int32)), (.long lf8)])) _
                      refine XS.lushr X0.here hx rfl (hb hby own_d2_41) rfl ?_
                      show Steps p.tables e below (s₁.setTop (mkF m 42 #[.val (.int pf), .val (.long nu), .second, .val (.int (((1 : Int32) <<< (pf &&& 31)) - (1 : Int32))), .val (.int (10 : Int32)), .val (.long lf8), .second] [(.long ((lf8.toUInt64 >>> ((7 : Int32) &&& 0x3f).toInt64.toUInt64).toInt64))])) _
                      refine XS.lstore X0.here hx rfl (hb hby own_d2_42) rfl (l' := #[.val (.int pf), .val (.long nu), .second, .val (.int (((1 : Int32) <<< (pf &&& 31)) - (1 : Int32))), .val (.int (10 : Int32)), .val (.long ((lf8.toUInt64 >>> ((7 : Int32) &&& 0x3f).toInt64.toUInt64).toInt64)), .second]) rfl ?_
                      show Steps p.tables e below (s₁.setTop (mkF m 44 #[.val (.int pf), .val (.long nu), .second, .val (.int (((1 : Int32) <<< (pf &&& 31)) - (1 : Int32))), .val (.int (10 : Int32)), .val (.long ((lf8.toUInt64 >>> ((7 : Int32) &&& 0x3f).toInt64.toUInt64).toInt64)), .second] [])) _
                      refine XS.goto X0.here hx rfl (pc0 := 44) (pc' := 27) rfl (hb hby own_d2_44) (by decide) (by decide) ?_
                      exact kt
                    obtain ⟨lf9, hd_lf9⟩ : ∃ z : Int64, z = ((lf8.toUInt64 >>> ((7 : Int32) &&& 0x3f).toInt64.toUInt64).toInt64) := ⟨_, rfl⟩
                    have pre29 : ∀ t, Steps p.tables e below (s₁.setTop (mkF m 27 #[.val (.int pf), .val (.long nu), .second, .val (.int (((1 : Int32) <<< (pf &&& 31)) - (1 : Int32))), .val (.int (10 : Int32)), .val (.long lf9), .second] [])) t → Steps p.tables e below (s₁.setTop (entryFrame m #[(.int pf), (.long nu)] 7)) t := by rw [hd_lf9]; exact pre28
                    have hl9 : lf9.toInt = lf8.toInt / 128 := by rw [hd_lf9]; exact own_sh _ hz8
                    have hz9 : 0 ≤ lf9.toInt := by omega
                    obtain ⟨fs, hr, hrun, hended, hW, hsame⟩ := X0.leave (v := some (.int (10 : Int32))) (fun h => by rw [Bd.returns] at h; cases h) (BodyLoose.notSynchronized Bd)
                    refine ⟨_, _, pre29 _ ?_, hrun, hended, _, _, rfl, ?_, ⟨_, rfl⟩, hW, hsame.mono (by decide) (by decide)⟩
                    · skip
                      show Steps p.tables e below (s₁.setTop (mkF m 27 #[.val (.int pf), .val (.long nu), .second, .val (.int (((1 : Int32) <<< (pf &&& 31)) - (1 : Int32))), .val (.int (10 : Int32)), .val (.long lf9), .second] [])) _
                      refine XS.lload X0.here hx rfl (hb hby own_d2_27) rfl ?_
                      show Steps p.tables e below (s₁.setTop (mkF m 29 #[.val (.int pf), .val (.long nu), .second, .val (.int (((1 : Int32) <<< (pf &&& 31)) - (1 : Int32))), .val (.int (10 : Int32)), .val (.long lf9), .second] [(.long lf9)])) _
                      refine XS.lconst X0.here hx rfl (hb hby own_d2_29) ?_
                      show Steps p.tables e below (s₁.setTop (mkF m 30 #[.val (.int pf), .val (.long nu), .second, .val (.int (((1 : Int32) <<< (pf &&& 31)) - (1 : Int32))), .val (.int (10 : Int32)), .val (.long lf9), .second] [(.long (0 : Int64)), (.long lf9)])) _
                      refine XS.lcmp X0.here hx rfl (hb hby own_d2_30) rfl ?_
                      show Steps p.tables e below (s₁.setTop (mkF m 31 #[.val (.int pf), .val (.long nu), .second, .val (.int (((1 : Int32) <<< (pf &&& 31)) - (1 : Int32))), .val (.int (10 : Int32)), .val (.long lf9), .second] [(.int (lcmpW lf9 (0 : Int64)))])) _
                      refine XS.ifYes X0.here hx rfl (pc0 := 31) (pc' := 47) rfl (hb hby own_d2_31) rfl ((if0 _ _).trans (flt (fun q => (fun q => by have q1 := Int64.lt_iff_toInt_lt.mp q; have o0 : (0 : Int64).toInt = 0 := rfl; have r := rng64 dd; omega) ((lw_gt lf9 (0 : Int64)).mp q))).2.2.2) (by decide) (by decide) ?_
                      show Steps p.tables e below (s₁.setTop (mkF m 47 #[.val (.int pf), .val (.long nu), .second, .val (.int (((1 : Int32) <<< (pf &&& 31)) - (1 : Int32))), .val (.int (10 : Int32)), .val (.long lf9), .second] [])) _
                      refine XS.iload X0.here hx rfl (hb hby own_d2_47) rfl ?_
                      show Steps p.tables e below (s₁.setTop (mkF m 49 #[.val (.int pf), .val (.long nu), .second, .val (.int (((1 : Int32) <<< (pf &&& 31)) - (1 : Int32))), .val (.int (10 : Int32)), .val (.long lf9), .second] [(.int (10 : Int32))])) _
                      exact retI X0 hx Bd.returns (hb hby own_d2_49) hr
                    · show own_Q2 Z pf nu h0 n0 _ s₁.heap _
                      rw [e0]
                      refine ⟨?_, N0, rfl⟩
                      have o0 : (0 : Int64).toInt = 0 := rfl
                      have rr := rng64 dd
                      have q1 := Int64.lt_iff_toInt_lt.mp hc31
                      have q2 := Int64.lt_iff_toInt_lt.mp hc31_2
                      have q3 := Int64.lt_iff_toInt_lt.mp hc31_3
                      have q4 := Int64.lt_iff_toInt_lt.mp hc31_4
                      have q5 := Int64.lt_iff_toInt_lt.mp hc31_5
                      have q6 := Int64.lt_iff_toInt_lt.mp hc31_6
                      have q7 := Int64.lt_iff_toInt_lt.mp hc31_7
                      have q8 := Int64.lt_iff_toInt_lt.mp hc31_8
                      have t1 : own_at dd (7 : Int32) = 1 := own_at1 (N := 128) (by decide) (by omega)
                      have t2 : own_at dd (14 : Int32) = 1 := own_at1 (N := 16384) (by decide) (by omega)
                      have t3 : own_at dd (21 : Int32) = 1 := own_at1 (N := 2097152) (by decide) (by omega)
                      have t4 : own_at dd (28 : Int32) = 1 := own_at1 (N := 268435456) (by decide) (by omega)
                      have t5 : own_at dd (35 : Int32) = 1 := own_at1 (N := 34359738368) (by decide) (by omega)
                      have t6 : own_at dd (42 : Int32) = 1 := own_at1 (N := 4398046511104) (by decide) (by omega)
                      have t7 : own_at dd (49 : Int32) = 1 := own_at1 (N := 562949953421312) (by decide) (by omega)
                      have t8 : own_at dd (56 : Int32) = 1 := own_at1 (N := 72057594037927936) (by decide) (by omega)
                      refine congrArg (fun z => some (Value.int z)) ?_
                      have e : own_len9 pf nu = own_cnt dd := by rw [hd_dd]; exact if_neg hc10
                      rw [e, own_cnt, t1, t2, t3, t4, t5, t6, t7, t8]
                      try rfl
                  case neg =>
                    obtain ⟨fs, hr, hrun, hended, hW, hsame⟩ := X0.leave (v := some (.int (9 : Int32))) (fun h => by rw [Bd.returns] at h; cases h) (BodyLoose.notSynchronized Bd)
                    refine ⟨_, _, pre27 _ ?_, hrun, hended, _, _, rfl, ?_, ⟨_, rfl⟩, hW, hsame.mono (by decide) (by decide)⟩
                    · skip
                      show Steps p.tables e below (s₁.setTop (mkF m 31 #[.val (.int pf), .val (.long nu), .second, .val (.int (((1 : Int32) <<< (pf &&& 31)) - (1 : Int32))), .val (.int (9 : Int32)), .val (.long lf8), .second] [(.int (lcmpW lf8 (0 : Int64)))])) _
                      refine XS.ifYes X0.here hx rfl (pc0 := 31) (pc' := 47) rfl (hb hby own_d2_31) rfl ((if0 _ _).trans (flt (fun q => hc31_8 ((lw_gt lf8 (0 : Int64)).mp q))).2.2.2) (by decide) (by decide) ?_
                      show Steps p.tables e below (s₁.setTop (mkF m 47 #[.val (.int pf), .val (.long nu), .second, .val (.int (((1 : Int32) <<< (pf &&& 31)) - (1 : Int32))), .val (.int (9 : Int32)), .val (.long lf8), .second] [])) _
                      refine XS.iload X0.here hx rfl (hb hby own_d2_47) rfl ?_
                      show Steps p.tables e below (s₁.setTop (mkF m 49 #[.val (.int pf), .val (.long nu), .second, .val (.int (((1 : Int32) <<< (pf &&& 31)) - (1 : Int32))), .val (.int (9 : Int32)), .val (.long lf8), .second] [(.int (9 : Int32))])) _
                      exact retI X0 hx Bd.returns (hb hby own_d2_49) hr
                    · show own_Q2 Z pf nu h0 n0 _ s₁.heap _
                      rw [e0]
                      refine ⟨?_, N0, rfl⟩
                      have o0 : (0 : Int64).toInt = 0 := rfl
                      have rr := rng64 dd
                      have q1 := Int64.lt_iff_toInt_lt.mp hc31
                      have q2 := Int64.lt_iff_toInt_lt.mp hc31_2
                      have q3 := Int64.lt_iff_toInt_lt.mp hc31_3
                      have q4 := Int64.lt_iff_toInt_lt.mp hc31_4
                      have q5 := Int64.lt_iff_toInt_lt.mp hc31_5
                      have q6 := Int64.lt_iff_toInt_lt.mp hc31_6
                      have q7 := Int64.lt_iff_toInt_lt.mp hc31_7
                      have q8 : ¬ (0 : Int64).toInt < lf8.toInt := fun q => hc31_8 (Int64.lt_iff_toInt_lt.mpr q)
                      have t1 : own_at dd (7 : Int32) = 1 := own_at1 (N := 128) (by decide) (by omega)
                      have t2 : own_at dd (14 : Int32) = 1 := own_at1 (N := 16384) (by decide) (by omega)
                      have t3 : own_at dd (21 : Int32) = 1 := own_at1 (N := 2097152) (by decide) (by omega)
                      have t4 : own_at dd (28 : Int32) = 1 := own_at1 (N := 268435456) (by decide) (by omega)
                      have t5 : own_at dd (35 : Int32) = 1 := own_at1 (N := 34359738368) (by decide) (by omega)
                      have t6 : own_at dd (42 : Int32) = 1 := own_at1 (N := 4398046511104) (by decide) (by omega)
                      have t7 : own_at dd (49 : Int32) = 1 := own_at1 (N := 562949953421312) (by decide) (by omega)
                      have t8 : own_at dd (56 : Int32) = 0 := own_at0 (N := 72057594037927936) (by decide) (by omega)
                      refine congrArg (fun z => some (Value.int z)) ?_
                      have e : own_len9 pf nu = own_cnt dd := by rw [hd_dd]; exact if_neg hc10
                      rw [e, own_cnt, t1, t2, t3, t4, t5, t6, t7, t8]
                      try rfl
                case neg =>
                  obtain ⟨fs, hr, hrun, hended, hW, hsame⟩ := X0.leave (v := some (.int (8 : Int32))) (fun h => by rw [Bd.returns] at h; cases h) (BodyLoose.notSynchronized Bd)
                  refine ⟨_, _, pre24 _ ?_, hrun, hended, _, _, rfl, ?_, ⟨_, rfl⟩, hW, hsame.mono (by decide) (by decide)⟩
                  · skip
                    show Steps p.tables e below (s₁.setTop (mkF m 31 #[.val (.int pf), .val (.long nu), .second, .val (.int (((1 : Int32) <<< (pf &&& 31)) - (1 : Int32))), .val (.int (8 : Int32)), .val (.long lf7), .second] [(.int (lcmpW lf7 (0 : Int64)))])) _
                    refine XS.ifYes X0.here hx rfl (pc0 := 31) (pc' := 47) rfl (hb hby own_d2_31) rfl ((if0 _ _).trans (flt (fun q => hc31_7 ((lw_gt lf7 (0 : Int64)).mp q))).2.2.2) (by decide) (by decide) ?_
                    show Steps p.tables e below (s₁.setTop (mkF m 47 #[.val (.int pf), .val (.long nu), .second, .val (.int (((1 : Int32) <<< (pf &&& 31)) - (1 : Int32))), .val (.int (8 : Int32)), .val (.long lf7), .second] [])) _
                    refine XS.iload X0.here hx rfl (hb hby own_d2_47) rfl ?_
                    show Steps p.tables e below (s₁.setTop (mkF m 49 #[.val (.int pf), .val (.long nu), .second, .val (.int (((1 : Int32) <<< (pf &&& 31)) - (1 : Int32))), .val (.int (8 : Int32)), .val (.long lf7), .second] [(.int (8 : Int32))])) _
                    exact retI X0 hx Bd.returns (hb hby own_d2_49) hr
                  · show own_Q2 Z pf nu h0 n0 _ s₁.heap _
                    rw [e0]
                    refine ⟨?_, N0, rfl⟩
                    have o0 : (0 : Int64).toInt = 0 := rfl
                    have rr := rng64 dd
                    have q1 := Int64.lt_iff_toInt_lt.mp hc31
                    have q2 := Int64.lt_iff_toInt_lt.mp hc31_2
                    have q3 := Int64.lt_iff_toInt_lt.mp hc31_3
                    have q4 := Int64.lt_iff_toInt_lt.mp hc31_4
                    have q5 := Int64.lt_iff_toInt_lt.mp hc31_5
                    have q6 := Int64.lt_iff_toInt_lt.mp hc31_6
                    have q7 : ¬ (0 : Int64).toInt < lf7.toInt := fun q => hc31_7 (Int64.lt_iff_toInt_lt.mpr q)
                    have t1 : own_at dd (7 : Int32) = 1 := own_at1 (N := 128) (by decide) (by omega)
                    have t2 : own_at dd (14 : Int32) = 1 := own_at1 (N := 16384) (by decide) (by omega)
                    have t3 : own_at dd (21 : Int32) = 1 := own_at1 (N := 2097152) (by decide) (by omega)
                    have t4 : own_at dd (28 : Int32) = 1 := own_at1 (N := 268435456) (by decide) (by omega)
                    have t5 : own_at dd (35 : Int32) = 1 := own_at1 (N := 34359738368) (by decide) (by omega)
                    have t6 : own_at dd (42 : Int32) = 1 := own_at1 (N := 4398046511104) (by decide) (by omega)
                    have t7 : own_at dd (49 : Int32) = 0 := own_at0 (N := 562949953421312) (by decide) (by omega)
                    have t8 : own_at dd (56 : Int32) = 0 := own_at0 (N := 72057594037927936) (by decide) (by omega)
                    refine congrArg (fun z => some (Value.int z)) ?_
                    have e : own_len9 pf nu = own_cnt dd := by rw [hd_dd]; exact if_neg hc10
                    rw [e, own_cnt, t1, t2, t3, t4, t5, t6, t7, t8]
                    try rfl
              case neg =>
                obtain ⟨fs, hr, hrun, hended, hW, hsame⟩ := X0.leave (v := some (.int (7 : Int32))) (fun h => by rw [Bd.returns] at h; cases h) (BodyLoose.notSynchronized Bd)
                refine ⟨_, _, pre21 _ ?_, hrun, hended, _, _, rfl, ?_, ⟨_, rfl⟩, hW, hsame.mono (by decide) (by decide)⟩
                · skip
                  show Steps p.tables e below (s₁.setTop (mkF m 31 #[.val (.int pf), .val (.long nu), .second, .val (.int (((1 : Int32) <<< (pf &&& 31)) - (1 : Int32))), .val (.int (7 : Int32)), .val (.long lf6), .second] [(.int (lcmpW lf6 (0 : Int64)))])) _
                  refine XS.ifYes X0.here hx rfl (pc0 := 31) (pc' := 47) rfl (hb hby own_d2_31) rfl ((if0 _ _).trans (flt (fun q => hc31_6 ((lw_gt lf6 (0 : Int64)).mp q))).2.2.2) (by decide) (by decide) ?_
                  show Steps p.tables e below (s₁.setTop (mkF m 47 #[.val (.int pf), .val (.long nu), .second, .val (.int (((1 : Int32) <<< (pf &&& 31)) - (1 : Int32))), .val (.int (7 : Int32)), .val (.long lf6), .second] [])) _
                  refine XS.iload X0.here hx rfl (hb hby own_d2_47) rfl ?_
                  show Steps p.tables e below (s₁.setTop (mkF m 49 #[.val (.int pf), .val (.long nu), .second, .val (.int (((1 : Int32) <<< (pf &&& 31)) - (1 : Int32))), .val (.int (7 : Int32)), .val (.long lf6), .second] [(.int (7 : Int32))])) _
                  exact retI X0 hx Bd.returns (hb hby own_d2_49) hr
                · show own_Q2 Z pf nu h0 n0 _ s₁.heap _
                  rw [e0]
                  refine ⟨?_, N0, rfl⟩
                  have o0 : (0 : Int64).toInt = 0 := rfl
                  have rr := rng64 dd
                  have q1 := Int64.lt_iff_toInt_lt.mp hc31
                  have q2 := Int64.lt_iff_toInt_lt.mp hc31_2
                  have q3 := Int64.lt_iff_toInt_lt.mp hc31_3
                  have q4 := Int64.lt_iff_toInt_lt.mp hc31_4
                  have q5 := Int64.lt_iff_toInt_lt.mp hc31_5
                  have q6 : ¬ (0 : Int64).toInt < lf6.toInt := fun q => hc31_6 (Int64.lt_iff_toInt_lt.mpr q)
                  have t1 : own_at dd (7 : Int32) = 1 := own_at1 (N := 128) (by decide) (by omega)
                  have t2 : own_at dd (14 : Int32) = 1 := own_at1 (N := 16384) (by decide) (by omega)
                  have t3 : own_at dd (21 : Int32) = 1 := own_at1 (N := 2097152) (by decide) (by omega)
                  have t4 : own_at dd (28 : Int32) = 1 := own_at1 (N := 268435456) (by decide) (by omega)
                  have t5 : own_at dd (35 : Int32) = 1 := own_at1 (N := 34359738368) (by decide) (by omega)
                  have t6 : own_at dd (42 : Int32) = 0 := own_at0 (N := 4398046511104) (by decide) (by omega)
                  have t7 : own_at dd (49 : Int32) = 0 := own_at0 (N := 562949953421312) (by decide) (by omega)
                  have t8 : own_at dd (56 : Int32) = 0 := own_at0 (N := 72057594037927936) (by decide) (by omega)
                  refine congrArg (fun z => some (Value.int z)) ?_
                  have e : own_len9 pf nu = own_cnt dd := by rw [hd_dd]; exact if_neg hc10
                  rw [e, own_cnt, t1, t2, t3, t4, t5, t6, t7, t8]
                  try rfl
            case neg =>
              obtain ⟨fs, hr, hrun, hended, hW, hsame⟩ := X0.leave (v := some (.int (6 : Int32))) (fun h => by rw [Bd.returns] at h; cases h) (BodyLoose.notSynchronized Bd)
              refine ⟨_, _, pre18 _ ?_, hrun, hended, _, _, rfl, ?_, ⟨_, rfl⟩, hW, hsame.mono (by decide) (by decide)⟩
              · skip
                show Steps p.tables e below (s₁.setTop (mkF m 31 #[.val (.int pf), .val (.long nu), .second, .val (.int (((1 : Int32) <<< (pf &&& 31)) - (1 : Int32))), .val (.int (6 : Int32)), .val (.long lf5), .second] [(.int (lcmpW lf5 (0 : Int64)))])) _
                refine XS.ifYes X0.here hx rfl (pc0 := 31) (pc' := 47) rfl (hb hby own_d2_31) rfl ((if0 _ _).trans (flt (fun q => hc31_5 ((lw_gt lf5 (0 : Int64)).mp q))).2.2.2) (by decide) (by decide) ?_
                show Steps p.tables e below (s₁.setTop (mkF m 47 #[.val (.int pf), .val (.long nu), .second, .val (.int (((1 : Int32) <<< (pf &&& 31)) - (1 : Int32))), .val (.int (6 : Int32)), .val (.long lf5), .second] [])) _
                refine XS.iload X0.here hx rfl (hb hby own_d2_47) rfl ?_
                show Steps p.tables e below (s₁.setTop (mkF m 49 #[.val (.int pf), .val (.long nu), .second, .val (.int (((1 : Int32) <<< (pf &&& 31)) - (1 : Int32))), .val (.int (6 : Int32)), .val (.long lf5), .second] [(.int (6 : Int32))])) _
                exact retI X0 hx Bd.returns (hb hby own_d2_49) hr
              · show own_Q2 Z pf nu h0 n0 _ s₁.heap _
                rw [e0]
                refine ⟨?_, N0, rfl⟩
                have o0 : (0 : Int64).toInt = 0 := rfl
                have rr := rng64 dd
                have q1 := Int64.lt_iff_toInt_lt.mp hc31
                have q2 := Int64.lt_iff_toInt_lt.mp hc31_2
                have q3 := Int64.lt_iff_toInt_lt.mp hc31_3
                have q4 := Int64.lt_iff_toInt_lt.mp hc31_4
                have q5 : ¬ (0 : Int64).toInt < lf5.toInt := fun q => hc31_5 (Int64.lt_iff_toInt_lt.mpr q)
                have t1 : own_at dd (7 : Int32) = 1 := own_at1 (N := 128) (by decide) (by omega)
                have t2 : own_at dd (14 : Int32) = 1 := own_at1 (N := 16384) (by decide) (by omega)
                have t3 : own_at dd (21 : Int32) = 1 := own_at1 (N := 2097152) (by decide) (by omega)
                have t4 : own_at dd (28 : Int32) = 1 := own_at1 (N := 268435456) (by decide) (by omega)
                have t5 : own_at dd (35 : Int32) = 0 := own_at0 (N := 34359738368) (by decide) (by omega)
                have t6 : own_at dd (42 : Int32) = 0 := own_at0 (N := 4398046511104) (by decide) (by omega)
                have t7 : own_at dd (49 : Int32) = 0 := own_at0 (N := 562949953421312) (by decide) (by omega)
                have t8 : own_at dd (56 : Int32) = 0 := own_at0 (N := 72057594037927936) (by decide) (by omega)
                refine congrArg (fun z => some (Value.int z)) ?_
                have e : own_len9 pf nu = own_cnt dd := by rw [hd_dd]; exact if_neg hc10
                rw [e, own_cnt, t1, t2, t3, t4, t5, t6, t7, t8]
                try rfl
          case neg =>
            obtain ⟨fs, hr, hrun, hended, hW, hsame⟩ := X0.leave (v := some (.int (5 : Int32))) (fun h => by rw [Bd.returns] at h; cases h) (BodyLoose.notSynchronized Bd)
            refine ⟨_, _, pre15 _ ?_, hrun, hended, _, _, rfl, ?_, ⟨_, rfl⟩, hW, hsame.mono (by decide) (by decide)⟩
            · skip
              show Steps p.tables e below (s₁.setTop (mkF m 31 #[.val (.int pf), .val (.long nu), .second, .val (.int (((1 : Int32) <<< (pf &&& 31)) - (1 : Int32))), .val (.int (5 : Int32)), .val (.long lf4), .second] [(.int (lcmpW lf4 (0 : Int64)))])) _
              refine XS.ifYes X0.here hx rfl (pc0 := 31) (pc' := 47) rfl (hb hby own_d2_31) rfl ((if0 _ _).trans (flt (fun q => hc31_4 ((lw_gt lf4 (0 : Int64)).mp q))).2.2.2) (by decide) (by decide) ?_
              show Steps p.tables e below (s₁.setTop (mkF m 47 #[.val (.int pf), .val (.long nu), .second, .val (.int (((1 : Int32) <<< (pf &&& 31)) - (1 : Int32))), .val (.int (5 : Int32)), .val (.long lf4), .second] [])) _
              refine XS.iload X0.here hx rfl (hb hby own_d2_47) rfl ?_
              show Steps p.tables e below (s₁.setTop (mkF m 49 #[.val (.int pf), .val (.long nu), .second, .val (.int (((1 : Int32) <<< (pf &&& 31)) - (1 : Int32))), .val (.int (5 : Int32)), .val (.long lf4), .second] [(.int (5 : Int32))])) _
              exact retI X0 hx Bd.returns (hb hby own_d2_49) hr
            · show own_Q2 Z pf nu h0 n0 _ s₁.heap _
              rw [e0]
              refine ⟨?_, N0, rfl⟩
              have o0 : (0 : Int64).toInt = 0 := rfl
              have rr := rng64 dd
              have q1 := Int64.lt_iff_toInt_lt.mp hc31
              have q2 := Int64.lt_iff_toInt_lt.mp hc31_2
              have q3 := Int64.lt_iff_toInt_lt.mp hc31_3
              have q4 : ¬ (0 : Int64).toInt < lf4.toInt := fun q => hc31_4 (Int64.lt_iff_toInt_lt.mpr q)
              have t1 : own_at dd (7 : Int32) = 1 := own_at1 (N := 128) (by decide) (by omega)
              have t2 : own_at dd (14 : Int32) = 1 := own_at1 (N := 16384) (by decide) (by omega)
              have t3 : own_at dd (21 : Int32) = 1 := own_at1 (N := 2097152) (by decide) (by omega)
              have t4 : own_at dd (28 : Int32) = 0 := own_at0 (N := 268435456) (by decide) (by omega)
              have t5 : own_at dd (35 : Int32) = 0 := own_at0 (N := 34359738368) (by decide) (by omega)
              have t6 : own_at dd (42 : Int32) = 0 := own_at0 (N := 4398046511104) (by decide) (by omega)
              have t7 : own_at dd (49 : Int32) = 0 := own_at0 (N := 562949953421312) (by decide) (by omega)
              have t8 : own_at dd (56 : Int32) = 0 := own_at0 (N := 72057594037927936) (by decide) (by omega)
              refine congrArg (fun z => some (Value.int z)) ?_
              have e : own_len9 pf nu = own_cnt dd := by rw [hd_dd]; exact if_neg hc10
              rw [e, own_cnt, t1, t2, t3, t4, t5, t6, t7, t8]
              try rfl
        case neg =>
          obtain ⟨fs, hr, hrun, hended, hW, hsame⟩ := X0.leave (v := some (.int (4 : Int32))) (fun h => by rw [Bd.returns] at h; cases h) (BodyLoose.notSynchronized Bd)
          refine ⟨_, _, pre12 _ ?_, hrun, hended, _, _, rfl, ?_, ⟨_, rfl⟩, hW, hsame.mono (by decide) (by decide)⟩
          · skip
            show Steps p.tables e below (s₁.setTop (mkF m 31 #[.val (.int pf), .val (.long nu), .second, .val (.int (((1 : Int32) <<< (pf &&& 31)) - (1 : Int32))), .val (.int (4 : Int32)), .val (.long lf3), .second] [(.int (lcmpW lf3 (0 : Int64)))])) _
            refine XS.ifYes X0.here hx rfl (pc0 := 31) (pc' := 47) rfl (hb hby own_d2_31) rfl ((if0 _ _).trans (flt (fun q => hc31_3 ((lw_gt lf3 (0 : Int64)).mp q))).2.2.2) (by decide) (by decide) ?_
            show Steps p.tables e below (s₁.setTop (mkF m 47 #[.val (.int pf), .val (.long nu), .second, .val (.int (((1 : Int32) <<< (pf &&& 31)) - (1 : Int32))), .val (.int (4 : Int32)), .val (.long lf3), .second] [])) _
            refine XS.iload X0.here hx rfl (hb hby own_d2_47) rfl ?_
            show Steps p.tables e below (s₁.setTop (mkF m 49 #[.val (.int pf), .val (.long nu), .second, .val (.int (((1 : Int32) <<< (pf &&& 31)) - (1 : Int32))), .val (.int (4 : Int32)), .val (.long lf3), .second] [(.int (4 : Int32))])) _
            exact retI X0 hx Bd.returns (hb hby own_d2_49) hr
          · show own_Q2 Z pf nu h0 n0 _ s₁.heap _
            rw [e0]
            refine ⟨?_, N0, rfl⟩
            have o0 : (0 : Int64).toInt = 0 := rfl
            have rr := rng64 dd
            have q1 := Int64.lt_iff_toInt_lt.mp hc31
            have q2 := Int64.lt_iff_toInt_lt.mp hc31_2
            have q3 : ¬ (0 : Int64).toInt < lf3.toInt := fun q => hc31_3 (Int64.lt_iff_toInt_lt.mpr q)
            have t1 : own_at dd (7 : Int32) = 1 := own_at1 (N := 128) (by decide) (by omega)
            have t2 : own_at dd (14 : Int32) = 1 := own_at1 (N := 16384) (by decide) (by omega)
            have t3 : own_at dd (21 : Int32) = 0 := own_at0 (N := 2097152) (by decide) (by omega)
            have t4 : own_at dd (28 : Int32) = 0 := own_at0 (N := 268435456) (by decide) (by omega)
            have t5 : own_at dd (35 : Int32) = 0 := own_at0 (N := 34359738368) (by decide) (by omega)
            have t6 : own_at dd (42 : Int32) = 0 := own_at0 (N := 4398046511104) (by decide) (by omega)
            have t7 : own_at dd (49 : Int32) = 0 := own_at0 (N := 562949953421312) (by decide) (by omega)
            have t8 : own_at dd (56 : Int32) = 0 := own_at0 (N := 72057594037927936) (by decide) (by omega)
            refine congrArg (fun z => some (Value.int z)) ?_
            have e : own_len9 pf nu = own_cnt dd := by rw [hd_dd]; exact if_neg hc10
            rw [e, own_cnt, t1, t2, t3, t4, t5, t6, t7, t8]
            try rfl
      case neg =>
        obtain ⟨fs, hr, hrun, hended, hW, hsame⟩ := X0.leave (v := some (.int (3 : Int32))) (fun h => by rw [Bd.returns] at h; cases h) (BodyLoose.notSynchronized Bd)
        refine ⟨_, _, pre9 _ ?_, hrun, hended, _, _, rfl, ?_, ⟨_, rfl⟩, hW, hsame.mono (by decide) (by decide)⟩
        · skip
          show Steps p.tables e below (s₁.setTop (mkF m 31 #[.val (.int pf), .val (.long nu), .second, .val (.int (((1 : Int32) <<< (pf &&& 31)) - (1 : Int32))), .val (.int (3 : Int32)), .val (.long lf2), .second] [(.int (lcmpW lf2 (0 : Int64)))])) _
          refine XS.ifYes X0.here hx rfl (pc0 := 31) (pc' := 47) rfl (hb hby own_d2_31) rfl ((if0 _ _).trans (flt (fun q => hc31_2 ((lw_gt lf2 (0 : Int64)).mp q))).2.2.2) (by decide) (by decide) ?_
          show Steps p.tables e below (s₁.setTop (mkF m 47 #[.val (.int pf), .val (.long nu), .second, .val (.int (((1 : Int32) <<< (pf &&& 31)) - (1 : Int32))), .val (.int (3 : Int32)), .val (.long lf2), .second] [])) _
          refine XS.iload X0.here hx rfl (hb hby own_d2_47) rfl ?_
          show Steps p.tables e below (s₁.setTop (mkF m 49 #[.val (.int pf), .val (.long nu), .second, .val (.int (((1 : Int32) <<< (pf &&& 31)) - (1 : Int32))), .val (.int (3 : Int32)), .val (.long lf2), .second] [(.int (3 : Int32))])) _
          exact retI X0 hx Bd.returns (hb hby own_d2_49) hr
        · show own_Q2 Z pf nu h0 n0 _ s₁.heap _
          rw [e0]
          refine ⟨?_, N0, rfl⟩
          have o0 : (0 : Int64).toInt = 0 := rfl
          have rr := rng64 dd
          have q1 := Int64.lt_iff_toInt_lt.mp hc31
          have q2 : ¬ (0 : Int64).toInt < lf2.toInt := fun q => hc31_2 (Int64.lt_iff_toInt_lt.mpr q)
          have t1 : own_at dd (7 : Int32) = 1 := own_at1 (N := 128) (by decide) (by omega)
          have t2 : own_at dd (14 : Int32) = 0 := own_at0 (N := 16384) (by decide) (by omega)
          have t3 : own_at dd (21 : Int32) = 0 := own_at0 (N := 2097152) (by decide) (by omega)
          have t4 : own_at dd (28 : Int32) = 0 := own_at0 (N := 268435456) (by decide) (by omega)
          have t5 : own_at dd (35 : Int32) = 0 := own_at0 (N := 34359738368) (by decide) (by omega)
          have t6 : own_at dd (42 : Int32) = 0 := own_at0 (N := 4398046511104) (by decide) (by omega)
          have t7 : own_at dd (49 : Int32) = 0 := own_at0 (N := 562949953421312) (by decide) (by omega)
          have t8 : own_at dd (56 : Int32) = 0 := own_at0 (N := 72057594037927936) (by decide) (by omega)
          refine congrArg (fun z => some (Value.int z)) ?_
          have e : own_len9 pf nu = own_cnt dd := by rw [hd_dd]; exact if_neg hc10
          rw [e, own_cnt, t1, t2, t3, t4, t5, t6, t7, t8]
          try rfl
    case neg =>
      obtain ⟨fs, hr, hrun, hended, hW, hsame⟩ := X0.leave (v := some (.int (2 : Int32))) (fun h => by rw [Bd.returns] at h; cases h) (BodyLoose.notSynchronized Bd)
      refine ⟨_, _, pre6 _ ?_, hrun, hended, _, _, rfl, ?_, ⟨_, rfl⟩, hW, hsame.mono (by decide) (by decide)⟩
      · skip
        show Steps p.tables e below (s₁.setTop (mkF m 31 #[.val (.int pf), .val (.long nu), .second, .val (.int (((1 : Int32) <<< (pf &&& 31)) - (1 : Int32))), .val (.int (2 : Int32)), .val (.long lf1), .second] [(.int (lcmpW lf1 (0 : Int64)))])) _
        refine XS.ifYes X0.here hx rfl (pc0 := 31) (pc' := 47) rfl (hb hby own_d2_31) rfl ((if0 _ _).trans (flt (fun q => hc31 ((lw_gt lf1 (0 : Int64)).mp q))).2.2.2) (by decide) (by decide) ?_
        show Steps p.tables e below (s₁.setTop (mkF m 47 #[.val (.int pf), .val (.long nu), .second, .val (.int (((1 : Int32) <<< (pf &&& 31)) - (1 : Int32))), .val (.int (2 : Int32)), .val (.long lf1), .second] [])) _
        refine XS.iload X0.here hx rfl (hb hby own_d2_47) rfl ?_
        show Steps p.tables e below (s₁.setTop (mkF m 49 #[.val (.int pf), .val (.long nu), .second, .val (.int (((1 : Int32) <<< (pf &&& 31)) - (1 : Int32))), .val (.int (2 : Int32)), .val (.long lf1), .second] [(.int (2 : Int32))])) _
        exact retI X0 hx Bd.returns (hb hby own_d2_49) hr
      · show own_Q2 Z pf nu h0 n0 _ s₁.heap _
        rw [e0]
        refine ⟨?_, N0, rfl⟩
        have o0 : (0 : Int64).toInt = 0 := rfl
        have rr := rng64 dd
        have q1 : ¬ (0 : Int64).toInt < lf1.toInt := fun q => hc31 (Int64.lt_iff_toInt_lt.mpr q)
        have t1 : own_at dd (7 : Int32) = 0 := own_at0 (N := 128) (by decide) (by omega)
        have t2 : own_at dd (14 : Int32) = 0 := own_at0 (N := 16384) (by decide) (by omega)
        have t3 : own_at dd (21 : Int32) = 0 := own_at0 (N := 2097152) (by decide) (by omega)
        have t4 : own_at dd (28 : Int32) = 0 := own_at0 (N := 268435456) (by decide) (by omega)
        have t5 : own_at dd (35 : Int32) = 0 := own_at0 (N := 34359738368) (by decide) (by omega)
        have t6 : own_at dd (42 : Int32) = 0 := own_at0 (N := 4398046511104) (by decide) (by omega)
        have t7 : own_at dd (49 : Int32) = 0 := own_at0 (N := 562949953421312) (by decide) (by omega)
        have t8 : own_at dd (56 : Int32) = 0 := own_at0 (N := 72057594037927936) (by decide) (by omega)
        refine congrArg (fun z => some (Value.int z)) ?_
        have e : own_len9 pf nu = own_cnt dd := by rw [hd_dd]; exact if_neg hc10
        rw [e, own_cnt, t1, t2, t3, t4, t5, t6, t7, t8]
        try rfl
theorem own_pd0 : parseMethodDescriptor "(IJ)I" = some ⟨[.int, .long], some .int⟩ := by decide +kernel
theorem own_pd1 : parseMethodDescriptor "(JI)I" = some ⟨[.long, .int], some .int⟩ := by decide +kernel
theorem own_ef0 (m : MethodId) (x0 : Int32) (x1 : Int64) (x2 : Int32) : entryFrame m #[(.int x0), (.long x1), (.int x2)] maxLocals = mkF m 0 #[.val (.int x0), .val (.long x1), .second, .val (.int x2), .unset, .unset, .unset, .unset, .unset, .unset, .unset, .unset] [] := by first | (simp [entryFrame, mkF, argsToLocals, Value.category, maxLocals]; done) | rfl
def own_Q0 (Z : State) (a1 : Int32) (a2 : Int64) (a3 : Int32) (h0 : Heap) (n0 : Nat) (v : Option Value) (h : Heap) (L : List Loc) : Prop := v = some (.int 1) ∧ Fr n0 L
set_option maxRecDepth 65536 in
set_option maxHeartbeats 40000000 in
theorem own_rm0 (l : Launch) (Z : State) (a0 : Array Value) (hw : ∀ d ∈ tables_1, d.before a0 Z = true) (ws : List Jvm.Cond) (a1 : Int32) (a2 : Int64) (a3 : Int32) (h0 : Heap) (n0 : Nat) (Z0 : n0 ≤ h0.size) :
    MetFree l x (head1 (Jvm.Cond.code x code maxLocals ret :: ws) room_1) (fun a U => a = #[(.int a1), (.long a2), (.int a3)] ∧ Z.Warmed39 U.vm ∧ U.heap = h0) (fun _ _ _ _ _ => True) (fun _ U o U' => ∃ v L, o = .returned v ∧ own_Q0 Z a1 a2 a3 h0 n0 v U'.heap L ∧ FrameEnd U o U' L room_1.cells room_1.slots) := by
  refine MetFree.of_bodySF (plainFor_of_name own_pn0) hisR ?_
  intro p e s m args below meth c s₁ Bd hml0 hP hK
  obtain ⟨rfl, hZ, hh⟩ := hP
  have hx := Bd.exec
  have hby := Bd.bytes
  have hml : c.maxLocals = 12 := hml0
  have hown : s.vm.findClass "com/example/paceline/paceline/http/HpackIntLengthPinLaw" = some m.cls := findClass_of_methodNamed Bd.named
  have hnm := (name_of_methodNamed Bd.named Bd.method).1
  have X0 : Stand p l e room_1 s m #[(.int a1), (.long a2), (.int a3)] below meth c s₁ [] 0 0 := Stand.of_body Bd
  have e0 : s₁.heap = h0 := by rw [← hh, Bd.state]; rfl
  have N0 := Fr.nil n0
  have K0 := Keep.refl h0 []
  have pre0 : ∀ t, Steps p.tables e below (s₁.setTop (mkF m 0 #[.val (.int a1), .val (.long a2), .second, .val (.int a3), .unset, .unset, .unset, .unset, .unset, .unset, .unset, .unset] [])) t → Steps p.tables e below (s₁.setTop (entryFrame m #[(.int a1), (.long a2), (.int a3)] maxLocals)) t := fun t kt0 => castTop (own_ef0 m (a1) (a2) (a3)) kt0
  have pre1 : ∀ t, Steps p.tables e below (s₁.setTop (mkF m 8 #[.val (.int a1), .val (.long a2), .second, .val (.int a3), .val (.int ((a1 &&& (7 : Int32)) + (1 : Int32))), .unset, .unset, .unset, .unset, .unset, .unset, .unset] [])) t → Steps p.tables e below (s₁.setTop (entryFrame m #[(.int a1), (.long a2), (.int a3)] maxLocals)) t := by
    intro t kt
    refine pre0 t ?_
    show Steps p.tables e below (s₁.setTop (mkF m 0 #[.val (.int a1), .val (.long a2), .second, .val (.int a3), .unset, .unset, .unset, .unset, .unset, .unset, .unset, .unset] [])) _
    refine XS.iloadN X0.here hx rfl (hb hby at_0) rfl ?_
    show Steps p.tables e below (s₁.setTop (mkF m 1 #[.val (.int a1), .val (.long a2), .second, .val (.int a3), .unset, .unset, .unset, .unset, .unset, .unset, .unset, .unset] [(.int a1)])) _
    refine XS.bipush X0.here hx rfl (hb hby at_1) ?_
    show Steps p.tables e below (s₁.setTop (mkF m 3 #[.val (.int a1), .val (.long a2), .second, .val (.int a3), .unset, .unset, .unset, .unset, .unset, .unset, .unset, .unset] [(.int (7 : Int32)), (.int a1)])) _
    refine XS.iand X0.here hx rfl (hb hby at_3) rfl ?_
    show Steps p.tables e below (s₁.setTop (mkF m 4 #[.val (.int a1), .val (.long a2), .second, .val (.int a3), .unset, .unset, .unset, .unset, .unset, .unset, .unset, .unset] [(.int (a1 &&& (7 : Int32)))])) _
    refine XS.iconst X0.here hx rfl (hb hby at_4) ?_
    show Steps p.tables e below (s₁.setTop (mkF m 5 #[.val (.int a1), .val (.long a2), .second, .val (.int a3), .unset, .unset, .unset, .unset, .unset, .unset, .unset, .unset] [(.int (1 : Int32)), (.int (a1 &&& (7 : Int32)))])) _
    refine XS.iadd X0.here hx rfl (hb hby at_5) rfl ?_
    show Steps p.tables e below (s₁.setTop (mkF m 6 #[.val (.int a1), .val (.long a2), .second, .val (.int a3), .unset, .unset, .unset, .unset, .unset, .unset, .unset, .unset] [(.int ((a1 &&& (7 : Int32)) + (1 : Int32)))])) _
    refine XS.istore X0.here hx rfl (hb hby at_6) rfl (l' := #[.val (.int a1), .val (.long a2), .second, .val (.int a3), .val (.int ((a1 &&& (7 : Int32)) + (1 : Int32))), .unset, .unset, .unset, .unset, .unset, .unset, .unset]) rfl ?_
    exact kt
  obtain ⟨pf, hd_pf⟩ : ∃ z : Int32, z = ((a1 &&& (7 : Int32)) + (1 : Int32)) := ⟨_, rfl⟩
  have pre2 : ∀ t, Steps p.tables e below (s₁.setTop (mkF m 8 #[.val (.int a1), .val (.long a2), .second, .val (.int a3), .val (.int pf), .unset, .unset, .unset, .unset, .unset, .unset, .unset] [])) t → Steps p.tables e below (s₁.setTop (entryFrame m #[(.int a1), (.long a2), (.int a3)] maxLocals)) t := by rw [hd_pf]; exact pre1
  have pre3 : ∀ t, Steps p.tables e below (s₁.setTop (mkF m 20 #[.val (.int a1), .val (.long a2), .second, .val (.int a3), .val (.int pf), .val (.long (((a2 &&& (9223372036854775807 : Int64)).toUInt64 >>> ((a3 &&& (63 : Int32)) &&& 0x3f).toInt64.toUInt64).toInt64)), .second, .unset, .unset, .unset, .unset, .unset] [])) t → Steps p.tables e below (s₁.setTop (entryFrame m #[(.int a1), (.long a2), (.int a3)] maxLocals)) t := by
    intro t kt
    refine pre2 t ?_
    show Steps p.tables e below (s₁.setTop (mkF m 8 #[.val (.int a1), .val (.long a2), .second, .val (.int a3), .val (.int pf), .unset, .unset, .unset, .unset, .unset, .unset, .unset] [])) _
    refine XS.lloadN X0.here hx rfl (hb hby at_8) rfl ?_
    show Steps p.tables e below (s₁.setTop (mkF m 9 #[.val (.int a1), .val (.long a2), .second, .val (.int a3), .val (.int pf), .unset, .unset, .unset, .unset, .unset, .unset, .unset] [(.long a2)])) _
    refine X0.ldc2Long hx hown (mvT hZ (hw _ (List.mem_of_getElem? (i := 0) rfl))) (g := (mkF m 9 #[.val (.int a1), .val (.long a2), .second, .val (.int a3), .val (.int pf), .unset, .unset, .unset, .unset, .unset, .unset, .unset] [(.long a2)])) rfl (hb hby at_9) _ ?_
    show Steps p.tables e below (s₁.setTop (mkF m 12 #[.val (.int a1), .val (.long a2), .second, .val (.int a3), .val (.int pf), .unset, .unset, .unset, .unset, .unset, .unset, .unset] [(.long (9223372036854775807 : Int64)), (.long a2)])) _
    refine XS.land X0.here hx rfl (hb hby at_12) rfl ?_
    show Steps p.tables e below (s₁.setTop (mkF m 13 #[.val (.int a1), .val (.long a2), .second, .val (.int a3), .val (.int pf), .unset, .unset, .unset, .unset, .unset, .unset, .unset] [(.long (a2 &&& (9223372036854775807 : Int64)))])) _
    refine XS.iloadN X0.here hx rfl (hb hby at_13) rfl ?_
    show Steps p.tables e below (s₁.setTop (mkF m 14 #[.val (.int a1), .val (.long a2), .second, .val (.int a3), .val (.int pf), .unset, .unset, .unset, .unset, .unset, .unset, .unset] [(.int a3), (.long (a2 &&& (9223372036854775807 : Int64)))])) _
    refine XS.bipush X0.here hx rfl (hb hby at_14) ?_
    show Steps p.tables e below (s₁.setTop (mkF m 16 #[.val (.int a1), .val (.long a2), .second, .val (.int a3), .val (.int pf), .unset, .unset, .unset, .unset, .unset, .unset, .unset] [(.int (63 : Int32)), (.int a3), (.long (a2 &&& (9223372036854775807 : Int64)))])) _
    refine XS.iand X0.here hx rfl (hb hby at_16) rfl ?_
    show Steps p.tables e below (s₁.setTop (mkF m 17 #[.val (.int a1), .val (.long a2), .second, .val (.int a3), .val (.int pf), .unset, .unset, .unset, .unset, .unset, .unset, .unset] [(.int (a3 &&& (63 : Int32))), (.long (a2 &&& (9223372036854775807 : Int64)))])) _
    refine XS.lushr X0.here hx rfl (hb hby at_17) rfl ?_
    show Steps p.tables e below (s₁.setTop (mkF m 18 #[.val (.int a1), .val (.long a2), .second, .val (.int a3), .val (.int pf), .unset, .unset, .unset, .unset, .unset, .unset, .unset] [(.long (((a2 &&& (9223372036854775807 : Int64)).toUInt64 >>> ((a3 &&& (63 : Int32)) &&& 0x3f).toInt64.toUInt64).toInt64))])) _
    refine XS.lstore X0.here hx rfl (hb hby at_18) rfl (l' := #[.val (.int a1), .val (.long a2), .second, .val (.int a3), .val (.int pf), .val (.long (((a2 &&& (9223372036854775807 : Int64)).toUInt64 >>> ((a3 &&& (63 : Int32)) &&& 0x3f).toInt64.toUInt64).toInt64)), .second, .unset, .unset, .unset, .unset, .unset]) rfl ?_
    exact kt
  obtain ⟨nu, hd_nu⟩ : ∃ z : Int64, z = (((a2 &&& (9223372036854775807 : Int64)).toUInt64 >>> ((a3 &&& (63 : Int32)) &&& 0x3f).toInt64.toUInt64).toInt64) := ⟨_, rfl⟩
  have pre4 : ∀ t, Steps p.tables e below (s₁.setTop (mkF m 20 #[.val (.int a1), .val (.long a2), .second, .val (.int a3), .val (.int pf), .val (.long nu), .second, .unset, .unset, .unset, .unset, .unset] [])) t → Steps p.tables e below (s₁.setTop (entryFrame m #[(.int a1), (.long a2), (.int a3)] maxLocals)) t := by rw [hd_nu]; exact pre3
  have pre5 : ∀ t, Steps p.tables e below (s₁.setTop (mkF m 28 #[.val (.int a1), .val (.long a2), .second, .val (.int a3), .val (.int pf), .val (.long nu), .second, .val (.long (((1 : Int64) <<< (pf &&& 0x3f).toInt64) - (1 : Int64))), .second, .unset, .unset, .unset] [])) t → Steps p.tables e below (s₁.setTop (entryFrame m #[(.int a1), (.long a2), (.int a3)] maxLocals)) t := by
    intro t kt
    refine pre4 t ?_
    show Steps p.tables e below (s₁.setTop (mkF m 20 #[.val (.int a1), .val (.long a2), .second, .val (.int a3), .val (.int pf), .val (.long nu), .second, .unset, .unset, .unset, .unset, .unset] [])) _
    refine XS.lconst X0.here hx rfl (hb hby at_20) ?_
    show Steps p.tables e below (s₁.setTop (mkF m 21 #[.val (.int a1), .val (.long a2), .second, .val (.int a3), .val (.int pf), .val (.long nu), .second, .unset, .unset, .unset, .unset, .unset] [(.long (1 : Int64))])) _
    refine XS.iload X0.here hx rfl (hb hby at_21) rfl ?_
    show Steps p.tables e below (s₁.setTop (mkF m 23 #[.val (.int a1), .val (.long a2), .second, .val (.int a3), .val (.int pf), .val (.long nu), .second, .unset, .unset, .unset, .unset, .unset] [(.int pf), (.long (1 : Int64))])) _
    refine XS.lshl X0.here hx rfl (hb hby at_23) rfl ?_
    show Steps p.tables e below (s₁.setTop (mkF m 24 #[.val (.int a1), .val (.long a2), .second, .val (.int a3), .val (.int pf), .val (.long nu), .second, .unset, .unset, .unset, .unset, .unset] [(.long ((1 : Int64) <<< (pf &&& 0x3f).toInt64))])) _
    refine XS.lconst X0.here hx rfl (hb hby at_24) ?_
    show Steps p.tables e below (s₁.setTop (mkF m 25 #[.val (.int a1), .val (.long a2), .second, .val (.int a3), .val (.int pf), .val (.long nu), .second, .unset, .unset, .unset, .unset, .unset] [(.long (1 : Int64)), (.long ((1 : Int64) <<< (pf &&& 0x3f).toInt64))])) _
    refine XS.lsub X0.here hx rfl (hb hby at_25) rfl ?_
    show Steps p.tables e below (s₁.setTop (mkF m 26 #[.val (.int a1), .val (.long a2), .second, .val (.int a3), .val (.int pf), .val (.long nu), .second, .unset, .unset, .unset, .unset, .unset] [(.long (((1 : Int64) <<< (pf &&& 0x3f).toInt64) - (1 : Int64)))])) _
    refine XS.lstore X0.here hx rfl (hb hby at_26) rfl (l' := #[.val (.int a1), .val (.long a2), .second, .val (.int a3), .val (.int pf), .val (.long nu), .second, .val (.long (((1 : Int64) <<< (pf &&& 0x3f).toInt64) - (1 : Int64))), .second, .unset, .unset, .unset]) rfl ?_
    exact kt
  obtain ⟨mo, hd_mo⟩ : ∃ z : Int64, z = (((1 : Int64) <<< (pf &&& 0x3f).toInt64) - (1 : Int64)) := ⟨_, rfl⟩
  have pre6 : ∀ t, Steps p.tables e below (s₁.setTop (mkF m 28 #[.val (.int a1), .val (.long a2), .second, .val (.int a3), .val (.int pf), .val (.long nu), .second, .val (.long mo), .second, .unset, .unset, .unset] [])) t → Steps p.tables e below (s₁.setTop (entryFrame m #[(.int a1), (.long a2), (.int a3)] maxLocals)) t := by rw [hd_mo]; exact pre5
  have hnu : 0 ≤ nu.toInt := by rw [hd_nu]; exact own_nonneg _ _ (by have := c_maskL a2 (9223372036854775807 : Int64) 63 (by decide) (by decide); omega)
  obtain ⟨kp, hkp⟩ := own_pf a1
  have hmm : own_mm pf = mo := by rw [hd_mo, hd_pf, hkp]; exact (own_mmF kp).1
  have hmm0 : 0 ≤ mo.toInt := by rw [← hmm, hd_pf, hkp]; exact (own_mmF kp).2
  have pre7 : ∀ t, Steps p.tables e below (s₁.setTop (mkF m 33 #[.val (.int a1), .val (.long a2), .second, .val (.int a3), .val (.int pf), .val (.long nu), .second, .val (.long mo), .second, .unset, .unset, .unset] [(.int (lcmpW nu mo))])) t → Steps p.tables e below (s₁.setTop (entryFrame m #[(.int a1), (.long a2), (.int a3)] maxLocals)) t := by
    intro t kt
    refine pre6 t ?_
    show Steps p.tables e below (s₁.setTop (mkF m 28 #[.val (.int a1), .val (.long a2), .second, .val (.int a3), .val (.int pf), .val (.long nu), .second, .val (.long mo), .second, .unset, .unset, .unset] [])) _
    refine XS.lload X0.here hx rfl (hb hby at_28) rfl ?_
    show Steps p.tables e below (s₁.setTop (mkF m 30 #[.val (.int a1), .val (.long a2), .second, .val (.int a3), .val (.int pf), .val (.long nu), .second, .val (.long mo), .second, .unset, .unset, .unset] [(.long nu)])) _
    refine XS.lload X0.here hx rfl (hb hby at_30) rfl ?_
    show Steps p.tables e below (s₁.setTop (mkF m 32 #[.val (.int a1), .val (.long a2), .second, .val (.int a3), .val (.int pf), .val (.long nu), .second, .val (.long mo), .second, .unset, .unset, .unset] [(.long mo), (.long nu)])) _
    refine XS.lcmp X0.here hx rfl (hb hby at_32) rfl ?_
    exact kt
  by_cases hc33 : nu < mo
  case pos =>
    obtain ⟨_, _, ⟨T8, L8, k8, n8⟩, -, X8, ⟨Lc8, hQ8, l8, y8, z8⟩, st8⟩ := Jvm.LawKit.callS X0 hx (y := (⟨"com/example/paceline/paceline/http/Hpack", "intLength", "(IJ)I"⟩ : MethodName)) hown (mvT hZ (hw _ (List.mem_of_getElem? (i := 5) rfl))) (mvT hZ (hw _ (List.mem_of_getElem? (i := 6) rfl))) (mvT hZ (hw _ (List.mem_of_getElem? (i := 7) rfl))) (mvT hZ (hw _ (List.mem_of_getElem? (i := 8) rfl))) (by decide) (backOf (W := 0) (own_rm2 l Z a0 hw [] pf nu h0 n0 Z0 hnu (by rw [hmm]; exact hmm0)) hZ (hw _ (List.mem_of_getElem? (i := 8) rfl)) (hw _ (List.mem_of_getElem? (i := 7) rfl)) (by decide) (by decide)) (g := (mkF m 120 #[.val (.int a1), .val (.long a2), .second, .val (.int a3), .val (.int pf), .val (.long nu), .second, .val (.long mo), .second, .val (.int (1 : Int32)), .unset, .unset] [(.long nu), (.int pf)])) rfl (by rw [hml]; rfl) (argsL := [(.int pf), (.long nu)]) (rest := []) (lenOf own_pd0 rfl) rfl (by show 2 * 0 + _ ≤ _; exact Nat.le_of_eq rfl) (hb hby at_120) (fun _ _ => ⟨rfl, e0, (by decide : 0 + 0 ≤ _), (by decide : 0 + 0 ≤ _)⟩)
    dsimp only [Pt.U, Pt.locs, Pt.cells, Pt.slots] at X8 l8 y8 z8 st8 hQ8
    subst l8 y8 z8
    obtain ⟨rfl, Nq8, eq8⟩ := hQ8
    have N8 := Fr.app N0 Nq8
    obtain ⟨fs, hr, hrun, hended, hW, hsame⟩ := X8.leave (v := some (.int (1 : Int32))) (fun h => by rw [Bd.returns] at h; cases h) (BodyLoose.notSynchronized Bd)
    refine ⟨_, _, pre7 _ ?_, hrun, hended, _, _, rfl, ?_, ⟨_, rfl⟩, hW, hsame.mono (by decide) (by decide)⟩
    · skip
      show Steps p.tables e below (s₁.setTop (mkF m 33 #[.val (.int a1), .val (.long a2), .second, .val (.int a3), .val (.int pf), .val (.long nu), .second, .val (.long mo), .second, .unset, .unset, .unset] [(.int (lcmpW nu mo))])) _
      refine XS.ifNo X0.here hx rfl (hb hby at_33) rfl ((if0 _ _).trans (tlt ((lw_lt nu mo).mpr hc33)).2.1) ?_
      show Steps p.tables e below (s₁.setTop (mkF m 36 #[.val (.int a1), .val (.long a2), .second, .val (.int a3), .val (.int pf), .val (.long nu), .second, .val (.long mo), .second, .unset, .unset, .unset] [])) _
      refine XS.iconst X0.here hx rfl (hb hby at_36) ?_
      show Steps p.tables e below (s₁.setTop (mkF m 37 #[.val (.int a1), .val (.long a2), .second, .val (.int a3), .val (.int pf), .val (.long nu), .second, .val (.long mo), .second, .unset, .unset, .unset] [(.int (1 : Int32))])) _
      refine XS.istore X0.here hx rfl (hb hby at_37) rfl (l' := #[.val (.int a1), .val (.long a2), .second, .val (.int a3), .val (.int pf), .val (.long nu), .second, .val (.long mo), .second, .val (.int (1 : Int32)), .unset, .unset]) rfl ?_
      show Steps p.tables e below (s₁.setTop (mkF m 39 #[.val (.int a1), .val (.long a2), .second, .val (.int a3), .val (.int pf), .val (.long nu), .second, .val (.long mo), .second, .val (.int (1 : Int32)), .unset, .unset] [])) _
      refine XS.goto X0.here hx rfl (pc0 := 39) (pc' := 116) rfl (hb hby at_39) (by decide) (by decide) ?_
      show Steps p.tables e below (s₁.setTop (mkF m 116 #[.val (.int a1), .val (.long a2), .second, .val (.int a3), .val (.int pf), .val (.long nu), .second, .val (.long mo), .second, .val (.int (1 : Int32)), .unset, .unset] [])) _
      refine XS.iload X0.here hx rfl (hb hby at_116) rfl ?_
      show Steps p.tables e below (s₁.setTop (mkF m 118 #[.val (.int a1), .val (.long a2), .second, .val (.int a3), .val (.int pf), .val (.long nu), .second, .val (.long mo), .second, .val (.int (1 : Int32)), .unset, .unset] [(.int pf)])) _
      refine XS.lload X0.here hx rfl (hb hby at_118) rfl ?_
      show Steps p.tables e below (s₁.setTop (mkF m 120 #[.val (.int a1), .val (.long a2), .second, .val (.int a3), .val (.int pf), .val (.long nu), .second, .val (.long mo), .second, .val (.int (1 : Int32)), .unset, .unset] [(.long nu), (.int pf)])) _
      refine st8 _ ?_
      show Steps p.tables e below (T8.setTop (mkF m 123 #[.val (.int a1), .val (.long a2), .second, .val (.int a3), .val (.int pf), .val (.long nu), .second, .val (.long mo), .second, .val (.int (1 : Int32)), .unset, .unset] [(.int (own_len9 pf nu))])) _
      refine XS.iload X8.here hx rfl (hb hby at_123) rfl ?_
      show Steps p.tables e below (T8.setTop (mkF m 125 #[.val (.int a1), .val (.long a2), .second, .val (.int a3), .val (.int pf), .val (.long nu), .second, .val (.long mo), .second, .val (.int (1 : Int32)), .unset, .unset] [(.int (1 : Int32)), (.int (own_len9 pf nu))])) _
      refine XS.icmpNo X8.here hx rfl (hb hby at_125) rfl (teq (by rw [own_len9, hmm]; exact if_pos hc33)).2 ?_
      show Steps p.tables e below (T8.setTop (mkF m 128 #[.val (.int a1), .val (.long a2), .second, .val (.int a3), .val (.int pf), .val (.long nu), .second, .val (.long mo), .second, .val (.int (1 : Int32)), .unset, .unset] [])) _
      refine XS.iconst X8.here hx rfl (hb hby at_128) ?_
      show Steps p.tables e below (T8.setTop (mkF m 129 #[.val (.int a1), .val (.long a2), .second, .val (.int a3), .val (.int pf), .val (.long nu), .second, .val (.long mo), .second, .val (.int (1 : Int32)), .unset, .unset] [(.int (1 : Int32))])) _
      refine XS.goto X8.here hx rfl (pc0 := 129) (pc' := 133) rfl (hb hby at_129) (by decide) (by decide) ?_
      show Steps p.tables e below (T8.setTop (mkF m 133 #[.val (.int a1), .val (.long a2), .second, .val (.int a3), .val (.int pf), .val (.long nu), .second, .val (.long mo), .second, .val (.int (1 : Int32)), .unset, .unset] [(.int (1 : Int32))])) _
      exact retN X8 hx (t := .boolean) Bd.returns (by simp) (hb hby at_133) hr
    · show own_Q0 Z a1 a2 a3 h0 n0 _ T8.heap _
      rw [eq8]
      exact ⟨rfl, N8⟩
  case neg =>
    have pre9 : ∀ t, Steps p.tables e below (s₁.setTop (mkF m 49 #[.val (.int a1), .val (.long a2), .second, .val (.int a3), .val (.int pf), .val (.long nu), .second, .val (.long mo), .second, .unset, .val (.long (nu - mo)), .second] [])) t → Steps p.tables e below (s₁.setTop (entryFrame m #[(.int a1), (.long a2), (.int a3)] maxLocals)) t := by
      intro t kt
      refine pre7 t ?_
      show Steps p.tables e below (s₁.setTop (mkF m 33 #[.val (.int a1), .val (.long a2), .second, .val (.int a3), .val (.int pf), .val (.long nu), .second, .val (.long mo), .second, .unset, .unset, .unset] [(.int (lcmpW nu mo))])) _
      refine XS.ifYes X0.here hx rfl (pc0 := 33) (pc' := 42) rfl (hb hby at_33) rfl ((if0 _ _).trans (flt (fun q => hc33 ((lw_lt nu mo).mp q))).2.1) (by decide) (by decide) ?_
      show Steps p.tables e below (s₁.setTop (mkF m 42 #[.val (.int a1), .val (.long a2), .second, .val (.int a3), .val (.int pf), .val (.long nu), .second, .val (.long mo), .second, .unset, .unset, .unset] [])) _
      refine XS.lload X0.here hx rfl (hb hby at_42) rfl ?_
      show Steps p.tables e below (s₁.setTop (mkF m 44 #[.val (.int a1), .val (.long a2), .second, .val (.int a3), .val (.int pf), .val (.long nu), .second, .val (.long mo), .second, .unset, .unset, .unset] [(.long nu)])) _
      refine XS.lload X0.here hx rfl (hb hby at_44) rfl ?_
      show Steps p.tables e below (s₁.setTop (mkF m 46 #[.val (.int a1), .val (.long a2), .second, .val (.int a3), .val (.int pf), .val (.long nu), .second, .val (.long mo), .second, .unset, .unset, .unset] [(.long mo), (.long nu)])) _
      refine XS.lsub X0.here hx rfl (hb hby at_46) rfl ?_
      show Steps p.tables e below (s₁.setTop (mkF m 47 #[.val (.int a1), .val (.long a2), .second, .val (.int a3), .val (.int pf), .val (.long nu), .second, .val (.long mo), .second, .unset, .unset, .unset] [(.long (nu - mo))])) _
      refine XS.lstore X0.here hx rfl (hb hby at_47) rfl (l' := #[.val (.int a1), .val (.long a2), .second, .val (.int a3), .val (.int pf), .val (.long nu), .second, .val (.long mo), .second, .unset, .val (.long (nu - mo)), .second]) rfl ?_
      exact kt
    obtain ⟨lt, hd_lt⟩ : ∃ z : Int64, z = (nu - mo) := ⟨_, rfl⟩
    have pre10 : ∀ t, Steps p.tables e below (s₁.setTop (mkF m 49 #[.val (.int a1), .val (.long a2), .second, .val (.int a3), .val (.int pf), .val (.long nu), .second, .val (.long mo), .second, .unset, .val (.long lt), .second] [])) t → Steps p.tables e below (s₁.setTop (entryFrame m #[(.int a1), (.long a2), (.int a3)] maxLocals)) t := by rw [hd_lt]; exact pre9
    obtain ⟨_, _, ⟨T11, L11, k11, n11⟩, -, X11, ⟨Lc11, hQ11, l11, y11, z11⟩, st11⟩ := Jvm.LawKit.callS X0 hx (y := (⟨"com/example/paceline/paceline/http/HpackIntLengthPinLaw", "at", "(JI)I"⟩ : MethodName)) hown (mvT hZ (hw _ (List.mem_of_getElem? (i := 1) rfl))) (mvT hZ (hw _ (List.mem_of_getElem? (i := 2) rfl))) (mvT hZ (hw _ (List.mem_of_getElem? (i := 3) rfl))) (mvT hZ (hw _ (List.mem_of_getElem? (i := 4) rfl))) (by decide) (backOf (W := 1) (own_rm1 l Z a0 hw [] lt (7 : Int32) h0 n0 Z0 ) hZ (hw _ (List.mem_of_getElem? (i := 4) rfl)) (hw _ (List.mem_of_getElem? (i := 3) rfl)) (by decide) (by decide)) (g := (mkF m 54 #[.val (.int a1), .val (.long a2), .second, .val (.int a3), .val (.int pf), .val (.long nu), .second, .val (.long mo), .second, .unset, .val (.long lt), .second] [(.int (7 : Int32)), (.long lt), (.int (2 : Int32))])) rfl (by rw [hml]; rfl) (argsL := [(.long lt), (.int (7 : Int32))]) (rest := [(.int (2 : Int32))]) (lenOf own_pd1 rfl) rfl (by show 2 * 0 + _ ≤ _; exact Nat.le_of_eq rfl) (hb hby at_54) (fun _ _ => ⟨rfl, e0, (by decide : 0 + 0 ≤ _), (by decide : 0 + 0 ≤ _)⟩)
    dsimp only [Pt.U, Pt.locs, Pt.cells, Pt.slots] at X11 l11 y11 z11 st11 hQ11
    subst l11 y11 z11
    obtain ⟨rfl, Nq11, eq11⟩ := hQ11
    have N11 := Fr.app N0 Nq11
    obtain ⟨_, _, ⟨T12, L12, k12, n12⟩, -, X12, ⟨Lc12, hQ12, l12, y12, z12⟩, st12⟩ := Jvm.LawKit.callS X11 hx (y := (⟨"com/example/paceline/paceline/http/HpackIntLengthPinLaw", "at", "(JI)I"⟩ : MethodName)) hown (mvT hZ (hw _ (List.mem_of_getElem? (i := 1) rfl))) (mvT hZ (hw _ (List.mem_of_getElem? (i := 2) rfl))) (mvT hZ (hw _ (List.mem_of_getElem? (i := 3) rfl))) (mvT hZ (hw _ (List.mem_of_getElem? (i := 4) rfl))) (by decide) (backOf (W := 1) (own_rm1 l Z a0 hw [] lt (14 : Int32) h0 n0 Z0 ) hZ (hw _ (List.mem_of_getElem? (i := 4) rfl)) (hw _ (List.mem_of_getElem? (i := 3) rfl)) (by decide) (by decide)) (g := (mkF m 62 #[.val (.int a1), .val (.long a2), .second, .val (.int a3), .val (.int pf), .val (.long nu), .second, .val (.long mo), .second, .unset, .val (.long lt), .second] [(.int (14 : Int32)), (.long lt), (.int ((2 : Int32) + (own_at lt (7 : Int32))))])) rfl (by rw [hml]; rfl) (argsL := [(.long lt), (.int (14 : Int32))]) (rest := [(.int ((2 : Int32) + (own_at lt (7 : Int32))))]) (lenOf own_pd1 rfl) rfl (by show 2 * 0 + _ ≤ _; exact Nat.le_of_eq rfl) (hb hby at_62) (fun _ _ => ⟨rfl, eq11, (by decide : 0 + 0 ≤ _), (by decide : 0 + 0 ≤ _)⟩)
    dsimp only [Pt.U, Pt.locs, Pt.cells, Pt.slots] at X12 l12 y12 z12 st12 hQ12
    subst l12 y12 z12
    obtain ⟨rfl, Nq12, eq12⟩ := hQ12
    have N12 := Fr.app N11 Nq12
    obtain ⟨_, _, ⟨T13, L13, k13, n13⟩, -, X13, ⟨Lc13, hQ13, l13, y13, z13⟩, st13⟩ := Jvm.LawKit.callS X12 hx (y := (⟨"com/example/paceline/paceline/http/HpackIntLengthPinLaw", "at", "(JI)I"⟩ : MethodName)) hown (mvT hZ (hw _ (List.mem_of_getElem? (i := 1) rfl))) (mvT hZ (hw _ (List.mem_of_getElem? (i := 2) rfl))) (mvT hZ (hw _ (List.mem_of_getElem? (i := 3) rfl))) (mvT hZ (hw _ (List.mem_of_getElem? (i := 4) rfl))) (by decide) (backOf (W := 1) (own_rm1 l Z a0 hw [] lt (21 : Int32) h0 n0 Z0 ) hZ (hw _ (List.mem_of_getElem? (i := 4) rfl)) (hw _ (List.mem_of_getElem? (i := 3) rfl)) (by decide) (by decide)) (g := (mkF m 70 #[.val (.int a1), .val (.long a2), .second, .val (.int a3), .val (.int pf), .val (.long nu), .second, .val (.long mo), .second, .unset, .val (.long lt), .second] [(.int (21 : Int32)), (.long lt), (.int (((2 : Int32) + (own_at lt (7 : Int32))) + (own_at lt (14 : Int32))))])) rfl (by rw [hml]; rfl) (argsL := [(.long lt), (.int (21 : Int32))]) (rest := [(.int (((2 : Int32) + (own_at lt (7 : Int32))) + (own_at lt (14 : Int32))))]) (lenOf own_pd1 rfl) rfl (by show 2 * 0 + _ ≤ _; exact Nat.le_of_eq rfl) (hb hby at_70) (fun _ _ => ⟨rfl, eq12, (by decide : 0 + 0 ≤ _), (by decide : 0 + 0 ≤ _)⟩)
    dsimp only [Pt.U, Pt.locs, Pt.cells, Pt.slots] at X13 l13 y13 z13 st13 hQ13
    subst l13 y13 z13
    obtain ⟨rfl, Nq13, eq13⟩ := hQ13
    have N13 := Fr.app N12 Nq13
    obtain ⟨_, _, ⟨T14, L14, k14, n14⟩, -, X14, ⟨Lc14, hQ14, l14, y14, z14⟩, st14⟩ := Jvm.LawKit.callS X13 hx (y := (⟨"com/example/paceline/paceline/http/HpackIntLengthPinLaw", "at", "(JI)I"⟩ : MethodName)) hown (mvT hZ (hw _ (List.mem_of_getElem? (i := 1) rfl))) (mvT hZ (hw _ (List.mem_of_getElem? (i := 2) rfl))) (mvT hZ (hw _ (List.mem_of_getElem? (i := 3) rfl))) (mvT hZ (hw _ (List.mem_of_getElem? (i := 4) rfl))) (by decide) (backOf (W := 1) (own_rm1 l Z a0 hw [] lt (28 : Int32) h0 n0 Z0 ) hZ (hw _ (List.mem_of_getElem? (i := 4) rfl)) (hw _ (List.mem_of_getElem? (i := 3) rfl)) (by decide) (by decide)) (g := (mkF m 78 #[.val (.int a1), .val (.long a2), .second, .val (.int a3), .val (.int pf), .val (.long nu), .second, .val (.long mo), .second, .unset, .val (.long lt), .second] [(.int (28 : Int32)), (.long lt), (.int ((((2 : Int32) + (own_at lt (7 : Int32))) + (own_at lt (14 : Int32))) + (own_at lt (21 : Int32))))])) rfl (by rw [hml]; rfl) (argsL := [(.long lt), (.int (28 : Int32))]) (rest := [(.int ((((2 : Int32) + (own_at lt (7 : Int32))) + (own_at lt (14 : Int32))) + (own_at lt (21 : Int32))))]) (lenOf own_pd1 rfl) rfl (by show 2 * 0 + _ ≤ _; exact Nat.le_of_eq rfl) (hb hby at_78) (fun _ _ => ⟨rfl, eq13, (by decide : 0 + 0 ≤ _), (by decide : 0 + 0 ≤ _)⟩)
    dsimp only [Pt.U, Pt.locs, Pt.cells, Pt.slots] at X14 l14 y14 z14 st14 hQ14
    subst l14 y14 z14
    obtain ⟨rfl, Nq14, eq14⟩ := hQ14
    have N14 := Fr.app N13 Nq14
    obtain ⟨_, _, ⟨T15, L15, k15, n15⟩, -, X15, ⟨Lc15, hQ15, l15, y15, z15⟩, st15⟩ := Jvm.LawKit.callS X14 hx (y := (⟨"com/example/paceline/paceline/http/HpackIntLengthPinLaw", "at", "(JI)I"⟩ : MethodName)) hown (mvT hZ (hw _ (List.mem_of_getElem? (i := 1) rfl))) (mvT hZ (hw _ (List.mem_of_getElem? (i := 2) rfl))) (mvT hZ (hw _ (List.mem_of_getElem? (i := 3) rfl))) (mvT hZ (hw _ (List.mem_of_getElem? (i := 4) rfl))) (by decide) (backOf (W := 1) (own_rm1 l Z a0 hw [] lt (35 : Int32) h0 n0 Z0 ) hZ (hw _ (List.mem_of_getElem? (i := 4) rfl)) (hw _ (List.mem_of_getElem? (i := 3) rfl)) (by decide) (by decide)) (g := (mkF m 86 #[.val (.int a1), .val (.long a2), .second, .val (.int a3), .val (.int pf), .val (.long nu), .second, .val (.long mo), .second, .unset, .val (.long lt), .second] [(.int (35 : Int32)), (.long lt), (.int (((((2 : Int32) + (own_at lt (7 : Int32))) + (own_at lt (14 : Int32))) + (own_at lt (21 : Int32))) + (own_at lt (28 : Int32))))])) rfl (by rw [hml]; rfl) (argsL := [(.long lt), (.int (35 : Int32))]) (rest := [(.int (((((2 : Int32) + (own_at lt (7 : Int32))) + (own_at lt (14 : Int32))) + (own_at lt (21 : Int32))) + (own_at lt (28 : Int32))))]) (lenOf own_pd1 rfl) rfl (by show 2 * 0 + _ ≤ _; exact Nat.le_of_eq rfl) (hb hby at_86) (fun _ _ => ⟨rfl, eq14, (by decide : 0 + 0 ≤ _), (by decide : 0 + 0 ≤ _)⟩)
    dsimp only [Pt.U, Pt.locs, Pt.cells, Pt.slots] at X15 l15 y15 z15 st15 hQ15
    subst l15 y15 z15
    obtain ⟨rfl, Nq15, eq15⟩ := hQ15
    have N15 := Fr.app N14 Nq15
    obtain ⟨_, _, ⟨T16, L16, k16, n16⟩, -, X16, ⟨Lc16, hQ16, l16, y16, z16⟩, st16⟩ := Jvm.LawKit.callS X15 hx (y := (⟨"com/example/paceline/paceline/http/HpackIntLengthPinLaw", "at", "(JI)I"⟩ : MethodName)) hown (mvT hZ (hw _ (List.mem_of_getElem? (i := 1) rfl))) (mvT hZ (hw _ (List.mem_of_getElem? (i := 2) rfl))) (mvT hZ (hw _ (List.mem_of_getElem? (i := 3) rfl))) (mvT hZ (hw _ (List.mem_of_getElem? (i := 4) rfl))) (by decide) (backOf (W := 1) (own_rm1 l Z a0 hw [] lt (42 : Int32) h0 n0 Z0 ) hZ (hw _ (List.mem_of_getElem? (i := 4) rfl)) (hw _ (List.mem_of_getElem? (i := 3) rfl)) (by decide) (by decide)) (g := (mkF m 94 #[.val (.int a1), .val (.long a2), .second, .val (.int a3), .val (.int pf), .val (.long nu), .second, .val (.long mo), .second, .unset, .val (.long lt), .second] [(.int (42 : Int32)), (.long lt), (.int ((((((2 : Int32) + (own_at lt (7 : Int32))) + (own_at lt (14 : Int32))) + (own_at lt (21 : Int32))) + (own_at lt (28 : Int32))) + (own_at lt (35 : Int32))))])) rfl (by rw [hml]; rfl) (argsL := [(.long lt), (.int (42 : Int32))]) (rest := [(.int ((((((2 : Int32) + (own_at lt (7 : Int32))) + (own_at lt (14 : Int32))) + (own_at lt (21 : Int32))) + (own_at lt (28 : Int32))) + (own_at lt (35 : Int32))))]) (lenOf own_pd1 rfl) rfl (by show 2 * 0 + _ ≤ _; exact Nat.le_of_eq rfl) (hb hby at_94) (fun _ _ => ⟨rfl, eq15, (by decide : 0 + 0 ≤ _), (by decide : 0 + 0 ≤ _)⟩)
    dsimp only [Pt.U, Pt.locs, Pt.cells, Pt.slots] at X16 l16 y16 z16 st16 hQ16
    subst l16 y16 z16
    obtain ⟨rfl, Nq16, eq16⟩ := hQ16
    have N16 := Fr.app N15 Nq16
    obtain ⟨_, _, ⟨T17, L17, k17, n17⟩, -, X17, ⟨Lc17, hQ17, l17, y17, z17⟩, st17⟩ := Jvm.LawKit.callS X16 hx (y := (⟨"com/example/paceline/paceline/http/HpackIntLengthPinLaw", "at", "(JI)I"⟩ : MethodName)) hown (mvT hZ (hw _ (List.mem_of_getElem? (i := 1) rfl))) (mvT hZ (hw _ (List.mem_of_getElem? (i := 2) rfl))) (mvT hZ (hw _ (List.mem_of_getElem? (i := 3) rfl))) (mvT hZ (hw _ (List.mem_of_getElem? (i := 4) rfl))) (by decide) (backOf (W := 1) (own_rm1 l Z a0 hw [] lt (49 : Int32) h0 n0 Z0 ) hZ (hw _ (List.mem_of_getElem? (i := 4) rfl)) (hw _ (List.mem_of_getElem? (i := 3) rfl)) (by decide) (by decide)) (g := (mkF m 102 #[.val (.int a1), .val (.long a2), .second, .val (.int a3), .val (.int pf), .val (.long nu), .second, .val (.long mo), .second, .unset, .val (.long lt), .second] [(.int (49 : Int32)), (.long lt), (.int (((((((2 : Int32) + (own_at lt (7 : Int32))) + (own_at lt (14 : Int32))) + (own_at lt (21 : Int32))) + (own_at lt (28 : Int32))) + (own_at lt (35 : Int32))) + (own_at lt (42 : Int32))))])) rfl (by rw [hml]; rfl) (argsL := [(.long lt), (.int (49 : Int32))]) (rest := [(.int (((((((2 : Int32) + (own_at lt (7 : Int32))) + (own_at lt (14 : Int32))) + (own_at lt (21 : Int32))) + (own_at lt (28 : Int32))) + (own_at lt (35 : Int32))) + (own_at lt (42 : Int32))))]) (lenOf own_pd1 rfl) rfl (by show 2 * 0 + _ ≤ _; exact Nat.le_of_eq rfl) (hb hby at_102) (fun _ _ => ⟨rfl, eq16, (by decide : 0 + 0 ≤ _), (by decide : 0 + 0 ≤ _)⟩)
    dsimp only [Pt.U, Pt.locs, Pt.cells, Pt.slots] at X17 l17 y17 z17 st17 hQ17
    subst l17 y17 z17
    obtain ⟨rfl, Nq17, eq17⟩ := hQ17
    have N17 := Fr.app N16 Nq17
    obtain ⟨_, _, ⟨T18, L18, k18, n18⟩, -, X18, ⟨Lc18, hQ18, l18, y18, z18⟩, st18⟩ := Jvm.LawKit.callS X17 hx (y := (⟨"com/example/paceline/paceline/http/HpackIntLengthPinLaw", "at", "(JI)I"⟩ : MethodName)) hown (mvT hZ (hw _ (List.mem_of_getElem? (i := 1) rfl))) (mvT hZ (hw _ (List.mem_of_getElem? (i := 2) rfl))) (mvT hZ (hw _ (List.mem_of_getElem? (i := 3) rfl))) (mvT hZ (hw _ (List.mem_of_getElem? (i := 4) rfl))) (by decide) (backOf (W := 1) (own_rm1 l Z a0 hw [] lt (56 : Int32) h0 n0 Z0 ) hZ (hw _ (List.mem_of_getElem? (i := 4) rfl)) (hw _ (List.mem_of_getElem? (i := 3) rfl)) (by decide) (by decide)) (g := (mkF m 110 #[.val (.int a1), .val (.long a2), .second, .val (.int a3), .val (.int pf), .val (.long nu), .second, .val (.long mo), .second, .unset, .val (.long lt), .second] [(.int (56 : Int32)), (.long lt), (.int ((((((((2 : Int32) + (own_at lt (7 : Int32))) + (own_at lt (14 : Int32))) + (own_at lt (21 : Int32))) + (own_at lt (28 : Int32))) + (own_at lt (35 : Int32))) + (own_at lt (42 : Int32))) + (own_at lt (49 : Int32))))])) rfl (by rw [hml]; rfl) (argsL := [(.long lt), (.int (56 : Int32))]) (rest := [(.int ((((((((2 : Int32) + (own_at lt (7 : Int32))) + (own_at lt (14 : Int32))) + (own_at lt (21 : Int32))) + (own_at lt (28 : Int32))) + (own_at lt (35 : Int32))) + (own_at lt (42 : Int32))) + (own_at lt (49 : Int32))))]) (lenOf own_pd1 rfl) rfl (by show 2 * 0 + _ ≤ _; exact Nat.le_of_eq rfl) (hb hby at_110) (fun _ _ => ⟨rfl, eq17, (by decide : 0 + 0 ≤ _), (by decide : 0 + 0 ≤ _)⟩)
    dsimp only [Pt.U, Pt.locs, Pt.cells, Pt.slots] at X18 l18 y18 z18 st18 hQ18
    subst l18 y18 z18
    obtain ⟨rfl, Nq18, eq18⟩ := hQ18
    have N18 := Fr.app N17 Nq18
    obtain ⟨_, _, ⟨T19, L19, k19, n19⟩, -, X19, ⟨Lc19, hQ19, l19, y19, z19⟩, st19⟩ := Jvm.LawKit.callS X18 hx (y := (⟨"com/example/paceline/paceline/http/Hpack", "intLength", "(IJ)I"⟩ : MethodName)) hown (mvT hZ (hw _ (List.mem_of_getElem? (i := 5) rfl))) (mvT hZ (hw _ (List.mem_of_getElem? (i := 6) rfl))) (mvT hZ (hw _ (List.mem_of_getElem? (i := 7) rfl))) (mvT hZ (hw _ (List.mem_of_getElem? (i := 8) rfl))) (by decide) (backOf (W := 0) (own_rm2 l Z a0 hw [] pf nu h0 n0 Z0 hnu (by rw [hmm]; exact hmm0)) hZ (hw _ (List.mem_of_getElem? (i := 8) rfl)) (hw _ (List.mem_of_getElem? (i := 7) rfl)) (by decide) (by decide)) (g := (mkF m 120 #[.val (.int a1), .val (.long a2), .second, .val (.int a3), .val (.int pf), .val (.long nu), .second, .val (.long mo), .second, .val (.int (((((((((2 : Int32) + (own_at lt (7 : Int32))) + (own_at lt (14 : Int32))) + (own_at lt (21 : Int32))) + (own_at lt (28 : Int32))) + (own_at lt (35 : Int32))) + (own_at lt (42 : Int32))) + (own_at lt (49 : Int32))) + (own_at lt (56 : Int32)))), .val (.long lt), .second] [(.long nu), (.int pf)])) rfl (by rw [hml]; rfl) (argsL := [(.int pf), (.long nu)]) (rest := []) (lenOf own_pd0 rfl) rfl (by show 2 * 0 + _ ≤ _; exact Nat.le_of_eq rfl) (hb hby at_120) (fun _ _ => ⟨rfl, eq18, (by decide : 0 + 0 ≤ _), (by decide : 0 + 0 ≤ _)⟩)
    dsimp only [Pt.U, Pt.locs, Pt.cells, Pt.slots] at X19 l19 y19 z19 st19 hQ19
    subst l19 y19 z19
    obtain ⟨rfl, Nq19, eq19⟩ := hQ19
    have N19 := Fr.app N18 Nq19
    obtain ⟨fs, hr, hrun, hended, hW, hsame⟩ := X19.leave (v := some (.int (1 : Int32))) (fun h => by rw [Bd.returns] at h; cases h) (BodyLoose.notSynchronized Bd)
    refine ⟨_, _, pre10 _ ?_, hrun, hended, _, _, rfl, ?_, ⟨_, rfl⟩, hW, hsame.mono (by decide) (by decide)⟩
    · skip
      show Steps p.tables e below (s₁.setTop (mkF m 49 #[.val (.int a1), .val (.long a2), .second, .val (.int a3), .val (.int pf), .val (.long nu), .second, .val (.long mo), .second, .unset, .val (.long lt), .second] [])) _
      refine XS.iconst X0.here hx rfl (hb hby at_49) ?_
      show Steps p.tables e below (s₁.setTop (mkF m 50 #[.val (.int a1), .val (.long a2), .second, .val (.int a3), .val (.int pf), .val (.long nu), .second, .val (.long mo), .second, .unset, .val (.long lt), .second] [(.int (2 : Int32))])) _
      refine XS.lload X0.here hx rfl (hb hby at_50) rfl ?_
      show Steps p.tables e below (s₁.setTop (mkF m 52 #[.val (.int a1), .val (.long a2), .second, .val (.int a3), .val (.int pf), .val (.long nu), .second, .val (.long mo), .second, .unset, .val (.long lt), .second] [(.long lt), (.int (2 : Int32))])) _
      refine XS.bipush X0.here hx rfl (hb hby at_52) ?_
      show Steps p.tables e below (s₁.setTop (mkF m 54 #[.val (.int a1), .val (.long a2), .second, .val (.int a3), .val (.int pf), .val (.long nu), .second, .val (.long mo), .second, .unset, .val (.long lt), .second] [(.int (7 : Int32)), (.long lt), (.int (2 : Int32))])) _
      refine st11 _ ?_
      show Steps p.tables e below (T11.setTop (mkF m 57 #[.val (.int a1), .val (.long a2), .second, .val (.int a3), .val (.int pf), .val (.long nu), .second, .val (.long mo), .second, .unset, .val (.long lt), .second] [(.int (own_at lt (7 : Int32))), (.int (2 : Int32))])) _
      refine XS.iadd X11.here hx rfl (hb hby at_57) rfl ?_
      show Steps p.tables e below (T11.setTop (mkF m 58 #[.val (.int a1), .val (.long a2), .second, .val (.int a3), .val (.int pf), .val (.long nu), .second, .val (.long mo), .second, .unset, .val (.long lt), .second] [(.int ((2 : Int32) + (own_at lt (7 : Int32))))])) _
      refine XS.lload X11.here hx rfl (hb hby at_58) rfl ?_
      show Steps p.tables e below (T11.setTop (mkF m 60 #[.val (.int a1), .val (.long a2), .second, .val (.int a3), .val (.int pf), .val (.long nu), .second, .val (.long mo), .second, .unset, .val (.long lt), .second] [(.long lt), (.int ((2 : Int32) + (own_at lt (7 : Int32))))])) _
      refine XS.bipush X11.here hx rfl (hb hby at_60) ?_
      show Steps p.tables e below (T11.setTop (mkF m 62 #[.val (.int a1), .val (.long a2), .second, .val (.int a3), .val (.int pf), .val (.long nu), .second, .val (.long mo), .second, .unset, .val (.long lt), .second] [(.int (14 : Int32)), (.long lt), (.int ((2 : Int32) + (own_at lt (7 : Int32))))])) _
      refine st12 _ ?_
      show Steps p.tables e below (T12.setTop (mkF m 65 #[.val (.int a1), .val (.long a2), .second, .val (.int a3), .val (.int pf), .val (.long nu), .second, .val (.long mo), .second, .unset, .val (.long lt), .second] [(.int (own_at lt (14 : Int32))), (.int ((2 : Int32) + (own_at lt (7 : Int32))))])) _
      refine XS.iadd X12.here hx rfl (hb hby at_65) rfl ?_
      show Steps p.tables e below (T12.setTop (mkF m 66 #[.val (.int a1), .val (.long a2), .second, .val (.int a3), .val (.int pf), .val (.long nu), .second, .val (.long mo), .second, .unset, .val (.long lt), .second] [(.int (((2 : Int32) + (own_at lt (7 : Int32))) + (own_at lt (14 : Int32))))])) _
      refine XS.lload X12.here hx rfl (hb hby at_66) rfl ?_
      show Steps p.tables e below (T12.setTop (mkF m 68 #[.val (.int a1), .val (.long a2), .second, .val (.int a3), .val (.int pf), .val (.long nu), .second, .val (.long mo), .second, .unset, .val (.long lt), .second] [(.long lt), (.int (((2 : Int32) + (own_at lt (7 : Int32))) + (own_at lt (14 : Int32))))])) _
      refine XS.bipush X12.here hx rfl (hb hby at_68) ?_
      show Steps p.tables e below (T12.setTop (mkF m 70 #[.val (.int a1), .val (.long a2), .second, .val (.int a3), .val (.int pf), .val (.long nu), .second, .val (.long mo), .second, .unset, .val (.long lt), .second] [(.int (21 : Int32)), (.long lt), (.int (((2 : Int32) + (own_at lt (7 : Int32))) + (own_at lt (14 : Int32))))])) _
      refine st13 _ ?_
      show Steps p.tables e below (T13.setTop (mkF m 73 #[.val (.int a1), .val (.long a2), .second, .val (.int a3), .val (.int pf), .val (.long nu), .second, .val (.long mo), .second, .unset, .val (.long lt), .second] [(.int (own_at lt (21 : Int32))), (.int (((2 : Int32) + (own_at lt (7 : Int32))) + (own_at lt (14 : Int32))))])) _
      refine XS.iadd X13.here hx rfl (hb hby at_73) rfl ?_
      show Steps p.tables e below (T13.setTop (mkF m 74 #[.val (.int a1), .val (.long a2), .second, .val (.int a3), .val (.int pf), .val (.long nu), .second, .val (.long mo), .second, .unset, .val (.long lt), .second] [(.int ((((2 : Int32) + (own_at lt (7 : Int32))) + (own_at lt (14 : Int32))) + (own_at lt (21 : Int32))))])) _
      refine XS.lload X13.here hx rfl (hb hby at_74) rfl ?_
      show Steps p.tables e below (T13.setTop (mkF m 76 #[.val (.int a1), .val (.long a2), .second, .val (.int a3), .val (.int pf), .val (.long nu), .second, .val (.long mo), .second, .unset, .val (.long lt), .second] [(.long lt), (.int ((((2 : Int32) + (own_at lt (7 : Int32))) + (own_at lt (14 : Int32))) + (own_at lt (21 : Int32))))])) _
      refine XS.bipush X13.here hx rfl (hb hby at_76) ?_
      show Steps p.tables e below (T13.setTop (mkF m 78 #[.val (.int a1), .val (.long a2), .second, .val (.int a3), .val (.int pf), .val (.long nu), .second, .val (.long mo), .second, .unset, .val (.long lt), .second] [(.int (28 : Int32)), (.long lt), (.int ((((2 : Int32) + (own_at lt (7 : Int32))) + (own_at lt (14 : Int32))) + (own_at lt (21 : Int32))))])) _
      refine st14 _ ?_
      show Steps p.tables e below (T14.setTop (mkF m 81 #[.val (.int a1), .val (.long a2), .second, .val (.int a3), .val (.int pf), .val (.long nu), .second, .val (.long mo), .second, .unset, .val (.long lt), .second] [(.int (own_at lt (28 : Int32))), (.int ((((2 : Int32) + (own_at lt (7 : Int32))) + (own_at lt (14 : Int32))) + (own_at lt (21 : Int32))))])) _
      refine XS.iadd X14.here hx rfl (hb hby at_81) rfl ?_
      show Steps p.tables e below (T14.setTop (mkF m 82 #[.val (.int a1), .val (.long a2), .second, .val (.int a3), .val (.int pf), .val (.long nu), .second, .val (.long mo), .second, .unset, .val (.long lt), .second] [(.int (((((2 : Int32) + (own_at lt (7 : Int32))) + (own_at lt (14 : Int32))) + (own_at lt (21 : Int32))) + (own_at lt (28 : Int32))))])) _
      refine XS.lload X14.here hx rfl (hb hby at_82) rfl ?_
      show Steps p.tables e below (T14.setTop (mkF m 84 #[.val (.int a1), .val (.long a2), .second, .val (.int a3), .val (.int pf), .val (.long nu), .second, .val (.long mo), .second, .unset, .val (.long lt), .second] [(.long lt), (.int (((((2 : Int32) + (own_at lt (7 : Int32))) + (own_at lt (14 : Int32))) + (own_at lt (21 : Int32))) + (own_at lt (28 : Int32))))])) _
      refine XS.bipush X14.here hx rfl (hb hby at_84) ?_
      show Steps p.tables e below (T14.setTop (mkF m 86 #[.val (.int a1), .val (.long a2), .second, .val (.int a3), .val (.int pf), .val (.long nu), .second, .val (.long mo), .second, .unset, .val (.long lt), .second] [(.int (35 : Int32)), (.long lt), (.int (((((2 : Int32) + (own_at lt (7 : Int32))) + (own_at lt (14 : Int32))) + (own_at lt (21 : Int32))) + (own_at lt (28 : Int32))))])) _
      refine st15 _ ?_
      show Steps p.tables e below (T15.setTop (mkF m 89 #[.val (.int a1), .val (.long a2), .second, .val (.int a3), .val (.int pf), .val (.long nu), .second, .val (.long mo), .second, .unset, .val (.long lt), .second] [(.int (own_at lt (35 : Int32))), (.int (((((2 : Int32) + (own_at lt (7 : Int32))) + (own_at lt (14 : Int32))) + (own_at lt (21 : Int32))) + (own_at lt (28 : Int32))))])) _
      refine XS.iadd X15.here hx rfl (hb hby at_89) rfl ?_
      show Steps p.tables e below (T15.setTop (mkF m 90 #[.val (.int a1), .val (.long a2), .second, .val (.int a3), .val (.int pf), .val (.long nu), .second, .val (.long mo), .second, .unset, .val (.long lt), .second] [(.int ((((((2 : Int32) + (own_at lt (7 : Int32))) + (own_at lt (14 : Int32))) + (own_at lt (21 : Int32))) + (own_at lt (28 : Int32))) + (own_at lt (35 : Int32))))])) _
      refine XS.lload X15.here hx rfl (hb hby at_90) rfl ?_
      show Steps p.tables e below (T15.setTop (mkF m 92 #[.val (.int a1), .val (.long a2), .second, .val (.int a3), .val (.int pf), .val (.long nu), .second, .val (.long mo), .second, .unset, .val (.long lt), .second] [(.long lt), (.int ((((((2 : Int32) + (own_at lt (7 : Int32))) + (own_at lt (14 : Int32))) + (own_at lt (21 : Int32))) + (own_at lt (28 : Int32))) + (own_at lt (35 : Int32))))])) _
      refine XS.bipush X15.here hx rfl (hb hby at_92) ?_
      show Steps p.tables e below (T15.setTop (mkF m 94 #[.val (.int a1), .val (.long a2), .second, .val (.int a3), .val (.int pf), .val (.long nu), .second, .val (.long mo), .second, .unset, .val (.long lt), .second] [(.int (42 : Int32)), (.long lt), (.int ((((((2 : Int32) + (own_at lt (7 : Int32))) + (own_at lt (14 : Int32))) + (own_at lt (21 : Int32))) + (own_at lt (28 : Int32))) + (own_at lt (35 : Int32))))])) _
      refine st16 _ ?_
      show Steps p.tables e below (T16.setTop (mkF m 97 #[.val (.int a1), .val (.long a2), .second, .val (.int a3), .val (.int pf), .val (.long nu), .second, .val (.long mo), .second, .unset, .val (.long lt), .second] [(.int (own_at lt (42 : Int32))), (.int ((((((2 : Int32) + (own_at lt (7 : Int32))) + (own_at lt (14 : Int32))) + (own_at lt (21 : Int32))) + (own_at lt (28 : Int32))) + (own_at lt (35 : Int32))))])) _
      refine XS.iadd X16.here hx rfl (hb hby at_97) rfl ?_
      show Steps p.tables e below (T16.setTop (mkF m 98 #[.val (.int a1), .val (.long a2), .second, .val (.int a3), .val (.int pf), .val (.long nu), .second, .val (.long mo), .second, .unset, .val (.long lt), .second] [(.int (((((((2 : Int32) + (own_at lt (7 : Int32))) + (own_at lt (14 : Int32))) + (own_at lt (21 : Int32))) + (own_at lt (28 : Int32))) + (own_at lt (35 : Int32))) + (own_at lt (42 : Int32))))])) _
      refine XS.lload X16.here hx rfl (hb hby at_98) rfl ?_
      show Steps p.tables e below (T16.setTop (mkF m 100 #[.val (.int a1), .val (.long a2), .second, .val (.int a3), .val (.int pf), .val (.long nu), .second, .val (.long mo), .second, .unset, .val (.long lt), .second] [(.long lt), (.int (((((((2 : Int32) + (own_at lt (7 : Int32))) + (own_at lt (14 : Int32))) + (own_at lt (21 : Int32))) + (own_at lt (28 : Int32))) + (own_at lt (35 : Int32))) + (own_at lt (42 : Int32))))])) _
      refine XS.bipush X16.here hx rfl (hb hby at_100) ?_
      show Steps p.tables e below (T16.setTop (mkF m 102 #[.val (.int a1), .val (.long a2), .second, .val (.int a3), .val (.int pf), .val (.long nu), .second, .val (.long mo), .second, .unset, .val (.long lt), .second] [(.int (49 : Int32)), (.long lt), (.int (((((((2 : Int32) + (own_at lt (7 : Int32))) + (own_at lt (14 : Int32))) + (own_at lt (21 : Int32))) + (own_at lt (28 : Int32))) + (own_at lt (35 : Int32))) + (own_at lt (42 : Int32))))])) _
      refine st17 _ ?_
      show Steps p.tables e below (T17.setTop (mkF m 105 #[.val (.int a1), .val (.long a2), .second, .val (.int a3), .val (.int pf), .val (.long nu), .second, .val (.long mo), .second, .unset, .val (.long lt), .second] [(.int (own_at lt (49 : Int32))), (.int (((((((2 : Int32) + (own_at lt (7 : Int32))) + (own_at lt (14 : Int32))) + (own_at lt (21 : Int32))) + (own_at lt (28 : Int32))) + (own_at lt (35 : Int32))) + (own_at lt (42 : Int32))))])) _
      refine XS.iadd X17.here hx rfl (hb hby at_105) rfl ?_
      show Steps p.tables e below (T17.setTop (mkF m 106 #[.val (.int a1), .val (.long a2), .second, .val (.int a3), .val (.int pf), .val (.long nu), .second, .val (.long mo), .second, .unset, .val (.long lt), .second] [(.int ((((((((2 : Int32) + (own_at lt (7 : Int32))) + (own_at lt (14 : Int32))) + (own_at lt (21 : Int32))) + (own_at lt (28 : Int32))) + (own_at lt (35 : Int32))) + (own_at lt (42 : Int32))) + (own_at lt (49 : Int32))))])) _
      refine XS.lload X17.here hx rfl (hb hby at_106) rfl ?_
      show Steps p.tables e below (T17.setTop (mkF m 108 #[.val (.int a1), .val (.long a2), .second, .val (.int a3), .val (.int pf), .val (.long nu), .second, .val (.long mo), .second, .unset, .val (.long lt), .second] [(.long lt), (.int ((((((((2 : Int32) + (own_at lt (7 : Int32))) + (own_at lt (14 : Int32))) + (own_at lt (21 : Int32))) + (own_at lt (28 : Int32))) + (own_at lt (35 : Int32))) + (own_at lt (42 : Int32))) + (own_at lt (49 : Int32))))])) _
      refine XS.bipush X17.here hx rfl (hb hby at_108) ?_
      show Steps p.tables e below (T17.setTop (mkF m 110 #[.val (.int a1), .val (.long a2), .second, .val (.int a3), .val (.int pf), .val (.long nu), .second, .val (.long mo), .second, .unset, .val (.long lt), .second] [(.int (56 : Int32)), (.long lt), (.int ((((((((2 : Int32) + (own_at lt (7 : Int32))) + (own_at lt (14 : Int32))) + (own_at lt (21 : Int32))) + (own_at lt (28 : Int32))) + (own_at lt (35 : Int32))) + (own_at lt (42 : Int32))) + (own_at lt (49 : Int32))))])) _
      refine st18 _ ?_
      show Steps p.tables e below (T18.setTop (mkF m 113 #[.val (.int a1), .val (.long a2), .second, .val (.int a3), .val (.int pf), .val (.long nu), .second, .val (.long mo), .second, .unset, .val (.long lt), .second] [(.int (own_at lt (56 : Int32))), (.int ((((((((2 : Int32) + (own_at lt (7 : Int32))) + (own_at lt (14 : Int32))) + (own_at lt (21 : Int32))) + (own_at lt (28 : Int32))) + (own_at lt (35 : Int32))) + (own_at lt (42 : Int32))) + (own_at lt (49 : Int32))))])) _
      refine XS.iadd X18.here hx rfl (hb hby at_113) rfl ?_
      show Steps p.tables e below (T18.setTop (mkF m 114 #[.val (.int a1), .val (.long a2), .second, .val (.int a3), .val (.int pf), .val (.long nu), .second, .val (.long mo), .second, .unset, .val (.long lt), .second] [(.int (((((((((2 : Int32) + (own_at lt (7 : Int32))) + (own_at lt (14 : Int32))) + (own_at lt (21 : Int32))) + (own_at lt (28 : Int32))) + (own_at lt (35 : Int32))) + (own_at lt (42 : Int32))) + (own_at lt (49 : Int32))) + (own_at lt (56 : Int32))))])) _
      refine XS.istore X18.here hx rfl (hb hby at_114) rfl (l' := #[.val (.int a1), .val (.long a2), .second, .val (.int a3), .val (.int pf), .val (.long nu), .second, .val (.long mo), .second, .val (.int (((((((((2 : Int32) + (own_at lt (7 : Int32))) + (own_at lt (14 : Int32))) + (own_at lt (21 : Int32))) + (own_at lt (28 : Int32))) + (own_at lt (35 : Int32))) + (own_at lt (42 : Int32))) + (own_at lt (49 : Int32))) + (own_at lt (56 : Int32)))), .val (.long lt), .second]) rfl ?_
      show Steps p.tables e below (T18.setTop (mkF m 116 #[.val (.int a1), .val (.long a2), .second, .val (.int a3), .val (.int pf), .val (.long nu), .second, .val (.long mo), .second, .val (.int (((((((((2 : Int32) + (own_at lt (7 : Int32))) + (own_at lt (14 : Int32))) + (own_at lt (21 : Int32))) + (own_at lt (28 : Int32))) + (own_at lt (35 : Int32))) + (own_at lt (42 : Int32))) + (own_at lt (49 : Int32))) + (own_at lt (56 : Int32)))), .val (.long lt), .second] [])) _
      refine XS.iload X18.here hx rfl (hb hby at_116) rfl ?_
      show Steps p.tables e below (T18.setTop (mkF m 118 #[.val (.int a1), .val (.long a2), .second, .val (.int a3), .val (.int pf), .val (.long nu), .second, .val (.long mo), .second, .val (.int (((((((((2 : Int32) + (own_at lt (7 : Int32))) + (own_at lt (14 : Int32))) + (own_at lt (21 : Int32))) + (own_at lt (28 : Int32))) + (own_at lt (35 : Int32))) + (own_at lt (42 : Int32))) + (own_at lt (49 : Int32))) + (own_at lt (56 : Int32)))), .val (.long lt), .second] [(.int pf)])) _
      refine XS.lload X18.here hx rfl (hb hby at_118) rfl ?_
      show Steps p.tables e below (T18.setTop (mkF m 120 #[.val (.int a1), .val (.long a2), .second, .val (.int a3), .val (.int pf), .val (.long nu), .second, .val (.long mo), .second, .val (.int (((((((((2 : Int32) + (own_at lt (7 : Int32))) + (own_at lt (14 : Int32))) + (own_at lt (21 : Int32))) + (own_at lt (28 : Int32))) + (own_at lt (35 : Int32))) + (own_at lt (42 : Int32))) + (own_at lt (49 : Int32))) + (own_at lt (56 : Int32)))), .val (.long lt), .second] [(.long nu), (.int pf)])) _
      refine st19 _ ?_
      show Steps p.tables e below (T19.setTop (mkF m 123 #[.val (.int a1), .val (.long a2), .second, .val (.int a3), .val (.int pf), .val (.long nu), .second, .val (.long mo), .second, .val (.int (((((((((2 : Int32) + (own_at lt (7 : Int32))) + (own_at lt (14 : Int32))) + (own_at lt (21 : Int32))) + (own_at lt (28 : Int32))) + (own_at lt (35 : Int32))) + (own_at lt (42 : Int32))) + (own_at lt (49 : Int32))) + (own_at lt (56 : Int32)))), .val (.long lt), .second] [(.int (own_len9 pf nu))])) _
      refine XS.iload X19.here hx rfl (hb hby at_123) rfl ?_
      show Steps p.tables e below (T19.setTop (mkF m 125 #[.val (.int a1), .val (.long a2), .second, .val (.int a3), .val (.int pf), .val (.long nu), .second, .val (.long mo), .second, .val (.int (((((((((2 : Int32) + (own_at lt (7 : Int32))) + (own_at lt (14 : Int32))) + (own_at lt (21 : Int32))) + (own_at lt (28 : Int32))) + (own_at lt (35 : Int32))) + (own_at lt (42 : Int32))) + (own_at lt (49 : Int32))) + (own_at lt (56 : Int32)))), .val (.long lt), .second] [(.int (((((((((2 : Int32) + (own_at lt (7 : Int32))) + (own_at lt (14 : Int32))) + (own_at lt (21 : Int32))) + (own_at lt (28 : Int32))) + (own_at lt (35 : Int32))) + (own_at lt (42 : Int32))) + (own_at lt (49 : Int32))) + (own_at lt (56 : Int32)))), (.int (own_len9 pf nu))])) _
      refine XS.icmpNo X19.here hx rfl (hb hby at_125) rfl (teq (by rw [own_len9, hmm, if_neg hc33, hd_lt]; rfl)).2 ?_
      show Steps p.tables e below (T19.setTop (mkF m 128 #[.val (.int a1), .val (.long a2), .second, .val (.int a3), .val (.int pf), .val (.long nu), .second, .val (.long mo), .second, .val (.int (((((((((2 : Int32) + (own_at lt (7 : Int32))) + (own_at lt (14 : Int32))) + (own_at lt (21 : Int32))) + (own_at lt (28 : Int32))) + (own_at lt (35 : Int32))) + (own_at lt (42 : Int32))) + (own_at lt (49 : Int32))) + (own_at lt (56 : Int32)))), .val (.long lt), .second] [])) _
      refine XS.iconst X19.here hx rfl (hb hby at_128) ?_
      show Steps p.tables e below (T19.setTop (mkF m 129 #[.val (.int a1), .val (.long a2), .second, .val (.int a3), .val (.int pf), .val (.long nu), .second, .val (.long mo), .second, .val (.int (((((((((2 : Int32) + (own_at lt (7 : Int32))) + (own_at lt (14 : Int32))) + (own_at lt (21 : Int32))) + (own_at lt (28 : Int32))) + (own_at lt (35 : Int32))) + (own_at lt (42 : Int32))) + (own_at lt (49 : Int32))) + (own_at lt (56 : Int32)))), .val (.long lt), .second] [(.int (1 : Int32))])) _
      refine XS.goto X19.here hx rfl (pc0 := 129) (pc' := 133) rfl (hb hby at_129) (by decide) (by decide) ?_
      show Steps p.tables e below (T19.setTop (mkF m 133 #[.val (.int a1), .val (.long a2), .second, .val (.int a3), .val (.int pf), .val (.long nu), .second, .val (.long mo), .second, .val (.int (((((((((2 : Int32) + (own_at lt (7 : Int32))) + (own_at lt (14 : Int32))) + (own_at lt (21 : Int32))) + (own_at lt (28 : Int32))) + (own_at lt (35 : Int32))) + (own_at lt (42 : Int32))) + (own_at lt (49 : Int32))) + (own_at lt (56 : Int32)))), .val (.long lt), .second] [(.int (1 : Int32))])) _
      exact retN X19 hx (t := .boolean) Bd.returns (by simp) (hb hby at_133) hr
    · show own_Q0 Z a1 a2 a3 h0 n0 _ T19.heap _
      rw [eq19]
      exact ⟨rfl, N19⟩
set_option maxRecDepth 65536 in
set_option maxHeartbeats 40000000 in
theorem own_comes {Post : Tables → Env → Array Value → State → Outcome → State → Prop} (hpost : ∀ tb e args s v u, (limb_1_1.after args s (.returned v) u = true ∧ limb_1_2.after args s (.returned v) u = true ∧ True) → FrameEnd s (.returned v) u (Jvm.fieldLocs frame_1_writes args s ++ Jvm.arrayLocs frame_1_arrays args s ++ Jvm.staticLocs frame_1_statics s) 0 0 → Post tb e args s (.returned v) u) :
    ArmFor flags0 classFile x code maxLocals ret World_1 tables_1 room_1 Calls_1 rest_1 Pre_1 Post := by
  intro l hfl _ _ p e ha hc hk s m args below hf hA hF happ hP
  obtain ⟨hcalls, hrest, hpre⟩ := hP
  obtain ⟨-, -, -, hnamed, -, -, -, hat⟩ := (Spec.applies_iff hf).mp happ
  obtain ⟨hg, hn⟩ := and_e (Cond.before_iff.mp (show (Jvm.Cond.and given_1 narrow_1).before args s = true from hpre))
  obtain ⟨gc, ga0⟩ := and_e hg
  obtain ⟨gv0, ga1⟩ := and_e ga0
  obtain ⟨gv1, ga2⟩ := and_e ga1
  obtain ⟨w0, w1, w2, rfl⟩ : ∃ w0 w1 w2 : Value, args = #[w0, w1, w2] := by
    have hs : args.size = 3 := by simpa [Cond.value, given_1] using gc
    obtain ⟨L⟩ := args
    match L, hs with
    | [w0, w1, w2], _ => exact ⟨w0, w1, w2, rfl⟩
  have hw := fun d (hd : d ∈ tables_1) => atoms_spec (ws := Jvm.Cond.code x code maxLocals ret :: tables_1) hat d (List.mem_cons_of_mem _ hd)
  obtain ⟨i0, ei0⟩ := is_v gv0
  obtain rfl : w0 = (.int i0) := Option.some.inj ei0
  obtain ⟨i1, ei1⟩ := isL_v gv1
  obtain rfl : w1 = (.long i1) := Option.some.inj ei1
  obtain ⟨i2, ei2⟩ := is_v ga2
  obtain rfl : w2 = (.int i2) := Option.some.inj ei2
  obtain ⟨n, o, h1, h2, h3, _, L, rfl, ⟨rfl, N⟩, hq⟩ := own_rm0 l s _ hw tables_1 i0 i1 i2 s.heap s.heap.size (Nat.le_refl _) p e ha hc hk s m _ below hf ((Spec.applies_iff_loose hf).mp happ).1 ⟨rfl, State.Warmed39.refl s, rfl⟩ trivial
  refine ⟨n, _, h1, h2, h3, hpost _ _ _ _ _ _ ⟨Cond.after_iff.mpr rfl, Cond.after_iff.mpr (eq_i res_at (Term.int_eval (1)) rfl), trivial⟩ ⟨hq.1, hq.2.1, (hq.2.2.sift fun y hy => Or.inr (N y hy)).mono (by decide) (by decide)⟩⟩
theorem main_1_1 : Claimed_1_1 := own_comes fun _ _ _ _ _ _ h hF => ⟨h.1, hF⟩
theorem main_1_2 : Claimed_1_2 := own_comes fun _ _ _ _ _ _ h hF => ⟨h.2.1, hF⟩
end Jvm.Pilot.@@N@@
namespace Jvm.Pilot.@@N@@
open Jvm Jvm.ClassFile Sem Op Lib Jvm.Free Jvm.Stand Jvm.Pilot.@@N@@.Jvm.D
/-! MADE BY PROGRAM (witnessworld.py) out of the Statement's table words and the real class files: 9 classes; the members and pool entries that the words name. The judged class is class 1, her method 2. -/
namespace start1
open Jvm.ClassFile
def u (s : String) : CpInfo := .utf8 (stringToUtf16 s)
/-- a pool by its gaps: so many unusable entries, then the entry; so many at the end -/
def gap : Nat → List CpInfo → List CpInfo
  | 0, r => r
  | n + 1, r => .unusable :: gap n r
def poolList (es : List (Nat × CpInfo)) (last : Nat) : List CpInfo := es.foldr (fun e r => gap e.1 (e.2 :: r)) (gap last [])
def pool (es : List (Nat × CpInfo)) (last : Nat) : Array CpInfo := ⟨poolList es last⟩
def fileOf (pool : Array CpInfo) (this : Nat) (attrs : Array Attribute := #[]) (ms : Array MethodInfo := #[]) (fl : Nat := 33) (sup : Nat := 0) (ifs : Array Nat := #[]) (fds : Array FieldInfo := #[]) : ClassFile where
  minorVersion := 0
  majorVersion := 65
  constantPool := pool
  accessFlags := fl
  thisClass := this
  superClass := sup
  interfaces := ifs
  fields := fds
  methods := ms
  attributes := attrs
def plain (name : String) (sup : Option ClassId) : Class where
  name := name
  kind := .ordinary
  loader := none
  accessFlags := 33
  super := sup
  interfaces := #[]
  cf := none
  fields := #[]
  methods := #[]
  instanceTypes := #[]
  staticTypes := #[]
  resolved := #[]
  callSites := []
  init := .initialized
  statics := none
  mirror := none

def pool0 : Array CpInfo := pool [(5, u "<init>"), (0, u "()V"), (1, .class_ 10), (1, u "java/lang/Object")] 113

def k0m0 : Method := { name := "<init>", desc := "()V", sig := { parameters := [], returnType := none }, accessFlags := 1, code := none }
/-- java/lang/Object -/
def k0 : Class := { plain "java/lang/Object" none with
  accessFlags := 33
  interfaces := #[]
  cf := some (fileOf pool0 8 #[] #[{ accessFlags := 1, nameIndex := 5, descriptorIndex := 6, attributes := #[] }] 33 0 #[] #[])
  fields := #[]
  methods := #[k0m0]
  instanceTypes := #[]
  staticTypes := #[]
  resolved := Array.replicate 124 none
  statics := none }

def pool1 : Array CpInfo := pool [(2, .class_ 4), (1, u "java/lang/Object"), (0, u "<init>"), (0, u "()V"), (2, .long 9223372036854775807), (1, .methodref 12 13), (0, .class_ 14), (0, .nameAndType 15 16), (0, u "com/example/paceline/paceline/http/HpackIntLengthPinLaw"), (0, u "at"), (0, u "(JI)I"), (0, .methodref 18 19), (0, .class_ 20), (0, .nameAndType 21 22), (0, u "com/example/paceline/paceline/http/Hpack"), (0, u "intLength"), (0, u "(IJ)I"), (3, u "law"), (0, u "(IJI)Z")] 2

def k1m0 : Method := { name := "<init>", desc := "()V", sig := { parameters := [], returnType := none }, accessFlags := 2, code := none }
def k1c1 : Code := { maxStack := 5, maxLocals := 3, code := method_2_code, exceptionTable := #[], attributes := #[] }
def k1m1 : Method := { name := "at", desc := "(JI)I", sig := { parameters := [.long, .int], returnType := some .int }, accessFlags := 10, code := some k1c1 }
def k1c2 : Code := { maxStack := 4, maxLocals := 12, code := code, exceptionTable := #[], attributes := #[] }
def k1m2 : Method := { name := "law", desc := "(IJI)Z", sig := { parameters := [.int, .long, .int], returnType := some .boolean }, accessFlags := 9, code := some k1c2 }
/-- com/example/paceline/paceline/http/HpackIntLengthPinLaw -/
def k1 : Class := { plain "com/example/paceline/paceline/http/HpackIntLengthPinLaw" (some 0) with
  accessFlags := 49
  interfaces := #[]
  cf := some (fileOf pool1 12 #[] #[{ accessFlags := 2, nameIndex := 5, descriptorIndex := 6, attributes := #[] }, { accessFlags := 10, nameIndex := 15, descriptorIndex := 16, attributes := #[] }, { accessFlags := 9, nameIndex := 26, descriptorIndex := 27, attributes := #[] }] 49 2 #[] #[])
  fields := #[]
  methods := #[k1m0, k1m1, k1m2]
  instanceTypes := #[]
  staticTypes := #[]
  resolved := Array.replicate 30 none
  statics := none }

def pool2 : Array CpInfo := pool [(2, .class_ 4), (1, u "java/lang/Object"), (0, u "<init>"), (0, u "()V"), (1, .class_ 10), (1, u "com/example/paceline/paceline/http/Hpack"), (0, u "NAME_BYTES"), (0, u "[[B"), (2, u "VALUE_BYTES"), (2, u "NAMES"), (0, u "[Ljava/lang/String;"), (8, u "VALUES"), (192, u "STATIC_ENTRIES"), (0, u "I"), (0, u "ENTRY_OVERHEAD"), (2, u "DEFAULT_TABLE_SIZE"), (1, u "STATUS_200"), (9, u "intLength"), (0, u "(IJ)I")] 9

def k2m0 : Method := { name := "<init>", desc := "()V", sig := { parameters := [], returnType := none }, accessFlags := 2, code := none }
def k2c1 : Code := { maxStack := 4, maxLocals := 7, code := prog_35_method_6_code, exceptionTable := #[], attributes := #[] }
def k2m1 : Method := { name := "intLength", desc := "(IJ)I", sig := { parameters := [.int, .long], returnType := some .int }, accessFlags := 8, code := some k2c1 }
/-- com/example/paceline/paceline/http/Hpack -/
def k2 : Class := { plain "com/example/paceline/paceline/http/Hpack" (some 0) with
  accessFlags := 48
  interfaces := #[]
  cf := some (fileOf pool2 8 #[] #[{ accessFlags := 2, nameIndex := 5, descriptorIndex := 6, attributes := #[] }, { accessFlags := 8, nameIndex := 238, descriptorIndex := 239, attributes := #[] }] 48 2 #[] #[{ accessFlags := 24, nameIndex := 223, descriptorIndex := 222, attributes := #[] }, { accessFlags := 24, nameIndex := 226, descriptorIndex := 222, attributes := #[] }, { accessFlags := 24, nameIndex := 228, descriptorIndex := 222, attributes := #[] }, { accessFlags := 26, nameIndex := 18, descriptorIndex := 19, attributes := #[] }, { accessFlags := 26, nameIndex := 28, descriptorIndex := 19, attributes := #[] }, { accessFlags := 26, nameIndex := 11, descriptorIndex := 12, attributes := #[] }, { accessFlags := 26, nameIndex := 15, descriptorIndex := 12, attributes := #[] }, { accessFlags := 24, nameIndex := 221, descriptorIndex := 222, attributes := #[] }])
  fields := #[{ name := "ENTRY_OVERHEAD", type := .int, accessFlags := 24, slot := 0, constantValue := 0 }, { name := "DEFAULT_TABLE_SIZE", type := .int, accessFlags := 24, slot := 1, constantValue := 0 }, { name := "STATUS_200", type := .int, accessFlags := 24, slot := 2, constantValue := 0 }, { name := "NAMES", type := (.array (.object "java/lang/String")), accessFlags := 26, slot := 3, constantValue := 0 }, { name := "VALUES", type := (.array (.object "java/lang/String")), accessFlags := 26, slot := 4, constantValue := 0 }, { name := "NAME_BYTES", type := (.array (.array .byte)), accessFlags := 26, slot := 5, constantValue := 0 }, { name := "VALUE_BYTES", type := (.array (.array .byte)), accessFlags := 26, slot := 6, constantValue := 0 }, { name := "STATIC_ENTRIES", type := .int, accessFlags := 24, slot := 7, constantValue := 0 }]
  methods := #[k2m0, k2m1]
  instanceTypes := #[]
  staticTypes := #[.int, .int, .int, (.array (.object "java/lang/String")), (.array (.object "java/lang/String")), (.array (.array .byte)), (.array (.array .byte)), .int]
  resolved := Array.replicate 249 none
  statics := none }

def pool3 : Array CpInfo := pool [(1, u "java/lang/Cloneable"), (0, .class_ 1), (0, u "java/lang/Object"), (0, .class_ 3)] 3

/-- java/lang/Cloneable -/
def k3 : Class := { plain "java/lang/Cloneable" (some 0) with
  accessFlags := 1537
  interfaces := #[]
  cf := some (fileOf pool3 2 #[] #[] 1537 4 #[] #[])
  fields := #[]
  methods := #[]
  instanceTypes := #[]
  staticTypes := #[]
  resolved := Array.replicate 8 none
  statics := none }

def pool4 : Array CpInfo := pool [(1, u "java/io/Serializable"), (0, .class_ 1), (0, u "java/lang/Object"), (0, .class_ 3)] 3

/-- java/io/Serializable -/
def k4 : Class := { plain "java/io/Serializable" (some 0) with
  accessFlags := 1537
  interfaces := #[]
  cf := some (fileOf pool4 2 #[] #[] 1537 4 #[] #[])
  fields := #[]
  methods := #[]
  instanceTypes := #[]
  staticTypes := #[]
  resolved := Array.replicate 8 none
  statics := none }

/-- the primitive byte -/
def k5 : Class := { plain "byte" none with kind := .primitive 'B', accessFlags := 0x411 }
/-- [B -/
def k6 : Class := { plain "[B" (some 0) with kind := .array 5 .byte, interfaces := #[3, 4], accessFlags := 1041 }

/-- the primitive int -/
def k7 : Class := { plain "int" none with kind := .primitive 'I', accessFlags := 0x411 }
/-- [I -/
def k8 : Class := { plain "[I" (some 0) with kind := .array 7 .int, interfaces := #[3, 4], accessFlags := 1041 }

def heap : Heap := #[]
def classes : Array Class := #[k0, k1, k2, k3, k4, k5, k6, k7, k8]
def interned : List (Array UInt16 × Addr) := []
def slotsUsed : Nat := 0
def theMethod : MethodId := ⟨1, 2⟩
def args0 : Array Value := #[.int 5, .long 6, .int 0]
def aboutOver (below : List Frame) : State where
  vm := { classes := classes, interned := interned.toArray }
  heap := heap
  slotsUsed := slotsUsed
  threads := #[{ frames := .invoking theMethod args0 :: below }]
def below0 : List Frame := [.native { method := ⟨0, 0⟩, args := #[] }]
def about1 : State := aboutOver below0
def p0 : Program := .bare "" "" ""
def e0 : Env := launch0.env 0 0 0
theorem w_frames : about1.frames = Frame.invoking theMethod args0 :: below0 := rfl
set_option maxRecDepth 65536 in
theorem w_args : argsFit about1.vm theMethod args0 = true := by decide +kernel
set_option maxRecDepth 65536 in
theorem w_heap : heapFits about1 = true := by decide +kernel
set_option maxRecDepth 65536 in
theorem w_runnable : about1.curStatus? = some .runnable := by decide +kernel
set_option maxRecDepth 65536 in
theorem w_alone : about1.alone = true := by decide +kernel
set_option maxRecDepth 65536 in
theorem w_named : about1.methodNamed? x = some theMethod := by decide +kernel
set_option maxRecDepth 65536 in
theorem w_hears : about1.hears theMethod below0 = true := by decide +kernel
set_option maxRecDepth 65536 in
theorem w_ripe : about1.ripe theMethod args0 below0 = true := by decide +kernel
theorem w_running : about1.status = .running := rfl
set_option maxRecDepth 65536 in
theorem w_room : about1.hasRoom e0.platform room_1 = true :=
  launch0.hasRoom_least _ room_1 (by decide +kernel) (by decide +kernel) (by decide +kernel) (by decide +kernel) (by decide +kernel) (by decide +kernel)
theorem allAtoms_all (ts : List Jvm.Cond) (a : Array Jvm.Value) (st : Jvm.State) : (allAtoms ts).before a st = ts.all (fun c => c.before a st) := by
  induction ts with
  | nil => rfl
  | cons c t ih =>
    show (Jvm.Cond.and c (allAtoms t)).before a st = _
    rw [Jvm.Cond.before_and, ih, List.all_cons]
def words1 : List Jvm.Cond := Jvm.Cond.code x code maxLocals ret :: tables_1
/-- a 'code' word, met by the world's own term for the bytes: nothing is compared byte by byte -/
theorem code_word {y : MethodName} {bytes : ByteArray} {mx : Nat} {rt : Option FieldType} {a : Array Value} {s : State} {m : MethodId} {meth : Method} {c : Code} (h1 : s.methodNamed? y = some m) (h2 : s.vm.method? m = some meth) (h3 : meth.code = some c) (h4 : c.code = bytes)
    (h5 : (c.maxLocals == mx && c.exceptionTable.isEmpty && decide (c.maxStack ≤ mostOperands) && decide (meth.sig.returnType = rt) && !meth.locks && decide (parseMethodDescriptor y.desc = some meth.sig)) = true) : (Jvm.Cond.code y bytes mx rt).before a s = true := by
  simp only [Bool.and_eq_true, beq_iff_eq, Bool.not_eq_true', decide_eq_true_eq] at h5
  obtain ⟨⟨⟨⟨⟨g1, g2⟩, g3⟩, g4⟩, g5⟩, g6⟩ := h5
  simp [Cond.before, Cond.holds, Cond.value, h1, h2, h3, h4, g1, g2, g3, g4, g5, g6]
def isCode : Jvm.Cond → Bool
  | .code _ _ _ _ => true
  | _ => false
theorem all_split {L : List Jvm.Cond} {P : Jvm.Cond → Bool} (h1 : L.all (fun c => isCode c || P c) = true) (h2 : ∀ c ∈ L.filter isCode, P c = true) : L.all P = true := by
  refine List.all_eq_true.mpr fun c hc => ?_
  have h := List.all_eq_true.mp h1 c hc
  rcases Bool.eq_false_or_eq_true (isCode c) with hi | hi
  · exact h2 c (List.mem_filter.mpr ⟨hc, hi⟩)
  · simpa [hi] using h
set_option maxRecDepth 65536 in
theorem w_c0 : (Jvm.Cond.code x code maxLocals ret).before args0 about1 = true := code_word (m := ⟨1, 2⟩) (meth := k1m2) (c := k1c2) (by decide +kernel) rfl rfl rfl (by decide +kernel)
set_option maxRecDepth 65536 in
theorem w_c1 : (Jvm.Cond.code ({ cls := "com/example/paceline/paceline/http/HpackIntLengthPinLaw", name := "at", desc := "(JI)I" } : Jvm.MethodName) method_2_code (3 : Nat) (Option.some Jvm.ClassFile.FieldType.int)).before args0 about1 = true := code_word (m := ⟨1, 1⟩) (meth := k1m1) (c := k1c1) (by decide +kernel) rfl rfl rfl (by decide +kernel)
set_option maxRecDepth 65536 in
theorem w_c2 : (Jvm.Cond.code ({ cls := "com/example/paceline/paceline/http/Hpack", name := "intLength", desc := "(IJ)I" } : Jvm.MethodName) prog_35_method_6_code (7 : Nat) (Option.some Jvm.ClassFile.FieldType.int)).before args0 about1 = true := code_word (m := ⟨2, 1⟩) (meth := k2m1) (c := k2c1) (by decide +kernel) rfl rfl rfl (by decide +kernel)
def codes1 : List Jvm.Cond := [Jvm.Cond.code x code maxLocals ret, Jvm.Cond.code ({ cls := "com/example/paceline/paceline/http/HpackIntLengthPinLaw", name := "at", desc := "(JI)I" } : Jvm.MethodName) method_2_code (3 : Nat) (Option.some Jvm.ClassFile.FieldType.int), Jvm.Cond.code ({ cls := "com/example/paceline/paceline/http/Hpack", name := "intLength", desc := "(IJ)I" } : Jvm.MethodName) prog_35_method_6_code (7 : Nat) (Option.some Jvm.ClassFile.FieldType.int)]
set_option maxRecDepth 65536 in
theorem codes_eq : words1.filter isCode = codes1 := rfl
theorem w_codes : ∀ c ∈ words1.filter isCode, c.before args0 about1 = true := by
  rw [codes_eq]
  intro c hc
  simp only [codes1, List.mem_cons, List.not_mem_nil, or_false] at hc
  rcases hc with rfl | rfl | rfl
  · exact w_c0
  · exact w_c1
  · exact w_c2
set_option maxRecDepth 65536 in
theorem w_t1 : words1.all (fun c => isCode c || c.before args0 about1) = true := by decide +kernel
theorem w_tables : (allAtoms (Jvm.Cond.code x code maxLocals ret :: tables_1)).before args0 about1 = true := by
  rw [allAtoms_all]
  show words1.all (fun c => c.before args0 about1) = true
  refine all_split ?_ w_codes
  rw [w_t1]
set_option maxRecDepth 65536 in
theorem w_case : (Jvm.Cond.and given_1 narrow_1).before args0 about1 = true := by decide +kernel
theorem w_applies : (headSpec (Jvm.Cond.code x code maxLocals ret :: tables_1) room_1).applies x e0.platform about1 = true :=
  (Spec.applies_iff w_frames).mpr ⟨w_running, w_runnable, w_alone, w_named, w_hears, w_ripe, w_room, w_tables⟩
theorem atStart : AtStart classFile x code maxLocals ret World_1 tables_1 room_1 Calls_1 rest_1 Pre_1 launch0 p0 e0 about1 theMethod args0 below0 :=
  ⟨lists_1, trivial, launch0.admits_env _ _ _, launch0.least_env, fairChoices_fair.cas, fairChoices_fair.clock, w_frames, w_args, w_heap, w_applies, trivial, trivial, w_case⟩
end start1
theorem witness_1 : WitnessClaimed_1 := ⟨start1.p0, start1.e0, start1.about1, start1.theMethod, start1.args0, start1.below0, start1.atStart⟩
end Jvm.Pilot.@@N@@
