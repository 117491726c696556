import JvmDerived
import JvmDerived.Pilot.@@N@@Statement
import JvmDerived.Pilot.@@N@@Code
set_option linter.unusedVariables false
set_option linter.unusedSimpArgs false
namespace Jvm.RoadKit
open Sem ClassFile Op Lib Jvm.Stand Jvm.Free Jvm.LawKit
section New
variable {p : Program} {l : Launch} {e : Env} {R : Room} {s : State} {m : MethodId} {args : Array Value} {below : List Frame} {meth : Method} {c : Code} {T : State} {locs : List Loc} {cells slots : Nat}
theorem retI (X : Stand p l e R s m args below meth c T locs cells slots) (hx : p.tables.exec = Jvm.exec) {pc : Nat} {Ls : Array Slot} {z : Int32} {rest : List Value} (hret : meth.sig.returnType = some .int) (hd : decode c.code pc = .ok (.ireturn, 1)) {fs : List Frame}
    (hl : ∀ (f : JFrame) (acts : List Action), f.method = m → f.locked = none → f.entered = [] → (doReturn e (T.setTop f) acts (some (.int z))).1 = T.setFrames fs) : Steps p.tables e below (T.setTop (mkF m pc Ls (.int z :: rest))) (T.setFrames fs) := by
  have hm' : T.vm.method? m = some meth := X.method'
  have hn : narrow .int (.int z) = .int z := rfl
  show Steps p.tables e below (T.setTop { method := m, pc := pc, locals := Ls, stack := _ :: rest, locked := none }) _
  jvm_step X.here [X.here.top, hx, hd, hm', hret, hn]
  first | (intro acts; rw [hl _ acts rfl rfl rfl]) | rw [hl _ _ rfl rfl rfl]
  exact Steps.refl _
end New
end Jvm.RoadKit
namespace Jvm.Pilot.@@N@@
open Jvm Jvm.ClassFile Sem Op Lib Jvm.Free Jvm.Stand Jvm.LawKit Jvm.RoadKit Bundle Jvm.Pilot.@@N@@.Jvm.D
section OwnKit
variable {p : Program} {l : Launch} {e : Env} {R : Room} {s : State} {m : MethodId} {args : Array Value} {below : List Frame} {meth : Method} {c : Code} {T : State} {locs : List Loc} {cells slots : Nat} {Z : State} {h h' : Heap} {a b : Addr} {ty : FieldType} {n : Nat} {f : Nat → Value}
/-- an array by its length and the value at each place -/
def own_AF (Z : State) (h : Heap) (a : Addr) (ty : FieldType) (n : Nat) (f : Nat → Value) : Prop := ∃ c : Cell, Arr Z h a c ty ∧ c.slots.size = n ∧ n < 2 ^ 31 ∧ ∀ i, i < n → c.slots[i]? = some (f i)
theorem own_AF.lt (F : own_AF Z h a ty n f) : a < h.size := by obtain ⟨c, A, -⟩ := F; exact A.lt
theorem own_AF.ext (F : own_AF Z h a ty n f) (E : Ext h h') : own_AF Z h' a ty n f := by obtain ⟨c, A, r⟩ := F; exact ⟨c, A.ext E, r⟩
theorem own_AF.other {sl : Nat} {v : Value} (F : own_AF Z h b ty n f) (W : Wr h h' a sl v) (q : b ≠ a) : own_AF Z h' b ty n f := by obtain ⟨c, A, r⟩ := F; exact ⟨c, A.other W q, r⟩
theorem own_AF.keep {ws : List Addr} (F : own_AF Z h a ty n f) (K : Keep h h' ws) (q : a ∉ ws) : own_AF Z h' a ty n f := by obtain ⟨c, A, r⟩ := F; exact ⟨c, ⟨K.2.1 a c A.1 q, A.2⟩, r⟩
theorem own_AF.congr {g : Nat → Value} (F : own_AF Z h a ty n f) (q : ∀ i, i < n → f i = g i) : own_AF Z h a ty n g := by
  obtain ⟨c, A, r1, r2, r3⟩ := F; exact ⟨c, A, r1, r2, fun i hi => by rw [r3 i hi, q i hi]⟩
theorem own_AF.set {j : Nat} {v : Value} (F : own_AF Z h a ty n f) (W : Wr h h' a j v) : own_AF Z h' a ty n (fun i => if i = j then v else f i) := by
  obtain ⟨c, A, r1, r2, r3⟩ := F
  obtain ⟨cb', q1, q2, q3, q4, -, q6, q7⟩ := wr_at W A.1
  obtain ⟨e1, e2, -⟩ := q7 rfl
  refine ⟨_, A.same W, ?_, r2, fun i hi => ?_⟩
  · rw [sz_set]; exact r1
  · rw [← e1]
    by_cases hij : i = j
    · subst hij; simp only [if_true]; exact e2
    · rw [q6 i hij, r3 i hi]; simp only [hij, if_false]
theorem own_AF.new {k : ClassId} {z : Int32} {d : Value} (A : Arr Z h a (newA k ty z) ty) (q : ¬ z < 0) (hn : z.toNatClampNeg = n) (hd : defaultValue ty = d := by rfl) : own_AF Z h a ty n (fun _ => d) := by
  subst hn
  refine ⟨_, A, sz_new _ _ _, (back32 q).2, fun i hi => ?_⟩
  simp [newA, hi, hd]
theorem own_AF.inb {c : Cell} {j : Int32} {k : Nat} (S : c.slots.size = n) (h1 : ¬ j < 0) (hk : j.toNatClampNeg = k) (h2 : k < n) : ¬ (j < 0 ∨ c.slots.size ≤ j.toNatClampNeg) := by
  rw [S, hk]; exact fun q => q.elim h1 fun q => by omega
theorem own_ldI (X : Stand p l e R s m args below meth c T locs cells slots) (hx : p.tables.exec = Jvm.exec) (hZ : Z.Warmed39 s.vm) (eT : T.heap = h) (A : own_AF Z h a .int n f) {j : Int32} (h1 : ¬ j < 0) {k : Nat} (hk : j.toNatClampNeg = k) (h2 : k < n) {v : Value} (hv : f k = v)
    {g : JFrame} (hg : g.method = m) {rest : List Value} (hs : g.stack = .int j :: .ref a :: rest) (hd : decode c.code g.pc = .ok (.iaload, 1)) (target : State)
    (hr : Steps p.tables e below (T.setTop { g with pc := g.pc + 1, stack := v :: rest }) target) : Steps p.tables e below (T.setTop g) target := by
  obtain ⟨cl, A, r1, r2, r3⟩ := A
  exact X.iaload hx (by rw [eT]; exact A.1) (State.isArrayOf_alike hZ.alike A.2.1) A.2.2 (own_AF.inb r1 h1 hk h2) (by rw [hk, ← hv]; exact r3 k h2) hg hs hd _ hr
theorem own_ldJ (X : Stand p l e R s m args below meth c T locs cells slots) (hx : p.tables.exec = Jvm.exec) (hZ : Z.Warmed39 s.vm) (eT : T.heap = h) (A : own_AF Z h a .long n f) {j : Int32} (h1 : ¬ j < 0) {k : Nat} (hk : j.toNatClampNeg = k) (h2 : k < n) {v : Value} (hv : f k = v)
    {g : JFrame} (hg : g.method = m) {rest : List Value} (hs : g.stack = .int j :: .ref a :: rest) (hd : decode c.code g.pc = .ok (.laload, 1)) (target : State)
    (hr : Steps p.tables e below (T.setTop { g with pc := g.pc + 1, stack := v :: rest }) target) : Steps p.tables e below (T.setTop g) target := by
  obtain ⟨cl, A, r1, r2, r3⟩ := A
  exact X.laload hx (by rw [eT]; exact A.1) (State.isArrayOf_alike hZ.alike A.2.1) A.2.2 (own_AF.inb r1 h1 hk h2) (by rw [hk, ← hv]; exact r3 k h2) hg hs hd _ hr
theorem own_ldB (X : Stand p l e R s m args below meth c T locs cells slots) (hx : p.tables.exec = Jvm.exec) (hZ : Z.Warmed39 s.vm) (eT : T.heap = h) (A : own_AF Z h a .byte n f) {j : Int32} (h1 : ¬ j < 0) {k : Nat} (hk : j.toNatClampNeg = k) (h2 : k < n) {v : Value} (hv : f k = v)
    {g : JFrame} (hg : g.method = m) {rest : List Value} (hs : g.stack = .int j :: .ref a :: rest) (hd : decode c.code g.pc = .ok (.baload, 1)) (target : State)
    (hr : Steps p.tables e below (T.setTop { g with pc := g.pc + 1, stack := v :: rest }) target) : Steps p.tables e below (T.setTop g) target := by
  obtain ⟨cl, A, r1, r2, r3⟩ := A
  exact X.baloadBytes hx (by rw [eT]; exact A.1) (State.isArrayOf_alike hZ.alike A.2.1) A.2.2 (own_AF.inb r1 h1 hk h2) (by rw [hk, ← hv]; exact r3 k h2) hg hs hd _ hr
theorem own_ldZ (X : Stand p l e R s m args below meth c T locs cells slots) (hx : p.tables.exec = Jvm.exec) (hZ : Z.Warmed39 s.vm) (eT : T.heap = h) (A : own_AF Z h a .boolean n f) {j : Int32} (h1 : ¬ j < 0) {k : Nat} (hk : j.toNatClampNeg = k) (h2 : k < n) {v : Value} (hv : f k = v)
    {g : JFrame} (hg : g.method = m) {rest : List Value} (hs : g.stack = .int j :: .ref a :: rest) (hd : decode c.code g.pc = .ok (.baload, 1)) (target : State)
    (hr : Steps p.tables e below (T.setTop { g with pc := g.pc + 1, stack := v :: rest }) target) : Steps p.tables e below (T.setTop g) target := by
  obtain ⟨cl, A, r1, r2, r3⟩ := A
  exact X.baloadBooleans hx (by rw [eT]; exact A.1) (State.isArrayOf_alike hZ.alike A.2.1) A.2.2 (own_AF.inb r1 h1 hk h2) (by rw [hk, ← hv]; exact r3 k h2) hg hs hd _ hr
theorem own_len (X : Stand p l e R s m args below meth c T locs cells slots) (hx : p.tables.exec = Jvm.exec) (hZ : Z.Warmed39 s.vm) (eT : T.heap = h) (A : own_AF Z h a ty n f) {z : Int32} (hz : n.toInt32 = z)
    {g : JFrame} (hg : g.method = m) {rest : List Value} (hs : g.stack = .ref a :: rest) (hd : decode c.code g.pc = .ok (.arraylength, 1)) (target : State)
    (hr : Steps p.tables e below (T.setTop { g with pc := g.pc + 1, stack := .int z :: rest }) target) : Steps p.tables e below (T.setTop g) target := by
  obtain ⟨cl, A, r1, r2, r3⟩ := A
  exact X.arraylength hx (by rw [eT]; exact A.1) (State.isArrayOf_alike hZ.alike A.2.1) hg hs hd _ (by rw [r1, hz]; exact hr)
theorem own_stI (X : Stand p l e R s m args below meth c T locs cells slots) (hx : p.tables.exec = Jvm.exec) (hZ : Z.Warmed39 s.vm) (eT : T.heap = h) (A : own_AF Z h a .int n f) {j x : Int32} (h1 : ¬ j < 0) {k : Nat} (hk : j.toNatClampNeg = k) (h2 : k < n)
    {g : JFrame} (hg : g.method = m) {rest : List Value} (hs : g.stack = .int x :: .int j :: .ref a :: rest) (hd : decode c.code g.pc = .ok (.iastore, 1)) :
    ∃ T' h', Stand p l e R s m args below meth c T' (locs ++ [⟨a, k⟩]) cells slots ∧ T'.heap = h' ∧ Wr h h' a k (.int x) ∧ own_AF Z h' a .int n (fun i => if i = k then .int x else f i) ∧ ∀ target, Steps p.tables e below (T'.setTop { g with pc := g.pc + 1, stack := rest }) target → Steps p.tables e below (T.setTop g) target := by
  obtain ⟨cl, A', r1, r2, r3⟩ := id A
  obtain ⟨T', h', X', e', W', st⟩ := stI X hx hZ eT A' (own_AF.inb r1 h1 hk h2) hg hs hd
  subst hk
  exact ⟨T', h', X', e', W', A.set W', st⟩
theorem own_stJ (X : Stand p l e R s m args below meth c T locs cells slots) (hx : p.tables.exec = Jvm.exec) (hZ : Z.Warmed39 s.vm) (eT : T.heap = h) (A : own_AF Z h a .long n f) {j : Int32} {x : Int64} (h1 : ¬ j < 0) {k : Nat} (hk : j.toNatClampNeg = k) (h2 : k < n)
    {g : JFrame} (hg : g.method = m) {rest : List Value} (hs : g.stack = .long x :: .int j :: .ref a :: rest) (hd : decode c.code g.pc = .ok (.lastore, 1)) :
    ∃ T' h', Stand p l e R s m args below meth c T' (locs ++ [⟨a, k⟩]) cells slots ∧ T'.heap = h' ∧ Wr h h' a k (.long x) ∧ own_AF Z h' a .long n (fun i => if i = k then .long x else f i) ∧ ∀ target, Steps p.tables e below (T'.setTop { g with pc := g.pc + 1, stack := rest }) target → Steps p.tables e below (T.setTop g) target := by
  obtain ⟨cl, A', r1, r2, r3⟩ := id A
  obtain ⟨T', h', X', e', W', st⟩ := stJ X hx hZ eT A' (own_AF.inb r1 h1 hk h2) hg hs hd
  subst hk
  exact ⟨T', h', X', e', W', A.set W', st⟩
theorem own_stB (X : Stand p l e R s m args below meth c T locs cells slots) (hx : p.tables.exec = Jvm.exec) (hZ : Z.Warmed39 s.vm) (eT : T.heap = h) (A : own_AF Z h a .byte n f) {j x : Int32} (h1 : ¬ j < 0) {k : Nat} (hk : j.toNatClampNeg = k) (h2 : k < n)
    {g : JFrame} (hg : g.method = m) {rest : List Value} (hs : g.stack = .int x :: .int j :: .ref a :: rest) (hd : decode c.code g.pc = .ok (.bastore, 1)) :
    ∃ T' h', Stand p l e R s m args below meth c T' (locs ++ [⟨a, k⟩]) cells slots ∧ T'.heap = h' ∧ Wr h h' a k (.int (nar .byte x)) ∧ own_AF Z h' a .byte n (fun i => if i = k then .int (nar .byte x) else f i) ∧ ∀ target, Steps p.tables e below (T'.setTop { g with pc := g.pc + 1, stack := rest }) target → Steps p.tables e below (T.setTop g) target := by
  obtain ⟨cl, A', r1, r2, r3⟩ := id A
  obtain ⟨T', h', X', e', W', st⟩ := stB X hx hZ eT A' (own_AF.inb r1 h1 hk h2) hg hs hd
  subst hk
  exact ⟨T', h', X', e', W', A.set W', st⟩
theorem own_stZ (X : Stand p l e R s m args below meth c T locs cells slots) (hx : p.tables.exec = Jvm.exec) (hZ : Z.Warmed39 s.vm) (eT : T.heap = h) (A : own_AF Z h a .boolean n f) {j x : Int32} (h1 : ¬ j < 0) {k : Nat} (hk : j.toNatClampNeg = k) (h2 : k < n)
    {g : JFrame} (hg : g.method = m) {rest : List Value} (hs : g.stack = .int x :: .int j :: .ref a :: rest) (hd : decode c.code g.pc = .ok (.bastore, 1)) :
    ∃ T' h', Stand p l e R s m args below meth c T' (locs ++ [⟨a, k⟩]) cells slots ∧ T'.heap = h' ∧ Wr h h' a k (.int (nar .boolean x)) ∧ own_AF Z h' a .boolean n (fun i => if i = k then .int (nar .boolean x) else f i) ∧ ∀ target, Steps p.tables e below (T'.setTop { g with pc := g.pc + 1, stack := rest }) target → Steps p.tables e below (T.setTop g) target := by
  obtain ⟨cl, A', r1, r2, r3⟩ := id A
  obtain ⟨T', h', X', e', W', st⟩ := stZ X hx hZ eT A' (own_AF.inb r1 h1 hk h2) hg hs hd
  subst hk
  exact ⟨T', h', X', e', W', A.set W', st⟩
theorem own_lremM {g : JFrame} {target : State} (X : Stand p l e R s m args below meth c T locs cells slots) (hx : p.tables.exec = Jvm.exec) (hg : g.method = m) {x y : Int64} {rest : List Value} (hd : decode c.code g.pc = .ok (.lrem, 1)) (hs : g.stack = .long y :: .long x :: rest) (hy : y ≠ 0)
    (hr : Steps p.tables e below (T.setTop { g with pc := g.pc + 1, stack := .long (x % y) :: rest }) target) : Steps p.tables e below (T.setTop g) target :=
  XS.lrem X.here hx hg hd hs hy (by rw [lrem_mod x y]; exact hr)
theorem own_cloneI {a0 : Array Value} (X : Stand p l e R s m args below meth c T locs cells slots) (hx : p.tables.exec = Jvm.exec) (hZ : Z.Warmed39 s.vm) {own : String} {index : Nat} (hown : s.vm.findClass own = some m.cls)
    (w1 : (Cond.methodLink own index ⟨"[I", "clone", "()Ljava/lang/Object;"⟩).before a0 Z = true) (w2 : (Cond.sameMethod "[I" "java/lang/Object" "clone" "()Ljava/lang/Object;").before a0 Z = true) (w3 : (Cond.native ⟨"java/lang/Object", "clone", "()Ljava/lang/Object;"⟩).before a0 Z = true)
    (w4 : (Cond.instanceMethod ⟨"java/lang/Object", "clone", "()Ljava/lang/Object;"⟩).before a0 Z = true) (w5 : (Cond.selects "[I" ⟨"[I", "clone", "()Ljava/lang/Object;"⟩ ⟨"java/lang/Object", "clone", "()Ljava/lang/Object;"⟩).before a0 Z = true) (w6 : (Cond.castable "[I" "java/lang/Cloneable").before a0 Z = true)
    (eT : T.heap = h) (F : own_AF Z h a .int n f) (E : Exa Z h a "[I") (hfit : ∀ i, i < n → fits .int (f i) = true) {g : JFrame} (hg : g.method = m) (hsize : g.locals.size = c.maxLocals) {rest : List Value} (hs : g.stack = .ref a :: rest) (hd : decode c.code g.pc = .ok (.invokevirtual index, 3))
    (hf : 1 ≤ R.frames) {W cap : Nat} (hW : 2 * g.monitorRoom + (rest.map fun v => v.category).sum ≤ W) (hl : W + 14 ≤ R.locals) (hcap : n ≤ cap) (hc : cells + 1 ≤ R.cells) (hsl : slots + cap ≤ R.slots) :
    ∃ T' h', Stand p l e R s m args below meth c T' locs (cells + 1) (slots + cap) ∧ T'.heap = h' ∧ Ext h h' ∧ own_AF Z h' h.size .int n f ∧ Exa Z h' h.size "[I" ∧
      ∀ target, Steps p.tables e below (T'.setTop { g with pc := g.pc + 3, stack := .ref h.size :: rest }) target → Steps p.tables e below (T.setTop g) target := by
  obtain ⟨cl, A, r1, r2, r3⟩ := F
  have FC : FitC Z cl := fitC_of A fun i hi v hv => by rw [r3 i (by omega)] at hv; cases hv; exact hfit i (by omega)
  obtain ⟨T', h', X', e', ex, A', E', st⟩ := cloneA X hx hZ hown w1 w2 w3 w4 w5 w6 eT A E FC hg hsize hs hd hf hW hl (by rw [r1]; exact hcap) hc hsl
  exact ⟨T', h', X', e', ex, ⟨cloneOf cl, A', r1, r2, r3⟩, E', st⟩
end OwnKit
def own_in (ws : Nat → Int64) (i : Nat) : Bool := (ws (i / 64)).toBitVec.getLsbD (i % 64)
theorem own_ofNat {i : Nat} (hi : i < 2 ^ 31) : (Int32.ofNat i).toBitVec.toNat = i := by
  show (BitVec.ofNat 32 i).toNat = i
  rw [BitVec.toNat_ofNat]; omega
theorem own_shl {i : Nat} (hi : i < 2 ^ 31) : ((1 : Int64) <<< ((Int32.ofNat i) &&& 0x3f).toInt64).toBitVec = BitVec.twoPow 64 (i % 64) := by
  have h := sm64 (Int32.ofNat i) (i % 64) (by rw [own_ofNat hi])
  show (1#64 <<< (((Int32.ofNat i) &&& 0x3f).toInt64.toBitVec.smod 64)) = _
  rw [BitVec.shiftLeft_eq', h.1, smod64 _ h.2]
  rfl
theorem own_tst (w : Int64) {i : Nat} (hi : i < 2 ^ 31) : (w &&& ((1 : Int64) <<< ((Int32.ofNat i) &&& 0x3f).toInt64)) = (0 : Int64) ↔ w.toBitVec.getLsbD (i % 64) = false := by
  rw [← Int64.toBitVec_inj, Int64.toBitVec_and, own_shl hi, BitVec.and_twoPow]
  have hr : i % 64 < 64 := Nat.mod_lt _ (by decide)
  cases hg : w.toBitVec.getLsbD (i % 64)
  · simp
  · simp only [if_true]
    constructor
    · intro h
      have h2 := congrArg (fun z => z.getLsbD (i % 64)) h
      simp [BitVec.getLsbD_twoPow, hr] at h2
    · intro h; cases h
theorem own_ins (w : Int64) {i : Nat} (hi : i < 2 ^ 31) (r : Nat) : (w ||| ((1 : Int64) <<< ((Int32.ofNat i) &&& 0x3f).toInt64)).toBitVec.getLsbD r = (w.toBitVec.getLsbD r || decide (i % 64 = r)) := by
  have hr : i % 64 < 64 := Nat.mod_lt _ (by decide)
  rw [Int64.toBitVec_or, own_shl hi, BitVec.getLsbD_or, BitVec.getLsbD_twoPow]
  simp [hr]
theorem own_ups (ws : Nat → Int64) {i : Nat} (hi : i < 2 ^ 31) (k : Nat) : own_in (fun j => if j = i / 64 then (ws (i / 64) ||| ((1 : Int64) <<< ((Int32.ofNat i) &&& 0x3f).toInt64)) else ws j) k = (own_in ws k || decide (k = i)) := by
  unfold own_in
  by_cases hk : k / 64 = i / 64
  · simp only [hk, if_true]
    rw [own_ins _ hi]
    congr 1
    apply decide_eq_decide.mpr
    omega
  · have : ¬ k = i := fun q => hk (by rw [q])
    simp [hk, this]
theorem own_jx {i : Nat} (hi : i < 2 ^ 31) : ¬ (((Int32.ofNat i).toUInt32 >>> ((6 : Int32) &&& 31).toUInt32).toInt32) < 0 ∧ (((Int32.ofNat i).toUInt32 >>> ((6 : Int32) &&& 31).toUInt32).toInt32).toNatClampNeg = i / 64 := by
  have h1 := c_iushr (Int32.ofNat i) (6 : Int32) 6 (by decide) (by decide)
  have h2 : (Int32.ofNat i).toInt = i := Int32.toInt_ofNat_of_lt hi
  have h3 : (((Int32.ofNat i).toUInt32 >>> ((6 : Int32) &&& 31).toUInt32).toInt32).toInt = ((i / 64 : Nat) : Int) := by rw [h1, h2]; omega
  have h4 : ¬ (((Int32.ofNat i).toUInt32 >>> ((6 : Int32) &&& 31).toUInt32).toInt32) < 0 := fun q => by
    have := Int32.lt_iff_toInt_lt.mp q
    rw [h3, show (0 : Int32).toInt = 0 from rfl] at this
    omega
  refine ⟨h4, ?_⟩
  have := nat_of h4
  omega
theorem own_words {n : Int32} (h1 : 1 ≤ n.toInt) (h2 : n.toInt ≤ 1024) : ¬ (((n + (63 : Int32)).toUInt32 >>> ((6 : Int32) &&& 31).toUInt32).toInt32) < 0 ∧ (((n + (63 : Int32)).toUInt32 >>> ((6 : Int32) &&& 31).toUInt32).toInt32).toNatClampNeg ≤ 16 ∧ ∀ i : Nat, (i : Int) < n.toInt → i / 64 < (((n + (63 : Int32)).toUInt32 >>> ((6 : Int32) &&& 31).toUInt32).toInt32).toNatClampNeg := by
  have a1 := c_iadd n (63 : Int32)
  have a2 := rng32 (n + (63 : Int32))
  have o : (63 : Int32).toInt = 63 := rfl
  have a3 := c_iushr (n + (63 : Int32)) (6 : Int32) 6 (by decide) (by decide)
  have h4 : ¬ (((n + (63 : Int32)).toUInt32 >>> ((6 : Int32) &&& 31).toUInt32).toInt32) < 0 := fun q => by
    have := Int32.lt_iff_toInt_lt.mp q
    rw [a3, show (0 : Int32).toInt = 0 from rfl] at this
    omega
  have a4 := nat_of h4
  refine ⟨h4, by omega, fun i hi => by omega⟩
theorem own_nn (a : Int32) : 1 ≤ ((a &&& (1023 : Int32)) + (1 : Int32)).toInt ∧ ((a &&& (1023 : Int32)) + (1 : Int32)).toInt ≤ 1024 := by
  have h1 := c_mask a (1023 : Int32) 10 (by decide) (by decide)
  have h2 := c_iadd (a &&& (1023 : Int32)) (1 : Int32)
  have h3 := rng32 ((a &&& (1023 : Int32)) + (1 : Int32))
  have o1 : (1 : Int32).toInt = 1 := rfl
  omega
theorem own_xx (a : Int32) {n : Int32} (h1 : 1 ≤ n.toInt) (h2 : n.toInt ≤ 1024) : ∃ k : Nat, Int32.ofNat k = ((a &&& (2147483647 : Int32)) % n) ∧ (k : Int) < n.toInt ∧ k < 2 ^ 31 := by
  have m := c_mask a (2147483647 : Int32) 31 (by decide) (by decide)
  have r := ((c_iremV (a &&& (2147483647 : Int32)) n).1 (by omega) (by omega))
  refine ⟨((a &&& (2147483647 : Int32)) % n).toInt.toNat, ?_, by omega, by omega⟩
  apply Int32.toInt_inj.mp
  rw [Int32.toInt_ofNat_of_lt (by omega)]
  omega
theorem own_eqn {i j : Nat} (hi : i < 2 ^ 31) (hj : j < 2 ^ 31) : Int32.ofNat i = Int32.ofNat j ↔ i = j := by
  rw [← Int32.toInt_inj, Int32.toInt_ofNat_of_lt hi, Int32.toInt_ofNat_of_lt hj]
  omega
theorem own_d1_0 : decode prog_110_method_1_code 0 = .ok (.aload_n 0, 1) := by decide +kernel
theorem own_d1_1 : decode prog_110_method_1_code 1 = .ok (.invokespecial 1, 3) := by decide +kernel
theorem own_d1_4 : decode prog_110_method_1_code 4 = .ok (.aload_n 0, 1) := by decide +kernel
theorem own_d1_5 : decode prog_110_method_1_code 5 = .ok (.iload_n 1, 1) := by decide +kernel
theorem own_d1_6 : decode prog_110_method_1_code 6 = .ok (.bipush 63, 2) := by decide +kernel
theorem own_d1_8 : decode prog_110_method_1_code 8 = .ok (.iadd, 1) := by decide +kernel
theorem own_d1_9 : decode prog_110_method_1_code 9 = .ok (.bipush 6, 2) := by decide +kernel
theorem own_d1_11 : decode prog_110_method_1_code 11 = .ok (.iushr, 1) := by decide +kernel
theorem own_d1_12 : decode prog_110_method_1_code 12 = .ok (.newarray .long, 2) := by decide +kernel
theorem own_d1_14 : decode prog_110_method_1_code 14 = .ok (.putfield 7, 3) := by decide +kernel
theorem own_d1_17 : decode prog_110_method_1_code 17 = .ok (.return_, 1) := by decide +kernel
theorem own_pn0 : plainName "com/example/ulebb/ulebb/dex/OffsetBits" = true := by first | (simp [plainName, overriddenIn]; done) | decide +kernel
theorem own_ef1 (m : MethodId) (x0 : Addr) (x1 : Int32) : entryFrame m #[(.ref x0), (.int x1)] 2 = mkF m 0 #[.val (.ref x0), .val (.int x1)] [] := by first | (simp [entryFrame, mkF, argsToLocals, Value.category]; done) | rfl
def own_Q1 (Z : State) (a1 : Addr) (p2 : Int32) (nw : Nat) (h0 : Heap) (n0 : Nat) (v : Option Value) (h : Heap) (L : List Loc) : Prop := v = none ∧ Fr n0 L ∧ Keep h0 h [a1] ∧ Exa Z h a1 "com/example/ulebb/ulebb/dex/OffsetBits" ∧ ∃ b : Addr, Fld Z h a1 "com/example/ulebb/ulebb/dex/OffsetBits" "words" "[J" (.ref b) ∧ n0 ≤ b ∧ h0.size ≤ b ∧ own_AF Z h b .long nw (fun _ => .long (0 : Int64))
set_option maxRecDepth 65536 in
set_option maxHeartbeats 40000000 in
theorem own_rm1 (l : Launch) (Z : State) (a0 : Array Value) (hw : ∀ d ∈ tables_1, d.before a0 Z = true) (ws : List Jvm.Cond) (a1 : Addr) (p2 : Int32) (nw : Nat) (h0 : Heap) (n0 : Nat) (Z0 : n0 ≤ h0.size) (E_a1 : Exa Z h0 a1 "com/example/ulebb/ulebb/dex/OffsetBits") (F_w : Fld Z h0 a1 "com/example/ulebb/ulebb/dex/OffsetBits" "words" "[J" .null) (g_a1 : n0 ≤ a1) (hz : ¬ (((p2 + (63 : Int32)).toUInt32 >>> ((6 : Int32) &&& 31).toUInt32).toInt32) < 0) (hcap : (((p2 + (63 : Int32)).toUInt32 >>> ((6 : Int32) &&& 31).toUInt32).toInt32).toNatClampNeg ≤ 16) (hnw : (((p2 + (63 : Int32)).toUInt32 >>> ((6 : Int32) &&& 31).toUInt32).toInt32).toNatClampNeg = nw) :
    MetFree l (⟨"com/example/ulebb/ulebb/dex/OffsetBits", "<init>", "(I)V"⟩ : MethodName) (head1 (Jvm.Cond.code (⟨"com/example/ulebb/ulebb/dex/OffsetBits", "<init>", "(I)V"⟩ : MethodName) prog_110_method_1_code 2 none :: ws) ({ frames := 1, cells := 1, slots := 16, locals := 12 } : Room)) (fun a U => a = #[(.ref a1), (.int p2)] ∧ Z.Warmed39 U.vm ∧ U.heap = h0) (fun _ _ _ _ _ => True) (fun _ U o U' => ∃ v L, o = .returned v ∧ own_Q1 Z a1 p2 nw h0 n0 v U'.heap L ∧ FrameEnd U o U' L ({ frames := 1, cells := 1, slots := 16, locals := 12 } : Room).cells ({ frames := 1, cells := 1, slots := 16, locals := 12 } : Room).slots) := by
  refine MetFree.of_bodySF (plainFor_of_name own_pn0) hisR ?_
  intro p e s m args below meth c s₁ Bd hml0 hP hK
  obtain ⟨rfl, hZ, hh⟩ := hP
  have hx := Bd.exec
  have hby := Bd.bytes
  have hml : c.maxLocals = 2 := hml0
  have hown : s.vm.findClass "com/example/ulebb/ulebb/dex/OffsetBits" = some m.cls := findClass_of_methodNamed Bd.named
  have hnm := (name_of_methodNamed Bd.named Bd.method).1
  have X0 : Stand p l e ({ frames := 1, cells := 1, slots := 16, locals := 12 } : Room) s m #[(.ref a1), (.int p2)] below meth c s₁ [] 0 0 := Stand.of_body Bd
  have e0 : s₁.heap = h0 := by rw [← hh, Bd.state]; rfl
  have N0 := Fr.nil n0
  have K0 := Keep.refl h0 [a1]
  have pre0 : ∀ t, Steps p.tables e below (s₁.setTop (mkF m 0 #[.val (.ref a1), .val (.int p2)] [])) t → Steps p.tables e below (s₁.setTop (entryFrame m #[(.ref a1), (.int p2)] 2)) t := fun t kt0 => castTop (own_ef1 m (a1) (p2)) kt0
  obtain ⟨T1, X1, e1, st1⟩ := initO X0 hx hZ hown (hw _ (List.mem_of_getElem? (i := 7) rfl)) (hw _ (List.mem_of_getElem? (i := 8) rfl)) (hw _ (List.mem_of_getElem? (i := 9) rfl)) e0 (g := (mkF m 1 #[.val (.ref a1), .val (.int p2)] [(.ref a1)])) rfl (by rw [hml]; rfl) rfl (hb hby own_d1_1) (by decide) (W := 0) (by show 2 * 0 + _ ≤ _; exact Nat.le_of_eq rfl) (by decide)
  obtain ⟨T2, h2, k2, X2, e2, E2, A2, st2⟩ := newP X1 hx hZ (hw _ (List.mem_of_getElem? (i := 10) rfl)) e1 (g := (mkF m 12 #[.val (.ref a1), .val (.int p2)] [(.int (((p2 + (63 : Int32)).toUInt32 >>> ((6 : Int32) &&& 31).toUInt32).toInt32)), (.ref a1)])) rfl (hb hby own_d1_12) rfl hz (cap := 16) hcap (by decide) (by decide) (by decide)
  obtain ⟨bb, g2⟩ : ∃ z, z = h0.size := ⟨_, rfl⟩
  rw [← g2] at A2 st2
  have lt_a1_bb : a1 < bb := by rw [g2]; exact E_a1.lt
  have ne_a1_bb : a1 ≠ bb := Nat.ne_of_lt lt_a1_bb
  have g_bb : n0 ≤ bb := by rw [g2]; exact Z0
  have sz_bb : h0.size ≤ bb := by rw [g2]; exact K0.1
  have E_a1 := E_a1.ext E2
  have F_w := F_w.ext E2
  have K3 := K0.ext E2
  have Z4 := Nat.le_trans Z0 E2.1
  have V_bb : own_AF Z h2 bb .long nw (fun _ => .long (0 : Int64)) := own_AF.new A2 hz hnw
  obtain ⟨T5, h5, X5, e5, W5, st5⟩ := putF X2 hx hZ hown (host := "") (Or.inl (hw _ (List.mem_of_getElem? (i := 11) rfl))) Via.refl e2 F_w E_a1 (Or.inr ⟨(hw _ (List.mem_of_getElem? (i := 12) rfl)), rfl, hnm⟩) (hw _ (List.mem_of_getElem? (i := 2) rfl)) (ty := (.array .long)) (by decide) rfl rfl (g := (mkF m 14 #[.val (.ref a1), .val (.int p2)] [(.ref bb), (.ref a1)])) rfl rfl (hb hby own_d1_14)
  have E_a1 := E_a1.wr W5
  have F_w := F_w.same W5
  have V_bb := V_bb.other W5 (Ne.symm ne_a1_bb)
  have K6 := K3.wr W5 (Or.inl (List.mem_of_getElem? (i := 0) rfl))
  have Z7 := Nat.le_trans Z4 (Keep.of_wr W5).1
  have N8 := Fr.snoc X5 N0 g_a1
  obtain ⟨fs, hr, hrun, hended, hW, hsame⟩ := X5.leave (v := none) (fun _ => rfl) (BodyLoose.notSynchronized Bd)
  refine ⟨_, _, pre0 _ ?_, hrun, hended, _, _, rfl, ?_, ⟨_, rfl⟩, hW, hsame.mono (by decide) (by decide)⟩
  · skip
    show Steps p.tables e below (s₁.setTop (mkF m 0 #[.val (.ref a1), .val (.int p2)] [])) _
    refine XS.aloadN X0.here hx rfl (hb hby own_d1_0) rfl rfl ?_
    show Steps p.tables e below (s₁.setTop (mkF m 1 #[.val (.ref a1), .val (.int p2)] [(.ref a1)])) _
    refine st1 _ ?_
    show Steps p.tables e below (T1.setTop (mkF m 4 #[.val (.ref a1), .val (.int p2)] [])) _
    refine XS.aloadN X1.here hx rfl (hb hby own_d1_4) rfl rfl ?_
    show Steps p.tables e below (T1.setTop (mkF m 5 #[.val (.ref a1), .val (.int p2)] [(.ref a1)])) _
    refine XS.iloadN X1.here hx rfl (hb hby own_d1_5) rfl ?_
    show Steps p.tables e below (T1.setTop (mkF m 6 #[.val (.ref a1), .val (.int p2)] [(.int p2), (.ref a1)])) _
    refine XS.bipush X1.here hx rfl (hb hby own_d1_6) ?_
    show Steps p.tables e below (T1.setTop (mkF m 8 #[.val (.ref a1), .val (.int p2)] [(.int (63 : Int32)), (.int p2), (.ref a1)])) _
    refine XS.iadd X1.here hx rfl (hb hby own_d1_8) rfl ?_
    show Steps p.tables e below (T1.setTop (mkF m 9 #[.val (.ref a1), .val (.int p2)] [(.int (p2 + (63 : Int32))), (.ref a1)])) _
    refine XS.bipush X1.here hx rfl (hb hby own_d1_9) ?_
    show Steps p.tables e below (T1.setTop (mkF m 11 #[.val (.ref a1), .val (.int p2)] [(.int (6 : Int32)), (.int (p2 + (63 : Int32))), (.ref a1)])) _
    refine XS.iushr X1.here hx rfl (hb hby own_d1_11) rfl ?_
    show Steps p.tables e below (T1.setTop (mkF m 12 #[.val (.ref a1), .val (.int p2)] [(.int (((p2 + (63 : Int32)).toUInt32 >>> ((6 : Int32) &&& 31).toUInt32).toInt32)), (.ref a1)])) _
    refine st2 _ ?_
    show Steps p.tables e below (T2.setTop (mkF m 14 #[.val (.ref a1), .val (.int p2)] [(.ref bb), (.ref a1)])) _
    refine st5 _ ?_
    show Steps p.tables e below (T5.setTop (mkF m 17 #[.val (.ref a1), .val (.int p2)] [])) _
    exact X5.returnOut hx Bd.returns (hb hby own_d1_17) hr
  · show own_Q1 Z a1 p2 nw h0 n0 _ T5.heap _
    rw [e5]
    exact ⟨rfl, N8, K6, E_a1, bb, F_w, g_bb, sz_bb, V_bb⟩
theorem own_d3_0 : decode prog_110_method_2_code 0 = .ok (.aload_n 0, 1) := by decide +kernel
theorem own_d3_1 : decode prog_110_method_2_code 1 = .ok (.getfield 7, 3) := by decide +kernel
theorem own_d3_4 : decode prog_110_method_2_code 4 = .ok (.iload_n 1, 1) := by decide +kernel
theorem own_d3_5 : decode prog_110_method_2_code 5 = .ok (.bipush 6, 2) := by decide +kernel
theorem own_d3_7 : decode prog_110_method_2_code 7 = .ok (.iushr, 1) := by decide +kernel
theorem own_d3_8 : decode prog_110_method_2_code 8 = .ok (.laload, 1) := by decide +kernel
theorem own_d3_9 : decode prog_110_method_2_code 9 = .ok (.lconst 1, 1) := by decide +kernel
theorem own_d3_10 : decode prog_110_method_2_code 10 = .ok (.iload_n 1, 1) := by decide +kernel
theorem own_d3_11 : decode prog_110_method_2_code 11 = .ok (.lshl, 1) := by decide +kernel
theorem own_d3_12 : decode prog_110_method_2_code 12 = .ok (.land, 1) := by decide +kernel
theorem own_d3_13 : decode prog_110_method_2_code 13 = .ok (.lconst 0, 1) := by decide +kernel
theorem own_d3_14 : decode prog_110_method_2_code 14 = .ok (.lcmp, 1) := by decide +kernel
theorem own_d3_15 : decode prog_110_method_2_code 15 = .ok (.ifCond .eq 7, 3) := by decide +kernel
theorem own_d3_18 : decode prog_110_method_2_code 18 = .ok (.iconst 1, 1) := by decide +kernel
theorem own_d3_19 : decode prog_110_method_2_code 19 = .ok (.goto 4, 3) := by decide +kernel
theorem own_d3_22 : decode prog_110_method_2_code 22 = .ok (.iconst 0, 1) := by decide +kernel
theorem own_d3_23 : decode prog_110_method_2_code 23 = .ok (.ireturn, 1) := by decide +kernel
theorem own_ef3 (m : MethodId) (x0 : Addr) (x1 : Int32) : entryFrame m #[(.ref x0), (.int x1)] 2 = mkF m 0 #[.val (.ref x0), .val (.int x1)] [] := by first | (simp [entryFrame, mkF, argsToLocals, Value.category]; done) | rfl
def own_Q3 (Z : State) (a1 : Addr) (i : Nat) (bw : Addr) (nw : Nat) (ws1 : Nat → Int64) (bv : Bool) (h0 : Heap) (n0 : Nat) (v : Option Value) (h : Heap) (L : List Loc) : Prop := v = some (.int (if bv = true then (1 : Int32) else 0)) ∧ Fr n0 L ∧ h = h0
set_option maxRecDepth 65536 in
set_option maxHeartbeats 40000000 in
theorem own_rm3 (l : Launch) (Z : State) (a0 : Array Value) (hw : ∀ d ∈ tables_1, d.before a0 Z = true) (ws : List Jvm.Cond) (a1 : Addr) (i : Nat) (bw : Addr) (nw : Nat) (ws1 : Nat → Int64) (bv : Bool) (h0 : Heap) (n0 : Nat) (Z0 : n0 ≤ h0.size) (F_w : Fld Z h0 a1 "com/example/ulebb/ulebb/dex/OffsetBits" "words" "[J" (.ref bw)) (V_bw : own_AF Z h0 bw .long nw (fun k => .long (ws1 k))) (hi : i < 2 ^ 31) (hlt : i / 64 < nw) (hbv : own_in ws1 i = bv) :
    MetFree l (⟨"com/example/ulebb/ulebb/dex/OffsetBits", "contains", "(I)Z"⟩ : MethodName) (head1 (Jvm.Cond.code (⟨"com/example/ulebb/ulebb/dex/OffsetBits", "contains", "(I)Z"⟩ : MethodName) prog_110_method_2_code 2 (some .boolean) :: ws) ({ frames := 0, cells := 0, slots := 0, locals := 0 } : Room)) (fun a U => a = #[(.ref a1), (.int (Int32.ofNat i))] ∧ Z.Warmed39 U.vm ∧ U.heap = h0) (fun _ _ _ _ _ => True) (fun _ U o U' => ∃ v L, o = .returned v ∧ own_Q3 Z a1 i bw nw ws1 bv h0 n0 v U'.heap L ∧ FrameEnd U o U' L ({ frames := 0, cells := 0, slots := 0, locals := 0 } : Room).cells ({ frames := 0, cells := 0, slots := 0, locals := 0 } : Room).slots) := by
  refine MetFree.of_bodySF (plainFor_of_name own_pn0) hisR ?_
  intro p e s m args below meth c s₁ Bd hml0 hP hK
  obtain ⟨rfl, hZ, hh⟩ := hP
  have hx := Bd.exec
  have hby := Bd.bytes
  have hml : c.maxLocals = 2 := hml0
  have hown : s.vm.findClass "com/example/ulebb/ulebb/dex/OffsetBits" = some m.cls := findClass_of_methodNamed Bd.named
  have hnm := (name_of_methodNamed Bd.named Bd.method).1
  have X0 : Stand p l e ({ frames := 0, cells := 0, slots := 0, locals := 0 } : Room) s m #[(.ref a1), (.int (Int32.ofNat i))] below meth c s₁ [] 0 0 := Stand.of_body Bd
  have e0 : s₁.heap = h0 := by rw [← hh, Bd.state]; rfl
  have N0 := Fr.nil n0
  have K0 := Keep.refl h0 []
  have pre0 : ∀ t, Steps p.tables e below (s₁.setTop (mkF m 0 #[.val (.ref a1), .val (.int (Int32.ofNat i))] [])) t → Steps p.tables e below (s₁.setTop (entryFrame m #[(.ref a1), (.int (Int32.ofNat i))] 2)) t := fun t kt0 => castTop (own_ef3 m (a1) ((Int32.ofNat i))) kt0
  obtain ⟨T1, X1, e1, st1⟩ := getF X0 hx hZ hown (host := "") (Or.inl (hw _ (List.mem_of_getElem? (i := 11) rfl))) Via.refl e0 F_w (g := (mkF m 1 #[.val (.ref a1), .val (.int (Int32.ofNat i))] [(.ref a1)])) rfl rfl (hb hby own_d3_1)
  have ld2 := (own_ldJ X1 hx hZ e1 V_bw (j := (((Int32.ofNat i).toUInt32 >>> ((6 : Int32) &&& 31).toUInt32).toInt32)) (own_jx hi).1 (k := (i / 64)) (own_jx hi).2 hlt (v := (.long (ws1 (i / 64)))) rfl (g := (mkF m 8 #[.val (.ref a1), .val (.int (Int32.ofNat i))] [(.int (((Int32.ofNat i).toUInt32 >>> ((6 : Int32) &&& 31).toUInt32).toInt32)), (.ref bw)])) rfl rfl (hb hby own_d3_8))
  have pre3 : ∀ t, Steps p.tables e below (T1.setTop (mkF m 15 #[.val (.ref a1), .val (.int (Int32.ofNat i))] [(.int (lcmpW ((ws1 (i / 64)) &&& ((1 : Int64) <<< ((Int32.ofNat i) &&& 0x3f).toInt64)) (0 : Int64)))])) t → Steps p.tables e below (s₁.setTop (entryFrame m #[(.ref a1), (.int (Int32.ofNat i))] 2)) t := by
    intro t kt
    refine pre0 t ?_
    show Steps p.tables e below (s₁.setTop (mkF m 0 #[.val (.ref a1), .val (.int (Int32.ofNat i))] [])) _
    refine XS.aloadN X0.here hx rfl (hb hby own_d3_0) rfl rfl ?_
    show Steps p.tables e below (s₁.setTop (mkF m 1 #[.val (.ref a1), .val (.int (Int32.ofNat i))] [(.ref a1)])) _
    refine st1 _ ?_
    show Steps p.tables e below (T1.setTop (mkF m 4 #[.val (.ref a1), .val (.int (Int32.ofNat i))] [(.ref bw)])) _
    refine XS.iloadN X1.here hx rfl (hb hby own_d3_4) rfl ?_
    show Steps p.tables e below (T1.setTop (mkF m 5 #[.val (.ref a1), .val (.int (Int32.ofNat i))] [(.int (Int32.ofNat i)), (.ref bw)])) _
    refine XS.bipush X1.here hx rfl (hb hby own_d3_5) ?_
    show Steps p.tables e below (T1.setTop (mkF m 7 #[.val (.ref a1), .val (.int (Int32.ofNat i))] [(.int (6 : Int32)), (.int (Int32.ofNat i)), (.ref bw)])) _
    refine XS.iushr X1.here hx rfl (hb hby own_d3_7) rfl ?_
    show Steps p.tables e below (T1.setTop (mkF m 8 #[.val (.ref a1), .val (.int (Int32.ofNat i))] [(.int (((Int32.ofNat i).toUInt32 >>> ((6 : Int32) &&& 31).toUInt32).toInt32)), (.ref bw)])) _
    refine ld2 _ ?_
    show Steps p.tables e below (T1.setTop (mkF m 9 #[.val (.ref a1), .val (.int (Int32.ofNat i))] [(.long (ws1 (i / 64)))])) _
    refine XS.lconst X1.here hx rfl (hb hby own_d3_9) ?_
    show Steps p.tables e below (T1.setTop (mkF m 10 #[.val (.ref a1), .val (.int (Int32.ofNat i))] [(.long (1 : Int64)), (.long (ws1 (i / 64)))])) _
    refine XS.iloadN X1.here hx rfl (hb hby own_d3_10) rfl ?_
    show Steps p.tables e below (T1.setTop (mkF m 11 #[.val (.ref a1), .val (.int (Int32.ofNat i))] [(.int (Int32.ofNat i)), (.long (1 : Int64)), (.long (ws1 (i / 64)))])) _
    refine XS.lshl X1.here hx rfl (hb hby own_d3_11) rfl ?_
    show Steps p.tables e below (T1.setTop (mkF m 12 #[.val (.ref a1), .val (.int (Int32.ofNat i))] [(.long ((1 : Int64) <<< ((Int32.ofNat i) &&& 0x3f).toInt64)), (.long (ws1 (i / 64)))])) _
    refine XS.land X1.here hx rfl (hb hby own_d3_12) rfl ?_
    show Steps p.tables e below (T1.setTop (mkF m 13 #[.val (.ref a1), .val (.int (Int32.ofNat i))] [(.long ((ws1 (i / 64)) &&& ((1 : Int64) <<< ((Int32.ofNat i) &&& 0x3f).toInt64)))])) _
    refine XS.lconst X1.here hx rfl (hb hby own_d3_13) ?_
    show Steps p.tables e below (T1.setTop (mkF m 14 #[.val (.ref a1), .val (.int (Int32.ofNat i))] [(.long (0 : Int64)), (.long ((ws1 (i / 64)) &&& ((1 : Int64) <<< ((Int32.ofNat i) &&& 0x3f).toInt64)))])) _
    refine XS.lcmp X1.here hx rfl (hb hby own_d3_14) rfl ?_
    exact kt
  by_cases hc15 : ((ws1 (i / 64)) &&& ((1 : Int64) <<< ((Int32.ofNat i) &&& 0x3f).toInt64)) = (0 : Int64)
  case pos =>
    obtain ⟨fs, hr, hrun, hended, hW, hsame⟩ := X1.leave (v := some (.int (0 : Int32))) (fun h => by rw [Bd.returns] at h; cases h) (BodyLoose.notSynchronized Bd)
    refine ⟨_, _, pre3 _ ?_, hrun, hended, _, _, rfl, ?_, ⟨_, rfl⟩, hW, hsame.mono (by decide) (by decide)⟩
    · skip
      show Steps p.tables e below (T1.setTop (mkF m 15 #[.val (.ref a1), .val (.int (Int32.ofNat i))] [(.int (lcmpW ((ws1 (i / 64)) &&& ((1 : Int64) <<< ((Int32.ofNat i) &&& 0x3f).toInt64)) (0 : Int64)))])) _
      refine XS.ifYes X1.here hx rfl (pc0 := 15) (pc' := 22) rfl (hb hby own_d3_15) rfl ((if0 _ _).trans (teq ((lw_eq ((ws1 (i / 64)) &&& ((1 : Int64) <<< ((Int32.ofNat i) &&& 0x3f).toInt64)) (0 : Int64)).mpr hc15)).1) (by decide) (by decide) ?_
      show Steps p.tables e below (T1.setTop (mkF m 22 #[.val (.ref a1), .val (.int (Int32.ofNat i))] [])) _
      refine XS.iconst X1.here hx rfl (hb hby own_d3_22) ?_
      show Steps p.tables e below (T1.setTop (mkF m 23 #[.val (.ref a1), .val (.int (Int32.ofNat i))] [(.int (0 : Int32))])) _
      exact retN X1 hx (t := .boolean) Bd.returns (by simp) (hb hby own_d3_23) hr
    · show own_Q3 Z a1 i bw nw ws1 bv h0 n0 _ T1.heap _
      rw [e1]
      refine ⟨?_, N0, rfl⟩
      have q : bv = false := hbv.symm.trans ((own_tst _ hi).mp hc15)
      rw [q]; rfl
  case neg =>
    obtain ⟨fs, hr, hrun, hended, hW, hsame⟩ := X1.leave (v := some (.int (1 : Int32))) (fun h => by rw [Bd.returns] at h; cases h) (BodyLoose.notSynchronized Bd)
    refine ⟨_, _, pre3 _ ?_, hrun, hended, _, _, rfl, ?_, ⟨_, rfl⟩, hW, hsame.mono (by decide) (by decide)⟩
    · skip
      show Steps p.tables e below (T1.setTop (mkF m 15 #[.val (.ref a1), .val (.int (Int32.ofNat i))] [(.int (lcmpW ((ws1 (i / 64)) &&& ((1 : Int64) <<< ((Int32.ofNat i) &&& 0x3f).toInt64)) (0 : Int64)))])) _
      refine XS.ifNo X1.here hx rfl (hb hby own_d3_15) rfl ((if0 _ _).trans (feq (fun q => hc15 ((lw_eq ((ws1 (i / 64)) &&& ((1 : Int64) <<< ((Int32.ofNat i) &&& 0x3f).toInt64)) (0 : Int64)).mp q))).1) ?_
      show Steps p.tables e below (T1.setTop (mkF m 18 #[.val (.ref a1), .val (.int (Int32.ofNat i))] [])) _
      refine XS.iconst X1.here hx rfl (hb hby own_d3_18) ?_
      show Steps p.tables e below (T1.setTop (mkF m 19 #[.val (.ref a1), .val (.int (Int32.ofNat i))] [(.int (1 : Int32))])) _
      refine XS.goto X1.here hx rfl (pc0 := 19) (pc' := 23) rfl (hb hby own_d3_19) (by decide) (by decide) ?_
      show Steps p.tables e below (T1.setTop (mkF m 23 #[.val (.ref a1), .val (.int (Int32.ofNat i))] [(.int (1 : Int32))])) _
      exact retN X1 hx (t := .boolean) Bd.returns (by simp) (hb hby own_d3_23) hr
    · show own_Q3 Z a1 i bw nw ws1 bv h0 n0 _ T1.heap _
      rw [e1]
      refine ⟨?_, N0, rfl⟩
      have q : bv = true := hbv.symm.trans (Bool.of_not_eq_false fun q => hc15 ((own_tst _ hi).mpr q))
      rw [q]; rfl
theorem own_d4_0 : decode prog_110_method_3_code 0 = .ok (.lconst 1, 1) := by decide +kernel
theorem own_d4_1 : decode prog_110_method_3_code 1 = .ok (.iload_n 1, 1) := by decide +kernel
theorem own_d4_2 : decode prog_110_method_3_code 2 = .ok (.lshl, 1) := by decide +kernel
theorem own_d4_3 : decode prog_110_method_3_code 3 = .ok (.lstore_n 2, 1) := by decide +kernel
theorem own_d4_4 : decode prog_110_method_3_code 4 = .ok (.aload_n 0, 1) := by decide +kernel
theorem own_d4_5 : decode prog_110_method_3_code 5 = .ok (.getfield 7, 3) := by decide +kernel
theorem own_d4_8 : decode prog_110_method_3_code 8 = .ok (.iload_n 1, 1) := by decide +kernel
theorem own_d4_9 : decode prog_110_method_3_code 9 = .ok (.bipush 6, 2) := by decide +kernel
theorem own_d4_11 : decode prog_110_method_3_code 11 = .ok (.iushr, 1) := by decide +kernel
theorem own_d4_12 : decode prog_110_method_3_code 12 = .ok (.laload, 1) := by decide +kernel
theorem own_d4_13 : decode prog_110_method_3_code 13 = .ok (.lload_n 2, 1) := by decide +kernel
theorem own_d4_14 : decode prog_110_method_3_code 14 = .ok (.land, 1) := by decide +kernel
theorem own_d4_15 : decode prog_110_method_3_code 15 = .ok (.lconst 0, 1) := by decide +kernel
theorem own_d4_16 : decode prog_110_method_3_code 16 = .ok (.lcmp, 1) := by decide +kernel
theorem own_d4_17 : decode prog_110_method_3_code 17 = .ok (.ifCond .ne 7, 3) := by decide +kernel
theorem own_d4_20 : decode prog_110_method_3_code 20 = .ok (.iconst 1, 1) := by decide +kernel
theorem own_d4_21 : decode prog_110_method_3_code 21 = .ok (.goto 4, 3) := by decide +kernel
theorem own_d4_24 : decode prog_110_method_3_code 24 = .ok (.iconst 0, 1) := by decide +kernel
theorem own_d4_25 : decode prog_110_method_3_code 25 = .ok (.istore 4, 2) := by decide +kernel
theorem own_d4_27 : decode prog_110_method_3_code 27 = .ok (.aload_n 0, 1) := by decide +kernel
theorem own_d4_28 : decode prog_110_method_3_code 28 = .ok (.getfield 7, 3) := by decide +kernel
theorem own_d4_31 : decode prog_110_method_3_code 31 = .ok (.iload_n 1, 1) := by decide +kernel
theorem own_d4_32 : decode prog_110_method_3_code 32 = .ok (.bipush 6, 2) := by decide +kernel
theorem own_d4_34 : decode prog_110_method_3_code 34 = .ok (.iushr, 1) := by decide +kernel
theorem own_d4_35 : decode prog_110_method_3_code 35 = .ok (.dup2, 1) := by decide +kernel
theorem own_d4_36 : decode prog_110_method_3_code 36 = .ok (.laload, 1) := by decide +kernel
theorem own_d4_37 : decode prog_110_method_3_code 37 = .ok (.lload_n 2, 1) := by decide +kernel
theorem own_d4_38 : decode prog_110_method_3_code 38 = .ok (.lor, 1) := by decide +kernel
theorem own_d4_39 : decode prog_110_method_3_code 39 = .ok (.lastore, 1) := by decide +kernel
theorem own_d4_40 : decode prog_110_method_3_code 40 = .ok (.iload 4, 2) := by decide +kernel
theorem own_d4_42 : decode prog_110_method_3_code 42 = .ok (.ireturn, 1) := by decide +kernel
theorem own_ef4 (m : MethodId) (x0 : Addr) (x1 : Int32) : entryFrame m #[(.ref x0), (.int x1)] 5 = mkF m 0 #[.val (.ref x0), .val (.int x1), .unset, .unset, .unset] [] := by first | (simp [entryFrame, mkF, argsToLocals, Value.category]; done) | rfl
def own_Q4 (Z : State) (a1 : Addr) (i : Nat) (bw : Addr) (nw : Nat) (ws1 : Nat → Int64) (bv : Bool) (h0 : Heap) (n0 : Nat) (v : Option Value) (h : Heap) (L : List Loc) : Prop := ∃ ws2 : Nat → Int64, v = some (.int (if bv = true then (0 : Int32) else 1)) ∧ Fr n0 L ∧ Keep h0 h [bw] ∧ own_AF Z h bw .long nw (fun k => .long (ws2 k)) ∧ ∀ k, own_in ws2 k = (own_in ws1 k || decide (k = i))
set_option maxRecDepth 65536 in
set_option maxHeartbeats 40000000 in
theorem own_rm4 (l : Launch) (Z : State) (a0 : Array Value) (hw : ∀ d ∈ tables_1, d.before a0 Z = true) (ws : List Jvm.Cond) (a1 : Addr) (i : Nat) (bw : Addr) (nw : Nat) (ws1 : Nat → Int64) (bv : Bool) (h0 : Heap) (n0 : Nat) (Z0 : n0 ≤ h0.size) (F_w : Fld Z h0 a1 "com/example/ulebb/ulebb/dex/OffsetBits" "words" "[J" (.ref bw)) (V_bw : own_AF Z h0 bw .long nw (fun k => .long (ws1 k))) (hi : i < 2 ^ 31) (hlt : i / 64 < nw) (hbv : own_in ws1 i = bv) (g_bw : n0 ≤ bw) (neab : a1 ≠ bw) :
    MetFree l (⟨"com/example/ulebb/ulebb/dex/OffsetBits", "add", "(I)Z"⟩ : MethodName) (head1 (Jvm.Cond.code (⟨"com/example/ulebb/ulebb/dex/OffsetBits", "add", "(I)Z"⟩ : MethodName) prog_110_method_3_code 5 (some .boolean) :: ws) ({ frames := 0, cells := 0, slots := 0, locals := 0 } : Room)) (fun a U => a = #[(.ref a1), (.int (Int32.ofNat i))] ∧ Z.Warmed39 U.vm ∧ U.heap = h0) (fun _ _ _ _ _ => True) (fun _ U o U' => ∃ v L, o = .returned v ∧ own_Q4 Z a1 i bw nw ws1 bv h0 n0 v U'.heap L ∧ FrameEnd U o U' L ({ frames := 0, cells := 0, slots := 0, locals := 0 } : Room).cells ({ frames := 0, cells := 0, slots := 0, locals := 0 } : Room).slots) := by
  refine MetFree.of_bodySF (plainFor_of_name own_pn0) hisR ?_
  intro p e s m args below meth c s₁ Bd hml0 hP hK
  obtain ⟨rfl, hZ, hh⟩ := hP
  have hx := Bd.exec
  have hby := Bd.bytes
  have hml : c.maxLocals = 5 := hml0
  have hown : s.vm.findClass "com/example/ulebb/ulebb/dex/OffsetBits" = some m.cls := findClass_of_methodNamed Bd.named
  have hnm := (name_of_methodNamed Bd.named Bd.method).1
  have X0 : Stand p l e ({ frames := 0, cells := 0, slots := 0, locals := 0 } : Room) s m #[(.ref a1), (.int (Int32.ofNat i))] below meth c s₁ [] 0 0 := Stand.of_body Bd
  have e0 : s₁.heap = h0 := by rw [← hh, Bd.state]; rfl
  have N0 := Fr.nil n0
  have K0 := Keep.refl h0 [bw]
  have pre0 : ∀ t, Steps p.tables e below (s₁.setTop (mkF m 0 #[.val (.ref a1), .val (.int (Int32.ofNat i)), .unset, .unset, .unset] [])) t → Steps p.tables e below (s₁.setTop (entryFrame m #[(.ref a1), (.int (Int32.ofNat i))] 5)) t := fun t kt0 => castTop (own_ef4 m (a1) ((Int32.ofNat i))) kt0
  obtain ⟨T1, X1, e1, st1⟩ := getF X0 hx hZ hown (host := "") (Or.inl (hw _ (List.mem_of_getElem? (i := 11) rfl))) Via.refl e0 F_w (g := (mkF m 5 #[.val (.ref a1), .val (.int (Int32.ofNat i)), .val (.long ((1 : Int64) <<< ((Int32.ofNat i) &&& 0x3f).toInt64)), .second, .unset] [(.ref a1)])) rfl rfl (hb hby own_d4_5)
  have ld2 := (own_ldJ X1 hx hZ e1 V_bw (j := (((Int32.ofNat i).toUInt32 >>> ((6 : Int32) &&& 31).toUInt32).toInt32)) (own_jx hi).1 (k := (i / 64)) (own_jx hi).2 hlt (v := (.long (ws1 (i / 64)))) rfl (g := (mkF m 12 #[.val (.ref a1), .val (.int (Int32.ofNat i)), .val (.long ((1 : Int64) <<< ((Int32.ofNat i) &&& 0x3f).toInt64)), .second, .unset] [(.int (((Int32.ofNat i).toUInt32 >>> ((6 : Int32) &&& 31).toUInt32).toInt32)), (.ref bw)])) rfl rfl (hb hby own_d4_12))
  have pre3 : ∀ t, Steps p.tables e below (T1.setTop (mkF m 17 #[.val (.ref a1), .val (.int (Int32.ofNat i)), .val (.long ((1 : Int64) <<< ((Int32.ofNat i) &&& 0x3f).toInt64)), .second, .unset] [(.int (lcmpW ((ws1 (i / 64)) &&& ((1 : Int64) <<< ((Int32.ofNat i) &&& 0x3f).toInt64)) (0 : Int64)))])) t → Steps p.tables e below (s₁.setTop (entryFrame m #[(.ref a1), (.int (Int32.ofNat i))] 5)) t := by
    intro t kt
    refine pre0 t ?_
    show Steps p.tables e below (s₁.setTop (mkF m 0 #[.val (.ref a1), .val (.int (Int32.ofNat i)), .unset, .unset, .unset] [])) _
    refine XS.lconst X0.here hx rfl (hb hby own_d4_0) ?_
    show Steps p.tables e below (s₁.setTop (mkF m 1 #[.val (.ref a1), .val (.int (Int32.ofNat i)), .unset, .unset, .unset] [(.long (1 : Int64))])) _
    refine XS.iloadN X0.here hx rfl (hb hby own_d4_1) rfl ?_
    show Steps p.tables e below (s₁.setTop (mkF m 2 #[.val (.ref a1), .val (.int (Int32.ofNat i)), .unset, .unset, .unset] [(.int (Int32.ofNat i)), (.long (1 : Int64))])) _
    refine XS.lshl X0.here hx rfl (hb hby own_d4_2) rfl ?_
    show Steps p.tables e below (s₁.setTop (mkF m 3 #[.val (.ref a1), .val (.int (Int32.ofNat i)), .unset, .unset, .unset] [(.long ((1 : Int64) <<< ((Int32.ofNat i) &&& 0x3f).toInt64))])) _
    refine XS.lstoreN X0.here hx rfl (hb hby own_d4_3) rfl (l' := #[.val (.ref a1), .val (.int (Int32.ofNat i)), .val (.long ((1 : Int64) <<< ((Int32.ofNat i) &&& 0x3f).toInt64)), .second, .unset]) rfl ?_
    show Steps p.tables e below (s₁.setTop (mkF m 4 #[.val (.ref a1), .val (.int (Int32.ofNat i)), .val (.long ((1 : Int64) <<< ((Int32.ofNat i) &&& 0x3f).toInt64)), .second, .unset] [])) _
    refine XS.aloadN X0.here hx rfl (hb hby own_d4_4) rfl rfl ?_
    show Steps p.tables e below (s₁.setTop (mkF m 5 #[.val (.ref a1), .val (.int (Int32.ofNat i)), .val (.long ((1 : Int64) <<< ((Int32.ofNat i) &&& 0x3f).toInt64)), .second, .unset] [(.ref a1)])) _
    refine st1 _ ?_
    show Steps p.tables e below (T1.setTop (mkF m 8 #[.val (.ref a1), .val (.int (Int32.ofNat i)), .val (.long ((1 : Int64) <<< ((Int32.ofNat i) &&& 0x3f).toInt64)), .second, .unset] [(.ref bw)])) _
    refine XS.iloadN X1.here hx rfl (hb hby own_d4_8) rfl ?_
    show Steps p.tables e below (T1.setTop (mkF m 9 #[.val (.ref a1), .val (.int (Int32.ofNat i)), .val (.long ((1 : Int64) <<< ((Int32.ofNat i) &&& 0x3f).toInt64)), .second, .unset] [(.int (Int32.ofNat i)), (.ref bw)])) _
    refine XS.bipush X1.here hx rfl (hb hby own_d4_9) ?_
    show Steps p.tables e below (T1.setTop (mkF m 11 #[.val (.ref a1), .val (.int (Int32.ofNat i)), .val (.long ((1 : Int64) <<< ((Int32.ofNat i) &&& 0x3f).toInt64)), .second, .unset] [(.int (6 : Int32)), (.int (Int32.ofNat i)), (.ref bw)])) _
    refine XS.iushr X1.here hx rfl (hb hby own_d4_11) rfl ?_
    show Steps p.tables e below (T1.setTop (mkF m 12 #[.val (.ref a1), .val (.int (Int32.ofNat i)), .val (.long ((1 : Int64) <<< ((Int32.ofNat i) &&& 0x3f).toInt64)), .second, .unset] [(.int (((Int32.ofNat i).toUInt32 >>> ((6 : Int32) &&& 31).toUInt32).toInt32)), (.ref bw)])) _
    refine ld2 _ ?_
    show Steps p.tables e below (T1.setTop (mkF m 13 #[.val (.ref a1), .val (.int (Int32.ofNat i)), .val (.long ((1 : Int64) <<< ((Int32.ofNat i) &&& 0x3f).toInt64)), .second, .unset] [(.long (ws1 (i / 64)))])) _
    refine XS.lloadN X1.here hx rfl (hb hby own_d4_13) rfl ?_
    show Steps p.tables e below (T1.setTop (mkF m 14 #[.val (.ref a1), .val (.int (Int32.ofNat i)), .val (.long ((1 : Int64) <<< ((Int32.ofNat i) &&& 0x3f).toInt64)), .second, .unset] [(.long ((1 : Int64) <<< ((Int32.ofNat i) &&& 0x3f).toInt64)), (.long (ws1 (i / 64)))])) _
    refine XS.land X1.here hx rfl (hb hby own_d4_14) rfl ?_
    show Steps p.tables e below (T1.setTop (mkF m 15 #[.val (.ref a1), .val (.int (Int32.ofNat i)), .val (.long ((1 : Int64) <<< ((Int32.ofNat i) &&& 0x3f).toInt64)), .second, .unset] [(.long ((ws1 (i / 64)) &&& ((1 : Int64) <<< ((Int32.ofNat i) &&& 0x3f).toInt64)))])) _
    refine XS.lconst X1.here hx rfl (hb hby own_d4_15) ?_
    show Steps p.tables e below (T1.setTop (mkF m 16 #[.val (.ref a1), .val (.int (Int32.ofNat i)), .val (.long ((1 : Int64) <<< ((Int32.ofNat i) &&& 0x3f).toInt64)), .second, .unset] [(.long (0 : Int64)), (.long ((ws1 (i / 64)) &&& ((1 : Int64) <<< ((Int32.ofNat i) &&& 0x3f).toInt64)))])) _
    refine XS.lcmp X1.here hx rfl (hb hby own_d4_16) rfl ?_
    exact kt
  by_cases hc17 : ((ws1 (i / 64)) &&& ((1 : Int64) <<< ((Int32.ofNat i) &&& 0x3f).toInt64)) = (0 : Int64)
  case pos =>
    obtain ⟨T4, X4, e4, st4⟩ := getF X1 hx hZ hown (host := "") (Or.inl (hw _ (List.mem_of_getElem? (i := 11) rfl))) Via.refl e1 F_w (g := (mkF m 28 #[.val (.ref a1), .val (.int (Int32.ofNat i)), .val (.long ((1 : Int64) <<< ((Int32.ofNat i) &&& 0x3f).toInt64)), .second, .val (.int (1 : Int32))] [(.ref a1)])) rfl rfl (hb hby own_d4_28)
    have ld5 := (own_ldJ X4 hx hZ e4 V_bw (j := (((Int32.ofNat i).toUInt32 >>> ((6 : Int32) &&& 31).toUInt32).toInt32)) (own_jx hi).1 (k := (i / 64)) (own_jx hi).2 hlt (v := (.long (ws1 (i / 64)))) rfl (g := (mkF m 36 #[.val (.ref a1), .val (.int (Int32.ofNat i)), .val (.long ((1 : Int64) <<< ((Int32.ofNat i) &&& 0x3f).toInt64)), .second, .val (.int (1 : Int32))] [(.int (((Int32.ofNat i).toUInt32 >>> ((6 : Int32) &&& 31).toUInt32).toInt32)), (.ref bw), (.int (((Int32.ofNat i).toUInt32 >>> ((6 : Int32) &&& 31).toUInt32).toInt32)), (.ref bw)])) rfl rfl (hb hby own_d4_36))
    obtain ⟨T6, h6, X6, e6, W6, V6, st6⟩ := own_stJ X4 hx hZ e4 V_bw (j := (((Int32.ofNat i).toUInt32 >>> ((6 : Int32) &&& 31).toUInt32).toInt32)) (own_jx hi).1 (k := (i / 64)) (own_jx hi).2 hlt (g := (mkF m 39 #[.val (.ref a1), .val (.int (Int32.ofNat i)), .val (.long ((1 : Int64) <<< ((Int32.ofNat i) &&& 0x3f).toInt64)), .second, .val (.int (1 : Int32))] [(.long ((ws1 (i / 64)) ||| ((1 : Int64) <<< ((Int32.ofNat i) &&& 0x3f).toInt64))), (.int (((Int32.ofNat i).toUInt32 >>> ((6 : Int32) &&& 31).toUInt32).toInt32)), (.ref bw)])) rfl rfl (hb hby own_d4_39)
    have F_w := F_w.other W6 (Or.inl neab)
    have K7 := K0.wr W6 (Or.inl (List.mem_of_getElem? (i := 0) rfl))
    have Z8 := Nat.le_trans Z0 (Keep.of_wr W6).1
    have N9 := Fr.snoc X6 N0 g_bw
    have V_bw := V6
    obtain ⟨fs, hr, hrun, hended, hW, hsame⟩ := X6.leave (v := some (.int (1 : Int32))) (fun h => by rw [Bd.returns] at h; cases h) (BodyLoose.notSynchronized Bd)
    refine ⟨_, _, pre3 _ ?_, hrun, hended, _, _, rfl, ?_, ⟨_, rfl⟩, hW, hsame.mono (by decide) (by decide)⟩
    · skip
      show Steps p.tables e below (T1.setTop (mkF m 17 #[.val (.ref a1), .val (.int (Int32.ofNat i)), .val (.long ((1 : Int64) <<< ((Int32.ofNat i) &&& 0x3f).toInt64)), .second, .unset] [(.int (lcmpW ((ws1 (i / 64)) &&& ((1 : Int64) <<< ((Int32.ofNat i) &&& 0x3f).toInt64)) (0 : Int64)))])) _
      refine XS.ifNo X1.here hx rfl (hb hby own_d4_17) rfl ((if0 _ _).trans (teq ((lw_eq ((ws1 (i / 64)) &&& ((1 : Int64) <<< ((Int32.ofNat i) &&& 0x3f).toInt64)) (0 : Int64)).mpr hc17)).2) ?_
      show Steps p.tables e below (T1.setTop (mkF m 20 #[.val (.ref a1), .val (.int (Int32.ofNat i)), .val (.long ((1 : Int64) <<< ((Int32.ofNat i) &&& 0x3f).toInt64)), .second, .unset] [])) _
      refine XS.iconst X1.here hx rfl (hb hby own_d4_20) ?_
      show Steps p.tables e below (T1.setTop (mkF m 21 #[.val (.ref a1), .val (.int (Int32.ofNat i)), .val (.long ((1 : Int64) <<< ((Int32.ofNat i) &&& 0x3f).toInt64)), .second, .unset] [(.int (1 : Int32))])) _
      refine XS.goto X1.here hx rfl (pc0 := 21) (pc' := 25) rfl (hb hby own_d4_21) (by decide) (by decide) ?_
      show Steps p.tables e below (T1.setTop (mkF m 25 #[.val (.ref a1), .val (.int (Int32.ofNat i)), .val (.long ((1 : Int64) <<< ((Int32.ofNat i) &&& 0x3f).toInt64)), .second, .unset] [(.int (1 : Int32))])) _
      refine XS.istore X1.here hx rfl (hb hby own_d4_25) rfl (l' := #[.val (.ref a1), .val (.int (Int32.ofNat i)), .val (.long ((1 : Int64) <<< ((Int32.ofNat i) &&& 0x3f).toInt64)), .second, .val (.int (1 : Int32))]) rfl ?_
      show Steps p.tables e below (T1.setTop (mkF m 27 #[.val (.ref a1), .val (.int (Int32.ofNat i)), .val (.long ((1 : Int64) <<< ((Int32.ofNat i) &&& 0x3f).toInt64)), .second, .val (.int (1 : Int32))] [])) _
      refine XS.aloadN X1.here hx rfl (hb hby own_d4_27) rfl rfl ?_
      show Steps p.tables e below (T1.setTop (mkF m 28 #[.val (.ref a1), .val (.int (Int32.ofNat i)), .val (.long ((1 : Int64) <<< ((Int32.ofNat i) &&& 0x3f).toInt64)), .second, .val (.int (1 : Int32))] [(.ref a1)])) _
      refine st4 _ ?_
      show Steps p.tables e below (T4.setTop (mkF m 31 #[.val (.ref a1), .val (.int (Int32.ofNat i)), .val (.long ((1 : Int64) <<< ((Int32.ofNat i) &&& 0x3f).toInt64)), .second, .val (.int (1 : Int32))] [(.ref bw)])) _
      refine XS.iloadN X4.here hx rfl (hb hby own_d4_31) rfl ?_
      show Steps p.tables e below (T4.setTop (mkF m 32 #[.val (.ref a1), .val (.int (Int32.ofNat i)), .val (.long ((1 : Int64) <<< ((Int32.ofNat i) &&& 0x3f).toInt64)), .second, .val (.int (1 : Int32))] [(.int (Int32.ofNat i)), (.ref bw)])) _
      refine XS.bipush X4.here hx rfl (hb hby own_d4_32) ?_
      show Steps p.tables e below (T4.setTop (mkF m 34 #[.val (.ref a1), .val (.int (Int32.ofNat i)), .val (.long ((1 : Int64) <<< ((Int32.ofNat i) &&& 0x3f).toInt64)), .second, .val (.int (1 : Int32))] [(.int (6 : Int32)), (.int (Int32.ofNat i)), (.ref bw)])) _
      refine XS.iushr X4.here hx rfl (hb hby own_d4_34) rfl ?_
      show Steps p.tables e below (T4.setTop (mkF m 35 #[.val (.ref a1), .val (.int (Int32.ofNat i)), .val (.long ((1 : Int64) <<< ((Int32.ofNat i) &&& 0x3f).toInt64)), .second, .val (.int (1 : Int32))] [(.int (((Int32.ofNat i).toUInt32 >>> ((6 : Int32) &&& 31).toUInt32).toInt32)), (.ref bw)])) _
      refine Jvm.Free.XT.dup2 X4.here hx rfl (hb hby own_d4_35) rfl rfl rfl ?_
      show Steps p.tables e below (T4.setTop (mkF m 36 #[.val (.ref a1), .val (.int (Int32.ofNat i)), .val (.long ((1 : Int64) <<< ((Int32.ofNat i) &&& 0x3f).toInt64)), .second, .val (.int (1 : Int32))] [(.int (((Int32.ofNat i).toUInt32 >>> ((6 : Int32) &&& 31).toUInt32).toInt32)), (.ref bw), (.int (((Int32.ofNat i).toUInt32 >>> ((6 : Int32) &&& 31).toUInt32).toInt32)), (.ref bw)])) _
      refine ld5 _ ?_
      show Steps p.tables e below (T4.setTop (mkF m 37 #[.val (.ref a1), .val (.int (Int32.ofNat i)), .val (.long ((1 : Int64) <<< ((Int32.ofNat i) &&& 0x3f).toInt64)), .second, .val (.int (1 : Int32))] [(.long (ws1 (i / 64))), (.int (((Int32.ofNat i).toUInt32 >>> ((6 : Int32) &&& 31).toUInt32).toInt32)), (.ref bw)])) _
      refine XS.lloadN X4.here hx rfl (hb hby own_d4_37) rfl ?_
      show Steps p.tables e below (T4.setTop (mkF m 38 #[.val (.ref a1), .val (.int (Int32.ofNat i)), .val (.long ((1 : Int64) <<< ((Int32.ofNat i) &&& 0x3f).toInt64)), .second, .val (.int (1 : Int32))] [(.long ((1 : Int64) <<< ((Int32.ofNat i) &&& 0x3f).toInt64)), (.long (ws1 (i / 64))), (.int (((Int32.ofNat i).toUInt32 >>> ((6 : Int32) &&& 31).toUInt32).toInt32)), (.ref bw)])) _
      refine XS.lor X4.here hx rfl (hb hby own_d4_38) rfl ?_
      show Steps p.tables e below (T4.setTop (mkF m 39 #[.val (.ref a1), .val (.int (Int32.ofNat i)), .val (.long ((1 : Int64) <<< ((Int32.ofNat i) &&& 0x3f).toInt64)), .second, .val (.int (1 : Int32))] [(.long ((ws1 (i / 64)) ||| ((1 : Int64) <<< ((Int32.ofNat i) &&& 0x3f).toInt64))), (.int (((Int32.ofNat i).toUInt32 >>> ((6 : Int32) &&& 31).toUInt32).toInt32)), (.ref bw)])) _
      refine st6 _ ?_
      show Steps p.tables e below (T6.setTop (mkF m 40 #[.val (.ref a1), .val (.int (Int32.ofNat i)), .val (.long ((1 : Int64) <<< ((Int32.ofNat i) &&& 0x3f).toInt64)), .second, .val (.int (1 : Int32))] [])) _
      refine XS.iload X6.here hx rfl (hb hby own_d4_40) rfl ?_
      show Steps p.tables e below (T6.setTop (mkF m 42 #[.val (.ref a1), .val (.int (Int32.ofNat i)), .val (.long ((1 : Int64) <<< ((Int32.ofNat i) &&& 0x3f).toInt64)), .second, .val (.int (1 : Int32))] [(.int (1 : Int32))])) _
      exact retN X6 hx (t := .boolean) Bd.returns (by simp) (hb hby own_d4_42) hr
    · show own_Q4 Z a1 i bw nw ws1 bv h0 n0 _ T6.heap _
      rw [e6]
      have q : bv = false := hbv.symm.trans ((own_tst _ hi).mp hc17)
      refine ⟨(fun j => if j = i / 64 then (ws1 (i / 64) ||| ((1 : Int64) <<< ((Int32.ofNat i) &&& 0x3f).toInt64)) else ws1 j), ?_, N9, K7, V_bw.congr (fun j hj => ?_), own_ups ws1 hi⟩
      · rw [q]; rfl
      · by_cases hj : j = i / 64 <;> simp [hj]
  case neg =>
    obtain ⟨T10, X10, e10, st10⟩ := getF X1 hx hZ hown (host := "") (Or.inl (hw _ (List.mem_of_getElem? (i := 11) rfl))) Via.refl e1 F_w (g := (mkF m 28 #[.val (.ref a1), .val (.int (Int32.ofNat i)), .val (.long ((1 : Int64) <<< ((Int32.ofNat i) &&& 0x3f).toInt64)), .second, .val (.int (0 : Int32))] [(.ref a1)])) rfl rfl (hb hby own_d4_28)
    have ld11 := (own_ldJ X10 hx hZ e10 V_bw (j := (((Int32.ofNat i).toUInt32 >>> ((6 : Int32) &&& 31).toUInt32).toInt32)) (own_jx hi).1 (k := (i / 64)) (own_jx hi).2 hlt (v := (.long (ws1 (i / 64)))) rfl (g := (mkF m 36 #[.val (.ref a1), .val (.int (Int32.ofNat i)), .val (.long ((1 : Int64) <<< ((Int32.ofNat i) &&& 0x3f).toInt64)), .second, .val (.int (0 : Int32))] [(.int (((Int32.ofNat i).toUInt32 >>> ((6 : Int32) &&& 31).toUInt32).toInt32)), (.ref bw), (.int (((Int32.ofNat i).toUInt32 >>> ((6 : Int32) &&& 31).toUInt32).toInt32)), (.ref bw)])) rfl rfl (hb hby own_d4_36))
    obtain ⟨T12, h12, X12, e12, W12, V12, st12⟩ := own_stJ X10 hx hZ e10 V_bw (j := (((Int32.ofNat i).toUInt32 >>> ((6 : Int32) &&& 31).toUInt32).toInt32)) (own_jx hi).1 (k := (i / 64)) (own_jx hi).2 hlt (g := (mkF m 39 #[.val (.ref a1), .val (.int (Int32.ofNat i)), .val (.long ((1 : Int64) <<< ((Int32.ofNat i) &&& 0x3f).toInt64)), .second, .val (.int (0 : Int32))] [(.long ((ws1 (i / 64)) ||| ((1 : Int64) <<< ((Int32.ofNat i) &&& 0x3f).toInt64))), (.int (((Int32.ofNat i).toUInt32 >>> ((6 : Int32) &&& 31).toUInt32).toInt32)), (.ref bw)])) rfl rfl (hb hby own_d4_39)
    have F_w := F_w.other W12 (Or.inl neab)
    have K13 := K0.wr W12 (Or.inl (List.mem_of_getElem? (i := 0) rfl))
    have Z14 := Nat.le_trans Z0 (Keep.of_wr W12).1
    have N15 := Fr.snoc X12 N0 g_bw
    have V_bw := V12
    obtain ⟨fs, hr, hrun, hended, hW, hsame⟩ := X12.leave (v := some (.int (0 : Int32))) (fun h => by rw [Bd.returns] at h; cases h) (BodyLoose.notSynchronized Bd)
    refine ⟨_, _, pre3 _ ?_, hrun, hended, _, _, rfl, ?_, ⟨_, rfl⟩, hW, hsame.mono (by decide) (by decide)⟩
    · skip
      show Steps p.tables e below (T1.setTop (mkF m 17 #[.val (.ref a1), .val (.int (Int32.ofNat i)), .val (.long ((1 : Int64) <<< ((Int32.ofNat i) &&& 0x3f).toInt64)), .second, .unset] [(.int (lcmpW ((ws1 (i / 64)) &&& ((1 : Int64) <<< ((Int32.ofNat i) &&& 0x3f).toInt64)) (0 : Int64)))])) _
      refine XS.ifYes X1.here hx rfl (pc0 := 17) (pc' := 24) rfl (hb hby own_d4_17) rfl ((if0 _ _).trans (feq (fun q => hc17 ((lw_eq ((ws1 (i / 64)) &&& ((1 : Int64) <<< ((Int32.ofNat i) &&& 0x3f).toInt64)) (0 : Int64)).mp q))).2) (by decide) (by decide) ?_
      show Steps p.tables e below (T1.setTop (mkF m 24 #[.val (.ref a1), .val (.int (Int32.ofNat i)), .val (.long ((1 : Int64) <<< ((Int32.ofNat i) &&& 0x3f).toInt64)), .second, .unset] [])) _
      refine XS.iconst X1.here hx rfl (hb hby own_d4_24) ?_
      show Steps p.tables e below (T1.setTop (mkF m 25 #[.val (.ref a1), .val (.int (Int32.ofNat i)), .val (.long ((1 : Int64) <<< ((Int32.ofNat i) &&& 0x3f).toInt64)), .second, .unset] [(.int (0 : Int32))])) _
      refine XS.istore X1.here hx rfl (hb hby own_d4_25) rfl (l' := #[.val (.ref a1), .val (.int (Int32.ofNat i)), .val (.long ((1 : Int64) <<< ((Int32.ofNat i) &&& 0x3f).toInt64)), .second, .val (.int (0 : Int32))]) rfl ?_
      show Steps p.tables e below (T1.setTop (mkF m 27 #[.val (.ref a1), .val (.int (Int32.ofNat i)), .val (.long ((1 : Int64) <<< ((Int32.ofNat i) &&& 0x3f).toInt64)), .second, .val (.int (0 : Int32))] [])) _
      refine XS.aloadN X1.here hx rfl (hb hby own_d4_27) rfl rfl ?_
      show Steps p.tables e below (T1.setTop (mkF m 28 #[.val (.ref a1), .val (.int (Int32.ofNat i)), .val (.long ((1 : Int64) <<< ((Int32.ofNat i) &&& 0x3f).toInt64)), .second, .val (.int (0 : Int32))] [(.ref a1)])) _
      refine st10 _ ?_
      show Steps p.tables e below (T10.setTop (mkF m 31 #[.val (.ref a1), .val (.int (Int32.ofNat i)), .val (.long ((1 : Int64) <<< ((Int32.ofNat i) &&& 0x3f).toInt64)), .second, .val (.int (0 : Int32))] [(.ref bw)])) _
      refine XS.iloadN X10.here hx rfl (hb hby own_d4_31) rfl ?_
      show Steps p.tables e below (T10.setTop (mkF m 32 #[.val (.ref a1), .val (.int (Int32.ofNat i)), .val (.long ((1 : Int64) <<< ((Int32.ofNat i) &&& 0x3f).toInt64)), .second, .val (.int (0 : Int32))] [(.int (Int32.ofNat i)), (.ref bw)])) _
      refine XS.bipush X10.here hx rfl (hb hby own_d4_32) ?_
      show Steps p.tables e below (T10.setTop (mkF m 34 #[.val (.ref a1), .val (.int (Int32.ofNat i)), .val (.long ((1 : Int64) <<< ((Int32.ofNat i) &&& 0x3f).toInt64)), .second, .val (.int (0 : Int32))] [(.int (6 : Int32)), (.int (Int32.ofNat i)), (.ref bw)])) _
      refine XS.iushr X10.here hx rfl (hb hby own_d4_34) rfl ?_
      show Steps p.tables e below (T10.setTop (mkF m 35 #[.val (.ref a1), .val (.int (Int32.ofNat i)), .val (.long ((1 : Int64) <<< ((Int32.ofNat i) &&& 0x3f).toInt64)), .second, .val (.int (0 : Int32))] [(.int (((Int32.ofNat i).toUInt32 >>> ((6 : Int32) &&& 31).toUInt32).toInt32)), (.ref bw)])) _
      refine Jvm.Free.XT.dup2 X10.here hx rfl (hb hby own_d4_35) rfl rfl rfl ?_
      show Steps p.tables e below (T10.setTop (mkF m 36 #[.val (.ref a1), .val (.int (Int32.ofNat i)), .val (.long ((1 : Int64) <<< ((Int32.ofNat i) &&& 0x3f).toInt64)), .second, .val (.int (0 : Int32))] [(.int (((Int32.ofNat i).toUInt32 >>> ((6 : Int32) &&& 31).toUInt32).toInt32)), (.ref bw), (.int (((Int32.ofNat i).toUInt32 >>> ((6 : Int32) &&& 31).toUInt32).toInt32)), (.ref bw)])) _
      refine ld11 _ ?_
      show Steps p.tables e below (T10.setTop (mkF m 37 #[.val (.ref a1), .val (.int (Int32.ofNat i)), .val (.long ((1 : Int64) <<< ((Int32.ofNat i) &&& 0x3f).toInt64)), .second, .val (.int (0 : Int32))] [(.long (ws1 (i / 64))), (.int (((Int32.ofNat i).toUInt32 >>> ((6 : Int32) &&& 31).toUInt32).toInt32)), (.ref bw)])) _
      refine XS.lloadN X10.here hx rfl (hb hby own_d4_37) rfl ?_
      show Steps p.tables e below (T10.setTop (mkF m 38 #[.val (.ref a1), .val (.int (Int32.ofNat i)), .val (.long ((1 : Int64) <<< ((Int32.ofNat i) &&& 0x3f).toInt64)), .second, .val (.int (0 : Int32))] [(.long ((1 : Int64) <<< ((Int32.ofNat i) &&& 0x3f).toInt64)), (.long (ws1 (i / 64))), (.int (((Int32.ofNat i).toUInt32 >>> ((6 : Int32) &&& 31).toUInt32).toInt32)), (.ref bw)])) _
      refine XS.lor X10.here hx rfl (hb hby own_d4_38) rfl ?_
      show Steps p.tables e below (T10.setTop (mkF m 39 #[.val (.ref a1), .val (.int (Int32.ofNat i)), .val (.long ((1 : Int64) <<< ((Int32.ofNat i) &&& 0x3f).toInt64)), .second, .val (.int (0 : Int32))] [(.long ((ws1 (i / 64)) ||| ((1 : Int64) <<< ((Int32.ofNat i) &&& 0x3f).toInt64))), (.int (((Int32.ofNat i).toUInt32 >>> ((6 : Int32) &&& 31).toUInt32).toInt32)), (.ref bw)])) _
      refine st12 _ ?_
      show Steps p.tables e below (T12.setTop (mkF m 40 #[.val (.ref a1), .val (.int (Int32.ofNat i)), .val (.long ((1 : Int64) <<< ((Int32.ofNat i) &&& 0x3f).toInt64)), .second, .val (.int (0 : Int32))] [])) _
      refine XS.iload X12.here hx rfl (hb hby own_d4_40) rfl ?_
      show Steps p.tables e below (T12.setTop (mkF m 42 #[.val (.ref a1), .val (.int (Int32.ofNat i)), .val (.long ((1 : Int64) <<< ((Int32.ofNat i) &&& 0x3f).toInt64)), .second, .val (.int (0 : Int32))] [(.int (0 : Int32))])) _
      exact retN X12 hx (t := .boolean) Bd.returns (by simp) (hb hby own_d4_42) hr
    · show own_Q4 Z a1 i bw nw ws1 bv h0 n0 _ T12.heap _
      rw [e12]
      have q : bv = true := hbv.symm.trans (Bool.of_not_eq_false fun q => hc17 ((own_tst _ hi).mpr q))
      refine ⟨(fun j => if j = i / 64 then (ws1 (i / 64) ||| ((1 : Int64) <<< ((Int32.ofNat i) &&& 0x3f).toInt64)) else ws1 j), ?_, N15, K13, V_bw.congr (fun j hj => ?_), own_ups ws1 hi⟩
      · rw [q]; rfl
      · by_cases hj : j = i / 64 <;> simp [hj]
theorem own_pn1 : plainName "com/example/ulebb/ulebb/dex/OffsetBitsAddPinLaw" = true := by first | (simp [plainName, overriddenIn]; done) | decide +kernel
theorem own_pd0 : parseMethodDescriptor "(I)V" = some ⟨[.int], none⟩ := by decide +kernel
theorem own_pd1 : parseMethodDescriptor "(I)Z" = some ⟨[.int], some .boolean⟩ := by decide +kernel
theorem own_ef0 (m : MethodId) (x0 : Int32) (x1 : Int32) (x2 : Int32) (x3 : Int32) : entryFrame m #[(.int x0), (.int x1), (.int x2), (.int x3)] maxLocals = mkF m 0 #[.val (.int x0), .val (.int x1), .val (.int x2), .val (.int x3), .unset, .unset, .unset, .unset, .unset, .unset, .unset, .unset, .unset, .unset, .unset, .unset] [] := by first | (simp [entryFrame, mkF, argsToLocals, Value.category, maxLocals]; done) | rfl
def own_Q0 (Z : State) (a1 : Int32) (a2 : Int32) (a3 : Int32) (a4 : Int32) (h0 : Heap) (n0 : Nat) (v : Option Value) (h : Heap) (L : List Loc) : Prop := v = some (.int 1) ∧ Fr n0 L
set_option maxRecDepth 65536 in
set_option maxHeartbeats 40000000 in
theorem own_rm0 (l : Launch) (Z : State) (a0 : Array Value) (hw : ∀ d ∈ tables_1, d.before a0 Z = true) (ws : List Jvm.Cond) (a1 : Int32) (a2 : Int32) (a3 : Int32) (a4 : Int32) (h0 : Heap) (n0 : Nat) (Z0 : n0 ≤ h0.size) :
    MetFree l x (head1 (Jvm.Cond.code x code maxLocals ret :: ws) room_1) (fun a U => a = #[(.int a1), (.int a2), (.int a3), (.int a4)] ∧ Z.Warmed39 U.vm ∧ U.heap = h0) (fun _ _ _ _ _ => True) (fun _ U o U' => ∃ v L, o = .returned v ∧ own_Q0 Z a1 a2 a3 a4 h0 n0 v U'.heap L ∧ FrameEnd U o U' L room_1.cells room_1.slots) := by
  refine MetFree.of_bodySF (plainFor_of_name own_pn1) hisR ?_
  intro p e s m args below meth c s₁ Bd hml0 hP hK
  obtain ⟨rfl, hZ, hh⟩ := hP
  have hx := Bd.exec
  have hby := Bd.bytes
  have hml : c.maxLocals = 16 := hml0
  have hown : s.vm.findClass "com/example/ulebb/ulebb/dex/OffsetBitsAddPinLaw" = some m.cls := findClass_of_methodNamed Bd.named
  have hnm := (name_of_methodNamed Bd.named Bd.method).1
  have X0 : Stand p l e room_1 s m #[(.int a1), (.int a2), (.int a3), (.int a4)] below meth c s₁ [] 0 0 := Stand.of_body Bd
  have e0 : s₁.heap = h0 := by rw [← hh, Bd.state]; rfl
  have N0 := Fr.nil n0
  have K0 := Keep.refl h0 []
  have pre0 : ∀ t, Steps p.tables e below (s₁.setTop (mkF m 0 #[.val (.int a1), .val (.int a2), .val (.int a3), .val (.int a4), .unset, .unset, .unset, .unset, .unset, .unset, .unset, .unset, .unset, .unset, .unset, .unset] [])) t → Steps p.tables e below (s₁.setTop (entryFrame m #[(.int a1), (.int a2), (.int a3), (.int a4)] maxLocals)) t := fun t kt0 => castTop (own_ef0 m (a1) (a2) (a3) (a4)) kt0
  have pre1 : ∀ t, Steps p.tables e below (s₁.setTop (mkF m 9 #[.val (.int a1), .val (.int a2), .val (.int a3), .val (.int a4), .val (.int ((a1 &&& (1023 : Int32)) + (1 : Int32))), .unset, .unset, .unset, .unset, .unset, .unset, .unset, .unset, .unset, .unset, .unset] [])) t → Steps p.tables e below (s₁.setTop (entryFrame m #[(.int a1), (.int a2), (.int a3), (.int a4)] maxLocals)) t := by
    intro t kt
    refine pre0 t ?_
    show Steps p.tables e below (s₁.setTop (mkF m 0 #[.val (.int a1), .val (.int a2), .val (.int a3), .val (.int a4), .unset, .unset, .unset, .unset, .unset, .unset, .unset, .unset, .unset, .unset, .unset, .unset] [])) _
    refine XS.iloadN X0.here hx rfl (hb hby at_0) rfl ?_
    show Steps p.tables e below (s₁.setTop (mkF m 1 #[.val (.int a1), .val (.int a2), .val (.int a3), .val (.int a4), .unset, .unset, .unset, .unset, .unset, .unset, .unset, .unset, .unset, .unset, .unset, .unset] [(.int a1)])) _
    refine XS.sipush X0.here hx rfl (hb hby at_1) ?_
    show Steps p.tables e below (s₁.setTop (mkF m 4 #[.val (.int a1), .val (.int a2), .val (.int a3), .val (.int a4), .unset, .unset, .unset, .unset, .unset, .unset, .unset, .unset, .unset, .unset, .unset, .unset] [(.int (1023 : Int32)), (.int a1)])) _
    refine XS.iand X0.here hx rfl (hb hby at_4) rfl ?_
    show Steps p.tables e below (s₁.setTop (mkF m 5 #[.val (.int a1), .val (.int a2), .val (.int a3), .val (.int a4), .unset, .unset, .unset, .unset, .unset, .unset, .unset, .unset, .unset, .unset, .unset, .unset] [(.int (a1 &&& (1023 : Int32)))])) _
    refine XS.iconst X0.here hx rfl (hb hby at_5) ?_
    show Steps p.tables e below (s₁.setTop (mkF m 6 #[.val (.int a1), .val (.int a2), .val (.int a3), .val (.int a4), .unset, .unset, .unset, .unset, .unset, .unset, .unset, .unset, .unset, .unset, .unset, .unset] [(.int (1 : Int32)), (.int (a1 &&& (1023 : Int32)))])) _
    refine XS.iadd X0.here hx rfl (hb hby at_6) rfl ?_
    show Steps p.tables e below (s₁.setTop (mkF m 7 #[.val (.int a1), .val (.int a2), .val (.int a3), .val (.int a4), .unset, .unset, .unset, .unset, .unset, .unset, .unset, .unset, .unset, .unset, .unset, .unset] [(.int ((a1 &&& (1023 : Int32)) + (1 : Int32)))])) _
    refine XS.istore X0.here hx rfl (hb hby at_7) rfl (l' := #[.val (.int a1), .val (.int a2), .val (.int a3), .val (.int a4), .val (.int ((a1 &&& (1023 : Int32)) + (1 : Int32))), .unset, .unset, .unset, .unset, .unset, .unset, .unset, .unset, .unset, .unset, .unset]) rfl ?_
    exact kt
  obtain ⟨nn, hd_nn⟩ : ∃ z : Int32, z = ((a1 &&& (1023 : Int32)) + (1 : Int32)) := ⟨_, rfl⟩
  have pre2 : ∀ t, Steps p.tables e below (s₁.setTop (mkF m 9 #[.val (.int a1), .val (.int a2), .val (.int a3), .val (.int a4), .val (.int nn), .unset, .unset, .unset, .unset, .unset, .unset, .unset, .unset, .unset, .unset, .unset] [])) t → Steps p.tables e below (s₁.setTop (entryFrame m #[(.int a1), (.int a2), (.int a3), (.int a4)] maxLocals)) t := by rw [hd_nn]; exact pre1
  have hn1 : 1 ≤ nn.toInt := by rw [hd_nn]; exact (own_nn a1).1
  have hn2 : nn.toInt ≤ 1024 := by rw [hd_nn]; exact (own_nn a1).2
  have hn0 : nn ≠ 0 := fun q => by rw [q] at hn1; exact absurd hn1 (by decide)
  obtain ⟨hw1, hw2, hw3⟩ := own_words hn1 hn2
  obtain ⟨nw, hnw⟩ : ∃ z : Nat, (((nn + (63 : Int32)).toUInt32 >>> ((6 : Int32) &&& 31).toUInt32).toInt32).toNatClampNeg = z := ⟨_, rfl⟩
  have hlt : ∀ i : Nat, (i : Int) < nn.toInt → i / 64 < nw := by rw [← hnw]; exact hw3
  have u0 : ∀ k, own_in (fun _ => (0 : Int64)) k = false := fun k => by unfold own_in; exact BitVec.getLsbD_zero
  obtain ⟨xi, hxie, hxil, hxim⟩ := own_xx a2 hn1 hn2
  have pre3 : ∀ t, Steps p.tables e below (s₁.setTop (mkF m 18 #[.val (.int a1), .val (.int a2), .val (.int a3), .val (.int a4), .val (.int nn), .val (.int ((a2 &&& (2147483647 : Int32)) % nn)), .unset, .unset, .unset, .unset, .unset, .unset, .unset, .unset, .unset, .unset] [])) t → Steps p.tables e below (s₁.setTop (entryFrame m #[(.int a1), (.int a2), (.int a3), (.int a4)] maxLocals)) t := by
    intro t kt
    refine pre2 t ?_
    show Steps p.tables e below (s₁.setTop (mkF m 9 #[.val (.int a1), .val (.int a2), .val (.int a3), .val (.int a4), .val (.int nn), .unset, .unset, .unset, .unset, .unset, .unset, .unset, .unset, .unset, .unset, .unset] [])) _
    refine XS.iloadN X0.here hx rfl (hb hby at_9) rfl ?_
    show Steps p.tables e below (s₁.setTop (mkF m 10 #[.val (.int a1), .val (.int a2), .val (.int a3), .val (.int a4), .val (.int nn), .unset, .unset, .unset, .unset, .unset, .unset, .unset, .unset, .unset, .unset, .unset] [(.int a2)])) _
    refine X0.ldcInt hx hown (mvT hZ (hw _ (List.mem_of_getElem? (i := 0) rfl))) (g := (mkF m 10 #[.val (.int a1), .val (.int a2), .val (.int a3), .val (.int a4), .val (.int nn), .unset, .unset, .unset, .unset, .unset, .unset, .unset, .unset, .unset, .unset, .unset] [(.int a2)])) rfl (hb hby at_10) _ ?_
    show Steps p.tables e below (s₁.setTop (mkF m 12 #[.val (.int a1), .val (.int a2), .val (.int a3), .val (.int a4), .val (.int nn), .unset, .unset, .unset, .unset, .unset, .unset, .unset, .unset, .unset, .unset, .unset] [(.int (2147483647 : Int32)), (.int a2)])) _
    refine XS.iand X0.here hx rfl (hb hby at_12) rfl ?_
    show Steps p.tables e below (s₁.setTop (mkF m 13 #[.val (.int a1), .val (.int a2), .val (.int a3), .val (.int a4), .val (.int nn), .unset, .unset, .unset, .unset, .unset, .unset, .unset, .unset, .unset, .unset, .unset] [(.int (a2 &&& (2147483647 : Int32)))])) _
    refine XS.iload X0.here hx rfl (hb hby at_13) rfl ?_
    show Steps p.tables e below (s₁.setTop (mkF m 15 #[.val (.int a1), .val (.int a2), .val (.int a3), .val (.int a4), .val (.int nn), .unset, .unset, .unset, .unset, .unset, .unset, .unset, .unset, .unset, .unset, .unset] [(.int nn), (.int (a2 &&& (2147483647 : Int32)))])) _
    refine iremM X0 hx rfl (hb hby at_15) rfl hn0 ?_
    show Steps p.tables e below (s₁.setTop (mkF m 16 #[.val (.int a1), .val (.int a2), .val (.int a3), .val (.int a4), .val (.int nn), .unset, .unset, .unset, .unset, .unset, .unset, .unset, .unset, .unset, .unset, .unset] [(.int ((a2 &&& (2147483647 : Int32)) % nn))])) _
    refine XS.istore X0.here hx rfl (hb hby at_16) rfl (l' := #[.val (.int a1), .val (.int a2), .val (.int a3), .val (.int a4), .val (.int nn), .val (.int ((a2 &&& (2147483647 : Int32)) % nn)), .unset, .unset, .unset, .unset, .unset, .unset, .unset, .unset, .unset, .unset]) rfl ?_
    exact kt
  have pre4 : ∀ t, Steps p.tables e below (s₁.setTop (mkF m 18 #[.val (.int a1), .val (.int a2), .val (.int a3), .val (.int a4), .val (.int nn), .val (.int (Int32.ofNat xi)), .unset, .unset, .unset, .unset, .unset, .unset, .unset, .unset, .unset, .unset] [])) t → Steps p.tables e below (s₁.setTop (entryFrame m #[(.int a1), (.int a2), (.int a3), (.int a4)] maxLocals)) t := by rw [(hxie : (Int32.ofNat xi) = ((a2 &&& (2147483647 : Int32)) % nn))]; exact pre3
  obtain ⟨yi, hyie, hyil, hyim⟩ := own_xx a3 hn1 hn2
  have pre5 : ∀ t, Steps p.tables e below (s₁.setTop (mkF m 27 #[.val (.int a1), .val (.int a2), .val (.int a3), .val (.int a4), .val (.int nn), .val (.int (Int32.ofNat xi)), .val (.int ((a3 &&& (2147483647 : Int32)) % nn)), .unset, .unset, .unset, .unset, .unset, .unset, .unset, .unset, .unset] [])) t → Steps p.tables e below (s₁.setTop (entryFrame m #[(.int a1), (.int a2), (.int a3), (.int a4)] maxLocals)) t := by
    intro t kt
    refine pre4 t ?_
    show Steps p.tables e below (s₁.setTop (mkF m 18 #[.val (.int a1), .val (.int a2), .val (.int a3), .val (.int a4), .val (.int nn), .val (.int (Int32.ofNat xi)), .unset, .unset, .unset, .unset, .unset, .unset, .unset, .unset, .unset, .unset] [])) _
    refine XS.iloadN X0.here hx rfl (hb hby at_18) rfl ?_
    show Steps p.tables e below (s₁.setTop (mkF m 19 #[.val (.int a1), .val (.int a2), .val (.int a3), .val (.int a4), .val (.int nn), .val (.int (Int32.ofNat xi)), .unset, .unset, .unset, .unset, .unset, .unset, .unset, .unset, .unset, .unset] [(.int a3)])) _
    refine X0.ldcInt hx hown (mvT hZ (hw _ (List.mem_of_getElem? (i := 0) rfl))) (g := (mkF m 19 #[.val (.int a1), .val (.int a2), .val (.int a3), .val (.int a4), .val (.int nn), .val (.int (Int32.ofNat xi)), .unset, .unset, .unset, .unset, .unset, .unset, .unset, .unset, .unset, .unset] [(.int a3)])) rfl (hb hby at_19) _ ?_
    show Steps p.tables e below (s₁.setTop (mkF m 21 #[.val (.int a1), .val (.int a2), .val (.int a3), .val (.int a4), .val (.int nn), .val (.int (Int32.ofNat xi)), .unset, .unset, .unset, .unset, .unset, .unset, .unset, .unset, .unset, .unset] [(.int (2147483647 : Int32)), (.int a3)])) _
    refine XS.iand X0.here hx rfl (hb hby at_21) rfl ?_
    show Steps p.tables e below (s₁.setTop (mkF m 22 #[.val (.int a1), .val (.int a2), .val (.int a3), .val (.int a4), .val (.int nn), .val (.int (Int32.ofNat xi)), .unset, .unset, .unset, .unset, .unset, .unset, .unset, .unset, .unset, .unset] [(.int (a3 &&& (2147483647 : Int32)))])) _
    refine XS.iload X0.here hx rfl (hb hby at_22) rfl ?_
    show Steps p.tables e below (s₁.setTop (mkF m 24 #[.val (.int a1), .val (.int a2), .val (.int a3), .val (.int a4), .val (.int nn), .val (.int (Int32.ofNat xi)), .unset, .unset, .unset, .unset, .unset, .unset, .unset, .unset, .unset, .unset] [(.int nn), (.int (a3 &&& (2147483647 : Int32)))])) _
    refine iremM X0 hx rfl (hb hby at_24) rfl hn0 ?_
    show Steps p.tables e below (s₁.setTop (mkF m 25 #[.val (.int a1), .val (.int a2), .val (.int a3), .val (.int a4), .val (.int nn), .val (.int (Int32.ofNat xi)), .unset, .unset, .unset, .unset, .unset, .unset, .unset, .unset, .unset, .unset] [(.int ((a3 &&& (2147483647 : Int32)) % nn))])) _
    refine XS.istore X0.here hx rfl (hb hby at_25) rfl (l' := #[.val (.int a1), .val (.int a2), .val (.int a3), .val (.int a4), .val (.int nn), .val (.int (Int32.ofNat xi)), .val (.int ((a3 &&& (2147483647 : Int32)) % nn)), .unset, .unset, .unset, .unset, .unset, .unset, .unset, .unset, .unset]) rfl ?_
    exact kt
  have pre6 : ∀ t, Steps p.tables e below (s₁.setTop (mkF m 27 #[.val (.int a1), .val (.int a2), .val (.int a3), .val (.int a4), .val (.int nn), .val (.int (Int32.ofNat xi)), .val (.int (Int32.ofNat yi)), .unset, .unset, .unset, .unset, .unset, .unset, .unset, .unset, .unset] [])) t → Steps p.tables e below (s₁.setTop (entryFrame m #[(.int a1), (.int a2), (.int a3), (.int a4)] maxLocals)) t := by rw [(hyie : (Int32.ofNat yi) = ((a3 &&& (2147483647 : Int32)) % nn))]; exact pre5
  obtain ⟨zi, hzie, hzil, hzim⟩ := own_xx a4 hn1 hn2
  have pre7 : ∀ t, Steps p.tables e below (s₁.setTop (mkF m 36 #[.val (.int a1), .val (.int a2), .val (.int a3), .val (.int a4), .val (.int nn), .val (.int (Int32.ofNat xi)), .val (.int (Int32.ofNat yi)), .val (.int ((a4 &&& (2147483647 : Int32)) % nn)), .unset, .unset, .unset, .unset, .unset, .unset, .unset, .unset] [])) t → Steps p.tables e below (s₁.setTop (entryFrame m #[(.int a1), (.int a2), (.int a3), (.int a4)] maxLocals)) t := by
    intro t kt
    refine pre6 t ?_
    show Steps p.tables e below (s₁.setTop (mkF m 27 #[.val (.int a1), .val (.int a2), .val (.int a3), .val (.int a4), .val (.int nn), .val (.int (Int32.ofNat xi)), .val (.int (Int32.ofNat yi)), .unset, .unset, .unset, .unset, .unset, .unset, .unset, .unset, .unset] [])) _
    refine XS.iloadN X0.here hx rfl (hb hby at_27) rfl ?_
    show Steps p.tables e below (s₁.setTop (mkF m 28 #[.val (.int a1), .val (.int a2), .val (.int a3), .val (.int a4), .val (.int nn), .val (.int (Int32.ofNat xi)), .val (.int (Int32.ofNat yi)), .unset, .unset, .unset, .unset, .unset, .unset, .unset, .unset, .unset] [(.int a4)])) _
    refine X0.ldcInt hx hown (mvT hZ (hw _ (List.mem_of_getElem? (i := 0) rfl))) (g := (mkF m 28 #[.val (.int a1), .val (.int a2), .val (.int a3), .val (.int a4), .val (.int nn), .val (.int (Int32.ofNat xi)), .val (.int (Int32.ofNat yi)), .unset, .unset, .unset, .unset, .unset, .unset, .unset, .unset, .unset] [(.int a4)])) rfl (hb hby at_28) _ ?_
    show Steps p.tables e below (s₁.setTop (mkF m 30 #[.val (.int a1), .val (.int a2), .val (.int a3), .val (.int a4), .val (.int nn), .val (.int (Int32.ofNat xi)), .val (.int (Int32.ofNat yi)), .unset, .unset, .unset, .unset, .unset, .unset, .unset, .unset, .unset] [(.int (2147483647 : Int32)), (.int a4)])) _
    refine XS.iand X0.here hx rfl (hb hby at_30) rfl ?_
    show Steps p.tables e below (s₁.setTop (mkF m 31 #[.val (.int a1), .val (.int a2), .val (.int a3), .val (.int a4), .val (.int nn), .val (.int (Int32.ofNat xi)), .val (.int (Int32.ofNat yi)), .unset, .unset, .unset, .unset, .unset, .unset, .unset, .unset, .unset] [(.int (a4 &&& (2147483647 : Int32)))])) _
    refine XS.iload X0.here hx rfl (hb hby at_31) rfl ?_
    show Steps p.tables e below (s₁.setTop (mkF m 33 #[.val (.int a1), .val (.int a2), .val (.int a3), .val (.int a4), .val (.int nn), .val (.int (Int32.ofNat xi)), .val (.int (Int32.ofNat yi)), .unset, .unset, .unset, .unset, .unset, .unset, .unset, .unset, .unset] [(.int nn), (.int (a4 &&& (2147483647 : Int32)))])) _
    refine iremM X0 hx rfl (hb hby at_33) rfl hn0 ?_
    show Steps p.tables e below (s₁.setTop (mkF m 34 #[.val (.int a1), .val (.int a2), .val (.int a3), .val (.int a4), .val (.int nn), .val (.int (Int32.ofNat xi)), .val (.int (Int32.ofNat yi)), .unset, .unset, .unset, .unset, .unset, .unset, .unset, .unset, .unset] [(.int ((a4 &&& (2147483647 : Int32)) % nn))])) _
    refine XS.istore X0.here hx rfl (hb hby at_34) rfl (l' := #[.val (.int a1), .val (.int a2), .val (.int a3), .val (.int a4), .val (.int nn), .val (.int (Int32.ofNat xi)), .val (.int (Int32.ofNat yi)), .val (.int ((a4 &&& (2147483647 : Int32)) % nn)), .unset, .unset, .unset, .unset, .unset, .unset, .unset, .unset]) rfl ?_
    exact kt
  have pre8 : ∀ t, Steps p.tables e below (s₁.setTop (mkF m 36 #[.val (.int a1), .val (.int a2), .val (.int a3), .val (.int a4), .val (.int nn), .val (.int (Int32.ofNat xi)), .val (.int (Int32.ofNat yi)), .val (.int (Int32.ofNat zi)), .unset, .unset, .unset, .unset, .unset, .unset, .unset, .unset] [])) t → Steps p.tables e below (s₁.setTop (entryFrame m #[(.int a1), (.int a2), (.int a3), (.int a4)] maxLocals)) t := by rw [(hzie : (Int32.ofNat zi) = ((a4 &&& (2147483647 : Int32)) % nn))]; exact pre7
  obtain ⟨T9, h9, X9, e9, E9, A9, D9, -, st9⟩ := newO X0 hx hZ hown (hw _ (List.mem_of_getElem? (i := 1) rfl)) (hw _ (List.mem_of_getElem? (i := 2) rfl)) (hw _ (List.mem_of_getElem? (i := 3) rfl)) e0 (g := (mkF m 36 #[.val (.int a1), .val (.int a2), .val (.int a3), .val (.int a4), .val (.int nn), .val (.int (Int32.ofNat xi)), .val (.int (Int32.ofNat yi)), .val (.int (Int32.ofNat zi)), .unset, .unset, .unset, .unset, .unset, .unset, .unset, .unset] [])) rfl (hb hby at_36) (by decide) (by decide)
  obtain ⟨ob, g9⟩ : ∃ z, z = h0.size := ⟨_, rfl⟩
  rw [← g9] at A9 D9 st9
  have g_ob : n0 ≤ ob := by rw [g9]; exact Z0
  have Z10 := Nat.le_trans Z0 E9.1
  have E_ob := A9
  have F_words_ob : Fld Z h9 ob "com/example/ulebb/ulebb/dex/OffsetBits" "words" "[J" .null := D9 (Or.inr (hw _ (List.mem_of_getElem? (i := 12) rfl))) (ty := (.array .long)) (by decide)
  have lt_ob := E_ob.lt
  obtain ⟨_, _, ⟨T11, L11, k11, n11⟩, -, X11, ⟨Lc11, hQ11, l11, y11, z11⟩, st11⟩ := X9.specialBack hx (y := (⟨"com/example/ulebb/ulebb/dex/OffsetBits", "<init>", "(I)V"⟩ : MethodName)) rfl hown (mvT hZ (hw _ (List.mem_of_getElem? (i := 4) rfl))) (mvT hZ (hw _ (List.mem_of_getElem? (i := 5) rfl))) (mvT hZ (hw _ (List.mem_of_getElem? (i := 6) rfl))) (by decide) (backOf (W := 1) (own_rm1 l Z a0 hw [] ob nn nw h9 n0 Z10 E_ob F_words_ob g_ob hw1 hw2 hnw) hZ (hw _ (List.mem_of_getElem? (i := 6) rfl)) (hw _ (List.mem_of_getElem? (i := 3) rfl)) (by decide) (by decide)) (g := (mkF m 42 #[.val (.int a1), .val (.int a2), .val (.int a3), .val (.int a4), .val (.int nn), .val (.int (Int32.ofNat xi)), .val (.int (Int32.ofNat yi)), .val (.int (Int32.ofNat zi)), .unset, .unset, .unset, .unset, .unset, .unset, .unset, .unset] [(.int nn), (.ref ob), (.ref ob)])) rfl (by rw [hml]; rfl) (Steps.refl _) (a := ob) (argsL := [(.int nn)]) (rest := [(.ref ob)]) (lenOf own_pd0 rfl) rfl (by show 2 * 0 + _ ≤ _; exact Nat.le_of_eq rfl) (hb hby at_42) (fun _ _ => ⟨rfl, e9, (by decide : 1 + 1 ≤ _), (by decide : 1 + 16 ≤ _)⟩)
  dsimp only [Pt.U, Pt.locs, Pt.cells, Pt.slots] at X11 l11 y11 z11 st11 hQ11
  subst l11 y11 z11
  obtain ⟨rfl, Nq11, Kq11, E_ob, bw, F_words_ob, g_bw, sz_bw, V_bw⟩ := hQ11
  have N11 := Fr.app N0 Nq11
  have Z11 := Nat.le_trans Z10 Kq11.1
  have ne_ob_bw : ob ≠ bw := fun q => by have := lt_ob; rw [q] at this; exact absurd this (Nat.not_lt.mpr sz_bw)
  obtain ⟨cq12, kq12, q12a, q12b, q12c⟩ := isOf hZ rfl E_ob
  obtain ⟨_, _, ⟨T12, L12, k12, n12⟩, -, X12, ⟨Lc12, hQ12, l12, y12, z12⟩, st12⟩ := X11.virtualBack hx (y := (⟨"com/example/ulebb/ulebb/dex/OffsetBits", "contains", "(I)Z"⟩ : MethodName)) (z := (⟨"com/example/ulebb/ulebb/dex/OffsetBits", "contains", "(I)Z"⟩ : MethodName)) hown (mvT hZ (hw _ (List.mem_of_getElem? (i := 13) rfl))) (mvT hZ (hw _ (List.mem_of_getElem? (i := 14) rfl))) (notFace_of_selects (args := #[]) (mvT hZ (hw _ (List.mem_of_getElem? (i := 16) rfl)))) (mvT hZ (hw _ (List.mem_of_getElem? (i := 16) rfl))) (mvT hZ (hw _ (List.mem_of_getElem? (i := 15) rfl))) (by decide) (backOf (W := 0) (own_rm3 l Z a0 hw [] ob xi bw nw (fun _ => (0 : Int64)) false T11.heap n0 Z11 F_words_ob V_bw hxim (hlt xi hxil) (u0 xi)) hZ (hw _ (List.mem_of_getElem? (i := 17) rfl)) (hw _ (List.mem_of_getElem? (i := 3) rfl)) (by decide) (by decide)) q12a q12c (g := (mkF m 51 #[.val (.int a1), .val (.int a2), .val (.int a3), .val (.int a4), .val (.int nn), .val (.int (Int32.ofNat xi)), .val (.int (Int32.ofNat yi)), .val (.int (Int32.ofNat zi)), .val (.ref ob), .unset, .unset, .unset, .unset, .unset, .unset, .unset] [(.int (Int32.ofNat xi)), (.ref ob)])) rfl (by rw [hml]; rfl) (Steps.refl _) (argsL := [(.int (Int32.ofNat xi))]) (rest := []) (lenOf own_pd1 rfl) rfl (by show 2 * 0 + _ ≤ _; exact Nat.le_of_eq rfl) (hb hby at_51) (fun _ _ => ⟨rfl, rfl, (by decide : 2 + 0 ≤ _), (by decide : 17 + 0 ≤ _)⟩)
  dsimp only [Pt.U, Pt.locs, Pt.cells, Pt.slots] at X12 l12 y12 z12 st12 hQ12
  subst l12 y12 z12
  obtain ⟨rfl, Nq12, eq12⟩ := hQ12
  have N12 := Fr.app N11 Nq12
  obtain ⟨cq13, kq13, q13a, q13b, q13c⟩ := isOf hZ eq12 E_ob
  obtain ⟨_, _, ⟨T13, L13, k13, n13⟩, -, X13, ⟨Lc13, hQ13, l13, y13, z13⟩, st13⟩ := X12.virtualBack hx (y := (⟨"com/example/ulebb/ulebb/dex/OffsetBits", "add", "(I)Z"⟩ : MethodName)) (z := (⟨"com/example/ulebb/ulebb/dex/OffsetBits", "add", "(I)Z"⟩ : MethodName)) hown (mvT hZ (hw _ (List.mem_of_getElem? (i := 18) rfl))) (mvT hZ (hw _ (List.mem_of_getElem? (i := 19) rfl))) (notFace_of_selects (args := #[]) (mvT hZ (hw _ (List.mem_of_getElem? (i := 21) rfl)))) (mvT hZ (hw _ (List.mem_of_getElem? (i := 21) rfl))) (mvT hZ (hw _ (List.mem_of_getElem? (i := 20) rfl))) (by decide) (backOf (W := 0) (own_rm4 l Z a0 hw [] ob xi bw nw (fun _ => (0 : Int64)) false T11.heap n0 Z11 F_words_ob V_bw hxim (hlt xi hxil) (u0 xi) g_bw ne_ob_bw) hZ (hw _ (List.mem_of_getElem? (i := 22) rfl)) (hw _ (List.mem_of_getElem? (i := 3) rfl)) (by decide) (by decide)) q13a q13c (g := (mkF m 60 #[.val (.int a1), .val (.int a2), .val (.int a3), .val (.int a4), .val (.int nn), .val (.int (Int32.ofNat xi)), .val (.int (Int32.ofNat yi)), .val (.int (Int32.ofNat zi)), .val (.ref ob), .val (.int (if false = true then (1 : Int32) else 0)), .unset, .unset, .unset, .unset, .unset, .unset] [(.int (Int32.ofNat xi)), (.ref ob)])) rfl (by rw [hml]; rfl) (Steps.refl _) (argsL := [(.int (Int32.ofNat xi))]) (rest := []) (lenOf own_pd1 rfl) rfl (by show 2 * 0 + _ ≤ _; exact Nat.le_of_eq rfl) (hb hby at_60) (fun _ _ => ⟨rfl, eq12, (by decide : 2 + 0 ≤ _), (by decide : 17 + 0 ≤ _)⟩)
  dsimp only [Pt.U, Pt.locs, Pt.cells, Pt.slots] at X13 l13 y13 z13 st13 hQ13
  subst l13 y13 z13
  obtain ⟨w1, rfl, Nq13, Kq13, V_bw, uw1⟩ := hQ13
  have N13 := Fr.app N12 Nq13
  have E_ob := E_ob.keep Kq13
  have F_words_ob := F_words_ob.keep Kq13 (ninS ne_ob_bw nin0)
  have Z13 := Nat.le_trans Z11 Kq13.1
  obtain ⟨cq14, kq14, q14a, q14b, q14c⟩ := isOf hZ rfl E_ob
  obtain ⟨_, _, ⟨T14, L14, k14, n14⟩, -, X14, ⟨Lc14, hQ14, l14, y14, z14⟩, st14⟩ := X13.virtualBack hx (y := (⟨"com/example/ulebb/ulebb/dex/OffsetBits", "add", "(I)Z"⟩ : MethodName)) (z := (⟨"com/example/ulebb/ulebb/dex/OffsetBits", "add", "(I)Z"⟩ : MethodName)) hown (mvT hZ (hw _ (List.mem_of_getElem? (i := 18) rfl))) (mvT hZ (hw _ (List.mem_of_getElem? (i := 19) rfl))) (notFace_of_selects (args := #[]) (mvT hZ (hw _ (List.mem_of_getElem? (i := 21) rfl)))) (mvT hZ (hw _ (List.mem_of_getElem? (i := 21) rfl))) (mvT hZ (hw _ (List.mem_of_getElem? (i := 20) rfl))) (by decide) (backOf (W := 0) (own_rm4 l Z a0 hw [] ob xi bw nw w1 true T13.heap n0 Z13 F_words_ob V_bw hxim (hlt xi hxil) (by rw [uw1]; simp) g_bw ne_ob_bw) hZ (hw _ (List.mem_of_getElem? (i := 22) rfl)) (hw _ (List.mem_of_getElem? (i := 3) rfl)) (by decide) (by decide)) q14a q14c (g := (mkF m 69 #[.val (.int a1), .val (.int a2), .val (.int a3), .val (.int a4), .val (.int nn), .val (.int (Int32.ofNat xi)), .val (.int (Int32.ofNat yi)), .val (.int (Int32.ofNat zi)), .val (.ref ob), .val (.int (if false = true then (1 : Int32) else 0)), .val (.int (if false = true then (0 : Int32) else 1)), .unset, .unset, .unset, .unset, .unset] [(.int (Int32.ofNat xi)), (.ref ob)])) rfl (by rw [hml]; rfl) (Steps.refl _) (argsL := [(.int (Int32.ofNat xi))]) (rest := []) (lenOf own_pd1 rfl) rfl (by show 2 * 0 + _ ≤ _; exact Nat.le_of_eq rfl) (hb hby at_69) (fun _ _ => ⟨rfl, rfl, (by decide : 2 + 0 ≤ _), (by decide : 17 + 0 ≤ _)⟩)
  dsimp only [Pt.U, Pt.locs, Pt.cells, Pt.slots] at X14 l14 y14 z14 st14 hQ14
  subst l14 y14 z14
  obtain ⟨w2, rfl, Nq14, Kq14, V_bw, uw2⟩ := hQ14
  have N14 := Fr.app N13 Nq14
  have E_ob := E_ob.keep Kq14
  have F_words_ob := F_words_ob.keep Kq14 (ninS ne_ob_bw nin0)
  have Z14 := Nat.le_trans Z13 Kq14.1
  obtain ⟨cq15, kq15, q15a, q15b, q15c⟩ := isOf hZ rfl E_ob
  obtain ⟨_, _, ⟨T15, L15, k15, n15⟩, -, X15, ⟨Lc15, hQ15, l15, y15, z15⟩, st15⟩ := X14.virtualBack hx (y := (⟨"com/example/ulebb/ulebb/dex/OffsetBits", "add", "(I)Z"⟩ : MethodName)) (z := (⟨"com/example/ulebb/ulebb/dex/OffsetBits", "add", "(I)Z"⟩ : MethodName)) hown (mvT hZ (hw _ (List.mem_of_getElem? (i := 18) rfl))) (mvT hZ (hw _ (List.mem_of_getElem? (i := 19) rfl))) (notFace_of_selects (args := #[]) (mvT hZ (hw _ (List.mem_of_getElem? (i := 21) rfl)))) (mvT hZ (hw _ (List.mem_of_getElem? (i := 21) rfl))) (mvT hZ (hw _ (List.mem_of_getElem? (i := 20) rfl))) (by decide) (backOf (W := 0) (own_rm4 l Z a0 hw [] ob yi bw nw w2 (decide (yi = xi)) T14.heap n0 Z14 F_words_ob V_bw hyim (hlt yi hyil) (by rw [uw2, uw1, u0]; simp) g_bw ne_ob_bw) hZ (hw _ (List.mem_of_getElem? (i := 22) rfl)) (hw _ (List.mem_of_getElem? (i := 3) rfl)) (by decide) (by decide)) q15a q15c (g := (mkF m 78 #[.val (.int a1), .val (.int a2), .val (.int a3), .val (.int a4), .val (.int nn), .val (.int (Int32.ofNat xi)), .val (.int (Int32.ofNat yi)), .val (.int (Int32.ofNat zi)), .val (.ref ob), .val (.int (if false = true then (1 : Int32) else 0)), .val (.int (if false = true then (0 : Int32) else 1)), .val (.int (if true = true then (0 : Int32) else 1)), .unset, .unset, .unset, .unset] [(.int (Int32.ofNat yi)), (.ref ob)])) rfl (by rw [hml]; rfl) (Steps.refl _) (argsL := [(.int (Int32.ofNat yi))]) (rest := []) (lenOf own_pd1 rfl) rfl (by show 2 * 0 + _ ≤ _; exact Nat.le_of_eq rfl) (hb hby at_78) (fun _ _ => ⟨rfl, rfl, (by decide : 2 + 0 ≤ _), (by decide : 17 + 0 ≤ _)⟩)
  dsimp only [Pt.U, Pt.locs, Pt.cells, Pt.slots] at X15 l15 y15 z15 st15 hQ15
  subst l15 y15 z15
  obtain ⟨w3, rfl, Nq15, Kq15, V_bw, uw3⟩ := hQ15
  have N15 := Fr.app N14 Nq15
  have E_ob := E_ob.keep Kq15
  have F_words_ob := F_words_ob.keep Kq15 (ninS ne_ob_bw nin0)
  have Z15 := Nat.le_trans Z14 Kq15.1
  obtain ⟨cq16, kq16, q16a, q16b, q16c⟩ := isOf hZ rfl E_ob
  obtain ⟨_, _, ⟨T16, L16, k16, n16⟩, -, X16, ⟨Lc16, hQ16, l16, y16, z16⟩, st16⟩ := X15.virtualBack hx (y := (⟨"com/example/ulebb/ulebb/dex/OffsetBits", "contains", "(I)Z"⟩ : MethodName)) (z := (⟨"com/example/ulebb/ulebb/dex/OffsetBits", "contains", "(I)Z"⟩ : MethodName)) hown (mvT hZ (hw _ (List.mem_of_getElem? (i := 13) rfl))) (mvT hZ (hw _ (List.mem_of_getElem? (i := 14) rfl))) (notFace_of_selects (args := #[]) (mvT hZ (hw _ (List.mem_of_getElem? (i := 16) rfl)))) (mvT hZ (hw _ (List.mem_of_getElem? (i := 16) rfl))) (mvT hZ (hw _ (List.mem_of_getElem? (i := 15) rfl))) (by decide) (backOf (W := 0) (own_rm3 l Z a0 hw [] ob xi bw nw w3 true T15.heap n0 Z15 F_words_ob V_bw hxim (hlt xi hxil) (by rw [uw3, uw2, uw1, u0]; simp)) hZ (hw _ (List.mem_of_getElem? (i := 17) rfl)) (hw _ (List.mem_of_getElem? (i := 3) rfl)) (by decide) (by decide)) q16a q16c (g := (mkF m 87 #[.val (.int a1), .val (.int a2), .val (.int a3), .val (.int a4), .val (.int nn), .val (.int (Int32.ofNat xi)), .val (.int (Int32.ofNat yi)), .val (.int (Int32.ofNat zi)), .val (.ref ob), .val (.int (if false = true then (1 : Int32) else 0)), .val (.int (if false = true then (0 : Int32) else 1)), .val (.int (if true = true then (0 : Int32) else 1)), .val (.int (if (decide (yi = xi)) = true then (0 : Int32) else 1)), .unset, .unset, .unset] [(.int (Int32.ofNat xi)), (.ref ob)])) rfl (by rw [hml]; rfl) (Steps.refl _) (argsL := [(.int (Int32.ofNat xi))]) (rest := []) (lenOf own_pd1 rfl) rfl (by show 2 * 0 + _ ≤ _; exact Nat.le_of_eq rfl) (hb hby at_87) (fun _ _ => ⟨rfl, rfl, (by decide : 2 + 0 ≤ _), (by decide : 17 + 0 ≤ _)⟩)
  dsimp only [Pt.U, Pt.locs, Pt.cells, Pt.slots] at X16 l16 y16 z16 st16 hQ16
  subst l16 y16 z16
  obtain ⟨rfl, Nq16, eq16⟩ := hQ16
  have N16 := Fr.app N15 Nq16
  obtain ⟨cq17, kq17, q17a, q17b, q17c⟩ := isOf hZ eq16 E_ob
  obtain ⟨_, _, ⟨T17, L17, k17, n17⟩, -, X17, ⟨Lc17, hQ17, l17, y17, z17⟩, st17⟩ := X16.virtualBack hx (y := (⟨"com/example/ulebb/ulebb/dex/OffsetBits", "contains", "(I)Z"⟩ : MethodName)) (z := (⟨"com/example/ulebb/ulebb/dex/OffsetBits", "contains", "(I)Z"⟩ : MethodName)) hown (mvT hZ (hw _ (List.mem_of_getElem? (i := 13) rfl))) (mvT hZ (hw _ (List.mem_of_getElem? (i := 14) rfl))) (notFace_of_selects (args := #[]) (mvT hZ (hw _ (List.mem_of_getElem? (i := 16) rfl)))) (mvT hZ (hw _ (List.mem_of_getElem? (i := 16) rfl))) (mvT hZ (hw _ (List.mem_of_getElem? (i := 15) rfl))) (by decide) (backOf (W := 0) (own_rm3 l Z a0 hw [] ob yi bw nw w3 true T15.heap n0 Z15 F_words_ob V_bw hyim (hlt yi hyil) (by rw [uw3]; simp)) hZ (hw _ (List.mem_of_getElem? (i := 17) rfl)) (hw _ (List.mem_of_getElem? (i := 3) rfl)) (by decide) (by decide)) q17a q17c (g := (mkF m 96 #[.val (.int a1), .val (.int a2), .val (.int a3), .val (.int a4), .val (.int nn), .val (.int (Int32.ofNat xi)), .val (.int (Int32.ofNat yi)), .val (.int (Int32.ofNat zi)), .val (.ref ob), .val (.int (if false = true then (1 : Int32) else 0)), .val (.int (if false = true then (0 : Int32) else 1)), .val (.int (if true = true then (0 : Int32) else 1)), .val (.int (if (decide (yi = xi)) = true then (0 : Int32) else 1)), .val (.int (if true = true then (1 : Int32) else 0)), .unset, .unset] [(.int (Int32.ofNat yi)), (.ref ob)])) rfl (by rw [hml]; rfl) (Steps.refl _) (argsL := [(.int (Int32.ofNat yi))]) (rest := []) (lenOf own_pd1 rfl) rfl (by show 2 * 0 + _ ≤ _; exact Nat.le_of_eq rfl) (hb hby at_96) (fun _ _ => ⟨rfl, eq16, (by decide : 2 + 0 ≤ _), (by decide : 17 + 0 ≤ _)⟩)
  dsimp only [Pt.U, Pt.locs, Pt.cells, Pt.slots] at X17 l17 y17 z17 st17 hQ17
  subst l17 y17 z17
  obtain ⟨rfl, Nq17, eq17⟩ := hQ17
  have N17 := Fr.app N16 Nq17
  obtain ⟨cq18, kq18, q18a, q18b, q18c⟩ := isOf hZ eq17 E_ob
  obtain ⟨_, _, ⟨T18, L18, k18, n18⟩, -, X18, ⟨Lc18, hQ18, l18, y18, z18⟩, st18⟩ := X17.virtualBack hx (y := (⟨"com/example/ulebb/ulebb/dex/OffsetBits", "contains", "(I)Z"⟩ : MethodName)) (z := (⟨"com/example/ulebb/ulebb/dex/OffsetBits", "contains", "(I)Z"⟩ : MethodName)) hown (mvT hZ (hw _ (List.mem_of_getElem? (i := 13) rfl))) (mvT hZ (hw _ (List.mem_of_getElem? (i := 14) rfl))) (notFace_of_selects (args := #[]) (mvT hZ (hw _ (List.mem_of_getElem? (i := 16) rfl)))) (mvT hZ (hw _ (List.mem_of_getElem? (i := 16) rfl))) (mvT hZ (hw _ (List.mem_of_getElem? (i := 15) rfl))) (by decide) (backOf (W := 0) (own_rm3 l Z a0 hw [] ob zi bw nw w3 (decide (zi = xi) || decide (zi = yi)) T15.heap n0 Z15 F_words_ob V_bw hzim (hlt zi hzil) (by rw [uw3, uw2, uw1, u0]; simp)) hZ (hw _ (List.mem_of_getElem? (i := 17) rfl)) (hw _ (List.mem_of_getElem? (i := 3) rfl)) (by decide) (by decide)) q18a q18c (g := (mkF m 105 #[.val (.int a1), .val (.int a2), .val (.int a3), .val (.int a4), .val (.int nn), .val (.int (Int32.ofNat xi)), .val (.int (Int32.ofNat yi)), .val (.int (Int32.ofNat zi)), .val (.ref ob), .val (.int (if false = true then (1 : Int32) else 0)), .val (.int (if false = true then (0 : Int32) else 1)), .val (.int (if true = true then (0 : Int32) else 1)), .val (.int (if (decide (yi = xi)) = true then (0 : Int32) else 1)), .val (.int (if true = true then (1 : Int32) else 0)), .val (.int (if true = true then (1 : Int32) else 0)), .unset] [(.int (Int32.ofNat zi)), (.ref ob)])) rfl (by rw [hml]; rfl) (Steps.refl _) (argsL := [(.int (Int32.ofNat zi))]) (rest := []) (lenOf own_pd1 rfl) rfl (by show 2 * 0 + _ ≤ _; exact Nat.le_of_eq rfl) (hb hby at_105) (fun _ _ => ⟨rfl, eq17, (by decide : 2 + 0 ≤ _), (by decide : 17 + 0 ≤ _)⟩)
  dsimp only [Pt.U, Pt.locs, Pt.cells, Pt.slots] at X18 l18 y18 z18 st18 hQ18
  subst l18 y18 z18
  obtain ⟨rfl, Nq18, eq18⟩ := hQ18
  have N18 := Fr.app N17 Nq18
  have pre19 : ∀ t, Steps p.tables e below (T18.setTop (mkF m 131 #[.val (.int a1), .val (.int a2), .val (.int a3), .val (.int a4), .val (.int nn), .val (.int (Int32.ofNat xi)), .val (.int (Int32.ofNat yi)), .val (.int (Int32.ofNat zi)), .val (.ref ob), .val (.int (if false = true then (1 : Int32) else 0)), .val (.int (if false = true then (0 : Int32) else 1)), .val (.int (if true = true then (0 : Int32) else 1)), .val (.int (if (decide (yi = xi)) = true then (0 : Int32) else 1)), .val (.int (if true = true then (1 : Int32) else 0)), .val (.int (if true = true then (1 : Int32) else 0)), .val (.int (if (decide (zi = xi) || decide (zi = yi)) = true then (1 : Int32) else 0))] [(.int (Int32.ofNat xi)), (.int (Int32.ofNat yi)), (.int (if (decide (yi = xi)) = true then (0 : Int32) else 1))])) t → Steps p.tables e below (s₁.setTop (entryFrame m #[(.int a1), (.int a2), (.int a3), (.int a4)] maxLocals)) t := by
    intro t kt
    refine pre8 t ?_
    show Steps p.tables e below (s₁.setTop (mkF m 36 #[.val (.int a1), .val (.int a2), .val (.int a3), .val (.int a4), .val (.int nn), .val (.int (Int32.ofNat xi)), .val (.int (Int32.ofNat yi)), .val (.int (Int32.ofNat zi)), .unset, .unset, .unset, .unset, .unset, .unset, .unset, .unset] [])) _
    refine st9 _ ?_
    show Steps p.tables e below (T9.setTop (mkF m 39 #[.val (.int a1), .val (.int a2), .val (.int a3), .val (.int a4), .val (.int nn), .val (.int (Int32.ofNat xi)), .val (.int (Int32.ofNat yi)), .val (.int (Int32.ofNat zi)), .unset, .unset, .unset, .unset, .unset, .unset, .unset, .unset] [(.ref ob)])) _
    refine XS.dup X9.here hx rfl (hb hby at_39) rfl rfl ?_
    show Steps p.tables e below (T9.setTop (mkF m 40 #[.val (.int a1), .val (.int a2), .val (.int a3), .val (.int a4), .val (.int nn), .val (.int (Int32.ofNat xi)), .val (.int (Int32.ofNat yi)), .val (.int (Int32.ofNat zi)), .unset, .unset, .unset, .unset, .unset, .unset, .unset, .unset] [(.ref ob), (.ref ob)])) _
    refine XS.iload X9.here hx rfl (hb hby at_40) rfl ?_
    show Steps p.tables e below (T9.setTop (mkF m 42 #[.val (.int a1), .val (.int a2), .val (.int a3), .val (.int a4), .val (.int nn), .val (.int (Int32.ofNat xi)), .val (.int (Int32.ofNat yi)), .val (.int (Int32.ofNat zi)), .unset, .unset, .unset, .unset, .unset, .unset, .unset, .unset] [(.int nn), (.ref ob), (.ref ob)])) _
    refine st11.trans ?_
    show Steps p.tables e below (T11.setTop (mkF m 45 #[.val (.int a1), .val (.int a2), .val (.int a3), .val (.int a4), .val (.int nn), .val (.int (Int32.ofNat xi)), .val (.int (Int32.ofNat yi)), .val (.int (Int32.ofNat zi)), .unset, .unset, .unset, .unset, .unset, .unset, .unset, .unset] [(.ref ob)])) _
    refine XS.astore X11.here hx rfl (hb hby at_45) rfl rfl (l' := #[.val (.int a1), .val (.int a2), .val (.int a3), .val (.int a4), .val (.int nn), .val (.int (Int32.ofNat xi)), .val (.int (Int32.ofNat yi)), .val (.int (Int32.ofNat zi)), .val (.ref ob), .unset, .unset, .unset, .unset, .unset, .unset, .unset]) rfl ?_
    show Steps p.tables e below (T11.setTop (mkF m 47 #[.val (.int a1), .val (.int a2), .val (.int a3), .val (.int a4), .val (.int nn), .val (.int (Int32.ofNat xi)), .val (.int (Int32.ofNat yi)), .val (.int (Int32.ofNat zi)), .val (.ref ob), .unset, .unset, .unset, .unset, .unset, .unset, .unset] [])) _
    refine XS.aload X11.here hx rfl (hb hby at_47) rfl rfl ?_
    show Steps p.tables e below (T11.setTop (mkF m 49 #[.val (.int a1), .val (.int a2), .val (.int a3), .val (.int a4), .val (.int nn), .val (.int (Int32.ofNat xi)), .val (.int (Int32.ofNat yi)), .val (.int (Int32.ofNat zi)), .val (.ref ob), .unset, .unset, .unset, .unset, .unset, .unset, .unset] [(.ref ob)])) _
    refine XS.iload X11.here hx rfl (hb hby at_49) rfl ?_
    show Steps p.tables e below (T11.setTop (mkF m 51 #[.val (.int a1), .val (.int a2), .val (.int a3), .val (.int a4), .val (.int nn), .val (.int (Int32.ofNat xi)), .val (.int (Int32.ofNat yi)), .val (.int (Int32.ofNat zi)), .val (.ref ob), .unset, .unset, .unset, .unset, .unset, .unset, .unset] [(.int (Int32.ofNat xi)), (.ref ob)])) _
    refine st12.trans ?_
    show Steps p.tables e below (T12.setTop (mkF m 54 #[.val (.int a1), .val (.int a2), .val (.int a3), .val (.int a4), .val (.int nn), .val (.int (Int32.ofNat xi)), .val (.int (Int32.ofNat yi)), .val (.int (Int32.ofNat zi)), .val (.ref ob), .unset, .unset, .unset, .unset, .unset, .unset, .unset] [(.int (if false = true then (1 : Int32) else 0))])) _
    refine XS.istore X12.here hx rfl (hb hby at_54) rfl (l' := #[.val (.int a1), .val (.int a2), .val (.int a3), .val (.int a4), .val (.int nn), .val (.int (Int32.ofNat xi)), .val (.int (Int32.ofNat yi)), .val (.int (Int32.ofNat zi)), .val (.ref ob), .val (.int (if false = true then (1 : Int32) else 0)), .unset, .unset, .unset, .unset, .unset, .unset]) rfl ?_
    show Steps p.tables e below (T12.setTop (mkF m 56 #[.val (.int a1), .val (.int a2), .val (.int a3), .val (.int a4), .val (.int nn), .val (.int (Int32.ofNat xi)), .val (.int (Int32.ofNat yi)), .val (.int (Int32.ofNat zi)), .val (.ref ob), .val (.int (if false = true then (1 : Int32) else 0)), .unset, .unset, .unset, .unset, .unset, .unset] [])) _
    refine XS.aload X12.here hx rfl (hb hby at_56) rfl rfl ?_
    show Steps p.tables e below (T12.setTop (mkF m 58 #[.val (.int a1), .val (.int a2), .val (.int a3), .val (.int a4), .val (.int nn), .val (.int (Int32.ofNat xi)), .val (.int (Int32.ofNat yi)), .val (.int (Int32.ofNat zi)), .val (.ref ob), .val (.int (if false = true then (1 : Int32) else 0)), .unset, .unset, .unset, .unset, .unset, .unset] [(.ref ob)])) _
    refine XS.iload X12.here hx rfl (hb hby at_58) rfl ?_
    show Steps p.tables e below (T12.setTop (mkF m 60 #[.val (.int a1), .val (.int a2), .val (.int a3), .val (.int a4), .val (.int nn), .val (.int (Int32.ofNat xi)), .val (.int (Int32.ofNat yi)), .val (.int (Int32.ofNat zi)), .val (.ref ob), .val (.int (if false = true then (1 : Int32) else 0)), .unset, .unset, .unset, .unset, .unset, .unset] [(.int (Int32.ofNat xi)), (.ref ob)])) _
    refine st13.trans ?_
    show Steps p.tables e below (T13.setTop (mkF m 63 #[.val (.int a1), .val (.int a2), .val (.int a3), .val (.int a4), .val (.int nn), .val (.int (Int32.ofNat xi)), .val (.int (Int32.ofNat yi)), .val (.int (Int32.ofNat zi)), .val (.ref ob), .val (.int (if false = true then (1 : Int32) else 0)), .unset, .unset, .unset, .unset, .unset, .unset] [(.int (if false = true then (0 : Int32) else 1))])) _
    refine XS.istore X13.here hx rfl (hb hby at_63) rfl (l' := #[.val (.int a1), .val (.int a2), .val (.int a3), .val (.int a4), .val (.int nn), .val (.int (Int32.ofNat xi)), .val (.int (Int32.ofNat yi)), .val (.int (Int32.ofNat zi)), .val (.ref ob), .val (.int (if false = true then (1 : Int32) else 0)), .val (.int (if false = true then (0 : Int32) else 1)), .unset, .unset, .unset, .unset, .unset]) rfl ?_
    show Steps p.tables e below (T13.setTop (mkF m 65 #[.val (.int a1), .val (.int a2), .val (.int a3), .val (.int a4), .val (.int nn), .val (.int (Int32.ofNat xi)), .val (.int (Int32.ofNat yi)), .val (.int (Int32.ofNat zi)), .val (.ref ob), .val (.int (if false = true then (1 : Int32) else 0)), .val (.int (if false = true then (0 : Int32) else 1)), .unset, .unset, .unset, .unset, .unset] [])) _
    refine XS.aload X13.here hx rfl (hb hby at_65) rfl rfl ?_
    show Steps p.tables e below (T13.setTop (mkF m 67 #[.val (.int a1), .val (.int a2), .val (.int a3), .val (.int a4), .val (.int nn), .val (.int (Int32.ofNat xi)), .val (.int (Int32.ofNat yi)), .val (.int (Int32.ofNat zi)), .val (.ref ob), .val (.int (if false = true then (1 : Int32) else 0)), .val (.int (if false = true then (0 : Int32) else 1)), .unset, .unset, .unset, .unset, .unset] [(.ref ob)])) _
    refine XS.iload X13.here hx rfl (hb hby at_67) rfl ?_
    show Steps p.tables e below (T13.setTop (mkF m 69 #[.val (.int a1), .val (.int a2), .val (.int a3), .val (.int a4), .val (.int nn), .val (.int (Int32.ofNat xi)), .val (.int (Int32.ofNat yi)), .val (.int (Int32.ofNat zi)), .val (.ref ob), .val (.int (if false = true then (1 : Int32) else 0)), .val (.int (if false = true then (0 : Int32) else 1)), .unset, .unset, .unset, .unset, .unset] [(.int (Int32.ofNat xi)), (.ref ob)])) _
    refine st14.trans ?_
    show Steps p.tables e below (T14.setTop (mkF m 72 #[.val (.int a1), .val (.int a2), .val (.int a3), .val (.int a4), .val (.int nn), .val (.int (Int32.ofNat xi)), .val (.int (Int32.ofNat yi)), .val (.int (Int32.ofNat zi)), .val (.ref ob), .val (.int (if false = true then (1 : Int32) else 0)), .val (.int (if false = true then (0 : Int32) else 1)), .unset, .unset, .unset, .unset, .unset] [(.int (if true = true then (0 : Int32) else 1))])) _
    refine XS.istore X14.here hx rfl (hb hby at_72) rfl (l' := #[.val (.int a1), .val (.int a2), .val (.int a3), .val (.int a4), .val (.int nn), .val (.int (Int32.ofNat xi)), .val (.int (Int32.ofNat yi)), .val (.int (Int32.ofNat zi)), .val (.ref ob), .val (.int (if false = true then (1 : Int32) else 0)), .val (.int (if false = true then (0 : Int32) else 1)), .val (.int (if true = true then (0 : Int32) else 1)), .unset, .unset, .unset, .unset]) rfl ?_
    show Steps p.tables e below (T14.setTop (mkF m 74 #[.val (.int a1), .val (.int a2), .val (.int a3), .val (.int a4), .val (.int nn), .val (.int (Int32.ofNat xi)), .val (.int (Int32.ofNat yi)), .val (.int (Int32.ofNat zi)), .val (.ref ob), .val (.int (if false = true then (1 : Int32) else 0)), .val (.int (if false = true then (0 : Int32) else 1)), .val (.int (if true = true then (0 : Int32) else 1)), .unset, .unset, .unset, .unset] [])) _
    refine XS.aload X14.here hx rfl (hb hby at_74) rfl rfl ?_
    show Steps p.tables e below (T14.setTop (mkF m 76 #[.val (.int a1), .val (.int a2), .val (.int a3), .val (.int a4), .val (.int nn), .val (.int (Int32.ofNat xi)), .val (.int (Int32.ofNat yi)), .val (.int (Int32.ofNat zi)), .val (.ref ob), .val (.int (if false = true then (1 : Int32) else 0)), .val (.int (if false = true then (0 : Int32) else 1)), .val (.int (if true = true then (0 : Int32) else 1)), .unset, .unset, .unset, .unset] [(.ref ob)])) _
    refine XS.iload X14.here hx rfl (hb hby at_76) rfl ?_
    show Steps p.tables e below (T14.setTop (mkF m 78 #[.val (.int a1), .val (.int a2), .val (.int a3), .val (.int a4), .val (.int nn), .val (.int (Int32.ofNat xi)), .val (.int (Int32.ofNat yi)), .val (.int (Int32.ofNat zi)), .val (.ref ob), .val (.int (if false = true then (1 : Int32) else 0)), .val (.int (if false = true then (0 : Int32) else 1)), .val (.int (if true = true then (0 : Int32) else 1)), .unset, .unset, .unset, .unset] [(.int (Int32.ofNat yi)), (.ref ob)])) _
    refine st15.trans ?_
    show Steps p.tables e below (T15.setTop (mkF m 81 #[.val (.int a1), .val (.int a2), .val (.int a3), .val (.int a4), .val (.int nn), .val (.int (Int32.ofNat xi)), .val (.int (Int32.ofNat yi)), .val (.int (Int32.ofNat zi)), .val (.ref ob), .val (.int (if false = true then (1 : Int32) else 0)), .val (.int (if false = true then (0 : Int32) else 1)), .val (.int (if true = true then (0 : Int32) else 1)), .unset, .unset, .unset, .unset] [(.int (if (decide (yi = xi)) = true then (0 : Int32) else 1))])) _
    refine XS.istore X15.here hx rfl (hb hby at_81) rfl (l' := #[.val (.int a1), .val (.int a2), .val (.int a3), .val (.int a4), .val (.int nn), .val (.int (Int32.ofNat xi)), .val (.int (Int32.ofNat yi)), .val (.int (Int32.ofNat zi)), .val (.ref ob), .val (.int (if false = true then (1 : Int32) else 0)), .val (.int (if false = true then (0 : Int32) else 1)), .val (.int (if true = true then (0 : Int32) else 1)), .val (.int (if (decide (yi = xi)) = true then (0 : Int32) else 1)), .unset, .unset, .unset]) rfl ?_
    show Steps p.tables e below (T15.setTop (mkF m 83 #[.val (.int a1), .val (.int a2), .val (.int a3), .val (.int a4), .val (.int nn), .val (.int (Int32.ofNat xi)), .val (.int (Int32.ofNat yi)), .val (.int (Int32.ofNat zi)), .val (.ref ob), .val (.int (if false = true then (1 : Int32) else 0)), .val (.int (if false = true then (0 : Int32) else 1)), .val (.int (if true = true then (0 : Int32) else 1)), .val (.int (if (decide (yi = xi)) = true then (0 : Int32) else 1)), .unset, .unset, .unset] [])) _
    refine XS.aload X15.here hx rfl (hb hby at_83) rfl rfl ?_
    show Steps p.tables e below (T15.setTop (mkF m 85 #[.val (.int a1), .val (.int a2), .val (.int a3), .val (.int a4), .val (.int nn), .val (.int (Int32.ofNat xi)), .val (.int (Int32.ofNat yi)), .val (.int (Int32.ofNat zi)), .val (.ref ob), .val (.int (if false = true then (1 : Int32) else 0)), .val (.int (if false = true then (0 : Int32) else 1)), .val (.int (if true = true then (0 : Int32) else 1)), .val (.int (if (decide (yi = xi)) = true then (0 : Int32) else 1)), .unset, .unset, .unset] [(.ref ob)])) _
    refine XS.iload X15.here hx rfl (hb hby at_85) rfl ?_
    show Steps p.tables e below (T15.setTop (mkF m 87 #[.val (.int a1), .val (.int a2), .val (.int a3), .val (.int a4), .val (.int nn), .val (.int (Int32.ofNat xi)), .val (.int (Int32.ofNat yi)), .val (.int (Int32.ofNat zi)), .val (.ref ob), .val (.int (if false = true then (1 : Int32) else 0)), .val (.int (if false = true then (0 : Int32) else 1)), .val (.int (if true = true then (0 : Int32) else 1)), .val (.int (if (decide (yi = xi)) = true then (0 : Int32) else 1)), .unset, .unset, .unset] [(.int (Int32.ofNat xi)), (.ref ob)])) _
    refine st16.trans ?_
    show Steps p.tables e below (T16.setTop (mkF m 90 #[.val (.int a1), .val (.int a2), .val (.int a3), .val (.int a4), .val (.int nn), .val (.int (Int32.ofNat xi)), .val (.int (Int32.ofNat yi)), .val (.int (Int32.ofNat zi)), .val (.ref ob), .val (.int (if false = true then (1 : Int32) else 0)), .val (.int (if false = true then (0 : Int32) else 1)), .val (.int (if true = true then (0 : Int32) else 1)), .val (.int (if (decide (yi = xi)) = true then (0 : Int32) else 1)), .unset, .unset, .unset] [(.int (if true = true then (1 : Int32) else 0))])) _
    refine XS.istore X16.here hx rfl (hb hby at_90) rfl (l' := #[.val (.int a1), .val (.int a2), .val (.int a3), .val (.int a4), .val (.int nn), .val (.int (Int32.ofNat xi)), .val (.int (Int32.ofNat yi)), .val (.int (Int32.ofNat zi)), .val (.ref ob), .val (.int (if false = true then (1 : Int32) else 0)), .val (.int (if false = true then (0 : Int32) else 1)), .val (.int (if true = true then (0 : Int32) else 1)), .val (.int (if (decide (yi = xi)) = true then (0 : Int32) else 1)), .val (.int (if true = true then (1 : Int32) else 0)), .unset, .unset]) rfl ?_
    show Steps p.tables e below (T16.setTop (mkF m 92 #[.val (.int a1), .val (.int a2), .val (.int a3), .val (.int a4), .val (.int nn), .val (.int (Int32.ofNat xi)), .val (.int (Int32.ofNat yi)), .val (.int (Int32.ofNat zi)), .val (.ref ob), .val (.int (if false = true then (1 : Int32) else 0)), .val (.int (if false = true then (0 : Int32) else 1)), .val (.int (if true = true then (0 : Int32) else 1)), .val (.int (if (decide (yi = xi)) = true then (0 : Int32) else 1)), .val (.int (if true = true then (1 : Int32) else 0)), .unset, .unset] [])) _
    refine XS.aload X16.here hx rfl (hb hby at_92) rfl rfl ?_
    show Steps p.tables e below (T16.setTop (mkF m 94 #[.val (.int a1), .val (.int a2), .val (.int a3), .val (.int a4), .val (.int nn), .val (.int (Int32.ofNat xi)), .val (.int (Int32.ofNat yi)), .val (.int (Int32.ofNat zi)), .val (.ref ob), .val (.int (if false = true then (1 : Int32) else 0)), .val (.int (if false = true then (0 : Int32) else 1)), .val (.int (if true = true then (0 : Int32) else 1)), .val (.int (if (decide (yi = xi)) = true then (0 : Int32) else 1)), .val (.int (if true = true then (1 : Int32) else 0)), .unset, .unset] [(.ref ob)])) _
    refine XS.iload X16.here hx rfl (hb hby at_94) rfl ?_
    show Steps p.tables e below (T16.setTop (mkF m 96 #[.val (.int a1), .val (.int a2), .val (.int a3), .val (.int a4), .val (.int nn), .val (.int (Int32.ofNat xi)), .val (.int (Int32.ofNat yi)), .val (.int (Int32.ofNat zi)), .val (.ref ob), .val (.int (if false = true then (1 : Int32) else 0)), .val (.int (if false = true then (0 : Int32) else 1)), .val (.int (if true = true then (0 : Int32) else 1)), .val (.int (if (decide (yi = xi)) = true then (0 : Int32) else 1)), .val (.int (if true = true then (1 : Int32) else 0)), .unset, .unset] [(.int (Int32.ofNat yi)), (.ref ob)])) _
    refine st17.trans ?_
    show Steps p.tables e below (T17.setTop (mkF m 99 #[.val (.int a1), .val (.int a2), .val (.int a3), .val (.int a4), .val (.int nn), .val (.int (Int32.ofNat xi)), .val (.int (Int32.ofNat yi)), .val (.int (Int32.ofNat zi)), .val (.ref ob), .val (.int (if false = true then (1 : Int32) else 0)), .val (.int (if false = true then (0 : Int32) else 1)), .val (.int (if true = true then (0 : Int32) else 1)), .val (.int (if (decide (yi = xi)) = true then (0 : Int32) else 1)), .val (.int (if true = true then (1 : Int32) else 0)), .unset, .unset] [(.int (if true = true then (1 : Int32) else 0))])) _
    refine XS.istore X17.here hx rfl (hb hby at_99) rfl (l' := #[.val (.int a1), .val (.int a2), .val (.int a3), .val (.int a4), .val (.int nn), .val (.int (Int32.ofNat xi)), .val (.int (Int32.ofNat yi)), .val (.int (Int32.ofNat zi)), .val (.ref ob), .val (.int (if false = true then (1 : Int32) else 0)), .val (.int (if false = true then (0 : Int32) else 1)), .val (.int (if true = true then (0 : Int32) else 1)), .val (.int (if (decide (yi = xi)) = true then (0 : Int32) else 1)), .val (.int (if true = true then (1 : Int32) else 0)), .val (.int (if true = true then (1 : Int32) else 0)), .unset]) rfl ?_
    show Steps p.tables e below (T17.setTop (mkF m 101 #[.val (.int a1), .val (.int a2), .val (.int a3), .val (.int a4), .val (.int nn), .val (.int (Int32.ofNat xi)), .val (.int (Int32.ofNat yi)), .val (.int (Int32.ofNat zi)), .val (.ref ob), .val (.int (if false = true then (1 : Int32) else 0)), .val (.int (if false = true then (0 : Int32) else 1)), .val (.int (if true = true then (0 : Int32) else 1)), .val (.int (if (decide (yi = xi)) = true then (0 : Int32) else 1)), .val (.int (if true = true then (1 : Int32) else 0)), .val (.int (if true = true then (1 : Int32) else 0)), .unset] [])) _
    refine XS.aload X17.here hx rfl (hb hby at_101) rfl rfl ?_
    show Steps p.tables e below (T17.setTop (mkF m 103 #[.val (.int a1), .val (.int a2), .val (.int a3), .val (.int a4), .val (.int nn), .val (.int (Int32.ofNat xi)), .val (.int (Int32.ofNat yi)), .val (.int (Int32.ofNat zi)), .val (.ref ob), .val (.int (if false = true then (1 : Int32) else 0)), .val (.int (if false = true then (0 : Int32) else 1)), .val (.int (if true = true then (0 : Int32) else 1)), .val (.int (if (decide (yi = xi)) = true then (0 : Int32) else 1)), .val (.int (if true = true then (1 : Int32) else 0)), .val (.int (if true = true then (1 : Int32) else 0)), .unset] [(.ref ob)])) _
    refine XS.iload X17.here hx rfl (hb hby at_103) rfl ?_
    show Steps p.tables e below (T17.setTop (mkF m 105 #[.val (.int a1), .val (.int a2), .val (.int a3), .val (.int a4), .val (.int nn), .val (.int (Int32.ofNat xi)), .val (.int (Int32.ofNat yi)), .val (.int (Int32.ofNat zi)), .val (.ref ob), .val (.int (if false = true then (1 : Int32) else 0)), .val (.int (if false = true then (0 : Int32) else 1)), .val (.int (if true = true then (0 : Int32) else 1)), .val (.int (if (decide (yi = xi)) = true then (0 : Int32) else 1)), .val (.int (if true = true then (1 : Int32) else 0)), .val (.int (if true = true then (1 : Int32) else 0)), .unset] [(.int (Int32.ofNat zi)), (.ref ob)])) _
    refine st18.trans ?_
    show Steps p.tables e below (T18.setTop (mkF m 108 #[.val (.int a1), .val (.int a2), .val (.int a3), .val (.int a4), .val (.int nn), .val (.int (Int32.ofNat xi)), .val (.int (Int32.ofNat yi)), .val (.int (Int32.ofNat zi)), .val (.ref ob), .val (.int (if false = true then (1 : Int32) else 0)), .val (.int (if false = true then (0 : Int32) else 1)), .val (.int (if true = true then (0 : Int32) else 1)), .val (.int (if (decide (yi = xi)) = true then (0 : Int32) else 1)), .val (.int (if true = true then (1 : Int32) else 0)), .val (.int (if true = true then (1 : Int32) else 0)), .unset] [(.int (if (decide (zi = xi) || decide (zi = yi)) = true then (1 : Int32) else 0))])) _
    refine XS.istore X18.here hx rfl (hb hby at_108) rfl (l' := #[.val (.int a1), .val (.int a2), .val (.int a3), .val (.int a4), .val (.int nn), .val (.int (Int32.ofNat xi)), .val (.int (Int32.ofNat yi)), .val (.int (Int32.ofNat zi)), .val (.ref ob), .val (.int (if false = true then (1 : Int32) else 0)), .val (.int (if false = true then (0 : Int32) else 1)), .val (.int (if true = true then (0 : Int32) else 1)), .val (.int (if (decide (yi = xi)) = true then (0 : Int32) else 1)), .val (.int (if true = true then (1 : Int32) else 0)), .val (.int (if true = true then (1 : Int32) else 0)), .val (.int (if (decide (zi = xi) || decide (zi = yi)) = true then (1 : Int32) else 0))]) rfl ?_
    show Steps p.tables e below (T18.setTop (mkF m 110 #[.val (.int a1), .val (.int a2), .val (.int a3), .val (.int a4), .val (.int nn), .val (.int (Int32.ofNat xi)), .val (.int (Int32.ofNat yi)), .val (.int (Int32.ofNat zi)), .val (.ref ob), .val (.int (if false = true then (1 : Int32) else 0)), .val (.int (if false = true then (0 : Int32) else 1)), .val (.int (if true = true then (0 : Int32) else 1)), .val (.int (if (decide (yi = xi)) = true then (0 : Int32) else 1)), .val (.int (if true = true then (1 : Int32) else 0)), .val (.int (if true = true then (1 : Int32) else 0)), .val (.int (if (decide (zi = xi) || decide (zi = yi)) = true then (1 : Int32) else 0))] [])) _
    refine XS.iload X18.here hx rfl (hb hby at_110) rfl ?_
    show Steps p.tables e below (T18.setTop (mkF m 112 #[.val (.int a1), .val (.int a2), .val (.int a3), .val (.int a4), .val (.int nn), .val (.int (Int32.ofNat xi)), .val (.int (Int32.ofNat yi)), .val (.int (Int32.ofNat zi)), .val (.ref ob), .val (.int (if false = true then (1 : Int32) else 0)), .val (.int (if false = true then (0 : Int32) else 1)), .val (.int (if true = true then (0 : Int32) else 1)), .val (.int (if (decide (yi = xi)) = true then (0 : Int32) else 1)), .val (.int (if true = true then (1 : Int32) else 0)), .val (.int (if true = true then (1 : Int32) else 0)), .val (.int (if (decide (zi = xi) || decide (zi = yi)) = true then (1 : Int32) else 0))] [(.int (if false = true then (1 : Int32) else 0))])) _
    refine XS.ifNo X18.here hx rfl (hb hby at_112) rfl ((if0 _ _).trans (teq rfl).2) ?_
    show Steps p.tables e below (T18.setTop (mkF m 115 #[.val (.int a1), .val (.int a2), .val (.int a3), .val (.int a4), .val (.int nn), .val (.int (Int32.ofNat xi)), .val (.int (Int32.ofNat yi)), .val (.int (Int32.ofNat zi)), .val (.ref ob), .val (.int (if false = true then (1 : Int32) else 0)), .val (.int (if false = true then (0 : Int32) else 1)), .val (.int (if true = true then (0 : Int32) else 1)), .val (.int (if (decide (yi = xi)) = true then (0 : Int32) else 1)), .val (.int (if true = true then (1 : Int32) else 0)), .val (.int (if true = true then (1 : Int32) else 0)), .val (.int (if (decide (zi = xi) || decide (zi = yi)) = true then (1 : Int32) else 0))] [])) _
    refine XS.iload X18.here hx rfl (hb hby at_115) rfl ?_
    show Steps p.tables e below (T18.setTop (mkF m 117 #[.val (.int a1), .val (.int a2), .val (.int a3), .val (.int a4), .val (.int nn), .val (.int (Int32.ofNat xi)), .val (.int (Int32.ofNat yi)), .val (.int (Int32.ofNat zi)), .val (.ref ob), .val (.int (if false = true then (1 : Int32) else 0)), .val (.int (if false = true then (0 : Int32) else 1)), .val (.int (if true = true then (0 : Int32) else 1)), .val (.int (if (decide (yi = xi)) = true then (0 : Int32) else 1)), .val (.int (if true = true then (1 : Int32) else 0)), .val (.int (if true = true then (1 : Int32) else 0)), .val (.int (if (decide (zi = xi) || decide (zi = yi)) = true then (1 : Int32) else 0))] [(.int (if false = true then (0 : Int32) else 1))])) _
    refine XS.ifNo X18.here hx rfl (hb hby at_117) rfl ((if0 _ _).trans (feq (by decide)).1) ?_
    show Steps p.tables e below (T18.setTop (mkF m 120 #[.val (.int a1), .val (.int a2), .val (.int a3), .val (.int a4), .val (.int nn), .val (.int (Int32.ofNat xi)), .val (.int (Int32.ofNat yi)), .val (.int (Int32.ofNat zi)), .val (.ref ob), .val (.int (if false = true then (1 : Int32) else 0)), .val (.int (if false = true then (0 : Int32) else 1)), .val (.int (if true = true then (0 : Int32) else 1)), .val (.int (if (decide (yi = xi)) = true then (0 : Int32) else 1)), .val (.int (if true = true then (1 : Int32) else 0)), .val (.int (if true = true then (1 : Int32) else 0)), .val (.int (if (decide (zi = xi) || decide (zi = yi)) = true then (1 : Int32) else 0))] [])) _
    refine XS.iload X18.here hx rfl (hb hby at_120) rfl ?_
    show Steps p.tables e below (T18.setTop (mkF m 122 #[.val (.int a1), .val (.int a2), .val (.int a3), .val (.int a4), .val (.int nn), .val (.int (Int32.ofNat xi)), .val (.int (Int32.ofNat yi)), .val (.int (Int32.ofNat zi)), .val (.ref ob), .val (.int (if false = true then (1 : Int32) else 0)), .val (.int (if false = true then (0 : Int32) else 1)), .val (.int (if true = true then (0 : Int32) else 1)), .val (.int (if (decide (yi = xi)) = true then (0 : Int32) else 1)), .val (.int (if true = true then (1 : Int32) else 0)), .val (.int (if true = true then (1 : Int32) else 0)), .val (.int (if (decide (zi = xi) || decide (zi = yi)) = true then (1 : Int32) else 0))] [(.int (if true = true then (0 : Int32) else 1))])) _
    refine XS.ifNo X18.here hx rfl (hb hby at_122) rfl ((if0 _ _).trans (teq rfl).2) ?_
    show Steps p.tables e below (T18.setTop (mkF m 125 #[.val (.int a1), .val (.int a2), .val (.int a3), .val (.int a4), .val (.int nn), .val (.int (Int32.ofNat xi)), .val (.int (Int32.ofNat yi)), .val (.int (Int32.ofNat zi)), .val (.ref ob), .val (.int (if false = true then (1 : Int32) else 0)), .val (.int (if false = true then (0 : Int32) else 1)), .val (.int (if true = true then (0 : Int32) else 1)), .val (.int (if (decide (yi = xi)) = true then (0 : Int32) else 1)), .val (.int (if true = true then (1 : Int32) else 0)), .val (.int (if true = true then (1 : Int32) else 0)), .val (.int (if (decide (zi = xi) || decide (zi = yi)) = true then (1 : Int32) else 0))] [])) _
    refine XS.iload X18.here hx rfl (hb hby at_125) rfl ?_
    show Steps p.tables e below (T18.setTop (mkF m 127 #[.val (.int a1), .val (.int a2), .val (.int a3), .val (.int a4), .val (.int nn), .val (.int (Int32.ofNat xi)), .val (.int (Int32.ofNat yi)), .val (.int (Int32.ofNat zi)), .val (.ref ob), .val (.int (if false = true then (1 : Int32) else 0)), .val (.int (if false = true then (0 : Int32) else 1)), .val (.int (if true = true then (0 : Int32) else 1)), .val (.int (if (decide (yi = xi)) = true then (0 : Int32) else 1)), .val (.int (if true = true then (1 : Int32) else 0)), .val (.int (if true = true then (1 : Int32) else 0)), .val (.int (if (decide (zi = xi) || decide (zi = yi)) = true then (1 : Int32) else 0))] [(.int (if (decide (yi = xi)) = true then (0 : Int32) else 1))])) _
    refine XS.iload X18.here hx rfl (hb hby at_127) rfl ?_
    show Steps p.tables e below (T18.setTop (mkF m 129 #[.val (.int a1), .val (.int a2), .val (.int a3), .val (.int a4), .val (.int nn), .val (.int (Int32.ofNat xi)), .val (.int (Int32.ofNat yi)), .val (.int (Int32.ofNat zi)), .val (.ref ob), .val (.int (if false = true then (1 : Int32) else 0)), .val (.int (if false = true then (0 : Int32) else 1)), .val (.int (if true = true then (0 : Int32) else 1)), .val (.int (if (decide (yi = xi)) = true then (0 : Int32) else 1)), .val (.int (if true = true then (1 : Int32) else 0)), .val (.int (if true = true then (1 : Int32) else 0)), .val (.int (if (decide (zi = xi) || decide (zi = yi)) = true then (1 : Int32) else 0))] [(.int (Int32.ofNat yi)), (.int (if (decide (yi = xi)) = true then (0 : Int32) else 1))])) _
    refine XS.iload X18.here hx rfl (hb hby at_129) rfl ?_
    exact kt
  by_cases hc131 : (Int32.ofNat yi) = (Int32.ofNat xi)
  case pos =>
    have pre20 : ∀ t, Steps p.tables e below (T18.setTop (mkF m 158 #[.val (.int a1), .val (.int a2), .val (.int a3), .val (.int a4), .val (.int nn), .val (.int (Int32.ofNat xi)), .val (.int (Int32.ofNat yi)), .val (.int (Int32.ofNat zi)), .val (.ref ob), .val (.int (if false = true then (1 : Int32) else 0)), .val (.int (if false = true then (0 : Int32) else 1)), .val (.int (if true = true then (0 : Int32) else 1)), .val (.int (if (decide (yi = xi)) = true then (0 : Int32) else 1)), .val (.int (if true = true then (1 : Int32) else 0)), .val (.int (if true = true then (1 : Int32) else 0)), .val (.int (if (decide (zi = xi) || decide (zi = yi)) = true then (1 : Int32) else 0))] [(.int (Int32.ofNat xi)), (.int (Int32.ofNat zi)), (.int (if (decide (zi = xi) || decide (zi = yi)) = true then (1 : Int32) else 0))])) t → Steps p.tables e below (s₁.setTop (entryFrame m #[(.int a1), (.int a2), (.int a3), (.int a4)] maxLocals)) t := by
      intro t kt
      refine pre19 t ?_
      show Steps p.tables e below (T18.setTop (mkF m 131 #[.val (.int a1), .val (.int a2), .val (.int a3), .val (.int a4), .val (.int nn), .val (.int (Int32.ofNat xi)), .val (.int (Int32.ofNat yi)), .val (.int (Int32.ofNat zi)), .val (.ref ob), .val (.int (if false = true then (1 : Int32) else 0)), .val (.int (if false = true then (0 : Int32) else 1)), .val (.int (if true = true then (0 : Int32) else 1)), .val (.int (if (decide (yi = xi)) = true then (0 : Int32) else 1)), .val (.int (if true = true then (1 : Int32) else 0)), .val (.int (if true = true then (1 : Int32) else 0)), .val (.int (if (decide (zi = xi) || decide (zi = yi)) = true then (1 : Int32) else 0))] [(.int (Int32.ofNat xi)), (.int (Int32.ofNat yi)), (.int (if (decide (yi = xi)) = true then (0 : Int32) else 1))])) _
      refine XS.icmpYes X18.here hx rfl (pc0 := 131) (pc' := 138) rfl (hb hby at_131) rfl (teq hc131).1 (by decide) (by decide) ?_
      show Steps p.tables e below (T18.setTop (mkF m 138 #[.val (.int a1), .val (.int a2), .val (.int a3), .val (.int a4), .val (.int nn), .val (.int (Int32.ofNat xi)), .val (.int (Int32.ofNat yi)), .val (.int (Int32.ofNat zi)), .val (.ref ob), .val (.int (if false = true then (1 : Int32) else 0)), .val (.int (if false = true then (0 : Int32) else 1)), .val (.int (if true = true then (0 : Int32) else 1)), .val (.int (if (decide (yi = xi)) = true then (0 : Int32) else 1)), .val (.int (if true = true then (1 : Int32) else 0)), .val (.int (if true = true then (1 : Int32) else 0)), .val (.int (if (decide (zi = xi) || decide (zi = yi)) = true then (1 : Int32) else 0))] [(.int (if (decide (yi = xi)) = true then (0 : Int32) else 1))])) _
      refine XS.iconst X18.here hx rfl (hb hby at_138) ?_
      show Steps p.tables e below (T18.setTop (mkF m 139 #[.val (.int a1), .val (.int a2), .val (.int a3), .val (.int a4), .val (.int nn), .val (.int (Int32.ofNat xi)), .val (.int (Int32.ofNat yi)), .val (.int (Int32.ofNat zi)), .val (.ref ob), .val (.int (if false = true then (1 : Int32) else 0)), .val (.int (if false = true then (0 : Int32) else 1)), .val (.int (if true = true then (0 : Int32) else 1)), .val (.int (if (decide (yi = xi)) = true then (0 : Int32) else 1)), .val (.int (if true = true then (1 : Int32) else 0)), .val (.int (if true = true then (1 : Int32) else 0)), .val (.int (if (decide (zi = xi) || decide (zi = yi)) = true then (1 : Int32) else 0))] [(.int (0 : Int32)), (.int (if (decide (yi = xi)) = true then (0 : Int32) else 1))])) _
      refine XS.icmpNo X18.here hx rfl (hb hby at_139) rfl (teq (by have q := (own_eqn hyim hxim).mp hc131; simp [q])).2 ?_
      show Steps p.tables e below (T18.setTop (mkF m 142 #[.val (.int a1), .val (.int a2), .val (.int a3), .val (.int a4), .val (.int nn), .val (.int (Int32.ofNat xi)), .val (.int (Int32.ofNat yi)), .val (.int (Int32.ofNat zi)), .val (.ref ob), .val (.int (if false = true then (1 : Int32) else 0)), .val (.int (if false = true then (0 : Int32) else 1)), .val (.int (if true = true then (0 : Int32) else 1)), .val (.int (if (decide (yi = xi)) = true then (0 : Int32) else 1)), .val (.int (if true = true then (1 : Int32) else 0)), .val (.int (if true = true then (1 : Int32) else 0)), .val (.int (if (decide (zi = xi) || decide (zi = yi)) = true then (1 : Int32) else 0))] [])) _
      refine XS.iload X18.here hx rfl (hb hby at_142) rfl ?_
      show Steps p.tables e below (T18.setTop (mkF m 144 #[.val (.int a1), .val (.int a2), .val (.int a3), .val (.int a4), .val (.int nn), .val (.int (Int32.ofNat xi)), .val (.int (Int32.ofNat yi)), .val (.int (Int32.ofNat zi)), .val (.ref ob), .val (.int (if false = true then (1 : Int32) else 0)), .val (.int (if false = true then (0 : Int32) else 1)), .val (.int (if true = true then (0 : Int32) else 1)), .val (.int (if (decide (yi = xi)) = true then (0 : Int32) else 1)), .val (.int (if true = true then (1 : Int32) else 0)), .val (.int (if true = true then (1 : Int32) else 0)), .val (.int (if (decide (zi = xi) || decide (zi = yi)) = true then (1 : Int32) else 0))] [(.int (if true = true then (1 : Int32) else 0))])) _
      refine XS.ifNo X18.here hx rfl (hb hby at_144) rfl ((if0 _ _).trans (feq (by decide)).1) ?_
      show Steps p.tables e below (T18.setTop (mkF m 147 #[.val (.int a1), .val (.int a2), .val (.int a3), .val (.int a4), .val (.int nn), .val (.int (Int32.ofNat xi)), .val (.int (Int32.ofNat yi)), .val (.int (Int32.ofNat zi)), .val (.ref ob), .val (.int (if false = true then (1 : Int32) else 0)), .val (.int (if false = true then (0 : Int32) else 1)), .val (.int (if true = true then (0 : Int32) else 1)), .val (.int (if (decide (yi = xi)) = true then (0 : Int32) else 1)), .val (.int (if true = true then (1 : Int32) else 0)), .val (.int (if true = true then (1 : Int32) else 0)), .val (.int (if (decide (zi = xi) || decide (zi = yi)) = true then (1 : Int32) else 0))] [])) _
      refine XS.iload X18.here hx rfl (hb hby at_147) rfl ?_
      show Steps p.tables e below (T18.setTop (mkF m 149 #[.val (.int a1), .val (.int a2), .val (.int a3), .val (.int a4), .val (.int nn), .val (.int (Int32.ofNat xi)), .val (.int (Int32.ofNat yi)), .val (.int (Int32.ofNat zi)), .val (.ref ob), .val (.int (if false = true then (1 : Int32) else 0)), .val (.int (if false = true then (0 : Int32) else 1)), .val (.int (if true = true then (0 : Int32) else 1)), .val (.int (if (decide (yi = xi)) = true then (0 : Int32) else 1)), .val (.int (if true = true then (1 : Int32) else 0)), .val (.int (if true = true then (1 : Int32) else 0)), .val (.int (if (decide (zi = xi) || decide (zi = yi)) = true then (1 : Int32) else 0))] [(.int (if true = true then (1 : Int32) else 0))])) _
      refine XS.ifNo X18.here hx rfl (hb hby at_149) rfl ((if0 _ _).trans (feq (by decide)).1) ?_
      show Steps p.tables e below (T18.setTop (mkF m 152 #[.val (.int a1), .val (.int a2), .val (.int a3), .val (.int a4), .val (.int nn), .val (.int (Int32.ofNat xi)), .val (.int (Int32.ofNat yi)), .val (.int (Int32.ofNat zi)), .val (.ref ob), .val (.int (if false = true then (1 : Int32) else 0)), .val (.int (if false = true then (0 : Int32) else 1)), .val (.int (if true = true then (0 : Int32) else 1)), .val (.int (if (decide (yi = xi)) = true then (0 : Int32) else 1)), .val (.int (if true = true then (1 : Int32) else 0)), .val (.int (if true = true then (1 : Int32) else 0)), .val (.int (if (decide (zi = xi) || decide (zi = yi)) = true then (1 : Int32) else 0))] [])) _
      refine XS.iload X18.here hx rfl (hb hby at_152) rfl ?_
      show Steps p.tables e below (T18.setTop (mkF m 154 #[.val (.int a1), .val (.int a2), .val (.int a3), .val (.int a4), .val (.int nn), .val (.int (Int32.ofNat xi)), .val (.int (Int32.ofNat yi)), .val (.int (Int32.ofNat zi)), .val (.ref ob), .val (.int (if false = true then (1 : Int32) else 0)), .val (.int (if false = true then (0 : Int32) else 1)), .val (.int (if true = true then (0 : Int32) else 1)), .val (.int (if (decide (yi = xi)) = true then (0 : Int32) else 1)), .val (.int (if true = true then (1 : Int32) else 0)), .val (.int (if true = true then (1 : Int32) else 0)), .val (.int (if (decide (zi = xi) || decide (zi = yi)) = true then (1 : Int32) else 0))] [(.int (if (decide (zi = xi) || decide (zi = yi)) = true then (1 : Int32) else 0))])) _
      refine XS.iload X18.here hx rfl (hb hby at_154) rfl ?_
      show Steps p.tables e below (T18.setTop (mkF m 156 #[.val (.int a1), .val (.int a2), .val (.int a3), .val (.int a4), .val (.int nn), .val (.int (Int32.ofNat xi)), .val (.int (Int32.ofNat yi)), .val (.int (Int32.ofNat zi)), .val (.ref ob), .val (.int (if false = true then (1 : Int32) else 0)), .val (.int (if false = true then (0 : Int32) else 1)), .val (.int (if true = true then (0 : Int32) else 1)), .val (.int (if (decide (yi = xi)) = true then (0 : Int32) else 1)), .val (.int (if true = true then (1 : Int32) else 0)), .val (.int (if true = true then (1 : Int32) else 0)), .val (.int (if (decide (zi = xi) || decide (zi = yi)) = true then (1 : Int32) else 0))] [(.int (Int32.ofNat zi)), (.int (if (decide (zi = xi) || decide (zi = yi)) = true then (1 : Int32) else 0))])) _
      refine XS.iload X18.here hx rfl (hb hby at_156) rfl ?_
      exact kt
    by_cases hc158 : (Int32.ofNat zi) = (Int32.ofNat xi)
    case pos =>
      obtain ⟨fs, hr, hrun, hended, hW, hsame⟩ := X18.leave (v := some (.int (1 : Int32))) (fun h => by rw [Bd.returns] at h; cases h) (BodyLoose.notSynchronized Bd)
      refine ⟨_, _, pre20 _ ?_, hrun, hended, _, _, rfl, ?_, ⟨_, rfl⟩, hW, hsame.mono (by decide) (by decide)⟩
      · skip
        show Steps p.tables e below (T18.setTop (mkF m 158 #[.val (.int a1), .val (.int a2), .val (.int a3), .val (.int a4), .val (.int nn), .val (.int (Int32.ofNat xi)), .val (.int (Int32.ofNat yi)), .val (.int (Int32.ofNat zi)), .val (.ref ob), .val (.int (if false = true then (1 : Int32) else 0)), .val (.int (if false = true then (0 : Int32) else 1)), .val (.int (if true = true then (0 : Int32) else 1)), .val (.int (if (decide (yi = xi)) = true then (0 : Int32) else 1)), .val (.int (if true = true then (1 : Int32) else 0)), .val (.int (if true = true then (1 : Int32) else 0)), .val (.int (if (decide (zi = xi) || decide (zi = yi)) = true then (1 : Int32) else 0))] [(.int (Int32.ofNat xi)), (.int (Int32.ofNat zi)), (.int (if (decide (zi = xi) || decide (zi = yi)) = true then (1 : Int32) else 0))])) _
        refine XS.icmpYes X18.here hx rfl (pc0 := 158) (pc' := 168) rfl (hb hby at_158) rfl (teq hc158).1 (by decide) (by decide) ?_
        show Steps p.tables e below (T18.setTop (mkF m 168 #[.val (.int a1), .val (.int a2), .val (.int a3), .val (.int a4), .val (.int nn), .val (.int (Int32.ofNat xi)), .val (.int (Int32.ofNat yi)), .val (.int (Int32.ofNat zi)), .val (.ref ob), .val (.int (if false = true then (1 : Int32) else 0)), .val (.int (if false = true then (0 : Int32) else 1)), .val (.int (if true = true then (0 : Int32) else 1)), .val (.int (if (decide (yi = xi)) = true then (0 : Int32) else 1)), .val (.int (if true = true then (1 : Int32) else 0)), .val (.int (if true = true then (1 : Int32) else 0)), .val (.int (if (decide (zi = xi) || decide (zi = yi)) = true then (1 : Int32) else 0))] [(.int (if (decide (zi = xi) || decide (zi = yi)) = true then (1 : Int32) else 0))])) _
        refine XS.iconst X18.here hx rfl (hb hby at_168) ?_
        show Steps p.tables e below (T18.setTop (mkF m 169 #[.val (.int a1), .val (.int a2), .val (.int a3), .val (.int a4), .val (.int nn), .val (.int (Int32.ofNat xi)), .val (.int (Int32.ofNat yi)), .val (.int (Int32.ofNat zi)), .val (.ref ob), .val (.int (if false = true then (1 : Int32) else 0)), .val (.int (if false = true then (0 : Int32) else 1)), .val (.int (if true = true then (0 : Int32) else 1)), .val (.int (if (decide (yi = xi)) = true then (0 : Int32) else 1)), .val (.int (if true = true then (1 : Int32) else 0)), .val (.int (if true = true then (1 : Int32) else 0)), .val (.int (if (decide (zi = xi) || decide (zi = yi)) = true then (1 : Int32) else 0))] [(.int (1 : Int32)), (.int (if (decide (zi = xi) || decide (zi = yi)) = true then (1 : Int32) else 0))])) _
        refine XS.goto X18.here hx rfl (pc0 := 169) (pc' := 173) rfl (hb hby at_169) (by decide) (by decide) ?_
        show Steps p.tables e below (T18.setTop (mkF m 173 #[.val (.int a1), .val (.int a2), .val (.int a3), .val (.int a4), .val (.int nn), .val (.int (Int32.ofNat xi)), .val (.int (Int32.ofNat yi)), .val (.int (Int32.ofNat zi)), .val (.ref ob), .val (.int (if false = true then (1 : Int32) else 0)), .val (.int (if false = true then (0 : Int32) else 1)), .val (.int (if true = true then (0 : Int32) else 1)), .val (.int (if (decide (yi = xi)) = true then (0 : Int32) else 1)), .val (.int (if true = true then (1 : Int32) else 0)), .val (.int (if true = true then (1 : Int32) else 0)), .val (.int (if (decide (zi = xi) || decide (zi = yi)) = true then (1 : Int32) else 0))] [(.int (1 : Int32)), (.int (if (decide (zi = xi) || decide (zi = yi)) = true then (1 : Int32) else 0))])) _
        refine XS.icmpNo X18.here hx rfl (hb hby at_173) rfl (teq (by have q := (own_eqn hzim hxim).mp hc158; simp [q])).2 ?_
        show Steps p.tables e below (T18.setTop (mkF m 176 #[.val (.int a1), .val (.int a2), .val (.int a3), .val (.int a4), .val (.int nn), .val (.int (Int32.ofNat xi)), .val (.int (Int32.ofNat yi)), .val (.int (Int32.ofNat zi)), .val (.ref ob), .val (.int (if false = true then (1 : Int32) else 0)), .val (.int (if false = true then (0 : Int32) else 1)), .val (.int (if true = true then (0 : Int32) else 1)), .val (.int (if (decide (yi = xi)) = true then (0 : Int32) else 1)), .val (.int (if true = true then (1 : Int32) else 0)), .val (.int (if true = true then (1 : Int32) else 0)), .val (.int (if (decide (zi = xi) || decide (zi = yi)) = true then (1 : Int32) else 0))] [])) _
        refine XS.iconst X18.here hx rfl (hb hby at_176) ?_
        show Steps p.tables e below (T18.setTop (mkF m 177 #[.val (.int a1), .val (.int a2), .val (.int a3), .val (.int a4), .val (.int nn), .val (.int (Int32.ofNat xi)), .val (.int (Int32.ofNat yi)), .val (.int (Int32.ofNat zi)), .val (.ref ob), .val (.int (if false = true then (1 : Int32) else 0)), .val (.int (if false = true then (0 : Int32) else 1)), .val (.int (if true = true then (0 : Int32) else 1)), .val (.int (if (decide (yi = xi)) = true then (0 : Int32) else 1)), .val (.int (if true = true then (1 : Int32) else 0)), .val (.int (if true = true then (1 : Int32) else 0)), .val (.int (if (decide (zi = xi) || decide (zi = yi)) = true then (1 : Int32) else 0))] [(.int (1 : Int32))])) _
        refine XS.goto X18.here hx rfl (pc0 := 177) (pc' := 181) rfl (hb hby at_177) (by decide) (by decide) ?_
        show Steps p.tables e below (T18.setTop (mkF m 181 #[.val (.int a1), .val (.int a2), .val (.int a3), .val (.int a4), .val (.int nn), .val (.int (Int32.ofNat xi)), .val (.int (Int32.ofNat yi)), .val (.int (Int32.ofNat zi)), .val (.ref ob), .val (.int (if false = true then (1 : Int32) else 0)), .val (.int (if false = true then (0 : Int32) else 1)), .val (.int (if true = true then (0 : Int32) else 1)), .val (.int (if (decide (yi = xi)) = true then (0 : Int32) else 1)), .val (.int (if true = true then (1 : Int32) else 0)), .val (.int (if true = true then (1 : Int32) else 0)), .val (.int (if (decide (zi = xi) || decide (zi = yi)) = true then (1 : Int32) else 0))] [(.int (1 : Int32))])) _
        exact retN X18 hx (t := .boolean) Bd.returns (by simp) (hb hby at_181) hr
      · show own_Q0 Z a1 a2 a3 a4 h0 n0 _ T18.heap _
        rw [eq18]
        exact ⟨rfl, N18⟩
    case neg =>
      have pre21 : ∀ t, Steps p.tables e below (T18.setTop (mkF m 165 #[.val (.int a1), .val (.int a2), .val (.int a3), .val (.int a4), .val (.int nn), .val (.int (Int32.ofNat xi)), .val (.int (Int32.ofNat yi)), .val (.int (Int32.ofNat zi)), .val (.ref ob), .val (.int (if false = true then (1 : Int32) else 0)), .val (.int (if false = true then (0 : Int32) else 1)), .val (.int (if true = true then (0 : Int32) else 1)), .val (.int (if (decide (yi = xi)) = true then (0 : Int32) else 1)), .val (.int (if true = true then (1 : Int32) else 0)), .val (.int (if true = true then (1 : Int32) else 0)), .val (.int (if (decide (zi = xi) || decide (zi = yi)) = true then (1 : Int32) else 0))] [(.int (Int32.ofNat yi)), (.int (Int32.ofNat zi)), (.int (if (decide (zi = xi) || decide (zi = yi)) = true then (1 : Int32) else 0))])) t → Steps p.tables e below (s₁.setTop (entryFrame m #[(.int a1), (.int a2), (.int a3), (.int a4)] maxLocals)) t := by
        intro t kt
        refine pre20 t ?_
        show Steps p.tables e below (T18.setTop (mkF m 158 #[.val (.int a1), .val (.int a2), .val (.int a3), .val (.int a4), .val (.int nn), .val (.int (Int32.ofNat xi)), .val (.int (Int32.ofNat yi)), .val (.int (Int32.ofNat zi)), .val (.ref ob), .val (.int (if false = true then (1 : Int32) else 0)), .val (.int (if false = true then (0 : Int32) else 1)), .val (.int (if true = true then (0 : Int32) else 1)), .val (.int (if (decide (yi = xi)) = true then (0 : Int32) else 1)), .val (.int (if true = true then (1 : Int32) else 0)), .val (.int (if true = true then (1 : Int32) else 0)), .val (.int (if (decide (zi = xi) || decide (zi = yi)) = true then (1 : Int32) else 0))] [(.int (Int32.ofNat xi)), (.int (Int32.ofNat zi)), (.int (if (decide (zi = xi) || decide (zi = yi)) = true then (1 : Int32) else 0))])) _
        refine XS.icmpNo X18.here hx rfl (hb hby at_158) rfl (feq hc158).1 ?_
        show Steps p.tables e below (T18.setTop (mkF m 161 #[.val (.int a1), .val (.int a2), .val (.int a3), .val (.int a4), .val (.int nn), .val (.int (Int32.ofNat xi)), .val (.int (Int32.ofNat yi)), .val (.int (Int32.ofNat zi)), .val (.ref ob), .val (.int (if false = true then (1 : Int32) else 0)), .val (.int (if false = true then (0 : Int32) else 1)), .val (.int (if true = true then (0 : Int32) else 1)), .val (.int (if (decide (yi = xi)) = true then (0 : Int32) else 1)), .val (.int (if true = true then (1 : Int32) else 0)), .val (.int (if true = true then (1 : Int32) else 0)), .val (.int (if (decide (zi = xi) || decide (zi = yi)) = true then (1 : Int32) else 0))] [(.int (if (decide (zi = xi) || decide (zi = yi)) = true then (1 : Int32) else 0))])) _
        refine XS.iload X18.here hx rfl (hb hby at_161) rfl ?_
        show Steps p.tables e below (T18.setTop (mkF m 163 #[.val (.int a1), .val (.int a2), .val (.int a3), .val (.int a4), .val (.int nn), .val (.int (Int32.ofNat xi)), .val (.int (Int32.ofNat yi)), .val (.int (Int32.ofNat zi)), .val (.ref ob), .val (.int (if false = true then (1 : Int32) else 0)), .val (.int (if false = true then (0 : Int32) else 1)), .val (.int (if true = true then (0 : Int32) else 1)), .val (.int (if (decide (yi = xi)) = true then (0 : Int32) else 1)), .val (.int (if true = true then (1 : Int32) else 0)), .val (.int (if true = true then (1 : Int32) else 0)), .val (.int (if (decide (zi = xi) || decide (zi = yi)) = true then (1 : Int32) else 0))] [(.int (Int32.ofNat zi)), (.int (if (decide (zi = xi) || decide (zi = yi)) = true then (1 : Int32) else 0))])) _
        refine XS.iload X18.here hx rfl (hb hby at_163) rfl ?_
        exact kt
      by_cases hc165 : (Int32.ofNat zi) = (Int32.ofNat yi)
      case pos =>
        obtain ⟨fs, hr, hrun, hended, hW, hsame⟩ := X18.leave (v := some (.int (1 : Int32))) (fun h => by rw [Bd.returns] at h; cases h) (BodyLoose.notSynchronized Bd)
        refine ⟨_, _, pre21 _ ?_, hrun, hended, _, _, rfl, ?_, ⟨_, rfl⟩, hW, hsame.mono (by decide) (by decide)⟩
        · skip
          show Steps p.tables e below (T18.setTop (mkF m 165 #[.val (.int a1), .val (.int a2), .val (.int a3), .val (.int a4), .val (.int nn), .val (.int (Int32.ofNat xi)), .val (.int (Int32.ofNat yi)), .val (.int (Int32.ofNat zi)), .val (.ref ob), .val (.int (if false = true then (1 : Int32) else 0)), .val (.int (if false = true then (0 : Int32) else 1)), .val (.int (if true = true then (0 : Int32) else 1)), .val (.int (if (decide (yi = xi)) = true then (0 : Int32) else 1)), .val (.int (if true = true then (1 : Int32) else 0)), .val (.int (if true = true then (1 : Int32) else 0)), .val (.int (if (decide (zi = xi) || decide (zi = yi)) = true then (1 : Int32) else 0))] [(.int (Int32.ofNat yi)), (.int (Int32.ofNat zi)), (.int (if (decide (zi = xi) || decide (zi = yi)) = true then (1 : Int32) else 0))])) _
          refine XS.icmpNo X18.here hx rfl (hb hby at_165) rfl (teq hc165).2 ?_
          show Steps p.tables e below (T18.setTop (mkF m 168 #[.val (.int a1), .val (.int a2), .val (.int a3), .val (.int a4), .val (.int nn), .val (.int (Int32.ofNat xi)), .val (.int (Int32.ofNat yi)), .val (.int (Int32.ofNat zi)), .val (.ref ob), .val (.int (if false = true then (1 : Int32) else 0)), .val (.int (if false = true then (0 : Int32) else 1)), .val (.int (if true = true then (0 : Int32) else 1)), .val (.int (if (decide (yi = xi)) = true then (0 : Int32) else 1)), .val (.int (if true = true then (1 : Int32) else 0)), .val (.int (if true = true then (1 : Int32) else 0)), .val (.int (if (decide (zi = xi) || decide (zi = yi)) = true then (1 : Int32) else 0))] [(.int (if (decide (zi = xi) || decide (zi = yi)) = true then (1 : Int32) else 0))])) _
          refine XS.iconst X18.here hx rfl (hb hby at_168) ?_
          show Steps p.tables e below (T18.setTop (mkF m 169 #[.val (.int a1), .val (.int a2), .val (.int a3), .val (.int a4), .val (.int nn), .val (.int (Int32.ofNat xi)), .val (.int (Int32.ofNat yi)), .val (.int (Int32.ofNat zi)), .val (.ref ob), .val (.int (if false = true then (1 : Int32) else 0)), .val (.int (if false = true then (0 : Int32) else 1)), .val (.int (if true = true then (0 : Int32) else 1)), .val (.int (if (decide (yi = xi)) = true then (0 : Int32) else 1)), .val (.int (if true = true then (1 : Int32) else 0)), .val (.int (if true = true then (1 : Int32) else 0)), .val (.int (if (decide (zi = xi) || decide (zi = yi)) = true then (1 : Int32) else 0))] [(.int (1 : Int32)), (.int (if (decide (zi = xi) || decide (zi = yi)) = true then (1 : Int32) else 0))])) _
          refine XS.goto X18.here hx rfl (pc0 := 169) (pc' := 173) rfl (hb hby at_169) (by decide) (by decide) ?_
          show Steps p.tables e below (T18.setTop (mkF m 173 #[.val (.int a1), .val (.int a2), .val (.int a3), .val (.int a4), .val (.int nn), .val (.int (Int32.ofNat xi)), .val (.int (Int32.ofNat yi)), .val (.int (Int32.ofNat zi)), .val (.ref ob), .val (.int (if false = true then (1 : Int32) else 0)), .val (.int (if false = true then (0 : Int32) else 1)), .val (.int (if true = true then (0 : Int32) else 1)), .val (.int (if (decide (yi = xi)) = true then (0 : Int32) else 1)), .val (.int (if true = true then (1 : Int32) else 0)), .val (.int (if true = true then (1 : Int32) else 0)), .val (.int (if (decide (zi = xi) || decide (zi = yi)) = true then (1 : Int32) else 0))] [(.int (1 : Int32)), (.int (if (decide (zi = xi) || decide (zi = yi)) = true then (1 : Int32) else 0))])) _
          refine XS.icmpNo X18.here hx rfl (hb hby at_173) rfl (teq (by have q := (own_eqn hzim hyim).mp hc165; simp [q])).2 ?_
          show Steps p.tables e below (T18.setTop (mkF m 176 #[.val (.int a1), .val (.int a2), .val (.int a3), .val (.int a4), .val (.int nn), .val (.int (Int32.ofNat xi)), .val (.int (Int32.ofNat yi)), .val (.int (Int32.ofNat zi)), .val (.ref ob), .val (.int (if false = true then (1 : Int32) else 0)), .val (.int (if false = true then (0 : Int32) else 1)), .val (.int (if true = true then (0 : Int32) else 1)), .val (.int (if (decide (yi = xi)) = true then (0 : Int32) else 1)), .val (.int (if true = true then (1 : Int32) else 0)), .val (.int (if true = true then (1 : Int32) else 0)), .val (.int (if (decide (zi = xi) || decide (zi = yi)) = true then (1 : Int32) else 0))] [])) _
          refine XS.iconst X18.here hx rfl (hb hby at_176) ?_
          show Steps p.tables e below (T18.setTop (mkF m 177 #[.val (.int a1), .val (.int a2), .val (.int a3), .val (.int a4), .val (.int nn), .val (.int (Int32.ofNat xi)), .val (.int (Int32.ofNat yi)), .val (.int (Int32.ofNat zi)), .val (.ref ob), .val (.int (if false = true then (1 : Int32) else 0)), .val (.int (if false = true then (0 : Int32) else 1)), .val (.int (if true = true then (0 : Int32) else 1)), .val (.int (if (decide (yi = xi)) = true then (0 : Int32) else 1)), .val (.int (if true = true then (1 : Int32) else 0)), .val (.int (if true = true then (1 : Int32) else 0)), .val (.int (if (decide (zi = xi) || decide (zi = yi)) = true then (1 : Int32) else 0))] [(.int (1 : Int32))])) _
          refine XS.goto X18.here hx rfl (pc0 := 177) (pc' := 181) rfl (hb hby at_177) (by decide) (by decide) ?_
          show Steps p.tables e below (T18.setTop (mkF m 181 #[.val (.int a1), .val (.int a2), .val (.int a3), .val (.int a4), .val (.int nn), .val (.int (Int32.ofNat xi)), .val (.int (Int32.ofNat yi)), .val (.int (Int32.ofNat zi)), .val (.ref ob), .val (.int (if false = true then (1 : Int32) else 0)), .val (.int (if false = true then (0 : Int32) else 1)), .val (.int (if true = true then (0 : Int32) else 1)), .val (.int (if (decide (yi = xi)) = true then (0 : Int32) else 1)), .val (.int (if true = true then (1 : Int32) else 0)), .val (.int (if true = true then (1 : Int32) else 0)), .val (.int (if (decide (zi = xi) || decide (zi = yi)) = true then (1 : Int32) else 0))] [(.int (1 : Int32))])) _
          exact retN X18 hx (t := .boolean) Bd.returns (by simp) (hb hby at_181) hr
        · show own_Q0 Z a1 a2 a3 a4 h0 n0 _ T18.heap _
          rw [eq18]
          exact ⟨rfl, N18⟩
      case neg =>
        obtain ⟨fs, hr, hrun, hended, hW, hsame⟩ := X18.leave (v := some (.int (1 : Int32))) (fun h => by rw [Bd.returns] at h; cases h) (BodyLoose.notSynchronized Bd)
        refine ⟨_, _, pre21 _ ?_, hrun, hended, _, _, rfl, ?_, ⟨_, rfl⟩, hW, hsame.mono (by decide) (by decide)⟩
        · skip
          show Steps p.tables e below (T18.setTop (mkF m 165 #[.val (.int a1), .val (.int a2), .val (.int a3), .val (.int a4), .val (.int nn), .val (.int (Int32.ofNat xi)), .val (.int (Int32.ofNat yi)), .val (.int (Int32.ofNat zi)), .val (.ref ob), .val (.int (if false = true then (1 : Int32) else 0)), .val (.int (if false = true then (0 : Int32) else 1)), .val (.int (if true = true then (0 : Int32) else 1)), .val (.int (if (decide (yi = xi)) = true then (0 : Int32) else 1)), .val (.int (if true = true then (1 : Int32) else 0)), .val (.int (if true = true then (1 : Int32) else 0)), .val (.int (if (decide (zi = xi) || decide (zi = yi)) = true then (1 : Int32) else 0))] [(.int (Int32.ofNat yi)), (.int (Int32.ofNat zi)), (.int (if (decide (zi = xi) || decide (zi = yi)) = true then (1 : Int32) else 0))])) _
          refine XS.icmpYes X18.here hx rfl (pc0 := 165) (pc' := 172) rfl (hb hby at_165) rfl (feq hc165).2 (by decide) (by decide) ?_
          show Steps p.tables e below (T18.setTop (mkF m 172 #[.val (.int a1), .val (.int a2), .val (.int a3), .val (.int a4), .val (.int nn), .val (.int (Int32.ofNat xi)), .val (.int (Int32.ofNat yi)), .val (.int (Int32.ofNat zi)), .val (.ref ob), .val (.int (if false = true then (1 : Int32) else 0)), .val (.int (if false = true then (0 : Int32) else 1)), .val (.int (if true = true then (0 : Int32) else 1)), .val (.int (if (decide (yi = xi)) = true then (0 : Int32) else 1)), .val (.int (if true = true then (1 : Int32) else 0)), .val (.int (if true = true then (1 : Int32) else 0)), .val (.int (if (decide (zi = xi) || decide (zi = yi)) = true then (1 : Int32) else 0))] [(.int (if (decide (zi = xi) || decide (zi = yi)) = true then (1 : Int32) else 0))])) _
          refine XS.iconst X18.here hx rfl (hb hby at_172) ?_
          show Steps p.tables e below (T18.setTop (mkF m 173 #[.val (.int a1), .val (.int a2), .val (.int a3), .val (.int a4), .val (.int nn), .val (.int (Int32.ofNat xi)), .val (.int (Int32.ofNat yi)), .val (.int (Int32.ofNat zi)), .val (.ref ob), .val (.int (if false = true then (1 : Int32) else 0)), .val (.int (if false = true then (0 : Int32) else 1)), .val (.int (if true = true then (0 : Int32) else 1)), .val (.int (if (decide (yi = xi)) = true then (0 : Int32) else 1)), .val (.int (if true = true then (1 : Int32) else 0)), .val (.int (if true = true then (1 : Int32) else 0)), .val (.int (if (decide (zi = xi) || decide (zi = yi)) = true then (1 : Int32) else 0))] [(.int (0 : Int32)), (.int (if (decide (zi = xi) || decide (zi = yi)) = true then (1 : Int32) else 0))])) _
          refine XS.icmpNo X18.here hx rfl (hb hby at_173) rfl (teq (by have q1 : ¬ zi = xi := fun q => hc158 ((own_eqn hzim hxim).mpr q); have q2 : ¬ zi = yi := fun q => hc165 ((own_eqn hzim hyim).mpr q); simp [q1, q2])).2 ?_
          show Steps p.tables e below (T18.setTop (mkF m 176 #[.val (.int a1), .val (.int a2), .val (.int a3), .val (.int a4), .val (.int nn), .val (.int (Int32.ofNat xi)), .val (.int (Int32.ofNat yi)), .val (.int (Int32.ofNat zi)), .val (.ref ob), .val (.int (if false = true then (1 : Int32) else 0)), .val (.int (if false = true then (0 : Int32) else 1)), .val (.int (if true = true then (0 : Int32) else 1)), .val (.int (if (decide (yi = xi)) = true then (0 : Int32) else 1)), .val (.int (if true = true then (1 : Int32) else 0)), .val (.int (if true = true then (1 : Int32) else 0)), .val (.int (if (decide (zi = xi) || decide (zi = yi)) = true then (1 : Int32) else 0))] [])) _
          refine XS.iconst X18.here hx rfl (hb hby at_176) ?_
          show Steps p.tables e below (T18.setTop (mkF m 177 #[.val (.int a1), .val (.int a2), .val (.int a3), .val (.int a4), .val (.int nn), .val (.int (Int32.ofNat xi)), .val (.int (Int32.ofNat yi)), .val (.int (Int32.ofNat zi)), .val (.ref ob), .val (.int (if false = true then (1 : Int32) else 0)), .val (.int (if false = true then (0 : Int32) else 1)), .val (.int (if true = true then (0 : Int32) else 1)), .val (.int (if (decide (yi = xi)) = true then (0 : Int32) else 1)), .val (.int (if true = true then (1 : Int32) else 0)), .val (.int (if true = true then (1 : Int32) else 0)), .val (.int (if (decide (zi = xi) || decide (zi = yi)) = true then (1 : Int32) else 0))] [(.int (1 : Int32))])) _
          refine XS.goto X18.here hx rfl (pc0 := 177) (pc' := 181) rfl (hb hby at_177) (by decide) (by decide) ?_
          show Steps p.tables e below (T18.setTop (mkF m 181 #[.val (.int a1), .val (.int a2), .val (.int a3), .val (.int a4), .val (.int nn), .val (.int (Int32.ofNat xi)), .val (.int (Int32.ofNat yi)), .val (.int (Int32.ofNat zi)), .val (.ref ob), .val (.int (if false = true then (1 : Int32) else 0)), .val (.int (if false = true then (0 : Int32) else 1)), .val (.int (if true = true then (0 : Int32) else 1)), .val (.int (if (decide (yi = xi)) = true then (0 : Int32) else 1)), .val (.int (if true = true then (1 : Int32) else 0)), .val (.int (if true = true then (1 : Int32) else 0)), .val (.int (if (decide (zi = xi) || decide (zi = yi)) = true then (1 : Int32) else 0))] [(.int (1 : Int32))])) _
          exact retN X18 hx (t := .boolean) Bd.returns (by simp) (hb hby at_181) hr
        · show own_Q0 Z a1 a2 a3 a4 h0 n0 _ T18.heap _
          rw [eq18]
          exact ⟨rfl, N18⟩
  case neg =>
    have pre22 : ∀ t, Steps p.tables e below (T18.setTop (mkF m 158 #[.val (.int a1), .val (.int a2), .val (.int a3), .val (.int a4), .val (.int nn), .val (.int (Int32.ofNat xi)), .val (.int (Int32.ofNat yi)), .val (.int (Int32.ofNat zi)), .val (.ref ob), .val (.int (if false = true then (1 : Int32) else 0)), .val (.int (if false = true then (0 : Int32) else 1)), .val (.int (if true = true then (0 : Int32) else 1)), .val (.int (if (decide (yi = xi)) = true then (0 : Int32) else 1)), .val (.int (if true = true then (1 : Int32) else 0)), .val (.int (if true = true then (1 : Int32) else 0)), .val (.int (if (decide (zi = xi) || decide (zi = yi)) = true then (1 : Int32) else 0))] [(.int (Int32.ofNat xi)), (.int (Int32.ofNat zi)), (.int (if (decide (zi = xi) || decide (zi = yi)) = true then (1 : Int32) else 0))])) t → Steps p.tables e below (s₁.setTop (entryFrame m #[(.int a1), (.int a2), (.int a3), (.int a4)] maxLocals)) t := by
      intro t kt
      refine pre19 t ?_
      show Steps p.tables e below (T18.setTop (mkF m 131 #[.val (.int a1), .val (.int a2), .val (.int a3), .val (.int a4), .val (.int nn), .val (.int (Int32.ofNat xi)), .val (.int (Int32.ofNat yi)), .val (.int (Int32.ofNat zi)), .val (.ref ob), .val (.int (if false = true then (1 : Int32) else 0)), .val (.int (if false = true then (0 : Int32) else 1)), .val (.int (if true = true then (0 : Int32) else 1)), .val (.int (if (decide (yi = xi)) = true then (0 : Int32) else 1)), .val (.int (if true = true then (1 : Int32) else 0)), .val (.int (if true = true then (1 : Int32) else 0)), .val (.int (if (decide (zi = xi) || decide (zi = yi)) = true then (1 : Int32) else 0))] [(.int (Int32.ofNat xi)), (.int (Int32.ofNat yi)), (.int (if (decide (yi = xi)) = true then (0 : Int32) else 1))])) _
      refine XS.icmpNo X18.here hx rfl (hb hby at_131) rfl (feq hc131).1 ?_
      show Steps p.tables e below (T18.setTop (mkF m 134 #[.val (.int a1), .val (.int a2), .val (.int a3), .val (.int a4), .val (.int nn), .val (.int (Int32.ofNat xi)), .val (.int (Int32.ofNat yi)), .val (.int (Int32.ofNat zi)), .val (.ref ob), .val (.int (if false = true then (1 : Int32) else 0)), .val (.int (if false = true then (0 : Int32) else 1)), .val (.int (if true = true then (0 : Int32) else 1)), .val (.int (if (decide (yi = xi)) = true then (0 : Int32) else 1)), .val (.int (if true = true then (1 : Int32) else 0)), .val (.int (if true = true then (1 : Int32) else 0)), .val (.int (if (decide (zi = xi) || decide (zi = yi)) = true then (1 : Int32) else 0))] [(.int (if (decide (yi = xi)) = true then (0 : Int32) else 1))])) _
      refine XS.iconst X18.here hx rfl (hb hby at_134) ?_
      show Steps p.tables e below (T18.setTop (mkF m 135 #[.val (.int a1), .val (.int a2), .val (.int a3), .val (.int a4), .val (.int nn), .val (.int (Int32.ofNat xi)), .val (.int (Int32.ofNat yi)), .val (.int (Int32.ofNat zi)), .val (.ref ob), .val (.int (if false = true then (1 : Int32) else 0)), .val (.int (if false = true then (0 : Int32) else 1)), .val (.int (if true = true then (0 : Int32) else 1)), .val (.int (if (decide (yi = xi)) = true then (0 : Int32) else 1)), .val (.int (if true = true then (1 : Int32) else 0)), .val (.int (if true = true then (1 : Int32) else 0)), .val (.int (if (decide (zi = xi) || decide (zi = yi)) = true then (1 : Int32) else 0))] [(.int (1 : Int32)), (.int (if (decide (yi = xi)) = true then (0 : Int32) else 1))])) _
      refine XS.goto X18.here hx rfl (pc0 := 135) (pc' := 139) rfl (hb hby at_135) (by decide) (by decide) ?_
      show Steps p.tables e below (T18.setTop (mkF m 139 #[.val (.int a1), .val (.int a2), .val (.int a3), .val (.int a4), .val (.int nn), .val (.int (Int32.ofNat xi)), .val (.int (Int32.ofNat yi)), .val (.int (Int32.ofNat zi)), .val (.ref ob), .val (.int (if false = true then (1 : Int32) else 0)), .val (.int (if false = true then (0 : Int32) else 1)), .val (.int (if true = true then (0 : Int32) else 1)), .val (.int (if (decide (yi = xi)) = true then (0 : Int32) else 1)), .val (.int (if true = true then (1 : Int32) else 0)), .val (.int (if true = true then (1 : Int32) else 0)), .val (.int (if (decide (zi = xi) || decide (zi = yi)) = true then (1 : Int32) else 0))] [(.int (1 : Int32)), (.int (if (decide (yi = xi)) = true then (0 : Int32) else 1))])) _
      refine XS.icmpNo X18.here hx rfl (hb hby at_139) rfl (teq (by have q : ¬ yi = xi := fun q => hc131 ((own_eqn hyim hxim).mpr q); simp [q])).2 ?_
      show Steps p.tables e below (T18.setTop (mkF m 142 #[.val (.int a1), .val (.int a2), .val (.int a3), .val (.int a4), .val (.int nn), .val (.int (Int32.ofNat xi)), .val (.int (Int32.ofNat yi)), .val (.int (Int32.ofNat zi)), .val (.ref ob), .val (.int (if false = true then (1 : Int32) else 0)), .val (.int (if false = true then (0 : Int32) else 1)), .val (.int (if true = true then (0 : Int32) else 1)), .val (.int (if (decide (yi = xi)) = true then (0 : Int32) else 1)), .val (.int (if true = true then (1 : Int32) else 0)), .val (.int (if true = true then (1 : Int32) else 0)), .val (.int (if (decide (zi = xi) || decide (zi = yi)) = true then (1 : Int32) else 0))] [])) _
      refine XS.iload X18.here hx rfl (hb hby at_142) rfl ?_
      show Steps p.tables e below (T18.setTop (mkF m 144 #[.val (.int a1), .val (.int a2), .val (.int a3), .val (.int a4), .val (.int nn), .val (.int (Int32.ofNat xi)), .val (.int (Int32.ofNat yi)), .val (.int (Int32.ofNat zi)), .val (.ref ob), .val (.int (if false = true then (1 : Int32) else 0)), .val (.int (if false = true then (0 : Int32) else 1)), .val (.int (if true = true then (0 : Int32) else 1)), .val (.int (if (decide (yi = xi)) = true then (0 : Int32) else 1)), .val (.int (if true = true then (1 : Int32) else 0)), .val (.int (if true = true then (1 : Int32) else 0)), .val (.int (if (decide (zi = xi) || decide (zi = yi)) = true then (1 : Int32) else 0))] [(.int (if true = true then (1 : Int32) else 0))])) _
      refine XS.ifNo X18.here hx rfl (hb hby at_144) rfl ((if0 _ _).trans (feq (by decide)).1) ?_
      show Steps p.tables e below (T18.setTop (mkF m 147 #[.val (.int a1), .val (.int a2), .val (.int a3), .val (.int a4), .val (.int nn), .val (.int (Int32.ofNat xi)), .val (.int (Int32.ofNat yi)), .val (.int (Int32.ofNat zi)), .val (.ref ob), .val (.int (if false = true then (1 : Int32) else 0)), .val (.int (if false = true then (0 : Int32) else 1)), .val (.int (if true = true then (0 : Int32) else 1)), .val (.int (if (decide (yi = xi)) = true then (0 : Int32) else 1)), .val (.int (if true = true then (1 : Int32) else 0)), .val (.int (if true = true then (1 : Int32) else 0)), .val (.int (if (decide (zi = xi) || decide (zi = yi)) = true then (1 : Int32) else 0))] [])) _
      refine XS.iload X18.here hx rfl (hb hby at_147) rfl ?_
      show Steps p.tables e below (T18.setTop (mkF m 149 #[.val (.int a1), .val (.int a2), .val (.int a3), .val (.int a4), .val (.int nn), .val (.int (Int32.ofNat xi)), .val (.int (Int32.ofNat yi)), .val (.int (Int32.ofNat zi)), .val (.ref ob), .val (.int (if false = true then (1 : Int32) else 0)), .val (.int (if false = true then (0 : Int32) else 1)), .val (.int (if true = true then (0 : Int32) else 1)), .val (.int (if (decide (yi = xi)) = true then (0 : Int32) else 1)), .val (.int (if true = true then (1 : Int32) else 0)), .val (.int (if true = true then (1 : Int32) else 0)), .val (.int (if (decide (zi = xi) || decide (zi = yi)) = true then (1 : Int32) else 0))] [(.int (if true = true then (1 : Int32) else 0))])) _
      refine XS.ifNo X18.here hx rfl (hb hby at_149) rfl ((if0 _ _).trans (feq (by decide)).1) ?_
      show Steps p.tables e below (T18.setTop (mkF m 152 #[.val (.int a1), .val (.int a2), .val (.int a3), .val (.int a4), .val (.int nn), .val (.int (Int32.ofNat xi)), .val (.int (Int32.ofNat yi)), .val (.int (Int32.ofNat zi)), .val (.ref ob), .val (.int (if false = true then (1 : Int32) else 0)), .val (.int (if false = true then (0 : Int32) else 1)), .val (.int (if true = true then (0 : Int32) else 1)), .val (.int (if (decide (yi = xi)) = true then (0 : Int32) else 1)), .val (.int (if true = true then (1 : Int32) else 0)), .val (.int (if true = true then (1 : Int32) else 0)), .val (.int (if (decide (zi = xi) || decide (zi = yi)) = true then (1 : Int32) else 0))] [])) _
      refine XS.iload X18.here hx rfl (hb hby at_152) rfl ?_
      show Steps p.tables e below (T18.setTop (mkF m 154 #[.val (.int a1), .val (.int a2), .val (.int a3), .val (.int a4), .val (.int nn), .val (.int (Int32.ofNat xi)), .val (.int (Int32.ofNat yi)), .val (.int (Int32.ofNat zi)), .val (.ref ob), .val (.int (if false = true then (1 : Int32) else 0)), .val (.int (if false = true then (0 : Int32) else 1)), .val (.int (if true = true then (0 : Int32) else 1)), .val (.int (if (decide (yi = xi)) = true then (0 : Int32) else 1)), .val (.int (if true = true then (1 : Int32) else 0)), .val (.int (if true = true then (1 : Int32) else 0)), .val (.int (if (decide (zi = xi) || decide (zi = yi)) = true then (1 : Int32) else 0))] [(.int (if (decide (zi = xi) || decide (zi = yi)) = true then (1 : Int32) else 0))])) _
      refine XS.iload X18.here hx rfl (hb hby at_154) rfl ?_
      show Steps p.tables e below (T18.setTop (mkF m 156 #[.val (.int a1), .val (.int a2), .val (.int a3), .val (.int a4), .val (.int nn), .val (.int (Int32.ofNat xi)), .val (.int (Int32.ofNat yi)), .val (.int (Int32.ofNat zi)), .val (.ref ob), .val (.int (if false = true then (1 : Int32) else 0)), .val (.int (if false = true then (0 : Int32) else 1)), .val (.int (if true = true then (0 : Int32) else 1)), .val (.int (if (decide (yi = xi)) = true then (0 : Int32) else 1)), .val (.int (if true = true then (1 : Int32) else 0)), .val (.int (if true = true then (1 : Int32) else 0)), .val (.int (if (decide (zi = xi) || decide (zi = yi)) = true then (1 : Int32) else 0))] [(.int (Int32.ofNat zi)), (.int (if (decide (zi = xi) || decide (zi = yi)) = true then (1 : Int32) else 0))])) _
      refine XS.iload X18.here hx rfl (hb hby at_156) rfl ?_
      exact kt
    by_cases hc158_2 : (Int32.ofNat zi) = (Int32.ofNat xi)
    case pos =>
      obtain ⟨fs, hr, hrun, hended, hW, hsame⟩ := X18.leave (v := some (.int (1 : Int32))) (fun h => by rw [Bd.returns] at h; cases h) (BodyLoose.notSynchronized Bd)
      refine ⟨_, _, pre22 _ ?_, hrun, hended, _, _, rfl, ?_, ⟨_, rfl⟩, hW, hsame.mono (by decide) (by decide)⟩
      · skip
        show Steps p.tables e below (T18.setTop (mkF m 158 #[.val (.int a1), .val (.int a2), .val (.int a3), .val (.int a4), .val (.int nn), .val (.int (Int32.ofNat xi)), .val (.int (Int32.ofNat yi)), .val (.int (Int32.ofNat zi)), .val (.ref ob), .val (.int (if false = true then (1 : Int32) else 0)), .val (.int (if false = true then (0 : Int32) else 1)), .val (.int (if true = true then (0 : Int32) else 1)), .val (.int (if (decide (yi = xi)) = true then (0 : Int32) else 1)), .val (.int (if true = true then (1 : Int32) else 0)), .val (.int (if true = true then (1 : Int32) else 0)), .val (.int (if (decide (zi = xi) || decide (zi = yi)) = true then (1 : Int32) else 0))] [(.int (Int32.ofNat xi)), (.int (Int32.ofNat zi)), (.int (if (decide (zi = xi) || decide (zi = yi)) = true then (1 : Int32) else 0))])) _
        refine XS.icmpYes X18.here hx rfl (pc0 := 158) (pc' := 168) rfl (hb hby at_158) rfl (teq hc158_2).1 (by decide) (by decide) ?_
        show Steps p.tables e below (T18.setTop (mkF m 168 #[.val (.int a1), .val (.int a2), .val (.int a3), .val (.int a4), .val (.int nn), .val (.int (Int32.ofNat xi)), .val (.int (Int32.ofNat yi)), .val (.int (Int32.ofNat zi)), .val (.ref ob), .val (.int (if false = true then (1 : Int32) else 0)), .val (.int (if false = true then (0 : Int32) else 1)), .val (.int (if true = true then (0 : Int32) else 1)), .val (.int (if (decide (yi = xi)) = true then (0 : Int32) else 1)), .val (.int (if true = true then (1 : Int32) else 0)), .val (.int (if true = true then (1 : Int32) else 0)), .val (.int (if (decide (zi = xi) || decide (zi = yi)) = true then (1 : Int32) else 0))] [(.int (if (decide (zi = xi) || decide (zi = yi)) = true then (1 : Int32) else 0))])) _
        refine XS.iconst X18.here hx rfl (hb hby at_168) ?_
        show Steps p.tables e below (T18.setTop (mkF m 169 #[.val (.int a1), .val (.int a2), .val (.int a3), .val (.int a4), .val (.int nn), .val (.int (Int32.ofNat xi)), .val (.int (Int32.ofNat yi)), .val (.int (Int32.ofNat zi)), .val (.ref ob), .val (.int (if false = true then (1 : Int32) else 0)), .val (.int (if false = true then (0 : Int32) else 1)), .val (.int (if true = true then (0 : Int32) else 1)), .val (.int (if (decide (yi = xi)) = true then (0 : Int32) else 1)), .val (.int (if true = true then (1 : Int32) else 0)), .val (.int (if true = true then (1 : Int32) else 0)), .val (.int (if (decide (zi = xi) || decide (zi = yi)) = true then (1 : Int32) else 0))] [(.int (1 : Int32)), (.int (if (decide (zi = xi) || decide (zi = yi)) = true then (1 : Int32) else 0))])) _
        refine XS.goto X18.here hx rfl (pc0 := 169) (pc' := 173) rfl (hb hby at_169) (by decide) (by decide) ?_
        show Steps p.tables e below (T18.setTop (mkF m 173 #[.val (.int a1), .val (.int a2), .val (.int a3), .val (.int a4), .val (.int nn), .val (.int (Int32.ofNat xi)), .val (.int (Int32.ofNat yi)), .val (.int (Int32.ofNat zi)), .val (.ref ob), .val (.int (if false = true then (1 : Int32) else 0)), .val (.int (if false = true then (0 : Int32) else 1)), .val (.int (if true = true then (0 : Int32) else 1)), .val (.int (if (decide (yi = xi)) = true then (0 : Int32) else 1)), .val (.int (if true = true then (1 : Int32) else 0)), .val (.int (if true = true then (1 : Int32) else 0)), .val (.int (if (decide (zi = xi) || decide (zi = yi)) = true then (1 : Int32) else 0))] [(.int (1 : Int32)), (.int (if (decide (zi = xi) || decide (zi = yi)) = true then (1 : Int32) else 0))])) _
        refine XS.icmpNo X18.here hx rfl (hb hby at_173) rfl (teq (by have q := (own_eqn hzim hxim).mp hc158_2; simp [q])).2 ?_
        show Steps p.tables e below (T18.setTop (mkF m 176 #[.val (.int a1), .val (.int a2), .val (.int a3), .val (.int a4), .val (.int nn), .val (.int (Int32.ofNat xi)), .val (.int (Int32.ofNat yi)), .val (.int (Int32.ofNat zi)), .val (.ref ob), .val (.int (if false = true then (1 : Int32) else 0)), .val (.int (if false = true then (0 : Int32) else 1)), .val (.int (if true = true then (0 : Int32) else 1)), .val (.int (if (decide (yi = xi)) = true then (0 : Int32) else 1)), .val (.int (if true = true then (1 : Int32) else 0)), .val (.int (if true = true then (1 : Int32) else 0)), .val (.int (if (decide (zi = xi) || decide (zi = yi)) = true then (1 : Int32) else 0))] [])) _
        refine XS.iconst X18.here hx rfl (hb hby at_176) ?_
        show Steps p.tables e below (T18.setTop (mkF m 177 #[.val (.int a1), .val (.int a2), .val (.int a3), .val (.int a4), .val (.int nn), .val (.int (Int32.ofNat xi)), .val (.int (Int32.ofNat yi)), .val (.int (Int32.ofNat zi)), .val (.ref ob), .val (.int (if false = true then (1 : Int32) else 0)), .val (.int (if false = true then (0 : Int32) else 1)), .val (.int (if true = true then (0 : Int32) else 1)), .val (.int (if (decide (yi = xi)) = true then (0 : Int32) else 1)), .val (.int (if true = true then (1 : Int32) else 0)), .val (.int (if true = true then (1 : Int32) else 0)), .val (.int (if (decide (zi = xi) || decide (zi = yi)) = true then (1 : Int32) else 0))] [(.int (1 : Int32))])) _
        refine XS.goto X18.here hx rfl (pc0 := 177) (pc' := 181) rfl (hb hby at_177) (by decide) (by decide) ?_
        show Steps p.tables e below (T18.setTop (mkF m 181 #[.val (.int a1), .val (.int a2), .val (.int a3), .val (.int a4), .val (.int nn), .val (.int (Int32.ofNat xi)), .val (.int (Int32.ofNat yi)), .val (.int (Int32.ofNat zi)), .val (.ref ob), .val (.int (if false = true then (1 : Int32) else 0)), .val (.int (if false = true then (0 : Int32) else 1)), .val (.int (if true = true then (0 : Int32) else 1)), .val (.int (if (decide (yi = xi)) = true then (0 : Int32) else 1)), .val (.int (if true = true then (1 : Int32) else 0)), .val (.int (if true = true then (1 : Int32) else 0)), .val (.int (if (decide (zi = xi) || decide (zi = yi)) = true then (1 : Int32) else 0))] [(.int (1 : Int32))])) _
        exact retN X18 hx (t := .boolean) Bd.returns (by simp) (hb hby at_181) hr
      · show own_Q0 Z a1 a2 a3 a4 h0 n0 _ T18.heap _
        rw [eq18]
        exact ⟨rfl, N18⟩
    case neg =>
      have pre23 : ∀ t, Steps p.tables e below (T18.setTop (mkF m 165 #[.val (.int a1), .val (.int a2), .val (.int a3), .val (.int a4), .val (.int nn), .val (.int (Int32.ofNat xi)), .val (.int (Int32.ofNat yi)), .val (.int (Int32.ofNat zi)), .val (.ref ob), .val (.int (if false = true then (1 : Int32) else 0)), .val (.int (if false = true then (0 : Int32) else 1)), .val (.int (if true = true then (0 : Int32) else 1)), .val (.int (if (decide (yi = xi)) = true then (0 : Int32) else 1)), .val (.int (if true = true then (1 : Int32) else 0)), .val (.int (if true = true then (1 : Int32) else 0)), .val (.int (if (decide (zi = xi) || decide (zi = yi)) = true then (1 : Int32) else 0))] [(.int (Int32.ofNat yi)), (.int (Int32.ofNat zi)), (.int (if (decide (zi = xi) || decide (zi = yi)) = true then (1 : Int32) else 0))])) t → Steps p.tables e below (s₁.setTop (entryFrame m #[(.int a1), (.int a2), (.int a3), (.int a4)] maxLocals)) t := by
        intro t kt
        refine pre22 t ?_
        show Steps p.tables e below (T18.setTop (mkF m 158 #[.val (.int a1), .val (.int a2), .val (.int a3), .val (.int a4), .val (.int nn), .val (.int (Int32.ofNat xi)), .val (.int (Int32.ofNat yi)), .val (.int (Int32.ofNat zi)), .val (.ref ob), .val (.int (if false = true then (1 : Int32) else 0)), .val (.int (if false = true then (0 : Int32) else 1)), .val (.int (if true = true then (0 : Int32) else 1)), .val (.int (if (decide (yi = xi)) = true then (0 : Int32) else 1)), .val (.int (if true = true then (1 : Int32) else 0)), .val (.int (if true = true then (1 : Int32) else 0)), .val (.int (if (decide (zi = xi) || decide (zi = yi)) = true then (1 : Int32) else 0))] [(.int (Int32.ofNat xi)), (.int (Int32.ofNat zi)), (.int (if (decide (zi = xi) || decide (zi = yi)) = true then (1 : Int32) else 0))])) _
        refine XS.icmpNo X18.here hx rfl (hb hby at_158) rfl (feq hc158_2).1 ?_
        show Steps p.tables e below (T18.setTop (mkF m 161 #[.val (.int a1), .val (.int a2), .val (.int a3), .val (.int a4), .val (.int nn), .val (.int (Int32.ofNat xi)), .val (.int (Int32.ofNat yi)), .val (.int (Int32.ofNat zi)), .val (.ref ob), .val (.int (if false = true then (1 : Int32) else 0)), .val (.int (if false = true then (0 : Int32) else 1)), .val (.int (if true = true then (0 : Int32) else 1)), .val (.int (if (decide (yi = xi)) = true then (0 : Int32) else 1)), .val (.int (if true = true then (1 : Int32) else 0)), .val (.int (if true = true then (1 : Int32) else 0)), .val (.int (if (decide (zi = xi) || decide (zi = yi)) = true then (1 : Int32) else 0))] [(.int (if (decide (zi = xi) || decide (zi = yi)) = true then (1 : Int32) else 0))])) _
        refine XS.iload X18.here hx rfl (hb hby at_161) rfl ?_
        show Steps p.tables e below (T18.setTop (mkF m 163 #[.val (.int a1), .val (.int a2), .val (.int a3), .val (.int a4), .val (.int nn), .val (.int (Int32.ofNat xi)), .val (.int (Int32.ofNat yi)), .val (.int (Int32.ofNat zi)), .val (.ref ob), .val (.int (if false = true then (1 : Int32) else 0)), .val (.int (if false = true then (0 : Int32) else 1)), .val (.int (if true = true then (0 : Int32) else 1)), .val (.int (if (decide (yi = xi)) = true then (0 : Int32) else 1)), .val (.int (if true = true then (1 : Int32) else 0)), .val (.int (if true = true then (1 : Int32) else 0)), .val (.int (if (decide (zi = xi) || decide (zi = yi)) = true then (1 : Int32) else 0))] [(.int (Int32.ofNat zi)), (.int (if (decide (zi = xi) || decide (zi = yi)) = true then (1 : Int32) else 0))])) _
        refine XS.iload X18.here hx rfl (hb hby at_163) rfl ?_
        exact kt
      by_cases hc165_2 : (Int32.ofNat zi) = (Int32.ofNat yi)
      case pos =>
        obtain ⟨fs, hr, hrun, hended, hW, hsame⟩ := X18.leave (v := some (.int (1 : Int32))) (fun h => by rw [Bd.returns] at h; cases h) (BodyLoose.notSynchronized Bd)
        refine ⟨_, _, pre23 _ ?_, hrun, hended, _, _, rfl, ?_, ⟨_, rfl⟩, hW, hsame.mono (by decide) (by decide)⟩
        · skip
          show Steps p.tables e below (T18.setTop (mkF m 165 #[.val (.int a1), .val (.int a2), .val (.int a3), .val (.int a4), .val (.int nn), .val (.int (Int32.ofNat xi)), .val (.int (Int32.ofNat yi)), .val (.int (Int32.ofNat zi)), .val (.ref ob), .val (.int (if false = true then (1 : Int32) else 0)), .val (.int (if false = true then (0 : Int32) else 1)), .val (.int (if true = true then (0 : Int32) else 1)), .val (.int (if (decide (yi = xi)) = true then (0 : Int32) else 1)), .val (.int (if true = true then (1 : Int32) else 0)), .val (.int (if true = true then (1 : Int32) else 0)), .val (.int (if (decide (zi = xi) || decide (zi = yi)) = true then (1 : Int32) else 0))] [(.int (Int32.ofNat yi)), (.int (Int32.ofNat zi)), (.int (if (decide (zi = xi) || decide (zi = yi)) = true then (1 : Int32) else 0))])) _
          refine XS.icmpNo X18.here hx rfl (hb hby at_165) rfl (teq hc165_2).2 ?_
          show Steps p.tables e below (T18.setTop (mkF m 168 #[.val (.int a1), .val (.int a2), .val (.int a3), .val (.int a4), .val (.int nn), .val (.int (Int32.ofNat xi)), .val (.int (Int32.ofNat yi)), .val (.int (Int32.ofNat zi)), .val (.ref ob), .val (.int (if false = true then (1 : Int32) else 0)), .val (.int (if false = true then (0 : Int32) else 1)), .val (.int (if true = true then (0 : Int32) else 1)), .val (.int (if (decide (yi = xi)) = true then (0 : Int32) else 1)), .val (.int (if true = true then (1 : Int32) else 0)), .val (.int (if true = true then (1 : Int32) else 0)), .val (.int (if (decide (zi = xi) || decide (zi = yi)) = true then (1 : Int32) else 0))] [(.int (if (decide (zi = xi) || decide (zi = yi)) = true then (1 : Int32) else 0))])) _
          refine XS.iconst X18.here hx rfl (hb hby at_168) ?_
          show Steps p.tables e below (T18.setTop (mkF m 169 #[.val (.int a1), .val (.int a2), .val (.int a3), .val (.int a4), .val (.int nn), .val (.int (Int32.ofNat xi)), .val (.int (Int32.ofNat yi)), .val (.int (Int32.ofNat zi)), .val (.ref ob), .val (.int (if false = true then (1 : Int32) else 0)), .val (.int (if false = true then (0 : Int32) else 1)), .val (.int (if true = true then (0 : Int32) else 1)), .val (.int (if (decide (yi = xi)) = true then (0 : Int32) else 1)), .val (.int (if true = true then (1 : Int32) else 0)), .val (.int (if true = true then (1 : Int32) else 0)), .val (.int (if (decide (zi = xi) || decide (zi = yi)) = true then (1 : Int32) else 0))] [(.int (1 : Int32)), (.int (if (decide (zi = xi) || decide (zi = yi)) = true then (1 : Int32) else 0))])) _
          refine XS.goto X18.here hx rfl (pc0 := 169) (pc' := 173) rfl (hb hby at_169) (by decide) (by decide) ?_
          show Steps p.tables e below (T18.setTop (mkF m 173 #[.val (.int a1), .val (.int a2), .val (.int a3), .val (.int a4), .val (.int nn), .val (.int (Int32.ofNat xi)), .val (.int (Int32.ofNat yi)), .val (.int (Int32.ofNat zi)), .val (.ref ob), .val (.int (if false = true then (1 : Int32) else 0)), .val (.int (if false = true then (0 : Int32) else 1)), .val (.int (if true = true then (0 : Int32) else 1)), .val (.int (if (decide (yi = xi)) = true then (0 : Int32) else 1)), .val (.int (if true = true then (1 : Int32) else 0)), .val (.int (if true = true then (1 : Int32) else 0)), .val (.int (if (decide (zi = xi) || decide (zi = yi)) = true then (1 : Int32) else 0))] [(.int (1 : Int32)), (.int (if (decide (zi = xi) || decide (zi = yi)) = true then (1 : Int32) else 0))])) _
          refine XS.icmpNo X18.here hx rfl (hb hby at_173) rfl (teq (by have q := (own_eqn hzim hyim).mp hc165_2; simp [q])).2 ?_
          show Steps p.tables e below (T18.setTop (mkF m 176 #[.val (.int a1), .val (.int a2), .val (.int a3), .val (.int a4), .val (.int nn), .val (.int (Int32.ofNat xi)), .val (.int (Int32.ofNat yi)), .val (.int (Int32.ofNat zi)), .val (.ref ob), .val (.int (if false = true then (1 : Int32) else 0)), .val (.int (if false = true then (0 : Int32) else 1)), .val (.int (if true = true then (0 : Int32) else 1)), .val (.int (if (decide (yi = xi)) = true then (0 : Int32) else 1)), .val (.int (if true = true then (1 : Int32) else 0)), .val (.int (if true = true then (1 : Int32) else 0)), .val (.int (if (decide (zi = xi) || decide (zi = yi)) = true then (1 : Int32) else 0))] [])) _
          refine XS.iconst X18.here hx rfl (hb hby at_176) ?_
          show Steps p.tables e below (T18.setTop (mkF m 177 #[.val (.int a1), .val (.int a2), .val (.int a3), .val (.int a4), .val (.int nn), .val (.int (Int32.ofNat xi)), .val (.int (Int32.ofNat yi)), .val (.int (Int32.ofNat zi)), .val (.ref ob), .val (.int (if false = true then (1 : Int32) else 0)), .val (.int (if false = true then (0 : Int32) else 1)), .val (.int (if true = true then (0 : Int32) else 1)), .val (.int (if (decide (yi = xi)) = true then (0 : Int32) else 1)), .val (.int (if true = true then (1 : Int32) else 0)), .val (.int (if true = true then (1 : Int32) else 0)), .val (.int (if (decide (zi = xi) || decide (zi = yi)) = true then (1 : Int32) else 0))] [(.int (1 : Int32))])) _
          refine XS.goto X18.here hx rfl (pc0 := 177) (pc' := 181) rfl (hb hby at_177) (by decide) (by decide) ?_
          show Steps p.tables e below (T18.setTop (mkF m 181 #[.val (.int a1), .val (.int a2), .val (.int a3), .val (.int a4), .val (.int nn), .val (.int (Int32.ofNat xi)), .val (.int (Int32.ofNat yi)), .val (.int (Int32.ofNat zi)), .val (.ref ob), .val (.int (if false = true then (1 : Int32) else 0)), .val (.int (if false = true then (0 : Int32) else 1)), .val (.int (if true = true then (0 : Int32) else 1)), .val (.int (if (decide (yi = xi)) = true then (0 : Int32) else 1)), .val (.int (if true = true then (1 : Int32) else 0)), .val (.int (if true = true then (1 : Int32) else 0)), .val (.int (if (decide (zi = xi) || decide (zi = yi)) = true then (1 : Int32) else 0))] [(.int (1 : Int32))])) _
          exact retN X18 hx (t := .boolean) Bd.returns (by simp) (hb hby at_181) hr
        · show own_Q0 Z a1 a2 a3 a4 h0 n0 _ T18.heap _
          rw [eq18]
          exact ⟨rfl, N18⟩
      case neg =>
        obtain ⟨fs, hr, hrun, hended, hW, hsame⟩ := X18.leave (v := some (.int (1 : Int32))) (fun h => by rw [Bd.returns] at h; cases h) (BodyLoose.notSynchronized Bd)
        refine ⟨_, _, pre23 _ ?_, hrun, hended, _, _, rfl, ?_, ⟨_, rfl⟩, hW, hsame.mono (by decide) (by decide)⟩
        · skip
          show Steps p.tables e below (T18.setTop (mkF m 165 #[.val (.int a1), .val (.int a2), .val (.int a3), .val (.int a4), .val (.int nn), .val (.int (Int32.ofNat xi)), .val (.int (Int32.ofNat yi)), .val (.int (Int32.ofNat zi)), .val (.ref ob), .val (.int (if false = true then (1 : Int32) else 0)), .val (.int (if false = true then (0 : Int32) else 1)), .val (.int (if true = true then (0 : Int32) else 1)), .val (.int (if (decide (yi = xi)) = true then (0 : Int32) else 1)), .val (.int (if true = true then (1 : Int32) else 0)), .val (.int (if true = true then (1 : Int32) else 0)), .val (.int (if (decide (zi = xi) || decide (zi = yi)) = true then (1 : Int32) else 0))] [(.int (Int32.ofNat yi)), (.int (Int32.ofNat zi)), (.int (if (decide (zi = xi) || decide (zi = yi)) = true then (1 : Int32) else 0))])) _
          refine XS.icmpYes X18.here hx rfl (pc0 := 165) (pc' := 172) rfl (hb hby at_165) rfl (feq hc165_2).2 (by decide) (by decide) ?_
          show Steps p.tables e below (T18.setTop (mkF m 172 #[.val (.int a1), .val (.int a2), .val (.int a3), .val (.int a4), .val (.int nn), .val (.int (Int32.ofNat xi)), .val (.int (Int32.ofNat yi)), .val (.int (Int32.ofNat zi)), .val (.ref ob), .val (.int (if false = true then (1 : Int32) else 0)), .val (.int (if false = true then (0 : Int32) else 1)), .val (.int (if true = true then (0 : Int32) else 1)), .val (.int (if (decide (yi = xi)) = true then (0 : Int32) else 1)), .val (.int (if true = true then (1 : Int32) else 0)), .val (.int (if true = true then (1 : Int32) else 0)), .val (.int (if (decide (zi = xi) || decide (zi = yi)) = true then (1 : Int32) else 0))] [(.int (if (decide (zi = xi) || decide (zi = yi)) = true then (1 : Int32) else 0))])) _
          refine XS.iconst X18.here hx rfl (hb hby at_172) ?_
          show Steps p.tables e below (T18.setTop (mkF m 173 #[.val (.int a1), .val (.int a2), .val (.int a3), .val (.int a4), .val (.int nn), .val (.int (Int32.ofNat xi)), .val (.int (Int32.ofNat yi)), .val (.int (Int32.ofNat zi)), .val (.ref ob), .val (.int (if false = true then (1 : Int32) else 0)), .val (.int (if false = true then (0 : Int32) else 1)), .val (.int (if true = true then (0 : Int32) else 1)), .val (.int (if (decide (yi = xi)) = true then (0 : Int32) else 1)), .val (.int (if true = true then (1 : Int32) else 0)), .val (.int (if true = true then (1 : Int32) else 0)), .val (.int (if (decide (zi = xi) || decide (zi = yi)) = true then (1 : Int32) else 0))] [(.int (0 : Int32)), (.int (if (decide (zi = xi) || decide (zi = yi)) = true then (1 : Int32) else 0))])) _
          refine XS.icmpNo X18.here hx rfl (hb hby at_173) rfl (teq (by have q1 : ¬ zi = xi := fun q => hc158_2 ((own_eqn hzim hxim).mpr q); have q2 : ¬ zi = yi := fun q => hc165_2 ((own_eqn hzim hyim).mpr q); simp [q1, q2])).2 ?_
          show Steps p.tables e below (T18.setTop (mkF m 176 #[.val (.int a1), .val (.int a2), .val (.int a3), .val (.int a4), .val (.int nn), .val (.int (Int32.ofNat xi)), .val (.int (Int32.ofNat yi)), .val (.int (Int32.ofNat zi)), .val (.ref ob), .val (.int (if false = true then (1 : Int32) else 0)), .val (.int (if false = true then (0 : Int32) else 1)), .val (.int (if true = true then (0 : Int32) else 1)), .val (.int (if (decide (yi = xi)) = true then (0 : Int32) else 1)), .val (.int (if true = true then (1 : Int32) else 0)), .val (.int (if true = true then (1 : Int32) else 0)), .val (.int (if (decide (zi = xi) || decide (zi = yi)) = true then (1 : Int32) else 0))] [])) _
          refine XS.iconst X18.here hx rfl (hb hby at_176) ?_
          show Steps p.tables e below (T18.setTop (mkF m 177 #[.val (.int a1), .val (.int a2), .val (.int a3), .val (.int a4), .val (.int nn), .val (.int (Int32.ofNat xi)), .val (.int (Int32.ofNat yi)), .val (.int (Int32.ofNat zi)), .val (.ref ob), .val (.int (if false = true then (1 : Int32) else 0)), .val (.int (if false = true then (0 : Int32) else 1)), .val (.int (if true = true then (0 : Int32) else 1)), .val (.int (if (decide (yi = xi)) = true then (0 : Int32) else 1)), .val (.int (if true = true then (1 : Int32) else 0)), .val (.int (if true = true then (1 : Int32) else 0)), .val (.int (if (decide (zi = xi) || decide (zi = yi)) = true then (1 : Int32) else 0))] [(.int (1 : Int32))])) _
          refine XS.goto X18.here hx rfl (pc0 := 177) (pc' := 181) rfl (hb hby at_177) (by decide) (by decide) ?_
          show Steps p.tables e below (T18.setTop (mkF m 181 #[.val (.int a1), .val (.int a2), .val (.int a3), .val (.int a4), .val (.int nn), .val (.int (Int32.ofNat xi)), .val (.int (Int32.ofNat yi)), .val (.int (Int32.ofNat zi)), .val (.ref ob), .val (.int (if false = true then (1 : Int32) else 0)), .val (.int (if false = true then (0 : Int32) else 1)), .val (.int (if true = true then (0 : Int32) else 1)), .val (.int (if (decide (yi = xi)) = true then (0 : Int32) else 1)), .val (.int (if true = true then (1 : Int32) else 0)), .val (.int (if true = true then (1 : Int32) else 0)), .val (.int (if (decide (zi = xi) || decide (zi = yi)) = true then (1 : Int32) else 0))] [(.int (1 : Int32))])) _
          exact retN X18 hx (t := .boolean) Bd.returns (by simp) (hb hby at_181) hr
        · show own_Q0 Z a1 a2 a3 a4 h0 n0 _ T18.heap _
          rw [eq18]
          exact ⟨rfl, N18⟩
set_option maxRecDepth 65536 in
set_option maxHeartbeats 40000000 in
theorem own_comes {Post : Tables → Env → Array Value → State → Outcome → State → Prop} (hpost : ∀ tb e args s v u, (limb_1_1.after args s (.returned v) u = true ∧ limb_1_2.after args s (.returned v) u = true ∧ True) → FrameEnd s (.returned v) u (Jvm.fieldLocs frame_1_writes args s ++ Jvm.arrayLocs frame_1_arrays args s ++ Jvm.staticLocs frame_1_statics s) 16 128 → Post tb e args s (.returned v) u) :
    ArmFor flags0 classFile x code maxLocals ret World_1 tables_1 room_1 Calls_1 rest_1 Pre_1 Post := by
  intro l hfl _ _ p e ha hc hk s m args below hf hA hF happ hP
  obtain ⟨hcalls, hrest, hpre⟩ := hP
  obtain ⟨-, -, -, hnamed, -, -, -, hat⟩ := (Spec.applies_iff hf).mp happ
  obtain ⟨hg, hn⟩ := and_e (Cond.before_iff.mp (show (Jvm.Cond.and given_1 narrow_1).before args s = true from hpre))
  obtain ⟨gc, ga0⟩ := and_e hg
  obtain ⟨gv0, ga1⟩ := and_e ga0
  obtain ⟨gv1, ga2⟩ := and_e ga1
  obtain ⟨gv2, ga3⟩ := and_e ga2
  obtain ⟨w0, w1, w2, w3, rfl⟩ : ∃ w0 w1 w2 w3 : Value, args = #[w0, w1, w2, w3] := by
    have hs : args.size = 4 := by simpa [Cond.value, given_1] using gc
    obtain ⟨L⟩ := args
    match L, hs with
    | [w0, w1, w2, w3], _ => exact ⟨w0, w1, w2, w3, rfl⟩
  have hw := fun d (hd : d ∈ tables_1) => atoms_spec (ws := Jvm.Cond.code x code maxLocals ret :: tables_1) hat d (List.mem_cons_of_mem _ hd)
  obtain ⟨i0, ei0⟩ := is_v gv0
  obtain rfl : w0 = (.int i0) := Option.some.inj ei0
  obtain ⟨i1, ei1⟩ := is_v gv1
  obtain rfl : w1 = (.int i1) := Option.some.inj ei1
  obtain ⟨i2, ei2⟩ := is_v gv2
  obtain rfl : w2 = (.int i2) := Option.some.inj ei2
  obtain ⟨i3, ei3⟩ := is_v ga3
  obtain rfl : w3 = (.int i3) := Option.some.inj ei3
  obtain ⟨n, o, h1, h2, h3, _, L, rfl, ⟨rfl, N⟩, hq⟩ := own_rm0 l s _ hw tables_1 i0 i1 i2 i3 s.heap s.heap.size (Nat.le_refl _) p e ha hc hk s m _ below hf ((Spec.applies_iff_loose hf).mp happ).1 ⟨rfl, State.Warmed39.refl s, rfl⟩ trivial
  refine ⟨n, _, h1, h2, h3, hpost _ _ _ _ _ _ ⟨Cond.after_iff.mpr rfl, Cond.after_iff.mpr (eq_i res_at (Term.int_eval (1)) rfl), trivial⟩ ⟨hq.1, hq.2.1, (hq.2.2.sift fun y hy => Or.inr (N y hy)).mono (by decide) (by decide)⟩⟩
theorem main_1_1 : Claimed_1_1 := own_comes fun _ _ _ _ _ _ h hF => ⟨h.1, hF⟩
theorem main_1_2 : Claimed_1_2 := own_comes fun _ _ _ _ _ _ h hF => ⟨h.2.1, hF⟩
end Jvm.Pilot.@@N@@
namespace Jvm.Pilot.@@N@@
open Jvm Jvm.ClassFile Sem Op Lib Jvm.Free Jvm.Stand Jvm.Pilot.@@N@@.Jvm.D
/-! MADE BY PROGRAM (witnessworld.py) out of the Statement's table words and the real class files: 11 classes; the members and pool entries that the words name. The judged class is class 1, her method 1. -/
namespace start1
open Jvm.ClassFile
def u (s : String) : CpInfo := .utf8 (stringToUtf16 s)
/-- a pool by its gaps: so many unusable entries, then the entry; so many at the end -/
def gap : Nat → List CpInfo → List CpInfo
  | 0, r => r
  | n + 1, r => .unusable :: gap n r
def poolList (es : List (Nat × CpInfo)) (last : Nat) : List CpInfo := es.foldr (fun e r => gap e.1 (e.2 :: r)) (gap last [])
def pool (es : List (Nat × CpInfo)) (last : Nat) : Array CpInfo := ⟨poolList es last⟩
def fileOf (pool : Array CpInfo) (this : Nat) (attrs : Array Attribute := #[]) (ms : Array MethodInfo := #[]) (fl : Nat := 33) (sup : Nat := 0) (ifs : Array Nat := #[]) (fds : Array FieldInfo := #[]) : ClassFile where
  minorVersion := 0
  majorVersion := 65
  constantPool := pool
  accessFlags := fl
  thisClass := this
  superClass := sup
  interfaces := ifs
  fields := fds
  methods := ms
  attributes := attrs
def plain (name : String) (sup : Option ClassId) : Class where
  name := name
  kind := .ordinary
  loader := none
  accessFlags := 33
  super := sup
  interfaces := #[]
  cf := none
  fields := #[]
  methods := #[]
  instanceTypes := #[]
  staticTypes := #[]
  resolved := #[]
  callSites := []
  init := .initialized
  statics := none
  mirror := none

def pool0 : Array CpInfo := pool [(5, u "<init>"), (0, u "()V"), (1, .class_ 10), (1, u "java/lang/Object")] 113

def k0c0 : Code := { maxStack := 0, maxLocals := 1, code := object_method_1_code, exceptionTable := #[], attributes := #[] }
def k0m0 : Method := { name := "<init>", desc := "()V", sig := { parameters := [], returnType := none }, accessFlags := 1, code := some k0c0 }
/-- java/lang/Object -/
def k0 : Class := { plain "java/lang/Object" none with
  accessFlags := 33
  interfaces := #[]
  cf := some (fileOf pool0 8 #[] #[{ accessFlags := 1, nameIndex := 5, descriptorIndex := 6, attributes := #[] }] 33 0 #[] #[])
  fields := #[]
  methods := #[k0m0]
  instanceTypes := #[]
  staticTypes := #[]
  resolved := Array.replicate 124 none
  statics := none }

def pool1 : Array CpInfo := pool [(2, .class_ 4), (1, u "java/lang/Object"), (0, u "<init>"), (0, u "()V"), (0, .integer 2147483647), (0, .class_ 9), (0, u "com/example/ulebb/ulebb/dex/OffsetBits"), (0, .methodref 8 11), (0, .nameAndType 5 12), (0, u "(I)V"), (0, .methodref 8 14), (0, .nameAndType 15 16), (0, u "contains"), (0, u "(I)Z"), (0, .methodref 8 18), (0, .nameAndType 19 16), (0, u "add"), (0, .class_ 21), (0, u "com/example/ulebb/ulebb/dex/OffsetBitsAddPinLaw"), (2, u "law"), (0, u "(IIII)Z")] 3

def k1m0 : Method := { name := "<init>", desc := "()V", sig := { parameters := [], returnType := none }, accessFlags := 1, code := none }
def k1c1 : Code := { maxStack := 3, maxLocals := 16, code := code, exceptionTable := #[], attributes := #[] }
def k1m1 : Method := { name := "law", desc := "(IIII)Z", sig := { parameters := [.int, .int, .int, .int], returnType := some .boolean }, accessFlags := 9, code := some k1c1 }
/-- com/example/ulebb/ulebb/dex/OffsetBitsAddPinLaw -/
def k1 : Class := { plain "com/example/ulebb/ulebb/dex/OffsetBitsAddPinLaw" (some 0) with
  accessFlags := 49
  interfaces := #[]
  cf := some (fileOf pool1 20 #[] #[{ accessFlags := 1, nameIndex := 5, descriptorIndex := 6, attributes := #[] }, { accessFlags := 9, nameIndex := 24, descriptorIndex := 25, attributes := #[] }] 49 2 #[] #[])
  fields := #[]
  methods := #[k1m0, k1m1]
  instanceTypes := #[]
  staticTypes := #[]
  resolved := Array.replicate 29 none
  statics := none }

def pool2 : Array CpInfo := pool [(1, .methodref 2 3), (0, .class_ 4), (0, .nameAndType 5 6), (0, u "java/lang/Object"), (0, u "<init>"), (0, u "()V"), (0, .fieldref 8 9), (0, .class_ 10), (0, .nameAndType 11 12), (0, u "com/example/ulebb/ulebb/dex/OffsetBits"), (0, u "words"), (0, u "[J"), (12, u "(I)V"), (2, u "contains"), (0, u "(I)Z"), (1, u "add")] 6

def k2c0 : Code := { maxStack := 3, maxLocals := 2, code := prog_110_method_1_code, exceptionTable := #[], attributes := #[] }
def k2m0 : Method := { name := "<init>", desc := "(I)V", sig := { parameters := [.int], returnType := none }, accessFlags := 0, code := some k2c0 }
def k2c1 : Code := { maxStack := 5, maxLocals := 2, code := prog_110_method_2_code, exceptionTable := #[], attributes := #[] }
def k2m1 : Method := { name := "contains", desc := "(I)Z", sig := { parameters := [.int], returnType := some .boolean }, accessFlags := 0, code := some k2c1 }
def k2c2 : Code := { maxStack := 6, maxLocals := 5, code := prog_110_method_3_code, exceptionTable := #[], attributes := #[] }
def k2m2 : Method := { name := "add", desc := "(I)Z", sig := { parameters := [.int], returnType := some .boolean }, accessFlags := 0, code := some k2c2 }
/-- com/example/ulebb/ulebb/dex/OffsetBits -/
def k2 : Class := { plain "com/example/ulebb/ulebb/dex/OffsetBits" (some 0) with
  accessFlags := 32
  interfaces := #[]
  cf := some (fileOf pool2 8 #[] #[{ accessFlags := 0, nameIndex := 5, descriptorIndex := 25, attributes := #[] }, { accessFlags := 0, nameIndex := 28, descriptorIndex := 29, attributes := #[] }, { accessFlags := 0, nameIndex := 31, descriptorIndex := 29, attributes := #[] }] 32 2 #[] #[{ accessFlags := 18, nameIndex := 11, descriptorIndex := 12, attributes := #[] }])
  fields := #[{ name := "words", type := (.array .long), accessFlags := 18, slot := 0, constantValue := 0 }]
  methods := #[k2m0, k2m1, k2m2]
  instanceTypes := #[(.array .long)]
  staticTypes := #[]
  resolved := Array.replicate 38 none
  statics := none }

def pool3 : Array CpInfo := pool [(1, u "java/lang/Cloneable"), (0, .class_ 1), (0, u "java/lang/Object"), (0, .class_ 3)] 3

/-- java/lang/Cloneable -/
def k3 : Class := { plain "java/lang/Cloneable" (some 0) with
  accessFlags := 1537
  interfaces := #[]
  cf := some (fileOf pool3 2 #[] #[] 1537 4 #[] #[])
  fields := #[]
  methods := #[]
  instanceTypes := #[]
  staticTypes := #[]
  resolved := Array.replicate 8 none
  statics := none }

def pool4 : Array CpInfo := pool [(1, u "java/io/Serializable"), (0, .class_ 1), (0, u "java/lang/Object"), (0, .class_ 3)] 3

/-- java/io/Serializable -/
def k4 : Class := { plain "java/io/Serializable" (some 0) with
  accessFlags := 1537
  interfaces := #[]
  cf := some (fileOf pool4 2 #[] #[] 1537 4 #[] #[])
  fields := #[]
  methods := #[]
  instanceTypes := #[]
  staticTypes := #[]
  resolved := Array.replicate 8 none
  statics := none }

/-- the primitive byte -/
def k5 : Class := { plain "byte" none with kind := .primitive 'B', accessFlags := 0x411 }
/-- [B -/
def k6 : Class := { plain "[B" (some 0) with kind := .array 5 .byte, interfaces := #[3, 4], accessFlags := 1041 }

/-- the primitive int -/
def k7 : Class := { plain "int" none with kind := .primitive 'I', accessFlags := 0x411 }
/-- [I -/
def k8 : Class := { plain "[I" (some 0) with kind := .array 7 .int, interfaces := #[3, 4], accessFlags := 1041 }

/-- the primitive long -/
def k9 : Class := { plain "long" none with kind := .primitive 'J', accessFlags := 0x411 }
/-- [J -/
def k10 : Class := { plain "[J" (some 0) with kind := .array 9 .long, interfaces := #[3, 4], accessFlags := 1041 }

def heap : Heap := #[]
def classes : Array Class := #[k0, k1, k2, k3, k4, k5, k6, k7, k8, k9, k10]
def interned : List (Array UInt16 × Addr) := []
def slotsUsed : Nat := 0
def theMethod : MethodId := ⟨1, 1⟩
def args0 : Array Value := #[.int 5, .int 6, .int 7, .int 3]
def aboutOver (below : List Frame) : State where
  vm := { classes := classes, interned := interned.toArray }
  heap := heap
  slotsUsed := slotsUsed
  threads := #[{ frames := .invoking theMethod args0 :: below }]
def below0 : List Frame := [.native { method := ⟨0, 0⟩, args := #[] }]
def about1 : State := aboutOver below0
def p0 : Program := .bare "" "" ""
def e0 : Env := launch0.env 0 0 0
theorem w_frames : about1.frames = Frame.invoking theMethod args0 :: below0 := rfl
set_option maxRecDepth 65536 in
theorem w_args : argsFit about1.vm theMethod args0 = true := by decide +kernel
set_option maxRecDepth 65536 in
theorem w_heap : heapFits about1 = true := by decide +kernel
set_option maxRecDepth 65536 in
theorem w_runnable : about1.curStatus? = some .runnable := by decide +kernel
set_option maxRecDepth 65536 in
theorem w_alone : about1.alone = true := by decide +kernel
set_option maxRecDepth 65536 in
theorem w_named : about1.methodNamed? x = some theMethod := by decide +kernel
set_option maxRecDepth 65536 in
theorem w_hears : about1.hears theMethod below0 = true := by decide +kernel
set_option maxRecDepth 65536 in
theorem w_ripe : about1.ripe theMethod args0 below0 = true := by decide +kernel
theorem w_running : about1.status = .running := rfl
set_option maxRecDepth 65536 in
theorem w_room : about1.hasRoom e0.platform room_1 = true :=
  launch0.hasRoom_least _ room_1 (by decide +kernel) (by decide +kernel) (by decide +kernel) (by decide +kernel) (by decide +kernel) (by decide +kernel)
theorem allAtoms_all (ts : List Jvm.Cond) (a : Array Jvm.Value) (st : Jvm.State) : (allAtoms ts).before a st = ts.all (fun c => c.before a st) := by
  induction ts with
  | nil => rfl
  | cons c t ih =>
    show (Jvm.Cond.and c (allAtoms t)).before a st = _
    rw [Jvm.Cond.before_and, ih, List.all_cons]
def words1 : List Jvm.Cond := Jvm.Cond.code x code maxLocals ret :: tables_1
/-- a 'code' word, met by the world's own term for the bytes: nothing is compared byte by byte -/
theorem code_word {y : MethodName} {bytes : ByteArray} {mx : Nat} {rt : Option FieldType} {a : Array Value} {s : State} {m : MethodId} {meth : Method} {c : Code} (h1 : s.methodNamed? y = some m) (h2 : s.vm.method? m = some meth) (h3 : meth.code = some c) (h4 : c.code = bytes)
    (h5 : (c.maxLocals == mx && c.exceptionTable.isEmpty && decide (c.maxStack ≤ mostOperands) && decide (meth.sig.returnType = rt) && !meth.locks && decide (parseMethodDescriptor y.desc = some meth.sig)) = true) : (Jvm.Cond.code y bytes mx rt).before a s = true := by
  simp only [Bool.and_eq_true, beq_iff_eq, Bool.not_eq_true', decide_eq_true_eq] at h5
  obtain ⟨⟨⟨⟨⟨g1, g2⟩, g3⟩, g4⟩, g5⟩, g6⟩ := h5
  simp [Cond.before, Cond.holds, Cond.value, h1, h2, h3, h4, g1, g2, g3, g4, g5, g6]
def isCode : Jvm.Cond → Bool
  | .code _ _ _ _ => true
  | _ => false
theorem all_split {L : List Jvm.Cond} {P : Jvm.Cond → Bool} (h1 : L.all (fun c => isCode c || P c) = true) (h2 : ∀ c ∈ L.filter isCode, P c = true) : L.all P = true := by
  refine List.all_eq_true.mpr fun c hc => ?_
  have h := List.all_eq_true.mp h1 c hc
  rcases Bool.eq_false_or_eq_true (isCode c) with hi | hi
  · exact h2 c (List.mem_filter.mpr ⟨hc, hi⟩)
  · simpa [hi] using h
set_option maxRecDepth 65536 in
theorem w_c0 : (Jvm.Cond.code x code maxLocals ret).before args0 about1 = true := code_word (m := ⟨1, 1⟩) (meth := k1m1) (c := k1c1) (by decide +kernel) rfl rfl rfl (by decide +kernel)
set_option maxRecDepth 65536 in
theorem w_c1 : (Jvm.Cond.code ({ cls := "com/example/ulebb/ulebb/dex/OffsetBits", name := "<init>", desc := "(I)V" } : Jvm.MethodName) prog_110_method_1_code (2 : Nat) (Option.none : Option Jvm.ClassFile.FieldType)).before args0 about1 = true := code_word (m := ⟨2, 0⟩) (meth := k2m0) (c := k2c0) (by decide +kernel) rfl rfl rfl (by decide +kernel)
set_option maxRecDepth 65536 in
theorem w_c2 : (Jvm.Cond.code ({ cls := "java/lang/Object", name := "<init>", desc := "()V" } : Jvm.MethodName) object_method_1_code (1 : Nat) (Option.none : Option Jvm.ClassFile.FieldType)).before args0 about1 = true := code_word (m := ⟨0, 0⟩) (meth := k0m0) (c := k0c0) (by decide +kernel) rfl rfl rfl (by decide +kernel)
set_option maxRecDepth 65536 in
theorem w_c3 : (Jvm.Cond.code ({ cls := "com/example/ulebb/ulebb/dex/OffsetBits", name := "contains", desc := "(I)Z" } : Jvm.MethodName) prog_110_method_2_code (2 : Nat) (Option.some Jvm.ClassFile.FieldType.boolean)).before args0 about1 = true := code_word (m := ⟨2, 1⟩) (meth := k2m1) (c := k2c1) (by decide +kernel) rfl rfl rfl (by decide +kernel)
set_option maxRecDepth 65536 in
theorem w_c4 : (Jvm.Cond.code ({ cls := "com/example/ulebb/ulebb/dex/OffsetBits", name := "add", desc := "(I)Z" } : Jvm.MethodName) prog_110_method_3_code (5 : Nat) (Option.some Jvm.ClassFile.FieldType.boolean)).before args0 about1 = true := code_word (m := ⟨2, 2⟩) (meth := k2m2) (c := k2c2) (by decide +kernel) rfl rfl rfl (by decide +kernel)
def codes1 : List Jvm.Cond := [Jvm.Cond.code x code maxLocals ret, Jvm.Cond.code ({ cls := "com/example/ulebb/ulebb/dex/OffsetBits", name := "<init>", desc := "(I)V" } : Jvm.MethodName) prog_110_method_1_code (2 : Nat) (Option.none : Option Jvm.ClassFile.FieldType), Jvm.Cond.code ({ cls := "java/lang/Object", name := "<init>", desc := "()V" } : Jvm.MethodName) object_method_1_code (1 : Nat) (Option.none : Option Jvm.ClassFile.FieldType), Jvm.Cond.code ({ cls := "com/example/ulebb/ulebb/dex/OffsetBits", name := "contains", desc := "(I)Z" } : Jvm.MethodName) prog_110_method_2_code (2 : Nat) (Option.some Jvm.ClassFile.FieldType.boolean), Jvm.Cond.code ({ cls := "com/example/ulebb/ulebb/dex/OffsetBits", name := "add", desc := "(I)Z" } : Jvm.MethodName) prog_110_method_3_code (5 : Nat) (Option.some Jvm.ClassFile.FieldType.boolean)]
set_option maxRecDepth 65536 in
theorem codes_eq : words1.filter isCode = codes1 := rfl
theorem w_codes : ∀ c ∈ words1.filter isCode, c.before args0 about1 = true := by
  rw [codes_eq]
  intro c hc
  simp only [codes1, List.mem_cons, List.not_mem_nil, or_false] at hc
  rcases hc with rfl | rfl | rfl | rfl | rfl
  · exact w_c0
  · exact w_c1
  · exact w_c2
  · exact w_c3
  · exact w_c4
set_option maxRecDepth 65536 in
theorem w_t1 : words1.all (fun c => isCode c || c.before args0 about1) = true := by decide +kernel
theorem w_tables : (allAtoms (Jvm.Cond.code x code maxLocals ret :: tables_1)).before args0 about1 = true := by
  rw [allAtoms_all]
  show words1.all (fun c => c.before args0 about1) = true
  refine all_split ?_ w_codes
  rw [w_t1]
set_option maxRecDepth 65536 in
theorem w_case : (Jvm.Cond.and given_1 narrow_1).before args0 about1 = true := by decide +kernel
theorem w_applies : (headSpec (Jvm.Cond.code x code maxLocals ret :: tables_1) room_1).applies x e0.platform about1 = true :=
  (Spec.applies_iff w_frames).mpr ⟨w_running, w_runnable, w_alone, w_named, w_hears, w_ripe, w_room, w_tables⟩
theorem atStart : AtStart classFile x code maxLocals ret World_1 tables_1 room_1 Calls_1 rest_1 Pre_1 launch0 p0 e0 about1 theMethod args0 below0 :=
  ⟨lists_1, trivial, launch0.admits_env _ _ _, launch0.least_env, fairChoices_fair.cas, fairChoices_fair.clock, w_frames, w_args, w_heap, w_applies, trivial, trivial, w_case⟩
end start1
theorem witness_1 : WitnessClaimed_1 := ⟨start1.p0, start1.e0, start1.about1, start1.theMethod, start1.args0, start1.below0, start1.atStart⟩
end Jvm.Pilot.@@N@@
