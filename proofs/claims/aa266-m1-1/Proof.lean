import JvmDerived
import JvmDerived.Pilot.@@N@@Statement
import JvmDerived.Pilot.@@N@@Code
set_option linter.unusedVariables false
set_option linter.unusedSimpArgs false
namespace Jvm.RoadKit
open Sem ClassFile Op Lib Jvm.Stand Jvm.Free Jvm.LawKit
section New
variable {p : Program} {l : Launch} {e : Env} {R : Room} {s : State} {m : MethodId} {args : Array Value} {below : List Frame} {meth : Method} {c : Code} {T : State} {locs : List Loc} {cells slots : Nat}
theorem retI (X : Stand p l e R s m args below meth c T locs cells slots) (hx : p.tables.exec = Jvm.exec) {pc : Nat} {Ls : Array Slot} {z : Int32} {rest : List Value} (hret : meth.sig.returnType = some .int) (hd : decode c.code pc = .ok (.ireturn, 1)) {fs : List Frame}
    (hl : ∀ (f : JFrame) (acts : List Action), f.method = m → f.locked = none → f.entered = [] → (doReturn e (T.setTop f) acts (some (.int z))).1 = T.setFrames fs) : Steps p.tables e below (T.setTop (mkF m pc Ls (.int z :: rest))) (T.setFrames fs) := by
  have hm' : T.vm.method? m = some meth := X.method'
  have hn : narrow .int (.int z) = .int z := rfl
  show Steps p.tables e below (T.setTop { method := m, pc := pc, locals := Ls, stack := _ :: rest, locked := none }) _
  jvm_step X.here [X.here.top, hx, hd, hm', hret, hn]
  first | (intro acts; rw [hl _ acts rfl rfl rfl]) | rw [hl _ _ rfl rfl rfl]
  exact Steps.refl _
end New
end Jvm.RoadKit
namespace Jvm.Pilot.@@N@@
open Jvm Jvm.ClassFile Sem Op Lib Jvm.Free Jvm.Stand Jvm.LawKit Jvm.RoadKit Bundle Jvm.Pilot.@@N@@.Jvm.D
section OwnKit
variable {p : Program} {l : Launch} {e : Env} {R : Room} {s : State} {m : MethodId} {args : Array Value} {below : List Frame} {meth : Method} {c : Code} {T : State} {locs : List Loc} {cells slots : Nat} {Z : State} {h h' : Heap} {a b : Addr} {ty : FieldType} {n : Nat} {f : Nat → Value}
/-- an array by its length and the value at each place -/
def own_AF (Z : State) (h : Heap) (a : Addr) (ty : FieldType) (n : Nat) (f : Nat → Value) : Prop := ∃ c : Cell, Arr Z h a c ty ∧ c.slots.size = n ∧ n < 2 ^ 31 ∧ ∀ i, i < n → c.slots[i]? = some (f i)
theorem own_AF.lt (F : own_AF Z h a ty n f) : a < h.size := by obtain ⟨c, A, -⟩ := F; exact A.lt
theorem own_AF.ext (F : own_AF Z h a ty n f) (E : Ext h h') : own_AF Z h' a ty n f := by obtain ⟨c, A, r⟩ := F; exact ⟨c, A.ext E, r⟩
theorem own_AF.other {sl : Nat} {v : Value} (F : own_AF Z h b ty n f) (W : Wr h h' a sl v) (q : b ≠ a) : own_AF Z h' b ty n f := by obtain ⟨c, A, r⟩ := F; exact ⟨c, A.other W q, r⟩
theorem own_AF.keep {ws : List Addr} (F : own_AF Z h a ty n f) (K : Keep h h' ws) (q : a ∉ ws) : own_AF Z h' a ty n f := by obtain ⟨c, A, r⟩ := F; exact ⟨c, ⟨K.2.1 a c A.1 q, A.2⟩, r⟩
theorem own_AF.congr {g : Nat → Value} (F : own_AF Z h a ty n f) (q : ∀ i, i < n → f i = g i) : own_AF Z h a ty n g := by
  obtain ⟨c, A, r1, r2, r3⟩ := F; exact ⟨c, A, r1, r2, fun i hi => by rw [r3 i hi, q i hi]⟩
theorem own_AF.set {j : Nat} {v : Value} (F : own_AF Z h a ty n f) (W : Wr h h' a j v) : own_AF Z h' a ty n (fun i => if i = j then v else f i) := by
  obtain ⟨c, A, r1, r2, r3⟩ := F
  obtain ⟨cb', q1, q2, q3, q4, -, q6, q7⟩ := wr_at W A.1
  obtain ⟨e1, e2, -⟩ := q7 rfl
  refine ⟨_, A.same W, ?_, r2, fun i hi => ?_⟩
  · rw [sz_set]; exact r1
  · rw [← e1]
    by_cases hij : i = j
    · subst hij; simp only [if_true]; exact e2
    · rw [q6 i hij, r3 i hi]; simp only [hij, if_false]
theorem own_AF.new {k : ClassId} {z : Int32} {d : Value} (A : Arr Z h a (newA k ty z) ty) (q : ¬ z < 0) (hn : z.toNatClampNeg = n) (hd : defaultValue ty = d := by rfl) : own_AF Z h a ty n (fun _ => d) := by
  subst hn
  refine ⟨_, A, sz_new _ _ _, (back32 q).2, fun i hi => ?_⟩
  simp [newA, hi, hd]
theorem own_AF.inb {c : Cell} {j : Int32} {k : Nat} (S : c.slots.size = n) (h1 : ¬ j < 0) (hk : j.toNatClampNeg = k) (h2 : k < n) : ¬ (j < 0 ∨ c.slots.size ≤ j.toNatClampNeg) := by
  rw [S, hk]; exact fun q => q.elim h1 fun q => by omega
theorem own_ldI (X : Stand p l e R s m args below meth c T locs cells slots) (hx : p.tables.exec = Jvm.exec) (hZ : Z.Warmed39 s.vm) (eT : T.heap = h) (A : own_AF Z h a .int n f) {j : Int32} (h1 : ¬ j < 0) {k : Nat} (hk : j.toNatClampNeg = k) (h2 : k < n) {v : Value} (hv : f k = v)
    {g : JFrame} (hg : g.method = m) {rest : List Value} (hs : g.stack = .int j :: .ref a :: rest) (hd : decode c.code g.pc = .ok (.iaload, 1)) (target : State)
    (hr : Steps p.tables e below (T.setTop { g with pc := g.pc + 1, stack := v :: rest }) target) : Steps p.tables e below (T.setTop g) target := by
  obtain ⟨cl, A, r1, r2, r3⟩ := A
  exact X.iaload hx (by rw [eT]; exact A.1) (State.isArrayOf_alike hZ.alike A.2.1) A.2.2 (own_AF.inb r1 h1 hk h2) (by rw [hk, ← hv]; exact r3 k h2) hg hs hd _ hr
theorem own_ldJ (X : Stand p l e R s m args below meth c T locs cells slots) (hx : p.tables.exec = Jvm.exec) (hZ : Z.Warmed39 s.vm) (eT : T.heap = h) (A : own_AF Z h a .long n f) {j : Int32} (h1 : ¬ j < 0) {k : Nat} (hk : j.toNatClampNeg = k) (h2 : k < n) {v : Value} (hv : f k = v)
    {g : JFrame} (hg : g.method = m) {rest : List Value} (hs : g.stack = .int j :: .ref a :: rest) (hd : decode c.code g.pc = .ok (.laload, 1)) (target : State)
    (hr : Steps p.tables e below (T.setTop { g with pc := g.pc + 1, stack := v :: rest }) target) : Steps p.tables e below (T.setTop g) target := by
  obtain ⟨cl, A, r1, r2, r3⟩ := A
  exact X.laload hx (by rw [eT]; exact A.1) (State.isArrayOf_alike hZ.alike A.2.1) A.2.2 (own_AF.inb r1 h1 hk h2) (by rw [hk, ← hv]; exact r3 k h2) hg hs hd _ hr
theorem own_ldB (X : Stand p l e R s m args below meth c T locs cells slots) (hx : p.tables.exec = Jvm.exec) (hZ : Z.Warmed39 s.vm) (eT : T.heap = h) (A : own_AF Z h a .byte n f) {j : Int32} (h1 : ¬ j < 0) {k : Nat} (hk : j.toNatClampNeg = k) (h2 : k < n) {v : Value} (hv : f k = v)
    {g : JFrame} (hg : g.method = m) {rest : List Value} (hs : g.stack = .int j :: .ref a :: rest) (hd : decode c.code g.pc = .ok (.baload, 1)) (target : State)
    (hr : Steps p.tables e below (T.setTop { g with pc := g.pc + 1, stack := v :: rest }) target) : Steps p.tables e below (T.setTop g) target := by
  obtain ⟨cl, A, r1, r2, r3⟩ := A
  exact X.baloadBytes hx (by rw [eT]; exact A.1) (State.isArrayOf_alike hZ.alike A.2.1) A.2.2 (own_AF.inb r1 h1 hk h2) (by rw [hk, ← hv]; exact r3 k h2) hg hs hd _ hr
theorem own_ldZ (X : Stand p l e R s m args below meth c T locs cells slots) (hx : p.tables.exec = Jvm.exec) (hZ : Z.Warmed39 s.vm) (eT : T.heap = h) (A : own_AF Z h a .boolean n f) {j : Int32} (h1 : ¬ j < 0) {k : Nat} (hk : j.toNatClampNeg = k) (h2 : k < n) {v : Value} (hv : f k = v)
    {g : JFrame} (hg : g.method = m) {rest : List Value} (hs : g.stack = .int j :: .ref a :: rest) (hd : decode c.code g.pc = .ok (.baload, 1)) (target : State)
    (hr : Steps p.tables e below (T.setTop { g with pc := g.pc + 1, stack := v :: rest }) target) : Steps p.tables e below (T.setTop g) target := by
  obtain ⟨cl, A, r1, r2, r3⟩ := A
  exact X.baloadBooleans hx (by rw [eT]; exact A.1) (State.isArrayOf_alike hZ.alike A.2.1) A.2.2 (own_AF.inb r1 h1 hk h2) (by rw [hk, ← hv]; exact r3 k h2) hg hs hd _ hr
theorem own_len (X : Stand p l e R s m args below meth c T locs cells slots) (hx : p.tables.exec = Jvm.exec) (hZ : Z.Warmed39 s.vm) (eT : T.heap = h) (A : own_AF Z h a ty n f) {z : Int32} (hz : n.toInt32 = z)
    {g : JFrame} (hg : g.method = m) {rest : List Value} (hs : g.stack = .ref a :: rest) (hd : decode c.code g.pc = .ok (.arraylength, 1)) (target : State)
    (hr : Steps p.tables e below (T.setTop { g with pc := g.pc + 1, stack := .int z :: rest }) target) : Steps p.tables e below (T.setTop g) target := by
  obtain ⟨cl, A, r1, r2, r3⟩ := A
  exact X.arraylength hx (by rw [eT]; exact A.1) (State.isArrayOf_alike hZ.alike A.2.1) hg hs hd _ (by rw [r1, hz]; exact hr)
theorem own_stI (X : Stand p l e R s m args below meth c T locs cells slots) (hx : p.tables.exec = Jvm.exec) (hZ : Z.Warmed39 s.vm) (eT : T.heap = h) (A : own_AF Z h a .int n f) {j x : Int32} (h1 : ¬ j < 0) {k : Nat} (hk : j.toNatClampNeg = k) (h2 : k < n)
    {g : JFrame} (hg : g.method = m) {rest : List Value} (hs : g.stack = .int x :: .int j :: .ref a :: rest) (hd : decode c.code g.pc = .ok (.iastore, 1)) :
    ∃ T' h', Stand p l e R s m args below meth c T' (locs ++ [⟨a, k⟩]) cells slots ∧ T'.heap = h' ∧ Wr h h' a k (.int x) ∧ own_AF Z h' a .int n (fun i => if i = k then .int x else f i) ∧ ∀ target, Steps p.tables e below (T'.setTop { g with pc := g.pc + 1, stack := rest }) target → Steps p.tables e below (T.setTop g) target := by
  obtain ⟨cl, A', r1, r2, r3⟩ := id A
  obtain ⟨T', h', X', e', W', st⟩ := stI X hx hZ eT A' (own_AF.inb r1 h1 hk h2) hg hs hd
  subst hk
  exact ⟨T', h', X', e', W', A.set W', st⟩
theorem own_stJ (X : Stand p l e R s m args below meth c T locs cells slots) (hx : p.tables.exec = Jvm.exec) (hZ : Z.Warmed39 s.vm) (eT : T.heap = h) (A : own_AF Z h a .long n f) {j : Int32} {x : Int64} (h1 : ¬ j < 0) {k : Nat} (hk : j.toNatClampNeg = k) (h2 : k < n)
    {g : JFrame} (hg : g.method = m) {rest : List Value} (hs : g.stack = .long x :: .int j :: .ref a :: rest) (hd : decode c.code g.pc = .ok (.lastore, 1)) :
    ∃ T' h', Stand p l e R s m args below meth c T' (locs ++ [⟨a, k⟩]) cells slots ∧ T'.heap = h' ∧ Wr h h' a k (.long x) ∧ own_AF Z h' a .long n (fun i => if i = k then .long x else f i) ∧ ∀ target, Steps p.tables e below (T'.setTop { g with pc := g.pc + 1, stack := rest }) target → Steps p.tables e below (T.setTop g) target := by
  obtain ⟨cl, A', r1, r2, r3⟩ := id A
  obtain ⟨T', h', X', e', W', st⟩ := stJ X hx hZ eT A' (own_AF.inb r1 h1 hk h2) hg hs hd
  subst hk
  exact ⟨T', h', X', e', W', A.set W', st⟩
theorem own_stB (X : Stand p l e R s m args below meth c T locs cells slots) (hx : p.tables.exec = Jvm.exec) (hZ : Z.Warmed39 s.vm) (eT : T.heap = h) (A : own_AF Z h a .byte n f) {j x : Int32} (h1 : ¬ j < 0) {k : Nat} (hk : j.toNatClampNeg = k) (h2 : k < n)
    {g : JFrame} (hg : g.method = m) {rest : List Value} (hs : g.stack = .int x :: .int j :: .ref a :: rest) (hd : decode c.code g.pc = .ok (.bastore, 1)) :
    ∃ T' h', Stand p l e R s m args below meth c T' (locs ++ [⟨a, k⟩]) cells slots ∧ T'.heap = h' ∧ Wr h h' a k (.int (nar .byte x)) ∧ own_AF Z h' a .byte n (fun i => if i = k then .int (nar .byte x) else f i) ∧ ∀ target, Steps p.tables e below (T'.setTop { g with pc := g.pc + 1, stack := rest }) target → Steps p.tables e below (T.setTop g) target := by
  obtain ⟨cl, A', r1, r2, r3⟩ := id A
  obtain ⟨T', h', X', e', W', st⟩ := stB X hx hZ eT A' (own_AF.inb r1 h1 hk h2) hg hs hd
  subst hk
  exact ⟨T', h', X', e', W', A.set W', st⟩
theorem own_stZ (X : Stand p l e R s m args below meth c T locs cells slots) (hx : p.tables.exec = Jvm.exec) (hZ : Z.Warmed39 s.vm) (eT : T.heap = h) (A : own_AF Z h a .boolean n f) {j x : Int32} (h1 : ¬ j < 0) {k : Nat} (hk : j.toNatClampNeg = k) (h2 : k < n)
    {g : JFrame} (hg : g.method = m) {rest : List Value} (hs : g.stack = .int x :: .int j :: .ref a :: rest) (hd : decode c.code g.pc = .ok (.bastore, 1)) :
    ∃ T' h', Stand p l e R s m args below meth c T' (locs ++ [⟨a, k⟩]) cells slots ∧ T'.heap = h' ∧ Wr h h' a k (.int (nar .boolean x)) ∧ own_AF Z h' a .boolean n (fun i => if i = k then .int (nar .boolean x) else f i) ∧ ∀ target, Steps p.tables e below (T'.setTop { g with pc := g.pc + 1, stack := rest }) target → Steps p.tables e below (T.setTop g) target := by
  obtain ⟨cl, A', r1, r2, r3⟩ := id A
  obtain ⟨T', h', X', e', W', st⟩ := stZ X hx hZ eT A' (own_AF.inb r1 h1 hk h2) hg hs hd
  subst hk
  exact ⟨T', h', X', e', W', A.set W', st⟩
theorem own_lremM {g : JFrame} {target : State} (X : Stand p l e R s m args below meth c T locs cells slots) (hx : p.tables.exec = Jvm.exec) (hg : g.method = m) {x y : Int64} {rest : List Value} (hd : decode c.code g.pc = .ok (.lrem, 1)) (hs : g.stack = .long y :: .long x :: rest) (hy : y ≠ 0)
    (hr : Steps p.tables e below (T.setTop { g with pc := g.pc + 1, stack := .long (x % y) :: rest }) target) : Steps p.tables e below (T.setTop g) target :=
  XS.lrem X.here hx hg hd hs hy (by rw [lrem_mod x y]; exact hr)
theorem own_cloneI {a0 : Array Value} (X : Stand p l e R s m args below meth c T locs cells slots) (hx : p.tables.exec = Jvm.exec) (hZ : Z.Warmed39 s.vm) {own : String} {index : Nat} (hown : s.vm.findClass own = some m.cls)
    (w1 : (Cond.methodLink own index ⟨"[I", "clone", "()Ljava/lang/Object;"⟩).before a0 Z = true) (w2 : (Cond.sameMethod "[I" "java/lang/Object" "clone" "()Ljava/lang/Object;").before a0 Z = true) (w3 : (Cond.native ⟨"java/lang/Object", "clone", "()Ljava/lang/Object;"⟩).before a0 Z = true)
    (w4 : (Cond.instanceMethod ⟨"java/lang/Object", "clone", "()Ljava/lang/Object;"⟩).before a0 Z = true) (w5 : (Cond.selects "[I" ⟨"[I", "clone", "()Ljava/lang/Object;"⟩ ⟨"java/lang/Object", "clone", "()Ljava/lang/Object;"⟩).before a0 Z = true) (w6 : (Cond.castable "[I" "java/lang/Cloneable").before a0 Z = true)
    (eT : T.heap = h) (F : own_AF Z h a .int n f) (E : Exa Z h a "[I") (hfit : ∀ i, i < n → fits .int (f i) = true) {g : JFrame} (hg : g.method = m) (hsize : g.locals.size = c.maxLocals) {rest : List Value} (hs : g.stack = .ref a :: rest) (hd : decode c.code g.pc = .ok (.invokevirtual index, 3))
    (hf : 1 ≤ R.frames) {W cap : Nat} (hW : 2 * g.monitorRoom + (rest.map fun v => v.category).sum ≤ W) (hl : W + 14 ≤ R.locals) (hcap : n ≤ cap) (hc : cells + 1 ≤ R.cells) (hsl : slots + cap ≤ R.slots) :
    ∃ T' h', Stand p l e R s m args below meth c T' locs (cells + 1) (slots + cap) ∧ T'.heap = h' ∧ Ext h h' ∧ own_AF Z h' h.size .int n f ∧ Exa Z h' h.size "[I" ∧
      ∀ target, Steps p.tables e below (T'.setTop { g with pc := g.pc + 3, stack := .ref h.size :: rest }) target → Steps p.tables e below (T.setTop g) target := by
  obtain ⟨cl, A, r1, r2, r3⟩ := F
  have FC : FitC Z cl := fitC_of A fun i hi v hv => by rw [r3 i (by omega)] at hv; cases hv; exact hfit i (by omega)
  obtain ⟨T', h', X', e', ex, A', E', st⟩ := cloneA X hx hZ hown w1 w2 w3 w4 w5 w6 eT A E FC hg hsize hs hd hf hW hl (by rw [r1]; exact hcap) hc hsl
  exact ⟨T', h', X', e', ex, ⟨cloneOf cl, A', r1, r2, r3⟩, E', st⟩
end OwnKit
def own_st (rt sc ll : Int64) : Int64 := if ll < rt then 0 else rt / sc + (if rt % sc = (0 : Int64) then (0 : Int32).toInt64 else (1 : Int32).toInt64)
theorem own_mask (x : Int64) : 0 ≤ (x &&& (9223372036854775807 : Int64)).toInt := by
  have := c_maskL x (9223372036854775807 : Int64) 63 (by decide) (by decide)
  omega
theorem own_ceilI (r c : Int) (hc : 0 < c) : (r - 1) / c + 1 = r / c + if r % c = 0 then 0 else 1 := by
  have h1 := Int.mul_ediv_add_emod r c
  have h2 := Int.mul_ediv_add_emod (r - 1) c
  have h3 := Int.emod_nonneg r (by omega : c ≠ 0)
  have h4 := Int.emod_lt_of_pos r hc
  have h5 := Int.emod_nonneg (r - 1) (by omega : c ≠ 0)
  have h6 := Int.emod_lt_of_pos (r - 1) hc
  generalize r / c = q at *
  generalize (r - 1) / c = q' at *
  generalize r % c = m at *
  generalize (r - 1) % c = m' at *
  have e : c * (q - q') = 1 + m' - m := by rw [Int.mul_sub]; omega
  obtain ⟨k, hk⟩ : ∃ k, q - q' = k := ⟨_, rfl⟩
  rw [hk] at e
  have k1 : k < 2 := Int.lt_of_mul_lt_mul_left (a := c) (by omega) (by omega)
  have k0 : -1 < k := Int.lt_of_mul_lt_mul_left (a := c) (by omega) (by omega)
  have kk : k = 0 ∨ k = 1 := by omega
  rcases kk with rfl | rfl
  · rw [if_neg (by omega)]; omega
  · rw [if_pos (by omega)]; omega
theorem own_law1 {rt ce safe : Int64} (h1 : 1 ≤ rt.toInt) (h2 : 1 ≤ ce.toInt) (h : ¬ safe < rt) : own_st rt ce safe = (rt - (1 : Int64)) / ce + (1 : Int64) := by
  have hm : ce ≠ -1 := fun q => by rw [q] at h2; exact absurd h2 (by decide)
  have r1 := rng64 rt
  have s1 := c_lsub rt (1 : Int64)
  have s2 := rng64 (rt - (1 : Int64))
  have o1 : (1 : Int64).toInt = 1 := rfl
  have o2 : ((1 : Int32).toInt64).toInt = 1 := rfl
  have o3 : ((0 : Int32).toInt64).toInt = 0 := rfl
  have o4 : (0 : Int64).toInt = 0 := rfl
  have e1 : (rt - (1 : Int64)).toInt = rt.toInt - 1 := by omega
  have d1 := (c_ldiv rt ce ce.toInt rfl hm).1 (by omega)
  have d2 := (c_ldiv (rt - (1 : Int64)) ce ce.toInt rfl hm).1 (by omega)
  rw [e1] at d2
  have m1 : (rt % ce).toInt = rt.toInt % ce.toInt := by rw [Int64.toInt_mod]; exact (tr _ _).1 (by omega)
  have b1 : 0 ≤ rt.toInt / ce.toInt := Int.ediv_nonneg (by omega) (by omega)
  have b2 : rt.toInt / ce.toInt ≤ rt.toInt := Int.ediv_le_self _ (by omega)
  have b3 : 0 ≤ (rt.toInt - 1) / ce.toInt := Int.ediv_nonneg (by omega) (by omega)
  have b4 : (rt.toInt - 1) / ce.toInt ≤ rt.toInt - 1 := Int.ediv_le_self _ (by omega)
  have k := own_ceilI rt.toInt ce.toInt (by omega)
  have a1 := c_ladd ((rt - (1 : Int64)) / ce) (1 : Int64)
  have a2 := rng64 ((rt - (1 : Int64)) / ce + (1 : Int64))
  unfold own_st
  rw [if_neg h]
  apply Int64.toInt_inj.mp
  by_cases hz : rt % ce = (0 : Int64)
  · have hz' : rt.toInt % ce.toInt = 0 := by rw [← m1, hz]; rfl
    rw [if_pos hz]
    rw [if_pos hz'] at k
    have a3 := c_ladd (rt / ce) (0 : Int32).toInt64
    have a4 := rng64 (rt / ce + (0 : Int32).toInt64)
    omega
  · have hz' : ¬ rt.toInt % ce.toInt = 0 := fun q => hz (Int64.toInt_inj.mp (by rw [m1, q]; rfl))
    rw [if_neg hz]
    rw [if_neg hz'] at k
    have a3 := c_ladd (rt / ce) (1 : Int32).toInt64
    have a4 := rng64 (rt / ce + (1 : Int32).toInt64)
    omega
theorem own_d2_0 : decode jdk_30_method_1_code 0 = .ok (.aload_n 0, 1) := by decide +kernel
theorem own_d2_1 : decode jdk_30_method_1_code 1 = .ok (.invokespecial 1, 3) := by decide +kernel
theorem own_d2_4 : decode jdk_30_method_1_code 4 = .ok (.return_, 1) := by decide +kernel
theorem own_pn0 : plainName "java/lang/Record" = true := by first | (simp [plainName, overriddenIn]; done) | decide +kernel
theorem own_ef2 (m : MethodId) (x0 : Addr) : entryFrame m #[(.ref x0)] 1 = mkF m 0 #[.val (.ref x0)] [] := by first | (simp [entryFrame, mkF, argsToLocals, Value.category]; done) | rfl
def own_Q2 (Z : State) (a1 : Addr) (h0 : Heap) (n0 : Nat) (v : Option Value) (h : Heap) (L : List Loc) : Prop := v = none ∧ Fr n0 L ∧ h = h0
set_option maxRecDepth 65536 in
set_option maxHeartbeats 40000000 in
theorem own_rm2 (l : Launch) (Z : State) (a0 : Array Value) (hw : ∀ d ∈ tables_1, d.before a0 Z = true) (ws : List Jvm.Cond) (a1 : Addr) (h0 : Heap) (n0 : Nat) (Z0 : n0 ≤ h0.size) :
    MetFree l (⟨"java/lang/Record", "<init>", "()V"⟩ : MethodName) (head1 (Jvm.Cond.code (⟨"java/lang/Record", "<init>", "()V"⟩ : MethodName) jdk_30_method_1_code 1 none :: ws) ({ frames := 1, cells := 0, slots := 0, locals := 12 } : Room)) (fun a U => a = #[(.ref a1)] ∧ Z.Warmed39 U.vm ∧ U.heap = h0) (fun _ _ _ _ _ => True) (fun _ U o U' => ∃ v L, o = .returned v ∧ own_Q2 Z a1 h0 n0 v U'.heap L ∧ FrameEnd U o U' L ({ frames := 1, cells := 0, slots := 0, locals := 12 } : Room).cells ({ frames := 1, cells := 0, slots := 0, locals := 12 } : Room).slots) := by
  refine MetFree.of_bodySF (plainFor_of_name own_pn0) hisR ?_
  intro p e s m args below meth c s₁ Bd hml0 hP hK
  obtain ⟨rfl, hZ, hh⟩ := hP
  have hx := Bd.exec
  have hby := Bd.bytes
  have hml : c.maxLocals = 1 := hml0
  have hown : s.vm.findClass "java/lang/Record" = some m.cls := findClass_of_methodNamed Bd.named
  have hnm := (name_of_methodNamed Bd.named Bd.method).1
  have X0 : Stand p l e ({ frames := 1, cells := 0, slots := 0, locals := 12 } : Room) s m #[(.ref a1)] below meth c s₁ [] 0 0 := Stand.of_body Bd
  have e0 : s₁.heap = h0 := by rw [← hh, Bd.state]; rfl
  have N0 := Fr.nil n0
  have K0 := Keep.refl h0 []
  have pre0 : ∀ t, Steps p.tables e below (s₁.setTop (mkF m 0 #[.val (.ref a1)] [])) t → Steps p.tables e below (s₁.setTop (entryFrame m #[(.ref a1)] 1)) t := fun t kt0 => castTop (own_ef2 m (a1)) kt0
  obtain ⟨T1, X1, e1, st1⟩ := initO X0 hx hZ hown (hw _ (List.mem_of_getElem? (i := 12) rfl)) (hw _ (List.mem_of_getElem? (i := 13) rfl)) (hw _ (List.mem_of_getElem? (i := 14) rfl)) e0 (g := (mkF m 1 #[.val (.ref a1)] [(.ref a1)])) rfl (by rw [hml]; rfl) rfl (hb hby own_d2_1) (by decide) (W := 0) (by show 2 * 0 + _ ≤ _; exact Nat.le_of_eq rfl) (by decide)
  obtain ⟨fs, hr, hrun, hended, hW, hsame⟩ := X1.leave (v := none) (fun _ => rfl) (BodyLoose.notSynchronized Bd)
  refine ⟨_, _, pre0 _ ?_, hrun, hended, _, _, rfl, ?_, ⟨_, rfl⟩, hW, hsame.mono (by decide) (by decide)⟩
  · skip
    show Steps p.tables e below (s₁.setTop (mkF m 0 #[.val (.ref a1)] [])) _
    refine XS.aloadN X0.here hx rfl (hb hby own_d2_0) rfl rfl ?_
    show Steps p.tables e below (s₁.setTop (mkF m 1 #[.val (.ref a1)] [(.ref a1)])) _
    refine st1 _ ?_
    show Steps p.tables e below (T1.setTop (mkF m 4 #[.val (.ref a1)] [])) _
    exact X1.returnOut hx Bd.returns (hb hby own_d2_4) hr
  · show own_Q2 Z a1 h0 n0 _ T1.heap _
    rw [e1]
    exact ⟨rfl, N0, rfl⟩
theorem own_d1_0 : decode prog_96_method_1_code 0 = .ok (.aload_n 0, 1) := by decide +kernel
theorem own_d1_1 : decode prog_96_method_1_code 1 = .ok (.invokespecial 1, 3) := by decide +kernel
theorem own_d1_4 : decode prog_96_method_1_code 4 = .ok (.aload_n 0, 1) := by decide +kernel
theorem own_d1_5 : decode prog_96_method_1_code 5 = .ok (.iload_n 1, 1) := by decide +kernel
theorem own_d1_6 : decode prog_96_method_1_code 6 = .ok (.putfield 7, 3) := by decide +kernel
theorem own_d1_9 : decode prog_96_method_1_code 9 = .ok (.aload_n 0, 1) := by decide +kernel
theorem own_d1_10 : decode prog_96_method_1_code 10 = .ok (.lload_n 2, 1) := by decide +kernel
theorem own_d1_11 : decode prog_96_method_1_code 11 = .ok (.putfield 13, 3) := by decide +kernel
theorem own_d1_14 : decode prog_96_method_1_code 14 = .ok (.aload_n 0, 1) := by decide +kernel
theorem own_d1_15 : decode prog_96_method_1_code 15 = .ok (.lload 4, 2) := by decide +kernel
theorem own_d1_17 : decode prog_96_method_1_code 17 = .ok (.putfield 17, 3) := by decide +kernel
theorem own_d1_20 : decode prog_96_method_1_code 20 = .ok (.aload_n 0, 1) := by decide +kernel
theorem own_d1_21 : decode prog_96_method_1_code 21 = .ok (.aload 6, 2) := by decide +kernel
theorem own_d1_23 : decode prog_96_method_1_code 23 = .ok (.putfield 20, 3) := by decide +kernel
theorem own_d1_26 : decode prog_96_method_1_code 26 = .ok (.return_, 1) := by decide +kernel
theorem own_pn1 : plainName "com/example/slotwright/slotwright/core/NodeBounds" = true := by first | (simp [plainName, overriddenIn]; done) | decide +kernel
theorem own_pd0 : parseMethodDescriptor "()V" = some ⟨[], none⟩ := by decide +kernel
theorem own_ef1 (m : MethodId) (x0 : Addr) (x1 : Int32) (x2 : Int64) (x3 : Int64) : entryFrame m #[(.ref x0), (.int x1), (.long x2), (.long x3), .null] 7 = mkF m 0 #[.val (.ref x0), .val (.int x1), .val (.long x2), .second, .val (.long x3), .second, .val .null] [] := by first | (simp [entryFrame, mkF, argsToLocals, Value.category]; done) | rfl
def own_Q1 (Z : State) (a1 : Addr) (p2 : Int32) (q3 : Int64) (q4 : Int64) (h0 : Heap) (n0 : Nat) (v : Option Value) (h : Heap) (L : List Loc) : Prop := v = none ∧ Fr n0 L ∧ Keep h0 h [a1] ∧ Exa Z h a1 "com/example/slotwright/slotwright/core/NodeBounds" ∧ Fld Z h a1 "com/example/slotwright/slotwright/core/NodeBounds" "costScale" "I" (.int p2) ∧ Fld Z h a1 "com/example/slotwright/slotwright/core/NodeBounds" "speedCeiling" "J" (.long q3) ∧ Fld Z h a1 "com/example/slotwright/slotwright/core/NodeBounds" "longestSafeRuntime" "J" (.long q4) ∧ Fld Z h a1 "com/example/slotwright/slotwright/core/NodeBounds" "classes" "Lcom/example/slotwright/slotwright/core/NodeClasses$OnFirstUse;" .null
set_option maxRecDepth 65536 in
set_option maxHeartbeats 40000000 in
theorem own_rm1 (l : Launch) (Z : State) (a0 : Array Value) (hw : ∀ d ∈ tables_1, d.before a0 Z = true) (ws : List Jvm.Cond) (a1 : Addr) (p2 : Int32) (q3 : Int64) (q4 : Int64) (h0 : Heap) (n0 : Nat) (Z0 : n0 ≤ h0.size) (E_a1 : Exa Z h0 a1 "com/example/slotwright/slotwright/core/NodeBounds") (F_costScale : Fld Z h0 a1 "com/example/slotwright/slotwright/core/NodeBounds" "costScale" "I" (.int (0 : Int32))) (F_speedCeiling : Fld Z h0 a1 "com/example/slotwright/slotwright/core/NodeBounds" "speedCeiling" "J" (.long (0 : Int64))) (F_longestSafeRuntime : Fld Z h0 a1 "com/example/slotwright/slotwright/core/NodeBounds" "longestSafeRuntime" "J" (.long (0 : Int64))) (F_classes : Fld Z h0 a1 "com/example/slotwright/slotwright/core/NodeBounds" "classes" "Lcom/example/slotwright/slotwright/core/NodeClasses$OnFirstUse;" .null) (g_a1 : n0 ≤ a1) :
    MetFree l (⟨"com/example/slotwright/slotwright/core/NodeBounds", "<init>", "(IJJLcom/example/slotwright/slotwright/core/NodeClasses$OnFirstUse;)V"⟩ : MethodName) (head1 (Jvm.Cond.code (⟨"com/example/slotwright/slotwright/core/NodeBounds", "<init>", "(IJJLcom/example/slotwright/slotwright/core/NodeClasses$OnFirstUse;)V"⟩ : MethodName) prog_96_method_1_code 7 none :: ws) ({ frames := 2, cells := 0, slots := 0, locals := 24 } : Room)) (fun a U => a = #[(.ref a1), (.int p2), (.long q3), (.long q4), .null] ∧ Z.Warmed39 U.vm ∧ U.heap = h0) (fun _ _ _ _ _ => True) (fun _ U o U' => ∃ v L, o = .returned v ∧ own_Q1 Z a1 p2 q3 q4 h0 n0 v U'.heap L ∧ FrameEnd U o U' L ({ frames := 2, cells := 0, slots := 0, locals := 24 } : Room).cells ({ frames := 2, cells := 0, slots := 0, locals := 24 } : Room).slots) := by
  refine MetFree.of_bodySF (plainFor_of_name own_pn1) hisR ?_
  intro p e s m args below meth c s₁ Bd hml0 hP hK
  obtain ⟨rfl, hZ, hh⟩ := hP
  have hx := Bd.exec
  have hby := Bd.bytes
  have hml : c.maxLocals = 7 := hml0
  have hown : s.vm.findClass "com/example/slotwright/slotwright/core/NodeBounds" = some m.cls := findClass_of_methodNamed Bd.named
  have hnm := (name_of_methodNamed Bd.named Bd.method).1
  have X0 : Stand p l e ({ frames := 2, cells := 0, slots := 0, locals := 24 } : Room) s m #[(.ref a1), (.int p2), (.long q3), (.long q4), .null] below meth c s₁ [] 0 0 := Stand.of_body Bd
  have e0 : s₁.heap = h0 := by rw [← hh, Bd.state]; rfl
  have N0 := Fr.nil n0
  have K0 := Keep.refl h0 [a1]
  have pre0 : ∀ t, Steps p.tables e below (s₁.setTop (mkF m 0 #[.val (.ref a1), .val (.int p2), .val (.long q3), .second, .val (.long q4), .second, .val .null] [])) t → Steps p.tables e below (s₁.setTop (entryFrame m #[(.ref a1), (.int p2), (.long q3), (.long q4), .null] 7)) t := fun t kt0 => castTop (own_ef1 m (a1) (p2) (q3) (q4)) kt0
  obtain ⟨_, _, ⟨T1, L1, k1, n1⟩, -, X1, ⟨Lc1, hQ1, l1, y1, z1⟩, st1⟩ := X0.specialBack hx (y := (⟨"java/lang/Record", "<init>", "()V"⟩ : MethodName)) rfl hown (mvT hZ (hw _ (List.mem_of_getElem? (i := 7) rfl))) (mvT hZ (hw _ (List.mem_of_getElem? (i := 8) rfl))) (mvT hZ (hw _ (List.mem_of_getElem? (i := 11) rfl))) (by decide) (backOf (W := 0) (own_rm2 l Z a0 hw [] (a1) h0 n0 Z0 ) hZ (hw _ (List.mem_of_getElem? (i := 11) rfl)) (hw _ (List.mem_of_getElem? (i := 10) rfl)) (by decide) (by decide)) (g := (mkF m 1 #[.val (.ref a1), .val (.int p2), .val (.long q3), .second, .val (.long q4), .second, .val .null] [(.ref a1)])) rfl (by rw [hml]; rfl) (Steps.refl _) (a := a1) (argsL := []) (rest := []) (lenOf own_pd0 rfl) rfl (by show 2 * 0 + _ ≤ _; exact Nat.le_of_eq rfl) (hb hby own_d1_1) (fun _ _ => ⟨rfl, e0, (by decide : 0 + 0 ≤ _), (by decide : 0 + 0 ≤ _)⟩)
  dsimp only [Pt.U, Pt.locs, Pt.cells, Pt.slots] at X1 l1 y1 z1 st1 hQ1
  subst l1 y1 z1
  obtain ⟨rfl, Nq1, eq1⟩ := hQ1
  have N1 := Fr.app N0 Nq1
  obtain ⟨T2, h2, X2, e2, W2, st2⟩ := putF X1 hx hZ hown (host := "") (Or.inl (hw _ (List.mem_of_getElem? (i := 15) rfl))) Via.refl eq1 F_costScale E_a1 (Or.inr ⟨(hw _ (List.mem_of_getElem? (i := 16) rfl)), rfl, hnm⟩) (hw _ (List.mem_of_getElem? (i := 2) rfl)) (ty := .int) (by decide) rfl rfl (g := (mkF m 6 #[.val (.ref a1), .val (.int p2), .val (.long q3), .second, .val (.long q4), .second, .val .null] [(.int p2), (.ref a1)])) rfl rfl (hb hby own_d1_6)
  have E_a1 := E_a1.wr W2
  have F_costScale := F_costScale.same W2
  have F_speedCeiling := F_speedCeiling.other W2 (Or.inr (slot_ne (Or.inr (hw _ (List.mem_of_getElem? (i := 18) rfl))) (Or.inr (hw _ (List.mem_of_getElem? (i := 16) rfl))) (by decide) (t := .long) (t' := .int) (by decide) (by decide)))
  have F_longestSafeRuntime := F_longestSafeRuntime.other W2 (Or.inr (slot_ne (Or.inr (hw _ (List.mem_of_getElem? (i := 20) rfl))) (Or.inr (hw _ (List.mem_of_getElem? (i := 16) rfl))) (by decide) (t := .long) (t' := .int) (by decide) (by decide)))
  have F_classes := F_classes.other W2 (Or.inr (slot_ne (Or.inr (hw _ (List.mem_of_getElem? (i := 22) rfl))) (Or.inr (hw _ (List.mem_of_getElem? (i := 16) rfl))) (by decide) (t := (.object "com/example/slotwright/slotwright/core/NodeClasses$OnFirstUse")) (t' := .int) (by decide) (by decide)))
  have K3 := K0.wr W2 (Or.inl (List.mem_of_getElem? (i := 0) rfl))
  have Z4 := Nat.le_trans Z0 (Keep.of_wr W2).1
  have N5 := Fr.snoc X2 N1 g_a1
  obtain ⟨T6, h6, X6, e6, W6, st6⟩ := putF X2 hx hZ hown (host := "") (Or.inl (hw _ (List.mem_of_getElem? (i := 17) rfl))) Via.refl e2 F_speedCeiling E_a1 (Or.inr ⟨(hw _ (List.mem_of_getElem? (i := 18) rfl)), rfl, hnm⟩) (hw _ (List.mem_of_getElem? (i := 2) rfl)) (ty := .long) (by decide) rfl rfl (g := (mkF m 11 #[.val (.ref a1), .val (.int p2), .val (.long q3), .second, .val (.long q4), .second, .val .null] [(.long q3), (.ref a1)])) rfl rfl (hb hby own_d1_11)
  have E_a1 := E_a1.wr W6
  have F_costScale := F_costScale.other W6 (Or.inr (slot_ne (Or.inr (hw _ (List.mem_of_getElem? (i := 16) rfl))) (Or.inr (hw _ (List.mem_of_getElem? (i := 18) rfl))) (by decide) (t := .int) (t' := .long) (by decide) (by decide)))
  have F_speedCeiling := F_speedCeiling.same W6
  have F_longestSafeRuntime := F_longestSafeRuntime.other W6 (Or.inr (slot_ne (Or.inr (hw _ (List.mem_of_getElem? (i := 20) rfl))) (Or.inr (hw _ (List.mem_of_getElem? (i := 18) rfl))) (by decide) (t := .long) (t' := .long) (by decide) (by decide)))
  have F_classes := F_classes.other W6 (Or.inr (slot_ne (Or.inr (hw _ (List.mem_of_getElem? (i := 22) rfl))) (Or.inr (hw _ (List.mem_of_getElem? (i := 18) rfl))) (by decide) (t := (.object "com/example/slotwright/slotwright/core/NodeClasses$OnFirstUse")) (t' := .long) (by decide) (by decide)))
  have K7 := K3.wr W6 (Or.inl (List.mem_of_getElem? (i := 0) rfl))
  have Z8 := Nat.le_trans Z4 (Keep.of_wr W6).1
  have N9 := Fr.snoc X6 N5 g_a1
  obtain ⟨T10, h10, X10, e10, W10, st10⟩ := putF X6 hx hZ hown (host := "") (Or.inl (hw _ (List.mem_of_getElem? (i := 19) rfl))) Via.refl e6 F_longestSafeRuntime E_a1 (Or.inr ⟨(hw _ (List.mem_of_getElem? (i := 20) rfl)), rfl, hnm⟩) (hw _ (List.mem_of_getElem? (i := 2) rfl)) (ty := .long) (by decide) rfl rfl (g := (mkF m 17 #[.val (.ref a1), .val (.int p2), .val (.long q3), .second, .val (.long q4), .second, .val .null] [(.long q4), (.ref a1)])) rfl rfl (hb hby own_d1_17)
  have E_a1 := E_a1.wr W10
  have F_costScale := F_costScale.other W10 (Or.inr (slot_ne (Or.inr (hw _ (List.mem_of_getElem? (i := 16) rfl))) (Or.inr (hw _ (List.mem_of_getElem? (i := 20) rfl))) (by decide) (t := .int) (t' := .long) (by decide) (by decide)))
  have F_speedCeiling := F_speedCeiling.other W10 (Or.inr (slot_ne (Or.inr (hw _ (List.mem_of_getElem? (i := 18) rfl))) (Or.inr (hw _ (List.mem_of_getElem? (i := 20) rfl))) (by decide) (t := .long) (t' := .long) (by decide) (by decide)))
  have F_longestSafeRuntime := F_longestSafeRuntime.same W10
  have F_classes := F_classes.other W10 (Or.inr (slot_ne (Or.inr (hw _ (List.mem_of_getElem? (i := 22) rfl))) (Or.inr (hw _ (List.mem_of_getElem? (i := 20) rfl))) (by decide) (t := (.object "com/example/slotwright/slotwright/core/NodeClasses$OnFirstUse")) (t' := .long) (by decide) (by decide)))
  have K11 := K7.wr W10 (Or.inl (List.mem_of_getElem? (i := 0) rfl))
  have Z12 := Nat.le_trans Z8 (Keep.of_wr W10).1
  have N13 := Fr.snoc X10 N9 g_a1
  obtain ⟨T14, h14, X14, e14, W14, st14⟩ := putF X10 hx hZ hown (host := "") (Or.inl (hw _ (List.mem_of_getElem? (i := 21) rfl))) Via.refl e10 F_classes E_a1 (Or.inr ⟨(hw _ (List.mem_of_getElem? (i := 22) rfl)), rfl, hnm⟩) (hw _ (List.mem_of_getElem? (i := 2) rfl)) (ty := (.object "com/example/slotwright/slotwright/core/NodeClasses$OnFirstUse")) (by decide) rfl rfl (g := (mkF m 23 #[.val (.ref a1), .val (.int p2), .val (.long q3), .second, .val (.long q4), .second, .val .null] [.null, (.ref a1)])) rfl rfl (hb hby own_d1_23)
  have E_a1 := E_a1.wr W14
  have F_costScale := F_costScale.other W14 (Or.inr (slot_ne (Or.inr (hw _ (List.mem_of_getElem? (i := 16) rfl))) (Or.inr (hw _ (List.mem_of_getElem? (i := 22) rfl))) (by decide) (t := .int) (t' := (.object "com/example/slotwright/slotwright/core/NodeClasses$OnFirstUse")) (by decide) (by decide)))
  have F_speedCeiling := F_speedCeiling.other W14 (Or.inr (slot_ne (Or.inr (hw _ (List.mem_of_getElem? (i := 18) rfl))) (Or.inr (hw _ (List.mem_of_getElem? (i := 22) rfl))) (by decide) (t := .long) (t' := (.object "com/example/slotwright/slotwright/core/NodeClasses$OnFirstUse")) (by decide) (by decide)))
  have F_longestSafeRuntime := F_longestSafeRuntime.other W14 (Or.inr (slot_ne (Or.inr (hw _ (List.mem_of_getElem? (i := 20) rfl))) (Or.inr (hw _ (List.mem_of_getElem? (i := 22) rfl))) (by decide) (t := .long) (t' := (.object "com/example/slotwright/slotwright/core/NodeClasses$OnFirstUse")) (by decide) (by decide)))
  have F_classes := F_classes.same W14
  have K15 := K11.wr W14 (Or.inl (List.mem_of_getElem? (i := 0) rfl))
  have Z16 := Nat.le_trans Z12 (Keep.of_wr W14).1
  have N17 := Fr.snoc X14 N13 g_a1
  obtain ⟨fs, hr, hrun, hended, hW, hsame⟩ := X14.leave (v := none) (fun _ => rfl) (BodyLoose.notSynchronized Bd)
  refine ⟨_, _, pre0 _ ?_, hrun, hended, _, _, rfl, ?_, ⟨_, rfl⟩, hW, hsame.mono (by decide) (by decide)⟩
  · skip
    show Steps p.tables e below (s₁.setTop (mkF m 0 #[.val (.ref a1), .val (.int p2), .val (.long q3), .second, .val (.long q4), .second, .val .null] [])) _
    refine XS.aloadN X0.here hx rfl (hb hby own_d1_0) rfl rfl ?_
    show Steps p.tables e below (s₁.setTop (mkF m 1 #[.val (.ref a1), .val (.int p2), .val (.long q3), .second, .val (.long q4), .second, .val .null] [(.ref a1)])) _
    refine st1.trans ?_
    show Steps p.tables e below (T1.setTop (mkF m 4 #[.val (.ref a1), .val (.int p2), .val (.long q3), .second, .val (.long q4), .second, .val .null] [])) _
    refine XS.aloadN X1.here hx rfl (hb hby own_d1_4) rfl rfl ?_
    show Steps p.tables e below (T1.setTop (mkF m 5 #[.val (.ref a1), .val (.int p2), .val (.long q3), .second, .val (.long q4), .second, .val .null] [(.ref a1)])) _
    refine XS.iloadN X1.here hx rfl (hb hby own_d1_5) rfl ?_
    show Steps p.tables e below (T1.setTop (mkF m 6 #[.val (.ref a1), .val (.int p2), .val (.long q3), .second, .val (.long q4), .second, .val .null] [(.int p2), (.ref a1)])) _
    refine st2 _ ?_
    show Steps p.tables e below (T2.setTop (mkF m 9 #[.val (.ref a1), .val (.int p2), .val (.long q3), .second, .val (.long q4), .second, .val .null] [])) _
    refine XS.aloadN X2.here hx rfl (hb hby own_d1_9) rfl rfl ?_
    show Steps p.tables e below (T2.setTop (mkF m 10 #[.val (.ref a1), .val (.int p2), .val (.long q3), .second, .val (.long q4), .second, .val .null] [(.ref a1)])) _
    refine XS.lloadN X2.here hx rfl (hb hby own_d1_10) rfl ?_
    show Steps p.tables e below (T2.setTop (mkF m 11 #[.val (.ref a1), .val (.int p2), .val (.long q3), .second, .val (.long q4), .second, .val .null] [(.long q3), (.ref a1)])) _
    refine st6 _ ?_
    show Steps p.tables e below (T6.setTop (mkF m 14 #[.val (.ref a1), .val (.int p2), .val (.long q3), .second, .val (.long q4), .second, .val .null] [])) _
    refine XS.aloadN X6.here hx rfl (hb hby own_d1_14) rfl rfl ?_
    show Steps p.tables e below (T6.setTop (mkF m 15 #[.val (.ref a1), .val (.int p2), .val (.long q3), .second, .val (.long q4), .second, .val .null] [(.ref a1)])) _
    refine XS.lload X6.here hx rfl (hb hby own_d1_15) rfl ?_
    show Steps p.tables e below (T6.setTop (mkF m 17 #[.val (.ref a1), .val (.int p2), .val (.long q3), .second, .val (.long q4), .second, .val .null] [(.long q4), (.ref a1)])) _
    refine st10 _ ?_
    show Steps p.tables e below (T10.setTop (mkF m 20 #[.val (.ref a1), .val (.int p2), .val (.long q3), .second, .val (.long q4), .second, .val .null] [])) _
    refine XS.aloadN X10.here hx rfl (hb hby own_d1_20) rfl rfl ?_
    show Steps p.tables e below (T10.setTop (mkF m 21 #[.val (.ref a1), .val (.int p2), .val (.long q3), .second, .val (.long q4), .second, .val .null] [(.ref a1)])) _
    refine XS.aload X10.here hx rfl (hb hby own_d1_21) rfl rfl ?_
    show Steps p.tables e below (T10.setTop (mkF m 23 #[.val (.ref a1), .val (.int p2), .val (.long q3), .second, .val (.long q4), .second, .val .null] [.null, (.ref a1)])) _
    refine st14 _ ?_
    show Steps p.tables e below (T14.setTop (mkF m 26 #[.val (.ref a1), .val (.int p2), .val (.long q3), .second, .val (.long q4), .second, .val .null] [])) _
    exact X14.returnOut hx Bd.returns (hb hby own_d1_26) hr
  · show own_Q1 Z a1 p2 q3 q4 h0 n0 _ T14.heap _
    rw [e14]
    exact ⟨rfl, N17, K15, E_a1, F_costScale, F_speedCeiling, F_longestSafeRuntime, F_classes⟩
theorem own_d4_0 : decode prog_96_method_3_code 0 = .ok (.lload_n 1, 1) := by decide +kernel
theorem own_d4_1 : decode prog_96_method_3_code 1 = .ok (.aload_n 0, 1) := by decide +kernel
theorem own_d4_2 : decode prog_96_method_3_code 2 = .ok (.getfield 17, 3) := by decide +kernel
theorem own_d4_5 : decode prog_96_method_3_code 5 = .ok (.lcmp, 1) := by decide +kernel
theorem own_d4_6 : decode prog_96_method_3_code 6 = .ok (.ifCond .le 5, 3) := by decide +kernel
theorem own_d4_9 : decode prog_96_method_3_code 9 = .ok (.lconst 0, 1) := by decide +kernel
theorem own_d4_10 : decode prog_96_method_3_code 10 = .ok (.lreturn, 1) := by decide +kernel
theorem own_d4_11 : decode prog_96_method_3_code 11 = .ok (.lload_n 1, 1) := by decide +kernel
theorem own_d4_12 : decode prog_96_method_3_code 12 = .ok (.aload_n 0, 1) := by decide +kernel
theorem own_d4_13 : decode prog_96_method_3_code 13 = .ok (.getfield 13, 3) := by decide +kernel
theorem own_d4_16 : decode prog_96_method_3_code 16 = .ok (.ldiv, 1) := by decide +kernel
theorem own_d4_17 : decode prog_96_method_3_code 17 = .ok (.lload_n 1, 1) := by decide +kernel
theorem own_d4_18 : decode prog_96_method_3_code 18 = .ok (.aload_n 0, 1) := by decide +kernel
theorem own_d4_19 : decode prog_96_method_3_code 19 = .ok (.getfield 13, 3) := by decide +kernel
theorem own_d4_22 : decode prog_96_method_3_code 22 = .ok (.lrem, 1) := by decide +kernel
theorem own_d4_23 : decode prog_96_method_3_code 23 = .ok (.lconst 0, 1) := by decide +kernel
theorem own_d4_24 : decode prog_96_method_3_code 24 = .ok (.lcmp, 1) := by decide +kernel
theorem own_d4_25 : decode prog_96_method_3_code 25 = .ok (.ifCond .ne 7, 3) := by decide +kernel
theorem own_d4_28 : decode prog_96_method_3_code 28 = .ok (.iconst 0, 1) := by decide +kernel
theorem own_d4_29 : decode prog_96_method_3_code 29 = .ok (.goto 4, 3) := by decide +kernel
theorem own_d4_32 : decode prog_96_method_3_code 32 = .ok (.iconst 1, 1) := by decide +kernel
theorem own_d4_33 : decode prog_96_method_3_code 33 = .ok (.i2l, 1) := by decide +kernel
theorem own_d4_34 : decode prog_96_method_3_code 34 = .ok (.ladd, 1) := by decide +kernel
theorem own_d4_35 : decode prog_96_method_3_code 35 = .ok (.lreturn, 1) := by decide +kernel
theorem own_ef4 (m : MethodId) (x0 : Addr) (x1 : Int64) : entryFrame m #[(.ref x0), (.long x1)] 3 = mkF m 0 #[.val (.ref x0), .val (.long x1), .second] [] := by first | (simp [entryFrame, mkF, argsToLocals, Value.category]; done) | rfl
def own_Q4 (Z : State) (a1 : Addr) (rt : Int64) (sc : Int64) (ll : Int64) (h0 : Heap) (n0 : Nat) (v : Option Value) (h : Heap) (L : List Loc) : Prop := v = some (.long (own_st rt sc ll)) ∧ Fr n0 L ∧ h = h0
set_option maxRecDepth 65536 in
set_option maxHeartbeats 40000000 in
theorem own_rm4 (l : Launch) (Z : State) (a0 : Array Value) (hw : ∀ d ∈ tables_1, d.before a0 Z = true) (ws : List Jvm.Cond) (a1 : Addr) (rt : Int64) (sc : Int64) (ll : Int64) (h0 : Heap) (n0 : Nat) (Z0 : n0 ≤ h0.size) (F_s : Fld Z h0 a1 "com/example/slotwright/slotwright/core/NodeBounds" "speedCeiling" "J" (.long sc)) (F_l : Fld Z h0 a1 "com/example/slotwright/slotwright/core/NodeBounds" "longestSafeRuntime" "J" (.long ll)) (hsc : sc ≠ 0) :
    MetFree l (⟨"com/example/slotwright/slotwright/core/NodeBounds", "shortestTask", "(J)J"⟩ : MethodName) (head1 (Jvm.Cond.code (⟨"com/example/slotwright/slotwright/core/NodeBounds", "shortestTask", "(J)J"⟩ : MethodName) prog_96_method_3_code 3 (some .long) :: ws) ({ frames := 0, cells := 0, slots := 0, locals := 0 } : Room)) (fun a U => a = #[(.ref a1), (.long rt)] ∧ Z.Warmed39 U.vm ∧ U.heap = h0) (fun _ _ _ _ _ => True) (fun _ U o U' => ∃ v L, o = .returned v ∧ own_Q4 Z a1 rt sc ll h0 n0 v U'.heap L ∧ FrameEnd U o U' L ({ frames := 0, cells := 0, slots := 0, locals := 0 } : Room).cells ({ frames := 0, cells := 0, slots := 0, locals := 0 } : Room).slots) := by
  refine MetFree.of_bodySF (plainFor_of_name own_pn1) hisR ?_
  intro p e s m args below meth c s₁ Bd hml0 hP hK
  obtain ⟨rfl, hZ, hh⟩ := hP
  have hx := Bd.exec
  have hby := Bd.bytes
  have hml : c.maxLocals = 3 := hml0
  have hown : s.vm.findClass "com/example/slotwright/slotwright/core/NodeBounds" = some m.cls := findClass_of_methodNamed Bd.named
  have hnm := (name_of_methodNamed Bd.named Bd.method).1
  have X0 : Stand p l e ({ frames := 0, cells := 0, slots := 0, locals := 0 } : Room) s m #[(.ref a1), (.long rt)] below meth c s₁ [] 0 0 := Stand.of_body Bd
  have e0 : s₁.heap = h0 := by rw [← hh, Bd.state]; rfl
  have N0 := Fr.nil n0
  have K0 := Keep.refl h0 []
  have pre0 : ∀ t, Steps p.tables e below (s₁.setTop (mkF m 0 #[.val (.ref a1), .val (.long rt), .second] [])) t → Steps p.tables e below (s₁.setTop (entryFrame m #[(.ref a1), (.long rt)] 3)) t := fun t kt0 => castTop (own_ef4 m (a1) (rt)) kt0
  obtain ⟨T1, X1, e1, st1⟩ := getF X0 hx hZ hown (host := "") (Or.inl (hw _ (List.mem_of_getElem? (i := 19) rfl))) Via.refl e0 F_l (g := (mkF m 2 #[.val (.ref a1), .val (.long rt), .second] [(.ref a1), (.long rt)])) rfl rfl (hb hby own_d4_2)
  have pre2 : ∀ t, Steps p.tables e below (T1.setTop (mkF m 6 #[.val (.ref a1), .val (.long rt), .second] [(.int (lcmpW rt ll))])) t → Steps p.tables e below (s₁.setTop (entryFrame m #[(.ref a1), (.long rt)] 3)) t := by
    intro t kt
    refine pre0 t ?_
    show Steps p.tables e below (s₁.setTop (mkF m 0 #[.val (.ref a1), .val (.long rt), .second] [])) _
    refine XS.lloadN X0.here hx rfl (hb hby own_d4_0) rfl ?_
    show Steps p.tables e below (s₁.setTop (mkF m 1 #[.val (.ref a1), .val (.long rt), .second] [(.long rt)])) _
    refine XS.aloadN X0.here hx rfl (hb hby own_d4_1) rfl rfl ?_
    show Steps p.tables e below (s₁.setTop (mkF m 2 #[.val (.ref a1), .val (.long rt), .second] [(.ref a1), (.long rt)])) _
    refine st1 _ ?_
    show Steps p.tables e below (T1.setTop (mkF m 5 #[.val (.ref a1), .val (.long rt), .second] [(.long ll), (.long rt)])) _
    refine XS.lcmp X1.here hx rfl (hb hby own_d4_5) rfl ?_
    exact kt
  by_cases hc6 : ll < rt
  case pos =>
    obtain ⟨fs, hr, hrun, hended, hW, hsame⟩ := X1.leave (v := some (.long (0 : Int64))) (fun h => by rw [Bd.returns] at h; cases h) (BodyLoose.notSynchronized Bd)
    refine ⟨_, _, pre2 _ ?_, hrun, hended, _, _, rfl, ?_, ⟨_, rfl⟩, hW, hsame.mono (by decide) (by decide)⟩
    · skip
      show Steps p.tables e below (T1.setTop (mkF m 6 #[.val (.ref a1), .val (.long rt), .second] [(.int (lcmpW rt ll))])) _
      refine XS.ifNo X1.here hx rfl (hb hby own_d4_6) rfl ((if0 _ _).trans (tlt ((lw_gt rt ll).mpr hc6)).2.2.2) ?_
      show Steps p.tables e below (T1.setTop (mkF m 9 #[.val (.ref a1), .val (.long rt), .second] [])) _
      refine XS.lconst X1.here hx rfl (hb hby own_d4_9) ?_
      show Steps p.tables e below (T1.setTop (mkF m 10 #[.val (.ref a1), .val (.long rt), .second] [(.long (0 : Int64))])) _
      exact X1.lreturnOut hx Bd.returns (hb hby own_d4_10) hr
    · show own_Q4 Z a1 rt sc ll h0 n0 _ T1.heap _
      rw [e1]
      refine ⟨?_, N0, rfl⟩
      simp [own_st, hc6]
  case neg =>
    obtain ⟨T3, X3, e3, st3⟩ := getF X1 hx hZ hown (host := "") (Or.inl (hw _ (List.mem_of_getElem? (i := 17) rfl))) Via.refl e1 F_s (g := (mkF m 13 #[.val (.ref a1), .val (.long rt), .second] [(.ref a1), (.long rt)])) rfl rfl (hb hby own_d4_13)
    obtain ⟨T4, X4, e4, st4⟩ := getF X3 hx hZ hown (host := "") (Or.inl (hw _ (List.mem_of_getElem? (i := 17) rfl))) Via.refl e3 F_s (g := (mkF m 19 #[.val (.ref a1), .val (.long rt), .second] [(.ref a1), (.long rt), (.long (rt / sc))])) rfl rfl (hb hby own_d4_19)
    have pre5 : ∀ t, Steps p.tables e below (T4.setTop (mkF m 25 #[.val (.ref a1), .val (.long rt), .second] [(.int (lcmpW (rt % sc) (0 : Int64))), (.long (rt / sc))])) t → Steps p.tables e below (s₁.setTop (entryFrame m #[(.ref a1), (.long rt)] 3)) t := by
      intro t kt
      refine pre2 t ?_
      show Steps p.tables e below (T1.setTop (mkF m 6 #[.val (.ref a1), .val (.long rt), .second] [(.int (lcmpW rt ll))])) _
      refine XS.ifYes X1.here hx rfl (pc0 := 6) (pc' := 11) rfl (hb hby own_d4_6) rfl ((if0 _ _).trans (flt (fun q => hc6 ((lw_gt rt ll).mp q))).2.2.2) (by decide) (by decide) ?_
      show Steps p.tables e below (T1.setTop (mkF m 11 #[.val (.ref a1), .val (.long rt), .second] [])) _
      refine XS.lloadN X1.here hx rfl (hb hby own_d4_11) rfl ?_
      show Steps p.tables e below (T1.setTop (mkF m 12 #[.val (.ref a1), .val (.long rt), .second] [(.long rt)])) _
      refine XS.aloadN X1.here hx rfl (hb hby own_d4_12) rfl rfl ?_
      show Steps p.tables e below (T1.setTop (mkF m 13 #[.val (.ref a1), .val (.long rt), .second] [(.ref a1), (.long rt)])) _
      refine st3 _ ?_
      show Steps p.tables e below (T3.setTop (mkF m 16 #[.val (.ref a1), .val (.long rt), .second] [(.long sc), (.long rt)])) _
      refine XS.ldiv X3.here hx rfl (hb hby own_d4_16) rfl hsc ?_
      show Steps p.tables e below (T3.setTop (mkF m 17 #[.val (.ref a1), .val (.long rt), .second] [(.long (rt / sc))])) _
      refine XS.lloadN X3.here hx rfl (hb hby own_d4_17) rfl ?_
      show Steps p.tables e below (T3.setTop (mkF m 18 #[.val (.ref a1), .val (.long rt), .second] [(.long rt), (.long (rt / sc))])) _
      refine XS.aloadN X3.here hx rfl (hb hby own_d4_18) rfl rfl ?_
      show Steps p.tables e below (T3.setTop (mkF m 19 #[.val (.ref a1), .val (.long rt), .second] [(.ref a1), (.long rt), (.long (rt / sc))])) _
      refine st4 _ ?_
      show Steps p.tables e below (T4.setTop (mkF m 22 #[.val (.ref a1), .val (.long rt), .second] [(.long sc), (.long rt), (.long (rt / sc))])) _
      refine own_lremM X4 hx rfl (hb hby own_d4_22) rfl hsc ?_
      show Steps p.tables e below (T4.setTop (mkF m 23 #[.val (.ref a1), .val (.long rt), .second] [(.long (rt % sc)), (.long (rt / sc))])) _
      refine XS.lconst X4.here hx rfl (hb hby own_d4_23) ?_
      show Steps p.tables e below (T4.setTop (mkF m 24 #[.val (.ref a1), .val (.long rt), .second] [(.long (0 : Int64)), (.long (rt % sc)), (.long (rt / sc))])) _
      refine XS.lcmp X4.here hx rfl (hb hby own_d4_24) rfl ?_
      exact kt
    by_cases hc25 : (rt % sc) = (0 : Int64)
    case pos =>
      obtain ⟨fs, hr, hrun, hended, hW, hsame⟩ := X4.leave (v := some (.long ((rt / sc) + ((0 : Int32).toInt64)))) (fun h => by rw [Bd.returns] at h; cases h) (BodyLoose.notSynchronized Bd)
      refine ⟨_, _, pre5 _ ?_, hrun, hended, _, _, rfl, ?_, ⟨_, rfl⟩, hW, hsame.mono (by decide) (by decide)⟩
      · skip
        show Steps p.tables e below (T4.setTop (mkF m 25 #[.val (.ref a1), .val (.long rt), .second] [(.int (lcmpW (rt % sc) (0 : Int64))), (.long (rt / sc))])) _
        refine XS.ifNo X4.here hx rfl (hb hby own_d4_25) rfl ((if0 _ _).trans (teq ((lw_eq (rt % sc) (0 : Int64)).mpr hc25)).2) ?_
        show Steps p.tables e below (T4.setTop (mkF m 28 #[.val (.ref a1), .val (.long rt), .second] [(.long (rt / sc))])) _
        refine XS.iconst X4.here hx rfl (hb hby own_d4_28) ?_
        show Steps p.tables e below (T4.setTop (mkF m 29 #[.val (.ref a1), .val (.long rt), .second] [(.int (0 : Int32)), (.long (rt / sc))])) _
        refine XS.goto X4.here hx rfl (pc0 := 29) (pc' := 33) rfl (hb hby own_d4_29) (by decide) (by decide) ?_
        show Steps p.tables e below (T4.setTop (mkF m 33 #[.val (.ref a1), .val (.long rt), .second] [(.int (0 : Int32)), (.long (rt / sc))])) _
        refine XS.i2l X4.here hx rfl (hb hby own_d4_33) rfl ?_
        show Steps p.tables e below (T4.setTop (mkF m 34 #[.val (.ref a1), .val (.long rt), .second] [(.long ((0 : Int32).toInt64)), (.long (rt / sc))])) _
        refine XS.ladd X4.here hx rfl (hb hby own_d4_34) rfl ?_
        show Steps p.tables e below (T4.setTop (mkF m 35 #[.val (.ref a1), .val (.long rt), .second] [(.long ((rt / sc) + ((0 : Int32).toInt64)))])) _
        exact X4.lreturnOut hx Bd.returns (hb hby own_d4_35) hr
      · show own_Q4 Z a1 rt sc ll h0 n0 _ T4.heap _
        rw [e4]
        refine ⟨?_, N0, rfl⟩
        simp [own_st, hc6, hc25]
    case neg =>
      obtain ⟨fs, hr, hrun, hended, hW, hsame⟩ := X4.leave (v := some (.long ((rt / sc) + ((1 : Int32).toInt64)))) (fun h => by rw [Bd.returns] at h; cases h) (BodyLoose.notSynchronized Bd)
      refine ⟨_, _, pre5 _ ?_, hrun, hended, _, _, rfl, ?_, ⟨_, rfl⟩, hW, hsame.mono (by decide) (by decide)⟩
      · skip
        show Steps p.tables e below (T4.setTop (mkF m 25 #[.val (.ref a1), .val (.long rt), .second] [(.int (lcmpW (rt % sc) (0 : Int64))), (.long (rt / sc))])) _
        refine XS.ifYes X4.here hx rfl (pc0 := 25) (pc' := 32) rfl (hb hby own_d4_25) rfl ((if0 _ _).trans (feq (fun q => hc25 ((lw_eq (rt % sc) (0 : Int64)).mp q))).2) (by decide) (by decide) ?_
        show Steps p.tables e below (T4.setTop (mkF m 32 #[.val (.ref a1), .val (.long rt), .second] [(.long (rt / sc))])) _
        refine XS.iconst X4.here hx rfl (hb hby own_d4_32) ?_
        show Steps p.tables e below (T4.setTop (mkF m 33 #[.val (.ref a1), .val (.long rt), .second] [(.int (1 : Int32)), (.long (rt / sc))])) _
        refine XS.i2l X4.here hx rfl (hb hby own_d4_33) rfl ?_
        show Steps p.tables e below (T4.setTop (mkF m 34 #[.val (.ref a1), .val (.long rt), .second] [(.long ((1 : Int32).toInt64)), (.long (rt / sc))])) _
        refine XS.ladd X4.here hx rfl (hb hby own_d4_34) rfl ?_
        show Steps p.tables e below (T4.setTop (mkF m 35 #[.val (.ref a1), .val (.long rt), .second] [(.long ((rt / sc) + ((1 : Int32).toInt64)))])) _
        exact X4.lreturnOut hx Bd.returns (hb hby own_d4_35) hr
      · show own_Q4 Z a1 rt sc ll h0 n0 _ T4.heap _
        rw [e4]
        refine ⟨?_, N0, rfl⟩
        simp [own_st, hc6, hc25]
theorem own_pn2 : plainName "com/example/slotwright/slotwright/core/NodeBoundsShortestTaskPinLaw" = true := by first | (simp [plainName, overriddenIn]; done) | decide +kernel
theorem own_pd1 : parseMethodDescriptor "(IJJLcom/example/slotwright/slotwright/core/NodeClasses$OnFirstUse;)V" = some ⟨[.int, .long, .long, (.object "com/example/slotwright/slotwright/core/NodeClasses$OnFirstUse")], none⟩ := by decide +kernel
theorem own_pd2 : parseMethodDescriptor "(J)J" = some ⟨[.long], some .long⟩ := by decide +kernel
theorem own_ef0 (m : MethodId) (x0 : Int64) (x1 : Int64) (x2 : Int64) (x3 : Int32) : entryFrame m #[(.long x0), (.long x1), (.long x2), (.int x3)] maxLocals = mkF m 0 #[.val (.long x0), .second, .val (.long x1), .second, .val (.long x2), .second, .val (.int x3), .unset, .unset, .unset, .unset, .unset, .unset, .unset, .unset, .unset, .unset, .unset, .unset] [] := by first | (simp [entryFrame, mkF, argsToLocals, Value.category, maxLocals]; done) | rfl
def own_Q0 (Z : State) (a1 : Int64) (a2 : Int64) (a3 : Int64) (a4 : Int32) (h0 : Heap) (n0 : Nat) (v : Option Value) (h : Heap) (L : List Loc) : Prop := v = some (.int 1) ∧ Fr n0 L
set_option maxRecDepth 65536 in
set_option maxHeartbeats 40000000 in
theorem own_rm0 (l : Launch) (Z : State) (a0 : Array Value) (hw : ∀ d ∈ tables_1, d.before a0 Z = true) (ws : List Jvm.Cond) (a1 : Int64) (a2 : Int64) (a3 : Int64) (a4 : Int32) (h0 : Heap) (n0 : Nat) (Z0 : n0 ≤ h0.size) :
    MetFree l x (head1 (Jvm.Cond.code x code maxLocals ret :: ws) room_1) (fun a U => a = #[(.long a1), (.long a2), (.long a3), (.int a4)] ∧ Z.Warmed39 U.vm ∧ U.heap = h0) (fun _ _ _ _ _ => True) (fun _ U o U' => ∃ v L, o = .returned v ∧ own_Q0 Z a1 a2 a3 a4 h0 n0 v U'.heap L ∧ FrameEnd U o U' L room_1.cells room_1.slots) := by
  refine MetFree.of_bodySF (plainFor_of_name own_pn2) hisR ?_
  intro p e s m args below meth c s₁ Bd hml0 hP hK
  obtain ⟨rfl, hZ, hh⟩ := hP
  have hx := Bd.exec
  have hby := Bd.bytes
  have hml : c.maxLocals = 19 := hml0
  have hown : s.vm.findClass "com/example/slotwright/slotwright/core/NodeBoundsShortestTaskPinLaw" = some m.cls := findClass_of_methodNamed Bd.named
  have hnm := (name_of_methodNamed Bd.named Bd.method).1
  have X0 : Stand p l e room_1 s m #[(.long a1), (.long a2), (.long a3), (.int a4)] below meth c s₁ [] 0 0 := Stand.of_body Bd
  have e0 : s₁.heap = h0 := by rw [← hh, Bd.state]; rfl
  have N0 := Fr.nil n0
  have K0 := Keep.refl h0 []
  have pre0 : ∀ t, Steps p.tables e below (s₁.setTop (mkF m 0 #[.val (.long a1), .second, .val (.long a2), .second, .val (.long a3), .second, .val (.int a4), .unset, .unset, .unset, .unset, .unset, .unset, .unset, .unset, .unset, .unset, .unset, .unset] [])) t → Steps p.tables e below (s₁.setTop (entryFrame m #[(.long a1), (.long a2), (.long a3), (.int a4)] maxLocals)) t := fun t kt0 => castTop (own_ef0 m (a1) (a2) (a3) (a4)) kt0
  have pre1 : ∀ t, Steps p.tables e below (s₁.setTop (mkF m 7 #[.val (.long a1), .second, .val (.long a2), .second, .val (.long a3), .second, .val (.int a4), .val (.long (a1 &&& (9223372036854775807 : Int64))), .second, .unset, .unset, .unset, .unset, .unset, .unset, .unset, .unset, .unset, .unset] [])) t → Steps p.tables e below (s₁.setTop (entryFrame m #[(.long a1), (.long a2), (.long a3), (.int a4)] maxLocals)) t := by
    intro t kt
    refine pre0 t ?_
    show Steps p.tables e below (s₁.setTop (mkF m 0 #[.val (.long a1), .second, .val (.long a2), .second, .val (.long a3), .second, .val (.int a4), .unset, .unset, .unset, .unset, .unset, .unset, .unset, .unset, .unset, .unset, .unset, .unset] [])) _
    refine XS.lloadN X0.here hx rfl (hb hby at_0) rfl ?_
    show Steps p.tables e below (s₁.setTop (mkF m 1 #[.val (.long a1), .second, .val (.long a2), .second, .val (.long a3), .second, .val (.int a4), .unset, .unset, .unset, .unset, .unset, .unset, .unset, .unset, .unset, .unset, .unset, .unset] [(.long a1)])) _
    refine X0.ldc2Long hx hown (mvT hZ (hw _ (List.mem_of_getElem? (i := 0) rfl))) (g := (mkF m 1 #[.val (.long a1), .second, .val (.long a2), .second, .val (.long a3), .second, .val (.int a4), .unset, .unset, .unset, .unset, .unset, .unset, .unset, .unset, .unset, .unset, .unset, .unset] [(.long a1)])) rfl (hb hby at_1) _ ?_
    show Steps p.tables e below (s₁.setTop (mkF m 4 #[.val (.long a1), .second, .val (.long a2), .second, .val (.long a3), .second, .val (.int a4), .unset, .unset, .unset, .unset, .unset, .unset, .unset, .unset, .unset, .unset, .unset, .unset] [(.long (9223372036854775807 : Int64)), (.long a1)])) _
    refine XS.land X0.here hx rfl (hb hby at_4) rfl ?_
    show Steps p.tables e below (s₁.setTop (mkF m 5 #[.val (.long a1), .second, .val (.long a2), .second, .val (.long a3), .second, .val (.int a4), .unset, .unset, .unset, .unset, .unset, .unset, .unset, .unset, .unset, .unset, .unset, .unset] [(.long (a1 &&& (9223372036854775807 : Int64)))])) _
    refine XS.lstore X0.here hx rfl (hb hby at_5) rfl (l' := #[.val (.long a1), .second, .val (.long a2), .second, .val (.long a3), .second, .val (.int a4), .val (.long (a1 &&& (9223372036854775807 : Int64))), .second, .unset, .unset, .unset, .unset, .unset, .unset, .unset, .unset, .unset, .unset]) rfl ?_
    exact kt
  obtain ⟨r0, hd_r0⟩ : ∃ z : Int64, z = (a1 &&& (9223372036854775807 : Int64)) := ⟨_, rfl⟩
  have pre2 : ∀ t, Steps p.tables e below (s₁.setTop (mkF m 7 #[.val (.long a1), .second, .val (.long a2), .second, .val (.long a3), .second, .val (.int a4), .val (.long r0), .second, .unset, .unset, .unset, .unset, .unset, .unset, .unset, .unset, .unset, .unset] [])) t → Steps p.tables e below (s₁.setTop (entryFrame m #[(.long a1), (.long a2), (.long a3), (.int a4)] maxLocals)) t := by rw [hd_r0]; exact pre1
  have pre3 : ∀ t, Steps p.tables e below (s₁.setTop (mkF m 11 #[.val (.long a1), .second, .val (.long a2), .second, .val (.long a3), .second, .val (.int a4), .val (.long r0), .second, .unset, .unset, .unset, .unset, .unset, .unset, .unset, .unset, .unset, .unset] [(.int (lcmpW r0 (0 : Int64)))])) t → Steps p.tables e below (s₁.setTop (entryFrame m #[(.long a1), (.long a2), (.long a3), (.int a4)] maxLocals)) t := by
    intro t kt
    refine pre2 t ?_
    show Steps p.tables e below (s₁.setTop (mkF m 7 #[.val (.long a1), .second, .val (.long a2), .second, .val (.long a3), .second, .val (.int a4), .val (.long r0), .second, .unset, .unset, .unset, .unset, .unset, .unset, .unset, .unset, .unset, .unset] [])) _
    refine XS.lload X0.here hx rfl (hb hby at_7) rfl ?_
    show Steps p.tables e below (s₁.setTop (mkF m 9 #[.val (.long a1), .second, .val (.long a2), .second, .val (.long a3), .second, .val (.int a4), .val (.long r0), .second, .unset, .unset, .unset, .unset, .unset, .unset, .unset, .unset, .unset, .unset] [(.long r0)])) _
    refine XS.lconst X0.here hx rfl (hb hby at_9) ?_
    show Steps p.tables e below (s₁.setTop (mkF m 10 #[.val (.long a1), .second, .val (.long a2), .second, .val (.long a3), .second, .val (.int a4), .val (.long r0), .second, .unset, .unset, .unset, .unset, .unset, .unset, .unset, .unset, .unset, .unset] [(.long (0 : Int64)), (.long r0)])) _
    refine XS.lcmp X0.here hx rfl (hb hby at_10) rfl ?_
    exact kt
  obtain ⟨T4, Lc4, rt, X4, e4, N4, hp4, pre4⟩ : ∃ (T4 : State) (Lc4 : List Loc) (rt : Int64), Stand p l e room_1 s m #[(.long a1), (.long a2), (.long a3), (.int a4)] below meth c T4 Lc4 0 0 ∧ T4.heap = h0 ∧ Fr n0 Lc4 ∧ (1 ≤ rt.toInt) ∧ ∀ t, Steps p.tables e below (T4.setTop (mkF m 17 #[.val (.long a1), .second, .val (.long a2), .second, .val (.long a3), .second, .val (.int a4), .val (.long rt), .second, .unset, .unset, .unset, .unset, .unset, .unset, .unset, .unset, .unset, .unset] [])) t → Steps p.tables e below (s₁.setTop (entryFrame m #[(.long a1), (.long a2), (.long a3), (.int a4)] maxLocals)) t := by
    by_cases hc11 : r0 = (0 : Int64)
    case pos =>
      have pre5 : ∀ t, Steps p.tables e below (s₁.setTop (mkF m 17 #[.val (.long a1), .second, .val (.long a2), .second, .val (.long a3), .second, .val (.int a4), .val (.long (1 : Int64)), .second, .unset, .unset, .unset, .unset, .unset, .unset, .unset, .unset, .unset, .unset] [])) t → Steps p.tables e below (s₁.setTop (entryFrame m #[(.long a1), (.long a2), (.long a3), (.int a4)] maxLocals)) t := by
        intro t kt
        refine pre3 t ?_
        show Steps p.tables e below (s₁.setTop (mkF m 11 #[.val (.long a1), .second, .val (.long a2), .second, .val (.long a3), .second, .val (.int a4), .val (.long r0), .second, .unset, .unset, .unset, .unset, .unset, .unset, .unset, .unset, .unset, .unset] [(.int (lcmpW r0 (0 : Int64)))])) _
        refine XS.ifNo X0.here hx rfl (hb hby at_11) rfl ((if0 _ _).trans (teq ((lw_eq r0 (0 : Int64)).mpr hc11)).2) ?_
        show Steps p.tables e below (s₁.setTop (mkF m 14 #[.val (.long a1), .second, .val (.long a2), .second, .val (.long a3), .second, .val (.int a4), .val (.long r0), .second, .unset, .unset, .unset, .unset, .unset, .unset, .unset, .unset, .unset, .unset] [])) _
        refine XS.lconst X0.here hx rfl (hb hby at_14) ?_
        show Steps p.tables e below (s₁.setTop (mkF m 15 #[.val (.long a1), .second, .val (.long a2), .second, .val (.long a3), .second, .val (.int a4), .val (.long r0), .second, .unset, .unset, .unset, .unset, .unset, .unset, .unset, .unset, .unset, .unset] [(.long (1 : Int64))])) _
        refine XS.lstore X0.here hx rfl (hb hby at_15) rfl (l' := #[.val (.long a1), .second, .val (.long a2), .second, .val (.long a3), .second, .val (.int a4), .val (.long (1 : Int64)), .second, .unset, .unset, .unset, .unset, .unset, .unset, .unset, .unset, .unset, .unset]) rfl ?_
        exact kt
      exact ⟨s₁, _, (1 : Int64), X0, e0, N0, (by decide), pre5⟩
    case neg =>
      have pre6 : ∀ t, Steps p.tables e below (s₁.setTop (mkF m 17 #[.val (.long a1), .second, .val (.long a2), .second, .val (.long a3), .second, .val (.int a4), .val (.long r0), .second, .unset, .unset, .unset, .unset, .unset, .unset, .unset, .unset, .unset, .unset] [])) t → Steps p.tables e below (s₁.setTop (entryFrame m #[(.long a1), (.long a2), (.long a3), (.int a4)] maxLocals)) t := by
        intro t kt
        refine pre3 t ?_
        show Steps p.tables e below (s₁.setTop (mkF m 11 #[.val (.long a1), .second, .val (.long a2), .second, .val (.long a3), .second, .val (.int a4), .val (.long r0), .second, .unset, .unset, .unset, .unset, .unset, .unset, .unset, .unset, .unset, .unset] [(.int (lcmpW r0 (0 : Int64)))])) _
        refine XS.ifYes X0.here hx rfl (pc0 := 11) (pc' := 17) rfl (hb hby at_11) rfl ((if0 _ _).trans (feq (fun q => hc11 ((lw_eq r0 (0 : Int64)).mp q))).2) (by decide) (by decide) ?_
        exact kt
      exact ⟨s₁, _, r0, X0, e0, N0, (by have := own_mask a1; rw [hd_r0]; rw [hd_r0] at hc11; have q : ¬ ((a1 &&& (9223372036854775807 : Int64))).toInt = 0 := fun q => hc11 (Int64.toInt_inj.mp q); omega), pre6⟩
  have hrt := hp4
  have pre7 : ∀ t, Steps p.tables e below (T4.setTop (mkF m 24 #[.val (.long a1), .second, .val (.long a2), .second, .val (.long a3), .second, .val (.int a4), .val (.long rt), .second, .val (.long (a2 &&& (9223372036854775807 : Int64))), .second, .unset, .unset, .unset, .unset, .unset, .unset, .unset, .unset] [])) t → Steps p.tables e below (s₁.setTop (entryFrame m #[(.long a1), (.long a2), (.long a3), (.int a4)] maxLocals)) t := by
    intro t kt
    refine pre4 t ?_
    show Steps p.tables e below (T4.setTop (mkF m 17 #[.val (.long a1), .second, .val (.long a2), .second, .val (.long a3), .second, .val (.int a4), .val (.long rt), .second, .unset, .unset, .unset, .unset, .unset, .unset, .unset, .unset, .unset, .unset] [])) _
    refine XS.lloadN X4.here hx rfl (hb hby at_17) rfl ?_
    show Steps p.tables e below (T4.setTop (mkF m 18 #[.val (.long a1), .second, .val (.long a2), .second, .val (.long a3), .second, .val (.int a4), .val (.long rt), .second, .unset, .unset, .unset, .unset, .unset, .unset, .unset, .unset, .unset, .unset] [(.long a2)])) _
    refine X4.ldc2Long hx hown (mvT hZ (hw _ (List.mem_of_getElem? (i := 0) rfl))) (g := (mkF m 18 #[.val (.long a1), .second, .val (.long a2), .second, .val (.long a3), .second, .val (.int a4), .val (.long rt), .second, .unset, .unset, .unset, .unset, .unset, .unset, .unset, .unset, .unset, .unset] [(.long a2)])) rfl (hb hby at_18) _ ?_
    show Steps p.tables e below (T4.setTop (mkF m 21 #[.val (.long a1), .second, .val (.long a2), .second, .val (.long a3), .second, .val (.int a4), .val (.long rt), .second, .unset, .unset, .unset, .unset, .unset, .unset, .unset, .unset, .unset, .unset] [(.long (9223372036854775807 : Int64)), (.long a2)])) _
    refine XS.land X4.here hx rfl (hb hby at_21) rfl ?_
    show Steps p.tables e below (T4.setTop (mkF m 22 #[.val (.long a1), .second, .val (.long a2), .second, .val (.long a3), .second, .val (.int a4), .val (.long rt), .second, .unset, .unset, .unset, .unset, .unset, .unset, .unset, .unset, .unset, .unset] [(.long (a2 &&& (9223372036854775807 : Int64)))])) _
    refine XS.lstore X4.here hx rfl (hb hby at_22) rfl (l' := #[.val (.long a1), .second, .val (.long a2), .second, .val (.long a3), .second, .val (.int a4), .val (.long rt), .second, .val (.long (a2 &&& (9223372036854775807 : Int64))), .second, .unset, .unset, .unset, .unset, .unset, .unset, .unset, .unset]) rfl ?_
    exact kt
  obtain ⟨c0, hd_c0⟩ : ∃ z : Int64, z = (a2 &&& (9223372036854775807 : Int64)) := ⟨_, rfl⟩
  have pre8 : ∀ t, Steps p.tables e below (T4.setTop (mkF m 24 #[.val (.long a1), .second, .val (.long a2), .second, .val (.long a3), .second, .val (.int a4), .val (.long rt), .second, .val (.long c0), .second, .unset, .unset, .unset, .unset, .unset, .unset, .unset, .unset] [])) t → Steps p.tables e below (s₁.setTop (entryFrame m #[(.long a1), (.long a2), (.long a3), (.int a4)] maxLocals)) t := by rw [hd_c0]; exact pre7
  have pre9 : ∀ t, Steps p.tables e below (T4.setTop (mkF m 28 #[.val (.long a1), .second, .val (.long a2), .second, .val (.long a3), .second, .val (.int a4), .val (.long rt), .second, .val (.long c0), .second, .unset, .unset, .unset, .unset, .unset, .unset, .unset, .unset] [(.int (lcmpW c0 (0 : Int64)))])) t → Steps p.tables e below (s₁.setTop (entryFrame m #[(.long a1), (.long a2), (.long a3), (.int a4)] maxLocals)) t := by
    intro t kt
    refine pre8 t ?_
    show Steps p.tables e below (T4.setTop (mkF m 24 #[.val (.long a1), .second, .val (.long a2), .second, .val (.long a3), .second, .val (.int a4), .val (.long rt), .second, .val (.long c0), .second, .unset, .unset, .unset, .unset, .unset, .unset, .unset, .unset] [])) _
    refine XS.lload X4.here hx rfl (hb hby at_24) rfl ?_
    show Steps p.tables e below (T4.setTop (mkF m 26 #[.val (.long a1), .second, .val (.long a2), .second, .val (.long a3), .second, .val (.int a4), .val (.long rt), .second, .val (.long c0), .second, .unset, .unset, .unset, .unset, .unset, .unset, .unset, .unset] [(.long c0)])) _
    refine XS.lconst X4.here hx rfl (hb hby at_26) ?_
    show Steps p.tables e below (T4.setTop (mkF m 27 #[.val (.long a1), .second, .val (.long a2), .second, .val (.long a3), .second, .val (.int a4), .val (.long rt), .second, .val (.long c0), .second, .unset, .unset, .unset, .unset, .unset, .unset, .unset, .unset] [(.long (0 : Int64)), (.long c0)])) _
    refine XS.lcmp X4.here hx rfl (hb hby at_27) rfl ?_
    exact kt
  obtain ⟨T10, Lc10, ce, X10, e10, N10, hp10, pre10⟩ : ∃ (T10 : State) (Lc10 : List Loc) (ce : Int64), Stand p l e room_1 s m #[(.long a1), (.long a2), (.long a3), (.int a4)] below meth c T10 Lc10 0 0 ∧ T10.heap = h0 ∧ Fr n0 Lc10 ∧ (1 ≤ ce.toInt) ∧ ∀ t, Steps p.tables e below (T10.setTop (mkF m 34 #[.val (.long a1), .second, .val (.long a2), .second, .val (.long a3), .second, .val (.int a4), .val (.long rt), .second, .val (.long ce), .second, .unset, .unset, .unset, .unset, .unset, .unset, .unset, .unset] [])) t → Steps p.tables e below (s₁.setTop (entryFrame m #[(.long a1), (.long a2), (.long a3), (.int a4)] maxLocals)) t := by
    by_cases hc28 : c0 = (0 : Int64)
    case pos =>
      have pre11 : ∀ t, Steps p.tables e below (T4.setTop (mkF m 34 #[.val (.long a1), .second, .val (.long a2), .second, .val (.long a3), .second, .val (.int a4), .val (.long rt), .second, .val (.long (1 : Int64)), .second, .unset, .unset, .unset, .unset, .unset, .unset, .unset, .unset] [])) t → Steps p.tables e below (s₁.setTop (entryFrame m #[(.long a1), (.long a2), (.long a3), (.int a4)] maxLocals)) t := by
        intro t kt
        refine pre9 t ?_
        show Steps p.tables e below (T4.setTop (mkF m 28 #[.val (.long a1), .second, .val (.long a2), .second, .val (.long a3), .second, .val (.int a4), .val (.long rt), .second, .val (.long c0), .second, .unset, .unset, .unset, .unset, .unset, .unset, .unset, .unset] [(.int (lcmpW c0 (0 : Int64)))])) _
        refine XS.ifNo X4.here hx rfl (hb hby at_28) rfl ((if0 _ _).trans (teq ((lw_eq c0 (0 : Int64)).mpr hc28)).2) ?_
        show Steps p.tables e below (T4.setTop (mkF m 31 #[.val (.long a1), .second, .val (.long a2), .second, .val (.long a3), .second, .val (.int a4), .val (.long rt), .second, .val (.long c0), .second, .unset, .unset, .unset, .unset, .unset, .unset, .unset, .unset] [])) _
        refine XS.lconst X4.here hx rfl (hb hby at_31) ?_
        show Steps p.tables e below (T4.setTop (mkF m 32 #[.val (.long a1), .second, .val (.long a2), .second, .val (.long a3), .second, .val (.int a4), .val (.long rt), .second, .val (.long c0), .second, .unset, .unset, .unset, .unset, .unset, .unset, .unset, .unset] [(.long (1 : Int64))])) _
        refine XS.lstore X4.here hx rfl (hb hby at_32) rfl (l' := #[.val (.long a1), .second, .val (.long a2), .second, .val (.long a3), .second, .val (.int a4), .val (.long rt), .second, .val (.long (1 : Int64)), .second, .unset, .unset, .unset, .unset, .unset, .unset, .unset, .unset]) rfl ?_
        exact kt
      exact ⟨T4, _, (1 : Int64), X4, e4, N4, (by decide), pre11⟩
    case neg =>
      have pre12 : ∀ t, Steps p.tables e below (T4.setTop (mkF m 34 #[.val (.long a1), .second, .val (.long a2), .second, .val (.long a3), .second, .val (.int a4), .val (.long rt), .second, .val (.long c0), .second, .unset, .unset, .unset, .unset, .unset, .unset, .unset, .unset] [])) t → Steps p.tables e below (s₁.setTop (entryFrame m #[(.long a1), (.long a2), (.long a3), (.int a4)] maxLocals)) t := by
        intro t kt
        refine pre9 t ?_
        show Steps p.tables e below (T4.setTop (mkF m 28 #[.val (.long a1), .second, .val (.long a2), .second, .val (.long a3), .second, .val (.int a4), .val (.long rt), .second, .val (.long c0), .second, .unset, .unset, .unset, .unset, .unset, .unset, .unset, .unset] [(.int (lcmpW c0 (0 : Int64)))])) _
        refine XS.ifYes X4.here hx rfl (pc0 := 28) (pc' := 34) rfl (hb hby at_28) rfl ((if0 _ _).trans (feq (fun q => hc28 ((lw_eq c0 (0 : Int64)).mp q))).2) (by decide) (by decide) ?_
        exact kt
      exact ⟨T4, _, c0, X4, e4, N4, (by have := own_mask a2; rw [hd_c0]; rw [hd_c0] at hc28; have q : ¬ ((a2 &&& (9223372036854775807 : Int64))).toInt = 0 := fun q => hc28 (Int64.toInt_inj.mp q); omega), pre12⟩
  have hce := hp10
  have hce0 : ce ≠ 0 := fun q => by rw [q] at hce; exact absurd hce (by decide)
  have pre13 : ∀ t, Steps p.tables e below (T10.setTop (mkF m 40 #[.val (.long a1), .second, .val (.long a2), .second, .val (.long a3), .second, .val (.int a4), .val (.long rt), .second, .val (.long ce), .second, .val (.int (a4 &&& (3 : Int32))), .unset, .unset, .unset, .unset, .unset, .unset, .unset] [])) t → Steps p.tables e below (s₁.setTop (entryFrame m #[(.long a1), (.long a2), (.long a3), (.int a4)] maxLocals)) t := by
    intro t kt
    refine pre10 t ?_
    show Steps p.tables e below (T10.setTop (mkF m 34 #[.val (.long a1), .second, .val (.long a2), .second, .val (.long a3), .second, .val (.int a4), .val (.long rt), .second, .val (.long ce), .second, .unset, .unset, .unset, .unset, .unset, .unset, .unset, .unset] [])) _
    refine XS.iload X10.here hx rfl (hb hby at_34) rfl ?_
    show Steps p.tables e below (T10.setTop (mkF m 36 #[.val (.long a1), .second, .val (.long a2), .second, .val (.long a3), .second, .val (.int a4), .val (.long rt), .second, .val (.long ce), .second, .unset, .unset, .unset, .unset, .unset, .unset, .unset, .unset] [(.int a4)])) _
    refine XS.iconst X10.here hx rfl (hb hby at_36) ?_
    show Steps p.tables e below (T10.setTop (mkF m 37 #[.val (.long a1), .second, .val (.long a2), .second, .val (.long a3), .second, .val (.int a4), .val (.long rt), .second, .val (.long ce), .second, .unset, .unset, .unset, .unset, .unset, .unset, .unset, .unset] [(.int (3 : Int32)), (.int a4)])) _
    refine XS.iand X10.here hx rfl (hb hby at_37) rfl ?_
    show Steps p.tables e below (T10.setTop (mkF m 38 #[.val (.long a1), .second, .val (.long a2), .second, .val (.long a3), .second, .val (.int a4), .val (.long rt), .second, .val (.long ce), .second, .unset, .unset, .unset, .unset, .unset, .unset, .unset, .unset] [(.int (a4 &&& (3 : Int32)))])) _
    refine XS.istore X10.here hx rfl (hb hby at_38) rfl (l' := #[.val (.long a1), .second, .val (.long a2), .second, .val (.long a3), .second, .val (.int a4), .val (.long rt), .second, .val (.long ce), .second, .val (.int (a4 &&& (3 : Int32))), .unset, .unset, .unset, .unset, .unset, .unset, .unset]) rfl ?_
    exact kt
  obtain ⟨md, hd_md⟩ : ∃ z : Int32, z = (a4 &&& (3 : Int32)) := ⟨_, rfl⟩
  have pre14 : ∀ t, Steps p.tables e below (T10.setTop (mkF m 40 #[.val (.long a1), .second, .val (.long a2), .second, .val (.long a3), .second, .val (.int a4), .val (.long rt), .second, .val (.long ce), .second, .val (.int md), .unset, .unset, .unset, .unset, .unset, .unset, .unset] [])) t → Steps p.tables e below (s₁.setTop (entryFrame m #[(.long a1), (.long a2), (.long a3), (.int a4)] maxLocals)) t := by rw [hd_md]; exact pre13
  have pre15 : ∀ t, Steps p.tables e below (T10.setTop (mkF m 42 #[.val (.long a1), .second, .val (.long a2), .second, .val (.long a3), .second, .val (.int a4), .val (.long rt), .second, .val (.long ce), .second, .val (.int md), .unset, .unset, .unset, .unset, .unset, .unset, .unset] [(.int md)])) t → Steps p.tables e below (s₁.setTop (entryFrame m #[(.long a1), (.long a2), (.long a3), (.int a4)] maxLocals)) t := by
    intro t kt
    refine pre14 t ?_
    show Steps p.tables e below (T10.setTop (mkF m 40 #[.val (.long a1), .second, .val (.long a2), .second, .val (.long a3), .second, .val (.int a4), .val (.long rt), .second, .val (.long ce), .second, .val (.int md), .unset, .unset, .unset, .unset, .unset, .unset, .unset] [])) _
    refine XS.iload X10.here hx rfl (hb hby at_40) rfl ?_
    exact kt
  obtain ⟨T16, Lc16, sf, X16, e16, N16, hp16, pre16⟩ : ∃ (T16 : State) (Lc16 : List Loc) (sf : Int64), Stand p l e room_1 s m #[(.long a1), (.long a2), (.long a3), (.int a4)] below meth c T16 Lc16 0 0 ∧ T16.heap = h0 ∧ Fr n0 Lc16 ∧ (True) ∧ ∀ t, Steps p.tables e below (T16.setTop (mkF m 85 #[.val (.long a1), .second, .val (.long a2), .second, .val (.long a3), .second, .val (.int a4), .val (.long rt), .second, .val (.long ce), .second, .val (.int md), .val (.long sf), .second, .unset, .unset, .unset, .unset, .unset] [])) t → Steps p.tables e below (s₁.setTop (entryFrame m #[(.long a1), (.long a2), (.long a3), (.int a4)] maxLocals)) t := by
    by_cases hc42 : md = (0 : Int32)
    case pos =>
      have pre17 : ∀ t, Steps p.tables e below (T10.setTop (mkF m 85 #[.val (.long a1), .second, .val (.long a2), .second, .val (.long a3), .second, .val (.int a4), .val (.long rt), .second, .val (.long ce), .second, .val (.int md), .val (.long a3), .second, .unset, .unset, .unset, .unset, .unset] [])) t → Steps p.tables e below (s₁.setTop (entryFrame m #[(.long a1), (.long a2), (.long a3), (.int a4)] maxLocals)) t := by
        intro t kt
        refine pre15 t ?_
        show Steps p.tables e below (T10.setTop (mkF m 42 #[.val (.long a1), .second, .val (.long a2), .second, .val (.long a3), .second, .val (.int a4), .val (.long rt), .second, .val (.long ce), .second, .val (.int md), .unset, .unset, .unset, .unset, .unset, .unset, .unset] [(.int md)])) _
        refine XS.ifNo X10.here hx rfl (hb hby at_42) rfl ((if0 _ _).trans (teq hc42).2) ?_
        show Steps p.tables e below (T10.setTop (mkF m 45 #[.val (.long a1), .second, .val (.long a2), .second, .val (.long a3), .second, .val (.int a4), .val (.long rt), .second, .val (.long ce), .second, .val (.int md), .unset, .unset, .unset, .unset, .unset, .unset, .unset] [])) _
        refine XS.lload X10.here hx rfl (hb hby at_45) rfl ?_
        show Steps p.tables e below (T10.setTop (mkF m 47 #[.val (.long a1), .second, .val (.long a2), .second, .val (.long a3), .second, .val (.int a4), .val (.long rt), .second, .val (.long ce), .second, .val (.int md), .unset, .unset, .unset, .unset, .unset, .unset, .unset] [(.long a3)])) _
        refine XS.lstore X10.here hx rfl (hb hby at_47) rfl (l' := #[.val (.long a1), .second, .val (.long a2), .second, .val (.long a3), .second, .val (.int a4), .val (.long rt), .second, .val (.long ce), .second, .val (.int md), .val (.long a3), .second, .unset, .unset, .unset, .unset, .unset]) rfl ?_
        show Steps p.tables e below (T10.setTop (mkF m 49 #[.val (.long a1), .second, .val (.long a2), .second, .val (.long a3), .second, .val (.int a4), .val (.long rt), .second, .val (.long ce), .second, .val (.int md), .val (.long a3), .second, .unset, .unset, .unset, .unset, .unset] [])) _
        refine XS.goto X10.here hx rfl (pc0 := 49) (pc' := 85) rfl (hb hby at_49) (by decide) (by decide) ?_
        exact kt
      exact ⟨T10, _, a3, X10, e10, N10, trivial, pre17⟩
    case neg =>
      have pre18 : ∀ t, Steps p.tables e below (T10.setTop (mkF m 55 #[.val (.long a1), .second, .val (.long a2), .second, .val (.long a3), .second, .val (.int a4), .val (.long rt), .second, .val (.long ce), .second, .val (.int md), .unset, .unset, .unset, .unset, .unset, .unset, .unset] [(.int (1 : Int32)), (.int md)])) t → Steps p.tables e below (s₁.setTop (entryFrame m #[(.long a1), (.long a2), (.long a3), (.int a4)] maxLocals)) t := by
        intro t kt
        refine pre15 t ?_
        show Steps p.tables e below (T10.setTop (mkF m 42 #[.val (.long a1), .second, .val (.long a2), .second, .val (.long a3), .second, .val (.int a4), .val (.long rt), .second, .val (.long ce), .second, .val (.int md), .unset, .unset, .unset, .unset, .unset, .unset, .unset] [(.int md)])) _
        refine XS.ifYes X10.here hx rfl (pc0 := 42) (pc' := 52) rfl (hb hby at_42) rfl ((if0 _ _).trans (feq hc42).2) (by decide) (by decide) ?_
        show Steps p.tables e below (T10.setTop (mkF m 52 #[.val (.long a1), .second, .val (.long a2), .second, .val (.long a3), .second, .val (.int a4), .val (.long rt), .second, .val (.long ce), .second, .val (.int md), .unset, .unset, .unset, .unset, .unset, .unset, .unset] [])) _
        refine XS.iload X10.here hx rfl (hb hby at_52) rfl ?_
        show Steps p.tables e below (T10.setTop (mkF m 54 #[.val (.long a1), .second, .val (.long a2), .second, .val (.long a3), .second, .val (.int a4), .val (.long rt), .second, .val (.long ce), .second, .val (.int md), .unset, .unset, .unset, .unset, .unset, .unset, .unset] [(.int md)])) _
        refine XS.iconst X10.here hx rfl (hb hby at_54) ?_
        exact kt
      by_cases hc55 : md = (1 : Int32)
      case pos =>
        have pre19 : ∀ t, Steps p.tables e below (T10.setTop (mkF m 85 #[.val (.long a1), .second, .val (.long a2), .second, .val (.long a3), .second, .val (.int a4), .val (.long rt), .second, .val (.long ce), .second, .val (.int md), .val (.long rt), .second, .unset, .unset, .unset, .unset, .unset] [])) t → Steps p.tables e below (s₁.setTop (entryFrame m #[(.long a1), (.long a2), (.long a3), (.int a4)] maxLocals)) t := by
          intro t kt
          refine pre18 t ?_
          show Steps p.tables e below (T10.setTop (mkF m 55 #[.val (.long a1), .second, .val (.long a2), .second, .val (.long a3), .second, .val (.int a4), .val (.long rt), .second, .val (.long ce), .second, .val (.int md), .unset, .unset, .unset, .unset, .unset, .unset, .unset] [(.int (1 : Int32)), (.int md)])) _
          refine XS.icmpNo X10.here hx rfl (hb hby at_55) rfl (teq hc55).2 ?_
          show Steps p.tables e below (T10.setTop (mkF m 58 #[.val (.long a1), .second, .val (.long a2), .second, .val (.long a3), .second, .val (.int a4), .val (.long rt), .second, .val (.long ce), .second, .val (.int md), .unset, .unset, .unset, .unset, .unset, .unset, .unset] [])) _
          refine XS.lload X10.here hx rfl (hb hby at_58) rfl ?_
          show Steps p.tables e below (T10.setTop (mkF m 60 #[.val (.long a1), .second, .val (.long a2), .second, .val (.long a3), .second, .val (.int a4), .val (.long rt), .second, .val (.long ce), .second, .val (.int md), .unset, .unset, .unset, .unset, .unset, .unset, .unset] [(.long rt)])) _
          refine XS.lstore X10.here hx rfl (hb hby at_60) rfl (l' := #[.val (.long a1), .second, .val (.long a2), .second, .val (.long a3), .second, .val (.int a4), .val (.long rt), .second, .val (.long ce), .second, .val (.int md), .val (.long rt), .second, .unset, .unset, .unset, .unset, .unset]) rfl ?_
          show Steps p.tables e below (T10.setTop (mkF m 62 #[.val (.long a1), .second, .val (.long a2), .second, .val (.long a3), .second, .val (.int a4), .val (.long rt), .second, .val (.long ce), .second, .val (.int md), .val (.long rt), .second, .unset, .unset, .unset, .unset, .unset] [])) _
          refine XS.goto X10.here hx rfl (pc0 := 62) (pc' := 85) rfl (hb hby at_62) (by decide) (by decide) ?_
          exact kt
        exact ⟨T10, _, rt, X10, e10, N10, trivial, pre19⟩
      case neg =>
        have pre20 : ∀ t, Steps p.tables e below (T10.setTop (mkF m 68 #[.val (.long a1), .second, .val (.long a2), .second, .val (.long a3), .second, .val (.int a4), .val (.long rt), .second, .val (.long ce), .second, .val (.int md), .unset, .unset, .unset, .unset, .unset, .unset, .unset] [(.int (2 : Int32)), (.int md)])) t → Steps p.tables e below (s₁.setTop (entryFrame m #[(.long a1), (.long a2), (.long a3), (.int a4)] maxLocals)) t := by
          intro t kt
          refine pre18 t ?_
          show Steps p.tables e below (T10.setTop (mkF m 55 #[.val (.long a1), .second, .val (.long a2), .second, .val (.long a3), .second, .val (.int a4), .val (.long rt), .second, .val (.long ce), .second, .val (.int md), .unset, .unset, .unset, .unset, .unset, .unset, .unset] [(.int (1 : Int32)), (.int md)])) _
          refine XS.icmpYes X10.here hx rfl (pc0 := 55) (pc' := 65) rfl (hb hby at_55) rfl (feq hc55).2 (by decide) (by decide) ?_
          show Steps p.tables e below (T10.setTop (mkF m 65 #[.val (.long a1), .second, .val (.long a2), .second, .val (.long a3), .second, .val (.int a4), .val (.long rt), .second, .val (.long ce), .second, .val (.int md), .unset, .unset, .unset, .unset, .unset, .unset, .unset] [])) _
          refine XS.iload X10.here hx rfl (hb hby at_65) rfl ?_
          show Steps p.tables e below (T10.setTop (mkF m 67 #[.val (.long a1), .second, .val (.long a2), .second, .val (.long a3), .second, .val (.int a4), .val (.long rt), .second, .val (.long ce), .second, .val (.int md), .unset, .unset, .unset, .unset, .unset, .unset, .unset] [(.int md)])) _
          refine XS.iconst X10.here hx rfl (hb hby at_67) ?_
          exact kt
        by_cases hc68 : md = (2 : Int32)
        case pos =>
          have pre21 : ∀ t, Steps p.tables e below (T10.setTop (mkF m 85 #[.val (.long a1), .second, .val (.long a2), .second, .val (.long a3), .second, .val (.int a4), .val (.long rt), .second, .val (.long ce), .second, .val (.int md), .val (.long (rt - (1 : Int64))), .second, .unset, .unset, .unset, .unset, .unset] [])) t → Steps p.tables e below (s₁.setTop (entryFrame m #[(.long a1), (.long a2), (.long a3), (.int a4)] maxLocals)) t := by
            intro t kt
            refine pre20 t ?_
            show Steps p.tables e below (T10.setTop (mkF m 68 #[.val (.long a1), .second, .val (.long a2), .second, .val (.long a3), .second, .val (.int a4), .val (.long rt), .second, .val (.long ce), .second, .val (.int md), .unset, .unset, .unset, .unset, .unset, .unset, .unset] [(.int (2 : Int32)), (.int md)])) _
            refine XS.icmpNo X10.here hx rfl (hb hby at_68) rfl (teq hc68).2 ?_
            show Steps p.tables e below (T10.setTop (mkF m 71 #[.val (.long a1), .second, .val (.long a2), .second, .val (.long a3), .second, .val (.int a4), .val (.long rt), .second, .val (.long ce), .second, .val (.int md), .unset, .unset, .unset, .unset, .unset, .unset, .unset] [])) _
            refine XS.lload X10.here hx rfl (hb hby at_71) rfl ?_
            show Steps p.tables e below (T10.setTop (mkF m 73 #[.val (.long a1), .second, .val (.long a2), .second, .val (.long a3), .second, .val (.int a4), .val (.long rt), .second, .val (.long ce), .second, .val (.int md), .unset, .unset, .unset, .unset, .unset, .unset, .unset] [(.long rt)])) _
            refine XS.lconst X10.here hx rfl (hb hby at_73) ?_
            show Steps p.tables e below (T10.setTop (mkF m 74 #[.val (.long a1), .second, .val (.long a2), .second, .val (.long a3), .second, .val (.int a4), .val (.long rt), .second, .val (.long ce), .second, .val (.int md), .unset, .unset, .unset, .unset, .unset, .unset, .unset] [(.long (1 : Int64)), (.long rt)])) _
            refine XS.lsub X10.here hx rfl (hb hby at_74) rfl ?_
            show Steps p.tables e below (T10.setTop (mkF m 75 #[.val (.long a1), .second, .val (.long a2), .second, .val (.long a3), .second, .val (.int a4), .val (.long rt), .second, .val (.long ce), .second, .val (.int md), .unset, .unset, .unset, .unset, .unset, .unset, .unset] [(.long (rt - (1 : Int64)))])) _
            refine XS.lstore X10.here hx rfl (hb hby at_75) rfl (l' := #[.val (.long a1), .second, .val (.long a2), .second, .val (.long a3), .second, .val (.int a4), .val (.long rt), .second, .val (.long ce), .second, .val (.int md), .val (.long (rt - (1 : Int64))), .second, .unset, .unset, .unset, .unset, .unset]) rfl ?_
            show Steps p.tables e below (T10.setTop (mkF m 77 #[.val (.long a1), .second, .val (.long a2), .second, .val (.long a3), .second, .val (.int a4), .val (.long rt), .second, .val (.long ce), .second, .val (.int md), .val (.long (rt - (1 : Int64))), .second, .unset, .unset, .unset, .unset, .unset] [])) _
            refine XS.goto X10.here hx rfl (pc0 := 77) (pc' := 85) rfl (hb hby at_77) (by decide) (by decide) ?_
            exact kt
          exact ⟨T10, _, (rt - (1 : Int64)), X10, e10, N10, trivial, pre21⟩
        case neg =>
          have pre22 : ∀ t, Steps p.tables e below (T10.setTop (mkF m 85 #[.val (.long a1), .second, .val (.long a2), .second, .val (.long a3), .second, .val (.int a4), .val (.long rt), .second, .val (.long ce), .second, .val (.int md), .val (.long (9223372036854775807 : Int64)), .second, .unset, .unset, .unset, .unset, .unset] [])) t → Steps p.tables e below (s₁.setTop (entryFrame m #[(.long a1), (.long a2), (.long a3), (.int a4)] maxLocals)) t := by
            intro t kt
            refine pre20 t ?_
            show Steps p.tables e below (T10.setTop (mkF m 68 #[.val (.long a1), .second, .val (.long a2), .second, .val (.long a3), .second, .val (.int a4), .val (.long rt), .second, .val (.long ce), .second, .val (.int md), .unset, .unset, .unset, .unset, .unset, .unset, .unset] [(.int (2 : Int32)), (.int md)])) _
            refine XS.icmpYes X10.here hx rfl (pc0 := 68) (pc' := 80) rfl (hb hby at_68) rfl (feq hc68).2 (by decide) (by decide) ?_
            show Steps p.tables e below (T10.setTop (mkF m 80 #[.val (.long a1), .second, .val (.long a2), .second, .val (.long a3), .second, .val (.int a4), .val (.long rt), .second, .val (.long ce), .second, .val (.int md), .unset, .unset, .unset, .unset, .unset, .unset, .unset] [])) _
            refine X10.ldc2Long hx hown (mvT hZ (hw _ (List.mem_of_getElem? (i := 0) rfl))) (g := (mkF m 80 #[.val (.long a1), .second, .val (.long a2), .second, .val (.long a3), .second, .val (.int a4), .val (.long rt), .second, .val (.long ce), .second, .val (.int md), .unset, .unset, .unset, .unset, .unset, .unset, .unset] [])) rfl (hb hby at_80) _ ?_
            show Steps p.tables e below (T10.setTop (mkF m 83 #[.val (.long a1), .second, .val (.long a2), .second, .val (.long a3), .second, .val (.int a4), .val (.long rt), .second, .val (.long ce), .second, .val (.int md), .unset, .unset, .unset, .unset, .unset, .unset, .unset] [(.long (9223372036854775807 : Int64))])) _
            refine XS.lstore X10.here hx rfl (hb hby at_83) rfl (l' := #[.val (.long a1), .second, .val (.long a2), .second, .val (.long a3), .second, .val (.int a4), .val (.long rt), .second, .val (.long ce), .second, .val (.int md), .val (.long (9223372036854775807 : Int64)), .second, .unset, .unset, .unset, .unset, .unset]) rfl ?_
            exact kt
          exact ⟨T10, _, (9223372036854775807 : Int64), X10, e10, N10, trivial, pre22⟩
  obtain ⟨T23, h23, X23, e23, E23, A23, D23, -, st23⟩ := newO X16 hx hZ hown (hw _ (List.mem_of_getElem? (i := 1) rfl)) (hw _ (List.mem_of_getElem? (i := 2) rfl)) (hw _ (List.mem_of_getElem? (i := 3) rfl)) e16 (g := (mkF m 85 #[.val (.long a1), .second, .val (.long a2), .second, .val (.long a3), .second, .val (.int a4), .val (.long rt), .second, .val (.long ce), .second, .val (.int md), .val (.long sf), .second, .unset, .unset, .unset, .unset, .unset] [])) rfl (hb hby at_85) (by decide) (by decide)
  obtain ⟨ob, g23⟩ : ∃ z, z = h0.size := ⟨_, rfl⟩
  rw [← g23] at A23 D23 st23
  have g_ob : n0 ≤ ob := by rw [g23]; exact Z0
  have Z24 := Nat.le_trans Z0 E23.1
  have E_ob := A23
  have F_costScale_ob : Fld Z h23 ob "com/example/slotwright/slotwright/core/NodeBounds" "costScale" "I" (.int (0 : Int32)) := D23 (Or.inr (hw _ (List.mem_of_getElem? (i := 16) rfl))) (ty := .int) (by decide)
  have F_speedCeiling_ob : Fld Z h23 ob "com/example/slotwright/slotwright/core/NodeBounds" "speedCeiling" "J" (.long (0 : Int64)) := D23 (Or.inr (hw _ (List.mem_of_getElem? (i := 18) rfl))) (ty := .long) (by decide)
  have F_longestSafeRuntime_ob : Fld Z h23 ob "com/example/slotwright/slotwright/core/NodeBounds" "longestSafeRuntime" "J" (.long (0 : Int64)) := D23 (Or.inr (hw _ (List.mem_of_getElem? (i := 20) rfl))) (ty := .long) (by decide)
  have F_classes_ob : Fld Z h23 ob "com/example/slotwright/slotwright/core/NodeBounds" "classes" "Lcom/example/slotwright/slotwright/core/NodeClasses$OnFirstUse;" .null := D23 (Or.inr (hw _ (List.mem_of_getElem? (i := 22) rfl))) (ty := (.object "com/example/slotwright/slotwright/core/NodeClasses$OnFirstUse")) (by decide)
  obtain ⟨_, _, ⟨T25, L25, k25, n25⟩, -, X25, ⟨Lc25, hQ25, l25, y25, z25⟩, st25⟩ := X23.specialBack hx (y := (⟨"com/example/slotwright/slotwright/core/NodeBounds", "<init>", "(IJJLcom/example/slotwright/slotwright/core/NodeClasses$OnFirstUse;)V"⟩ : MethodName)) rfl hown (mvT hZ (hw _ (List.mem_of_getElem? (i := 4) rfl))) (mvT hZ (hw _ (List.mem_of_getElem? (i := 5) rfl))) (mvT hZ (hw _ (List.mem_of_getElem? (i := 6) rfl))) (by decide) (backOf (W := 1) (own_rm1 l Z a0 hw [] (ob) ((0 : Int32)) (ce) (sf) h23 n0 Z24 E_ob F_costScale_ob F_speedCeiling_ob F_longestSafeRuntime_ob F_classes_ob g_ob) hZ (hw _ (List.mem_of_getElem? (i := 6) rfl)) (hw _ (List.mem_of_getElem? (i := 3) rfl)) (by decide) (by decide)) (g := (mkF m 95 #[.val (.long a1), .second, .val (.long a2), .second, .val (.long a3), .second, .val (.int a4), .val (.long rt), .second, .val (.long ce), .second, .val (.int md), .val (.long sf), .second, .unset, .unset, .unset, .unset, .unset] [.null, (.long sf), (.long ce), (.int (0 : Int32)), (.ref ob), (.ref ob)])) rfl (by rw [hml]; rfl) (Steps.refl _) (a := ob) (argsL := [(.int (0 : Int32)), (.long ce), (.long sf), .null]) (rest := [(.ref ob)]) (lenOf own_pd1 rfl) rfl (by show 2 * 0 + _ ≤ _; exact Nat.le_of_eq rfl) (hb hby at_95) (fun _ _ => ⟨rfl, e23, (by decide : 1 + 0 ≤ _), (by decide : 4 + 0 ≤ _)⟩)
  dsimp only [Pt.U, Pt.locs, Pt.cells, Pt.slots] at X25 l25 y25 z25 st25 hQ25
  subst l25 y25 z25
  obtain ⟨rfl, Nq25, Kq25, E_ob, F_costScale_ob, F_speedCeiling_ob, F_longestSafeRuntime_ob, F_classes_ob⟩ := hQ25
  have N25 := Fr.app N16 Nq25
  have Z25 := Nat.le_trans Z24 Kq25.1
  obtain ⟨cq26, kq26, q26a, q26b, q26c⟩ := isOf hZ rfl E_ob
  obtain ⟨_, _, ⟨T26, L26, k26, n26⟩, -, X26, ⟨Lc26, hQ26, l26, y26, z26⟩, st26⟩ := X25.virtualBack hx (y := (⟨"com/example/slotwright/slotwright/core/NodeBounds", "shortestTask", "(J)J"⟩ : MethodName)) (z := (⟨"com/example/slotwright/slotwright/core/NodeBounds", "shortestTask", "(J)J"⟩ : MethodName)) hown (mvT hZ (hw _ (List.mem_of_getElem? (i := 23) rfl))) (mvT hZ (hw _ (List.mem_of_getElem? (i := 24) rfl))) (notFace_of_selects (args := #[]) (mvT hZ (hw _ (List.mem_of_getElem? (i := 26) rfl)))) (mvT hZ (hw _ (List.mem_of_getElem? (i := 26) rfl))) (mvT hZ (hw _ (List.mem_of_getElem? (i := 25) rfl))) (by decide) (backOf (W := 0) (own_rm4 l Z a0 hw [] ob rt ce sf T25.heap n0 Z25 F_speedCeiling_ob F_longestSafeRuntime_ob hce0) hZ (hw _ (List.mem_of_getElem? (i := 27) rfl)) (hw _ (List.mem_of_getElem? (i := 3) rfl)) (by decide) (by decide)) q26a q26c (g := (mkF m 104 #[.val (.long a1), .second, .val (.long a2), .second, .val (.long a3), .second, .val (.int a4), .val (.long rt), .second, .val (.long ce), .second, .val (.int md), .val (.long sf), .second, .val (.ref ob), .unset, .unset, .unset, .unset] [(.long rt), (.ref ob)])) rfl (by rw [hml]; rfl) (Steps.refl _) (argsL := [(.long rt)]) (rest := []) (lenOf own_pd2 rfl) rfl (by show 2 * 0 + _ ≤ _; exact Nat.le_of_eq rfl) (hb hby at_104) (fun _ _ => ⟨rfl, rfl, (by decide : 1 + 0 ≤ _), (by decide : 4 + 0 ≤ _)⟩)
  dsimp only [Pt.U, Pt.locs, Pt.cells, Pt.slots] at X26 l26 y26 z26 st26 hQ26
  subst l26 y26 z26
  obtain ⟨rfl, Nq26, eq26⟩ := hQ26
  have N26 := Fr.app N25 Nq26
  have pre27 : ∀ t, Steps p.tables e below (T26.setTop (mkF m 114 #[.val (.long a1), .second, .val (.long a2), .second, .val (.long a3), .second, .val (.int a4), .val (.long rt), .second, .val (.long ce), .second, .val (.int md), .val (.long sf), .second, .val (.ref ob), .val (.long (own_st rt ce sf)), .second, .unset, .unset] [(.int (lcmpW rt sf))])) t → Steps p.tables e below (s₁.setTop (entryFrame m #[(.long a1), (.long a2), (.long a3), (.int a4)] maxLocals)) t := by
    intro t kt
    refine pre16 t ?_
    show Steps p.tables e below (T16.setTop (mkF m 85 #[.val (.long a1), .second, .val (.long a2), .second, .val (.long a3), .second, .val (.int a4), .val (.long rt), .second, .val (.long ce), .second, .val (.int md), .val (.long sf), .second, .unset, .unset, .unset, .unset, .unset] [])) _
    refine st23 _ ?_
    show Steps p.tables e below (T23.setTop (mkF m 88 #[.val (.long a1), .second, .val (.long a2), .second, .val (.long a3), .second, .val (.int a4), .val (.long rt), .second, .val (.long ce), .second, .val (.int md), .val (.long sf), .second, .unset, .unset, .unset, .unset, .unset] [(.ref ob)])) _
    refine XS.dup X23.here hx rfl (hb hby at_88) rfl rfl ?_
    show Steps p.tables e below (T23.setTop (mkF m 89 #[.val (.long a1), .second, .val (.long a2), .second, .val (.long a3), .second, .val (.int a4), .val (.long rt), .second, .val (.long ce), .second, .val (.int md), .val (.long sf), .second, .unset, .unset, .unset, .unset, .unset] [(.ref ob), (.ref ob)])) _
    refine XS.iconst X23.here hx rfl (hb hby at_89) ?_
    show Steps p.tables e below (T23.setTop (mkF m 90 #[.val (.long a1), .second, .val (.long a2), .second, .val (.long a3), .second, .val (.int a4), .val (.long rt), .second, .val (.long ce), .second, .val (.int md), .val (.long sf), .second, .unset, .unset, .unset, .unset, .unset] [(.int (0 : Int32)), (.ref ob), (.ref ob)])) _
    refine XS.lload X23.here hx rfl (hb hby at_90) rfl ?_
    show Steps p.tables e below (T23.setTop (mkF m 92 #[.val (.long a1), .second, .val (.long a2), .second, .val (.long a3), .second, .val (.int a4), .val (.long rt), .second, .val (.long ce), .second, .val (.int md), .val (.long sf), .second, .unset, .unset, .unset, .unset, .unset] [(.long ce), (.int (0 : Int32)), (.ref ob), (.ref ob)])) _
    refine XS.lload X23.here hx rfl (hb hby at_92) rfl ?_
    show Steps p.tables e below (T23.setTop (mkF m 94 #[.val (.long a1), .second, .val (.long a2), .second, .val (.long a3), .second, .val (.int a4), .val (.long rt), .second, .val (.long ce), .second, .val (.int md), .val (.long sf), .second, .unset, .unset, .unset, .unset, .unset] [(.long sf), (.long ce), (.int (0 : Int32)), (.ref ob), (.ref ob)])) _
    refine XS.aconstNull X23.here hx rfl (hb hby at_94) ?_
    show Steps p.tables e below (T23.setTop (mkF m 95 #[.val (.long a1), .second, .val (.long a2), .second, .val (.long a3), .second, .val (.int a4), .val (.long rt), .second, .val (.long ce), .second, .val (.int md), .val (.long sf), .second, .unset, .unset, .unset, .unset, .unset] [.null, (.long sf), (.long ce), (.int (0 : Int32)), (.ref ob), (.ref ob)])) _
    refine st25.trans ?_
    show Steps p.tables e below (T25.setTop (mkF m 98 #[.val (.long a1), .second, .val (.long a2), .second, .val (.long a3), .second, .val (.int a4), .val (.long rt), .second, .val (.long ce), .second, .val (.int md), .val (.long sf), .second, .unset, .unset, .unset, .unset, .unset] [(.ref ob)])) _
    refine XS.astore X25.here hx rfl (hb hby at_98) rfl rfl (l' := #[.val (.long a1), .second, .val (.long a2), .second, .val (.long a3), .second, .val (.int a4), .val (.long rt), .second, .val (.long ce), .second, .val (.int md), .val (.long sf), .second, .val (.ref ob), .unset, .unset, .unset, .unset]) rfl ?_
    show Steps p.tables e below (T25.setTop (mkF m 100 #[.val (.long a1), .second, .val (.long a2), .second, .val (.long a3), .second, .val (.int a4), .val (.long rt), .second, .val (.long ce), .second, .val (.int md), .val (.long sf), .second, .val (.ref ob), .unset, .unset, .unset, .unset] [])) _
    refine XS.aload X25.here hx rfl (hb hby at_100) rfl rfl ?_
    show Steps p.tables e below (T25.setTop (mkF m 102 #[.val (.long a1), .second, .val (.long a2), .second, .val (.long a3), .second, .val (.int a4), .val (.long rt), .second, .val (.long ce), .second, .val (.int md), .val (.long sf), .second, .val (.ref ob), .unset, .unset, .unset, .unset] [(.ref ob)])) _
    refine XS.lload X25.here hx rfl (hb hby at_102) rfl ?_
    show Steps p.tables e below (T25.setTop (mkF m 104 #[.val (.long a1), .second, .val (.long a2), .second, .val (.long a3), .second, .val (.int a4), .val (.long rt), .second, .val (.long ce), .second, .val (.int md), .val (.long sf), .second, .val (.ref ob), .unset, .unset, .unset, .unset] [(.long rt), (.ref ob)])) _
    refine st26.trans ?_
    show Steps p.tables e below (T26.setTop (mkF m 107 #[.val (.long a1), .second, .val (.long a2), .second, .val (.long a3), .second, .val (.int a4), .val (.long rt), .second, .val (.long ce), .second, .val (.int md), .val (.long sf), .second, .val (.ref ob), .unset, .unset, .unset, .unset] [(.long (own_st rt ce sf))])) _
    refine XS.lstore X26.here hx rfl (hb hby at_107) rfl (l' := #[.val (.long a1), .second, .val (.long a2), .second, .val (.long a3), .second, .val (.int a4), .val (.long rt), .second, .val (.long ce), .second, .val (.int md), .val (.long sf), .second, .val (.ref ob), .val (.long (own_st rt ce sf)), .second, .unset, .unset]) rfl ?_
    show Steps p.tables e below (T26.setTop (mkF m 109 #[.val (.long a1), .second, .val (.long a2), .second, .val (.long a3), .second, .val (.int a4), .val (.long rt), .second, .val (.long ce), .second, .val (.int md), .val (.long sf), .second, .val (.ref ob), .val (.long (own_st rt ce sf)), .second, .unset, .unset] [])) _
    refine XS.lload X26.here hx rfl (hb hby at_109) rfl ?_
    show Steps p.tables e below (T26.setTop (mkF m 111 #[.val (.long a1), .second, .val (.long a2), .second, .val (.long a3), .second, .val (.int a4), .val (.long rt), .second, .val (.long ce), .second, .val (.int md), .val (.long sf), .second, .val (.ref ob), .val (.long (own_st rt ce sf)), .second, .unset, .unset] [(.long rt)])) _
    refine XS.lload X26.here hx rfl (hb hby at_111) rfl ?_
    show Steps p.tables e below (T26.setTop (mkF m 113 #[.val (.long a1), .second, .val (.long a2), .second, .val (.long a3), .second, .val (.int a4), .val (.long rt), .second, .val (.long ce), .second, .val (.int md), .val (.long sf), .second, .val (.ref ob), .val (.long (own_st rt ce sf)), .second, .unset, .unset] [(.long sf), (.long rt)])) _
    refine XS.lcmp X26.here hx rfl (hb hby at_113) rfl ?_
    exact kt
  by_cases hc114 : sf < rt
  case pos =>
    obtain ⟨fs, hr, hrun, hended, hW, hsame⟩ := X26.leave (v := some (.int (1 : Int32))) (fun h => by rw [Bd.returns] at h; cases h) (BodyLoose.notSynchronized Bd)
    refine ⟨_, _, pre27 _ ?_, hrun, hended, _, _, rfl, ?_, ⟨_, rfl⟩, hW, hsame.mono (by decide) (by decide)⟩
    · skip
      show Steps p.tables e below (T26.setTop (mkF m 114 #[.val (.long a1), .second, .val (.long a2), .second, .val (.long a3), .second, .val (.int a4), .val (.long rt), .second, .val (.long ce), .second, .val (.int md), .val (.long sf), .second, .val (.ref ob), .val (.long (own_st rt ce sf)), .second, .unset, .unset] [(.int (lcmpW rt sf))])) _
      refine XS.ifNo X26.here hx rfl (hb hby at_114) rfl ((if0 _ _).trans (tlt ((lw_gt rt sf).mpr hc114)).2.2.2) ?_
      show Steps p.tables e below (T26.setTop (mkF m 117 #[.val (.long a1), .second, .val (.long a2), .second, .val (.long a3), .second, .val (.int a4), .val (.long rt), .second, .val (.long ce), .second, .val (.int md), .val (.long sf), .second, .val (.ref ob), .val (.long (own_st rt ce sf)), .second, .unset, .unset] [])) _
      refine XS.lconst X26.here hx rfl (hb hby at_117) ?_
      show Steps p.tables e below (T26.setTop (mkF m 118 #[.val (.long a1), .second, .val (.long a2), .second, .val (.long a3), .second, .val (.int a4), .val (.long rt), .second, .val (.long ce), .second, .val (.int md), .val (.long sf), .second, .val (.ref ob), .val (.long (own_st rt ce sf)), .second, .unset, .unset] [(.long (0 : Int64))])) _
      refine XS.goto X26.here hx rfl (pc0 := 118) (pc' := 130) rfl (hb hby at_118) (by decide) (by decide) ?_
      show Steps p.tables e below (T26.setTop (mkF m 130 #[.val (.long a1), .second, .val (.long a2), .second, .val (.long a3), .second, .val (.int a4), .val (.long rt), .second, .val (.long ce), .second, .val (.int md), .val (.long sf), .second, .val (.ref ob), .val (.long (own_st rt ce sf)), .second, .unset, .unset] [(.long (0 : Int64))])) _
      refine XS.lstore X26.here hx rfl (hb hby at_130) rfl (l' := #[.val (.long a1), .second, .val (.long a2), .second, .val (.long a3), .second, .val (.int a4), .val (.long rt), .second, .val (.long ce), .second, .val (.int md), .val (.long sf), .second, .val (.ref ob), .val (.long (own_st rt ce sf)), .second, .val (.long (0 : Int64)), .second]) rfl ?_
      show Steps p.tables e below (T26.setTop (mkF m 132 #[.val (.long a1), .second, .val (.long a2), .second, .val (.long a3), .second, .val (.int a4), .val (.long rt), .second, .val (.long ce), .second, .val (.int md), .val (.long sf), .second, .val (.ref ob), .val (.long (own_st rt ce sf)), .second, .val (.long (0 : Int64)), .second] [])) _
      refine XS.lload X26.here hx rfl (hb hby at_132) rfl ?_
      show Steps p.tables e below (T26.setTop (mkF m 134 #[.val (.long a1), .second, .val (.long a2), .second, .val (.long a3), .second, .val (.int a4), .val (.long rt), .second, .val (.long ce), .second, .val (.int md), .val (.long sf), .second, .val (.ref ob), .val (.long (own_st rt ce sf)), .second, .val (.long (0 : Int64)), .second] [(.long (own_st rt ce sf))])) _
      refine XS.lload X26.here hx rfl (hb hby at_134) rfl ?_
      show Steps p.tables e below (T26.setTop (mkF m 136 #[.val (.long a1), .second, .val (.long a2), .second, .val (.long a3), .second, .val (.int a4), .val (.long rt), .second, .val (.long ce), .second, .val (.int md), .val (.long sf), .second, .val (.ref ob), .val (.long (own_st rt ce sf)), .second, .val (.long (0 : Int64)), .second] [(.long (0 : Int64)), (.long (own_st rt ce sf))])) _
      refine XS.lcmp X26.here hx rfl (hb hby at_136) rfl ?_
      show Steps p.tables e below (T26.setTop (mkF m 137 #[.val (.long a1), .second, .val (.long a2), .second, .val (.long a3), .second, .val (.int a4), .val (.long rt), .second, .val (.long ce), .second, .val (.int md), .val (.long sf), .second, .val (.ref ob), .val (.long (own_st rt ce sf)), .second, .val (.long (0 : Int64)), .second] [(.int (lcmpW (own_st rt ce sf) (0 : Int64)))])) _
      refine XS.ifNo X26.here hx rfl (hb hby at_137) rfl ((if0 _ _).trans (teq ((lw_eq (own_st rt ce sf) (0 : Int64)).mpr (if_pos hc114))).2) ?_
      show Steps p.tables e below (T26.setTop (mkF m 140 #[.val (.long a1), .second, .val (.long a2), .second, .val (.long a3), .second, .val (.int a4), .val (.long rt), .second, .val (.long ce), .second, .val (.int md), .val (.long sf), .second, .val (.ref ob), .val (.long (own_st rt ce sf)), .second, .val (.long (0 : Int64)), .second] [])) _
      refine XS.iconst X26.here hx rfl (hb hby at_140) ?_
      show Steps p.tables e below (T26.setTop (mkF m 141 #[.val (.long a1), .second, .val (.long a2), .second, .val (.long a3), .second, .val (.int a4), .val (.long rt), .second, .val (.long ce), .second, .val (.int md), .val (.long sf), .second, .val (.ref ob), .val (.long (own_st rt ce sf)), .second, .val (.long (0 : Int64)), .second] [(.int (1 : Int32))])) _
      refine XS.goto X26.here hx rfl (pc0 := 141) (pc' := 145) rfl (hb hby at_141) (by decide) (by decide) ?_
      show Steps p.tables e below (T26.setTop (mkF m 145 #[.val (.long a1), .second, .val (.long a2), .second, .val (.long a3), .second, .val (.int a4), .val (.long rt), .second, .val (.long ce), .second, .val (.int md), .val (.long sf), .second, .val (.ref ob), .val (.long (own_st rt ce sf)), .second, .val (.long (0 : Int64)), .second] [(.int (1 : Int32))])) _
      exact retN X26 hx (t := .boolean) Bd.returns (by simp) (hb hby at_145) hr
    · show own_Q0 Z a1 a2 a3 a4 h0 n0 _ T26.heap _
      rw [eq26]
      exact ⟨rfl, N26⟩
  case neg =>
    obtain ⟨fs, hr, hrun, hended, hW, hsame⟩ := X26.leave (v := some (.int (1 : Int32))) (fun h => by rw [Bd.returns] at h; cases h) (BodyLoose.notSynchronized Bd)
    refine ⟨_, _, pre27 _ ?_, hrun, hended, _, _, rfl, ?_, ⟨_, rfl⟩, hW, hsame.mono (by decide) (by decide)⟩
    · skip
      show Steps p.tables e below (T26.setTop (mkF m 114 #[.val (.long a1), .second, .val (.long a2), .second, .val (.long a3), .second, .val (.int a4), .val (.long rt), .second, .val (.long ce), .second, .val (.int md), .val (.long sf), .second, .val (.ref ob), .val (.long (own_st rt ce sf)), .second, .unset, .unset] [(.int (lcmpW rt sf))])) _
      refine XS.ifYes X26.here hx rfl (pc0 := 114) (pc' := 121) rfl (hb hby at_114) rfl ((if0 _ _).trans (flt (fun q => hc114 ((lw_gt rt sf).mp q))).2.2.2) (by decide) (by decide) ?_
      show Steps p.tables e below (T26.setTop (mkF m 121 #[.val (.long a1), .second, .val (.long a2), .second, .val (.long a3), .second, .val (.int a4), .val (.long rt), .second, .val (.long ce), .second, .val (.int md), .val (.long sf), .second, .val (.ref ob), .val (.long (own_st rt ce sf)), .second, .unset, .unset] [])) _
      refine XS.lload X26.here hx rfl (hb hby at_121) rfl ?_
      show Steps p.tables e below (T26.setTop (mkF m 123 #[.val (.long a1), .second, .val (.long a2), .second, .val (.long a3), .second, .val (.int a4), .val (.long rt), .second, .val (.long ce), .second, .val (.int md), .val (.long sf), .second, .val (.ref ob), .val (.long (own_st rt ce sf)), .second, .unset, .unset] [(.long rt)])) _
      refine XS.lconst X26.here hx rfl (hb hby at_123) ?_
      show Steps p.tables e below (T26.setTop (mkF m 124 #[.val (.long a1), .second, .val (.long a2), .second, .val (.long a3), .second, .val (.int a4), .val (.long rt), .second, .val (.long ce), .second, .val (.int md), .val (.long sf), .second, .val (.ref ob), .val (.long (own_st rt ce sf)), .second, .unset, .unset] [(.long (1 : Int64)), (.long rt)])) _
      refine XS.lsub X26.here hx rfl (hb hby at_124) rfl ?_
      show Steps p.tables e below (T26.setTop (mkF m 125 #[.val (.long a1), .second, .val (.long a2), .second, .val (.long a3), .second, .val (.int a4), .val (.long rt), .second, .val (.long ce), .second, .val (.int md), .val (.long sf), .second, .val (.ref ob), .val (.long (own_st rt ce sf)), .second, .unset, .unset] [(.long (rt - (1 : Int64)))])) _
      refine XS.lload X26.here hx rfl (hb hby at_125) rfl ?_
      show Steps p.tables e below (T26.setTop (mkF m 127 #[.val (.long a1), .second, .val (.long a2), .second, .val (.long a3), .second, .val (.int a4), .val (.long rt), .second, .val (.long ce), .second, .val (.int md), .val (.long sf), .second, .val (.ref ob), .val (.long (own_st rt ce sf)), .second, .unset, .unset] [(.long ce), (.long (rt - (1 : Int64)))])) _
      refine XS.ldiv X26.here hx rfl (hb hby at_127) rfl hce0 ?_
      show Steps p.tables e below (T26.setTop (mkF m 128 #[.val (.long a1), .second, .val (.long a2), .second, .val (.long a3), .second, .val (.int a4), .val (.long rt), .second, .val (.long ce), .second, .val (.int md), .val (.long sf), .second, .val (.ref ob), .val (.long (own_st rt ce sf)), .second, .unset, .unset] [(.long ((rt - (1 : Int64)) / ce))])) _
      refine XS.lconst X26.here hx rfl (hb hby at_128) ?_
      show Steps p.tables e below (T26.setTop (mkF m 129 #[.val (.long a1), .second, .val (.long a2), .second, .val (.long a3), .second, .val (.int a4), .val (.long rt), .second, .val (.long ce), .second, .val (.int md), .val (.long sf), .second, .val (.ref ob), .val (.long (own_st rt ce sf)), .second, .unset, .unset] [(.long (1 : Int64)), (.long ((rt - (1 : Int64)) / ce))])) _
      refine XS.ladd X26.here hx rfl (hb hby at_129) rfl ?_
      show Steps p.tables e below (T26.setTop (mkF m 130 #[.val (.long a1), .second, .val (.long a2), .second, .val (.long a3), .second, .val (.int a4), .val (.long rt), .second, .val (.long ce), .second, .val (.int md), .val (.long sf), .second, .val (.ref ob), .val (.long (own_st rt ce sf)), .second, .unset, .unset] [(.long (((rt - (1 : Int64)) / ce) + (1 : Int64)))])) _
      refine XS.lstore X26.here hx rfl (hb hby at_130) rfl (l' := #[.val (.long a1), .second, .val (.long a2), .second, .val (.long a3), .second, .val (.int a4), .val (.long rt), .second, .val (.long ce), .second, .val (.int md), .val (.long sf), .second, .val (.ref ob), .val (.long (own_st rt ce sf)), .second, .val (.long (((rt - (1 : Int64)) / ce) + (1 : Int64))), .second]) rfl ?_
      show Steps p.tables e below (T26.setTop (mkF m 132 #[.val (.long a1), .second, .val (.long a2), .second, .val (.long a3), .second, .val (.int a4), .val (.long rt), .second, .val (.long ce), .second, .val (.int md), .val (.long sf), .second, .val (.ref ob), .val (.long (own_st rt ce sf)), .second, .val (.long (((rt - (1 : Int64)) / ce) + (1 : Int64))), .second] [])) _
      refine XS.lload X26.here hx rfl (hb hby at_132) rfl ?_
      show Steps p.tables e below (T26.setTop (mkF m 134 #[.val (.long a1), .second, .val (.long a2), .second, .val (.long a3), .second, .val (.int a4), .val (.long rt), .second, .val (.long ce), .second, .val (.int md), .val (.long sf), .second, .val (.ref ob), .val (.long (own_st rt ce sf)), .second, .val (.long (((rt - (1 : Int64)) / ce) + (1 : Int64))), .second] [(.long (own_st rt ce sf))])) _
      refine XS.lload X26.here hx rfl (hb hby at_134) rfl ?_
      show Steps p.tables e below (T26.setTop (mkF m 136 #[.val (.long a1), .second, .val (.long a2), .second, .val (.long a3), .second, .val (.int a4), .val (.long rt), .second, .val (.long ce), .second, .val (.int md), .val (.long sf), .second, .val (.ref ob), .val (.long (own_st rt ce sf)), .second, .val (.long (((rt - (1 : Int64)) / ce) + (1 : Int64))), .second] [(.long (((rt - (1 : Int64)) / ce) + (1 : Int64))), (.long (own_st rt ce sf))])) _
      refine XS.lcmp X26.here hx rfl (hb hby at_136) rfl ?_
      show Steps p.tables e below (T26.setTop (mkF m 137 #[.val (.long a1), .second, .val (.long a2), .second, .val (.long a3), .second, .val (.int a4), .val (.long rt), .second, .val (.long ce), .second, .val (.int md), .val (.long sf), .second, .val (.ref ob), .val (.long (own_st rt ce sf)), .second, .val (.long (((rt - (1 : Int64)) / ce) + (1 : Int64))), .second] [(.int (lcmpW (own_st rt ce sf) (((rt - (1 : Int64)) / ce) + (1 : Int64))))])) _
      refine XS.ifNo X26.here hx rfl (hb hby at_137) rfl ((if0 _ _).trans (teq ((lw_eq (own_st rt ce sf) (((rt - (1 : Int64)) / ce) + (1 : Int64))).mpr (own_law1 hrt hce hc114))).2) ?_
      show Steps p.tables e below (T26.setTop (mkF m 140 #[.val (.long a1), .second, .val (.long a2), .second, .val (.long a3), .second, .val (.int a4), .val (.long rt), .second, .val (.long ce), .second, .val (.int md), .val (.long sf), .second, .val (.ref ob), .val (.long (own_st rt ce sf)), .second, .val (.long (((rt - (1 : Int64)) / ce) + (1 : Int64))), .second] [])) _
      refine XS.iconst X26.here hx rfl (hb hby at_140) ?_
      show Steps p.tables e below (T26.setTop (mkF m 141 #[.val (.long a1), .second, .val (.long a2), .second, .val (.long a3), .second, .val (.int a4), .val (.long rt), .second, .val (.long ce), .second, .val (.int md), .val (.long sf), .second, .val (.ref ob), .val (.long (own_st rt ce sf)), .second, .val (.long (((rt - (1 : Int64)) / ce) + (1 : Int64))), .second] [(.int (1 : Int32))])) _
      refine XS.goto X26.here hx rfl (pc0 := 141) (pc' := 145) rfl (hb hby at_141) (by decide) (by decide) ?_
      show Steps p.tables e below (T26.setTop (mkF m 145 #[.val (.long a1), .second, .val (.long a2), .second, .val (.long a3), .second, .val (.int a4), .val (.long rt), .second, .val (.long ce), .second, .val (.int md), .val (.long sf), .second, .val (.ref ob), .val (.long (own_st rt ce sf)), .second, .val (.long (((rt - (1 : Int64)) / ce) + (1 : Int64))), .second] [(.int (1 : Int32))])) _
      exact retN X26 hx (t := .boolean) Bd.returns (by simp) (hb hby at_145) hr
    · show own_Q0 Z a1 a2 a3 a4 h0 n0 _ T26.heap _
      rw [eq26]
      exact ⟨rfl, N26⟩
set_option maxRecDepth 65536 in
set_option maxHeartbeats 40000000 in
theorem own_comes {Post : Tables → Env → Array Value → State → Outcome → State → Prop} (hpost : ∀ tb e args s v u, (limb_1_1.after args s (.returned v) u = true ∧ limb_1_2.after args s (.returned v) u = true ∧ True) → FrameEnd s (.returned v) u (Jvm.fieldLocs frame_1_writes args s ++ Jvm.arrayLocs frame_1_arrays args s ++ Jvm.staticLocs frame_1_statics s) 16 128 → Post tb e args s (.returned v) u) :
    ArmFor flags0 classFile x code maxLocals ret World_1 tables_1 room_1 Calls_1 rest_1 Pre_1 Post := by
  intro l hfl _ _ p e ha hc hk s m args below hf hA hF happ hP
  obtain ⟨hcalls, hrest, hpre⟩ := hP
  obtain ⟨-, -, -, hnamed, -, -, -, hat⟩ := (Spec.applies_iff hf).mp happ
  obtain ⟨hg, hn⟩ := and_e (Cond.before_iff.mp (show (Jvm.Cond.and given_1 narrow_1).before args s = true from hpre))
  obtain ⟨gc, ga0⟩ := and_e hg
  obtain ⟨gv0, ga1⟩ := and_e ga0
  obtain ⟨gv1, ga2⟩ := and_e ga1
  obtain ⟨gv2, ga3⟩ := and_e ga2
  obtain ⟨w0, w1, w2, w3, rfl⟩ : ∃ w0 w1 w2 w3 : Value, args = #[w0, w1, w2, w3] := by
    have hs : args.size = 4 := by simpa [Cond.value, given_1] using gc
    obtain ⟨L⟩ := args
    match L, hs with
    | [w0, w1, w2, w3], _ => exact ⟨w0, w1, w2, w3, rfl⟩
  have hw := fun d (hd : d ∈ tables_1) => atoms_spec (ws := Jvm.Cond.code x code maxLocals ret :: tables_1) hat d (List.mem_cons_of_mem _ hd)
  obtain ⟨i0, ei0⟩ := isL_v gv0
  obtain rfl : w0 = (.long i0) := Option.some.inj ei0
  obtain ⟨i1, ei1⟩ := isL_v gv1
  obtain rfl : w1 = (.long i1) := Option.some.inj ei1
  obtain ⟨i2, ei2⟩ := isL_v gv2
  obtain rfl : w2 = (.long i2) := Option.some.inj ei2
  obtain ⟨i3, ei3⟩ := is_v ga3
  obtain rfl : w3 = (.int i3) := Option.some.inj ei3
  obtain ⟨n, o, h1, h2, h3, _, L, rfl, ⟨rfl, N⟩, hq⟩ := own_rm0 l s _ hw tables_1 i0 i1 i2 i3 s.heap s.heap.size (Nat.le_refl _) p e ha hc hk s m _ below hf ((Spec.applies_iff_loose hf).mp happ).1 ⟨rfl, State.Warmed39.refl s, rfl⟩ trivial
  refine ⟨n, _, h1, h2, h3, hpost _ _ _ _ _ _ ⟨Cond.after_iff.mpr rfl, Cond.after_iff.mpr (eq_i res_at (Term.int_eval (1)) rfl), trivial⟩ ⟨hq.1, hq.2.1, (hq.2.2.sift fun y hy => Or.inr (N y hy)).mono (by decide) (by decide)⟩⟩
theorem main_1_1 : Claimed_1_1 := own_comes fun _ _ _ _ _ _ h hF => ⟨h.1, hF⟩
theorem main_1_2 : Claimed_1_2 := own_comes fun _ _ _ _ _ _ h hF => ⟨h.2.1, hF⟩
end Jvm.Pilot.@@N@@
namespace Jvm.Pilot.@@N@@
open Jvm Jvm.ClassFile Sem Op Lib Jvm.Free Jvm.Stand Jvm.Pilot.@@N@@.Jvm.D
/-! MADE BY PROGRAM (witnessworld.py) out of the Statement's table words and the real class files: 10 classes; the members and pool entries that the words name. The judged class is class 1, her method 1. -/
namespace start1
open Jvm.ClassFile
def u (s : String) : CpInfo := .utf8 (stringToUtf16 s)
/-- a pool by its gaps: so many unusable entries, then the entry; so many at the end -/
def gap : Nat → List CpInfo → List CpInfo
  | 0, r => r
  | n + 1, r => .unusable :: gap n r
def poolList (es : List (Nat × CpInfo)) (last : Nat) : List CpInfo := es.foldr (fun e r => gap e.1 (e.2 :: r)) (gap last [])
def pool (es : List (Nat × CpInfo)) (last : Nat) : Array CpInfo := ⟨poolList es last⟩
def fileOf (pool : Array CpInfo) (this : Nat) (attrs : Array Attribute := #[]) (ms : Array MethodInfo := #[]) (fl : Nat := 33) (sup : Nat := 0) (ifs : Array Nat := #[]) (fds : Array FieldInfo := #[]) : ClassFile where
  minorVersion := 0
  majorVersion := 65
  constantPool := pool
  accessFlags := fl
  thisClass := this
  superClass := sup
  interfaces := ifs
  fields := fds
  methods := ms
  attributes := attrs
def plain (name : String) (sup : Option ClassId) : Class where
  name := name
  kind := .ordinary
  loader := none
  accessFlags := 33
  super := sup
  interfaces := #[]
  cf := none
  fields := #[]
  methods := #[]
  instanceTypes := #[]
  staticTypes := #[]
  resolved := #[]
  callSites := []
  init := .initialized
  statics := none
  mirror := none

def pool0 : Array CpInfo := pool [(5, u "<init>"), (0, u "()V"), (1, .class_ 10), (1, u "java/lang/Object")] 113

def k0c0 : Code := { maxStack := 0, maxLocals := 1, code := object_method_1_code, exceptionTable := #[], attributes := #[] }
def k0m0 : Method := { name := "<init>", desc := "()V", sig := { parameters := [], returnType := none }, accessFlags := 1, code := some k0c0 }
/-- java/lang/Object -/
def k0 : Class := { plain "java/lang/Object" none with
  accessFlags := 33
  interfaces := #[]
  cf := some (fileOf pool0 8 #[] #[{ accessFlags := 1, nameIndex := 5, descriptorIndex := 6, attributes := #[] }] 33 0 #[] #[])
  fields := #[]
  methods := #[k0m0]
  instanceTypes := #[]
  staticTypes := #[]
  resolved := Array.replicate 124 none
  statics := none }

def pool1 : Array CpInfo := pool [(2, .class_ 4), (1, u "java/lang/Object"), (0, u "<init>"), (0, u "()V"), (2, .long 9223372036854775807), (1, .class_ 12), (0, u "com/example/slotwright/slotwright/core/NodeBounds"), (0, .methodref 11 14), (0, .nameAndType 5 15), (0, u "(IJJLcom/example/slotwright/slotwright/core/NodeClasses$OnFirstUse;)V"), (0, .methodref 11 17), (0, .nameAndType 18 19), (0, u "shortestTask"), (0, u "(J)J"), (0, .class_ 21), (0, u "com/example/slotwright/slotwright/core/NodeBoundsShortestTaskPinLaw"), (2, u "law"), (0, u "(JJJI)Z")] 9

def k1m0 : Method := { name := "<init>", desc := "()V", sig := { parameters := [], returnType := none }, accessFlags := 1, code := none }
def k1c1 : Code := { maxStack := 8, maxLocals := 19, code := code, exceptionTable := #[], attributes := #[] }
def k1m1 : Method := { name := "law", desc := "(JJJI)Z", sig := { parameters := [.long, .long, .long, .int], returnType := some .boolean }, accessFlags := 9, code := some k1c1 }
/-- com/example/slotwright/slotwright/core/NodeBoundsShortestTaskPinLaw -/
def k1 : Class := { plain "com/example/slotwright/slotwright/core/NodeBoundsShortestTaskPinLaw" (some 0) with
  accessFlags := 49
  interfaces := #[]
  cf := some (fileOf pool1 20 #[] #[{ accessFlags := 1, nameIndex := 5, descriptorIndex := 6, attributes := #[] }, { accessFlags := 9, nameIndex := 24, descriptorIndex := 25, attributes := #[] }] 49 2 #[] #[])
  fields := #[]
  methods := #[k1m0, k1m1]
  instanceTypes := #[]
  staticTypes := #[]
  resolved := Array.replicate 35 none
  statics := none }

def pool2 : Array CpInfo := pool [(1, .methodref 2 3), (0, .class_ 4), (0, .nameAndType 5 6), (0, u "java/lang/Object"), (0, u "<init>"), (0, u "()V"), (0, .class_ 8), (0, u "java/lang/Record")] 13

def k2c0 : Code := { maxStack := 1, maxLocals := 1, code := jdk_30_method_1_code, exceptionTable := #[], attributes := #[] }
def k2m0 : Method := { name := "<init>", desc := "()V", sig := { parameters := [], returnType := none }, accessFlags := 4, code := some k2c0 }
/-- java/lang/Record -/
def k2 : Class := { plain "java/lang/Record" (some 0) with
  accessFlags := 1057
  interfaces := #[]
  cf := some (fileOf pool2 7 #[] #[{ accessFlags := 4, nameIndex := 5, descriptorIndex := 6, attributes := #[] }] 1057 2 #[] #[])
  fields := #[]
  methods := #[k2m0]
  instanceTypes := #[]
  staticTypes := #[]
  resolved := Array.replicate 22 none
  statics := none }

def pool3 : Array CpInfo := pool [(1, .methodref 2 3), (0, .class_ 4), (0, .nameAndType 5 6), (0, u "java/lang/Record"), (0, u "<init>"), (0, u "()V"), (0, .fieldref 8 9), (0, .class_ 10), (0, .nameAndType 11 12), (0, u "com/example/slotwright/slotwright/core/NodeBounds"), (0, u "costScale"), (0, u "I"), (0, .fieldref 8 14), (0, .nameAndType 15 16), (0, u "speedCeiling"), (0, u "J"), (0, .fieldref 8 18), (0, .nameAndType 19 16), (0, u "longestSafeRuntime"), (0, .fieldref 8 21), (0, .nameAndType 22 23), (0, u "classes"), (0, u "Lcom/example/slotwright/slotwright/core/NodeClasses$OnFirstUse;"), (73, u "(J)J"), (7, u "(IJJLcom/example/slotwright/slotwright/core/NodeClasses$OnFirstUse;)V"), (20, u "shortestTask")] 29

def k3c0 : Code := { maxStack := 3, maxLocals := 7, code := prog_96_method_1_code, exceptionTable := #[], attributes := #[] }
def k3m0 : Method := { name := "<init>", desc := "(IJJLcom/example/slotwright/slotwright/core/NodeClasses$OnFirstUse;)V", sig := { parameters := [.int, .long, .long, (.object "com/example/slotwright/slotwright/core/NodeClasses$OnFirstUse")], returnType := none }, accessFlags := 0, code := some k3c0 }
def k3c1 : Code := { maxStack := 6, maxLocals := 3, code := prog_96_method_3_code, exceptionTable := #[], attributes := #[] }
def k3m1 : Method := { name := "shortestTask", desc := "(J)J", sig := { parameters := [.long], returnType := some .long }, accessFlags := 0, code := some k3c1 }
/-- com/example/slotwright/slotwright/core/NodeBounds -/
def k3 : Class := { plain "com/example/slotwright/slotwright/core/NodeBounds" (some 2) with
  accessFlags := 48
  interfaces := #[]
  cf := some (fileOf pool3 8 #[] #[{ accessFlags := 0, nameIndex := 5, descriptorIndex := 105, attributes := #[] }, { accessFlags := 0, nameIndex := 126, descriptorIndex := 97, attributes := #[] }] 48 2 #[] #[{ accessFlags := 18, nameIndex := 11, descriptorIndex := 12, attributes := #[] }, { accessFlags := 18, nameIndex := 15, descriptorIndex := 16, attributes := #[] }, { accessFlags := 18, nameIndex := 19, descriptorIndex := 16, attributes := #[] }, { accessFlags := 18, nameIndex := 22, descriptorIndex := 23, attributes := #[] }])
  fields := #[{ name := "costScale", type := .int, accessFlags := 18, slot := 0, constantValue := 0 }, { name := "speedCeiling", type := .long, accessFlags := 18, slot := 1, constantValue := 0 }, { name := "longestSafeRuntime", type := .long, accessFlags := 18, slot := 2, constantValue := 0 }, { name := "classes", type := (.object "com/example/slotwright/slotwright/core/NodeClasses$OnFirstUse"), accessFlags := 18, slot := 3, constantValue := 0 }]
  methods := #[k3m0, k3m1]
  instanceTypes := #[.int, .long, .long, (.object "com/example/slotwright/slotwright/core/NodeClasses$OnFirstUse")]
  staticTypes := #[]
  resolved := Array.replicate 156 none
  statics := none }

def pool4 : Array CpInfo := pool [(1, u "java/lang/Cloneable"), (0, .class_ 1), (0, u "java/lang/Object"), (0, .class_ 3)] 3

/-- java/lang/Cloneable -/
def k4 : Class := { plain "java/lang/Cloneable" (some 0) with
  accessFlags := 1537
  interfaces := #[]
  cf := some (fileOf pool4 2 #[] #[] 1537 4 #[] #[])
  fields := #[]
  methods := #[]
  instanceTypes := #[]
  staticTypes := #[]
  resolved := Array.replicate 8 none
  statics := none }

def pool5 : Array CpInfo := pool [(1, u "java/io/Serializable"), (0, .class_ 1), (0, u "java/lang/Object"), (0, .class_ 3)] 3

/-- java/io/Serializable -/
def k5 : Class := { plain "java/io/Serializable" (some 0) with
  accessFlags := 1537
  interfaces := #[]
  cf := some (fileOf pool5 2 #[] #[] 1537 4 #[] #[])
  fields := #[]
  methods := #[]
  instanceTypes := #[]
  staticTypes := #[]
  resolved := Array.replicate 8 none
  statics := none }

/-- the primitive byte -/
def k6 : Class := { plain "byte" none with kind := .primitive 'B', accessFlags := 0x411 }
/-- [B -/
def k7 : Class := { plain "[B" (some 0) with kind := .array 6 .byte, interfaces := #[4, 5], accessFlags := 1041 }

/-- the primitive int -/
def k8 : Class := { plain "int" none with kind := .primitive 'I', accessFlags := 0x411 }
/-- [I -/
def k9 : Class := { plain "[I" (some 0) with kind := .array 8 .int, interfaces := #[4, 5], accessFlags := 1041 }

def heap : Heap := #[]
def classes : Array Class := #[k0, k1, k2, k3, k4, k5, k6, k7, k8, k9]
def interned : List (Array UInt16 × Addr) := []
def slotsUsed : Nat := 0
def theMethod : MethodId := ⟨1, 1⟩
def args0 : Array Value := #[.long 5, .long 6, .long 7, .int 0]
def aboutOver (below : List Frame) : State where
  vm := { classes := classes, interned := interned.toArray }
  heap := heap
  slotsUsed := slotsUsed
  threads := #[{ frames := .invoking theMethod args0 :: below }]
def below0 : List Frame := [.native { method := ⟨0, 0⟩, args := #[] }]
def about1 : State := aboutOver below0
def p0 : Program := .bare "" "" ""
def e0 : Env := launch0.env 0 0 0
theorem w_frames : about1.frames = Frame.invoking theMethod args0 :: below0 := rfl
set_option maxRecDepth 65536 in
theorem w_args : argsFit about1.vm theMethod args0 = true := by decide +kernel
set_option maxRecDepth 65536 in
theorem w_heap : heapFits about1 = true := by decide +kernel
set_option maxRecDepth 65536 in
theorem w_runnable : about1.curStatus? = some .runnable := by decide +kernel
set_option maxRecDepth 65536 in
theorem w_alone : about1.alone = true := by decide +kernel
set_option maxRecDepth 65536 in
theorem w_named : about1.methodNamed? x = some theMethod := by decide +kernel
set_option maxRecDepth 65536 in
theorem w_hears : about1.hears theMethod below0 = true := by decide +kernel
set_option maxRecDepth 65536 in
theorem w_ripe : about1.ripe theMethod args0 below0 = true := by decide +kernel
theorem w_running : about1.status = .running := rfl
set_option maxRecDepth 65536 in
theorem w_room : about1.hasRoom e0.platform room_1 = true :=
  launch0.hasRoom_least _ room_1 (by decide +kernel) (by decide +kernel) (by decide +kernel) (by decide +kernel) (by decide +kernel) (by decide +kernel)
theorem allAtoms_all (ts : List Jvm.Cond) (a : Array Jvm.Value) (st : Jvm.State) : (allAtoms ts).before a st = ts.all (fun c => c.before a st) := by
  induction ts with
  | nil => rfl
  | cons c t ih =>
    show (Jvm.Cond.and c (allAtoms t)).before a st = _
    rw [Jvm.Cond.before_and, ih, List.all_cons]
def words1 : List Jvm.Cond := Jvm.Cond.code x code maxLocals ret :: tables_1
/-- a 'code' word, met by the world's own term for the bytes: nothing is compared byte by byte -/
theorem code_word {y : MethodName} {bytes : ByteArray} {mx : Nat} {rt : Option FieldType} {a : Array Value} {s : State} {m : MethodId} {meth : Method} {c : Code} (h1 : s.methodNamed? y = some m) (h2 : s.vm.method? m = some meth) (h3 : meth.code = some c) (h4 : c.code = bytes)
    (h5 : (c.maxLocals == mx && c.exceptionTable.isEmpty && decide (c.maxStack ≤ mostOperands) && decide (meth.sig.returnType = rt) && !meth.locks && decide (parseMethodDescriptor y.desc = some meth.sig)) = true) : (Jvm.Cond.code y bytes mx rt).before a s = true := by
  simp only [Bool.and_eq_true, beq_iff_eq, Bool.not_eq_true', decide_eq_true_eq] at h5
  obtain ⟨⟨⟨⟨⟨g1, g2⟩, g3⟩, g4⟩, g5⟩, g6⟩ := h5
  simp [Cond.before, Cond.holds, Cond.value, h1, h2, h3, h4, g1, g2, g3, g4, g5, g6]
def isCode : Jvm.Cond → Bool
  | .code _ _ _ _ => true
  | _ => false
theorem all_split {L : List Jvm.Cond} {P : Jvm.Cond → Bool} (h1 : L.all (fun c => isCode c || P c) = true) (h2 : ∀ c ∈ L.filter isCode, P c = true) : L.all P = true := by
  refine List.all_eq_true.mpr fun c hc => ?_
  have h := List.all_eq_true.mp h1 c hc
  rcases Bool.eq_false_or_eq_true (isCode c) with hi | hi
  · exact h2 c (List.mem_filter.mpr ⟨hc, hi⟩)
  · simpa [hi] using h
set_option maxRecDepth 65536 in
theorem w_c0 : (Jvm.Cond.code x code maxLocals ret).before args0 about1 = true := code_word (m := ⟨1, 1⟩) (meth := k1m1) (c := k1c1) (by decide +kernel) rfl rfl rfl (by decide +kernel)
set_option maxRecDepth 65536 in
theorem w_c1 : (Jvm.Cond.code ({ cls := "com/example/slotwright/slotwright/core/NodeBounds", name := "<init>", desc := "(IJJLcom/example/slotwright/slotwright/core/NodeClasses$OnFirstUse;)V" } : Jvm.MethodName) prog_96_method_1_code (7 : Nat) (Option.none : Option Jvm.ClassFile.FieldType)).before args0 about1 = true := code_word (m := ⟨3, 0⟩) (meth := k3m0) (c := k3c0) (by decide +kernel) rfl rfl rfl (by decide +kernel)
set_option maxRecDepth 65536 in
theorem w_c2 : (Jvm.Cond.code ({ cls := "java/lang/Record", name := "<init>", desc := "()V" } : Jvm.MethodName) jdk_30_method_1_code (1 : Nat) (Option.none : Option Jvm.ClassFile.FieldType)).before args0 about1 = true := code_word (m := ⟨2, 0⟩) (meth := k2m0) (c := k2c0) (by decide +kernel) rfl rfl rfl (by decide +kernel)
set_option maxRecDepth 65536 in
theorem w_c3 : (Jvm.Cond.code ({ cls := "java/lang/Object", name := "<init>", desc := "()V" } : Jvm.MethodName) object_method_1_code (1 : Nat) (Option.none : Option Jvm.ClassFile.FieldType)).before args0 about1 = true := code_word (m := ⟨0, 0⟩) (meth := k0m0) (c := k0c0) (by decide +kernel) rfl rfl rfl (by decide +kernel)
set_option maxRecDepth 65536 in
theorem w_c4 : (Jvm.Cond.code ({ cls := "com/example/slotwright/slotwright/core/NodeBounds", name := "shortestTask", desc := "(J)J" } : Jvm.MethodName) prog_96_method_3_code (3 : Nat) (Option.some Jvm.ClassFile.FieldType.long)).before args0 about1 = true := code_word (m := ⟨3, 1⟩) (meth := k3m1) (c := k3c1) (by decide +kernel) rfl rfl rfl (by decide +kernel)
def codes1 : List Jvm.Cond := [Jvm.Cond.code x code maxLocals ret, Jvm.Cond.code ({ cls := "com/example/slotwright/slotwright/core/NodeBounds", name := "<init>", desc := "(IJJLcom/example/slotwright/slotwright/core/NodeClasses$OnFirstUse;)V" } : Jvm.MethodName) prog_96_method_1_code (7 : Nat) (Option.none : Option Jvm.ClassFile.FieldType), Jvm.Cond.code ({ cls := "java/lang/Record", name := "<init>", desc := "()V" } : Jvm.MethodName) jdk_30_method_1_code (1 : Nat) (Option.none : Option Jvm.ClassFile.FieldType), Jvm.Cond.code ({ cls := "java/lang/Object", name := "<init>", desc := "()V" } : Jvm.MethodName) object_method_1_code (1 : Nat) (Option.none : Option Jvm.ClassFile.FieldType), Jvm.Cond.code ({ cls := "com/example/slotwright/slotwright/core/NodeBounds", name := "shortestTask", desc := "(J)J" } : Jvm.MethodName) prog_96_method_3_code (3 : Nat) (Option.some Jvm.ClassFile.FieldType.long)]
set_option maxRecDepth 65536 in
theorem codes_eq : words1.filter isCode = codes1 := rfl
theorem w_codes : ∀ c ∈ words1.filter isCode, c.before args0 about1 = true := by
  rw [codes_eq]
  intro c hc
  simp only [codes1, List.mem_cons, List.not_mem_nil, or_false] at hc
  rcases hc with rfl | rfl | rfl | rfl | rfl
  · exact w_c0
  · exact w_c1
  · exact w_c2
  · exact w_c3
  · exact w_c4
set_option maxRecDepth 65536 in
theorem w_t1 : (words1.take 24).all (fun c => isCode c || c.before args0 about1) = true := by decide +kernel
set_option maxRecDepth 65536 in
theorem w_t2 : (words1.drop 24).all (fun c => isCode c || c.before args0 about1) = true := by decide +kernel
theorem w_tables : (allAtoms (Jvm.Cond.code x code maxLocals ret :: tables_1)).before args0 about1 = true := by
  rw [allAtoms_all]
  show words1.all (fun c => c.before args0 about1) = true
  refine all_split ?_ w_codes
  rw [← List.take_append_drop 24 words1, List.all_append, w_t1, w_t2]
  rfl
set_option maxRecDepth 65536 in
theorem w_case : (Jvm.Cond.and given_1 narrow_1).before args0 about1 = true := by decide +kernel
theorem w_applies : (headSpec (Jvm.Cond.code x code maxLocals ret :: tables_1) room_1).applies x e0.platform about1 = true :=
  (Spec.applies_iff w_frames).mpr ⟨w_running, w_runnable, w_alone, w_named, w_hears, w_ripe, w_room, w_tables⟩
theorem atStart : AtStart classFile x code maxLocals ret World_1 tables_1 room_1 Calls_1 rest_1 Pre_1 launch0 p0 e0 about1 theMethod args0 below0 :=
  ⟨lists_1, trivial, launch0.admits_env _ _ _, launch0.least_env, fairChoices_fair.cas, fairChoices_fair.clock, w_frames, w_args, w_heap, w_applies, trivial, trivial, w_case⟩
end start1
theorem witness_1 : WitnessClaimed_1 := ⟨start1.p0, start1.e0, start1.about1, start1.theMethod, start1.args0, start1.below0, start1.atStart⟩
end Jvm.Pilot.@@N@@
