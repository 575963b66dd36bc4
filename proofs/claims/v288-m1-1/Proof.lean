import JvmDerived
import JvmDerived.Pilot.@@N@@Statement
import JvmDerived.Pilot.@@N@@Code
set_option linter.unusedVariables false
set_option linter.unusedSimpArgs false
namespace Jvm.Pilot.@@N@@
open Jvm Jvm.ClassFile Sem Op Lib Jvm.Free Jvm.Stand Jvm.LawKit Jvm.RoadKit Bundle Jvm.Pilot.@@N@@.Jvm.D

theorem own_w {Z : State} {a0 : Array Value} (hw : ∀ d ∈ tables_1, d.before a0 Z = true) (i : Nat) {d : Jvm.Cond} (h : tables_1[i]? = some d) : d.before a0 Z = true := hw d (List.mem_of_getElem? h)
def own_Fin (p : Program) (e : Env) (below : List Frame) (G : Outcome → State → Prop) (st : State) : Prop := ∃ t o, Steps p.tables e below st t ∧ t.status = .running ∧ Ended t below o ∧ G o t
section OwnKit
variable {p : Program} {l : Launch} {e : Env} {R : Room} {s : State} {m : MethodId} {args : Array Value} {below : List Frame} {meth : Method} {c : Code} {T : State} {locs : List Loc} {cells slots : Nat} {Z : State} {a0 : Array Value} {h h' : Heap} {G : Outcome → State → Prop} {st st' : State} {Qk : Option Value → Heap → List Loc → Prop} {K N : Nat} {a b : Addr} {ty : FieldType} {vs : List Value} {ws : List Addr} {sl : Nat} {v : Value}
theorem own_st (k : ∀ target, Steps p.tables e below st' target → Steps p.tables e below st target) (q : own_Fin p e below G st') : own_Fin p e below G st := by
  obtain ⟨t, o, h1, h2⟩ := q; exact ⟨t, o, k t h1, h2⟩
theorem own_tr (k : Steps p.tables e below st st') (q : own_Fin p e below G st') : own_Fin p e below G st := by
  obtain ⟨t, o, h1, h2⟩ := q; exact ⟨t, o, k.trans h1, h2⟩
theorem own_start (q : ∀ G : Outcome → State → Prop, (∀ v L t, Qk v t.heap L → FrameEnd s (.returned v) t L K N → G (.returned v) t) → own_Fin p e below G st) : ∃ s₂ o, Steps p.tables e below st s₂ ∧ s₂.status = .running ∧ Ended s₂ below o ∧ ∃ v L, o = .returned v ∧ Qk v s₂.heap L ∧ FrameEnd s o s₂ L K N :=
  q _ (fun v L t q f => ⟨v, L, rfl, q, f⟩)
theorem own_out (X : Stand p l e R s m args below meth c T locs cells slots) (hlocks : meth.locks = false) {v : Option Value} (hv : meth.sig.returnType = none → v = none) (hG : ∀ v L t, Qk v t.heap L → FrameEnd s (.returned v) t L K N → G (.returned v) t)
    (hstep : ∀ fs, (∀ (f : JFrame) (acts : List Action), f.method = m → f.locked = none → f.entered = [] → (doReturn e (T.setTop f) acts v).1 = T.setFrames fs) → Steps p.tables e below st (T.setFrames fs)) (hc : cells ≤ K) (hn : slots ≤ N) (hQ : Qk v T.heap locs) : own_Fin p e below G st := by
  obtain ⟨fs, hr, hrun, hended, hW, hsame⟩ := X.leave hv hlocks
  exact ⟨_, _, hstep fs hr, hrun, hended, hG _ _ _ hQ ⟨⟨_, rfl⟩, hW, hsame.mono hc hn⟩⟩
theorem own_ldc (X : Stand p l e R s m args below meth c T locs cells slots) (hx : p.tables.exec = Jvm.exec) (hZ : Z.Warmed39 s.vm) {own : String} {index : Nat} {v : Int32} (hown : s.vm.findClass own = some m.cls) (w : (Cond.constant own index v).before a0 Z = true) {g : JFrame} (hg : g.method = m) (hd : decode c.code g.pc = .ok (.ldc index, 2)) {target : State}
    (kk : Steps p.tables e below (T.setTop { g with pc := g.pc + 2, stack := .int v :: g.stack }) target) : Steps p.tables e below (T.setTop g) target := X.ldcInt hx hown (mvT hZ w) hg hd target kk
theorem own_ldcJ (X : Stand p l e R s m args below meth c T locs cells slots) (hx : p.tables.exec = Jvm.exec) (hZ : Z.Warmed39 s.vm) {own : String} {index : Nat} {v : Int64} (hown : s.vm.findClass own = some m.cls) (w : (Cond.constantLong own index v).before a0 Z = true) {g : JFrame} (hg : g.method = m) (hd : decode c.code g.pc = .ok (.ldc2_w index, 3)) {target : State}
    (kk : Steps p.tables e below (T.setTop { g with pc := g.pc + 3, stack := .long v :: g.stack }) target) : Steps p.tables e below (T.setTop g) target := X.ldc2Long hx hown (mvT hZ w) hg hd target kk
theorem own_ldcF (X : Stand p l e R s m args below meth c T locs cells slots) (hx : p.tables.exec = Jvm.exec) (hZ : Z.Warmed39 s.vm) {own : String} {index : Nat} {v : UInt32} (hown : s.vm.findClass own = some m.cls) (w : (Cond.constantFloat own index v).before a0 Z = true) {g : JFrame} (hg : g.method = m) (hd : decode c.code g.pc = .ok (.ldc index, 2)) {target : State}
    (kk : Steps p.tables e below (T.setTop { g with pc := g.pc + 2, stack := .float v :: g.stack }) target) : Steps p.tables e below (T.setTop g) target := X.ldcFloatC hx hown (mvT hZ w) hg hd target kk
def own_AV (Z : State) (h : Heap) (a : Addr) (ty : FieldType) (vs : List Value) : Prop := ∃ c : Cell, Arr Z h a c ty ∧ c.slots.toList = vs
def own_is (xs : List Int32) : List Value := xs.map Value.int
def own_js (xs : List Int64) : List Value := xs.map Value.long
theorem own_AV.lt (A : own_AV Z h a ty vs) : a < h.size := by obtain ⟨c, A, -⟩ := A; exact A.lt
theorem own_AV.ext (A : own_AV Z h a ty vs) (E : Ext h h') : own_AV Z h' a ty vs := by obtain ⟨c, A, r⟩ := A; exact ⟨c, A.ext E, r⟩
theorem own_AV.other (A : own_AV Z h b ty vs) (W : Wr h h' a sl v) (q : b ≠ a) : own_AV Z h' b ty vs := by obtain ⟨c, A, r⟩ := A; exact ⟨c, A.other W q, r⟩
theorem own_AV.keep (A : own_AV Z h a ty vs) (K : Keep h h' ws) (q : a ∉ ws) : own_AV Z h' a ty vs := by obtain ⟨c, A, r⟩ := A; exact ⟨c, ⟨K.2.1 a c A.1 q, A.2⟩, r⟩
theorem own_AV_new {k : ClassId} {z : Int32} (A : Arr Z h a (newA k ty z) ty) : own_AV Z h a ty (List.replicate z.toNatClampNeg (defaultValue ty)) := ⟨_, A, by simp [newA]⟩
theorem own_AV_newI {k : ClassId} {z : Int32} (A : Arr Z h a (newA k .int z) .int) : own_AV Z h a .int (own_is (List.replicate z.toNatClampNeg 0)) := ⟨_, A, by simp [newA, own_is, defaultValue]⟩
theorem own_AV_newJ {k : ClassId} {z : Int32} (A : Arr Z h a (newA k .long z) .long) : own_AV Z h a .long (own_js (List.replicate z.toNatClampNeg 0)) := ⟨_, A, by simp [newA, own_js, defaultValue]⟩
theorem own_in {c : Cell} {n : Nat} {j : Int32} (r : c.slots.toList = vs) (hn : vs.length = n) (hj : ¬ (j < 0 ∨ n ≤ j.toNatClampNeg)) : ¬ (j < 0 ∨ c.slots.size ≤ j.toNatClampNeg) := by
  rw [← Array.length_toList, r, hn]; exact hj
theorem own_nat {n : Nat} {j : Int32} (hj : ¬ (j < 0 ∨ n ≤ j.toNatClampNeg)) : j.toNatClampNeg < n := Nat.lt_of_not_le fun q => hj (Or.inr q)
theorem own_ldI (X : Stand p l e R s m args below meth c T locs cells slots) (hx : p.tables.exec = Jvm.exec) (hZ : Z.Warmed39 s.vm) (eT : T.heap = h) {xs : List Int32} (A : own_AV Z h a .int (own_is xs)) {j : Int32} {n : Nat} (hn : xs.length = n) (hj : ¬ (j < 0 ∨ n ≤ j.toNatClampNeg))
    {g : JFrame} (hg : g.method = m) {rest : List Value} (hs : g.stack = .int j :: .ref a :: rest) (hd : decode c.code g.pc = .ok (.iaload, 1)) {target : State} (kk : Steps p.tables e below (T.setTop { g with pc := g.pc + 1, stack := .int (xs.getD j.toNatClampNeg 0) :: rest }) target) : Steps p.tables e below (T.setTop g) target := by
  obtain ⟨cl, A, r⟩ := A
  have hlt := own_nat hj
  refine X.iaload hx (by rw [eT]; exact A.1) (State.isArrayOf_alike hZ.alike A.2.1) A.2.2 (own_in r (by simp [own_is, hn]) hj) ?_ hg hs hd _ kk
  rw [← Array.getElem?_toList, r]
  simp [own_is, List.getD_eq_getElem?_getD, List.getElem?_eq_getElem (hn ▸ hlt)]
theorem own_ldJ (X : Stand p l e R s m args below meth c T locs cells slots) (hx : p.tables.exec = Jvm.exec) (hZ : Z.Warmed39 s.vm) (eT : T.heap = h) {xs : List Int64} (A : own_AV Z h a .long (own_js xs)) {j : Int32} {n : Nat} (hn : xs.length = n) (hj : ¬ (j < 0 ∨ n ≤ j.toNatClampNeg))
    {g : JFrame} (hg : g.method = m) {rest : List Value} (hs : g.stack = .int j :: .ref a :: rest) (hd : decode c.code g.pc = .ok (.laload, 1)) {target : State} (kk : Steps p.tables e below (T.setTop { g with pc := g.pc + 1, stack := .long (xs.getD j.toNatClampNeg 0) :: rest }) target) : Steps p.tables e below (T.setTop g) target := by
  obtain ⟨cl, A, r⟩ := A
  have hlt := own_nat hj
  refine X.laload hx (by rw [eT]; exact A.1) (State.isArrayOf_alike hZ.alike A.2.1) A.2.2 (own_in r (by simp [own_js, hn]) hj) ?_ hg hs hd _ kk
  rw [← Array.getElem?_toList, r]
  simp [own_js, List.getD_eq_getElem?_getD, List.getElem?_eq_getElem (hn ▸ hlt)]
theorem own_set {cl : Cell} {j : Nat} (A : Arr Z h a cl ty) (r : cl.slots.toList = vs) (W : Wr h h' a j v) : own_AV Z h' a ty (vs.set j v) := ⟨_, A.same W, by simp [Cell.setSlot, ← r]⟩
theorem own_stI (X : Stand p l e R s m args below meth c T locs cells slots) (hx : p.tables.exec = Jvm.exec) (hZ : Z.Warmed39 s.vm) (eT : T.heap = h) {xs : List Int32} (A : own_AV Z h a .int (own_is xs)) {j x : Int32} {n : Nat} (hn : xs.length = n) (hj : ¬ (j < 0 ∨ n ≤ j.toNatClampNeg))
    {g : JFrame} (hg : g.method = m) {rest : List Value} (hs : g.stack = .int x :: .int j :: .ref a :: rest) (hd : decode c.code g.pc = .ok (.iastore, 1)) :
    ∃ T' h', Stand p l e R s m args below meth c T' (locs ++ [⟨a, j.toNatClampNeg⟩]) cells slots ∧ T'.heap = h' ∧ Wr h h' a j.toNatClampNeg (.int x) ∧ own_AV Z h' a .int (own_is (xs.set j.toNatClampNeg x)) ∧ ∀ target, Steps p.tables e below (T'.setTop { g with pc := g.pc + 1, stack := rest }) target → Steps p.tables e below (T.setTop g) target := by
  obtain ⟨cl, A, r⟩ := A
  obtain ⟨T', h', X', e', W, st⟩ := stI X hx hZ eT A (own_in r (by simp [own_is, hn]) hj) hg hs hd
  exact ⟨T', h', X', e', W, by have q := own_set A r W; simpa [own_is, List.map_set] using q, st⟩
theorem own_stJ (X : Stand p l e R s m args below meth c T locs cells slots) (hx : p.tables.exec = Jvm.exec) (hZ : Z.Warmed39 s.vm) (eT : T.heap = h) {xs : List Int64} (A : own_AV Z h a .long (own_js xs)) {j : Int32} {x : Int64} {n : Nat} (hn : xs.length = n) (hj : ¬ (j < 0 ∨ n ≤ j.toNatClampNeg))
    {g : JFrame} (hg : g.method = m) {rest : List Value} (hs : g.stack = .long x :: .int j :: .ref a :: rest) (hd : decode c.code g.pc = .ok (.lastore, 1)) :
    ∃ T' h', Stand p l e R s m args below meth c T' (locs ++ [⟨a, j.toNatClampNeg⟩]) cells slots ∧ T'.heap = h' ∧ Wr h h' a j.toNatClampNeg (.long x) ∧ own_AV Z h' a .long (own_js (xs.set j.toNatClampNeg x)) ∧ ∀ target, Steps p.tables e below (T'.setTop { g with pc := g.pc + 1, stack := rest }) target → Steps p.tables e below (T.setTop g) target := by
  obtain ⟨cl, A, r⟩ := A
  obtain ⟨T', h', X', e', W, st⟩ := stJ X hx hZ eT A (own_in r (by simp [own_js, hn]) hj) hg hs hd
  exact ⟨T', h', X', e', W, by have q := own_set A r W; simpa [own_js, List.map_set] using q, st⟩
theorem own_len (X : Stand p l e R s m args below meth c T locs cells slots) (hx : p.tables.exec = Jvm.exec) (hZ : Z.Warmed39 s.vm) (eT : T.heap = h) (A : own_AV Z h a ty vs) {z : Int32} (hz : vs.length.toInt32 = z)
    {g : JFrame} (hg : g.method = m) {rest : List Value} (hs : g.stack = .ref a :: rest) (hd : decode c.code g.pc = .ok (.arraylength, 1)) {target : State} (kk : Steps p.tables e below (T.setTop { g with pc := g.pc + 1, stack := .int z :: rest }) target) : Steps p.tables e below (T.setTop g) target := by
  obtain ⟨cl, A, r⟩ := A
  refine X.arraylength hx (by rw [eT]; exact A.1) (State.isArrayOf_alike hZ.alike A.2.1) hg hs hd target ?_
  rw [← Array.length_toList, r, hz]; exact kk
def own_ds (xs : List UInt64) : List Value := xs.map Value.double
theorem own_AV_newD {k : ClassId} {z : Int32} (A : Arr Z h a (newA k .double z) .double) : own_AV Z h a .double (own_ds (List.replicate z.toNatClampNeg 0)) := ⟨_, A, by simp [newA, own_ds, defaultValue]⟩
theorem own_stD (X : Stand p l e R s m args below meth c T locs cells slots) (hx : p.tables.exec = Jvm.exec) (hZ : Z.Warmed39 s.vm) (eT : T.heap = h) {xs : List UInt64} (A : own_AV Z h a .double (own_ds xs)) {j : Int32} {x : UInt64} {n : Nat} (hn : xs.length = n) (hj : ¬ (j < 0 ∨ n ≤ j.toNatClampNeg))
    {g : JFrame} (hg : g.method = m) {rest : List Value} (hs : g.stack = .double x :: .int j :: .ref a :: rest) (hd : decode c.code g.pc = .ok (.dastore, 1)) :
    ∃ T' h', Stand p l e R s m args below meth c T' (locs ++ [⟨a, j.toNatClampNeg⟩]) cells slots ∧ T'.heap = h' ∧ Wr h h' a j.toNatClampNeg (.double x) ∧ own_AV Z h' a .double (own_ds (xs.set j.toNatClampNeg x)) ∧ ∀ target, Steps p.tables e below (T'.setTop { g with pc := g.pc + 1, stack := rest }) target → Steps p.tables e below (T.setTop g) target := by
  obtain ⟨cl, A, r⟩ := A
  obtain ⟨T', h', X', e', W, st⟩ := stD X hx hZ eT A (own_in r (by simp [own_ds, hn]) hj) hg hs hd
  exact ⟨T', h', X', e', W, by have q := own_set A r W; simpa [own_ds, List.map_set] using q, st⟩
theorem own_ldD (X : Stand p l e R s m args below meth c T locs cells slots) (hx : p.tables.exec = Jvm.exec) (hZ : Z.Warmed39 s.vm) (eT : T.heap = h) {xs : List UInt64} (A : own_AV Z h a .double (own_ds xs)) {j : Int32} {n : Nat} (hn : xs.length = n) (hj : ¬ (j < 0 ∨ n ≤ j.toNatClampNeg))
    {g : JFrame} (hg : g.method = m) {rest : List Value} (hs : g.stack = .int j :: .ref a :: rest) (hd : decode c.code g.pc = .ok (.daload, 1)) {target : State} (kk : Steps p.tables e below (T.setTop { g with pc := g.pc + 1, stack := .double (xs.getD j.toNatClampNeg 0) :: rest }) target) : Steps p.tables e below (T.setTop g) target := by
  obtain ⟨cl, A, r⟩ := A
  have hlt := own_nat hj
  refine X.daload hx (by rw [eT]; exact A.1) (State.isArrayOf_alike hZ.alike A.2.1) A.2.2 (own_in r (by simp [own_ds, hn]) hj) ?_ hg hs hd _ kk
  rw [← Array.getElem?_toList, r]
  simp [own_ds, List.getD_eq_getElem?_getD, List.getElem?_eq_getElem (hn ▸ hlt)]
def own_AVk (Z : State) (h : Heap) (a : Addr) (k : ClassId) (ty : FieldType) (vs : List Value) : Prop := ∃ c : Cell, Arr Z h a c ty ∧ c.cls = k ∧ c.slots.toList = vs
variable {k : ClassId}
theorem own_AVk.lt (A : own_AVk Z h a k ty vs) : a < h.size := by obtain ⟨c, A, -⟩ := A; exact A.lt
theorem own_AVk.ext (A : own_AVk Z h a k ty vs) (E : Ext h h') : own_AVk Z h' a k ty vs := by obtain ⟨c, A, r⟩ := A; exact ⟨c, A.ext E, r⟩
theorem own_AVk.other (A : own_AVk Z h b k ty vs) (W : Wr h h' a sl v) (q : b ≠ a) : own_AVk Z h' b k ty vs := by obtain ⟨c, A, r⟩ := A; exact ⟨c, A.other W q, r⟩
theorem own_AVk.keep (A : own_AVk Z h a k ty vs) (K : Keep h h' ws) (q : a ∉ ws) : own_AVk Z h' a k ty vs := by obtain ⟨c, A, r⟩ := A; exact ⟨c, ⟨K.2.1 a c A.1 q, A.2⟩, r⟩
theorem own_AVk.av (A : own_AVk Z h a k ty vs) : own_AV Z h a ty vs := by obtain ⟨c, A, -, r⟩ := A; exact ⟨c, A, r⟩
theorem own_AVk_new {z : Int32} (A : Arr Z h a (newA k ty z) ty) : own_AVk Z h a k ty (List.replicate z.toNatClampNeg (defaultValue ty)) := ⟨_, A, rfl, by simp [newA]⟩
theorem own_stR (X : Stand p l e R s m args below meth c T locs cells slots) (hx : p.tables.exec = Jvm.exec) (hZ : Z.Warmed39 s.vm) (eT : T.heap = h) (A : own_AVk Z h a k ty vs) {j : Int32} {n : Nat} (hn : vs.length = n) (hj : ¬ (j < 0 ∨ n ≤ j.toNatClampNeg)) (hty : ty.isReference = true)
    (F : ∀ {c : Cell}, Arr Z h a c ty → c.cls = k → Sto Z h a v) {g : JFrame} (hg : g.method = m) {rest : List Value} (hs : g.stack = v :: .int j :: .ref a :: rest) (hd : decode c.code g.pc = .ok (.aastore, 1)) :
    ∃ T' h', Stand p l e R s m args below meth c T' (locs ++ [⟨a, j.toNatClampNeg⟩]) cells slots ∧ T'.heap = h' ∧ Wr h h' a j.toNatClampNeg v ∧ own_AVk Z h' a k ty (vs.set j.toNatClampNeg v) ∧ ∀ target, Steps p.tables e below (T'.setTop { g with pc := g.pc + 1, stack := rest }) target → Steps p.tables e below (T.setTop g) target := by
  obtain ⟨cl, A, q, r⟩ := A
  obtain ⟨T', h', X', e', W, st⟩ := stR X hx hZ eT A (own_in r hn hj) hty (F A q) hg hs hd
  exact ⟨T', h', X', e', W, ⟨_, A.same W, q, by simp [Cell.setSlot, ← r]⟩, st⟩
theorem own_ldR (X : Stand p l e R s m args below meth c T locs cells slots) (hx : p.tables.exec = Jvm.exec) (hZ : Z.Warmed39 s.vm) (eT : T.heap = h) (A : own_AVk Z h a k ty vs) {j : Int32} {n : Nat} (hn : vs.length = n) (hj : ¬ (j < 0 ∨ n ≤ j.toNatClampNeg)) (hty : ty.isReference = true) (hv : vs[j.toNatClampNeg]? = some v)
    {g : JFrame} (hg : g.method = m) {rest : List Value} (hs : g.stack = .int j :: .ref a :: rest) (hd : decode c.code g.pc = .ok (.aaload, 1)) {target : State} (kk : Steps p.tables e below (T.setTop { g with pc := g.pc + 1, stack := v :: rest }) target) : Steps p.tables e below (T.setTop g) target := by
  obtain ⟨cl, A, -, r⟩ := A
  exact X.aaload hx (by rw [eT]; exact A.1) (State.isArrayOf_alike hZ.alike A.2.1) hty A.2.2 (own_in r hn hj) (by rw [← Array.getElem?_toList, r]; exact hv) hg hs hd _ kk
theorem own_ldB (X : Stand p l e R s m args below meth c T locs cells slots) (hx : p.tables.exec = Jvm.exec) (hZ : Z.Warmed39 s.vm) (eT : T.heap = h) {xs : List Int32} (A : own_AV Z h a .byte (own_is xs)) {j : Int32} {n : Nat} (hn : xs.length = n) (hj : ¬ (j < 0 ∨ n ≤ j.toNatClampNeg))
    {g : JFrame} (hg : g.method = m) {rest : List Value} (hs : g.stack = .int j :: .ref a :: rest) (hd : decode c.code g.pc = .ok (.baload, 1)) {target : State} (kk : Steps p.tables e below (T.setTop { g with pc := g.pc + 1, stack := .int (xs.getD j.toNatClampNeg 0) :: rest }) target) : Steps p.tables e below (T.setTop g) target := by
  obtain ⟨cl, A, r⟩ := A
  have hlt := own_nat hj
  refine X.baloadBytes hx (by rw [eT]; exact A.1) (State.isArrayOf_alike hZ.alike A.2.1) A.2.2 (own_in r (by simp [own_is, hn]) hj) ?_ hg hs hd _ kk
  rw [← Array.getElem?_toList, r]
  simp [own_is, List.getD_eq_getElem?_getD, List.getElem?_eq_getElem (hn ▸ hlt)]
theorem own_eqI {args : Array Value} {s : State} {t : Term} {n : Int32} (q : (Jvm.Cond.eq t (Term.int n)).value args s none s [] = some true) : t.eval args s none [] s = some (.int n) := by
  obtain ⟨x, y, h1, h2, h3, h4⟩ := cmp_v (Or.inl q)
  cases h2.symm.trans (Term.int_eval n)
  obtain ⟨z, rfl⟩ := h4
  simp only [Cond.value, h1, h2] at q
  simpa [h1] using q
theorem own_AV.cell (A : own_AV Z h a ty vs) : ∃ c : Cell, h[a]? = some c ∧ ∀ q, c.vm ≠ .statics q := by obtain ⟨c, A, -⟩ := A; exact ⟨c, A.1, A.2.1.1⟩
theorem own_AVk.cell (A : own_AVk Z h a k ty vs) : ∃ c : Cell, h[a]? = some c ∧ ∀ q, c.vm ≠ .statics q := A.av.cell
theorem own_Sta_keep {C n d : String} {v : Value} (F : Sta Z h C n d v) (K : Keep h h' ws) (q : ∀ x ∈ ws, ∃ c : Cell, h[x]? = some c ∧ ∀ q, c.vm ≠ .statics q) : Sta Z h' C n d v := by
  obtain ⟨cf, i, k, f, st, cell, h1, h2, h3, h4, h5, h6, h7⟩ := F
  refine ⟨cf, i, k, f, st, cell, h1, h2, h3, h4, K.2.1 st cell h5 fun m => ?_, h6, h7⟩
  obtain ⟨c', g1, g2⟩ := q st m
  cases h5.symm.trans g1
  cases hv : cell.vm <;> first | exact g2 _ hv | (rw [hv] at h6; cases h6)
end OwnKit
abbrev own_y0 : MethodName := ⟨"com/example/paired_paths/pairedpaths/gsos/ChoicesNextPinLaw", "value", "(I[I[I)I"⟩
abbrev own_y1 : MethodName := ⟨"com/example/paired_paths/pairedpaths/gsos/ChoicesNextPinLaw", "total", "(I[I)I"⟩
abbrev own_y2 : MethodName := ⟨"com/example/paired_paths/pairedpaths/gsos/ChoicesNextPinLaw", "inRange", "(II)Z"⟩
abbrev own_y3 : MethodName := ⟨"com/example/paired_paths/pairedpaths/gsos/Choices", "next", "([I[I)Z"⟩

def own_R (lo hi : Int) (x : Int32) : Prop := lo ≤ x.toInt ∧ x.toInt ≤ hi
theorem own_a3 (x : Int32) : own_R 0 3 (x &&& 3) := by
  have e := c_and x 3 (by decide)
  have a : (3 : Int32).toInt = 3 := rfl
  unfold own_R; omega
theorem own_c4 {v : Int32} (h : own_R 0 3 v) : v = 0 ∨ v = 1 ∨ v = 2 ∨ v = 3 := by
  unfold own_R at h
  simp only [← Int32.toInt_inj]
  have a0 : (0 : Int32).toInt = 0 := rfl
  have a1 : (1 : Int32).toInt = 1 := rfl
  have a2 : (2 : Int32).toInt = 2 := rfl
  have a3 : (3 : Int32).toInt = 3 := rfl
  omega
theorem own_n (x : Int32) : own_R 1 8 ((x &&& 7) + 1) := by
  have e := c_and x 7 (by decide)
  have a : (7 : Int32).toInt = 7 := rfl
  have b : (1 : Int32).toInt = 1 := rfl
  have e2 := c_iadd (x &&& 7) 1
  have r := rng32 ((x &&& 7) + 1)
  unfold own_R; omega
theorem own_nz {n : Int32} (h : own_R 1 8 n) : n ≠ 0 := by
  intro q; subst q; have a : (0 : Int32).toInt = 0 := rfl; unfold own_R at h; omega
theorem own_c (x : Int32) {n : Int32} (h : own_R 1 8 n) : 0 ≤ ((x &&& 255) % n).toInt ∧ ((x &&& 255) % n).toInt < n.toInt := by
  have e := c_and x 255 (by decide)
  unfold own_R at h
  have q := (c_iremV (x &&& 255) n).1 e.1 (by omega)
  exact ⟨q.1, q.2.1⟩
theorem own_lt {x y : Int32} : x < y ↔ x.toInt < y.toInt := Int32.lt_iff_toInt_lt
theorem own_z : (0 : Int32).toInt = 0 := rfl
theorem own_o : (1 : Int32).toInt = 1 := rfl
theorem own_ge {x : Int32} (h : 0 ≤ x.toInt) : ¬ x < (0 : Int32) := by rw [own_lt, own_z]; omega
theorem own_1 {c n : Int32} (hc : 0 ≤ c.toInt ∧ c.toInt < n.toInt) (hn : own_R 1 8 n) : (c + 1).toInt = c.toInt + 1 := by
  have e := c_iadd c 1
  have r := rng32 (c + 1)
  rw [own_o] at e
  unfold own_R at hn; omega
theorem own_18 {n : Int32} (h : own_R 1 8 n) : n.toInt = 1 ∨ n.toInt = 2 ∨ n.toInt = 3 ∨ n.toInt = 4 ∨ n.toInt = 5 ∨ n.toInt = 6 ∨ n.toInt = 7 ∨ n.toInt = 8 := by unfold own_R at h; omega
set_option maxHeartbeats 8000000 in
theorem own_two {c0 c1 n0 n1 : Int32} (h0 : -1 ≤ c0.toInt ∧ c0.toInt ≤ 8) (h1 : 0 ≤ c1.toInt ∧ c1.toInt ≤ 8) (m0 : own_R 1 8 n0) (m1 : own_R 1 8 n1) :
    (c0 * n1 + c1).toInt = c0.toInt * n1.toInt + c1.toInt ∧ (c0 * n1 + c1 + 1).toInt = c0.toInt * n1.toInt + c1.toInt + 1 ∧ (n0 * n1).toInt = n0.toInt * n1.toInt := by
  have e1 := c_imul c0 n1
  have e2 := c_iadd (c0 * n1) c1
  have e3 := c_iadd (c0 * n1 + c1) 1
  have e4 := c_imul n0 n1
  have r1 := rng32 (c0 * n1)
  have r2 := rng32 (c0 * n1 + c1)
  have r3 := rng32 (c0 * n1 + c1 + 1)
  have r4 := rng32 (n0 * n1)
  rw [own_o] at e3
  unfold own_R at m0
  rcases own_18 m1 with q | q | q | q | q | q | q | q <;> rw [q] at e1 e4 ⊢ <;> refine ⟨?_, ?_, ?_⟩ <;> omega
theorem own_mul {a n : Int32} (B : Int) (h1 : -B ≤ a.toInt) (h2 : a.toInt ≤ B) (hB : B ≤ 4096) (hn : own_R 1 8 n) : (a * n).toInt = a.toInt * n.toInt ∧ -(8 * B) ≤ a.toInt * n.toInt ∧ a.toInt * n.toInt ≤ 8 * B := by
  have e := c_imul a n
  have r := rng32 (a * n)
  rcases own_18 hn with q | q | q | q | q | q | q | q <;> rw [q] at e ⊢ <;> refine ⟨?_, ?_, ?_⟩ <;> omega
theorem own_three {c0 c1 c2 n0 n1 n2 : Int32} (h0 : -1 ≤ c0.toInt ∧ c0.toInt ≤ 8) (h1 : 0 ≤ c1.toInt ∧ c1.toInt ≤ 8) (h2 : 0 ≤ c2.toInt ∧ c2.toInt ≤ 8) (m0 : own_R 1 8 n0) (m1 : own_R 1 8 n1) (m2 : own_R 1 8 n2) :
    (c0 * n1 * n2 + c1 * n2 + c2).toInt = c0.toInt * n1.toInt * n2.toInt + c1.toInt * n2.toInt + c2.toInt ∧ (c0 * n1 * n2 + c1 * n2 + c2 + 1).toInt = c0.toInt * n1.toInt * n2.toInt + c1.toInt * n2.toInt + c2.toInt + 1 ∧ (n0 * n1 * n2).toInt = n0.toInt * n1.toInt * n2.toInt := by
  have u0 := m0
  unfold own_R at u0
  have a1 := own_mul (a := c0) 8 (by omega) (by omega) (by omega) m1
  have a2 := own_mul (a := c0 * n1) 64 (by omega) (by omega) (by omega) m2
  have a3 := own_mul (a := c1) 8 (by omega) (by omega) (by omega) m2
  have a4 := own_mul (a := n0) 8 (by omega) (by omega) (by omega) m1
  have a5 := own_mul (a := n0 * n1) 64 (by omega) (by omega) (by omega) m2
  rw [a1.1] at a2
  rw [a4.1] at a5
  have e4 := c_iadd (c0 * n1 * n2) (c1 * n2)
  have e5 := c_iadd (c0 * n1 * n2 + c1 * n2) c2
  have e6 := c_iadd (c0 * n1 * n2 + c1 * n2 + c2) 1
  have r4 := rng32 (c0 * n1 * n2 + c1 * n2)
  have r5 := rng32 (c0 * n1 * n2 + c1 * n2 + c2)
  have r6 := rng32 (c0 * n1 * n2 + c1 * n2 + c2 + 1)
  rw [own_o] at e6
  rw [a2.1, a3.1] at e4
  refine ⟨?_, ?_, a5.1⟩
  · generalize c0.toInt * n1.toInt * n2.toInt = x at *
    generalize c1.toInt * n2.toInt = y at *
    omega
  · generalize c0.toInt * n1.toInt * n2.toInt = x at *
    generalize c1.toInt * n2.toInt = y at *
    omega
section OwnWays
variable {c0 c1 c2 n0 n1 n2 : Int32}
set_option maxHeartbeats 8000000 in
theorem own_w2a (h0 : 0 ≤ c0.toInt ∧ c0.toInt < n0.toInt) (h1 : 0 ≤ c1.toInt ∧ c1.toInt < n1.toInt) (m0 : own_R 1 8 n0) (m1 : own_R 1 8 n1) (q : (c1 + 1) < n1) : (c0 * n1 + c1 + 1) < n0 * n1 ∧ (c0 * n1 + (c1 + 1)) = c0 * n1 + c1 + 1 := by
  have k := own_1 h1 m1
  have u0 := m0; have u1 := m1
  unfold own_R at u0 u1
  have a := own_two (c0 := c0) (c1 := c1) (n0 := n0) (by omega) (by omega) m0 m1
  have b := own_two (c0 := c0) (c1 := c1 + 1) (n0 := n0) (by omega) (by omega) m0 m1
  rw [own_lt, k] at q
  refine ⟨?_, Int32.toInt_inj.mp ?_⟩
  · rw [own_lt, a.2.1, a.2.2]
    rcases own_18 m1 with t | t | t | t | t | t | t | t <;> rw [t] at q h1 ⊢ <;> omega
  · rw [b.1, a.2.1, k]; omega
set_option maxHeartbeats 8000000 in
theorem own_w2b (h0 : 0 ≤ c0.toInt ∧ c0.toInt < n0.toInt) (h1 : 0 ≤ c1.toInt ∧ c1.toInt < n1.toInt) (m0 : own_R 1 8 n0) (m1 : own_R 1 8 n1) (q1 : ¬ (c1 + 1) < n1) (q : (c0 + 1) < n0) : (c0 * n1 + c1 + 1) < n0 * n1 ∧ ((c0 + 1) * n1 + 0) = c0 * n1 + c1 + 1 := by
  have k := own_1 h1 m1
  have k0 := own_1 h0 m0
  have u0 := m0; have u1 := m1
  unfold own_R at u0 u1
  have a := own_two (c0 := c0) (c1 := c1) (n0 := n0) (by omega) (by omega) m0 m1
  have b := own_two (c0 := c0 + 1) (c1 := 0) (n0 := n0) (by omega) (by decide) m0 m1
  rw [own_lt, k] at q1
  rw [own_lt, k0] at q
  refine ⟨?_, Int32.toInt_inj.mp ?_⟩
  · rw [own_lt, a.2.1, a.2.2]
    rcases own_18 m1 with t | t | t | t | t | t | t | t <;> rw [t] at q1 h1 ⊢ <;> omega
  · rw [b.1, a.2.1, k0, own_z]
    rcases own_18 m1 with t | t | t | t | t | t | t | t <;> rw [t] at q1 h1 ⊢ <;> omega
set_option maxHeartbeats 8000000 in
theorem own_w2c (h0 : 0 ≤ c0.toInt ∧ c0.toInt < n0.toInt) (h1 : 0 ≤ c1.toInt ∧ c1.toInt < n1.toInt) (m0 : own_R 1 8 n0) (m1 : own_R 1 8 n1) (q1 : ¬ (c1 + 1) < n1) (q : ¬ (c0 + 1) < n0) : ¬ (c0 * n1 + c1 + 1) < n0 * n1 := by
  have k := own_1 h1 m1
  have k0 := own_1 h0 m0
  have u0 := m0; have u1 := m1
  unfold own_R at u0 u1
  have a := own_two (c0 := c0) (c1 := c1) (n0 := n0) (by omega) (by omega) m0 m1
  rw [own_lt, k] at q1
  rw [own_lt, k0] at q
  rw [own_lt, a.2.1, a.2.2]
  rcases own_18 m1 with t | t | t | t | t | t | t | t <;> rw [t] at q1 h1 ⊢ <;> omega
set_option maxHeartbeats 8000000 in
theorem own_w3a (h0 : 0 ≤ c0.toInt ∧ c0.toInt < n0.toInt) (h1 : 0 ≤ c1.toInt ∧ c1.toInt < n1.toInt) (h2 : 0 ≤ c2.toInt ∧ c2.toInt < n2.toInt) (m0 : own_R 1 8 n0) (m1 : own_R 1 8 n1) (m2 : own_R 1 8 n2) (q : (c2 + 1) < n2) : (c0 * n1 * n2 + c1 * n2 + c2 + 1) < n0 * n1 * n2 ∧ (c0 * n1 * n2 + c1 * n2 + (c2 + 1)) = c0 * n1 * n2 + c1 * n2 + c2 + 1 := by
  have k := own_1 h2 m2
  have u0 := m0; have u1 := m1; have u2 := m2
  unfold own_R at u0 u1 u2
  have a := own_three (c0 := c0) (c1 := c1) (c2 := c2) (n0 := n0) (by omega) (by omega) (by omega) m0 m1 m2
  have b := own_three (c0 := c0) (c1 := c1) (c2 := c2 + 1) (n0 := n0) (by omega) (by omega) (by omega) m0 m1 m2
  rw [own_lt, k] at q
  refine ⟨?_, Int32.toInt_inj.mp ?_⟩
  · rw [own_lt, a.2.1, a.2.2]
    rcases own_18 m1 with s | s | s | s | s | s | s | s <;> rcases own_18 m2 with t | t | t | t | t | t | t | t <;> rw [s, t] <;> rw [t] at q h2 <;> rw [s] at h1 <;> omega
  · rw [b.1, a.2.1, k]; omega
set_option maxHeartbeats 8000000 in
theorem own_w3b (h0 : 0 ≤ c0.toInt ∧ c0.toInt < n0.toInt) (h1 : 0 ≤ c1.toInt ∧ c1.toInt < n1.toInt) (h2 : 0 ≤ c2.toInt ∧ c2.toInt < n2.toInt) (m0 : own_R 1 8 n0) (m1 : own_R 1 8 n1) (m2 : own_R 1 8 n2) (q2 : ¬ (c2 + 1) < n2) (q : (c1 + 1) < n1) : (c0 * n1 * n2 + c1 * n2 + c2 + 1) < n0 * n1 * n2 ∧ (c0 * n1 * n2 + (c1 + 1) * n2 + 0) = c0 * n1 * n2 + c1 * n2 + c2 + 1 := by
  have k := own_1 h2 m2
  have k1 := own_1 h1 m1
  have u0 := m0; have u1 := m1; have u2 := m2
  unfold own_R at u0 u1 u2
  have a := own_three (c0 := c0) (c1 := c1) (c2 := c2) (n0 := n0) (by omega) (by omega) (by omega) m0 m1 m2
  have b := own_three (c0 := c0) (c1 := c1 + 1) (c2 := 0) (n0 := n0) (by omega) (by omega) (by decide) m0 m1 m2
  rw [own_lt, k] at q2
  rw [own_lt, k1] at q
  refine ⟨?_, Int32.toInt_inj.mp ?_⟩
  · rw [own_lt, a.2.1, a.2.2]
    rcases own_18 m1 with s | s | s | s | s | s | s | s <;> rcases own_18 m2 with t | t | t | t | t | t | t | t <;> rw [s, t] <;> rw [t] at q2 h2 <;> rw [s] at q h1 <;> omega
  · rw [b.1, a.2.1, k1, own_z]
    rcases own_18 m1 with s | s | s | s | s | s | s | s <;> rcases own_18 m2 with t | t | t | t | t | t | t | t <;> rw [s, t] <;> rw [t] at q2 h2 <;> omega
set_option maxHeartbeats 8000000 in
theorem own_w3c (h0 : 0 ≤ c0.toInt ∧ c0.toInt < n0.toInt) (h1 : 0 ≤ c1.toInt ∧ c1.toInt < n1.toInt) (h2 : 0 ≤ c2.toInt ∧ c2.toInt < n2.toInt) (m0 : own_R 1 8 n0) (m1 : own_R 1 8 n1) (m2 : own_R 1 8 n2) (q2 : ¬ (c2 + 1) < n2) (q1 : ¬ (c1 + 1) < n1) (q : (c0 + 1) < n0) : (c0 * n1 * n2 + c1 * n2 + c2 + 1) < n0 * n1 * n2 ∧ ((c0 + 1) * n1 * n2 + 0 * n2 + 0) = c0 * n1 * n2 + c1 * n2 + c2 + 1 := by
  have k := own_1 h2 m2
  have k1 := own_1 h1 m1
  have k0 := own_1 h0 m0
  have u0 := m0; have u1 := m1; have u2 := m2
  unfold own_R at u0 u1 u2
  have a := own_three (c0 := c0) (c1 := c1) (c2 := c2) (n0 := n0) (by omega) (by omega) (by omega) m0 m1 m2
  have b := own_three (c0 := c0 + 1) (c1 := 0) (c2 := 0) (n0 := n0) (by omega) (by decide) (by decide) m0 m1 m2
  rw [own_lt, k] at q2
  rw [own_lt, k1] at q1
  rw [own_lt, k0] at q
  refine ⟨?_, Int32.toInt_inj.mp ?_⟩
  · rw [own_lt, a.2.1, a.2.2]
    rcases own_18 m1 with s | s | s | s | s | s | s | s <;> rcases own_18 m2 with t | t | t | t | t | t | t | t <;> rw [s, t] <;> rw [t] at q2 h2 <;> rw [s] at q1 h1 <;> omega
  · rw [b.1, a.2.1, k0, own_z]
    rcases own_18 m1 with s | s | s | s | s | s | s | s <;> rcases own_18 m2 with t | t | t | t | t | t | t | t <;> rw [s, t] <;> rw [t] at q2 h2 <;> rw [s] at q1 h1 <;> omega
set_option maxHeartbeats 8000000 in
theorem own_w3d (h0 : 0 ≤ c0.toInt ∧ c0.toInt < n0.toInt) (h1 : 0 ≤ c1.toInt ∧ c1.toInt < n1.toInt) (h2 : 0 ≤ c2.toInt ∧ c2.toInt < n2.toInt) (m0 : own_R 1 8 n0) (m1 : own_R 1 8 n1) (m2 : own_R 1 8 n2) (q2 : ¬ (c2 + 1) < n2) (q1 : ¬ (c1 + 1) < n1) (q : ¬ (c0 + 1) < n0) : ¬ (c0 * n1 * n2 + c1 * n2 + c2 + 1) < n0 * n1 * n2 := by
  have k := own_1 h2 m2
  have k1 := own_1 h1 m1
  have k0 := own_1 h0 m0
  have u0 := m0; have u1 := m1; have u2 := m2
  unfold own_R at u0 u1 u2
  have a := own_three (c0 := c0) (c1 := c1) (c2 := c2) (n0 := n0) (by omega) (by omega) (by omega) m0 m1 m2
  rw [own_lt, k] at q2
  rw [own_lt, k1] at q1
  rw [own_lt, k0] at q
  rw [own_lt, a.2.1, a.2.2]
  rcases own_18 m1 with s | s | s | s | s | s | s | s <;> rcases own_18 m2 with t | t | t | t | t | t | t | t <;> rw [s, t] <;> rw [t] at q2 h2 <;> rw [s] at q1 h1 <;> omega
end OwnWays
theorem own_pos {n : Int32} (h : own_R 1 8 n) : (0 : Int32) < n := by rw [own_lt, own_z]; unfold own_R at h; omega
theorem own_lt_of {c n : Int32} (h : 0 ≤ c.toInt ∧ c.toInt < n.toInt) : c < n := own_lt.mpr h.2
theorem own_g1 {c n : Int32} (h : 0 ≤ c.toInt ∧ c.toInt < n.toInt) (hn : own_R 1 8 n) : ¬ (c + 1) < (0 : Int32) := own_ge (by rw [own_1 h hn]; omega)
theorem d1_0 : decode method_2_code 0 = .ok (.iload_n 0, 1) := by decide +kernel
theorem d1_1 : decode method_2_code 1 = .ok (.ifCond .ne 5, 3) := by decide +kernel
theorem d1_4 : decode method_2_code 4 = .ok (.iconst 0, 1) := by decide +kernel
theorem d1_5 : decode method_2_code 5 = .ok (.ireturn, 1) := by decide +kernel
theorem pn_com_example_paired_paths_pairedpaths_gsos_ChoicesNextPinLaw : plainName "com/example/paired_paths/pairedpaths/gsos/ChoicesNextPinLaw" = true := by first | (simp [plainName, overriddenIn]; done) | decide +kernel
theorem ef_1_IRR (m : MethodId) (x0 : Int32) (x1 : Addr) (x2 : Addr) : entryFrame m #[(.int x0), (.ref x1), (.ref x2)] 3 = mkF m 0 #[iv x0, rv x1, rv x2] [] := by first | (simp [entryFrame, mkF, argsToLocals, Value.category]; done) | rfl
def Qrm_v0 (Z : State) (a1 : Addr) (a2 : Addr) (c0 : Int32) (c1 : Int32) (c2 : Int32) (m0 : Int32) (m1 : Int32) (m2 : Int32) (h0 : Heap) (n0 : Nat) (v : Option Value) (h : Heap) (L : List Loc) : Prop := v = some (.int (0 : Int32)) ∧ Fr n0 L ∧ h = h0
set_option maxRecDepth 65536 in
set_option maxHeartbeats 40000000 in
theorem rm_v0 (l : Launch) (Z : State) (a0 : Array Value) (hw : ∀ d ∈ tables_1, d.before a0 Z = true) (ws : List Jvm.Cond) (a1 : Addr) (a2 : Addr) (c0 : Int32) (c1 : Int32) (c2 : Int32) (m0 : Int32) (m1 : Int32) (m2 : Int32) (h0 : Heap) (n0 : Nat) (Z0 : n0 ≤ h0.size) (A1 : own_AV Z h0 a1 .int (own_is [c0, c1, c2])) (A2 : own_AV Z h0 a2 .int (own_is [m0, m1, m2])) :
    MetFree l own_y0 (head1 (Jvm.Cond.code own_y0 method_2_code 3 (some .int) :: ws) ({ frames := 0, cells := 0, slots := 0, locals := 0 } : Room)) (fun a U => a = #[(.int (0 : Int32)), (.ref a1), (.ref a2)] ∧ Z.Warmed39 U.vm ∧ U.heap = h0) (fun _ _ _ _ _ => True) (fun _ U o U' => ∃ v L, o = .returned v ∧ Qrm_v0 Z a1 a2 c0 c1 c2 m0 m1 m2 h0 n0 v U'.heap L ∧ FrameEnd U o U' L ({ frames := 0, cells := 0, slots := 0, locals := 0 } : Room).cells ({ frames := 0, cells := 0, slots := 0, locals := 0 } : Room).slots) := by
  refine MetFree.of_bodySF (plainFor_of_name pn_com_example_paired_paths_pairedpaths_gsos_ChoicesNextPinLaw) hisR ?_
  intro p e s m args below meth c s₁ Bd hml0 hP hK
  obtain ⟨rfl, hZ, hh⟩ := hP
  have hx := Bd.exec
  have hby := Bd.bytes
  have hml : c.maxLocals = 3 := hml0
  have hown : s.vm.findClass "com/example/paired_paths/pairedpaths/gsos/ChoicesNextPinLaw" = some m.cls := findClass_of_methodNamed Bd.named
  have hnm := (name_of_methodNamed Bd.named Bd.method).1
  have X0 : Stand p l e ({ frames := 0, cells := 0, slots := 0, locals := 0 } : Room) s m #[(.int (0 : Int32)), (.ref a1), (.ref a2)] below meth c s₁ [] 0 0 := Stand.of_body Bd
  have e0 : s₁.heap = h0 := by rw [← hh, Bd.state]; rfl
  have N0 := Fr.nil n0
  have K0 : Keep h0 h0 [] := Keep.refl _ _
  clear K0
  refine own_start (Qk := Qrm_v0 Z a1 a2 c0 c1 c2 m0 m1 m2 h0 n0) (fun G hG => ?_)
  refine own_st (fun _ k => castTop (ef_1_IRR m (0 : Int32) a1 a2) k) ?_
  show own_Fin p e below G (s₁.setTop (mkF m 0 #[iv (0 : Int32), rv a1, rv a2] []))
  refine own_st (fun _ k => XS.iloadN X0.here hx rfl (hb hby d1_0) rfl  k) ?_
  show own_Fin p e below G (s₁.setTop (mkF m 1 #[iv (0 : Int32), rv a1, rv a2] [(.int (0 : Int32))]))
  refine own_st (fun _ k => XS.ifNo X0.here hx rfl (hb hby d1_1) rfl ((if0 _ _).trans (teq (by decide : ((0 : Int32) = (0 : Int32)))).2) k) ?_
  show own_Fin p e below G (s₁.setTop (mkF m 4 #[iv (0 : Int32), rv a1, rv a2] []))
  refine own_st (fun _ k => XS.iconst X0.here hx rfl (hb hby d1_4) k) ?_
  show own_Fin p e below G (s₁.setTop (mkF m 5 #[iv (0 : Int32), rv a1, rv a2] [(.int (0 : Int32))]))
  refine own_out X0 Bd.notSynchronized (v := (some (.int (0 : Int32)))) (fun h => by rw [Bd.returns] at h; cases h) hG (fun fs hr => retOut X0 hx Bd.returns rfl (Or.inl ⟨rfl, Or.inl rfl, _, rfl⟩) (hb hby d1_5) hr) (by decide) (by decide) ?_
  exact ⟨rfl, N0, e0⟩

theorem d1_6 : decode method_2_code 6 = .ok (.iload_n 0, 1) := by decide +kernel
theorem d1_7 : decode method_2_code 7 = .ok (.iconst 1, 1) := by decide +kernel
theorem d1_8 : decode method_2_code 8 = .ok (.if_icmp .ne 7, 3) := by decide +kernel
theorem d1_11 : decode method_2_code 11 = .ok (.aload_n 1, 1) := by decide +kernel
theorem d1_12 : decode method_2_code 12 = .ok (.iconst 0, 1) := by decide +kernel
theorem d1_13 : decode method_2_code 13 = .ok (.iaload, 1) := by decide +kernel
theorem d1_14 : decode method_2_code 14 = .ok (.ireturn, 1) := by decide +kernel
def Qrm_v1 (Z : State) (a1 : Addr) (a2 : Addr) (c0 : Int32) (c1 : Int32) (c2 : Int32) (m0 : Int32) (m1 : Int32) (m2 : Int32) (h0 : Heap) (n0 : Nat) (v : Option Value) (h : Heap) (L : List Loc) : Prop := v = some (.int c0) ∧ Fr n0 L ∧ h = h0
set_option maxRecDepth 65536 in
set_option maxHeartbeats 40000000 in
theorem rm_v1 (l : Launch) (Z : State) (a0 : Array Value) (hw : ∀ d ∈ tables_1, d.before a0 Z = true) (ws : List Jvm.Cond) (a1 : Addr) (a2 : Addr) (c0 : Int32) (c1 : Int32) (c2 : Int32) (m0 : Int32) (m1 : Int32) (m2 : Int32) (h0 : Heap) (n0 : Nat) (Z0 : n0 ≤ h0.size) (A1 : own_AV Z h0 a1 .int (own_is [c0, c1, c2])) (A2 : own_AV Z h0 a2 .int (own_is [m0, m1, m2])) :
    MetFree l own_y0 (head1 (Jvm.Cond.code own_y0 method_2_code 3 (some .int) :: ws) ({ frames := 0, cells := 0, slots := 0, locals := 0 } : Room)) (fun a U => a = #[(.int (1 : Int32)), (.ref a1), (.ref a2)] ∧ Z.Warmed39 U.vm ∧ U.heap = h0) (fun _ _ _ _ _ => True) (fun _ U o U' => ∃ v L, o = .returned v ∧ Qrm_v1 Z a1 a2 c0 c1 c2 m0 m1 m2 h0 n0 v U'.heap L ∧ FrameEnd U o U' L ({ frames := 0, cells := 0, slots := 0, locals := 0 } : Room).cells ({ frames := 0, cells := 0, slots := 0, locals := 0 } : Room).slots) := by
  refine MetFree.of_bodySF (plainFor_of_name pn_com_example_paired_paths_pairedpaths_gsos_ChoicesNextPinLaw) hisR ?_
  intro p e s m args below meth c s₁ Bd hml0 hP hK
  obtain ⟨rfl, hZ, hh⟩ := hP
  have hx := Bd.exec
  have hby := Bd.bytes
  have hml : c.maxLocals = 3 := hml0
  have hown : s.vm.findClass "com/example/paired_paths/pairedpaths/gsos/ChoicesNextPinLaw" = some m.cls := findClass_of_methodNamed Bd.named
  have hnm := (name_of_methodNamed Bd.named Bd.method).1
  have X0 : Stand p l e ({ frames := 0, cells := 0, slots := 0, locals := 0 } : Room) s m #[(.int (1 : Int32)), (.ref a1), (.ref a2)] below meth c s₁ [] 0 0 := Stand.of_body Bd
  have e0 : s₁.heap = h0 := by rw [← hh, Bd.state]; rfl
  have N0 := Fr.nil n0
  have K0 : Keep h0 h0 [] := Keep.refl _ _
  clear K0
  refine own_start (Qk := Qrm_v1 Z a1 a2 c0 c1 c2 m0 m1 m2 h0 n0) (fun G hG => ?_)
  refine own_st (fun _ k => castTop (ef_1_IRR m (1 : Int32) a1 a2) k) ?_
  show own_Fin p e below G (s₁.setTop (mkF m 0 #[iv (1 : Int32), rv a1, rv a2] []))
  refine own_st (fun _ k => XS.iloadN X0.here hx rfl (hb hby d1_0) rfl  k) ?_
  show own_Fin p e below G (s₁.setTop (mkF m 1 #[iv (1 : Int32), rv a1, rv a2] [(.int (1 : Int32))]))
  refine own_st (fun _ k => XS.ifYes X0.here hx rfl (pc0 := 1) (pc' := 6) rfl (hb hby d1_1) rfl ((if0 _ _).trans (feq (by decide : ¬ ((1 : Int32) = (0 : Int32)))).2) (by decide) (by decide) k) ?_
  show own_Fin p e below G (s₁.setTop (mkF m 6 #[iv (1 : Int32), rv a1, rv a2] []))
  refine own_st (fun _ k => XS.iloadN X0.here hx rfl (hb hby d1_6) rfl  k) ?_
  show own_Fin p e below G (s₁.setTop (mkF m 7 #[iv (1 : Int32), rv a1, rv a2] [(.int (1 : Int32))]))
  refine own_st (fun _ k => XS.iconst X0.here hx rfl (hb hby d1_7) k) ?_
  show own_Fin p e below G (s₁.setTop (mkF m 8 #[iv (1 : Int32), rv a1, rv a2] [(.int (1 : Int32)), (.int (1 : Int32))]))
  refine own_st (fun _ k => XS.icmpNo X0.here hx rfl (hb hby d1_8) rfl (teq (by decide : ((1 : Int32) = (1 : Int32)))).2 k) ?_
  show own_Fin p e below G (s₁.setTop (mkF m 11 #[iv (1 : Int32), rv a1, rv a2] []))
  refine own_st (fun _ k => XS.aloadN X0.here hx rfl (hb hby d1_11) rfl rfl k) ?_
  show own_Fin p e below G (s₁.setTop (mkF m 12 #[iv (1 : Int32), rv a1, rv a2] [(.ref a1)]))
  refine own_st (fun _ k => XS.iconst X0.here hx rfl (hb hby d1_12) k) ?_
  show own_Fin p e below G (s₁.setTop (mkF m 13 #[iv (1 : Int32), rv a1, rv a2] [(.int (0 : Int32)), (.ref a1)]))
  refine own_st (fun _ k => own_ldI X0 hx hZ e0 A1 (j := (0 : Int32)) (n := 3) rfl (by decide) (g := (mkF m 13 #[iv (1 : Int32), rv a1, rv a2] [(.int (0 : Int32)), (.ref a1)])) rfl rfl (hb hby d1_13) k) ?_
  clear A1
  show own_Fin p e below G (s₁.setTop (mkF m 14 #[iv (1 : Int32), rv a1, rv a2] [(.int c0)]))
  refine own_out X0 Bd.notSynchronized (v := (some (.int c0))) (fun h => by rw [Bd.returns] at h; cases h) hG (fun fs hr => retOut X0 hx Bd.returns rfl (Or.inl ⟨rfl, Or.inl rfl, _, rfl⟩) (hb hby d1_14) hr) (by decide) (by decide) ?_
  exact ⟨rfl, N0, e0⟩

theorem d1_15 : decode method_2_code 15 = .ok (.iload_n 0, 1) := by decide +kernel
theorem d1_16 : decode method_2_code 16 = .ok (.iconst 2, 1) := by decide +kernel
theorem d1_17 : decode method_2_code 17 = .ok (.if_icmp .ne 15, 3) := by decide +kernel
theorem d1_20 : decode method_2_code 20 = .ok (.aload_n 1, 1) := by decide +kernel
theorem d1_21 : decode method_2_code 21 = .ok (.iconst 0, 1) := by decide +kernel
theorem d1_22 : decode method_2_code 22 = .ok (.iaload, 1) := by decide +kernel
theorem d1_23 : decode method_2_code 23 = .ok (.aload_n 2, 1) := by decide +kernel
theorem d1_24 : decode method_2_code 24 = .ok (.iconst 1, 1) := by decide +kernel
theorem d1_25 : decode method_2_code 25 = .ok (.iaload, 1) := by decide +kernel
theorem d1_26 : decode method_2_code 26 = .ok (.imul, 1) := by decide +kernel
theorem d1_27 : decode method_2_code 27 = .ok (.aload_n 1, 1) := by decide +kernel
theorem d1_28 : decode method_2_code 28 = .ok (.iconst 1, 1) := by decide +kernel
theorem d1_29 : decode method_2_code 29 = .ok (.iaload, 1) := by decide +kernel
theorem d1_30 : decode method_2_code 30 = .ok (.iadd, 1) := by decide +kernel
theorem d1_31 : decode method_2_code 31 = .ok (.ireturn, 1) := by decide +kernel
def Qrm_v2 (Z : State) (a1 : Addr) (a2 : Addr) (c0 : Int32) (c1 : Int32) (c2 : Int32) (m0 : Int32) (m1 : Int32) (m2 : Int32) (h0 : Heap) (n0 : Nat) (v : Option Value) (h : Heap) (L : List Loc) : Prop := v = some (.int ((c0 * m1) + c1)) ∧ Fr n0 L ∧ h = h0
set_option maxRecDepth 65536 in
set_option maxHeartbeats 40000000 in
theorem rm_v2 (l : Launch) (Z : State) (a0 : Array Value) (hw : ∀ d ∈ tables_1, d.before a0 Z = true) (ws : List Jvm.Cond) (a1 : Addr) (a2 : Addr) (c0 : Int32) (c1 : Int32) (c2 : Int32) (m0 : Int32) (m1 : Int32) (m2 : Int32) (h0 : Heap) (n0 : Nat) (Z0 : n0 ≤ h0.size) (A1 : own_AV Z h0 a1 .int (own_is [c0, c1, c2])) (A2 : own_AV Z h0 a2 .int (own_is [m0, m1, m2])) :
    MetFree l own_y0 (head1 (Jvm.Cond.code own_y0 method_2_code 3 (some .int) :: ws) ({ frames := 0, cells := 0, slots := 0, locals := 0 } : Room)) (fun a U => a = #[(.int (2 : Int32)), (.ref a1), (.ref a2)] ∧ Z.Warmed39 U.vm ∧ U.heap = h0) (fun _ _ _ _ _ => True) (fun _ U o U' => ∃ v L, o = .returned v ∧ Qrm_v2 Z a1 a2 c0 c1 c2 m0 m1 m2 h0 n0 v U'.heap L ∧ FrameEnd U o U' L ({ frames := 0, cells := 0, slots := 0, locals := 0 } : Room).cells ({ frames := 0, cells := 0, slots := 0, locals := 0 } : Room).slots) := by
  refine MetFree.of_bodySF (plainFor_of_name pn_com_example_paired_paths_pairedpaths_gsos_ChoicesNextPinLaw) hisR ?_
  intro p e s m args below meth c s₁ Bd hml0 hP hK
  obtain ⟨rfl, hZ, hh⟩ := hP
  have hx := Bd.exec
  have hby := Bd.bytes
  have hml : c.maxLocals = 3 := hml0
  have hown : s.vm.findClass "com/example/paired_paths/pairedpaths/gsos/ChoicesNextPinLaw" = some m.cls := findClass_of_methodNamed Bd.named
  have hnm := (name_of_methodNamed Bd.named Bd.method).1
  have X0 : Stand p l e ({ frames := 0, cells := 0, slots := 0, locals := 0 } : Room) s m #[(.int (2 : Int32)), (.ref a1), (.ref a2)] below meth c s₁ [] 0 0 := Stand.of_body Bd
  have e0 : s₁.heap = h0 := by rw [← hh, Bd.state]; rfl
  have N0 := Fr.nil n0
  have K0 : Keep h0 h0 [] := Keep.refl _ _
  clear K0
  refine own_start (Qk := Qrm_v2 Z a1 a2 c0 c1 c2 m0 m1 m2 h0 n0) (fun G hG => ?_)
  refine own_st (fun _ k => castTop (ef_1_IRR m (2 : Int32) a1 a2) k) ?_
  show own_Fin p e below G (s₁.setTop (mkF m 0 #[iv (2 : Int32), rv a1, rv a2] []))
  refine own_st (fun _ k => XS.iloadN X0.here hx rfl (hb hby d1_0) rfl  k) ?_
  show own_Fin p e below G (s₁.setTop (mkF m 1 #[iv (2 : Int32), rv a1, rv a2] [(.int (2 : Int32))]))
  refine own_st (fun _ k => XS.ifYes X0.here hx rfl (pc0 := 1) (pc' := 6) rfl (hb hby d1_1) rfl ((if0 _ _).trans (feq (by decide : ¬ ((2 : Int32) = (0 : Int32)))).2) (by decide) (by decide) k) ?_
  show own_Fin p e below G (s₁.setTop (mkF m 6 #[iv (2 : Int32), rv a1, rv a2] []))
  refine own_st (fun _ k => XS.iloadN X0.here hx rfl (hb hby d1_6) rfl  k) ?_
  show own_Fin p e below G (s₁.setTop (mkF m 7 #[iv (2 : Int32), rv a1, rv a2] [(.int (2 : Int32))]))
  refine own_st (fun _ k => XS.iconst X0.here hx rfl (hb hby d1_7) k) ?_
  show own_Fin p e below G (s₁.setTop (mkF m 8 #[iv (2 : Int32), rv a1, rv a2] [(.int (1 : Int32)), (.int (2 : Int32))]))
  refine own_st (fun _ k => XS.icmpYes X0.here hx rfl (pc0 := 8) (pc' := 15) rfl (hb hby d1_8) rfl (feq (by decide : ¬ ((2 : Int32) = (1 : Int32)))).2 (by decide) (by decide) k) ?_
  show own_Fin p e below G (s₁.setTop (mkF m 15 #[iv (2 : Int32), rv a1, rv a2] []))
  refine own_st (fun _ k => XS.iloadN X0.here hx rfl (hb hby d1_15) rfl  k) ?_
  show own_Fin p e below G (s₁.setTop (mkF m 16 #[iv (2 : Int32), rv a1, rv a2] [(.int (2 : Int32))]))
  refine own_st (fun _ k => XS.iconst X0.here hx rfl (hb hby d1_16) k) ?_
  show own_Fin p e below G (s₁.setTop (mkF m 17 #[iv (2 : Int32), rv a1, rv a2] [(.int (2 : Int32)), (.int (2 : Int32))]))
  refine own_st (fun _ k => XS.icmpNo X0.here hx rfl (hb hby d1_17) rfl (teq (by decide : ((2 : Int32) = (2 : Int32)))).2 k) ?_
  show own_Fin p e below G (s₁.setTop (mkF m 20 #[iv (2 : Int32), rv a1, rv a2] []))
  refine own_st (fun _ k => XS.aloadN X0.here hx rfl (hb hby d1_20) rfl rfl k) ?_
  show own_Fin p e below G (s₁.setTop (mkF m 21 #[iv (2 : Int32), rv a1, rv a2] [(.ref a1)]))
  refine own_st (fun _ k => XS.iconst X0.here hx rfl (hb hby d1_21) k) ?_
  show own_Fin p e below G (s₁.setTop (mkF m 22 #[iv (2 : Int32), rv a1, rv a2] [(.int (0 : Int32)), (.ref a1)]))
  refine own_st (fun _ k => own_ldI X0 hx hZ e0 A1 (j := (0 : Int32)) (n := 3) rfl (by decide) (g := (mkF m 22 #[iv (2 : Int32), rv a1, rv a2] [(.int (0 : Int32)), (.ref a1)])) rfl rfl (hb hby d1_22) k) ?_
  show own_Fin p e below G (s₁.setTop (mkF m 23 #[iv (2 : Int32), rv a1, rv a2] [(.int c0)]))
  refine own_st (fun _ k => XS.aloadN X0.here hx rfl (hb hby d1_23) rfl rfl k) ?_
  show own_Fin p e below G (s₁.setTop (mkF m 24 #[iv (2 : Int32), rv a1, rv a2] [(.ref a2), (.int c0)]))
  refine own_st (fun _ k => XS.iconst X0.here hx rfl (hb hby d1_24) k) ?_
  show own_Fin p e below G (s₁.setTop (mkF m 25 #[iv (2 : Int32), rv a1, rv a2] [(.int (1 : Int32)), (.ref a2), (.int c0)]))
  refine own_st (fun _ k => own_ldI X0 hx hZ e0 A2 (j := (1 : Int32)) (n := 3) rfl (by decide) (g := (mkF m 25 #[iv (2 : Int32), rv a1, rv a2] [(.int (1 : Int32)), (.ref a2), (.int c0)])) rfl rfl (hb hby d1_25) k) ?_
  clear A2
  show own_Fin p e below G (s₁.setTop (mkF m 26 #[iv (2 : Int32), rv a1, rv a2] [(.int m1), (.int c0)]))
  refine own_st (fun _ k => XS.imul X0.here hx rfl (hb hby d1_26) rfl k) ?_
  show own_Fin p e below G (s₁.setTop (mkF m 27 #[iv (2 : Int32), rv a1, rv a2] [(.int (c0 * m1))]))
  refine own_st (fun _ k => XS.aloadN X0.here hx rfl (hb hby d1_27) rfl rfl k) ?_
  show own_Fin p e below G (s₁.setTop (mkF m 28 #[iv (2 : Int32), rv a1, rv a2] [(.ref a1), (.int (c0 * m1))]))
  refine own_st (fun _ k => XS.iconst X0.here hx rfl (hb hby d1_28) k) ?_
  show own_Fin p e below G (s₁.setTop (mkF m 29 #[iv (2 : Int32), rv a1, rv a2] [(.int (1 : Int32)), (.ref a1), (.int (c0 * m1))]))
  refine own_st (fun _ k => own_ldI X0 hx hZ e0 A1 (j := (1 : Int32)) (n := 3) rfl (by decide) (g := (mkF m 29 #[iv (2 : Int32), rv a1, rv a2] [(.int (1 : Int32)), (.ref a1), (.int (c0 * m1))])) rfl rfl (hb hby d1_29) k) ?_
  clear A1
  show own_Fin p e below G (s₁.setTop (mkF m 30 #[iv (2 : Int32), rv a1, rv a2] [(.int c1), (.int (c0 * m1))]))
  refine own_st (fun _ k => XS.iadd X0.here hx rfl (hb hby d1_30) rfl k) ?_
  show own_Fin p e below G (s₁.setTop (mkF m 31 #[iv (2 : Int32), rv a1, rv a2] [(.int ((c0 * m1) + c1))]))
  refine own_out X0 Bd.notSynchronized (v := (some (.int ((c0 * m1) + c1)))) (fun h => by rw [Bd.returns] at h; cases h) hG (fun fs hr => retOut X0 hx Bd.returns rfl (Or.inl ⟨rfl, Or.inl rfl, _, rfl⟩) (hb hby d1_31) hr) (by decide) (by decide) ?_
  exact ⟨rfl, N0, e0⟩

theorem d1_32 : decode method_2_code 32 = .ok (.aload_n 1, 1) := by decide +kernel
theorem d1_33 : decode method_2_code 33 = .ok (.iconst 0, 1) := by decide +kernel
theorem d1_34 : decode method_2_code 34 = .ok (.iaload, 1) := by decide +kernel
theorem d1_35 : decode method_2_code 35 = .ok (.aload_n 2, 1) := by decide +kernel
theorem d1_36 : decode method_2_code 36 = .ok (.iconst 1, 1) := by decide +kernel
theorem d1_37 : decode method_2_code 37 = .ok (.iaload, 1) := by decide +kernel
theorem d1_38 : decode method_2_code 38 = .ok (.imul, 1) := by decide +kernel
theorem d1_39 : decode method_2_code 39 = .ok (.aload_n 2, 1) := by decide +kernel
theorem d1_40 : decode method_2_code 40 = .ok (.iconst 2, 1) := by decide +kernel
theorem d1_41 : decode method_2_code 41 = .ok (.iaload, 1) := by decide +kernel
theorem d1_42 : decode method_2_code 42 = .ok (.imul, 1) := by decide +kernel
theorem d1_43 : decode method_2_code 43 = .ok (.aload_n 1, 1) := by decide +kernel
theorem d1_44 : decode method_2_code 44 = .ok (.iconst 1, 1) := by decide +kernel
theorem d1_45 : decode method_2_code 45 = .ok (.iaload, 1) := by decide +kernel
theorem d1_46 : decode method_2_code 46 = .ok (.aload_n 2, 1) := by decide +kernel
theorem d1_47 : decode method_2_code 47 = .ok (.iconst 2, 1) := by decide +kernel
theorem d1_48 : decode method_2_code 48 = .ok (.iaload, 1) := by decide +kernel
theorem d1_49 : decode method_2_code 49 = .ok (.imul, 1) := by decide +kernel
theorem d1_50 : decode method_2_code 50 = .ok (.iadd, 1) := by decide +kernel
theorem d1_51 : decode method_2_code 51 = .ok (.aload_n 1, 1) := by decide +kernel
theorem d1_52 : decode method_2_code 52 = .ok (.iconst 2, 1) := by decide +kernel
theorem d1_53 : decode method_2_code 53 = .ok (.iaload, 1) := by decide +kernel
theorem d1_54 : decode method_2_code 54 = .ok (.iadd, 1) := by decide +kernel
theorem d1_55 : decode method_2_code 55 = .ok (.ireturn, 1) := by decide +kernel
def Qrm_v3 (Z : State) (a1 : Addr) (a2 : Addr) (c0 : Int32) (c1 : Int32) (c2 : Int32) (m0 : Int32) (m1 : Int32) (m2 : Int32) (h0 : Heap) (n0 : Nat) (v : Option Value) (h : Heap) (L : List Loc) : Prop := v = some (.int ((((c0 * m1) * m2) + (c1 * m2)) + c2)) ∧ Fr n0 L ∧ h = h0
set_option maxRecDepth 65536 in
set_option maxHeartbeats 40000000 in
theorem rm_v3 (l : Launch) (Z : State) (a0 : Array Value) (hw : ∀ d ∈ tables_1, d.before a0 Z = true) (ws : List Jvm.Cond) (a1 : Addr) (a2 : Addr) (c0 : Int32) (c1 : Int32) (c2 : Int32) (m0 : Int32) (m1 : Int32) (m2 : Int32) (h0 : Heap) (n0 : Nat) (Z0 : n0 ≤ h0.size) (A1 : own_AV Z h0 a1 .int (own_is [c0, c1, c2])) (A2 : own_AV Z h0 a2 .int (own_is [m0, m1, m2])) :
    MetFree l own_y0 (head1 (Jvm.Cond.code own_y0 method_2_code 3 (some .int) :: ws) ({ frames := 0, cells := 0, slots := 0, locals := 0 } : Room)) (fun a U => a = #[(.int (3 : Int32)), (.ref a1), (.ref a2)] ∧ Z.Warmed39 U.vm ∧ U.heap = h0) (fun _ _ _ _ _ => True) (fun _ U o U' => ∃ v L, o = .returned v ∧ Qrm_v3 Z a1 a2 c0 c1 c2 m0 m1 m2 h0 n0 v U'.heap L ∧ FrameEnd U o U' L ({ frames := 0, cells := 0, slots := 0, locals := 0 } : Room).cells ({ frames := 0, cells := 0, slots := 0, locals := 0 } : Room).slots) := by
  refine MetFree.of_bodySF (plainFor_of_name pn_com_example_paired_paths_pairedpaths_gsos_ChoicesNextPinLaw) hisR ?_
  intro p e s m args below meth c s₁ Bd hml0 hP hK
  obtain ⟨rfl, hZ, hh⟩ := hP
  have hx := Bd.exec
  have hby := Bd.bytes
  have hml : c.maxLocals = 3 := hml0
  have hown : s.vm.findClass "com/example/paired_paths/pairedpaths/gsos/ChoicesNextPinLaw" = some m.cls := findClass_of_methodNamed Bd.named
  have hnm := (name_of_methodNamed Bd.named Bd.method).1
  have X0 : Stand p l e ({ frames := 0, cells := 0, slots := 0, locals := 0 } : Room) s m #[(.int (3 : Int32)), (.ref a1), (.ref a2)] below meth c s₁ [] 0 0 := Stand.of_body Bd
  have e0 : s₁.heap = h0 := by rw [← hh, Bd.state]; rfl
  have N0 := Fr.nil n0
  have K0 : Keep h0 h0 [] := Keep.refl _ _
  clear K0
  refine own_start (Qk := Qrm_v3 Z a1 a2 c0 c1 c2 m0 m1 m2 h0 n0) (fun G hG => ?_)
  refine own_st (fun _ k => castTop (ef_1_IRR m (3 : Int32) a1 a2) k) ?_
  show own_Fin p e below G (s₁.setTop (mkF m 0 #[iv (3 : Int32), rv a1, rv a2] []))
  refine own_st (fun _ k => XS.iloadN X0.here hx rfl (hb hby d1_0) rfl  k) ?_
  show own_Fin p e below G (s₁.setTop (mkF m 1 #[iv (3 : Int32), rv a1, rv a2] [(.int (3 : Int32))]))
  refine own_st (fun _ k => XS.ifYes X0.here hx rfl (pc0 := 1) (pc' := 6) rfl (hb hby d1_1) rfl ((if0 _ _).trans (feq (by decide : ¬ ((3 : Int32) = (0 : Int32)))).2) (by decide) (by decide) k) ?_
  show own_Fin p e below G (s₁.setTop (mkF m 6 #[iv (3 : Int32), rv a1, rv a2] []))
  refine own_st (fun _ k => XS.iloadN X0.here hx rfl (hb hby d1_6) rfl  k) ?_
  show own_Fin p e below G (s₁.setTop (mkF m 7 #[iv (3 : Int32), rv a1, rv a2] [(.int (3 : Int32))]))
  refine own_st (fun _ k => XS.iconst X0.here hx rfl (hb hby d1_7) k) ?_
  show own_Fin p e below G (s₁.setTop (mkF m 8 #[iv (3 : Int32), rv a1, rv a2] [(.int (1 : Int32)), (.int (3 : Int32))]))
  refine own_st (fun _ k => XS.icmpYes X0.here hx rfl (pc0 := 8) (pc' := 15) rfl (hb hby d1_8) rfl (feq (by decide : ¬ ((3 : Int32) = (1 : Int32)))).2 (by decide) (by decide) k) ?_
  show own_Fin p e below G (s₁.setTop (mkF m 15 #[iv (3 : Int32), rv a1, rv a2] []))
  refine own_st (fun _ k => XS.iloadN X0.here hx rfl (hb hby d1_15) rfl  k) ?_
  show own_Fin p e below G (s₁.setTop (mkF m 16 #[iv (3 : Int32), rv a1, rv a2] [(.int (3 : Int32))]))
  refine own_st (fun _ k => XS.iconst X0.here hx rfl (hb hby d1_16) k) ?_
  show own_Fin p e below G (s₁.setTop (mkF m 17 #[iv (3 : Int32), rv a1, rv a2] [(.int (2 : Int32)), (.int (3 : Int32))]))
  refine own_st (fun _ k => XS.icmpYes X0.here hx rfl (pc0 := 17) (pc' := 32) rfl (hb hby d1_17) rfl (feq (by decide : ¬ ((3 : Int32) = (2 : Int32)))).2 (by decide) (by decide) k) ?_
  show own_Fin p e below G (s₁.setTop (mkF m 32 #[iv (3 : Int32), rv a1, rv a2] []))
  refine own_st (fun _ k => XS.aloadN X0.here hx rfl (hb hby d1_32) rfl rfl k) ?_
  show own_Fin p e below G (s₁.setTop (mkF m 33 #[iv (3 : Int32), rv a1, rv a2] [(.ref a1)]))
  refine own_st (fun _ k => XS.iconst X0.here hx rfl (hb hby d1_33) k) ?_
  show own_Fin p e below G (s₁.setTop (mkF m 34 #[iv (3 : Int32), rv a1, rv a2] [(.int (0 : Int32)), (.ref a1)]))
  refine own_st (fun _ k => own_ldI X0 hx hZ e0 A1 (j := (0 : Int32)) (n := 3) rfl (by decide) (g := (mkF m 34 #[iv (3 : Int32), rv a1, rv a2] [(.int (0 : Int32)), (.ref a1)])) rfl rfl (hb hby d1_34) k) ?_
  show own_Fin p e below G (s₁.setTop (mkF m 35 #[iv (3 : Int32), rv a1, rv a2] [(.int c0)]))
  refine own_st (fun _ k => XS.aloadN X0.here hx rfl (hb hby d1_35) rfl rfl k) ?_
  show own_Fin p e below G (s₁.setTop (mkF m 36 #[iv (3 : Int32), rv a1, rv a2] [(.ref a2), (.int c0)]))
  refine own_st (fun _ k => XS.iconst X0.here hx rfl (hb hby d1_36) k) ?_
  show own_Fin p e below G (s₁.setTop (mkF m 37 #[iv (3 : Int32), rv a1, rv a2] [(.int (1 : Int32)), (.ref a2), (.int c0)]))
  refine own_st (fun _ k => own_ldI X0 hx hZ e0 A2 (j := (1 : Int32)) (n := 3) rfl (by decide) (g := (mkF m 37 #[iv (3 : Int32), rv a1, rv a2] [(.int (1 : Int32)), (.ref a2), (.int c0)])) rfl rfl (hb hby d1_37) k) ?_
  show own_Fin p e below G (s₁.setTop (mkF m 38 #[iv (3 : Int32), rv a1, rv a2] [(.int m1), (.int c0)]))
  refine own_st (fun _ k => XS.imul X0.here hx rfl (hb hby d1_38) rfl k) ?_
  show own_Fin p e below G (s₁.setTop (mkF m 39 #[iv (3 : Int32), rv a1, rv a2] [(.int (c0 * m1))]))
  refine own_st (fun _ k => XS.aloadN X0.here hx rfl (hb hby d1_39) rfl rfl k) ?_
  show own_Fin p e below G (s₁.setTop (mkF m 40 #[iv (3 : Int32), rv a1, rv a2] [(.ref a2), (.int (c0 * m1))]))
  refine own_st (fun _ k => XS.iconst X0.here hx rfl (hb hby d1_40) k) ?_
  show own_Fin p e below G (s₁.setTop (mkF m 41 #[iv (3 : Int32), rv a1, rv a2] [(.int (2 : Int32)), (.ref a2), (.int (c0 * m1))]))
  refine own_st (fun _ k => own_ldI X0 hx hZ e0 A2 (j := (2 : Int32)) (n := 3) rfl (by decide) (g := (mkF m 41 #[iv (3 : Int32), rv a1, rv a2] [(.int (2 : Int32)), (.ref a2), (.int (c0 * m1))])) rfl rfl (hb hby d1_41) k) ?_
  show own_Fin p e below G (s₁.setTop (mkF m 42 #[iv (3 : Int32), rv a1, rv a2] [(.int m2), (.int (c0 * m1))]))
  refine own_st (fun _ k => XS.imul X0.here hx rfl (hb hby d1_42) rfl k) ?_
  show own_Fin p e below G (s₁.setTop (mkF m 43 #[iv (3 : Int32), rv a1, rv a2] [(.int ((c0 * m1) * m2))]))
  refine own_st (fun _ k => XS.aloadN X0.here hx rfl (hb hby d1_43) rfl rfl k) ?_
  show own_Fin p e below G (s₁.setTop (mkF m 44 #[iv (3 : Int32), rv a1, rv a2] [(.ref a1), (.int ((c0 * m1) * m2))]))
  refine own_st (fun _ k => XS.iconst X0.here hx rfl (hb hby d1_44) k) ?_
  show own_Fin p e below G (s₁.setTop (mkF m 45 #[iv (3 : Int32), rv a1, rv a2] [(.int (1 : Int32)), (.ref a1), (.int ((c0 * m1) * m2))]))
  refine own_st (fun _ k => own_ldI X0 hx hZ e0 A1 (j := (1 : Int32)) (n := 3) rfl (by decide) (g := (mkF m 45 #[iv (3 : Int32), rv a1, rv a2] [(.int (1 : Int32)), (.ref a1), (.int ((c0 * m1) * m2))])) rfl rfl (hb hby d1_45) k) ?_
  show own_Fin p e below G (s₁.setTop (mkF m 46 #[iv (3 : Int32), rv a1, rv a2] [(.int c1), (.int ((c0 * m1) * m2))]))
  refine own_st (fun _ k => XS.aloadN X0.here hx rfl (hb hby d1_46) rfl rfl k) ?_
  show own_Fin p e below G (s₁.setTop (mkF m 47 #[iv (3 : Int32), rv a1, rv a2] [(.ref a2), (.int c1), (.int ((c0 * m1) * m2))]))
  refine own_st (fun _ k => XS.iconst X0.here hx rfl (hb hby d1_47) k) ?_
  show own_Fin p e below G (s₁.setTop (mkF m 48 #[iv (3 : Int32), rv a1, rv a2] [(.int (2 : Int32)), (.ref a2), (.int c1), (.int ((c0 * m1) * m2))]))
  refine own_st (fun _ k => own_ldI X0 hx hZ e0 A2 (j := (2 : Int32)) (n := 3) rfl (by decide) (g := (mkF m 48 #[iv (3 : Int32), rv a1, rv a2] [(.int (2 : Int32)), (.ref a2), (.int c1), (.int ((c0 * m1) * m2))])) rfl rfl (hb hby d1_48) k) ?_
  clear A2
  show own_Fin p e below G (s₁.setTop (mkF m 49 #[iv (3 : Int32), rv a1, rv a2] [(.int m2), (.int c1), (.int ((c0 * m1) * m2))]))
  refine own_st (fun _ k => XS.imul X0.here hx rfl (hb hby d1_49) rfl k) ?_
  show own_Fin p e below G (s₁.setTop (mkF m 50 #[iv (3 : Int32), rv a1, rv a2] [(.int (c1 * m2)), (.int ((c0 * m1) * m2))]))
  refine own_st (fun _ k => XS.iadd X0.here hx rfl (hb hby d1_50) rfl k) ?_
  show own_Fin p e below G (s₁.setTop (mkF m 51 #[iv (3 : Int32), rv a1, rv a2] [(.int (((c0 * m1) * m2) + (c1 * m2)))]))
  refine own_st (fun _ k => XS.aloadN X0.here hx rfl (hb hby d1_51) rfl rfl k) ?_
  show own_Fin p e below G (s₁.setTop (mkF m 52 #[iv (3 : Int32), rv a1, rv a2] [(.ref a1), (.int (((c0 * m1) * m2) + (c1 * m2)))]))
  refine own_st (fun _ k => XS.iconst X0.here hx rfl (hb hby d1_52) k) ?_
  show own_Fin p e below G (s₁.setTop (mkF m 53 #[iv (3 : Int32), rv a1, rv a2] [(.int (2 : Int32)), (.ref a1), (.int (((c0 * m1) * m2) + (c1 * m2)))]))
  refine own_st (fun _ k => own_ldI X0 hx hZ e0 A1 (j := (2 : Int32)) (n := 3) rfl (by decide) (g := (mkF m 53 #[iv (3 : Int32), rv a1, rv a2] [(.int (2 : Int32)), (.ref a1), (.int (((c0 * m1) * m2) + (c1 * m2)))])) rfl rfl (hb hby d1_53) k) ?_
  clear A1
  show own_Fin p e below G (s₁.setTop (mkF m 54 #[iv (3 : Int32), rv a1, rv a2] [(.int c2), (.int (((c0 * m1) * m2) + (c1 * m2)))]))
  refine own_st (fun _ k => XS.iadd X0.here hx rfl (hb hby d1_54) rfl k) ?_
  show own_Fin p e below G (s₁.setTop (mkF m 55 #[iv (3 : Int32), rv a1, rv a2] [(.int ((((c0 * m1) * m2) + (c1 * m2)) + c2))]))
  refine own_out X0 Bd.notSynchronized (v := (some (.int ((((c0 * m1) * m2) + (c1 * m2)) + c2)))) (fun h => by rw [Bd.returns] at h; cases h) hG (fun fs hr => retOut X0 hx Bd.returns rfl (Or.inl ⟨rfl, Or.inl rfl, _, rfl⟩) (hb hby d1_55) hr) (by decide) (by decide) ?_
  exact ⟨rfl, N0, e0⟩

theorem d2_0 : decode method_3_code 0 = .ok (.iload_n 0, 1) := by decide +kernel
theorem d2_1 : decode method_3_code 1 = .ok (.ifCond .ne 5, 3) := by decide +kernel
theorem d2_4 : decode method_3_code 4 = .ok (.iconst 1, 1) := by decide +kernel
theorem d2_5 : decode method_3_code 5 = .ok (.ireturn, 1) := by decide +kernel
theorem ef_2_IR (m : MethodId) (x0 : Int32) (x1 : Addr) : entryFrame m #[(.int x0), (.ref x1)] 2 = mkF m 0 #[iv x0, rv x1] [] := by first | (simp [entryFrame, mkF, argsToLocals, Value.category]; done) | rfl
def Qrm_t0 (Z : State) (a2 : Addr) (m0 : Int32) (m1 : Int32) (m2 : Int32) (h0 : Heap) (n0 : Nat) (v : Option Value) (h : Heap) (L : List Loc) : Prop := v = some (.int (1 : Int32)) ∧ Fr n0 L ∧ h = h0
set_option maxRecDepth 65536 in
set_option maxHeartbeats 40000000 in
theorem rm_t0 (l : Launch) (Z : State) (a0 : Array Value) (hw : ∀ d ∈ tables_1, d.before a0 Z = true) (ws : List Jvm.Cond) (a2 : Addr) (m0 : Int32) (m1 : Int32) (m2 : Int32) (h0 : Heap) (n0 : Nat) (Z0 : n0 ≤ h0.size) (A2 : own_AV Z h0 a2 .int (own_is [m0, m1, m2])) :
    MetFree l own_y1 (head1 (Jvm.Cond.code own_y1 method_3_code 2 (some .int) :: ws) ({ frames := 0, cells := 0, slots := 0, locals := 0 } : Room)) (fun a U => a = #[(.int (0 : Int32)), (.ref a2)] ∧ Z.Warmed39 U.vm ∧ U.heap = h0) (fun _ _ _ _ _ => True) (fun _ U o U' => ∃ v L, o = .returned v ∧ Qrm_t0 Z a2 m0 m1 m2 h0 n0 v U'.heap L ∧ FrameEnd U o U' L ({ frames := 0, cells := 0, slots := 0, locals := 0 } : Room).cells ({ frames := 0, cells := 0, slots := 0, locals := 0 } : Room).slots) := by
  refine MetFree.of_bodySF (plainFor_of_name pn_com_example_paired_paths_pairedpaths_gsos_ChoicesNextPinLaw) hisR ?_
  intro p e s m args below meth c s₁ Bd hml0 hP hK
  obtain ⟨rfl, hZ, hh⟩ := hP
  have hx := Bd.exec
  have hby := Bd.bytes
  have hml : c.maxLocals = 2 := hml0
  have hown : s.vm.findClass "com/example/paired_paths/pairedpaths/gsos/ChoicesNextPinLaw" = some m.cls := findClass_of_methodNamed Bd.named
  have hnm := (name_of_methodNamed Bd.named Bd.method).1
  have X0 : Stand p l e ({ frames := 0, cells := 0, slots := 0, locals := 0 } : Room) s m #[(.int (0 : Int32)), (.ref a2)] below meth c s₁ [] 0 0 := Stand.of_body Bd
  have e0 : s₁.heap = h0 := by rw [← hh, Bd.state]; rfl
  have N0 := Fr.nil n0
  have K0 : Keep h0 h0 [] := Keep.refl _ _
  clear K0
  refine own_start (Qk := Qrm_t0 Z a2 m0 m1 m2 h0 n0) (fun G hG => ?_)
  refine own_st (fun _ k => castTop (ef_2_IR m (0 : Int32) a2) k) ?_
  show own_Fin p e below G (s₁.setTop (mkF m 0 #[iv (0 : Int32), rv a2] []))
  refine own_st (fun _ k => XS.iloadN X0.here hx rfl (hb hby d2_0) rfl  k) ?_
  show own_Fin p e below G (s₁.setTop (mkF m 1 #[iv (0 : Int32), rv a2] [(.int (0 : Int32))]))
  refine own_st (fun _ k => XS.ifNo X0.here hx rfl (hb hby d2_1) rfl ((if0 _ _).trans (teq (by decide : ((0 : Int32) = (0 : Int32)))).2) k) ?_
  show own_Fin p e below G (s₁.setTop (mkF m 4 #[iv (0 : Int32), rv a2] []))
  refine own_st (fun _ k => XS.iconst X0.here hx rfl (hb hby d2_4) k) ?_
  show own_Fin p e below G (s₁.setTop (mkF m 5 #[iv (0 : Int32), rv a2] [(.int (1 : Int32))]))
  refine own_out X0 Bd.notSynchronized (v := (some (.int (1 : Int32)))) (fun h => by rw [Bd.returns] at h; cases h) hG (fun fs hr => retOut X0 hx Bd.returns rfl (Or.inl ⟨rfl, Or.inl rfl, _, rfl⟩) (hb hby d2_5) hr) (by decide) (by decide) ?_
  exact ⟨rfl, N0, e0⟩

theorem d2_6 : decode method_3_code 6 = .ok (.iload_n 0, 1) := by decide +kernel
theorem d2_7 : decode method_3_code 7 = .ok (.iconst 1, 1) := by decide +kernel
theorem d2_8 : decode method_3_code 8 = .ok (.if_icmp .ne 7, 3) := by decide +kernel
theorem d2_11 : decode method_3_code 11 = .ok (.aload_n 1, 1) := by decide +kernel
theorem d2_12 : decode method_3_code 12 = .ok (.iconst 0, 1) := by decide +kernel
theorem d2_13 : decode method_3_code 13 = .ok (.iaload, 1) := by decide +kernel
theorem d2_14 : decode method_3_code 14 = .ok (.ireturn, 1) := by decide +kernel
def Qrm_t1 (Z : State) (a2 : Addr) (m0 : Int32) (m1 : Int32) (m2 : Int32) (h0 : Heap) (n0 : Nat) (v : Option Value) (h : Heap) (L : List Loc) : Prop := v = some (.int m0) ∧ Fr n0 L ∧ h = h0
set_option maxRecDepth 65536 in
set_option maxHeartbeats 40000000 in
theorem rm_t1 (l : Launch) (Z : State) (a0 : Array Value) (hw : ∀ d ∈ tables_1, d.before a0 Z = true) (ws : List Jvm.Cond) (a2 : Addr) (m0 : Int32) (m1 : Int32) (m2 : Int32) (h0 : Heap) (n0 : Nat) (Z0 : n0 ≤ h0.size) (A2 : own_AV Z h0 a2 .int (own_is [m0, m1, m2])) :
    MetFree l own_y1 (head1 (Jvm.Cond.code own_y1 method_3_code 2 (some .int) :: ws) ({ frames := 0, cells := 0, slots := 0, locals := 0 } : Room)) (fun a U => a = #[(.int (1 : Int32)), (.ref a2)] ∧ Z.Warmed39 U.vm ∧ U.heap = h0) (fun _ _ _ _ _ => True) (fun _ U o U' => ∃ v L, o = .returned v ∧ Qrm_t1 Z a2 m0 m1 m2 h0 n0 v U'.heap L ∧ FrameEnd U o U' L ({ frames := 0, cells := 0, slots := 0, locals := 0 } : Room).cells ({ frames := 0, cells := 0, slots := 0, locals := 0 } : Room).slots) := by
  refine MetFree.of_bodySF (plainFor_of_name pn_com_example_paired_paths_pairedpaths_gsos_ChoicesNextPinLaw) hisR ?_
  intro p e s m args below meth c s₁ Bd hml0 hP hK
  obtain ⟨rfl, hZ, hh⟩ := hP
  have hx := Bd.exec
  have hby := Bd.bytes
  have hml : c.maxLocals = 2 := hml0
  have hown : s.vm.findClass "com/example/paired_paths/pairedpaths/gsos/ChoicesNextPinLaw" = some m.cls := findClass_of_methodNamed Bd.named
  have hnm := (name_of_methodNamed Bd.named Bd.method).1
  have X0 : Stand p l e ({ frames := 0, cells := 0, slots := 0, locals := 0 } : Room) s m #[(.int (1 : Int32)), (.ref a2)] below meth c s₁ [] 0 0 := Stand.of_body Bd
  have e0 : s₁.heap = h0 := by rw [← hh, Bd.state]; rfl
  have N0 := Fr.nil n0
  have K0 : Keep h0 h0 [] := Keep.refl _ _
  clear K0
  refine own_start (Qk := Qrm_t1 Z a2 m0 m1 m2 h0 n0) (fun G hG => ?_)
  refine own_st (fun _ k => castTop (ef_2_IR m (1 : Int32) a2) k) ?_
  show own_Fin p e below G (s₁.setTop (mkF m 0 #[iv (1 : Int32), rv a2] []))
  refine own_st (fun _ k => XS.iloadN X0.here hx rfl (hb hby d2_0) rfl  k) ?_
  show own_Fin p e below G (s₁.setTop (mkF m 1 #[iv (1 : Int32), rv a2] [(.int (1 : Int32))]))
  refine own_st (fun _ k => XS.ifYes X0.here hx rfl (pc0 := 1) (pc' := 6) rfl (hb hby d2_1) rfl ((if0 _ _).trans (feq (by decide : ¬ ((1 : Int32) = (0 : Int32)))).2) (by decide) (by decide) k) ?_
  show own_Fin p e below G (s₁.setTop (mkF m 6 #[iv (1 : Int32), rv a2] []))
  refine own_st (fun _ k => XS.iloadN X0.here hx rfl (hb hby d2_6) rfl  k) ?_
  show own_Fin p e below G (s₁.setTop (mkF m 7 #[iv (1 : Int32), rv a2] [(.int (1 : Int32))]))
  refine own_st (fun _ k => XS.iconst X0.here hx rfl (hb hby d2_7) k) ?_
  show own_Fin p e below G (s₁.setTop (mkF m 8 #[iv (1 : Int32), rv a2] [(.int (1 : Int32)), (.int (1 : Int32))]))
  refine own_st (fun _ k => XS.icmpNo X0.here hx rfl (hb hby d2_8) rfl (teq (by decide : ((1 : Int32) = (1 : Int32)))).2 k) ?_
  show own_Fin p e below G (s₁.setTop (mkF m 11 #[iv (1 : Int32), rv a2] []))
  refine own_st (fun _ k => XS.aloadN X0.here hx rfl (hb hby d2_11) rfl rfl k) ?_
  show own_Fin p e below G (s₁.setTop (mkF m 12 #[iv (1 : Int32), rv a2] [(.ref a2)]))
  refine own_st (fun _ k => XS.iconst X0.here hx rfl (hb hby d2_12) k) ?_
  show own_Fin p e below G (s₁.setTop (mkF m 13 #[iv (1 : Int32), rv a2] [(.int (0 : Int32)), (.ref a2)]))
  refine own_st (fun _ k => own_ldI X0 hx hZ e0 A2 (j := (0 : Int32)) (n := 3) rfl (by decide) (g := (mkF m 13 #[iv (1 : Int32), rv a2] [(.int (0 : Int32)), (.ref a2)])) rfl rfl (hb hby d2_13) k) ?_
  clear A2
  show own_Fin p e below G (s₁.setTop (mkF m 14 #[iv (1 : Int32), rv a2] [(.int m0)]))
  refine own_out X0 Bd.notSynchronized (v := (some (.int m0))) (fun h => by rw [Bd.returns] at h; cases h) hG (fun fs hr => retOut X0 hx Bd.returns rfl (Or.inl ⟨rfl, Or.inl rfl, _, rfl⟩) (hb hby d2_14) hr) (by decide) (by decide) ?_
  exact ⟨rfl, N0, e0⟩

theorem d2_15 : decode method_3_code 15 = .ok (.iload_n 0, 1) := by decide +kernel
theorem d2_16 : decode method_3_code 16 = .ok (.iconst 2, 1) := by decide +kernel
theorem d2_17 : decode method_3_code 17 = .ok (.if_icmp .ne 11, 3) := by decide +kernel
theorem d2_20 : decode method_3_code 20 = .ok (.aload_n 1, 1) := by decide +kernel
theorem d2_21 : decode method_3_code 21 = .ok (.iconst 0, 1) := by decide +kernel
theorem d2_22 : decode method_3_code 22 = .ok (.iaload, 1) := by decide +kernel
theorem d2_23 : decode method_3_code 23 = .ok (.aload_n 1, 1) := by decide +kernel
theorem d2_24 : decode method_3_code 24 = .ok (.iconst 1, 1) := by decide +kernel
theorem d2_25 : decode method_3_code 25 = .ok (.iaload, 1) := by decide +kernel
theorem d2_26 : decode method_3_code 26 = .ok (.imul, 1) := by decide +kernel
theorem d2_27 : decode method_3_code 27 = .ok (.ireturn, 1) := by decide +kernel
def Qrm_t2 (Z : State) (a2 : Addr) (m0 : Int32) (m1 : Int32) (m2 : Int32) (h0 : Heap) (n0 : Nat) (v : Option Value) (h : Heap) (L : List Loc) : Prop := v = some (.int (m0 * m1)) ∧ Fr n0 L ∧ h = h0
set_option maxRecDepth 65536 in
set_option maxHeartbeats 40000000 in
theorem rm_t2 (l : Launch) (Z : State) (a0 : Array Value) (hw : ∀ d ∈ tables_1, d.before a0 Z = true) (ws : List Jvm.Cond) (a2 : Addr) (m0 : Int32) (m1 : Int32) (m2 : Int32) (h0 : Heap) (n0 : Nat) (Z0 : n0 ≤ h0.size) (A2 : own_AV Z h0 a2 .int (own_is [m0, m1, m2])) :
    MetFree l own_y1 (head1 (Jvm.Cond.code own_y1 method_3_code 2 (some .int) :: ws) ({ frames := 0, cells := 0, slots := 0, locals := 0 } : Room)) (fun a U => a = #[(.int (2 : Int32)), (.ref a2)] ∧ Z.Warmed39 U.vm ∧ U.heap = h0) (fun _ _ _ _ _ => True) (fun _ U o U' => ∃ v L, o = .returned v ∧ Qrm_t2 Z a2 m0 m1 m2 h0 n0 v U'.heap L ∧ FrameEnd U o U' L ({ frames := 0, cells := 0, slots := 0, locals := 0 } : Room).cells ({ frames := 0, cells := 0, slots := 0, locals := 0 } : Room).slots) := by
  refine MetFree.of_bodySF (plainFor_of_name pn_com_example_paired_paths_pairedpaths_gsos_ChoicesNextPinLaw) hisR ?_
  intro p e s m args below meth c s₁ Bd hml0 hP hK
  obtain ⟨rfl, hZ, hh⟩ := hP
  have hx := Bd.exec
  have hby := Bd.bytes
  have hml : c.maxLocals = 2 := hml0
  have hown : s.vm.findClass "com/example/paired_paths/pairedpaths/gsos/ChoicesNextPinLaw" = some m.cls := findClass_of_methodNamed Bd.named
  have hnm := (name_of_methodNamed Bd.named Bd.method).1
  have X0 : Stand p l e ({ frames := 0, cells := 0, slots := 0, locals := 0 } : Room) s m #[(.int (2 : Int32)), (.ref a2)] below meth c s₁ [] 0 0 := Stand.of_body Bd
  have e0 : s₁.heap = h0 := by rw [← hh, Bd.state]; rfl
  have N0 := Fr.nil n0
  have K0 : Keep h0 h0 [] := Keep.refl _ _
  clear K0
  refine own_start (Qk := Qrm_t2 Z a2 m0 m1 m2 h0 n0) (fun G hG => ?_)
  refine own_st (fun _ k => castTop (ef_2_IR m (2 : Int32) a2) k) ?_
  show own_Fin p e below G (s₁.setTop (mkF m 0 #[iv (2 : Int32), rv a2] []))
  refine own_st (fun _ k => XS.iloadN X0.here hx rfl (hb hby d2_0) rfl  k) ?_
  show own_Fin p e below G (s₁.setTop (mkF m 1 #[iv (2 : Int32), rv a2] [(.int (2 : Int32))]))
  refine own_st (fun _ k => XS.ifYes X0.here hx rfl (pc0 := 1) (pc' := 6) rfl (hb hby d2_1) rfl ((if0 _ _).trans (feq (by decide : ¬ ((2 : Int32) = (0 : Int32)))).2) (by decide) (by decide) k) ?_
  show own_Fin p e below G (s₁.setTop (mkF m 6 #[iv (2 : Int32), rv a2] []))
  refine own_st (fun _ k => XS.iloadN X0.here hx rfl (hb hby d2_6) rfl  k) ?_
  show own_Fin p e below G (s₁.setTop (mkF m 7 #[iv (2 : Int32), rv a2] [(.int (2 : Int32))]))
  refine own_st (fun _ k => XS.iconst X0.here hx rfl (hb hby d2_7) k) ?_
  show own_Fin p e below G (s₁.setTop (mkF m 8 #[iv (2 : Int32), rv a2] [(.int (1 : Int32)), (.int (2 : Int32))]))
  refine own_st (fun _ k => XS.icmpYes X0.here hx rfl (pc0 := 8) (pc' := 15) rfl (hb hby d2_8) rfl (feq (by decide : ¬ ((2 : Int32) = (1 : Int32)))).2 (by decide) (by decide) k) ?_
  show own_Fin p e below G (s₁.setTop (mkF m 15 #[iv (2 : Int32), rv a2] []))
  refine own_st (fun _ k => XS.iloadN X0.here hx rfl (hb hby d2_15) rfl  k) ?_
  show own_Fin p e below G (s₁.setTop (mkF m 16 #[iv (2 : Int32), rv a2] [(.int (2 : Int32))]))
  refine own_st (fun _ k => XS.iconst X0.here hx rfl (hb hby d2_16) k) ?_
  show own_Fin p e below G (s₁.setTop (mkF m 17 #[iv (2 : Int32), rv a2] [(.int (2 : Int32)), (.int (2 : Int32))]))
  refine own_st (fun _ k => XS.icmpNo X0.here hx rfl (hb hby d2_17) rfl (teq (by decide : ((2 : Int32) = (2 : Int32)))).2 k) ?_
  show own_Fin p e below G (s₁.setTop (mkF m 20 #[iv (2 : Int32), rv a2] []))
  refine own_st (fun _ k => XS.aloadN X0.here hx rfl (hb hby d2_20) rfl rfl k) ?_
  show own_Fin p e below G (s₁.setTop (mkF m 21 #[iv (2 : Int32), rv a2] [(.ref a2)]))
  refine own_st (fun _ k => XS.iconst X0.here hx rfl (hb hby d2_21) k) ?_
  show own_Fin p e below G (s₁.setTop (mkF m 22 #[iv (2 : Int32), rv a2] [(.int (0 : Int32)), (.ref a2)]))
  refine own_st (fun _ k => own_ldI X0 hx hZ e0 A2 (j := (0 : Int32)) (n := 3) rfl (by decide) (g := (mkF m 22 #[iv (2 : Int32), rv a2] [(.int (0 : Int32)), (.ref a2)])) rfl rfl (hb hby d2_22) k) ?_
  show own_Fin p e below G (s₁.setTop (mkF m 23 #[iv (2 : Int32), rv a2] [(.int m0)]))
  refine own_st (fun _ k => XS.aloadN X0.here hx rfl (hb hby d2_23) rfl rfl k) ?_
  show own_Fin p e below G (s₁.setTop (mkF m 24 #[iv (2 : Int32), rv a2] [(.ref a2), (.int m0)]))
  refine own_st (fun _ k => XS.iconst X0.here hx rfl (hb hby d2_24) k) ?_
  show own_Fin p e below G (s₁.setTop (mkF m 25 #[iv (2 : Int32), rv a2] [(.int (1 : Int32)), (.ref a2), (.int m0)]))
  refine own_st (fun _ k => own_ldI X0 hx hZ e0 A2 (j := (1 : Int32)) (n := 3) rfl (by decide) (g := (mkF m 25 #[iv (2 : Int32), rv a2] [(.int (1 : Int32)), (.ref a2), (.int m0)])) rfl rfl (hb hby d2_25) k) ?_
  clear A2
  show own_Fin p e below G (s₁.setTop (mkF m 26 #[iv (2 : Int32), rv a2] [(.int m1), (.int m0)]))
  refine own_st (fun _ k => XS.imul X0.here hx rfl (hb hby d2_26) rfl k) ?_
  show own_Fin p e below G (s₁.setTop (mkF m 27 #[iv (2 : Int32), rv a2] [(.int (m0 * m1))]))
  refine own_out X0 Bd.notSynchronized (v := (some (.int (m0 * m1)))) (fun h => by rw [Bd.returns] at h; cases h) hG (fun fs hr => retOut X0 hx Bd.returns rfl (Or.inl ⟨rfl, Or.inl rfl, _, rfl⟩) (hb hby d2_27) hr) (by decide) (by decide) ?_
  exact ⟨rfl, N0, e0⟩

theorem d2_28 : decode method_3_code 28 = .ok (.aload_n 1, 1) := by decide +kernel
theorem d2_29 : decode method_3_code 29 = .ok (.iconst 0, 1) := by decide +kernel
theorem d2_30 : decode method_3_code 30 = .ok (.iaload, 1) := by decide +kernel
theorem d2_31 : decode method_3_code 31 = .ok (.aload_n 1, 1) := by decide +kernel
theorem d2_32 : decode method_3_code 32 = .ok (.iconst 1, 1) := by decide +kernel
theorem d2_33 : decode method_3_code 33 = .ok (.iaload, 1) := by decide +kernel
theorem d2_34 : decode method_3_code 34 = .ok (.imul, 1) := by decide +kernel
theorem d2_35 : decode method_3_code 35 = .ok (.aload_n 1, 1) := by decide +kernel
theorem d2_36 : decode method_3_code 36 = .ok (.iconst 2, 1) := by decide +kernel
theorem d2_37 : decode method_3_code 37 = .ok (.iaload, 1) := by decide +kernel
theorem d2_38 : decode method_3_code 38 = .ok (.imul, 1) := by decide +kernel
theorem d2_39 : decode method_3_code 39 = .ok (.ireturn, 1) := by decide +kernel
def Qrm_t3 (Z : State) (a2 : Addr) (m0 : Int32) (m1 : Int32) (m2 : Int32) (h0 : Heap) (n0 : Nat) (v : Option Value) (h : Heap) (L : List Loc) : Prop := v = some (.int ((m0 * m1) * m2)) ∧ Fr n0 L ∧ h = h0
set_option maxRecDepth 65536 in
set_option maxHeartbeats 40000000 in
theorem rm_t3 (l : Launch) (Z : State) (a0 : Array Value) (hw : ∀ d ∈ tables_1, d.before a0 Z = true) (ws : List Jvm.Cond) (a2 : Addr) (m0 : Int32) (m1 : Int32) (m2 : Int32) (h0 : Heap) (n0 : Nat) (Z0 : n0 ≤ h0.size) (A2 : own_AV Z h0 a2 .int (own_is [m0, m1, m2])) :
    MetFree l own_y1 (head1 (Jvm.Cond.code own_y1 method_3_code 2 (some .int) :: ws) ({ frames := 0, cells := 0, slots := 0, locals := 0 } : Room)) (fun a U => a = #[(.int (3 : Int32)), (.ref a2)] ∧ Z.Warmed39 U.vm ∧ U.heap = h0) (fun _ _ _ _ _ => True) (fun _ U o U' => ∃ v L, o = .returned v ∧ Qrm_t3 Z a2 m0 m1 m2 h0 n0 v U'.heap L ∧ FrameEnd U o U' L ({ frames := 0, cells := 0, slots := 0, locals := 0 } : Room).cells ({ frames := 0, cells := 0, slots := 0, locals := 0 } : Room).slots) := by
  refine MetFree.of_bodySF (plainFor_of_name pn_com_example_paired_paths_pairedpaths_gsos_ChoicesNextPinLaw) hisR ?_
  intro p e s m args below meth c s₁ Bd hml0 hP hK
  obtain ⟨rfl, hZ, hh⟩ := hP
  have hx := Bd.exec
  have hby := Bd.bytes
  have hml : c.maxLocals = 2 := hml0
  have hown : s.vm.findClass "com/example/paired_paths/pairedpaths/gsos/ChoicesNextPinLaw" = some m.cls := findClass_of_methodNamed Bd.named
  have hnm := (name_of_methodNamed Bd.named Bd.method).1
  have X0 : Stand p l e ({ frames := 0, cells := 0, slots := 0, locals := 0 } : Room) s m #[(.int (3 : Int32)), (.ref a2)] below meth c s₁ [] 0 0 := Stand.of_body Bd
  have e0 : s₁.heap = h0 := by rw [← hh, Bd.state]; rfl
  have N0 := Fr.nil n0
  have K0 : Keep h0 h0 [] := Keep.refl _ _
  clear K0
  refine own_start (Qk := Qrm_t3 Z a2 m0 m1 m2 h0 n0) (fun G hG => ?_)
  refine own_st (fun _ k => castTop (ef_2_IR m (3 : Int32) a2) k) ?_
  show own_Fin p e below G (s₁.setTop (mkF m 0 #[iv (3 : Int32), rv a2] []))
  refine own_st (fun _ k => XS.iloadN X0.here hx rfl (hb hby d2_0) rfl  k) ?_
  show own_Fin p e below G (s₁.setTop (mkF m 1 #[iv (3 : Int32), rv a2] [(.int (3 : Int32))]))
  refine own_st (fun _ k => XS.ifYes X0.here hx rfl (pc0 := 1) (pc' := 6) rfl (hb hby d2_1) rfl ((if0 _ _).trans (feq (by decide : ¬ ((3 : Int32) = (0 : Int32)))).2) (by decide) (by decide) k) ?_
  show own_Fin p e below G (s₁.setTop (mkF m 6 #[iv (3 : Int32), rv a2] []))
  refine own_st (fun _ k => XS.iloadN X0.here hx rfl (hb hby d2_6) rfl  k) ?_
  show own_Fin p e below G (s₁.setTop (mkF m 7 #[iv (3 : Int32), rv a2] [(.int (3 : Int32))]))
  refine own_st (fun _ k => XS.iconst X0.here hx rfl (hb hby d2_7) k) ?_
  show own_Fin p e below G (s₁.setTop (mkF m 8 #[iv (3 : Int32), rv a2] [(.int (1 : Int32)), (.int (3 : Int32))]))
  refine own_st (fun _ k => XS.icmpYes X0.here hx rfl (pc0 := 8) (pc' := 15) rfl (hb hby d2_8) rfl (feq (by decide : ¬ ((3 : Int32) = (1 : Int32)))).2 (by decide) (by decide) k) ?_
  show own_Fin p e below G (s₁.setTop (mkF m 15 #[iv (3 : Int32), rv a2] []))
  refine own_st (fun _ k => XS.iloadN X0.here hx rfl (hb hby d2_15) rfl  k) ?_
  show own_Fin p e below G (s₁.setTop (mkF m 16 #[iv (3 : Int32), rv a2] [(.int (3 : Int32))]))
  refine own_st (fun _ k => XS.iconst X0.here hx rfl (hb hby d2_16) k) ?_
  show own_Fin p e below G (s₁.setTop (mkF m 17 #[iv (3 : Int32), rv a2] [(.int (2 : Int32)), (.int (3 : Int32))]))
  refine own_st (fun _ k => XS.icmpYes X0.here hx rfl (pc0 := 17) (pc' := 28) rfl (hb hby d2_17) rfl (feq (by decide : ¬ ((3 : Int32) = (2 : Int32)))).2 (by decide) (by decide) k) ?_
  show own_Fin p e below G (s₁.setTop (mkF m 28 #[iv (3 : Int32), rv a2] []))
  refine own_st (fun _ k => XS.aloadN X0.here hx rfl (hb hby d2_28) rfl rfl k) ?_
  show own_Fin p e below G (s₁.setTop (mkF m 29 #[iv (3 : Int32), rv a2] [(.ref a2)]))
  refine own_st (fun _ k => XS.iconst X0.here hx rfl (hb hby d2_29) k) ?_
  show own_Fin p e below G (s₁.setTop (mkF m 30 #[iv (3 : Int32), rv a2] [(.int (0 : Int32)), (.ref a2)]))
  refine own_st (fun _ k => own_ldI X0 hx hZ e0 A2 (j := (0 : Int32)) (n := 3) rfl (by decide) (g := (mkF m 30 #[iv (3 : Int32), rv a2] [(.int (0 : Int32)), (.ref a2)])) rfl rfl (hb hby d2_30) k) ?_
  show own_Fin p e below G (s₁.setTop (mkF m 31 #[iv (3 : Int32), rv a2] [(.int m0)]))
  refine own_st (fun _ k => XS.aloadN X0.here hx rfl (hb hby d2_31) rfl rfl k) ?_
  show own_Fin p e below G (s₁.setTop (mkF m 32 #[iv (3 : Int32), rv a2] [(.ref a2), (.int m0)]))
  refine own_st (fun _ k => XS.iconst X0.here hx rfl (hb hby d2_32) k) ?_
  show own_Fin p e below G (s₁.setTop (mkF m 33 #[iv (3 : Int32), rv a2] [(.int (1 : Int32)), (.ref a2), (.int m0)]))
  refine own_st (fun _ k => own_ldI X0 hx hZ e0 A2 (j := (1 : Int32)) (n := 3) rfl (by decide) (g := (mkF m 33 #[iv (3 : Int32), rv a2] [(.int (1 : Int32)), (.ref a2), (.int m0)])) rfl rfl (hb hby d2_33) k) ?_
  show own_Fin p e below G (s₁.setTop (mkF m 34 #[iv (3 : Int32), rv a2] [(.int m1), (.int m0)]))
  refine own_st (fun _ k => XS.imul X0.here hx rfl (hb hby d2_34) rfl k) ?_
  show own_Fin p e below G (s₁.setTop (mkF m 35 #[iv (3 : Int32), rv a2] [(.int (m0 * m1))]))
  refine own_st (fun _ k => XS.aloadN X0.here hx rfl (hb hby d2_35) rfl rfl k) ?_
  show own_Fin p e below G (s₁.setTop (mkF m 36 #[iv (3 : Int32), rv a2] [(.ref a2), (.int (m0 * m1))]))
  refine own_st (fun _ k => XS.iconst X0.here hx rfl (hb hby d2_36) k) ?_
  show own_Fin p e below G (s₁.setTop (mkF m 37 #[iv (3 : Int32), rv a2] [(.int (2 : Int32)), (.ref a2), (.int (m0 * m1))]))
  refine own_st (fun _ k => own_ldI X0 hx hZ e0 A2 (j := (2 : Int32)) (n := 3) rfl (by decide) (g := (mkF m 37 #[iv (3 : Int32), rv a2] [(.int (2 : Int32)), (.ref a2), (.int (m0 * m1))])) rfl rfl (hb hby d2_37) k) ?_
  clear A2
  show own_Fin p e below G (s₁.setTop (mkF m 38 #[iv (3 : Int32), rv a2] [(.int m2), (.int (m0 * m1))]))
  refine own_st (fun _ k => XS.imul X0.here hx rfl (hb hby d2_38) rfl k) ?_
  show own_Fin p e below G (s₁.setTop (mkF m 39 #[iv (3 : Int32), rv a2] [(.int ((m0 * m1) * m2))]))
  refine own_out X0 Bd.notSynchronized (v := (some (.int ((m0 * m1) * m2)))) (fun h => by rw [Bd.returns] at h; cases h) hG (fun fs hr => retOut X0 hx Bd.returns rfl (Or.inl ⟨rfl, Or.inl rfl, _, rfl⟩) (hb hby d2_39) hr) (by decide) (by decide) ?_
  exact ⟨rfl, N0, e0⟩

theorem d4_0 : decode method_4_code 0 = .ok (.iconst 0, 1) := by decide +kernel
theorem d4_1 : decode method_4_code 1 = .ok (.iload_n 0, 1) := by decide +kernel
theorem d4_2 : decode method_4_code 2 = .ok (.if_icmp .gt 12, 3) := by decide +kernel
theorem d4_5 : decode method_4_code 5 = .ok (.iload_n 0, 1) := by decide +kernel
theorem d4_6 : decode method_4_code 6 = .ok (.iload_n 1, 1) := by decide +kernel
theorem d4_7 : decode method_4_code 7 = .ok (.if_icmp .ge 7, 3) := by decide +kernel
theorem d4_10 : decode method_4_code 10 = .ok (.iconst 1, 1) := by decide +kernel
theorem d4_11 : decode method_4_code 11 = .ok (.goto 4, 3) := by decide +kernel
theorem d4_15 : decode method_4_code 15 = .ok (.ireturn, 1) := by decide +kernel
theorem ef_4_II (m : MethodId) (x0 : Int32) (x1 : Int32) : entryFrame m #[(.int x0), (.int x1)] 2 = mkF m 0 #[iv x0, iv x1] [] := by first | (simp [entryFrame, mkF, argsToLocals, Value.category]; done) | rfl
def Qrm_in (Z : State) (p1 : Int32) (p2 : Int32) (h0 : Heap) (n0 : Nat) (v : Option Value) (h : Heap) (L : List Loc) : Prop := v = some (.int 1) ∧ Fr n0 L ∧ h = h0
set_option maxRecDepth 65536 in
set_option maxHeartbeats 40000000 in
theorem rm_in (l : Launch) (Z : State) (a0 : Array Value) (hw : ∀ d ∈ tables_1, d.before a0 Z = true) (ws : List Jvm.Cond) (p1 : Int32) (p2 : Int32) (h0 : Heap) (n0 : Nat) (Z0 : n0 ≤ h0.size) (z1 : ¬ p1 < (0 : Int32)) (z2 : p1 < p2) :
    MetFree l own_y2 (head1 (Jvm.Cond.code own_y2 method_4_code 2 (some .boolean) :: ws) ({ frames := 0, cells := 0, slots := 0, locals := 0 } : Room)) (fun a U => a = #[(.int p1), (.int p2)] ∧ Z.Warmed39 U.vm ∧ U.heap = h0) (fun _ _ _ _ _ => True) (fun _ U o U' => ∃ v L, o = .returned v ∧ Qrm_in Z p1 p2 h0 n0 v U'.heap L ∧ FrameEnd U o U' L ({ frames := 0, cells := 0, slots := 0, locals := 0 } : Room).cells ({ frames := 0, cells := 0, slots := 0, locals := 0 } : Room).slots) := by
  refine MetFree.of_bodySF (plainFor_of_name pn_com_example_paired_paths_pairedpaths_gsos_ChoicesNextPinLaw) hisR ?_
  intro p e s m args below meth c s₁ Bd hml0 hP hK
  obtain ⟨rfl, hZ, hh⟩ := hP
  have hx := Bd.exec
  have hby := Bd.bytes
  have hml : c.maxLocals = 2 := hml0
  have hown : s.vm.findClass "com/example/paired_paths/pairedpaths/gsos/ChoicesNextPinLaw" = some m.cls := findClass_of_methodNamed Bd.named
  have hnm := (name_of_methodNamed Bd.named Bd.method).1
  have X0 : Stand p l e ({ frames := 0, cells := 0, slots := 0, locals := 0 } : Room) s m #[(.int p1), (.int p2)] below meth c s₁ [] 0 0 := Stand.of_body Bd
  have e0 : s₁.heap = h0 := by rw [← hh, Bd.state]; rfl
  have N0 := Fr.nil n0
  have K0 : Keep h0 h0 [] := Keep.refl _ _
  clear K0
  refine own_start (Qk := Qrm_in Z p1 p2 h0 n0) (fun G hG => ?_)
  refine own_st (fun _ k => castTop (ef_4_II m p1 p2) k) ?_
  show own_Fin p e below G (s₁.setTop (mkF m 0 #[iv p1, iv p2] []))
  refine own_st (fun _ k => XS.iconst X0.here hx rfl (hb hby d4_0) k) ?_
  show own_Fin p e below G (s₁.setTop (mkF m 1 #[iv p1, iv p2] [(.int (0 : Int32))]))
  refine own_st (fun _ k => XS.iloadN X0.here hx rfl (hb hby d4_1) rfl  k) ?_
  show own_Fin p e below G (s₁.setTop (mkF m 2 #[iv p1, iv p2] [(.int p1), (.int (0 : Int32))]))
  refine own_st (fun _ k => XS.icmpNo X0.here hx rfl (hb hby d4_2) rfl (flt z1).2.2.1 k) ?_
  show own_Fin p e below G (s₁.setTop (mkF m 5 #[iv p1, iv p2] []))
  refine own_st (fun _ k => XS.iloadN X0.here hx rfl (hb hby d4_5) rfl  k) ?_
  show own_Fin p e below G (s₁.setTop (mkF m 6 #[iv p1, iv p2] [(.int p1)]))
  refine own_st (fun _ k => XS.iloadN X0.here hx rfl (hb hby d4_6) rfl  k) ?_
  show own_Fin p e below G (s₁.setTop (mkF m 7 #[iv p1, iv p2] [(.int p2), (.int p1)]))
  refine own_st (fun _ k => XS.icmpNo X0.here hx rfl (hb hby d4_7) rfl (tlt z2).2.1 k) ?_
  show own_Fin p e below G (s₁.setTop (mkF m 10 #[iv p1, iv p2] []))
  refine own_st (fun _ k => XS.iconst X0.here hx rfl (hb hby d4_10) k) ?_
  show own_Fin p e below G (s₁.setTop (mkF m 11 #[iv p1, iv p2] [(.int (1 : Int32))]))
  refine own_st (fun _ k => XS.goto X0.here hx rfl (pc0 := 11) (pc' := 15) rfl (hb hby d4_11) (by decide) (by decide) k) ?_
  show own_Fin p e below G (s₁.setTop (mkF m 15 #[iv p1, iv p2] [(.int (1 : Int32))]))
  refine own_out X0 Bd.notSynchronized (v := (some (.int (1 : Int32)))) (fun h => by rw [Bd.returns] at h; cases h) hG (fun fs hr => retN X0 hx (t := .boolean) Bd.returns (by simp) (hb hby d4_15) hr) (by decide) (by decide) ?_
  exact ⟨rfl, N0, e0⟩

theorem d3_0 : decode prog_64_method_3_code 0 = .ok (.aload_n 0, 1) := by decide +kernel
theorem d3_1 : decode prog_64_method_3_code 1 = .ok (.arraylength, 1) := by decide +kernel
theorem d3_2 : decode prog_64_method_3_code 2 = .ok (.iconst 1, 1) := by decide +kernel
theorem d3_3 : decode prog_64_method_3_code 3 = .ok (.isub, 1) := by decide +kernel
theorem d3_4 : decode prog_64_method_3_code 4 = .ok (.istore_n 2, 1) := by decide +kernel
theorem d3_5 : decode prog_64_method_3_code 5 = .ok (.iload_n 2, 1) := by decide +kernel
theorem d3_6 : decode prog_64_method_3_code 6 = .ok (.ifCond .lt 31, 3) := by decide +kernel
theorem d3_37 : decode prog_64_method_3_code 37 = .ok (.iconst 0, 1) := by decide +kernel
theorem d3_38 : decode prog_64_method_3_code 38 = .ok (.ireturn, 1) := by decide +kernel
theorem pn_com_example_paired_paths_pairedpaths_gsos_Choices : plainName "com/example/paired_paths/pairedpaths/gsos/Choices" = true := by first | (simp [plainName, overriddenIn]; done) | decide +kernel
theorem ef_3_RR (m : MethodId) (x0 : Addr) (x1 : Addr) : entryFrame m #[(.ref x0), (.ref x1)] 3 = mkF m 0 #[rv x0, rv x1, .unset] [] := by first | (simp [entryFrame, mkF, argsToLocals, Value.category]; done) | rfl
def Qrm_x0 (Z : State) (a1 : Addr) (a2 : Addr) (h0 : Heap) (n0 : Nat) (v : Option Value) (h : Heap) (L : List Loc) : Prop := ∃ (r : Int32) (ys : List Int32), v = some (.int r) ∧ Fr n0 L ∧ Keep h0 h [a1] ∧ own_AV Z h a1 .int (own_is ys) ∧ ((r = (0 : Int32) ∧ ys = []))
set_option maxRecDepth 65536 in
set_option maxHeartbeats 40000000 in
theorem rm_x0 (l : Launch) (Z : State) (a0 : Array Value) (hw : ∀ d ∈ tables_1, d.before a0 Z = true) (ws : List Jvm.Cond) (a1 : Addr) (a2 : Addr) (h0 : Heap) (n0 : Nat) (Z0 : n0 ≤ h0.size) (A1 : own_AV Z h0 a1 .int (own_is [])) (A2 : own_AV Z h0 a2 .int (own_is [])) (hne : a1 ≠ a2) (g1 : n0 ≤ a1) :
    MetFree l own_y3 (head1 (Jvm.Cond.code own_y3 prog_64_method_3_code 3 (some .boolean) :: ws) ({ frames := 0, cells := 0, slots := 0, locals := 0 } : Room)) (fun a U => a = #[(.ref a1), (.ref a2)] ∧ Z.Warmed39 U.vm ∧ U.heap = h0) (fun _ _ _ _ _ => True) (fun _ U o U' => ∃ v L, o = .returned v ∧ Qrm_x0 Z a1 a2 h0 n0 v U'.heap L ∧ FrameEnd U o U' L ({ frames := 0, cells := 0, slots := 0, locals := 0 } : Room).cells ({ frames := 0, cells := 0, slots := 0, locals := 0 } : Room).slots) := by
  refine MetFree.of_bodySF (plainFor_of_name pn_com_example_paired_paths_pairedpaths_gsos_Choices) hisR ?_
  intro p e s m args below meth c s₁ Bd hml0 hP hK
  obtain ⟨rfl, hZ, hh⟩ := hP
  have hx := Bd.exec
  have hby := Bd.bytes
  have hml : c.maxLocals = 3 := hml0
  have hown : s.vm.findClass "com/example/paired_paths/pairedpaths/gsos/Choices" = some m.cls := findClass_of_methodNamed Bd.named
  have hnm := (name_of_methodNamed Bd.named Bd.method).1
  have X0 : Stand p l e ({ frames := 0, cells := 0, slots := 0, locals := 0 } : Room) s m #[(.ref a1), (.ref a2)] below meth c s₁ [] 0 0 := Stand.of_body Bd
  have e0 : s₁.heap = h0 := by rw [← hh, Bd.state]; rfl
  have N0 := Fr.nil n0
  have K0 : Keep h0 h0 [a1] := Keep.refl _ _
  refine own_start (Qk := Qrm_x0 Z a1 a2 h0 n0) (fun G hG => ?_)
  refine own_st (fun _ k => castTop (ef_3_RR m a1 a2) k) ?_
  show own_Fin p e below G (s₁.setTop (mkF m 0 #[rv a1, rv a2, .unset] []))
  refine own_st (fun _ k => XS.aloadN X0.here hx rfl (hb hby d3_0) rfl rfl k) ?_
  show own_Fin p e below G (s₁.setTop (mkF m 1 #[rv a1, rv a2, .unset] [(.ref a1)]))
  refine own_st (fun _ k => own_len X0 hx hZ e0 A1 (z := (0 : Int32)) rfl (g := (mkF m 1 #[rv a1, rv a2, .unset] [(.ref a1)])) rfl rfl (hb hby d3_1) k) ?_
  show own_Fin p e below G (s₁.setTop (mkF m 2 #[rv a1, rv a2, .unset] [(.int (0 : Int32))]))
  refine own_st (fun _ k => XS.iconst X0.here hx rfl (hb hby d3_2) k) ?_
  show own_Fin p e below G (s₁.setTop (mkF m 3 #[rv a1, rv a2, .unset] [(.int (1 : Int32)), (.int (0 : Int32))]))
  refine own_st (fun _ k => XS.isub X0.here hx rfl (hb hby d3_3) rfl k) ?_
  show own_Fin p e below G (s₁.setTop (mkF m 4 #[rv a1, rv a2, .unset] [(.int (-1 : Int32))]))
  refine own_st (fun _ k => XS.istoreN X0.here hx rfl (hb hby d3_4) rfl (l' := #[rv a1, rv a2, iv (-1 : Int32)]) rfl k) ?_
  show own_Fin p e below G (s₁.setTop (mkF m 5 #[rv a1, rv a2, iv (-1 : Int32)] []))
  refine own_st (fun _ k => XS.iloadN X0.here hx rfl (hb hby d3_5) rfl  k) ?_
  show own_Fin p e below G (s₁.setTop (mkF m 6 #[rv a1, rv a2, iv (-1 : Int32)] [(.int (-1 : Int32))]))
  refine own_st (fun _ k => XS.ifYes X0.here hx rfl (pc0 := 6) (pc' := 37) rfl (hb hby d3_6) rfl ((if0 _ _).trans (tlt (by decide : ((-1 : Int32) < (0 : Int32)))).1) (by decide) (by decide) k) ?_
  show own_Fin p e below G (s₁.setTop (mkF m 37 #[rv a1, rv a2, iv (-1 : Int32)] []))
  refine own_st (fun _ k => XS.iconst X0.here hx rfl (hb hby d3_37) k) ?_
  show own_Fin p e below G (s₁.setTop (mkF m 38 #[rv a1, rv a2, iv (-1 : Int32)] [(.int (0 : Int32))]))
  refine own_out X0 Bd.notSynchronized (v := (some (.int (0 : Int32)))) (fun h => by rw [Bd.returns] at h; cases h) hG (fun fs hr => retN X0 hx (t := .boolean) Bd.returns (by simp) (hb hby d3_38) hr) (by decide) (by decide) ?_
  exact ⟨(0 : Int32), [], rfl, N0, e0.symm ▸ K0, e0.symm ▸ A1, ⟨rfl, rfl⟩⟩

theorem d3_9 : decode prog_64_method_3_code 9 = .ok (.aload_n 0, 1) := by decide +kernel
theorem d3_10 : decode prog_64_method_3_code 10 = .ok (.iload_n 2, 1) := by decide +kernel
theorem d3_11 : decode prog_64_method_3_code 11 = .ok (.dup2, 1) := by decide +kernel
theorem d3_12 : decode prog_64_method_3_code 12 = .ok (.iaload, 1) := by decide +kernel
theorem d3_13 : decode prog_64_method_3_code 13 = .ok (.iconst 1, 1) := by decide +kernel
theorem d3_14 : decode prog_64_method_3_code 14 = .ok (.iadd, 1) := by decide +kernel
theorem d3_15 : decode prog_64_method_3_code 15 = .ok (.iastore, 1) := by decide +kernel
theorem d3_16 : decode prog_64_method_3_code 16 = .ok (.aload_n 0, 1) := by decide +kernel
theorem d3_17 : decode prog_64_method_3_code 17 = .ok (.iload_n 2, 1) := by decide +kernel
theorem d3_18 : decode prog_64_method_3_code 18 = .ok (.iaload, 1) := by decide +kernel
theorem d3_19 : decode prog_64_method_3_code 19 = .ok (.aload_n 1, 1) := by decide +kernel
theorem d3_20 : decode prog_64_method_3_code 20 = .ok (.iload_n 2, 1) := by decide +kernel
theorem d3_21 : decode prog_64_method_3_code 21 = .ok (.iaload, 1) := by decide +kernel
theorem d3_22 : decode prog_64_method_3_code 22 = .ok (.if_icmp .ge 5, 3) := by decide +kernel
theorem d3_25 : decode prog_64_method_3_code 25 = .ok (.iconst 1, 1) := by decide +kernel
theorem d3_26 : decode prog_64_method_3_code 26 = .ok (.ireturn, 1) := by decide +kernel
theorem d3_27 : decode prog_64_method_3_code 27 = .ok (.aload_n 0, 1) := by decide +kernel
theorem d3_28 : decode prog_64_method_3_code 28 = .ok (.iload_n 2, 1) := by decide +kernel
theorem d3_29 : decode prog_64_method_3_code 29 = .ok (.iconst 0, 1) := by decide +kernel
theorem d3_30 : decode prog_64_method_3_code 30 = .ok (.iastore, 1) := by decide +kernel
theorem d3_31 : decode prog_64_method_3_code 31 = .ok (.iinc 2 (-1), 3) := by decide +kernel
theorem d3_34 : decode prog_64_method_3_code 34 = .ok (.goto (-29), 3) := by decide +kernel
def Qrm_x1 (Z : State) (a1 : Addr) (a2 : Addr) (c0 : Int32) (m0 : Int32) (h0 : Heap) (n0 : Nat) (v : Option Value) (h : Heap) (L : List Loc) : Prop := ∃ (r : Int32) (ys : List Int32), v = some (.int r) ∧ Fr n0 L ∧ Keep h0 h [a1] ∧ own_AV Z h a1 .int (own_is ys) ∧ (((c0 + (1 : Int32)) < m0 ∧ r = (1 : Int32) ∧ ys = [(c0 + (1 : Int32))]) ∨ (¬ (c0 + (1 : Int32)) < m0 ∧ r = (0 : Int32) ∧ ys = [(0 : Int32)]))
set_option maxRecDepth 65536 in
set_option maxHeartbeats 40000000 in
theorem rm_x1 (l : Launch) (Z : State) (a0 : Array Value) (hw : ∀ d ∈ tables_1, d.before a0 Z = true) (ws : List Jvm.Cond) (a1 : Addr) (a2 : Addr) (c0 : Int32) (m0 : Int32) (h0 : Heap) (n0 : Nat) (Z0 : n0 ≤ h0.size) (A1 : own_AV Z h0 a1 .int (own_is [c0])) (A2 : own_AV Z h0 a2 .int (own_is [m0])) (hne : a1 ≠ a2) (g1 : n0 ≤ a1) :
    MetFree l own_y3 (head1 (Jvm.Cond.code own_y3 prog_64_method_3_code 3 (some .boolean) :: ws) ({ frames := 0, cells := 0, slots := 0, locals := 0 } : Room)) (fun a U => a = #[(.ref a1), (.ref a2)] ∧ Z.Warmed39 U.vm ∧ U.heap = h0) (fun _ _ _ _ _ => True) (fun _ U o U' => ∃ v L, o = .returned v ∧ Qrm_x1 Z a1 a2 c0 m0 h0 n0 v U'.heap L ∧ FrameEnd U o U' L ({ frames := 0, cells := 0, slots := 0, locals := 0 } : Room).cells ({ frames := 0, cells := 0, slots := 0, locals := 0 } : Room).slots) := by
  refine MetFree.of_bodySF (plainFor_of_name pn_com_example_paired_paths_pairedpaths_gsos_Choices) hisR ?_
  intro p e s m args below meth c s₁ Bd hml0 hP hK
  obtain ⟨rfl, hZ, hh⟩ := hP
  have hx := Bd.exec
  have hby := Bd.bytes
  have hml : c.maxLocals = 3 := hml0
  have hown : s.vm.findClass "com/example/paired_paths/pairedpaths/gsos/Choices" = some m.cls := findClass_of_methodNamed Bd.named
  have hnm := (name_of_methodNamed Bd.named Bd.method).1
  have X0 : Stand p l e ({ frames := 0, cells := 0, slots := 0, locals := 0 } : Room) s m #[(.ref a1), (.ref a2)] below meth c s₁ [] 0 0 := Stand.of_body Bd
  have e0 : s₁.heap = h0 := by rw [← hh, Bd.state]; rfl
  have N0 := Fr.nil n0
  have K0 : Keep h0 h0 [a1] := Keep.refl _ _
  refine own_start (Qk := Qrm_x1 Z a1 a2 c0 m0 h0 n0) (fun G hG => ?_)
  refine own_st (fun _ k => castTop (ef_3_RR m a1 a2) k) ?_
  show own_Fin p e below G (s₁.setTop (mkF m 0 #[rv a1, rv a2, .unset] []))
  refine own_st (fun _ k => XS.aloadN X0.here hx rfl (hb hby d3_0) rfl rfl k) ?_
  show own_Fin p e below G (s₁.setTop (mkF m 1 #[rv a1, rv a2, .unset] [(.ref a1)]))
  refine own_st (fun _ k => own_len X0 hx hZ e0 A1 (z := (1 : Int32)) rfl (g := (mkF m 1 #[rv a1, rv a2, .unset] [(.ref a1)])) rfl rfl (hb hby d3_1) k) ?_
  show own_Fin p e below G (s₁.setTop (mkF m 2 #[rv a1, rv a2, .unset] [(.int (1 : Int32))]))
  refine own_st (fun _ k => XS.iconst X0.here hx rfl (hb hby d3_2) k) ?_
  show own_Fin p e below G (s₁.setTop (mkF m 3 #[rv a1, rv a2, .unset] [(.int (1 : Int32)), (.int (1 : Int32))]))
  refine own_st (fun _ k => XS.isub X0.here hx rfl (hb hby d3_3) rfl k) ?_
  show own_Fin p e below G (s₁.setTop (mkF m 4 #[rv a1, rv a2, .unset] [(.int (0 : Int32))]))
  refine own_st (fun _ k => XS.istoreN X0.here hx rfl (hb hby d3_4) rfl (l' := #[rv a1, rv a2, iv (0 : Int32)]) rfl k) ?_
  show own_Fin p e below G (s₁.setTop (mkF m 5 #[rv a1, rv a2, iv (0 : Int32)] []))
  refine own_st (fun _ k => XS.iloadN X0.here hx rfl (hb hby d3_5) rfl  k) ?_
  show own_Fin p e below G (s₁.setTop (mkF m 6 #[rv a1, rv a2, iv (0 : Int32)] [(.int (0 : Int32))]))
  refine own_st (fun _ k => XS.ifNo X0.here hx rfl (hb hby d3_6) rfl ((if0 _ _).trans (flt (by decide : ¬ ((0 : Int32) < (0 : Int32)))).1) k) ?_
  show own_Fin p e below G (s₁.setTop (mkF m 9 #[rv a1, rv a2, iv (0 : Int32)] []))
  refine own_st (fun _ k => XS.aloadN X0.here hx rfl (hb hby d3_9) rfl rfl k) ?_
  show own_Fin p e below G (s₁.setTop (mkF m 10 #[rv a1, rv a2, iv (0 : Int32)] [(.ref a1)]))
  refine own_st (fun _ k => XS.iloadN X0.here hx rfl (hb hby d3_10) rfl  k) ?_
  show own_Fin p e below G (s₁.setTop (mkF m 11 #[rv a1, rv a2, iv (0 : Int32)] [(.int (0 : Int32)), (.ref a1)]))
  refine own_st (fun _ k => XT.dup2 X0.here hx rfl (hb hby d3_11) rfl rfl rfl k) ?_
  show own_Fin p e below G (s₁.setTop (mkF m 12 #[rv a1, rv a2, iv (0 : Int32)] [(.int (0 : Int32)), (.ref a1), (.int (0 : Int32)), (.ref a1)]))
  refine own_st (fun _ k => own_ldI X0 hx hZ e0 A1 (j := (0 : Int32)) (n := 1) rfl (by decide) (g := (mkF m 12 #[rv a1, rv a2, iv (0 : Int32)] [(.int (0 : Int32)), (.ref a1), (.int (0 : Int32)), (.ref a1)])) rfl rfl (hb hby d3_12) k) ?_
  show own_Fin p e below G (s₁.setTop (mkF m 13 #[rv a1, rv a2, iv (0 : Int32)] [(.int c0), (.int (0 : Int32)), (.ref a1)]))
  refine own_st (fun _ k => XS.iconst X0.here hx rfl (hb hby d3_13) k) ?_
  show own_Fin p e below G (s₁.setTop (mkF m 14 #[rv a1, rv a2, iv (0 : Int32)] [(.int (1 : Int32)), (.int c0), (.int (0 : Int32)), (.ref a1)]))
  refine own_st (fun _ k => XS.iadd X0.here hx rfl (hb hby d3_14) rfl k) ?_
  show own_Fin p e below G (s₁.setTop (mkF m 15 #[rv a1, rv a2, iv (0 : Int32)] [(.int (c0 + (1 : Int32))), (.int (0 : Int32)), (.ref a1)]))
  obtain ⟨T1, h1, X1, e1, W1, V1, st1⟩ := own_stI X0 hx hZ e0 A1 (j := (0 : Int32)) (n := 1) rfl (by decide) (g := (mkF m 15 #[rv a1, rv a2, iv (0 : Int32)] [(.int (c0 + (1 : Int32))), (.int (0 : Int32)), (.ref a1)])) rfl rfl (hb hby d3_15)
  clear X0 e0 A1
  have f2_1 := A2.other W1 (Ne.symm hne)
  clear A2
  have K3 : Keep h0 h1 [a1] := K0.wr W1 (Or.inl (List.mem_of_getElem? (i := 0) rfl))
  clear K0 W1
  have N4 := Fr.snoc X1 N0 g1
  clear N0
  replace V1 : own_AV Z h1 a1 .int (own_is [(c0 + (1 : Int32))]) := V1
  refine own_st st1 ?_
  clear st1
  show own_Fin p e below G (T1.setTop (mkF m 16 #[rv a1, rv a2, iv (0 : Int32)] []))
  refine own_st (fun _ k => XS.aloadN X1.here hx rfl (hb hby d3_16) rfl rfl k) ?_
  show own_Fin p e below G (T1.setTop (mkF m 17 #[rv a1, rv a2, iv (0 : Int32)] [(.ref a1)]))
  refine own_st (fun _ k => XS.iloadN X1.here hx rfl (hb hby d3_17) rfl  k) ?_
  show own_Fin p e below G (T1.setTop (mkF m 18 #[rv a1, rv a2, iv (0 : Int32)] [(.int (0 : Int32)), (.ref a1)]))
  refine own_st (fun _ k => own_ldI X1 hx hZ e1 V1 (j := (0 : Int32)) (n := 1) rfl (by decide) (g := (mkF m 18 #[rv a1, rv a2, iv (0 : Int32)] [(.int (0 : Int32)), (.ref a1)])) rfl rfl (hb hby d3_18) k) ?_
  show own_Fin p e below G (T1.setTop (mkF m 19 #[rv a1, rv a2, iv (0 : Int32)] [(.int (c0 + (1 : Int32)))]))
  refine own_st (fun _ k => XS.aloadN X1.here hx rfl (hb hby d3_19) rfl rfl k) ?_
  show own_Fin p e below G (T1.setTop (mkF m 20 #[rv a1, rv a2, iv (0 : Int32)] [(.ref a2), (.int (c0 + (1 : Int32)))]))
  refine own_st (fun _ k => XS.iloadN X1.here hx rfl (hb hby d3_20) rfl  k) ?_
  show own_Fin p e below G (T1.setTop (mkF m 21 #[rv a1, rv a2, iv (0 : Int32)] [(.int (0 : Int32)), (.ref a2), (.int (c0 + (1 : Int32)))]))
  refine own_st (fun _ k => own_ldI X1 hx hZ e1 f2_1 (j := (0 : Int32)) (n := 1) rfl (by decide) (g := (mkF m 21 #[rv a1, rv a2, iv (0 : Int32)] [(.int (0 : Int32)), (.ref a2), (.int (c0 + (1 : Int32)))])) rfl rfl (hb hby d3_21) k) ?_
  show own_Fin p e below G (T1.setTop (mkF m 22 #[rv a1, rv a2, iv (0 : Int32)] [(.int m0), (.int (c0 + (1 : Int32)))]))
  by_cases hc22_5 : (c0 + (1 : Int32)) < m0
  · refine own_st (fun _ k => XS.icmpNo X1.here hx rfl (hb hby d3_22) rfl (tlt hc22_5).2.1 k) ?_
    show own_Fin p e below G (T1.setTop (mkF m 25 #[rv a1, rv a2, iv (0 : Int32)] []))
    refine own_st (fun _ k => XS.iconst X1.here hx rfl (hb hby d3_25) k) ?_
    show own_Fin p e below G (T1.setTop (mkF m 26 #[rv a1, rv a2, iv (0 : Int32)] [(.int (1 : Int32))]))
    refine own_out X1 Bd.notSynchronized (v := (some (.int (1 : Int32)))) (fun h => by rw [Bd.returns] at h; cases h) hG (fun fs hr => retN X1 hx (t := .boolean) Bd.returns (by simp) (hb hby d3_26) hr) (by decide) (by decide) ?_
    exact ⟨(1 : Int32), [(c0 + (1 : Int32))], rfl, N4, e1.symm ▸ K3, e1.symm ▸ V1, (Or.inl ⟨hc22_5, rfl, rfl⟩)⟩
  · refine own_st (fun _ k => XS.icmpYes X1.here hx rfl (pc0 := 22) (pc' := 27) rfl (hb hby d3_22) rfl (flt hc22_5).2.1 (by decide) (by decide) k) ?_
    show own_Fin p e below G (T1.setTop (mkF m 27 #[rv a1, rv a2, iv (0 : Int32)] []))
    refine own_st (fun _ k => XS.aloadN X1.here hx rfl (hb hby d3_27) rfl rfl k) ?_
    show own_Fin p e below G (T1.setTop (mkF m 28 #[rv a1, rv a2, iv (0 : Int32)] [(.ref a1)]))
    refine own_st (fun _ k => XS.iloadN X1.here hx rfl (hb hby d3_28) rfl  k) ?_
    show own_Fin p e below G (T1.setTop (mkF m 29 #[rv a1, rv a2, iv (0 : Int32)] [(.int (0 : Int32)), (.ref a1)]))
    refine own_st (fun _ k => XS.iconst X1.here hx rfl (hb hby d3_29) k) ?_
    show own_Fin p e below G (T1.setTop (mkF m 30 #[rv a1, rv a2, iv (0 : Int32)] [(.int (0 : Int32)), (.int (0 : Int32)), (.ref a1)]))
    obtain ⟨T6, h6, X6, e6, W6, V6, st6⟩ := own_stI X1 hx hZ e1 V1 (j := (0 : Int32)) (n := 1) rfl (by decide) (g := (mkF m 30 #[rv a1, rv a2, iv (0 : Int32)] [(.int (0 : Int32)), (.int (0 : Int32)), (.ref a1)])) rfl rfl (hb hby d3_30)
    clear X1 e1 V1
    have f7_1 := f2_1.other W6 (Ne.symm hne)
    clear f2_1 f7_1
    have K8 : Keep h0 h6 [a1] := K3.wr W6 (Or.inl (List.mem_of_getElem? (i := 0) rfl))
    clear K3 W6
    have N9 := Fr.snoc X6 N4 g1
    clear N4
    replace V6 : own_AV Z h6 a1 .int (own_is [(0 : Int32)]) := V6
    refine own_st st6 ?_
    clear st6
    show own_Fin p e below G (T6.setTop (mkF m 31 #[rv a1, rv a2, iv (0 : Int32)] []))
    refine own_st (fun _ k => XS.iinc X6.here hx rfl (hb hby d3_31) rfl (l' := #[rv a1, rv a2, iv (-1 : Int32)]) rfl k) ?_
    show own_Fin p e below G (T6.setTop (mkF m 34 #[rv a1, rv a2, iv (-1 : Int32)] []))
    refine own_st (fun _ k => XS.goto X6.here hx rfl (pc0 := 34) (pc' := 5) rfl (hb hby d3_34) (by decide) (by decide) k) ?_
    show own_Fin p e below G (T6.setTop (mkF m 5 #[rv a1, rv a2, iv (-1 : Int32)] []))
    refine own_st (fun _ k => XS.iloadN X6.here hx rfl (hb hby d3_5) rfl  k) ?_
    show own_Fin p e below G (T6.setTop (mkF m 6 #[rv a1, rv a2, iv (-1 : Int32)] [(.int (-1 : Int32))]))
    refine own_st (fun _ k => XS.ifYes X6.here hx rfl (pc0 := 6) (pc' := 37) rfl (hb hby d3_6) rfl ((if0 _ _).trans (tlt (by decide : ((-1 : Int32) < (0 : Int32)))).1) (by decide) (by decide) k) ?_
    show own_Fin p e below G (T6.setTop (mkF m 37 #[rv a1, rv a2, iv (-1 : Int32)] []))
    refine own_st (fun _ k => XS.iconst X6.here hx rfl (hb hby d3_37) k) ?_
    show own_Fin p e below G (T6.setTop (mkF m 38 #[rv a1, rv a2, iv (-1 : Int32)] [(.int (0 : Int32))]))
    refine own_out X6 Bd.notSynchronized (v := (some (.int (0 : Int32)))) (fun h => by rw [Bd.returns] at h; cases h) hG (fun fs hr => retN X6 hx (t := .boolean) Bd.returns (by simp) (hb hby d3_38) hr) (by decide) (by decide) ?_
    exact ⟨(0 : Int32), [(0 : Int32)], rfl, N9, e6.symm ▸ K8, e6.symm ▸ V6, (Or.inr ⟨hc22_5, rfl, rfl⟩)⟩

def Qrm_x2 (Z : State) (a1 : Addr) (a2 : Addr) (c0 : Int32) (c1 : Int32) (m0 : Int32) (m1 : Int32) (h0 : Heap) (n0 : Nat) (v : Option Value) (h : Heap) (L : List Loc) : Prop := ∃ (r : Int32) (ys : List Int32), v = some (.int r) ∧ Fr n0 L ∧ Keep h0 h [a1] ∧ own_AV Z h a1 .int (own_is ys) ∧ (((c1 + (1 : Int32)) < m1 ∧ r = (1 : Int32) ∧ ys = [c0, (c1 + (1 : Int32))]) ∨ (¬ (c1 + (1 : Int32)) < m1 ∧ (c0 + (1 : Int32)) < m0 ∧ r = (1 : Int32) ∧ ys = [(c0 + (1 : Int32)), (0 : Int32)]) ∨ (¬ (c1 + (1 : Int32)) < m1 ∧ ¬ (c0 + (1 : Int32)) < m0 ∧ r = (0 : Int32) ∧ ys = [(0 : Int32), (0 : Int32)]))
set_option maxRecDepth 65536 in
set_option maxHeartbeats 40000000 in
theorem rm_x2 (l : Launch) (Z : State) (a0 : Array Value) (hw : ∀ d ∈ tables_1, d.before a0 Z = true) (ws : List Jvm.Cond) (a1 : Addr) (a2 : Addr) (c0 : Int32) (c1 : Int32) (m0 : Int32) (m1 : Int32) (h0 : Heap) (n0 : Nat) (Z0 : n0 ≤ h0.size) (A1 : own_AV Z h0 a1 .int (own_is [c0, c1])) (A2 : own_AV Z h0 a2 .int (own_is [m0, m1])) (hne : a1 ≠ a2) (g1 : n0 ≤ a1) :
    MetFree l own_y3 (head1 (Jvm.Cond.code own_y3 prog_64_method_3_code 3 (some .boolean) :: ws) ({ frames := 0, cells := 0, slots := 0, locals := 0 } : Room)) (fun a U => a = #[(.ref a1), (.ref a2)] ∧ Z.Warmed39 U.vm ∧ U.heap = h0) (fun _ _ _ _ _ => True) (fun _ U o U' => ∃ v L, o = .returned v ∧ Qrm_x2 Z a1 a2 c0 c1 m0 m1 h0 n0 v U'.heap L ∧ FrameEnd U o U' L ({ frames := 0, cells := 0, slots := 0, locals := 0 } : Room).cells ({ frames := 0, cells := 0, slots := 0, locals := 0 } : Room).slots) := by
  refine MetFree.of_bodySF (plainFor_of_name pn_com_example_paired_paths_pairedpaths_gsos_Choices) hisR ?_
  intro p e s m args below meth c s₁ Bd hml0 hP hK
  obtain ⟨rfl, hZ, hh⟩ := hP
  have hx := Bd.exec
  have hby := Bd.bytes
  have hml : c.maxLocals = 3 := hml0
  have hown : s.vm.findClass "com/example/paired_paths/pairedpaths/gsos/Choices" = some m.cls := findClass_of_methodNamed Bd.named
  have hnm := (name_of_methodNamed Bd.named Bd.method).1
  have X0 : Stand p l e ({ frames := 0, cells := 0, slots := 0, locals := 0 } : Room) s m #[(.ref a1), (.ref a2)] below meth c s₁ [] 0 0 := Stand.of_body Bd
  have e0 : s₁.heap = h0 := by rw [← hh, Bd.state]; rfl
  have N0 := Fr.nil n0
  have K0 : Keep h0 h0 [a1] := Keep.refl _ _
  refine own_start (Qk := Qrm_x2 Z a1 a2 c0 c1 m0 m1 h0 n0) (fun G hG => ?_)
  refine own_st (fun _ k => castTop (ef_3_RR m a1 a2) k) ?_
  show own_Fin p e below G (s₁.setTop (mkF m 0 #[rv a1, rv a2, .unset] []))
  refine own_st (fun _ k => XS.aloadN X0.here hx rfl (hb hby d3_0) rfl rfl k) ?_
  show own_Fin p e below G (s₁.setTop (mkF m 1 #[rv a1, rv a2, .unset] [(.ref a1)]))
  refine own_st (fun _ k => own_len X0 hx hZ e0 A1 (z := (2 : Int32)) rfl (g := (mkF m 1 #[rv a1, rv a2, .unset] [(.ref a1)])) rfl rfl (hb hby d3_1) k) ?_
  show own_Fin p e below G (s₁.setTop (mkF m 2 #[rv a1, rv a2, .unset] [(.int (2 : Int32))]))
  refine own_st (fun _ k => XS.iconst X0.here hx rfl (hb hby d3_2) k) ?_
  show own_Fin p e below G (s₁.setTop (mkF m 3 #[rv a1, rv a2, .unset] [(.int (1 : Int32)), (.int (2 : Int32))]))
  refine own_st (fun _ k => XS.isub X0.here hx rfl (hb hby d3_3) rfl k) ?_
  show own_Fin p e below G (s₁.setTop (mkF m 4 #[rv a1, rv a2, .unset] [(.int (1 : Int32))]))
  refine own_st (fun _ k => XS.istoreN X0.here hx rfl (hb hby d3_4) rfl (l' := #[rv a1, rv a2, iv (1 : Int32)]) rfl k) ?_
  show own_Fin p e below G (s₁.setTop (mkF m 5 #[rv a1, rv a2, iv (1 : Int32)] []))
  refine own_st (fun _ k => XS.iloadN X0.here hx rfl (hb hby d3_5) rfl  k) ?_
  show own_Fin p e below G (s₁.setTop (mkF m 6 #[rv a1, rv a2, iv (1 : Int32)] [(.int (1 : Int32))]))
  refine own_st (fun _ k => XS.ifNo X0.here hx rfl (hb hby d3_6) rfl ((if0 _ _).trans (flt (by decide : ¬ ((1 : Int32) < (0 : Int32)))).1) k) ?_
  show own_Fin p e below G (s₁.setTop (mkF m 9 #[rv a1, rv a2, iv (1 : Int32)] []))
  refine own_st (fun _ k => XS.aloadN X0.here hx rfl (hb hby d3_9) rfl rfl k) ?_
  show own_Fin p e below G (s₁.setTop (mkF m 10 #[rv a1, rv a2, iv (1 : Int32)] [(.ref a1)]))
  refine own_st (fun _ k => XS.iloadN X0.here hx rfl (hb hby d3_10) rfl  k) ?_
  show own_Fin p e below G (s₁.setTop (mkF m 11 #[rv a1, rv a2, iv (1 : Int32)] [(.int (1 : Int32)), (.ref a1)]))
  refine own_st (fun _ k => XT.dup2 X0.here hx rfl (hb hby d3_11) rfl rfl rfl k) ?_
  show own_Fin p e below G (s₁.setTop (mkF m 12 #[rv a1, rv a2, iv (1 : Int32)] [(.int (1 : Int32)), (.ref a1), (.int (1 : Int32)), (.ref a1)]))
  refine own_st (fun _ k => own_ldI X0 hx hZ e0 A1 (j := (1 : Int32)) (n := 2) rfl (by decide) (g := (mkF m 12 #[rv a1, rv a2, iv (1 : Int32)] [(.int (1 : Int32)), (.ref a1), (.int (1 : Int32)), (.ref a1)])) rfl rfl (hb hby d3_12) k) ?_
  show own_Fin p e below G (s₁.setTop (mkF m 13 #[rv a1, rv a2, iv (1 : Int32)] [(.int c1), (.int (1 : Int32)), (.ref a1)]))
  refine own_st (fun _ k => XS.iconst X0.here hx rfl (hb hby d3_13) k) ?_
  show own_Fin p e below G (s₁.setTop (mkF m 14 #[rv a1, rv a2, iv (1 : Int32)] [(.int (1 : Int32)), (.int c1), (.int (1 : Int32)), (.ref a1)]))
  refine own_st (fun _ k => XS.iadd X0.here hx rfl (hb hby d3_14) rfl k) ?_
  show own_Fin p e below G (s₁.setTop (mkF m 15 #[rv a1, rv a2, iv (1 : Int32)] [(.int (c1 + (1 : Int32))), (.int (1 : Int32)), (.ref a1)]))
  obtain ⟨T10, h10, X10, e10, W10, V10, st10⟩ := own_stI X0 hx hZ e0 A1 (j := (1 : Int32)) (n := 2) rfl (by decide) (g := (mkF m 15 #[rv a1, rv a2, iv (1 : Int32)] [(.int (c1 + (1 : Int32))), (.int (1 : Int32)), (.ref a1)])) rfl rfl (hb hby d3_15)
  clear X0 e0 A1
  have f11_1 := A2.other W10 (Ne.symm hne)
  clear A2
  have K12 : Keep h0 h10 [a1] := K0.wr W10 (Or.inl (List.mem_of_getElem? (i := 0) rfl))
  clear K0 W10
  have N13 := Fr.snoc X10 N0 g1
  clear N0
  replace V10 : own_AV Z h10 a1 .int (own_is [c0, (c1 + (1 : Int32))]) := V10
  refine own_st st10 ?_
  clear st10
  show own_Fin p e below G (T10.setTop (mkF m 16 #[rv a1, rv a2, iv (1 : Int32)] []))
  refine own_st (fun _ k => XS.aloadN X10.here hx rfl (hb hby d3_16) rfl rfl k) ?_
  show own_Fin p e below G (T10.setTop (mkF m 17 #[rv a1, rv a2, iv (1 : Int32)] [(.ref a1)]))
  refine own_st (fun _ k => XS.iloadN X10.here hx rfl (hb hby d3_17) rfl  k) ?_
  show own_Fin p e below G (T10.setTop (mkF m 18 #[rv a1, rv a2, iv (1 : Int32)] [(.int (1 : Int32)), (.ref a1)]))
  refine own_st (fun _ k => own_ldI X10 hx hZ e10 V10 (j := (1 : Int32)) (n := 2) rfl (by decide) (g := (mkF m 18 #[rv a1, rv a2, iv (1 : Int32)] [(.int (1 : Int32)), (.ref a1)])) rfl rfl (hb hby d3_18) k) ?_
  show own_Fin p e below G (T10.setTop (mkF m 19 #[rv a1, rv a2, iv (1 : Int32)] [(.int (c1 + (1 : Int32)))]))
  refine own_st (fun _ k => XS.aloadN X10.here hx rfl (hb hby d3_19) rfl rfl k) ?_
  show own_Fin p e below G (T10.setTop (mkF m 20 #[rv a1, rv a2, iv (1 : Int32)] [(.ref a2), (.int (c1 + (1 : Int32)))]))
  refine own_st (fun _ k => XS.iloadN X10.here hx rfl (hb hby d3_20) rfl  k) ?_
  show own_Fin p e below G (T10.setTop (mkF m 21 #[rv a1, rv a2, iv (1 : Int32)] [(.int (1 : Int32)), (.ref a2), (.int (c1 + (1 : Int32)))]))
  refine own_st (fun _ k => own_ldI X10 hx hZ e10 f11_1 (j := (1 : Int32)) (n := 2) rfl (by decide) (g := (mkF m 21 #[rv a1, rv a2, iv (1 : Int32)] [(.int (1 : Int32)), (.ref a2), (.int (c1 + (1 : Int32)))])) rfl rfl (hb hby d3_21) k) ?_
  show own_Fin p e below G (T10.setTop (mkF m 22 #[rv a1, rv a2, iv (1 : Int32)] [(.int m1), (.int (c1 + (1 : Int32)))]))
  by_cases hc22_14 : (c1 + (1 : Int32)) < m1
  · refine own_st (fun _ k => XS.icmpNo X10.here hx rfl (hb hby d3_22) rfl (tlt hc22_14).2.1 k) ?_
    show own_Fin p e below G (T10.setTop (mkF m 25 #[rv a1, rv a2, iv (1 : Int32)] []))
    refine own_st (fun _ k => XS.iconst X10.here hx rfl (hb hby d3_25) k) ?_
    show own_Fin p e below G (T10.setTop (mkF m 26 #[rv a1, rv a2, iv (1 : Int32)] [(.int (1 : Int32))]))
    refine own_out X10 Bd.notSynchronized (v := (some (.int (1 : Int32)))) (fun h => by rw [Bd.returns] at h; cases h) hG (fun fs hr => retN X10 hx (t := .boolean) Bd.returns (by simp) (hb hby d3_26) hr) (by decide) (by decide) ?_
    exact ⟨(1 : Int32), [c0, (c1 + (1 : Int32))], rfl, N13, e10.symm ▸ K12, e10.symm ▸ V10, (Or.inl ⟨hc22_14, rfl, rfl⟩)⟩
  · refine own_st (fun _ k => XS.icmpYes X10.here hx rfl (pc0 := 22) (pc' := 27) rfl (hb hby d3_22) rfl (flt hc22_14).2.1 (by decide) (by decide) k) ?_
    show own_Fin p e below G (T10.setTop (mkF m 27 #[rv a1, rv a2, iv (1 : Int32)] []))
    refine own_st (fun _ k => XS.aloadN X10.here hx rfl (hb hby d3_27) rfl rfl k) ?_
    show own_Fin p e below G (T10.setTop (mkF m 28 #[rv a1, rv a2, iv (1 : Int32)] [(.ref a1)]))
    refine own_st (fun _ k => XS.iloadN X10.here hx rfl (hb hby d3_28) rfl  k) ?_
    show own_Fin p e below G (T10.setTop (mkF m 29 #[rv a1, rv a2, iv (1 : Int32)] [(.int (1 : Int32)), (.ref a1)]))
    refine own_st (fun _ k => XS.iconst X10.here hx rfl (hb hby d3_29) k) ?_
    show own_Fin p e below G (T10.setTop (mkF m 30 #[rv a1, rv a2, iv (1 : Int32)] [(.int (0 : Int32)), (.int (1 : Int32)), (.ref a1)]))
    obtain ⟨T15, h15, X15, e15, W15, V15, st15⟩ := own_stI X10 hx hZ e10 V10 (j := (1 : Int32)) (n := 2) rfl (by decide) (g := (mkF m 30 #[rv a1, rv a2, iv (1 : Int32)] [(.int (0 : Int32)), (.int (1 : Int32)), (.ref a1)])) rfl rfl (hb hby d3_30)
    clear X10 e10 V10
    have f16_1 := f11_1.other W15 (Ne.symm hne)
    clear f11_1
    have K17 : Keep h0 h15 [a1] := K12.wr W15 (Or.inl (List.mem_of_getElem? (i := 0) rfl))
    clear K12 W15
    have N18 := Fr.snoc X15 N13 g1
    clear N13
    replace V15 : own_AV Z h15 a1 .int (own_is [c0, (0 : Int32)]) := V15
    refine own_st st15 ?_
    clear st15
    show own_Fin p e below G (T15.setTop (mkF m 31 #[rv a1, rv a2, iv (1 : Int32)] []))
    refine own_st (fun _ k => XS.iinc X15.here hx rfl (hb hby d3_31) rfl (l' := #[rv a1, rv a2, iv (0 : Int32)]) rfl k) ?_
    show own_Fin p e below G (T15.setTop (mkF m 34 #[rv a1, rv a2, iv (0 : Int32)] []))
    refine own_st (fun _ k => XS.goto X15.here hx rfl (pc0 := 34) (pc' := 5) rfl (hb hby d3_34) (by decide) (by decide) k) ?_
    show own_Fin p e below G (T15.setTop (mkF m 5 #[rv a1, rv a2, iv (0 : Int32)] []))
    refine own_st (fun _ k => XS.iloadN X15.here hx rfl (hb hby d3_5) rfl  k) ?_
    show own_Fin p e below G (T15.setTop (mkF m 6 #[rv a1, rv a2, iv (0 : Int32)] [(.int (0 : Int32))]))
    refine own_st (fun _ k => XS.ifNo X15.here hx rfl (hb hby d3_6) rfl ((if0 _ _).trans (flt (by decide : ¬ ((0 : Int32) < (0 : Int32)))).1) k) ?_
    show own_Fin p e below G (T15.setTop (mkF m 9 #[rv a1, rv a2, iv (0 : Int32)] []))
    refine own_st (fun _ k => XS.aloadN X15.here hx rfl (hb hby d3_9) rfl rfl k) ?_
    show own_Fin p e below G (T15.setTop (mkF m 10 #[rv a1, rv a2, iv (0 : Int32)] [(.ref a1)]))
    refine own_st (fun _ k => XS.iloadN X15.here hx rfl (hb hby d3_10) rfl  k) ?_
    show own_Fin p e below G (T15.setTop (mkF m 11 #[rv a1, rv a2, iv (0 : Int32)] [(.int (0 : Int32)), (.ref a1)]))
    refine own_st (fun _ k => XT.dup2 X15.here hx rfl (hb hby d3_11) rfl rfl rfl k) ?_
    show own_Fin p e below G (T15.setTop (mkF m 12 #[rv a1, rv a2, iv (0 : Int32)] [(.int (0 : Int32)), (.ref a1), (.int (0 : Int32)), (.ref a1)]))
    refine own_st (fun _ k => own_ldI X15 hx hZ e15 V15 (j := (0 : Int32)) (n := 2) rfl (by decide) (g := (mkF m 12 #[rv a1, rv a2, iv (0 : Int32)] [(.int (0 : Int32)), (.ref a1), (.int (0 : Int32)), (.ref a1)])) rfl rfl (hb hby d3_12) k) ?_
    show own_Fin p e below G (T15.setTop (mkF m 13 #[rv a1, rv a2, iv (0 : Int32)] [(.int c0), (.int (0 : Int32)), (.ref a1)]))
    refine own_st (fun _ k => XS.iconst X15.here hx rfl (hb hby d3_13) k) ?_
    show own_Fin p e below G (T15.setTop (mkF m 14 #[rv a1, rv a2, iv (0 : Int32)] [(.int (1 : Int32)), (.int c0), (.int (0 : Int32)), (.ref a1)]))
    refine own_st (fun _ k => XS.iadd X15.here hx rfl (hb hby d3_14) rfl k) ?_
    show own_Fin p e below G (T15.setTop (mkF m 15 #[rv a1, rv a2, iv (0 : Int32)] [(.int (c0 + (1 : Int32))), (.int (0 : Int32)), (.ref a1)]))
    obtain ⟨T19, h19, X19, e19, W19, V19, st19⟩ := own_stI X15 hx hZ e15 V15 (j := (0 : Int32)) (n := 2) rfl (by decide) (g := (mkF m 15 #[rv a1, rv a2, iv (0 : Int32)] [(.int (c0 + (1 : Int32))), (.int (0 : Int32)), (.ref a1)])) rfl rfl (hb hby d3_15)
    clear X15 e15 V15
    have f20_1 := f16_1.other W19 (Ne.symm hne)
    clear f16_1
    have K21 : Keep h0 h19 [a1] := K17.wr W19 (Or.inl (List.mem_of_getElem? (i := 0) rfl))
    clear K17 W19
    have N22 := Fr.snoc X19 N18 g1
    clear N18
    replace V19 : own_AV Z h19 a1 .int (own_is [(c0 + (1 : Int32)), (0 : Int32)]) := V19
    refine own_st st19 ?_
    clear st19
    show own_Fin p e below G (T19.setTop (mkF m 16 #[rv a1, rv a2, iv (0 : Int32)] []))
    refine own_st (fun _ k => XS.aloadN X19.here hx rfl (hb hby d3_16) rfl rfl k) ?_
    show own_Fin p e below G (T19.setTop (mkF m 17 #[rv a1, rv a2, iv (0 : Int32)] [(.ref a1)]))
    refine own_st (fun _ k => XS.iloadN X19.here hx rfl (hb hby d3_17) rfl  k) ?_
    show own_Fin p e below G (T19.setTop (mkF m 18 #[rv a1, rv a2, iv (0 : Int32)] [(.int (0 : Int32)), (.ref a1)]))
    refine own_st (fun _ k => own_ldI X19 hx hZ e19 V19 (j := (0 : Int32)) (n := 2) rfl (by decide) (g := (mkF m 18 #[rv a1, rv a2, iv (0 : Int32)] [(.int (0 : Int32)), (.ref a1)])) rfl rfl (hb hby d3_18) k) ?_
    show own_Fin p e below G (T19.setTop (mkF m 19 #[rv a1, rv a2, iv (0 : Int32)] [(.int (c0 + (1 : Int32)))]))
    refine own_st (fun _ k => XS.aloadN X19.here hx rfl (hb hby d3_19) rfl rfl k) ?_
    show own_Fin p e below G (T19.setTop (mkF m 20 #[rv a1, rv a2, iv (0 : Int32)] [(.ref a2), (.int (c0 + (1 : Int32)))]))
    refine own_st (fun _ k => XS.iloadN X19.here hx rfl (hb hby d3_20) rfl  k) ?_
    show own_Fin p e below G (T19.setTop (mkF m 21 #[rv a1, rv a2, iv (0 : Int32)] [(.int (0 : Int32)), (.ref a2), (.int (c0 + (1 : Int32)))]))
    refine own_st (fun _ k => own_ldI X19 hx hZ e19 f20_1 (j := (0 : Int32)) (n := 2) rfl (by decide) (g := (mkF m 21 #[rv a1, rv a2, iv (0 : Int32)] [(.int (0 : Int32)), (.ref a2), (.int (c0 + (1 : Int32)))])) rfl rfl (hb hby d3_21) k) ?_
    show own_Fin p e below G (T19.setTop (mkF m 22 #[rv a1, rv a2, iv (0 : Int32)] [(.int m0), (.int (c0 + (1 : Int32)))]))
    by_cases hc22_23 : (c0 + (1 : Int32)) < m0
    · refine own_st (fun _ k => XS.icmpNo X19.here hx rfl (hb hby d3_22) rfl (tlt hc22_23).2.1 k) ?_
      show own_Fin p e below G (T19.setTop (mkF m 25 #[rv a1, rv a2, iv (0 : Int32)] []))
      refine own_st (fun _ k => XS.iconst X19.here hx rfl (hb hby d3_25) k) ?_
      show own_Fin p e below G (T19.setTop (mkF m 26 #[rv a1, rv a2, iv (0 : Int32)] [(.int (1 : Int32))]))
      refine own_out X19 Bd.notSynchronized (v := (some (.int (1 : Int32)))) (fun h => by rw [Bd.returns] at h; cases h) hG (fun fs hr => retN X19 hx (t := .boolean) Bd.returns (by simp) (hb hby d3_26) hr) (by decide) (by decide) ?_
      exact ⟨(1 : Int32), [(c0 + (1 : Int32)), (0 : Int32)], rfl, N22, e19.symm ▸ K21, e19.symm ▸ V19, (Or.inr (Or.inl ⟨hc22_14, hc22_23, rfl, rfl⟩))⟩
    · refine own_st (fun _ k => XS.icmpYes X19.here hx rfl (pc0 := 22) (pc' := 27) rfl (hb hby d3_22) rfl (flt hc22_23).2.1 (by decide) (by decide) k) ?_
      show own_Fin p e below G (T19.setTop (mkF m 27 #[rv a1, rv a2, iv (0 : Int32)] []))
      refine own_st (fun _ k => XS.aloadN X19.here hx rfl (hb hby d3_27) rfl rfl k) ?_
      show own_Fin p e below G (T19.setTop (mkF m 28 #[rv a1, rv a2, iv (0 : Int32)] [(.ref a1)]))
      refine own_st (fun _ k => XS.iloadN X19.here hx rfl (hb hby d3_28) rfl  k) ?_
      show own_Fin p e below G (T19.setTop (mkF m 29 #[rv a1, rv a2, iv (0 : Int32)] [(.int (0 : Int32)), (.ref a1)]))
      refine own_st (fun _ k => XS.iconst X19.here hx rfl (hb hby d3_29) k) ?_
      show own_Fin p e below G (T19.setTop (mkF m 30 #[rv a1, rv a2, iv (0 : Int32)] [(.int (0 : Int32)), (.int (0 : Int32)), (.ref a1)]))
      obtain ⟨T24, h24, X24, e24, W24, V24, st24⟩ := own_stI X19 hx hZ e19 V19 (j := (0 : Int32)) (n := 2) rfl (by decide) (g := (mkF m 30 #[rv a1, rv a2, iv (0 : Int32)] [(.int (0 : Int32)), (.int (0 : Int32)), (.ref a1)])) rfl rfl (hb hby d3_30)
      clear X19 e19 V19
      have f25_1 := f20_1.other W24 (Ne.symm hne)
      clear f20_1 f25_1
      have K26 : Keep h0 h24 [a1] := K21.wr W24 (Or.inl (List.mem_of_getElem? (i := 0) rfl))
      clear K21 W24
      have N27 := Fr.snoc X24 N22 g1
      clear N22
      replace V24 : own_AV Z h24 a1 .int (own_is [(0 : Int32), (0 : Int32)]) := V24
      refine own_st st24 ?_
      clear st24
      show own_Fin p e below G (T24.setTop (mkF m 31 #[rv a1, rv a2, iv (0 : Int32)] []))
      refine own_st (fun _ k => XS.iinc X24.here hx rfl (hb hby d3_31) rfl (l' := #[rv a1, rv a2, iv (-1 : Int32)]) rfl k) ?_
      show own_Fin p e below G (T24.setTop (mkF m 34 #[rv a1, rv a2, iv (-1 : Int32)] []))
      refine own_st (fun _ k => XS.goto X24.here hx rfl (pc0 := 34) (pc' := 5) rfl (hb hby d3_34) (by decide) (by decide) k) ?_
      show own_Fin p e below G (T24.setTop (mkF m 5 #[rv a1, rv a2, iv (-1 : Int32)] []))
      refine own_st (fun _ k => XS.iloadN X24.here hx rfl (hb hby d3_5) rfl  k) ?_
      show own_Fin p e below G (T24.setTop (mkF m 6 #[rv a1, rv a2, iv (-1 : Int32)] [(.int (-1 : Int32))]))
      refine own_st (fun _ k => XS.ifYes X24.here hx rfl (pc0 := 6) (pc' := 37) rfl (hb hby d3_6) rfl ((if0 _ _).trans (tlt (by decide : ((-1 : Int32) < (0 : Int32)))).1) (by decide) (by decide) k) ?_
      show own_Fin p e below G (T24.setTop (mkF m 37 #[rv a1, rv a2, iv (-1 : Int32)] []))
      refine own_st (fun _ k => XS.iconst X24.here hx rfl (hb hby d3_37) k) ?_
      show own_Fin p e below G (T24.setTop (mkF m 38 #[rv a1, rv a2, iv (-1 : Int32)] [(.int (0 : Int32))]))
      refine own_out X24 Bd.notSynchronized (v := (some (.int (0 : Int32)))) (fun h => by rw [Bd.returns] at h; cases h) hG (fun fs hr => retN X24 hx (t := .boolean) Bd.returns (by simp) (hb hby d3_38) hr) (by decide) (by decide) ?_
      exact ⟨(0 : Int32), [(0 : Int32), (0 : Int32)], rfl, N27, e24.symm ▸ K26, e24.symm ▸ V24, (Or.inr (Or.inr ⟨hc22_14, hc22_23, rfl, rfl⟩))⟩

def Qrm_x3 (Z : State) (a1 : Addr) (a2 : Addr) (c0 : Int32) (c1 : Int32) (c2 : Int32) (m0 : Int32) (m1 : Int32) (m2 : Int32) (h0 : Heap) (n0 : Nat) (v : Option Value) (h : Heap) (L : List Loc) : Prop := ∃ (r : Int32) (ys : List Int32), v = some (.int r) ∧ Fr n0 L ∧ Keep h0 h [a1] ∧ own_AV Z h a1 .int (own_is ys) ∧ (((c2 + (1 : Int32)) < m2 ∧ r = (1 : Int32) ∧ ys = [c0, c1, (c2 + (1 : Int32))]) ∨ (¬ (c2 + (1 : Int32)) < m2 ∧ (c1 + (1 : Int32)) < m1 ∧ r = (1 : Int32) ∧ ys = [c0, (c1 + (1 : Int32)), (0 : Int32)]) ∨ (¬ (c2 + (1 : Int32)) < m2 ∧ ¬ (c1 + (1 : Int32)) < m1 ∧ (c0 + (1 : Int32)) < m0 ∧ r = (1 : Int32) ∧ ys = [(c0 + (1 : Int32)), (0 : Int32), (0 : Int32)]) ∨ (¬ (c2 + (1 : Int32)) < m2 ∧ ¬ (c1 + (1 : Int32)) < m1 ∧ ¬ (c0 + (1 : Int32)) < m0 ∧ r = (0 : Int32) ∧ ys = [(0 : Int32), (0 : Int32), (0 : Int32)]))
set_option maxRecDepth 65536 in
set_option maxHeartbeats 40000000 in
theorem rm_x3 (l : Launch) (Z : State) (a0 : Array Value) (hw : ∀ d ∈ tables_1, d.before a0 Z = true) (ws : List Jvm.Cond) (a1 : Addr) (a2 : Addr) (c0 : Int32) (c1 : Int32) (c2 : Int32) (m0 : Int32) (m1 : Int32) (m2 : Int32) (h0 : Heap) (n0 : Nat) (Z0 : n0 ≤ h0.size) (A1 : own_AV Z h0 a1 .int (own_is [c0, c1, c2])) (A2 : own_AV Z h0 a2 .int (own_is [m0, m1, m2])) (hne : a1 ≠ a2) (g1 : n0 ≤ a1) :
    MetFree l own_y3 (head1 (Jvm.Cond.code own_y3 prog_64_method_3_code 3 (some .boolean) :: ws) ({ frames := 0, cells := 0, slots := 0, locals := 0 } : Room)) (fun a U => a = #[(.ref a1), (.ref a2)] ∧ Z.Warmed39 U.vm ∧ U.heap = h0) (fun _ _ _ _ _ => True) (fun _ U o U' => ∃ v L, o = .returned v ∧ Qrm_x3 Z a1 a2 c0 c1 c2 m0 m1 m2 h0 n0 v U'.heap L ∧ FrameEnd U o U' L ({ frames := 0, cells := 0, slots := 0, locals := 0 } : Room).cells ({ frames := 0, cells := 0, slots := 0, locals := 0 } : Room).slots) := by
  refine MetFree.of_bodySF (plainFor_of_name pn_com_example_paired_paths_pairedpaths_gsos_Choices) hisR ?_
  intro p e s m args below meth c s₁ Bd hml0 hP hK
  obtain ⟨rfl, hZ, hh⟩ := hP
  have hx := Bd.exec
  have hby := Bd.bytes
  have hml : c.maxLocals = 3 := hml0
  have hown : s.vm.findClass "com/example/paired_paths/pairedpaths/gsos/Choices" = some m.cls := findClass_of_methodNamed Bd.named
  have hnm := (name_of_methodNamed Bd.named Bd.method).1
  have X0 : Stand p l e ({ frames := 0, cells := 0, slots := 0, locals := 0 } : Room) s m #[(.ref a1), (.ref a2)] below meth c s₁ [] 0 0 := Stand.of_body Bd
  have e0 : s₁.heap = h0 := by rw [← hh, Bd.state]; rfl
  have N0 := Fr.nil n0
  have K0 : Keep h0 h0 [a1] := Keep.refl _ _
  refine own_start (Qk := Qrm_x3 Z a1 a2 c0 c1 c2 m0 m1 m2 h0 n0) (fun G hG => ?_)
  refine own_st (fun _ k => castTop (ef_3_RR m a1 a2) k) ?_
  show own_Fin p e below G (s₁.setTop (mkF m 0 #[rv a1, rv a2, .unset] []))
  refine own_st (fun _ k => XS.aloadN X0.here hx rfl (hb hby d3_0) rfl rfl k) ?_
  show own_Fin p e below G (s₁.setTop (mkF m 1 #[rv a1, rv a2, .unset] [(.ref a1)]))
  refine own_st (fun _ k => own_len X0 hx hZ e0 A1 (z := (3 : Int32)) rfl (g := (mkF m 1 #[rv a1, rv a2, .unset] [(.ref a1)])) rfl rfl (hb hby d3_1) k) ?_
  show own_Fin p e below G (s₁.setTop (mkF m 2 #[rv a1, rv a2, .unset] [(.int (3 : Int32))]))
  refine own_st (fun _ k => XS.iconst X0.here hx rfl (hb hby d3_2) k) ?_
  show own_Fin p e below G (s₁.setTop (mkF m 3 #[rv a1, rv a2, .unset] [(.int (1 : Int32)), (.int (3 : Int32))]))
  refine own_st (fun _ k => XS.isub X0.here hx rfl (hb hby d3_3) rfl k) ?_
  show own_Fin p e below G (s₁.setTop (mkF m 4 #[rv a1, rv a2, .unset] [(.int (2 : Int32))]))
  refine own_st (fun _ k => XS.istoreN X0.here hx rfl (hb hby d3_4) rfl (l' := #[rv a1, rv a2, iv (2 : Int32)]) rfl k) ?_
  show own_Fin p e below G (s₁.setTop (mkF m 5 #[rv a1, rv a2, iv (2 : Int32)] []))
  refine own_st (fun _ k => XS.iloadN X0.here hx rfl (hb hby d3_5) rfl  k) ?_
  show own_Fin p e below G (s₁.setTop (mkF m 6 #[rv a1, rv a2, iv (2 : Int32)] [(.int (2 : Int32))]))
  refine own_st (fun _ k => XS.ifNo X0.here hx rfl (hb hby d3_6) rfl ((if0 _ _).trans (flt (by decide : ¬ ((2 : Int32) < (0 : Int32)))).1) k) ?_
  show own_Fin p e below G (s₁.setTop (mkF m 9 #[rv a1, rv a2, iv (2 : Int32)] []))
  refine own_st (fun _ k => XS.aloadN X0.here hx rfl (hb hby d3_9) rfl rfl k) ?_
  show own_Fin p e below G (s₁.setTop (mkF m 10 #[rv a1, rv a2, iv (2 : Int32)] [(.ref a1)]))
  refine own_st (fun _ k => XS.iloadN X0.here hx rfl (hb hby d3_10) rfl  k) ?_
  show own_Fin p e below G (s₁.setTop (mkF m 11 #[rv a1, rv a2, iv (2 : Int32)] [(.int (2 : Int32)), (.ref a1)]))
  refine own_st (fun _ k => XT.dup2 X0.here hx rfl (hb hby d3_11) rfl rfl rfl k) ?_
  show own_Fin p e below G (s₁.setTop (mkF m 12 #[rv a1, rv a2, iv (2 : Int32)] [(.int (2 : Int32)), (.ref a1), (.int (2 : Int32)), (.ref a1)]))
  refine own_st (fun _ k => own_ldI X0 hx hZ e0 A1 (j := (2 : Int32)) (n := 3) rfl (by decide) (g := (mkF m 12 #[rv a1, rv a2, iv (2 : Int32)] [(.int (2 : Int32)), (.ref a1), (.int (2 : Int32)), (.ref a1)])) rfl rfl (hb hby d3_12) k) ?_
  show own_Fin p e below G (s₁.setTop (mkF m 13 #[rv a1, rv a2, iv (2 : Int32)] [(.int c2), (.int (2 : Int32)), (.ref a1)]))
  refine own_st (fun _ k => XS.iconst X0.here hx rfl (hb hby d3_13) k) ?_
  show own_Fin p e below G (s₁.setTop (mkF m 14 #[rv a1, rv a2, iv (2 : Int32)] [(.int (1 : Int32)), (.int c2), (.int (2 : Int32)), (.ref a1)]))
  refine own_st (fun _ k => XS.iadd X0.here hx rfl (hb hby d3_14) rfl k) ?_
  show own_Fin p e below G (s₁.setTop (mkF m 15 #[rv a1, rv a2, iv (2 : Int32)] [(.int (c2 + (1 : Int32))), (.int (2 : Int32)), (.ref a1)]))
  obtain ⟨T28, h28, X28, e28, W28, V28, st28⟩ := own_stI X0 hx hZ e0 A1 (j := (2 : Int32)) (n := 3) rfl (by decide) (g := (mkF m 15 #[rv a1, rv a2, iv (2 : Int32)] [(.int (c2 + (1 : Int32))), (.int (2 : Int32)), (.ref a1)])) rfl rfl (hb hby d3_15)
  clear X0 e0 A1
  have f29_1 := A2.other W28 (Ne.symm hne)
  clear A2
  have K30 : Keep h0 h28 [a1] := K0.wr W28 (Or.inl (List.mem_of_getElem? (i := 0) rfl))
  clear K0 W28
  have N31 := Fr.snoc X28 N0 g1
  clear N0
  replace V28 : own_AV Z h28 a1 .int (own_is [c0, c1, (c2 + (1 : Int32))]) := V28
  refine own_st st28 ?_
  clear st28
  show own_Fin p e below G (T28.setTop (mkF m 16 #[rv a1, rv a2, iv (2 : Int32)] []))
  refine own_st (fun _ k => XS.aloadN X28.here hx rfl (hb hby d3_16) rfl rfl k) ?_
  show own_Fin p e below G (T28.setTop (mkF m 17 #[rv a1, rv a2, iv (2 : Int32)] [(.ref a1)]))
  refine own_st (fun _ k => XS.iloadN X28.here hx rfl (hb hby d3_17) rfl  k) ?_
  show own_Fin p e below G (T28.setTop (mkF m 18 #[rv a1, rv a2, iv (2 : Int32)] [(.int (2 : Int32)), (.ref a1)]))
  refine own_st (fun _ k => own_ldI X28 hx hZ e28 V28 (j := (2 : Int32)) (n := 3) rfl (by decide) (g := (mkF m 18 #[rv a1, rv a2, iv (2 : Int32)] [(.int (2 : Int32)), (.ref a1)])) rfl rfl (hb hby d3_18) k) ?_
  show own_Fin p e below G (T28.setTop (mkF m 19 #[rv a1, rv a2, iv (2 : Int32)] [(.int (c2 + (1 : Int32)))]))
  refine own_st (fun _ k => XS.aloadN X28.here hx rfl (hb hby d3_19) rfl rfl k) ?_
  show own_Fin p e below G (T28.setTop (mkF m 20 #[rv a1, rv a2, iv (2 : Int32)] [(.ref a2), (.int (c2 + (1 : Int32)))]))
  refine own_st (fun _ k => XS.iloadN X28.here hx rfl (hb hby d3_20) rfl  k) ?_
  show own_Fin p e below G (T28.setTop (mkF m 21 #[rv a1, rv a2, iv (2 : Int32)] [(.int (2 : Int32)), (.ref a2), (.int (c2 + (1 : Int32)))]))
  refine own_st (fun _ k => own_ldI X28 hx hZ e28 f29_1 (j := (2 : Int32)) (n := 3) rfl (by decide) (g := (mkF m 21 #[rv a1, rv a2, iv (2 : Int32)] [(.int (2 : Int32)), (.ref a2), (.int (c2 + (1 : Int32)))])) rfl rfl (hb hby d3_21) k) ?_
  show own_Fin p e below G (T28.setTop (mkF m 22 #[rv a1, rv a2, iv (2 : Int32)] [(.int m2), (.int (c2 + (1 : Int32)))]))
  by_cases hc22_32 : (c2 + (1 : Int32)) < m2
  · refine own_st (fun _ k => XS.icmpNo X28.here hx rfl (hb hby d3_22) rfl (tlt hc22_32).2.1 k) ?_
    show own_Fin p e below G (T28.setTop (mkF m 25 #[rv a1, rv a2, iv (2 : Int32)] []))
    refine own_st (fun _ k => XS.iconst X28.here hx rfl (hb hby d3_25) k) ?_
    show own_Fin p e below G (T28.setTop (mkF m 26 #[rv a1, rv a2, iv (2 : Int32)] [(.int (1 : Int32))]))
    refine own_out X28 Bd.notSynchronized (v := (some (.int (1 : Int32)))) (fun h => by rw [Bd.returns] at h; cases h) hG (fun fs hr => retN X28 hx (t := .boolean) Bd.returns (by simp) (hb hby d3_26) hr) (by decide) (by decide) ?_
    exact ⟨(1 : Int32), [c0, c1, (c2 + (1 : Int32))], rfl, N31, e28.symm ▸ K30, e28.symm ▸ V28, (Or.inl ⟨hc22_32, rfl, rfl⟩)⟩
  · refine own_st (fun _ k => XS.icmpYes X28.here hx rfl (pc0 := 22) (pc' := 27) rfl (hb hby d3_22) rfl (flt hc22_32).2.1 (by decide) (by decide) k) ?_
    show own_Fin p e below G (T28.setTop (mkF m 27 #[rv a1, rv a2, iv (2 : Int32)] []))
    refine own_st (fun _ k => XS.aloadN X28.here hx rfl (hb hby d3_27) rfl rfl k) ?_
    show own_Fin p e below G (T28.setTop (mkF m 28 #[rv a1, rv a2, iv (2 : Int32)] [(.ref a1)]))
    refine own_st (fun _ k => XS.iloadN X28.here hx rfl (hb hby d3_28) rfl  k) ?_
    show own_Fin p e below G (T28.setTop (mkF m 29 #[rv a1, rv a2, iv (2 : Int32)] [(.int (2 : Int32)), (.ref a1)]))
    refine own_st (fun _ k => XS.iconst X28.here hx rfl (hb hby d3_29) k) ?_
    show own_Fin p e below G (T28.setTop (mkF m 30 #[rv a1, rv a2, iv (2 : Int32)] [(.int (0 : Int32)), (.int (2 : Int32)), (.ref a1)]))
    obtain ⟨T33, h33, X33, e33, W33, V33, st33⟩ := own_stI X28 hx hZ e28 V28 (j := (2 : Int32)) (n := 3) rfl (by decide) (g := (mkF m 30 #[rv a1, rv a2, iv (2 : Int32)] [(.int (0 : Int32)), (.int (2 : Int32)), (.ref a1)])) rfl rfl (hb hby d3_30)
    clear X28 e28 V28
    have f34_1 := f29_1.other W33 (Ne.symm hne)
    clear f29_1
    have K35 : Keep h0 h33 [a1] := K30.wr W33 (Or.inl (List.mem_of_getElem? (i := 0) rfl))
    clear K30 W33
    have N36 := Fr.snoc X33 N31 g1
    clear N31
    replace V33 : own_AV Z h33 a1 .int (own_is [c0, c1, (0 : Int32)]) := V33
    refine own_st st33 ?_
    clear st33
    show own_Fin p e below G (T33.setTop (mkF m 31 #[rv a1, rv a2, iv (2 : Int32)] []))
    refine own_st (fun _ k => XS.iinc X33.here hx rfl (hb hby d3_31) rfl (l' := #[rv a1, rv a2, iv (1 : Int32)]) rfl k) ?_
    show own_Fin p e below G (T33.setTop (mkF m 34 #[rv a1, rv a2, iv (1 : Int32)] []))
    refine own_st (fun _ k => XS.goto X33.here hx rfl (pc0 := 34) (pc' := 5) rfl (hb hby d3_34) (by decide) (by decide) k) ?_
    show own_Fin p e below G (T33.setTop (mkF m 5 #[rv a1, rv a2, iv (1 : Int32)] []))
    refine own_st (fun _ k => XS.iloadN X33.here hx rfl (hb hby d3_5) rfl  k) ?_
    show own_Fin p e below G (T33.setTop (mkF m 6 #[rv a1, rv a2, iv (1 : Int32)] [(.int (1 : Int32))]))
    refine own_st (fun _ k => XS.ifNo X33.here hx rfl (hb hby d3_6) rfl ((if0 _ _).trans (flt (by decide : ¬ ((1 : Int32) < (0 : Int32)))).1) k) ?_
    show own_Fin p e below G (T33.setTop (mkF m 9 #[rv a1, rv a2, iv (1 : Int32)] []))
    refine own_st (fun _ k => XS.aloadN X33.here hx rfl (hb hby d3_9) rfl rfl k) ?_
    show own_Fin p e below G (T33.setTop (mkF m 10 #[rv a1, rv a2, iv (1 : Int32)] [(.ref a1)]))
    refine own_st (fun _ k => XS.iloadN X33.here hx rfl (hb hby d3_10) rfl  k) ?_
    show own_Fin p e below G (T33.setTop (mkF m 11 #[rv a1, rv a2, iv (1 : Int32)] [(.int (1 : Int32)), (.ref a1)]))
    refine own_st (fun _ k => XT.dup2 X33.here hx rfl (hb hby d3_11) rfl rfl rfl k) ?_
    show own_Fin p e below G (T33.setTop (mkF m 12 #[rv a1, rv a2, iv (1 : Int32)] [(.int (1 : Int32)), (.ref a1), (.int (1 : Int32)), (.ref a1)]))
    refine own_st (fun _ k => own_ldI X33 hx hZ e33 V33 (j := (1 : Int32)) (n := 3) rfl (by decide) (g := (mkF m 12 #[rv a1, rv a2, iv (1 : Int32)] [(.int (1 : Int32)), (.ref a1), (.int (1 : Int32)), (.ref a1)])) rfl rfl (hb hby d3_12) k) ?_
    show own_Fin p e below G (T33.setTop (mkF m 13 #[rv a1, rv a2, iv (1 : Int32)] [(.int c1), (.int (1 : Int32)), (.ref a1)]))
    refine own_st (fun _ k => XS.iconst X33.here hx rfl (hb hby d3_13) k) ?_
    show own_Fin p e below G (T33.setTop (mkF m 14 #[rv a1, rv a2, iv (1 : Int32)] [(.int (1 : Int32)), (.int c1), (.int (1 : Int32)), (.ref a1)]))
    refine own_st (fun _ k => XS.iadd X33.here hx rfl (hb hby d3_14) rfl k) ?_
    show own_Fin p e below G (T33.setTop (mkF m 15 #[rv a1, rv a2, iv (1 : Int32)] [(.int (c1 + (1 : Int32))), (.int (1 : Int32)), (.ref a1)]))
    obtain ⟨T37, h37, X37, e37, W37, V37, st37⟩ := own_stI X33 hx hZ e33 V33 (j := (1 : Int32)) (n := 3) rfl (by decide) (g := (mkF m 15 #[rv a1, rv a2, iv (1 : Int32)] [(.int (c1 + (1 : Int32))), (.int (1 : Int32)), (.ref a1)])) rfl rfl (hb hby d3_15)
    clear X33 e33 V33
    have f38_1 := f34_1.other W37 (Ne.symm hne)
    clear f34_1
    have K39 : Keep h0 h37 [a1] := K35.wr W37 (Or.inl (List.mem_of_getElem? (i := 0) rfl))
    clear K35 W37
    have N40 := Fr.snoc X37 N36 g1
    clear N36
    replace V37 : own_AV Z h37 a1 .int (own_is [c0, (c1 + (1 : Int32)), (0 : Int32)]) := V37
    refine own_st st37 ?_
    clear st37
    show own_Fin p e below G (T37.setTop (mkF m 16 #[rv a1, rv a2, iv (1 : Int32)] []))
    refine own_st (fun _ k => XS.aloadN X37.here hx rfl (hb hby d3_16) rfl rfl k) ?_
    show own_Fin p e below G (T37.setTop (mkF m 17 #[rv a1, rv a2, iv (1 : Int32)] [(.ref a1)]))
    refine own_st (fun _ k => XS.iloadN X37.here hx rfl (hb hby d3_17) rfl  k) ?_
    show own_Fin p e below G (T37.setTop (mkF m 18 #[rv a1, rv a2, iv (1 : Int32)] [(.int (1 : Int32)), (.ref a1)]))
    refine own_st (fun _ k => own_ldI X37 hx hZ e37 V37 (j := (1 : Int32)) (n := 3) rfl (by decide) (g := (mkF m 18 #[rv a1, rv a2, iv (1 : Int32)] [(.int (1 : Int32)), (.ref a1)])) rfl rfl (hb hby d3_18) k) ?_
    show own_Fin p e below G (T37.setTop (mkF m 19 #[rv a1, rv a2, iv (1 : Int32)] [(.int (c1 + (1 : Int32)))]))
    refine own_st (fun _ k => XS.aloadN X37.here hx rfl (hb hby d3_19) rfl rfl k) ?_
    show own_Fin p e below G (T37.setTop (mkF m 20 #[rv a1, rv a2, iv (1 : Int32)] [(.ref a2), (.int (c1 + (1 : Int32)))]))
    refine own_st (fun _ k => XS.iloadN X37.here hx rfl (hb hby d3_20) rfl  k) ?_
    show own_Fin p e below G (T37.setTop (mkF m 21 #[rv a1, rv a2, iv (1 : Int32)] [(.int (1 : Int32)), (.ref a2), (.int (c1 + (1 : Int32)))]))
    refine own_st (fun _ k => own_ldI X37 hx hZ e37 f38_1 (j := (1 : Int32)) (n := 3) rfl (by decide) (g := (mkF m 21 #[rv a1, rv a2, iv (1 : Int32)] [(.int (1 : Int32)), (.ref a2), (.int (c1 + (1 : Int32)))])) rfl rfl (hb hby d3_21) k) ?_
    show own_Fin p e below G (T37.setTop (mkF m 22 #[rv a1, rv a2, iv (1 : Int32)] [(.int m1), (.int (c1 + (1 : Int32)))]))
    by_cases hc22_41 : (c1 + (1 : Int32)) < m1
    · refine own_st (fun _ k => XS.icmpNo X37.here hx rfl (hb hby d3_22) rfl (tlt hc22_41).2.1 k) ?_
      show own_Fin p e below G (T37.setTop (mkF m 25 #[rv a1, rv a2, iv (1 : Int32)] []))
      refine own_st (fun _ k => XS.iconst X37.here hx rfl (hb hby d3_25) k) ?_
      show own_Fin p e below G (T37.setTop (mkF m 26 #[rv a1, rv a2, iv (1 : Int32)] [(.int (1 : Int32))]))
      refine own_out X37 Bd.notSynchronized (v := (some (.int (1 : Int32)))) (fun h => by rw [Bd.returns] at h; cases h) hG (fun fs hr => retN X37 hx (t := .boolean) Bd.returns (by simp) (hb hby d3_26) hr) (by decide) (by decide) ?_
      exact ⟨(1 : Int32), [c0, (c1 + (1 : Int32)), (0 : Int32)], rfl, N40, e37.symm ▸ K39, e37.symm ▸ V37, (Or.inr (Or.inl ⟨hc22_32, hc22_41, rfl, rfl⟩))⟩
    · refine own_st (fun _ k => XS.icmpYes X37.here hx rfl (pc0 := 22) (pc' := 27) rfl (hb hby d3_22) rfl (flt hc22_41).2.1 (by decide) (by decide) k) ?_
      show own_Fin p e below G (T37.setTop (mkF m 27 #[rv a1, rv a2, iv (1 : Int32)] []))
      refine own_st (fun _ k => XS.aloadN X37.here hx rfl (hb hby d3_27) rfl rfl k) ?_
      show own_Fin p e below G (T37.setTop (mkF m 28 #[rv a1, rv a2, iv (1 : Int32)] [(.ref a1)]))
      refine own_st (fun _ k => XS.iloadN X37.here hx rfl (hb hby d3_28) rfl  k) ?_
      show own_Fin p e below G (T37.setTop (mkF m 29 #[rv a1, rv a2, iv (1 : Int32)] [(.int (1 : Int32)), (.ref a1)]))
      refine own_st (fun _ k => XS.iconst X37.here hx rfl (hb hby d3_29) k) ?_
      show own_Fin p e below G (T37.setTop (mkF m 30 #[rv a1, rv a2, iv (1 : Int32)] [(.int (0 : Int32)), (.int (1 : Int32)), (.ref a1)]))
      obtain ⟨T42, h42, X42, e42, W42, V42, st42⟩ := own_stI X37 hx hZ e37 V37 (j := (1 : Int32)) (n := 3) rfl (by decide) (g := (mkF m 30 #[rv a1, rv a2, iv (1 : Int32)] [(.int (0 : Int32)), (.int (1 : Int32)), (.ref a1)])) rfl rfl (hb hby d3_30)
      clear X37 e37 V37
      have f43_1 := f38_1.other W42 (Ne.symm hne)
      clear f38_1
      have K44 : Keep h0 h42 [a1] := K39.wr W42 (Or.inl (List.mem_of_getElem? (i := 0) rfl))
      clear K39 W42
      have N45 := Fr.snoc X42 N40 g1
      clear N40
      replace V42 : own_AV Z h42 a1 .int (own_is [c0, (0 : Int32), (0 : Int32)]) := V42
      refine own_st st42 ?_
      clear st42
      show own_Fin p e below G (T42.setTop (mkF m 31 #[rv a1, rv a2, iv (1 : Int32)] []))
      refine own_st (fun _ k => XS.iinc X42.here hx rfl (hb hby d3_31) rfl (l' := #[rv a1, rv a2, iv (0 : Int32)]) rfl k) ?_
      show own_Fin p e below G (T42.setTop (mkF m 34 #[rv a1, rv a2, iv (0 : Int32)] []))
      refine own_st (fun _ k => XS.goto X42.here hx rfl (pc0 := 34) (pc' := 5) rfl (hb hby d3_34) (by decide) (by decide) k) ?_
      show own_Fin p e below G (T42.setTop (mkF m 5 #[rv a1, rv a2, iv (0 : Int32)] []))
      refine own_st (fun _ k => XS.iloadN X42.here hx rfl (hb hby d3_5) rfl  k) ?_
      show own_Fin p e below G (T42.setTop (mkF m 6 #[rv a1, rv a2, iv (0 : Int32)] [(.int (0 : Int32))]))
      refine own_st (fun _ k => XS.ifNo X42.here hx rfl (hb hby d3_6) rfl ((if0 _ _).trans (flt (by decide : ¬ ((0 : Int32) < (0 : Int32)))).1) k) ?_
      show own_Fin p e below G (T42.setTop (mkF m 9 #[rv a1, rv a2, iv (0 : Int32)] []))
      refine own_st (fun _ k => XS.aloadN X42.here hx rfl (hb hby d3_9) rfl rfl k) ?_
      show own_Fin p e below G (T42.setTop (mkF m 10 #[rv a1, rv a2, iv (0 : Int32)] [(.ref a1)]))
      refine own_st (fun _ k => XS.iloadN X42.here hx rfl (hb hby d3_10) rfl  k) ?_
      show own_Fin p e below G (T42.setTop (mkF m 11 #[rv a1, rv a2, iv (0 : Int32)] [(.int (0 : Int32)), (.ref a1)]))
      refine own_st (fun _ k => XT.dup2 X42.here hx rfl (hb hby d3_11) rfl rfl rfl k) ?_
      show own_Fin p e below G (T42.setTop (mkF m 12 #[rv a1, rv a2, iv (0 : Int32)] [(.int (0 : Int32)), (.ref a1), (.int (0 : Int32)), (.ref a1)]))
      refine own_st (fun _ k => own_ldI X42 hx hZ e42 V42 (j := (0 : Int32)) (n := 3) rfl (by decide) (g := (mkF m 12 #[rv a1, rv a2, iv (0 : Int32)] [(.int (0 : Int32)), (.ref a1), (.int (0 : Int32)), (.ref a1)])) rfl rfl (hb hby d3_12) k) ?_
      show own_Fin p e below G (T42.setTop (mkF m 13 #[rv a1, rv a2, iv (0 : Int32)] [(.int c0), (.int (0 : Int32)), (.ref a1)]))
      refine own_st (fun _ k => XS.iconst X42.here hx rfl (hb hby d3_13) k) ?_
      show own_Fin p e below G (T42.setTop (mkF m 14 #[rv a1, rv a2, iv (0 : Int32)] [(.int (1 : Int32)), (.int c0), (.int (0 : Int32)), (.ref a1)]))
      refine own_st (fun _ k => XS.iadd X42.here hx rfl (hb hby d3_14) rfl k) ?_
      show own_Fin p e below G (T42.setTop (mkF m 15 #[rv a1, rv a2, iv (0 : Int32)] [(.int (c0 + (1 : Int32))), (.int (0 : Int32)), (.ref a1)]))
      obtain ⟨T46, h46, X46, e46, W46, V46, st46⟩ := own_stI X42 hx hZ e42 V42 (j := (0 : Int32)) (n := 3) rfl (by decide) (g := (mkF m 15 #[rv a1, rv a2, iv (0 : Int32)] [(.int (c0 + (1 : Int32))), (.int (0 : Int32)), (.ref a1)])) rfl rfl (hb hby d3_15)
      clear X42 e42 V42
      have f47_1 := f43_1.other W46 (Ne.symm hne)
      clear f43_1
      have K48 : Keep h0 h46 [a1] := K44.wr W46 (Or.inl (List.mem_of_getElem? (i := 0) rfl))
      clear K44 W46
      have N49 := Fr.snoc X46 N45 g1
      clear N45
      replace V46 : own_AV Z h46 a1 .int (own_is [(c0 + (1 : Int32)), (0 : Int32), (0 : Int32)]) := V46
      refine own_st st46 ?_
      clear st46
      show own_Fin p e below G (T46.setTop (mkF m 16 #[rv a1, rv a2, iv (0 : Int32)] []))
      refine own_st (fun _ k => XS.aloadN X46.here hx rfl (hb hby d3_16) rfl rfl k) ?_
      show own_Fin p e below G (T46.setTop (mkF m 17 #[rv a1, rv a2, iv (0 : Int32)] [(.ref a1)]))
      refine own_st (fun _ k => XS.iloadN X46.here hx rfl (hb hby d3_17) rfl  k) ?_
      show own_Fin p e below G (T46.setTop (mkF m 18 #[rv a1, rv a2, iv (0 : Int32)] [(.int (0 : Int32)), (.ref a1)]))
      refine own_st (fun _ k => own_ldI X46 hx hZ e46 V46 (j := (0 : Int32)) (n := 3) rfl (by decide) (g := (mkF m 18 #[rv a1, rv a2, iv (0 : Int32)] [(.int (0 : Int32)), (.ref a1)])) rfl rfl (hb hby d3_18) k) ?_
      show own_Fin p e below G (T46.setTop (mkF m 19 #[rv a1, rv a2, iv (0 : Int32)] [(.int (c0 + (1 : Int32)))]))
      refine own_st (fun _ k => XS.aloadN X46.here hx rfl (hb hby d3_19) rfl rfl k) ?_
      show own_Fin p e below G (T46.setTop (mkF m 20 #[rv a1, rv a2, iv (0 : Int32)] [(.ref a2), (.int (c0 + (1 : Int32)))]))
      refine own_st (fun _ k => XS.iloadN X46.here hx rfl (hb hby d3_20) rfl  k) ?_
      show own_Fin p e below G (T46.setTop (mkF m 21 #[rv a1, rv a2, iv (0 : Int32)] [(.int (0 : Int32)), (.ref a2), (.int (c0 + (1 : Int32)))]))
      refine own_st (fun _ k => own_ldI X46 hx hZ e46 f47_1 (j := (0 : Int32)) (n := 3) rfl (by decide) (g := (mkF m 21 #[rv a1, rv a2, iv (0 : Int32)] [(.int (0 : Int32)), (.ref a2), (.int (c0 + (1 : Int32)))])) rfl rfl (hb hby d3_21) k) ?_
      show own_Fin p e below G (T46.setTop (mkF m 22 #[rv a1, rv a2, iv (0 : Int32)] [(.int m0), (.int (c0 + (1 : Int32)))]))
      by_cases hc22_50 : (c0 + (1 : Int32)) < m0
      · refine own_st (fun _ k => XS.icmpNo X46.here hx rfl (hb hby d3_22) rfl (tlt hc22_50).2.1 k) ?_
        show own_Fin p e below G (T46.setTop (mkF m 25 #[rv a1, rv a2, iv (0 : Int32)] []))
        refine own_st (fun _ k => XS.iconst X46.here hx rfl (hb hby d3_25) k) ?_
        show own_Fin p e below G (T46.setTop (mkF m 26 #[rv a1, rv a2, iv (0 : Int32)] [(.int (1 : Int32))]))
        refine own_out X46 Bd.notSynchronized (v := (some (.int (1 : Int32)))) (fun h => by rw [Bd.returns] at h; cases h) hG (fun fs hr => retN X46 hx (t := .boolean) Bd.returns (by simp) (hb hby d3_26) hr) (by decide) (by decide) ?_
        exact ⟨(1 : Int32), [(c0 + (1 : Int32)), (0 : Int32), (0 : Int32)], rfl, N49, e46.symm ▸ K48, e46.symm ▸ V46, (Or.inr (Or.inr (Or.inl ⟨hc22_32, hc22_41, hc22_50, rfl, rfl⟩)))⟩
      · refine own_st (fun _ k => XS.icmpYes X46.here hx rfl (pc0 := 22) (pc' := 27) rfl (hb hby d3_22) rfl (flt hc22_50).2.1 (by decide) (by decide) k) ?_
        show own_Fin p e below G (T46.setTop (mkF m 27 #[rv a1, rv a2, iv (0 : Int32)] []))
        refine own_st (fun _ k => XS.aloadN X46.here hx rfl (hb hby d3_27) rfl rfl k) ?_
        show own_Fin p e below G (T46.setTop (mkF m 28 #[rv a1, rv a2, iv (0 : Int32)] [(.ref a1)]))
        refine own_st (fun _ k => XS.iloadN X46.here hx rfl (hb hby d3_28) rfl  k) ?_
        show own_Fin p e below G (T46.setTop (mkF m 29 #[rv a1, rv a2, iv (0 : Int32)] [(.int (0 : Int32)), (.ref a1)]))
        refine own_st (fun _ k => XS.iconst X46.here hx rfl (hb hby d3_29) k) ?_
        show own_Fin p e below G (T46.setTop (mkF m 30 #[rv a1, rv a2, iv (0 : Int32)] [(.int (0 : Int32)), (.int (0 : Int32)), (.ref a1)]))
        obtain ⟨T51, h51, X51, e51, W51, V51, st51⟩ := own_stI X46 hx hZ e46 V46 (j := (0 : Int32)) (n := 3) rfl (by decide) (g := (mkF m 30 #[rv a1, rv a2, iv (0 : Int32)] [(.int (0 : Int32)), (.int (0 : Int32)), (.ref a1)])) rfl rfl (hb hby d3_30)
        clear X46 e46 V46
        have f52_1 := f47_1.other W51 (Ne.symm hne)
        clear f47_1 f52_1
        have K53 : Keep h0 h51 [a1] := K48.wr W51 (Or.inl (List.mem_of_getElem? (i := 0) rfl))
        clear K48 W51
        have N54 := Fr.snoc X51 N49 g1
        clear N49
        replace V51 : own_AV Z h51 a1 .int (own_is [(0 : Int32), (0 : Int32), (0 : Int32)]) := V51
        refine own_st st51 ?_
        clear st51
        show own_Fin p e below G (T51.setTop (mkF m 31 #[rv a1, rv a2, iv (0 : Int32)] []))
        refine own_st (fun _ k => XS.iinc X51.here hx rfl (hb hby d3_31) rfl (l' := #[rv a1, rv a2, iv (-1 : Int32)]) rfl k) ?_
        show own_Fin p e below G (T51.setTop (mkF m 34 #[rv a1, rv a2, iv (-1 : Int32)] []))
        refine own_st (fun _ k => XS.goto X51.here hx rfl (pc0 := 34) (pc' := 5) rfl (hb hby d3_34) (by decide) (by decide) k) ?_
        show own_Fin p e below G (T51.setTop (mkF m 5 #[rv a1, rv a2, iv (-1 : Int32)] []))
        refine own_st (fun _ k => XS.iloadN X51.here hx rfl (hb hby d3_5) rfl  k) ?_
        show own_Fin p e below G (T51.setTop (mkF m 6 #[rv a1, rv a2, iv (-1 : Int32)] [(.int (-1 : Int32))]))
        refine own_st (fun _ k => XS.ifYes X51.here hx rfl (pc0 := 6) (pc' := 37) rfl (hb hby d3_6) rfl ((if0 _ _).trans (tlt (by decide : ((-1 : Int32) < (0 : Int32)))).1) (by decide) (by decide) k) ?_
        show own_Fin p e below G (T51.setTop (mkF m 37 #[rv a1, rv a2, iv (-1 : Int32)] []))
        refine own_st (fun _ k => XS.iconst X51.here hx rfl (hb hby d3_37) k) ?_
        show own_Fin p e below G (T51.setTop (mkF m 38 #[rv a1, rv a2, iv (-1 : Int32)] [(.int (0 : Int32))]))
        refine own_out X51 Bd.notSynchronized (v := (some (.int (0 : Int32)))) (fun h => by rw [Bd.returns] at h; cases h) hG (fun fs hr => retN X51 hx (t := .boolean) Bd.returns (by simp) (hb hby d3_38) hr) (by decide) (by decide) ?_
        exact ⟨(0 : Int32), [(0 : Int32), (0 : Int32), (0 : Int32)], rfl, N54, e51.symm ▸ K53, e51.symm ▸ V51, (Or.inr (Or.inr (Or.inr ⟨hc22_32, hc22_41, hc22_50, rfl, rfl⟩)))⟩

theorem pd__I_I_I_I_555 : parseMethodDescriptor "(I[I[I)I" = some ⟨[.int, (.array .int), (.array .int)], some .int⟩ := by decide +kernel
theorem pd__I_I_I_391 : parseMethodDescriptor "(I[I)I" = some ⟨[.int, (.array .int)], some .int⟩ := by decide +kernel
theorem pd___I_I_Z_499 : parseMethodDescriptor "([I[I)Z" = some ⟨[(.array .int), (.array .int)], some .boolean⟩ := by decide +kernel
theorem ef_0_III (m : MethodId) (x0 : Int32) (x1 : Int32) (x2 : Int32) : entryFrame m #[(.int x0), (.int x1), (.int x2)] maxLocals = mkF m 0 #[iv x0, iv x1, iv x2, .unset, .unset, .unset, .unset, .unset, .unset, .unset, .unset, .unset, .unset, .unset] [] := by first | (simp [entryFrame, mkF, argsToLocals, Value.category, maxLocals]; done) | rfl
def Qrm0_0 (Z : State) (p1 : Int32) (p2 : Int32) (p3 : Int32) (h0 : Heap) (n0 : Nat) (v : Option Value) (h : Heap) (L : List Loc) : Prop := v = some (.int 1) ∧ Fr n0 L
set_option maxRecDepth 65536 in
set_option maxHeartbeats 40000000 in
theorem rm0_0 (l : Launch) (Z : State) (a0 : Array Value) (hw : ∀ d ∈ tables_1, d.before a0 Z = true) (ws : List Jvm.Cond) (p1 : Int32) (p2 : Int32) (p3 : Int32) (h0 : Heap) (n0 : Nat) (Z0 : n0 ≤ h0.size) (hL : (p1 &&& (3 : Int32)) = (0 : Int32)) :
    MetFree l x (head1 (Jvm.Cond.code x code maxLocals ret :: ws) room_1) (fun a U => a = #[(.int p1), (.int p2), (.int p3)] ∧ Z.Warmed39 U.vm ∧ U.heap = h0) (fun _ _ _ _ _ => True) (fun _ U o U' => ∃ v L, o = .returned v ∧ Qrm0_0 Z p1 p2 p3 h0 n0 v U'.heap L ∧ FrameEnd U o U' L room_1.cells room_1.slots) := by
  refine MetFree.of_bodySF (plainFor_of_name pn_com_example_paired_paths_pairedpaths_gsos_ChoicesNextPinLaw) hisR ?_
  intro p e s m args below meth c s₁ Bd hml0 hP hK
  obtain ⟨rfl, hZ, hh⟩ := hP
  have hx := Bd.exec
  have hby := Bd.bytes
  have hml : c.maxLocals = 14 := hml0
  have hown : s.vm.findClass "com/example/paired_paths/pairedpaths/gsos/ChoicesNextPinLaw" = some m.cls := findClass_of_methodNamed Bd.named
  have hnm := (name_of_methodNamed Bd.named Bd.method).1
  have X0 : Stand p l e room_1 s m #[(.int p1), (.int p2), (.int p3)] below meth c s₁ [] 0 0 := Stand.of_body Bd
  have e0 : s₁.heap = h0 := by rw [← hh, Bd.state]; rfl
  have N0 := Fr.nil n0
  have K0 : Keep h0 h0 [] := Keep.refl _ _
  refine own_start (Qk := Qrm0_0 Z p1 p2 p3 h0 n0) (fun G hG => ?_)
  refine own_st (fun _ k => castTop (ef_0_III m p1 p2 p3) k) ?_
  show own_Fin p e below G (s₁.setTop (mkF m 0 #[iv p1, iv p2, iv p3, .unset, .unset, .unset, .unset, .unset, .unset, .unset, .unset, .unset, .unset, .unset] []))
  refine own_st (fun _ k => XS.iloadN X0.here hx rfl (hb hby at_0) rfl  k) ?_
  show own_Fin p e below G (s₁.setTop (mkF m 1 #[iv p1, iv p2, iv p3, .unset, .unset, .unset, .unset, .unset, .unset, .unset, .unset, .unset, .unset, .unset] [(.int p1)]))
  refine own_st (fun _ k => XS.iconst X0.here hx rfl (hb hby at_1) k) ?_
  show own_Fin p e below G (s₁.setTop (mkF m 2 #[iv p1, iv p2, iv p3, .unset, .unset, .unset, .unset, .unset, .unset, .unset, .unset, .unset, .unset, .unset] [(.int (3 : Int32)), (.int p1)]))
  refine own_st (fun _ k => XS.iand X0.here hx rfl (hb hby at_2) rfl k) ?_
  show own_Fin p e below G (s₁.setTop (mkF m 3 #[iv p1, iv p2, iv p3, .unset, .unset, .unset, .unset, .unset, .unset, .unset, .unset, .unset, .unset, .unset] [(.int (p1 &&& (3 : Int32)))]))
  rw [hL]
  show own_Fin p e below G (s₁.setTop (mkF m 3 #[iv p1, iv p2, iv p3, .unset, .unset, .unset, .unset, .unset, .unset, .unset, .unset, .unset, .unset, .unset] [(.int (0 : Int32))]))
  refine own_st (fun _ k => XS.istoreN X0.here hx rfl (hb hby at_3) rfl (l' := #[iv p1, iv p2, iv p3, iv (0 : Int32), .unset, .unset, .unset, .unset, .unset, .unset, .unset, .unset, .unset, .unset]) rfl k) ?_
  show own_Fin p e below G (s₁.setTop (mkF m 4 #[iv p1, iv p2, iv p3, iv (0 : Int32), .unset, .unset, .unset, .unset, .unset, .unset, .unset, .unset, .unset, .unset] []))
  refine own_st (fun _ k => XS.iconst X0.here hx rfl (hb hby at_4) k) ?_
  show own_Fin p e below G (s₁.setTop (mkF m 5 #[iv p1, iv p2, iv p3, iv (0 : Int32), .unset, .unset, .unset, .unset, .unset, .unset, .unset, .unset, .unset, .unset] [(.int (3 : Int32))]))
  obtain ⟨T55, h55, k55, X55, e55, E55, A55, st55⟩ := newP X0 hx hZ (own_w hw 0 rfl) e0 (g := (mkF m 5 #[iv p1, iv p2, iv p3, iv (0 : Int32), .unset, .unset, .unset, .unset, .unset, .unset, .unset, .unset, .unset, .unset] [(.int (3 : Int32))])) rfl (hb hby at_5) rfl (by decide) (cap := 3) (by decide) (by decide) (by decide) (by decide)
  clear X0 e0
  obtain ⟨b55, g55⟩ : ∃ z, z = h0.size := ⟨_, rfl⟩
  rw [← g55] at A55 st55
  have sz_b55 : h0.size ≤ b55 := Nat.le_trans K0.1 (Nat.le_of_eq g55.symm)
  have g_b55 : n0 ≤ b55 := Nat.le_trans Z0 sz_b55
  have K57 : Keep h0 h55 [] := K0.ext E55
  clear K0 E55
  have V55 : own_AV Z h55 b55 .int (own_is [(0 : Int32), (0 : Int32), (0 : Int32)]) := own_AV_newI A55
  clear A55
  refine own_st st55 ?_
  clear st55
  show own_Fin p e below G (T55.setTop (mkF m 7 #[iv p1, iv p2, iv p3, iv (0 : Int32), .unset, .unset, .unset, .unset, .unset, .unset, .unset, .unset, .unset, .unset] [(.ref b55)]))
  refine own_st (fun _ k => XS.astore X55.here hx rfl (hb hby at_7) rfl rfl (l' := #[iv p1, iv p2, iv p3, iv (0 : Int32), rv b55, .unset, .unset, .unset, .unset, .unset, .unset, .unset, .unset, .unset]) rfl k) ?_
  show own_Fin p e below G (T55.setTop (mkF m 9 #[iv p1, iv p2, iv p3, iv (0 : Int32), rv b55, .unset, .unset, .unset, .unset, .unset, .unset, .unset, .unset, .unset] []))
  refine own_st (fun _ k => XS.iconst X55.here hx rfl (hb hby at_9) k) ?_
  show own_Fin p e below G (T55.setTop (mkF m 10 #[iv p1, iv p2, iv p3, iv (0 : Int32), rv b55, .unset, .unset, .unset, .unset, .unset, .unset, .unset, .unset, .unset] [(.int (3 : Int32))]))
  obtain ⟨T58, h58, k58, X58, e58, E58, A58, st58⟩ := newP X55 hx hZ (own_w hw 0 rfl) e55 (g := (mkF m 10 #[iv p1, iv p2, iv p3, iv (0 : Int32), rv b55, .unset, .unset, .unset, .unset, .unset, .unset, .unset, .unset, .unset] [(.int (3 : Int32))])) rfl (hb hby at_10) rfl (by decide) (cap := 3) (by decide) (by decide) (by decide) (by decide)
  clear X55 e55
  obtain ⟨b58, g58⟩ : ∃ z, z = h55.size := ⟨_, rfl⟩
  rw [← g58] at A58 st58
  have ne_b55_b58 : b55 ≠ b58 := Nat.ne_of_lt (Nat.lt_of_lt_of_le V55.lt (Nat.le_of_eq g58.symm))
  have sz_b58 : h0.size ≤ b58 := Nat.le_trans K57.1 (Nat.le_of_eq g58.symm)
  have g_b58 : n0 ≤ b58 := Nat.le_trans Z0 sz_b58
  have f59_0 := V55.ext E58
  clear V55
  have K60 : Keep h0 h58 [] := K57.ext E58
  clear K57 E58
  have V58 : own_AV Z h58 b58 .int (own_is [(0 : Int32), (0 : Int32), (0 : Int32)]) := own_AV_newI A58
  clear A58
  refine own_st st58 ?_
  clear st58
  show own_Fin p e below G (T58.setTop (mkF m 12 #[iv p1, iv p2, iv p3, iv (0 : Int32), rv b55, .unset, .unset, .unset, .unset, .unset, .unset, .unset, .unset, .unset] [(.ref b58)]))
  refine own_st (fun _ k => XS.astore X58.here hx rfl (hb hby at_12) rfl rfl (l' := #[iv p1, iv p2, iv p3, iv (0 : Int32), rv b55, rv b58, .unset, .unset, .unset, .unset, .unset, .unset, .unset, .unset]) rfl k) ?_
  show own_Fin p e below G (T58.setTop (mkF m 14 #[iv p1, iv p2, iv p3, iv (0 : Int32), rv b55, rv b58, .unset, .unset, .unset, .unset, .unset, .unset, .unset, .unset] []))
  refine own_st (fun _ k => XS.iconst X58.here hx rfl (hb hby at_14) k) ?_
  show own_Fin p e below G (T58.setTop (mkF m 15 #[iv p1, iv p2, iv p3, iv (0 : Int32), rv b55, rv b58, .unset, .unset, .unset, .unset, .unset, .unset, .unset, .unset] [(.int (3 : Int32))]))
  obtain ⟨T61, h61, k61, X61, e61, E61, A61, st61⟩ := newP X58 hx hZ (own_w hw 0 rfl) e58 (g := (mkF m 15 #[iv p1, iv p2, iv p3, iv (0 : Int32), rv b55, rv b58, .unset, .unset, .unset, .unset, .unset, .unset, .unset, .unset] [(.int (3 : Int32))])) rfl (hb hby at_15) rfl (by decide) (cap := 3) (by decide) (by decide) (by decide) (by decide)
  clear X58 e58
  obtain ⟨b61, g61⟩ : ∃ z, z = h58.size := ⟨_, rfl⟩
  rw [← g61] at A61 st61
  have ne_b55_b61 : b55 ≠ b61 := Nat.ne_of_lt (Nat.lt_of_lt_of_le f59_0.lt (Nat.le_of_eq g61.symm))
  have ne_b58_b61 : b58 ≠ b61 := Nat.ne_of_lt (Nat.lt_of_lt_of_le V58.lt (Nat.le_of_eq g61.symm))
  have sz_b61 : h0.size ≤ b61 := Nat.le_trans K60.1 (Nat.le_of_eq g61.symm)
  have g_b61 : n0 ≤ b61 := Nat.le_trans Z0 sz_b61
  have f62_0 := f59_0.ext E61
  clear f59_0
  have f62_1 := V58.ext E61
  clear V58
  have K63 : Keep h0 h61 [] := K60.ext E61
  clear K60 E61
  have V61 : own_AV Z h61 b61 .int (own_is [(0 : Int32), (0 : Int32), (0 : Int32)]) := own_AV_newI A61
  clear A61
  refine own_st st61 ?_
  clear st61
  show own_Fin p e below G (T61.setTop (mkF m 17 #[iv p1, iv p2, iv p3, iv (0 : Int32), rv b55, rv b58, .unset, .unset, .unset, .unset, .unset, .unset, .unset, .unset] [(.ref b61)]))
  refine own_st (fun _ k => XS.astore X61.here hx rfl (hb hby at_17) rfl rfl (l' := #[iv p1, iv p2, iv p3, iv (0 : Int32), rv b55, rv b58, rv b61, .unset, .unset, .unset, .unset, .unset, .unset, .unset]) rfl k) ?_
  show own_Fin p e below G (T61.setTop (mkF m 19 #[iv p1, iv p2, iv p3, iv (0 : Int32), rv b55, rv b58, rv b61, .unset, .unset, .unset, .unset, .unset, .unset, .unset] []))
  refine own_st (fun _ k => XS.iloadN X61.here hx rfl (hb hby at_19) rfl  k) ?_
  show own_Fin p e below G (T61.setTop (mkF m 20 #[iv p1, iv p2, iv p3, iv (0 : Int32), rv b55, rv b58, rv b61, .unset, .unset, .unset, .unset, .unset, .unset, .unset] [(.int (0 : Int32))]))
  obtain ⟨T64, h64, k64, X64, e64, E64, A64, st64⟩ := newP X61 hx hZ (own_w hw 0 rfl) e61 (g := (mkF m 20 #[iv p1, iv p2, iv p3, iv (0 : Int32), rv b55, rv b58, rv b61, .unset, .unset, .unset, .unset, .unset, .unset, .unset] [(.int (0 : Int32))])) rfl (hb hby at_20) rfl (by decide) (cap := 0) (by decide) (by decide) (by decide) (by decide)
  clear X61 e61
  obtain ⟨b64, g64⟩ : ∃ z, z = h61.size := ⟨_, rfl⟩
  rw [← g64] at A64 st64
  have ne_b55_b64 : b55 ≠ b64 := Nat.ne_of_lt (Nat.lt_of_lt_of_le f62_0.lt (Nat.le_of_eq g64.symm))
  have ne_b58_b64 : b58 ≠ b64 := Nat.ne_of_lt (Nat.lt_of_lt_of_le f62_1.lt (Nat.le_of_eq g64.symm))
  have ne_b61_b64 : b61 ≠ b64 := Nat.ne_of_lt (Nat.lt_of_lt_of_le V61.lt (Nat.le_of_eq g64.symm))
  have sz_b64 : h0.size ≤ b64 := Nat.le_trans K63.1 (Nat.le_of_eq g64.symm)
  have g_b64 : n0 ≤ b64 := Nat.le_trans Z0 sz_b64
  have f65_0 := f62_0.ext E64
  clear f62_0
  have f65_1 := f62_1.ext E64
  clear f62_1
  have f65_2 := V61.ext E64
  clear V61
  have K66 : Keep h0 h64 [] := K63.ext E64
  clear K63 E64
  have V64 : own_AV Z h64 b64 .int (own_is []) := own_AV_newI A64
  clear A64
  refine own_st st64 ?_
  clear st64
  show own_Fin p e below G (T64.setTop (mkF m 22 #[iv p1, iv p2, iv p3, iv (0 : Int32), rv b55, rv b58, rv b61, .unset, .unset, .unset, .unset, .unset, .unset, .unset] [(.ref b64)]))
  refine own_st (fun _ k => XS.astore X64.here hx rfl (hb hby at_22) rfl rfl (l' := #[iv p1, iv p2, iv p3, iv (0 : Int32), rv b55, rv b58, rv b61, rv b64, .unset, .unset, .unset, .unset, .unset, .unset]) rfl k) ?_
  show own_Fin p e below G (T64.setTop (mkF m 24 #[iv p1, iv p2, iv p3, iv (0 : Int32), rv b55, rv b58, rv b61, rv b64, .unset, .unset, .unset, .unset, .unset, .unset] []))
  refine own_st (fun _ k => XS.iloadN X64.here hx rfl (hb hby at_24) rfl  k) ?_
  show own_Fin p e below G (T64.setTop (mkF m 25 #[iv p1, iv p2, iv p3, iv (0 : Int32), rv b55, rv b58, rv b61, rv b64, .unset, .unset, .unset, .unset, .unset, .unset] [(.int (0 : Int32))]))
  obtain ⟨T67, h67, k67, X67, e67, E67, A67, st67⟩ := newP X64 hx hZ (own_w hw 0 rfl) e64 (g := (mkF m 25 #[iv p1, iv p2, iv p3, iv (0 : Int32), rv b55, rv b58, rv b61, rv b64, .unset, .unset, .unset, .unset, .unset, .unset] [(.int (0 : Int32))])) rfl (hb hby at_25) rfl (by decide) (cap := 0) (by decide) (by decide) (by decide) (by decide)
  clear X64 e64
  obtain ⟨b67, g67⟩ : ∃ z, z = h64.size := ⟨_, rfl⟩
  rw [← g67] at A67 st67
  have ne_b55_b67 : b55 ≠ b67 := Nat.ne_of_lt (Nat.lt_of_lt_of_le f65_0.lt (Nat.le_of_eq g67.symm))
  have ne_b58_b67 : b58 ≠ b67 := Nat.ne_of_lt (Nat.lt_of_lt_of_le f65_1.lt (Nat.le_of_eq g67.symm))
  have ne_b61_b67 : b61 ≠ b67 := Nat.ne_of_lt (Nat.lt_of_lt_of_le f65_2.lt (Nat.le_of_eq g67.symm))
  have ne_b64_b67 : b64 ≠ b67 := Nat.ne_of_lt (Nat.lt_of_lt_of_le V64.lt (Nat.le_of_eq g67.symm))
  have sz_b67 : h0.size ≤ b67 := Nat.le_trans K66.1 (Nat.le_of_eq g67.symm)
  have g_b67 : n0 ≤ b67 := Nat.le_trans Z0 sz_b67
  have f68_0 := f65_0.ext E67
  clear f65_0
  have f68_1 := f65_1.ext E67
  clear f65_1
  have f68_2 := f65_2.ext E67
  clear f65_2
  have f68_3 := V64.ext E67
  clear V64
  have K69 : Keep h0 h67 [] := K66.ext E67
  clear K66 E67
  have V67 : own_AV Z h67 b67 .int (own_is []) := own_AV_newI A67
  clear A67
  refine own_st st67 ?_
  clear st67
  show own_Fin p e below G (T67.setTop (mkF m 27 #[iv p1, iv p2, iv p3, iv (0 : Int32), rv b55, rv b58, rv b61, rv b64, .unset, .unset, .unset, .unset, .unset, .unset] [(.ref b67)]))
  refine own_st (fun _ k => XS.astore X67.here hx rfl (hb hby at_27) rfl rfl (l' := #[iv p1, iv p2, iv p3, iv (0 : Int32), rv b55, rv b58, rv b61, rv b64, rv b67, .unset, .unset, .unset, .unset, .unset]) rfl k) ?_
  show own_Fin p e below G (T67.setTop (mkF m 29 #[iv p1, iv p2, iv p3, iv (0 : Int32), rv b55, rv b58, rv b61, rv b64, rv b67, .unset, .unset, .unset, .unset, .unset] []))
  refine own_st (fun _ k => XS.aload X67.here hx rfl (hb hby at_29) rfl rfl k) ?_
  show own_Fin p e below G (T67.setTop (mkF m 31 #[iv p1, iv p2, iv p3, iv (0 : Int32), rv b55, rv b58, rv b61, rv b64, rv b67, .unset, .unset, .unset, .unset, .unset] [(.ref b55)]))
  refine own_st (fun _ k => XS.iconst X67.here hx rfl (hb hby at_31) k) ?_
  show own_Fin p e below G (T67.setTop (mkF m 32 #[iv p1, iv p2, iv p3, iv (0 : Int32), rv b55, rv b58, rv b61, rv b64, rv b67, .unset, .unset, .unset, .unset, .unset] [(.int (0 : Int32)), (.ref b55)]))
  refine own_st (fun _ k => XS.iloadN X67.here hx rfl (hb hby at_32) rfl  k) ?_
  show own_Fin p e below G (T67.setTop (mkF m 33 #[iv p1, iv p2, iv p3, iv (0 : Int32), rv b55, rv b58, rv b61, rv b64, rv b67, .unset, .unset, .unset, .unset, .unset] [(.int p2), (.int (0 : Int32)), (.ref b55)]))
  refine own_st (fun _ k => XS.bipush X67.here hx rfl (hb hby at_33) k) ?_
  show own_Fin p e below G (T67.setTop (mkF m 35 #[iv p1, iv p2, iv p3, iv (0 : Int32), rv b55, rv b58, rv b61, rv b64, rv b67, .unset, .unset, .unset, .unset, .unset] [(.int (7 : Int32)), (.int p2), (.int (0 : Int32)), (.ref b55)]))
  refine own_st (fun _ k => XS.iand X67.here hx rfl (hb hby at_35) rfl k) ?_
  show own_Fin p e below G (T67.setTop (mkF m 36 #[iv p1, iv p2, iv p3, iv (0 : Int32), rv b55, rv b58, rv b61, rv b64, rv b67, .unset, .unset, .unset, .unset, .unset] [(.int (p2 &&& (7 : Int32))), (.int (0 : Int32)), (.ref b55)]))
  refine own_st (fun _ k => XS.iconst X67.here hx rfl (hb hby at_36) k) ?_
  show own_Fin p e below G (T67.setTop (mkF m 37 #[iv p1, iv p2, iv p3, iv (0 : Int32), rv b55, rv b58, rv b61, rv b64, rv b67, .unset, .unset, .unset, .unset, .unset] [(.int (1 : Int32)), (.int (p2 &&& (7 : Int32))), (.int (0 : Int32)), (.ref b55)]))
  refine own_st (fun _ k => XS.iadd X67.here hx rfl (hb hby at_37) rfl k) ?_
  show own_Fin p e below G (T67.setTop (mkF m 38 #[iv p1, iv p2, iv p3, iv (0 : Int32), rv b55, rv b58, rv b61, rv b64, rv b67, .unset, .unset, .unset, .unset, .unset] [(.int ((p2 &&& (7 : Int32)) + (1 : Int32))), (.int (0 : Int32)), (.ref b55)]))
  have r_u0 := own_n p2
  generalize e_u0 : ((p2 &&& (7 : Int32)) + (1 : Int32)) = u0 at r_u0 ⊢
  show own_Fin p e below G (T67.setTop (mkF m 38 #[iv p1, iv p2, iv p3, iv (0 : Int32), rv b55, rv b58, rv b61, rv b64, rv b67, .unset, .unset, .unset, .unset, .unset] [(.int u0), (.int (0 : Int32)), (.ref b55)]))
  obtain ⟨T70, h70, X70, e70, W70, V70, st70⟩ := own_stI X67 hx hZ e67 f68_0 (j := (0 : Int32)) (n := 3) rfl (by decide) (g := (mkF m 38 #[iv p1, iv p2, iv p3, iv (0 : Int32), rv b55, rv b58, rv b61, rv b64, rv b67, .unset, .unset, .unset, .unset, .unset] [(.int u0), (.int (0 : Int32)), (.ref b55)])) rfl rfl (hb hby at_38)
  clear X67 e67 f68_0
  have f71_1 := f68_1.other W70 (Ne.symm ne_b55_b58)
  clear f68_1
  have f71_2 := f68_2.other W70 (Ne.symm ne_b55_b61)
  clear f68_2
  have f71_3 := f68_3.other W70 (Ne.symm ne_b55_b64)
  clear f68_3
  have f71_4 := V67.other W70 (Ne.symm ne_b55_b67)
  clear V67
  have K72 : Keep h0 h70 [] := K69.wr W70 (Or.inr sz_b55)
  clear K69 W70
  have N73 := Fr.snoc X70 N0 g_b55
  clear N0
  replace V70 : own_AV Z h70 b55 .int (own_is [u0, (0 : Int32), (0 : Int32)]) := V70
  refine own_st st70 ?_
  clear st70
  show own_Fin p e below G (T70.setTop (mkF m 39 #[iv p1, iv p2, iv p3, iv (0 : Int32), rv b55, rv b58, rv b61, rv b64, rv b67, .unset, .unset, .unset, .unset, .unset] []))
  refine own_st (fun _ k => XS.aload X70.here hx rfl (hb hby at_39) rfl rfl k) ?_
  show own_Fin p e below G (T70.setTop (mkF m 41 #[iv p1, iv p2, iv p3, iv (0 : Int32), rv b55, rv b58, rv b61, rv b64, rv b67, .unset, .unset, .unset, .unset, .unset] [(.ref b55)]))
  refine own_st (fun _ k => XS.iconst X70.here hx rfl (hb hby at_41) k) ?_
  show own_Fin p e below G (T70.setTop (mkF m 42 #[iv p1, iv p2, iv p3, iv (0 : Int32), rv b55, rv b58, rv b61, rv b64, rv b67, .unset, .unset, .unset, .unset, .unset] [(.int (1 : Int32)), (.ref b55)]))
  refine own_st (fun _ k => XS.iloadN X70.here hx rfl (hb hby at_42) rfl  k) ?_
  show own_Fin p e below G (T70.setTop (mkF m 43 #[iv p1, iv p2, iv p3, iv (0 : Int32), rv b55, rv b58, rv b61, rv b64, rv b67, .unset, .unset, .unset, .unset, .unset] [(.int p2), (.int (1 : Int32)), (.ref b55)]))
  refine own_st (fun _ k => XS.iconst X70.here hx rfl (hb hby at_43) k) ?_
  show own_Fin p e below G (T70.setTop (mkF m 44 #[iv p1, iv p2, iv p3, iv (0 : Int32), rv b55, rv b58, rv b61, rv b64, rv b67, .unset, .unset, .unset, .unset, .unset] [(.int (3 : Int32)), (.int p2), (.int (1 : Int32)), (.ref b55)]))
  refine own_st (fun _ k => XS.iushr X70.here hx rfl (hb hby at_44) rfl k) ?_
  show own_Fin p e below G (T70.setTop (mkF m 45 #[iv p1, iv p2, iv p3, iv (0 : Int32), rv b55, rv b58, rv b61, rv b64, rv b67, .unset, .unset, .unset, .unset, .unset] [(.int ((p2.toUInt32 >>> ((3 : Int32) &&& 31).toUInt32).toInt32)), (.int (1 : Int32)), (.ref b55)]))
  refine own_st (fun _ k => XS.bipush X70.here hx rfl (hb hby at_45) k) ?_
  show own_Fin p e below G (T70.setTop (mkF m 47 #[iv p1, iv p2, iv p3, iv (0 : Int32), rv b55, rv b58, rv b61, rv b64, rv b67, .unset, .unset, .unset, .unset, .unset] [(.int (7 : Int32)), (.int ((p2.toUInt32 >>> ((3 : Int32) &&& 31).toUInt32).toInt32)), (.int (1 : Int32)), (.ref b55)]))
  refine own_st (fun _ k => XS.iand X70.here hx rfl (hb hby at_47) rfl k) ?_
  show own_Fin p e below G (T70.setTop (mkF m 48 #[iv p1, iv p2, iv p3, iv (0 : Int32), rv b55, rv b58, rv b61, rv b64, rv b67, .unset, .unset, .unset, .unset, .unset] [(.int (((p2.toUInt32 >>> ((3 : Int32) &&& 31).toUInt32).toInt32) &&& (7 : Int32))), (.int (1 : Int32)), (.ref b55)]))
  refine own_st (fun _ k => XS.iconst X70.here hx rfl (hb hby at_48) k) ?_
  show own_Fin p e below G (T70.setTop (mkF m 49 #[iv p1, iv p2, iv p3, iv (0 : Int32), rv b55, rv b58, rv b61, rv b64, rv b67, .unset, .unset, .unset, .unset, .unset] [(.int (1 : Int32)), (.int (((p2.toUInt32 >>> ((3 : Int32) &&& 31).toUInt32).toInt32) &&& (7 : Int32))), (.int (1 : Int32)), (.ref b55)]))
  refine own_st (fun _ k => XS.iadd X70.here hx rfl (hb hby at_49) rfl k) ?_
  show own_Fin p e below G (T70.setTop (mkF m 50 #[iv p1, iv p2, iv p3, iv (0 : Int32), rv b55, rv b58, rv b61, rv b64, rv b67, .unset, .unset, .unset, .unset, .unset] [(.int ((((p2.toUInt32 >>> ((3 : Int32) &&& 31).toUInt32).toInt32) &&& (7 : Int32)) + (1 : Int32))), (.int (1 : Int32)), (.ref b55)]))
  have r_u1 := own_n ((p2.toUInt32 >>> ((3 : Int32) &&& 31).toUInt32).toInt32)
  generalize e_u1 : ((((p2.toUInt32 >>> ((3 : Int32) &&& 31).toUInt32).toInt32) &&& (7 : Int32)) + (1 : Int32)) = u1 at r_u1 ⊢
  show own_Fin p e below G (T70.setTop (mkF m 50 #[iv p1, iv p2, iv p3, iv (0 : Int32), rv b55, rv b58, rv b61, rv b64, rv b67, .unset, .unset, .unset, .unset, .unset] [(.int u1), (.int (1 : Int32)), (.ref b55)]))
  obtain ⟨T74, h74, X74, e74, W74, V74, st74⟩ := own_stI X70 hx hZ e70 V70 (j := (1 : Int32)) (n := 3) rfl (by decide) (g := (mkF m 50 #[iv p1, iv p2, iv p3, iv (0 : Int32), rv b55, rv b58, rv b61, rv b64, rv b67, .unset, .unset, .unset, .unset, .unset] [(.int u1), (.int (1 : Int32)), (.ref b55)])) rfl rfl (hb hby at_50)
  clear X70 e70 V70
  have f75_1 := f71_1.other W74 (Ne.symm ne_b55_b58)
  clear f71_1
  have f75_2 := f71_2.other W74 (Ne.symm ne_b55_b61)
  clear f71_2
  have f75_3 := f71_3.other W74 (Ne.symm ne_b55_b64)
  clear f71_3
  have f75_4 := f71_4.other W74 (Ne.symm ne_b55_b67)
  clear f71_4
  have K76 : Keep h0 h74 [] := K72.wr W74 (Or.inr sz_b55)
  clear K72 W74
  have N77 := Fr.snoc X74 N73 g_b55
  clear N73
  replace V74 : own_AV Z h74 b55 .int (own_is [u0, u1, (0 : Int32)]) := V74
  refine own_st st74 ?_
  clear st74
  show own_Fin p e below G (T74.setTop (mkF m 51 #[iv p1, iv p2, iv p3, iv (0 : Int32), rv b55, rv b58, rv b61, rv b64, rv b67, .unset, .unset, .unset, .unset, .unset] []))
  refine own_st (fun _ k => XS.aload X74.here hx rfl (hb hby at_51) rfl rfl k) ?_
  show own_Fin p e below G (T74.setTop (mkF m 53 #[iv p1, iv p2, iv p3, iv (0 : Int32), rv b55, rv b58, rv b61, rv b64, rv b67, .unset, .unset, .unset, .unset, .unset] [(.ref b55)]))
  refine own_st (fun _ k => XS.iconst X74.here hx rfl (hb hby at_53) k) ?_
  show own_Fin p e below G (T74.setTop (mkF m 54 #[iv p1, iv p2, iv p3, iv (0 : Int32), rv b55, rv b58, rv b61, rv b64, rv b67, .unset, .unset, .unset, .unset, .unset] [(.int (2 : Int32)), (.ref b55)]))
  refine own_st (fun _ k => XS.iloadN X74.here hx rfl (hb hby at_54) rfl  k) ?_
  show own_Fin p e below G (T74.setTop (mkF m 55 #[iv p1, iv p2, iv p3, iv (0 : Int32), rv b55, rv b58, rv b61, rv b64, rv b67, .unset, .unset, .unset, .unset, .unset] [(.int p2), (.int (2 : Int32)), (.ref b55)]))
  refine own_st (fun _ k => XS.bipush X74.here hx rfl (hb hby at_55) k) ?_
  show own_Fin p e below G (T74.setTop (mkF m 57 #[iv p1, iv p2, iv p3, iv (0 : Int32), rv b55, rv b58, rv b61, rv b64, rv b67, .unset, .unset, .unset, .unset, .unset] [(.int (6 : Int32)), (.int p2), (.int (2 : Int32)), (.ref b55)]))
  refine own_st (fun _ k => XS.iushr X74.here hx rfl (hb hby at_57) rfl k) ?_
  show own_Fin p e below G (T74.setTop (mkF m 58 #[iv p1, iv p2, iv p3, iv (0 : Int32), rv b55, rv b58, rv b61, rv b64, rv b67, .unset, .unset, .unset, .unset, .unset] [(.int ((p2.toUInt32 >>> ((6 : Int32) &&& 31).toUInt32).toInt32)), (.int (2 : Int32)), (.ref b55)]))
  refine own_st (fun _ k => XS.bipush X74.here hx rfl (hb hby at_58) k) ?_
  show own_Fin p e below G (T74.setTop (mkF m 60 #[iv p1, iv p2, iv p3, iv (0 : Int32), rv b55, rv b58, rv b61, rv b64, rv b67, .unset, .unset, .unset, .unset, .unset] [(.int (7 : Int32)), (.int ((p2.toUInt32 >>> ((6 : Int32) &&& 31).toUInt32).toInt32)), (.int (2 : Int32)), (.ref b55)]))
  refine own_st (fun _ k => XS.iand X74.here hx rfl (hb hby at_60) rfl k) ?_
  show own_Fin p e below G (T74.setTop (mkF m 61 #[iv p1, iv p2, iv p3, iv (0 : Int32), rv b55, rv b58, rv b61, rv b64, rv b67, .unset, .unset, .unset, .unset, .unset] [(.int (((p2.toUInt32 >>> ((6 : Int32) &&& 31).toUInt32).toInt32) &&& (7 : Int32))), (.int (2 : Int32)), (.ref b55)]))
  refine own_st (fun _ k => XS.iconst X74.here hx rfl (hb hby at_61) k) ?_
  show own_Fin p e below G (T74.setTop (mkF m 62 #[iv p1, iv p2, iv p3, iv (0 : Int32), rv b55, rv b58, rv b61, rv b64, rv b67, .unset, .unset, .unset, .unset, .unset] [(.int (1 : Int32)), (.int (((p2.toUInt32 >>> ((6 : Int32) &&& 31).toUInt32).toInt32) &&& (7 : Int32))), (.int (2 : Int32)), (.ref b55)]))
  refine own_st (fun _ k => XS.iadd X74.here hx rfl (hb hby at_62) rfl k) ?_
  show own_Fin p e below G (T74.setTop (mkF m 63 #[iv p1, iv p2, iv p3, iv (0 : Int32), rv b55, rv b58, rv b61, rv b64, rv b67, .unset, .unset, .unset, .unset, .unset] [(.int ((((p2.toUInt32 >>> ((6 : Int32) &&& 31).toUInt32).toInt32) &&& (7 : Int32)) + (1 : Int32))), (.int (2 : Int32)), (.ref b55)]))
  have r_u2 := own_n ((p2.toUInt32 >>> ((6 : Int32) &&& 31).toUInt32).toInt32)
  generalize e_u2 : ((((p2.toUInt32 >>> ((6 : Int32) &&& 31).toUInt32).toInt32) &&& (7 : Int32)) + (1 : Int32)) = u2 at r_u2 ⊢
  show own_Fin p e below G (T74.setTop (mkF m 63 #[iv p1, iv p2, iv p3, iv (0 : Int32), rv b55, rv b58, rv b61, rv b64, rv b67, .unset, .unset, .unset, .unset, .unset] [(.int u2), (.int (2 : Int32)), (.ref b55)]))
  obtain ⟨T78, h78, X78, e78, W78, V78, st78⟩ := own_stI X74 hx hZ e74 V74 (j := (2 : Int32)) (n := 3) rfl (by decide) (g := (mkF m 63 #[iv p1, iv p2, iv p3, iv (0 : Int32), rv b55, rv b58, rv b61, rv b64, rv b67, .unset, .unset, .unset, .unset, .unset] [(.int u2), (.int (2 : Int32)), (.ref b55)])) rfl rfl (hb hby at_63)
  clear X74 e74 V74
  have f79_1 := f75_1.other W78 (Ne.symm ne_b55_b58)
  clear f75_1
  have f79_2 := f75_2.other W78 (Ne.symm ne_b55_b61)
  clear f75_2
  have f79_3 := f75_3.other W78 (Ne.symm ne_b55_b64)
  clear f75_3
  have f79_4 := f75_4.other W78 (Ne.symm ne_b55_b67)
  clear f75_4
  have K80 : Keep h0 h78 [] := K76.wr W78 (Or.inr sz_b55)
  clear K76 W78
  have N81 := Fr.snoc X78 N77 g_b55
  clear N77
  replace V78 : own_AV Z h78 b55 .int (own_is [u0, u1, u2]) := V78
  refine own_st st78 ?_
  clear st78
  show own_Fin p e below G (T78.setTop (mkF m 64 #[iv p1, iv p2, iv p3, iv (0 : Int32), rv b55, rv b58, rv b61, rv b64, rv b67, .unset, .unset, .unset, .unset, .unset] []))
  refine own_st (fun _ k => XS.aload X78.here hx rfl (hb hby at_64) rfl rfl k) ?_
  show own_Fin p e below G (T78.setTop (mkF m 66 #[iv p1, iv p2, iv p3, iv (0 : Int32), rv b55, rv b58, rv b61, rv b64, rv b67, .unset, .unset, .unset, .unset, .unset] [(.ref b58)]))
  refine own_st (fun _ k => XS.iconst X78.here hx rfl (hb hby at_66) k) ?_
  show own_Fin p e below G (T78.setTop (mkF m 67 #[iv p1, iv p2, iv p3, iv (0 : Int32), rv b55, rv b58, rv b61, rv b64, rv b67, .unset, .unset, .unset, .unset, .unset] [(.int (0 : Int32)), (.ref b58)]))
  refine own_st (fun _ k => XS.iloadN X78.here hx rfl (hb hby at_67) rfl  k) ?_
  show own_Fin p e below G (T78.setTop (mkF m 68 #[iv p1, iv p2, iv p3, iv (0 : Int32), rv b55, rv b58, rv b61, rv b64, rv b67, .unset, .unset, .unset, .unset, .unset] [(.int p3), (.int (0 : Int32)), (.ref b58)]))
  refine own_st (fun _ k => XS.sipush X78.here hx rfl (hb hby at_68) k) ?_
  show own_Fin p e below G (T78.setTop (mkF m 71 #[iv p1, iv p2, iv p3, iv (0 : Int32), rv b55, rv b58, rv b61, rv b64, rv b67, .unset, .unset, .unset, .unset, .unset] [(.int (255 : Int32)), (.int p3), (.int (0 : Int32)), (.ref b58)]))
  refine own_st (fun _ k => XS.iand X78.here hx rfl (hb hby at_71) rfl k) ?_
  show own_Fin p e below G (T78.setTop (mkF m 72 #[iv p1, iv p2, iv p3, iv (0 : Int32), rv b55, rv b58, rv b61, rv b64, rv b67, .unset, .unset, .unset, .unset, .unset] [(.int (p3 &&& (255 : Int32))), (.int (0 : Int32)), (.ref b58)]))
  refine own_st (fun _ k => XS.aload X78.here hx rfl (hb hby at_72) rfl rfl k) ?_
  show own_Fin p e below G (T78.setTop (mkF m 74 #[iv p1, iv p2, iv p3, iv (0 : Int32), rv b55, rv b58, rv b61, rv b64, rv b67, .unset, .unset, .unset, .unset, .unset] [(.ref b55), (.int (p3 &&& (255 : Int32))), (.int (0 : Int32)), (.ref b58)]))
  refine own_st (fun _ k => XS.iconst X78.here hx rfl (hb hby at_74) k) ?_
  show own_Fin p e below G (T78.setTop (mkF m 75 #[iv p1, iv p2, iv p3, iv (0 : Int32), rv b55, rv b58, rv b61, rv b64, rv b67, .unset, .unset, .unset, .unset, .unset] [(.int (0 : Int32)), (.ref b55), (.int (p3 &&& (255 : Int32))), (.int (0 : Int32)), (.ref b58)]))
  refine own_st (fun _ k => own_ldI X78 hx hZ e78 V78 (j := (0 : Int32)) (n := 3) rfl (by decide) (g := (mkF m 75 #[iv p1, iv p2, iv p3, iv (0 : Int32), rv b55, rv b58, rv b61, rv b64, rv b67, .unset, .unset, .unset, .unset, .unset] [(.int (0 : Int32)), (.ref b55), (.int (p3 &&& (255 : Int32))), (.int (0 : Int32)), (.ref b58)])) rfl rfl (hb hby at_75) k) ?_
  show own_Fin p e below G (T78.setTop (mkF m 76 #[iv p1, iv p2, iv p3, iv (0 : Int32), rv b55, rv b58, rv b61, rv b64, rv b67, .unset, .unset, .unset, .unset, .unset] [(.int u0), (.int (p3 &&& (255 : Int32))), (.int (0 : Int32)), (.ref b58)]))
  refine own_st (fun _ k => iremM (g := (mkF m 76 #[iv p1, iv p2, iv p3, iv (0 : Int32), rv b55, rv b58, rv b61, rv b64, rv b67, .unset, .unset, .unset, .unset, .unset] [(.int u0), (.int (p3 &&& (255 : Int32))), (.int (0 : Int32)), (.ref b58)])) X78 hx rfl (hb hby at_76) rfl (own_nz r_u0) k) ?_
  show own_Fin p e below G (T78.setTop (mkF m 77 #[iv p1, iv p2, iv p3, iv (0 : Int32), rv b55, rv b58, rv b61, rv b64, rv b67, .unset, .unset, .unset, .unset, .unset] [(.int ((p3 &&& (255 : Int32)) % u0)), (.int (0 : Int32)), (.ref b58)]))
  have r_c0 := own_c p3 r_u0
  generalize e_c0 : ((p3 &&& (255 : Int32)) % u0) = c0 at r_c0 ⊢
  show own_Fin p e below G (T78.setTop (mkF m 77 #[iv p1, iv p2, iv p3, iv (0 : Int32), rv b55, rv b58, rv b61, rv b64, rv b67, .unset, .unset, .unset, .unset, .unset] [(.int c0), (.int (0 : Int32)), (.ref b58)]))
  obtain ⟨T82, h82, X82, e82, W82, V82, st82⟩ := own_stI X78 hx hZ e78 f79_1 (j := (0 : Int32)) (n := 3) rfl (by decide) (g := (mkF m 77 #[iv p1, iv p2, iv p3, iv (0 : Int32), rv b55, rv b58, rv b61, rv b64, rv b67, .unset, .unset, .unset, .unset, .unset] [(.int c0), (.int (0 : Int32)), (.ref b58)])) rfl rfl (hb hby at_77)
  clear X78 e78 f79_1
  have f83_0 := V78.other W82 ne_b55_b58
  clear V78
  have f83_2 := f79_2.other W82 (Ne.symm ne_b58_b61)
  clear f79_2
  have f83_3 := f79_3.other W82 (Ne.symm ne_b58_b64)
  clear f79_3
  have f83_4 := f79_4.other W82 (Ne.symm ne_b58_b67)
  clear f79_4
  have K84 : Keep h0 h82 [] := K80.wr W82 (Or.inr sz_b58)
  clear K80 W82
  have N85 := Fr.snoc X82 N81 g_b58
  clear N81
  replace V82 : own_AV Z h82 b58 .int (own_is [c0, (0 : Int32), (0 : Int32)]) := V82
  refine own_st st82 ?_
  clear st82
  show own_Fin p e below G (T82.setTop (mkF m 78 #[iv p1, iv p2, iv p3, iv (0 : Int32), rv b55, rv b58, rv b61, rv b64, rv b67, .unset, .unset, .unset, .unset, .unset] []))
  refine own_st (fun _ k => XS.aload X82.here hx rfl (hb hby at_78) rfl rfl k) ?_
  show own_Fin p e below G (T82.setTop (mkF m 80 #[iv p1, iv p2, iv p3, iv (0 : Int32), rv b55, rv b58, rv b61, rv b64, rv b67, .unset, .unset, .unset, .unset, .unset] [(.ref b58)]))
  refine own_st (fun _ k => XS.iconst X82.here hx rfl (hb hby at_80) k) ?_
  show own_Fin p e below G (T82.setTop (mkF m 81 #[iv p1, iv p2, iv p3, iv (0 : Int32), rv b55, rv b58, rv b61, rv b64, rv b67, .unset, .unset, .unset, .unset, .unset] [(.int (1 : Int32)), (.ref b58)]))
  refine own_st (fun _ k => XS.iloadN X82.here hx rfl (hb hby at_81) rfl  k) ?_
  show own_Fin p e below G (T82.setTop (mkF m 82 #[iv p1, iv p2, iv p3, iv (0 : Int32), rv b55, rv b58, rv b61, rv b64, rv b67, .unset, .unset, .unset, .unset, .unset] [(.int p3), (.int (1 : Int32)), (.ref b58)]))
  refine own_st (fun _ k => XS.bipush X82.here hx rfl (hb hby at_82) k) ?_
  show own_Fin p e below G (T82.setTop (mkF m 84 #[iv p1, iv p2, iv p3, iv (0 : Int32), rv b55, rv b58, rv b61, rv b64, rv b67, .unset, .unset, .unset, .unset, .unset] [(.int (8 : Int32)), (.int p3), (.int (1 : Int32)), (.ref b58)]))
  refine own_st (fun _ k => XS.iushr X82.here hx rfl (hb hby at_84) rfl k) ?_
  show own_Fin p e below G (T82.setTop (mkF m 85 #[iv p1, iv p2, iv p3, iv (0 : Int32), rv b55, rv b58, rv b61, rv b64, rv b67, .unset, .unset, .unset, .unset, .unset] [(.int ((p3.toUInt32 >>> ((8 : Int32) &&& 31).toUInt32).toInt32)), (.int (1 : Int32)), (.ref b58)]))
  refine own_st (fun _ k => XS.sipush X82.here hx rfl (hb hby at_85) k) ?_
  show own_Fin p e below G (T82.setTop (mkF m 88 #[iv p1, iv p2, iv p3, iv (0 : Int32), rv b55, rv b58, rv b61, rv b64, rv b67, .unset, .unset, .unset, .unset, .unset] [(.int (255 : Int32)), (.int ((p3.toUInt32 >>> ((8 : Int32) &&& 31).toUInt32).toInt32)), (.int (1 : Int32)), (.ref b58)]))
  refine own_st (fun _ k => XS.iand X82.here hx rfl (hb hby at_88) rfl k) ?_
  show own_Fin p e below G (T82.setTop (mkF m 89 #[iv p1, iv p2, iv p3, iv (0 : Int32), rv b55, rv b58, rv b61, rv b64, rv b67, .unset, .unset, .unset, .unset, .unset] [(.int (((p3.toUInt32 >>> ((8 : Int32) &&& 31).toUInt32).toInt32) &&& (255 : Int32))), (.int (1 : Int32)), (.ref b58)]))
  refine own_st (fun _ k => XS.aload X82.here hx rfl (hb hby at_89) rfl rfl k) ?_
  show own_Fin p e below G (T82.setTop (mkF m 91 #[iv p1, iv p2, iv p3, iv (0 : Int32), rv b55, rv b58, rv b61, rv b64, rv b67, .unset, .unset, .unset, .unset, .unset] [(.ref b55), (.int (((p3.toUInt32 >>> ((8 : Int32) &&& 31).toUInt32).toInt32) &&& (255 : Int32))), (.int (1 : Int32)), (.ref b58)]))
  refine own_st (fun _ k => XS.iconst X82.here hx rfl (hb hby at_91) k) ?_
  show own_Fin p e below G (T82.setTop (mkF m 92 #[iv p1, iv p2, iv p3, iv (0 : Int32), rv b55, rv b58, rv b61, rv b64, rv b67, .unset, .unset, .unset, .unset, .unset] [(.int (1 : Int32)), (.ref b55), (.int (((p3.toUInt32 >>> ((8 : Int32) &&& 31).toUInt32).toInt32) &&& (255 : Int32))), (.int (1 : Int32)), (.ref b58)]))
  refine own_st (fun _ k => own_ldI X82 hx hZ e82 f83_0 (j := (1 : Int32)) (n := 3) rfl (by decide) (g := (mkF m 92 #[iv p1, iv p2, iv p3, iv (0 : Int32), rv b55, rv b58, rv b61, rv b64, rv b67, .unset, .unset, .unset, .unset, .unset] [(.int (1 : Int32)), (.ref b55), (.int (((p3.toUInt32 >>> ((8 : Int32) &&& 31).toUInt32).toInt32) &&& (255 : Int32))), (.int (1 : Int32)), (.ref b58)])) rfl rfl (hb hby at_92) k) ?_
  show own_Fin p e below G (T82.setTop (mkF m 93 #[iv p1, iv p2, iv p3, iv (0 : Int32), rv b55, rv b58, rv b61, rv b64, rv b67, .unset, .unset, .unset, .unset, .unset] [(.int u1), (.int (((p3.toUInt32 >>> ((8 : Int32) &&& 31).toUInt32).toInt32) &&& (255 : Int32))), (.int (1 : Int32)), (.ref b58)]))
  refine own_st (fun _ k => iremM (g := (mkF m 93 #[iv p1, iv p2, iv p3, iv (0 : Int32), rv b55, rv b58, rv b61, rv b64, rv b67, .unset, .unset, .unset, .unset, .unset] [(.int u1), (.int (((p3.toUInt32 >>> ((8 : Int32) &&& 31).toUInt32).toInt32) &&& (255 : Int32))), (.int (1 : Int32)), (.ref b58)])) X82 hx rfl (hb hby at_93) rfl (own_nz r_u1) k) ?_
  show own_Fin p e below G (T82.setTop (mkF m 94 #[iv p1, iv p2, iv p3, iv (0 : Int32), rv b55, rv b58, rv b61, rv b64, rv b67, .unset, .unset, .unset, .unset, .unset] [(.int ((((p3.toUInt32 >>> ((8 : Int32) &&& 31).toUInt32).toInt32) &&& (255 : Int32)) % u1)), (.int (1 : Int32)), (.ref b58)]))
  have r_c1 := own_c ((p3.toUInt32 >>> ((8 : Int32) &&& 31).toUInt32).toInt32) r_u1
  generalize e_c1 : ((((p3.toUInt32 >>> ((8 : Int32) &&& 31).toUInt32).toInt32) &&& (255 : Int32)) % u1) = c1 at r_c1 ⊢
  show own_Fin p e below G (T82.setTop (mkF m 94 #[iv p1, iv p2, iv p3, iv (0 : Int32), rv b55, rv b58, rv b61, rv b64, rv b67, .unset, .unset, .unset, .unset, .unset] [(.int c1), (.int (1 : Int32)), (.ref b58)]))
  obtain ⟨T86, h86, X86, e86, W86, V86, st86⟩ := own_stI X82 hx hZ e82 V82 (j := (1 : Int32)) (n := 3) rfl (by decide) (g := (mkF m 94 #[iv p1, iv p2, iv p3, iv (0 : Int32), rv b55, rv b58, rv b61, rv b64, rv b67, .unset, .unset, .unset, .unset, .unset] [(.int c1), (.int (1 : Int32)), (.ref b58)])) rfl rfl (hb hby at_94)
  clear X82 e82 V82
  have f87_0 := f83_0.other W86 ne_b55_b58
  clear f83_0
  have f87_2 := f83_2.other W86 (Ne.symm ne_b58_b61)
  clear f83_2
  have f87_3 := f83_3.other W86 (Ne.symm ne_b58_b64)
  clear f83_3
  have f87_4 := f83_4.other W86 (Ne.symm ne_b58_b67)
  clear f83_4
  have K88 : Keep h0 h86 [] := K84.wr W86 (Or.inr sz_b58)
  clear K84 W86
  have N89 := Fr.snoc X86 N85 g_b58
  clear N85
  replace V86 : own_AV Z h86 b58 .int (own_is [c0, c1, (0 : Int32)]) := V86
  refine own_st st86 ?_
  clear st86
  show own_Fin p e below G (T86.setTop (mkF m 95 #[iv p1, iv p2, iv p3, iv (0 : Int32), rv b55, rv b58, rv b61, rv b64, rv b67, .unset, .unset, .unset, .unset, .unset] []))
  refine own_st (fun _ k => XS.aload X86.here hx rfl (hb hby at_95) rfl rfl k) ?_
  show own_Fin p e below G (T86.setTop (mkF m 97 #[iv p1, iv p2, iv p3, iv (0 : Int32), rv b55, rv b58, rv b61, rv b64, rv b67, .unset, .unset, .unset, .unset, .unset] [(.ref b58)]))
  refine own_st (fun _ k => XS.iconst X86.here hx rfl (hb hby at_97) k) ?_
  show own_Fin p e below G (T86.setTop (mkF m 98 #[iv p1, iv p2, iv p3, iv (0 : Int32), rv b55, rv b58, rv b61, rv b64, rv b67, .unset, .unset, .unset, .unset, .unset] [(.int (2 : Int32)), (.ref b58)]))
  refine own_st (fun _ k => XS.iloadN X86.here hx rfl (hb hby at_98) rfl  k) ?_
  show own_Fin p e below G (T86.setTop (mkF m 99 #[iv p1, iv p2, iv p3, iv (0 : Int32), rv b55, rv b58, rv b61, rv b64, rv b67, .unset, .unset, .unset, .unset, .unset] [(.int p3), (.int (2 : Int32)), (.ref b58)]))
  refine own_st (fun _ k => XS.bipush X86.here hx rfl (hb hby at_99) k) ?_
  show own_Fin p e below G (T86.setTop (mkF m 101 #[iv p1, iv p2, iv p3, iv (0 : Int32), rv b55, rv b58, rv b61, rv b64, rv b67, .unset, .unset, .unset, .unset, .unset] [(.int (16 : Int32)), (.int p3), (.int (2 : Int32)), (.ref b58)]))
  refine own_st (fun _ k => XS.iushr X86.here hx rfl (hb hby at_101) rfl k) ?_
  show own_Fin p e below G (T86.setTop (mkF m 102 #[iv p1, iv p2, iv p3, iv (0 : Int32), rv b55, rv b58, rv b61, rv b64, rv b67, .unset, .unset, .unset, .unset, .unset] [(.int ((p3.toUInt32 >>> ((16 : Int32) &&& 31).toUInt32).toInt32)), (.int (2 : Int32)), (.ref b58)]))
  refine own_st (fun _ k => XS.sipush X86.here hx rfl (hb hby at_102) k) ?_
  show own_Fin p e below G (T86.setTop (mkF m 105 #[iv p1, iv p2, iv p3, iv (0 : Int32), rv b55, rv b58, rv b61, rv b64, rv b67, .unset, .unset, .unset, .unset, .unset] [(.int (255 : Int32)), (.int ((p3.toUInt32 >>> ((16 : Int32) &&& 31).toUInt32).toInt32)), (.int (2 : Int32)), (.ref b58)]))
  refine own_st (fun _ k => XS.iand X86.here hx rfl (hb hby at_105) rfl k) ?_
  show own_Fin p e below G (T86.setTop (mkF m 106 #[iv p1, iv p2, iv p3, iv (0 : Int32), rv b55, rv b58, rv b61, rv b64, rv b67, .unset, .unset, .unset, .unset, .unset] [(.int (((p3.toUInt32 >>> ((16 : Int32) &&& 31).toUInt32).toInt32) &&& (255 : Int32))), (.int (2 : Int32)), (.ref b58)]))
  refine own_st (fun _ k => XS.aload X86.here hx rfl (hb hby at_106) rfl rfl k) ?_
  show own_Fin p e below G (T86.setTop (mkF m 108 #[iv p1, iv p2, iv p3, iv (0 : Int32), rv b55, rv b58, rv b61, rv b64, rv b67, .unset, .unset, .unset, .unset, .unset] [(.ref b55), (.int (((p3.toUInt32 >>> ((16 : Int32) &&& 31).toUInt32).toInt32) &&& (255 : Int32))), (.int (2 : Int32)), (.ref b58)]))
  refine own_st (fun _ k => XS.iconst X86.here hx rfl (hb hby at_108) k) ?_
  show own_Fin p e below G (T86.setTop (mkF m 109 #[iv p1, iv p2, iv p3, iv (0 : Int32), rv b55, rv b58, rv b61, rv b64, rv b67, .unset, .unset, .unset, .unset, .unset] [(.int (2 : Int32)), (.ref b55), (.int (((p3.toUInt32 >>> ((16 : Int32) &&& 31).toUInt32).toInt32) &&& (255 : Int32))), (.int (2 : Int32)), (.ref b58)]))
  refine own_st (fun _ k => own_ldI X86 hx hZ e86 f87_0 (j := (2 : Int32)) (n := 3) rfl (by decide) (g := (mkF m 109 #[iv p1, iv p2, iv p3, iv (0 : Int32), rv b55, rv b58, rv b61, rv b64, rv b67, .unset, .unset, .unset, .unset, .unset] [(.int (2 : Int32)), (.ref b55), (.int (((p3.toUInt32 >>> ((16 : Int32) &&& 31).toUInt32).toInt32) &&& (255 : Int32))), (.int (2 : Int32)), (.ref b58)])) rfl rfl (hb hby at_109) k) ?_
  show own_Fin p e below G (T86.setTop (mkF m 110 #[iv p1, iv p2, iv p3, iv (0 : Int32), rv b55, rv b58, rv b61, rv b64, rv b67, .unset, .unset, .unset, .unset, .unset] [(.int u2), (.int (((p3.toUInt32 >>> ((16 : Int32) &&& 31).toUInt32).toInt32) &&& (255 : Int32))), (.int (2 : Int32)), (.ref b58)]))
  refine own_st (fun _ k => iremM (g := (mkF m 110 #[iv p1, iv p2, iv p3, iv (0 : Int32), rv b55, rv b58, rv b61, rv b64, rv b67, .unset, .unset, .unset, .unset, .unset] [(.int u2), (.int (((p3.toUInt32 >>> ((16 : Int32) &&& 31).toUInt32).toInt32) &&& (255 : Int32))), (.int (2 : Int32)), (.ref b58)])) X86 hx rfl (hb hby at_110) rfl (own_nz r_u2) k) ?_
  show own_Fin p e below G (T86.setTop (mkF m 111 #[iv p1, iv p2, iv p3, iv (0 : Int32), rv b55, rv b58, rv b61, rv b64, rv b67, .unset, .unset, .unset, .unset, .unset] [(.int ((((p3.toUInt32 >>> ((16 : Int32) &&& 31).toUInt32).toInt32) &&& (255 : Int32)) % u2)), (.int (2 : Int32)), (.ref b58)]))
  have r_c2 := own_c ((p3.toUInt32 >>> ((16 : Int32) &&& 31).toUInt32).toInt32) r_u2
  generalize e_c2 : ((((p3.toUInt32 >>> ((16 : Int32) &&& 31).toUInt32).toInt32) &&& (255 : Int32)) % u2) = c2 at r_c2 ⊢
  show own_Fin p e below G (T86.setTop (mkF m 111 #[iv p1, iv p2, iv p3, iv (0 : Int32), rv b55, rv b58, rv b61, rv b64, rv b67, .unset, .unset, .unset, .unset, .unset] [(.int c2), (.int (2 : Int32)), (.ref b58)]))
  obtain ⟨T90, h90, X90, e90, W90, V90, st90⟩ := own_stI X86 hx hZ e86 V86 (j := (2 : Int32)) (n := 3) rfl (by decide) (g := (mkF m 111 #[iv p1, iv p2, iv p3, iv (0 : Int32), rv b55, rv b58, rv b61, rv b64, rv b67, .unset, .unset, .unset, .unset, .unset] [(.int c2), (.int (2 : Int32)), (.ref b58)])) rfl rfl (hb hby at_111)
  clear X86 e86 V86
  have f91_0 := f87_0.other W90 ne_b55_b58
  clear f87_0
  have f91_2 := f87_2.other W90 (Ne.symm ne_b58_b61)
  clear f87_2
  have f91_3 := f87_3.other W90 (Ne.symm ne_b58_b64)
  clear f87_3
  have f91_4 := f87_4.other W90 (Ne.symm ne_b58_b67)
  clear f87_4
  have K92 : Keep h0 h90 [] := K88.wr W90 (Or.inr sz_b58)
  clear K88 W90
  have N93 := Fr.snoc X90 N89 g_b58
  clear N89
  replace V90 : own_AV Z h90 b58 .int (own_is [c0, c1, c2]) := V90
  refine own_st st90 ?_
  clear st90
  show own_Fin p e below G (T90.setTop (mkF m 112 #[iv p1, iv p2, iv p3, iv (0 : Int32), rv b55, rv b58, rv b61, rv b64, rv b67, .unset, .unset, .unset, .unset, .unset] []))
  refine own_st (fun _ k => XS.iloadN X90.here hx rfl (hb hby at_112) rfl  k) ?_
  show own_Fin p e below G (T90.setTop (mkF m 113 #[iv p1, iv p2, iv p3, iv (0 : Int32), rv b55, rv b58, rv b61, rv b64, rv b67, .unset, .unset, .unset, .unset, .unset] [(.int (0 : Int32))]))
  refine own_st (fun _ k => XS.ifYes X90.here hx rfl (pc0 := 113) (pc' := 132) rfl (hb hby at_113) rfl ((if0 _ _).trans (flt (by decide : ¬ ((0 : Int32) < (0 : Int32)))).2.2.2) (by decide) (by decide) k) ?_
  show own_Fin p e below G (T90.setTop (mkF m 132 #[iv p1, iv p2, iv p3, iv (0 : Int32), rv b55, rv b58, rv b61, rv b64, rv b67, .unset, .unset, .unset, .unset, .unset] []))
  refine own_st (fun _ k => XS.iloadN X90.here hx rfl (hb hby at_132) rfl  k) ?_
  show own_Fin p e below G (T90.setTop (mkF m 133 #[iv p1, iv p2, iv p3, iv (0 : Int32), rv b55, rv b58, rv b61, rv b64, rv b67, .unset, .unset, .unset, .unset, .unset] [(.int (0 : Int32))]))
  refine own_st (fun _ k => XS.iconst X90.here hx rfl (hb hby at_133) k) ?_
  show own_Fin p e below G (T90.setTop (mkF m 134 #[iv p1, iv p2, iv p3, iv (0 : Int32), rv b55, rv b58, rv b61, rv b64, rv b67, .unset, .unset, .unset, .unset, .unset] [(.int (1 : Int32)), (.int (0 : Int32))]))
  refine own_st (fun _ k => XS.icmpYes X90.here hx rfl (pc0 := 134) (pc' := 153) rfl (hb hby at_134) rfl (flt (by decide : ¬ ((1 : Int32) < (0 : Int32)))).2.2.2 (by decide) (by decide) k) ?_
  show own_Fin p e below G (T90.setTop (mkF m 153 #[iv p1, iv p2, iv p3, iv (0 : Int32), rv b55, rv b58, rv b61, rv b64, rv b67, .unset, .unset, .unset, .unset, .unset] []))
  refine own_st (fun _ k => XS.iloadN X90.here hx rfl (hb hby at_153) rfl  k) ?_
  show own_Fin p e below G (T90.setTop (mkF m 154 #[iv p1, iv p2, iv p3, iv (0 : Int32), rv b55, rv b58, rv b61, rv b64, rv b67, .unset, .unset, .unset, .unset, .unset] [(.int (0 : Int32))]))
  refine own_st (fun _ k => XS.iconst X90.here hx rfl (hb hby at_154) k) ?_
  show own_Fin p e below G (T90.setTop (mkF m 155 #[iv p1, iv p2, iv p3, iv (0 : Int32), rv b55, rv b58, rv b61, rv b64, rv b67, .unset, .unset, .unset, .unset, .unset] [(.int (2 : Int32)), (.int (0 : Int32))]))
  refine own_st (fun _ k => XS.icmpYes X90.here hx rfl (pc0 := 155) (pc' := 174) rfl (hb hby at_155) rfl (flt (by decide : ¬ ((2 : Int32) < (0 : Int32)))).2.2.2 (by decide) (by decide) k) ?_
  show own_Fin p e below G (T90.setTop (mkF m 174 #[iv p1, iv p2, iv p3, iv (0 : Int32), rv b55, rv b58, rv b61, rv b64, rv b67, .unset, .unset, .unset, .unset, .unset] []))
  refine own_st (fun _ k => XS.iloadN X90.here hx rfl (hb hby at_174) rfl  k) ?_
  show own_Fin p e below G (T90.setTop (mkF m 175 #[iv p1, iv p2, iv p3, iv (0 : Int32), rv b55, rv b58, rv b61, rv b64, rv b67, .unset, .unset, .unset, .unset, .unset] [(.int (0 : Int32))]))
  refine own_st (fun _ k => XS.aload X90.here hx rfl (hb hby at_175) rfl rfl k) ?_
  show own_Fin p e below G (T90.setTop (mkF m 177 #[iv p1, iv p2, iv p3, iv (0 : Int32), rv b55, rv b58, rv b61, rv b64, rv b67, .unset, .unset, .unset, .unset, .unset] [(.ref b58), (.int (0 : Int32))]))
  refine own_st (fun _ k => XS.aload X90.here hx rfl (hb hby at_177) rfl rfl k) ?_
  show own_Fin p e below G (T90.setTop (mkF m 179 #[iv p1, iv p2, iv p3, iv (0 : Int32), rv b55, rv b58, rv b61, rv b64, rv b67, .unset, .unset, .unset, .unset, .unset] [(.ref b55), (.ref b58), (.int (0 : Int32))]))
  obtain ⟨_, _, ⟨T94, L94, k94, n94⟩, -, X94, ⟨Lc94, hQ94, l94, y94, z94⟩, st94⟩ := Jvm.LawKit.callS X90 hx (y := own_y0) hown (mvT hZ (own_w hw 1 rfl)) (mvT hZ (own_w hw 2 rfl)) (mvT hZ (own_w hw 3 rfl)) (mvT hZ (own_w hw 4 rfl)) (by decide) (backOf (W := 0) (rm_v0 l Z a0 hw [] b58 b55 c0 c1 c2 u0 u1 u2 h90 n0 (Nat.le_trans Z0 K92.1) V90 f91_0) hZ (own_w hw 4 rfl) (own_w hw 3 rfl) (by decide) (by decide)) (g := (mkF m 179 #[iv p1, iv p2, iv p3, iv (0 : Int32), rv b55, rv b58, rv b61, rv b64, rv b67, .unset, .unset, .unset, .unset, .unset] [(.ref b55), (.ref b58), (.int (0 : Int32))])) rfl (by rw [hml]; rfl) (argsL := [(.int (0 : Int32)), (.ref b58), (.ref b55)]) (rest := []) (lenOf pd__I_I_I_I_555 rfl) rfl (by show 2 * 0 + _ ≤ _; exact Nat.le_of_eq rfl) (hb hby at_179) (fun _ _ => ⟨rfl, e90, (by decide : 5 + 0 ≤ _), (by decide : 9 + 0 ≤ _)⟩)
  clear X90 e90
  dsimp only [Pt.U, Pt.locs, Pt.cells, Pt.slots] at X94 l94 y94 z94 st94 hQ94
  obtain rfl : k94 = (5 : Nat) := y94
  obtain rfl : n94 = (9 : Nat) := z94
  obtain ⟨rfl, N94q, e94⟩ := hQ94
  skip
  have N94 : Fr n0 L94 := by rw [l94]; exact Fr.app N93 N94q
  clear N93 l94 N94q
  refine own_st st94 ?_
  clear st94
  show own_Fin p e below G (T94.setTop (mkF m 182 #[iv p1, iv p2, iv p3, iv (0 : Int32), rv b55, rv b58, rv b61, rv b64, rv b67, .unset, .unset, .unset, .unset, .unset] [(.int (0 : Int32))]))
  refine own_st (fun _ k => XS.istore X94.here hx rfl (hb hby at_182) rfl (l' := #[iv p1, iv p2, iv p3, iv (0 : Int32), rv b55, rv b58, rv b61, rv b64, rv b67, iv (0 : Int32), .unset, .unset, .unset, .unset]) rfl k) ?_
  show own_Fin p e below G (T94.setTop (mkF m 184 #[iv p1, iv p2, iv p3, iv (0 : Int32), rv b55, rv b58, rv b61, rv b64, rv b67, iv (0 : Int32), .unset, .unset, .unset, .unset] []))
  refine own_st (fun _ k => XS.iloadN X94.here hx rfl (hb hby at_184) rfl  k) ?_
  show own_Fin p e below G (T94.setTop (mkF m 185 #[iv p1, iv p2, iv p3, iv (0 : Int32), rv b55, rv b58, rv b61, rv b64, rv b67, iv (0 : Int32), .unset, .unset, .unset, .unset] [(.int (0 : Int32))]))
  refine own_st (fun _ k => XS.aload X94.here hx rfl (hb hby at_185) rfl rfl k) ?_
  show own_Fin p e below G (T94.setTop (mkF m 187 #[iv p1, iv p2, iv p3, iv (0 : Int32), rv b55, rv b58, rv b61, rv b64, rv b67, iv (0 : Int32), .unset, .unset, .unset, .unset] [(.ref b55), (.int (0 : Int32))]))
  obtain ⟨_, _, ⟨T95, L95, k95, n95⟩, -, X95, ⟨Lc95, hQ95, l95, y95, z95⟩, st95⟩ := Jvm.LawKit.callS X94 hx (y := own_y1) hown (mvT hZ (own_w hw 5 rfl)) (mvT hZ (own_w hw 6 rfl)) (mvT hZ (own_w hw 3 rfl)) (mvT hZ (own_w hw 7 rfl)) (by decide) (backOf (W := 0) (rm_t0 l Z a0 hw [] b55 u0 u1 u2 h90 n0 (Nat.le_trans Z0 K92.1) f91_0) hZ (own_w hw 7 rfl) (own_w hw 3 rfl) (by decide) (by decide)) (g := (mkF m 187 #[iv p1, iv p2, iv p3, iv (0 : Int32), rv b55, rv b58, rv b61, rv b64, rv b67, iv (0 : Int32), .unset, .unset, .unset, .unset] [(.ref b55), (.int (0 : Int32))])) rfl (by rw [hml]; rfl) (argsL := [(.int (0 : Int32)), (.ref b55)]) (rest := []) (lenOf pd__I_I_I_391 rfl) rfl (by show 2 * 0 + _ ≤ _; exact Nat.le_of_eq rfl) (hb hby at_187) (fun _ _ => ⟨rfl, e94, (by decide : 5 + 0 ≤ _), (by decide : 9 + 0 ≤ _)⟩)
  clear X94 e94
  dsimp only [Pt.U, Pt.locs, Pt.cells, Pt.slots] at X95 l95 y95 z95 st95 hQ95
  obtain rfl : k95 = (5 : Nat) := y95
  obtain rfl : n95 = (9 : Nat) := z95
  obtain ⟨rfl, N95q, e95⟩ := hQ95
  skip
  have N95 : Fr n0 L95 := by rw [l95]; exact Fr.app N94 N95q
  clear N94 l95 N95q
  refine own_st st95 ?_
  clear st95
  show own_Fin p e below G (T95.setTop (mkF m 190 #[iv p1, iv p2, iv p3, iv (0 : Int32), rv b55, rv b58, rv b61, rv b64, rv b67, iv (0 : Int32), .unset, .unset, .unset, .unset] [(.int (1 : Int32))]))
  refine own_st (fun _ k => XS.istore X95.here hx rfl (hb hby at_190) rfl (l' := #[iv p1, iv p2, iv p3, iv (0 : Int32), rv b55, rv b58, rv b61, rv b64, rv b67, iv (0 : Int32), iv (1 : Int32), .unset, .unset, .unset]) rfl k) ?_
  show own_Fin p e below G (T95.setTop (mkF m 192 #[iv p1, iv p2, iv p3, iv (0 : Int32), rv b55, rv b58, rv b61, rv b64, rv b67, iv (0 : Int32), iv (1 : Int32), .unset, .unset, .unset] []))
  refine own_st (fun _ k => XS.aload X95.here hx rfl (hb hby at_192) rfl rfl k) ?_
  show own_Fin p e below G (T95.setTop (mkF m 194 #[iv p1, iv p2, iv p3, iv (0 : Int32), rv b55, rv b58, rv b61, rv b64, rv b67, iv (0 : Int32), iv (1 : Int32), .unset, .unset, .unset] [(.ref b67)]))
  refine own_st (fun _ k => XS.aload X95.here hx rfl (hb hby at_194) rfl rfl k) ?_
  show own_Fin p e below G (T95.setTop (mkF m 196 #[iv p1, iv p2, iv p3, iv (0 : Int32), rv b55, rv b58, rv b61, rv b64, rv b67, iv (0 : Int32), iv (1 : Int32), .unset, .unset, .unset] [(.ref b64), (.ref b67)]))
  obtain ⟨_, _, ⟨T96, L96, k96, n96⟩, -, X96, ⟨Lc96, hQ96, l96, y96, z96⟩, st96⟩ := Jvm.LawKit.callS X95 hx (y := own_y3) hown (mvT hZ (own_w hw 8 rfl)) (mvT hZ (own_w hw 9 rfl)) (mvT hZ (own_w hw 10 rfl)) (mvT hZ (own_w hw 11 rfl)) (by decide) (backOf (W := 0) (rm_x0 l Z a0 hw [] b67 b64 h90 n0 (Nat.le_trans Z0 K92.1) f91_4 f91_3 (Ne.symm ne_b64_b67) g_b67) hZ (own_w hw 11 rfl) (own_w hw 10 rfl) (by decide) (by decide)) (g := (mkF m 196 #[iv p1, iv p2, iv p3, iv (0 : Int32), rv b55, rv b58, rv b61, rv b64, rv b67, iv (0 : Int32), iv (1 : Int32), .unset, .unset, .unset] [(.ref b64), (.ref b67)])) rfl (by rw [hml]; rfl) (argsL := [(.ref b67), (.ref b64)]) (rest := []) (lenOf pd___I_I_Z_499 rfl) rfl (by show 2 * 0 + _ ≤ _; exact Nat.le_of_eq rfl) (hb hby at_196) (fun _ _ => ⟨rfl, e95, (by decide : 5 + 0 ≤ _), (by decide : 9 + 0 ≤ _)⟩)
  clear f91_4 X95 e95
  dsimp only [Pt.U, Pt.locs, Pt.cells, Pt.slots] at X96 l96 y96 z96 st96 hQ96
  obtain rfl : k96 = (5 : Nat) := y96
  obtain rfl : n96 = (9 : Nat) := z96
  obtain ⟨rr, ys, hQ96⟩ := hQ96
  obtain ⟨rfl, N96q, Kc96, gA96, hD⟩ := hQ96
  clear gA96
  have N96 : Fr n0 L96 := by rw [l96]; exact Fr.app N95 N96q
  clear N95 l96 N96q
  have f97_0 := f91_0.keep Kc96 (ninS ne_b55_b67 nin0)
  clear f91_0 f97_0
  have f97_1 := V90.keep Kc96 (ninS ne_b58_b67 nin0)
  clear V90 f97_1
  have f97_2 := f91_2.keep Kc96 (ninS ne_b61_b67 nin0)
  clear f91_2
  have f97_3 := f91_3.keep Kc96 (ninS ne_b64_b67 nin0)
  clear f91_3 f97_3
  have K98 : Keep h0 T96.heap [] := K92.trans Kc96 (allS (Or.inr sz_b67) all0)
  clear K92 Kc96 K98
  refine own_st st96 ?_
  clear st96
  show own_Fin p e below G (T96.setTop (mkF m 199 #[iv p1, iv p2, iv p3, iv (0 : Int32), rv b55, rv b58, rv b61, rv b64, rv b67, iv (0 : Int32), iv (1 : Int32), .unset, .unset, .unset] [(.int rr)]))
  obtain ⟨rfl, rfl⟩ := hD
  show own_Fin p e below G (T96.setTop (mkF m 199 #[iv p1, iv p2, iv p3, iv (0 : Int32), rv b55, rv b58, rv b61, rv b64, rv b67, iv (0 : Int32), iv (1 : Int32), .unset, .unset, .unset] [(.int (0 : Int32))]))
  refine own_st (fun _ k => XS.istore X96.here hx rfl (hb hby at_199) rfl (l' := #[iv p1, iv p2, iv p3, iv (0 : Int32), rv b55, rv b58, rv b61, rv b64, rv b67, iv (0 : Int32), iv (1 : Int32), iv (0 : Int32), .unset, .unset]) rfl k) ?_
  show own_Fin p e below G (T96.setTop (mkF m 201 #[iv p1, iv p2, iv p3, iv (0 : Int32), rv b55, rv b58, rv b61, rv b64, rv b67, iv (0 : Int32), iv (1 : Int32), iv (0 : Int32), .unset, .unset] []))
  refine own_st (fun _ k => XS.iconst X96.here hx rfl (hb hby at_201) k) ?_
  show own_Fin p e below G (T96.setTop (mkF m 202 #[iv p1, iv p2, iv p3, iv (0 : Int32), rv b55, rv b58, rv b61, rv b64, rv b67, iv (0 : Int32), iv (1 : Int32), iv (0 : Int32), .unset, .unset] [(.int (1 : Int32))]))
  refine own_st (fun _ k => XS.istore X96.here hx rfl (hb hby at_202) rfl (l' := #[iv p1, iv p2, iv p3, iv (0 : Int32), rv b55, rv b58, rv b61, rv b64, rv b67, iv (0 : Int32), iv (1 : Int32), iv (0 : Int32), iv (1 : Int32), .unset]) rfl k) ?_
  show own_Fin p e below G (T96.setTop (mkF m 204 #[iv p1, iv p2, iv p3, iv (0 : Int32), rv b55, rv b58, rv b61, rv b64, rv b67, iv (0 : Int32), iv (1 : Int32), iv (0 : Int32), iv (1 : Int32), .unset] []))
  refine own_st (fun _ k => XS.iloadN X96.here hx rfl (hb hby at_204) rfl  k) ?_
  show own_Fin p e below G (T96.setTop (mkF m 205 #[iv p1, iv p2, iv p3, iv (0 : Int32), rv b55, rv b58, rv b61, rv b64, rv b67, iv (0 : Int32), iv (1 : Int32), iv (0 : Int32), iv (1 : Int32), .unset] [(.int (0 : Int32))]))
  refine own_st (fun _ k => XS.ifYes X96.here hx rfl (pc0 := 205) (pc' := 239) rfl (hb hby at_205) rfl ((if0 _ _).trans (flt (by decide : ¬ ((0 : Int32) < (0 : Int32)))).2.2.2) (by decide) (by decide) k) ?_
  show own_Fin p e below G (T96.setTop (mkF m 239 #[iv p1, iv p2, iv p3, iv (0 : Int32), rv b55, rv b58, rv b61, rv b64, rv b67, iv (0 : Int32), iv (1 : Int32), iv (0 : Int32), iv (1 : Int32), .unset] []))
  refine own_st (fun _ k => XS.iloadN X96.here hx rfl (hb hby at_239) rfl  k) ?_
  show own_Fin p e below G (T96.setTop (mkF m 240 #[iv p1, iv p2, iv p3, iv (0 : Int32), rv b55, rv b58, rv b61, rv b64, rv b67, iv (0 : Int32), iv (1 : Int32), iv (0 : Int32), iv (1 : Int32), .unset] [(.int (0 : Int32))]))
  refine own_st (fun _ k => XS.iconst X96.here hx rfl (hb hby at_240) k) ?_
  show own_Fin p e below G (T96.setTop (mkF m 241 #[iv p1, iv p2, iv p3, iv (0 : Int32), rv b55, rv b58, rv b61, rv b64, rv b67, iv (0 : Int32), iv (1 : Int32), iv (0 : Int32), iv (1 : Int32), .unset] [(.int (1 : Int32)), (.int (0 : Int32))]))
  refine own_st (fun _ k => XS.icmpYes X96.here hx rfl (pc0 := 241) (pc' := 275) rfl (hb hby at_241) rfl (flt (by decide : ¬ ((1 : Int32) < (0 : Int32)))).2.2.2 (by decide) (by decide) k) ?_
  show own_Fin p e below G (T96.setTop (mkF m 275 #[iv p1, iv p2, iv p3, iv (0 : Int32), rv b55, rv b58, rv b61, rv b64, rv b67, iv (0 : Int32), iv (1 : Int32), iv (0 : Int32), iv (1 : Int32), .unset] []))
  refine own_st (fun _ k => XS.iloadN X96.here hx rfl (hb hby at_275) rfl  k) ?_
  show own_Fin p e below G (T96.setTop (mkF m 276 #[iv p1, iv p2, iv p3, iv (0 : Int32), rv b55, rv b58, rv b61, rv b64, rv b67, iv (0 : Int32), iv (1 : Int32), iv (0 : Int32), iv (1 : Int32), .unset] [(.int (0 : Int32))]))
  refine own_st (fun _ k => XS.iconst X96.here hx rfl (hb hby at_276) k) ?_
  show own_Fin p e below G (T96.setTop (mkF m 277 #[iv p1, iv p2, iv p3, iv (0 : Int32), rv b55, rv b58, rv b61, rv b64, rv b67, iv (0 : Int32), iv (1 : Int32), iv (0 : Int32), iv (1 : Int32), .unset] [(.int (2 : Int32)), (.int (0 : Int32))]))
  refine own_st (fun _ k => XS.icmpYes X96.here hx rfl (pc0 := 277) (pc' := 311) rfl (hb hby at_277) rfl (flt (by decide : ¬ ((2 : Int32) < (0 : Int32)))).2.2.2 (by decide) (by decide) k) ?_
  show own_Fin p e below G (T96.setTop (mkF m 311 #[iv p1, iv p2, iv p3, iv (0 : Int32), rv b55, rv b58, rv b61, rv b64, rv b67, iv (0 : Int32), iv (1 : Int32), iv (0 : Int32), iv (1 : Int32), .unset] []))
  refine own_st (fun _ k => XS.iload X96.here hx rfl (hb hby at_311) rfl  k) ?_
  show own_Fin p e below G (T96.setTop (mkF m 313 #[iv p1, iv p2, iv p3, iv (0 : Int32), rv b55, rv b58, rv b61, rv b64, rv b67, iv (0 : Int32), iv (1 : Int32), iv (0 : Int32), iv (1 : Int32), .unset] [(.int (1 : Int32))]))
  refine own_st (fun _ k => XS.ifYes X96.here hx rfl (pc0 := 313) (pc' := 318) rfl (hb hby at_313) rfl ((if0 _ _).trans (feq (by decide : ¬ ((1 : Int32) = (0 : Int32)))).2) (by decide) (by decide) k) ?_
  show own_Fin p e below G (T96.setTop (mkF m 318 #[iv p1, iv p2, iv p3, iv (0 : Int32), rv b55, rv b58, rv b61, rv b64, rv b67, iv (0 : Int32), iv (1 : Int32), iv (0 : Int32), iv (1 : Int32), .unset] []))
  refine own_st (fun _ k => XS.iload X96.here hx rfl (hb hby at_318) rfl  k) ?_
  show own_Fin p e below G (T96.setTop (mkF m 320 #[iv p1, iv p2, iv p3, iv (0 : Int32), rv b55, rv b58, rv b61, rv b64, rv b67, iv (0 : Int32), iv (1 : Int32), iv (0 : Int32), iv (1 : Int32), .unset] [(.int (0 : Int32))]))
  refine own_st (fun _ k => XS.iconst X96.here hx rfl (hb hby at_320) k) ?_
  show own_Fin p e below G (T96.setTop (mkF m 321 #[iv p1, iv p2, iv p3, iv (0 : Int32), rv b55, rv b58, rv b61, rv b64, rv b67, iv (0 : Int32), iv (1 : Int32), iv (0 : Int32), iv (1 : Int32), .unset] [(.int (1 : Int32)), (.int (0 : Int32))]))
  refine own_st (fun _ k => XS.iadd X96.here hx rfl (hb hby at_321) rfl k) ?_
  show own_Fin p e below G (T96.setTop (mkF m 322 #[iv p1, iv p2, iv p3, iv (0 : Int32), rv b55, rv b58, rv b61, rv b64, rv b67, iv (0 : Int32), iv (1 : Int32), iv (0 : Int32), iv (1 : Int32), .unset] [(.int (1 : Int32))]))
  refine own_st (fun _ k => XS.iload X96.here hx rfl (hb hby at_322) rfl  k) ?_
  show own_Fin p e below G (T96.setTop (mkF m 324 #[iv p1, iv p2, iv p3, iv (0 : Int32), rv b55, rv b58, rv b61, rv b64, rv b67, iv (0 : Int32), iv (1 : Int32), iv (0 : Int32), iv (1 : Int32), .unset] [(.int (1 : Int32)), (.int (1 : Int32))]))
  refine own_st (fun _ k => XS.icmpYes X96.here hx rfl (pc0 := 324) (pc' := 407) rfl (hb hby at_324) rfl (flt (by decide : ¬ ((1 : Int32) < (1 : Int32)))).2.1 (by decide) (by decide) k) ?_
  show own_Fin p e below G (T96.setTop (mkF m 407 #[iv p1, iv p2, iv p3, iv (0 : Int32), rv b55, rv b58, rv b61, rv b64, rv b67, iv (0 : Int32), iv (1 : Int32), iv (0 : Int32), iv (1 : Int32), .unset] []))
  refine own_st (fun _ k => XS.iload X96.here hx rfl (hb hby at_407) rfl  k) ?_
  show own_Fin p e below G (T96.setTop (mkF m 409 #[iv p1, iv p2, iv p3, iv (0 : Int32), rv b55, rv b58, rv b61, rv b64, rv b67, iv (0 : Int32), iv (1 : Int32), iv (0 : Int32), iv (1 : Int32), .unset] [(.int (0 : Int32))]))
  refine own_st (fun _ k => XS.ifNo X96.here hx rfl (hb hby at_409) rfl ((if0 _ _).trans (teq (by decide : ((0 : Int32) = (0 : Int32)))).2) k) ?_
  show own_Fin p e below G (T96.setTop (mkF m 412 #[iv p1, iv p2, iv p3, iv (0 : Int32), rv b55, rv b58, rv b61, rv b64, rv b67, iv (0 : Int32), iv (1 : Int32), iv (0 : Int32), iv (1 : Int32), .unset] []))
  refine own_st (fun _ k => XS.aload X96.here hx rfl (hb hby at_412) rfl rfl k) ?_
  show own_Fin p e below G (T96.setTop (mkF m 414 #[iv p1, iv p2, iv p3, iv (0 : Int32), rv b55, rv b58, rv b61, rv b64, rv b67, iv (0 : Int32), iv (1 : Int32), iv (0 : Int32), iv (1 : Int32), .unset] [(.ref b61)]))
  refine own_st (fun _ k => XS.iconst X96.here hx rfl (hb hby at_414) k) ?_
  show own_Fin p e below G (T96.setTop (mkF m 415 #[iv p1, iv p2, iv p3, iv (0 : Int32), rv b55, rv b58, rv b61, rv b64, rv b67, iv (0 : Int32), iv (1 : Int32), iv (0 : Int32), iv (1 : Int32), .unset] [(.int (0 : Int32)), (.ref b61)]))
  refine own_st (fun _ k => own_ldI X96 hx hZ rfl f97_2 (j := (0 : Int32)) (n := 3) rfl (by decide) (g := (mkF m 415 #[iv p1, iv p2, iv p3, iv (0 : Int32), rv b55, rv b58, rv b61, rv b64, rv b67, iv (0 : Int32), iv (1 : Int32), iv (0 : Int32), iv (1 : Int32), .unset] [(.int (0 : Int32)), (.ref b61)])) rfl rfl (hb hby at_415) k) ?_
  show own_Fin p e below G (T96.setTop (mkF m 416 #[iv p1, iv p2, iv p3, iv (0 : Int32), rv b55, rv b58, rv b61, rv b64, rv b67, iv (0 : Int32), iv (1 : Int32), iv (0 : Int32), iv (1 : Int32), .unset] [(.int (0 : Int32))]))
  refine own_st (fun _ k => XS.ifNo X96.here hx rfl (hb hby at_416) rfl ((if0 _ _).trans (teq (by decide : ((0 : Int32) = (0 : Int32)))).2) k) ?_
  show own_Fin p e below G (T96.setTop (mkF m 419 #[iv p1, iv p2, iv p3, iv (0 : Int32), rv b55, rv b58, rv b61, rv b64, rv b67, iv (0 : Int32), iv (1 : Int32), iv (0 : Int32), iv (1 : Int32), .unset] []))
  refine own_st (fun _ k => XS.aload X96.here hx rfl (hb hby at_419) rfl rfl k) ?_
  show own_Fin p e below G (T96.setTop (mkF m 421 #[iv p1, iv p2, iv p3, iv (0 : Int32), rv b55, rv b58, rv b61, rv b64, rv b67, iv (0 : Int32), iv (1 : Int32), iv (0 : Int32), iv (1 : Int32), .unset] [(.ref b61)]))
  refine own_st (fun _ k => XS.iconst X96.here hx rfl (hb hby at_421) k) ?_
  show own_Fin p e below G (T96.setTop (mkF m 422 #[iv p1, iv p2, iv p3, iv (0 : Int32), rv b55, rv b58, rv b61, rv b64, rv b67, iv (0 : Int32), iv (1 : Int32), iv (0 : Int32), iv (1 : Int32), .unset] [(.int (1 : Int32)), (.ref b61)]))
  refine own_st (fun _ k => own_ldI X96 hx hZ rfl f97_2 (j := (1 : Int32)) (n := 3) rfl (by decide) (g := (mkF m 422 #[iv p1, iv p2, iv p3, iv (0 : Int32), rv b55, rv b58, rv b61, rv b64, rv b67, iv (0 : Int32), iv (1 : Int32), iv (0 : Int32), iv (1 : Int32), .unset] [(.int (1 : Int32)), (.ref b61)])) rfl rfl (hb hby at_422) k) ?_
  show own_Fin p e below G (T96.setTop (mkF m 423 #[iv p1, iv p2, iv p3, iv (0 : Int32), rv b55, rv b58, rv b61, rv b64, rv b67, iv (0 : Int32), iv (1 : Int32), iv (0 : Int32), iv (1 : Int32), .unset] [(.int (0 : Int32))]))
  refine own_st (fun _ k => XS.ifNo X96.here hx rfl (hb hby at_423) rfl ((if0 _ _).trans (teq (by decide : ((0 : Int32) = (0 : Int32)))).2) k) ?_
  show own_Fin p e below G (T96.setTop (mkF m 426 #[iv p1, iv p2, iv p3, iv (0 : Int32), rv b55, rv b58, rv b61, rv b64, rv b67, iv (0 : Int32), iv (1 : Int32), iv (0 : Int32), iv (1 : Int32), .unset] []))
  refine own_st (fun _ k => XS.aload X96.here hx rfl (hb hby at_426) rfl rfl k) ?_
  show own_Fin p e below G (T96.setTop (mkF m 428 #[iv p1, iv p2, iv p3, iv (0 : Int32), rv b55, rv b58, rv b61, rv b64, rv b67, iv (0 : Int32), iv (1 : Int32), iv (0 : Int32), iv (1 : Int32), .unset] [(.ref b61)]))
  refine own_st (fun _ k => XS.iconst X96.here hx rfl (hb hby at_428) k) ?_
  show own_Fin p e below G (T96.setTop (mkF m 429 #[iv p1, iv p2, iv p3, iv (0 : Int32), rv b55, rv b58, rv b61, rv b64, rv b67, iv (0 : Int32), iv (1 : Int32), iv (0 : Int32), iv (1 : Int32), .unset] [(.int (2 : Int32)), (.ref b61)]))
  refine own_st (fun _ k => own_ldI X96 hx hZ rfl f97_2 (j := (2 : Int32)) (n := 3) rfl (by decide) (g := (mkF m 429 #[iv p1, iv p2, iv p3, iv (0 : Int32), rv b55, rv b58, rv b61, rv b64, rv b67, iv (0 : Int32), iv (1 : Int32), iv (0 : Int32), iv (1 : Int32), .unset] [(.int (2 : Int32)), (.ref b61)])) rfl rfl (hb hby at_429) k) ?_
  clear f97_2
  show own_Fin p e below G (T96.setTop (mkF m 430 #[iv p1, iv p2, iv p3, iv (0 : Int32), rv b55, rv b58, rv b61, rv b64, rv b67, iv (0 : Int32), iv (1 : Int32), iv (0 : Int32), iv (1 : Int32), .unset] [(.int (0 : Int32))]))
  refine own_st (fun _ k => XS.ifNo X96.here hx rfl (hb hby at_430) rfl ((if0 _ _).trans (teq (by decide : ((0 : Int32) = (0 : Int32)))).2) k) ?_
  show own_Fin p e below G (T96.setTop (mkF m 433 #[iv p1, iv p2, iv p3, iv (0 : Int32), rv b55, rv b58, rv b61, rv b64, rv b67, iv (0 : Int32), iv (1 : Int32), iv (0 : Int32), iv (1 : Int32), .unset] []))
  refine own_st (fun _ k => XS.iconst X96.here hx rfl (hb hby at_433) k) ?_
  show own_Fin p e below G (T96.setTop (mkF m 434 #[iv p1, iv p2, iv p3, iv (0 : Int32), rv b55, rv b58, rv b61, rv b64, rv b67, iv (0 : Int32), iv (1 : Int32), iv (0 : Int32), iv (1 : Int32), .unset] [(.int (1 : Int32))]))
  refine own_st (fun _ k => XS.goto X96.here hx rfl (pc0 := 434) (pc' := 438) rfl (hb hby at_434) (by decide) (by decide) k) ?_
  show own_Fin p e below G (T96.setTop (mkF m 438 #[iv p1, iv p2, iv p3, iv (0 : Int32), rv b55, rv b58, rv b61, rv b64, rv b67, iv (0 : Int32), iv (1 : Int32), iv (0 : Int32), iv (1 : Int32), .unset] [(.int (1 : Int32))]))
  refine own_out X96 Bd.notSynchronized (v := (some (.int (1 : Int32)))) (fun h => by rw [Bd.returns] at h; cases h) hG (fun fs hr => retN X96 hx (t := .boolean) Bd.returns (by simp) (hb hby at_438) hr) (by decide) (by decide) ?_
  exact ⟨rfl, N96⟩

theorem pd__II_Z_317 : parseMethodDescriptor "(II)Z" = some ⟨[.int, .int], some .boolean⟩ := by decide +kernel
set_option maxRecDepth 65536 in
set_option maxHeartbeats 40000000 in
theorem rm0_1 (l : Launch) (Z : State) (a0 : Array Value) (hw : ∀ d ∈ tables_1, d.before a0 Z = true) (ws : List Jvm.Cond) (p1 : Int32) (p2 : Int32) (p3 : Int32) (h0 : Heap) (n0 : Nat) (Z0 : n0 ≤ h0.size) (hL : (p1 &&& (3 : Int32)) = (1 : Int32)) :
    MetFree l x (head1 (Jvm.Cond.code x code maxLocals ret :: ws) room_1) (fun a U => a = #[(.int p1), (.int p2), (.int p3)] ∧ Z.Warmed39 U.vm ∧ U.heap = h0) (fun _ _ _ _ _ => True) (fun _ U o U' => ∃ v L, o = .returned v ∧ Qrm0_0 Z p1 p2 p3 h0 n0 v U'.heap L ∧ FrameEnd U o U' L room_1.cells room_1.slots) := by
  refine MetFree.of_bodySF (plainFor_of_name pn_com_example_paired_paths_pairedpaths_gsos_ChoicesNextPinLaw) hisR ?_
  intro p e s m args below meth c s₁ Bd hml0 hP hK
  obtain ⟨rfl, hZ, hh⟩ := hP
  have hx := Bd.exec
  have hby := Bd.bytes
  have hml : c.maxLocals = 14 := hml0
  have hown : s.vm.findClass "com/example/paired_paths/pairedpaths/gsos/ChoicesNextPinLaw" = some m.cls := findClass_of_methodNamed Bd.named
  have hnm := (name_of_methodNamed Bd.named Bd.method).1
  have X0 : Stand p l e room_1 s m #[(.int p1), (.int p2), (.int p3)] below meth c s₁ [] 0 0 := Stand.of_body Bd
  have e0 : s₁.heap = h0 := by rw [← hh, Bd.state]; rfl
  have N0 := Fr.nil n0
  have K0 : Keep h0 h0 [] := Keep.refl _ _
  refine own_start (Qk := Qrm0_0 Z p1 p2 p3 h0 n0) (fun G hG => ?_)
  refine own_st (fun _ k => castTop (ef_0_III m p1 p2 p3) k) ?_
  show own_Fin p e below G (s₁.setTop (mkF m 0 #[iv p1, iv p2, iv p3, .unset, .unset, .unset, .unset, .unset, .unset, .unset, .unset, .unset, .unset, .unset] []))
  refine own_st (fun _ k => XS.iloadN X0.here hx rfl (hb hby at_0) rfl  k) ?_
  show own_Fin p e below G (s₁.setTop (mkF m 1 #[iv p1, iv p2, iv p3, .unset, .unset, .unset, .unset, .unset, .unset, .unset, .unset, .unset, .unset, .unset] [(.int p1)]))
  refine own_st (fun _ k => XS.iconst X0.here hx rfl (hb hby at_1) k) ?_
  show own_Fin p e below G (s₁.setTop (mkF m 2 #[iv p1, iv p2, iv p3, .unset, .unset, .unset, .unset, .unset, .unset, .unset, .unset, .unset, .unset, .unset] [(.int (3 : Int32)), (.int p1)]))
  refine own_st (fun _ k => XS.iand X0.here hx rfl (hb hby at_2) rfl k) ?_
  show own_Fin p e below G (s₁.setTop (mkF m 3 #[iv p1, iv p2, iv p3, .unset, .unset, .unset, .unset, .unset, .unset, .unset, .unset, .unset, .unset, .unset] [(.int (p1 &&& (3 : Int32)))]))
  rw [hL]
  show own_Fin p e below G (s₁.setTop (mkF m 3 #[iv p1, iv p2, iv p3, .unset, .unset, .unset, .unset, .unset, .unset, .unset, .unset, .unset, .unset, .unset] [(.int (1 : Int32))]))
  refine own_st (fun _ k => XS.istoreN X0.here hx rfl (hb hby at_3) rfl (l' := #[iv p1, iv p2, iv p3, iv (1 : Int32), .unset, .unset, .unset, .unset, .unset, .unset, .unset, .unset, .unset, .unset]) rfl k) ?_
  show own_Fin p e below G (s₁.setTop (mkF m 4 #[iv p1, iv p2, iv p3, iv (1 : Int32), .unset, .unset, .unset, .unset, .unset, .unset, .unset, .unset, .unset, .unset] []))
  refine own_st (fun _ k => XS.iconst X0.here hx rfl (hb hby at_4) k) ?_
  show own_Fin p e below G (s₁.setTop (mkF m 5 #[iv p1, iv p2, iv p3, iv (1 : Int32), .unset, .unset, .unset, .unset, .unset, .unset, .unset, .unset, .unset, .unset] [(.int (3 : Int32))]))
  obtain ⟨T99, h99, k99, X99, e99, E99, A99, st99⟩ := newP X0 hx hZ (own_w hw 0 rfl) e0 (g := (mkF m 5 #[iv p1, iv p2, iv p3, iv (1 : Int32), .unset, .unset, .unset, .unset, .unset, .unset, .unset, .unset, .unset, .unset] [(.int (3 : Int32))])) rfl (hb hby at_5) rfl (by decide) (cap := 3) (by decide) (by decide) (by decide) (by decide)
  clear X0 e0
  obtain ⟨b99, g99⟩ : ∃ z, z = h0.size := ⟨_, rfl⟩
  rw [← g99] at A99 st99
  have sz_b99 : h0.size ≤ b99 := Nat.le_trans K0.1 (Nat.le_of_eq g99.symm)
  have g_b99 : n0 ≤ b99 := Nat.le_trans Z0 sz_b99
  have K101 : Keep h0 h99 [] := K0.ext E99
  clear K0 E99
  have V99 : own_AV Z h99 b99 .int (own_is [(0 : Int32), (0 : Int32), (0 : Int32)]) := own_AV_newI A99
  clear A99
  refine own_st st99 ?_
  clear st99
  show own_Fin p e below G (T99.setTop (mkF m 7 #[iv p1, iv p2, iv p3, iv (1 : Int32), .unset, .unset, .unset, .unset, .unset, .unset, .unset, .unset, .unset, .unset] [(.ref b99)]))
  refine own_st (fun _ k => XS.astore X99.here hx rfl (hb hby at_7) rfl rfl (l' := #[iv p1, iv p2, iv p3, iv (1 : Int32), rv b99, .unset, .unset, .unset, .unset, .unset, .unset, .unset, .unset, .unset]) rfl k) ?_
  show own_Fin p e below G (T99.setTop (mkF m 9 #[iv p1, iv p2, iv p3, iv (1 : Int32), rv b99, .unset, .unset, .unset, .unset, .unset, .unset, .unset, .unset, .unset] []))
  refine own_st (fun _ k => XS.iconst X99.here hx rfl (hb hby at_9) k) ?_
  show own_Fin p e below G (T99.setTop (mkF m 10 #[iv p1, iv p2, iv p3, iv (1 : Int32), rv b99, .unset, .unset, .unset, .unset, .unset, .unset, .unset, .unset, .unset] [(.int (3 : Int32))]))
  obtain ⟨T102, h102, k102, X102, e102, E102, A102, st102⟩ := newP X99 hx hZ (own_w hw 0 rfl) e99 (g := (mkF m 10 #[iv p1, iv p2, iv p3, iv (1 : Int32), rv b99, .unset, .unset, .unset, .unset, .unset, .unset, .unset, .unset, .unset] [(.int (3 : Int32))])) rfl (hb hby at_10) rfl (by decide) (cap := 3) (by decide) (by decide) (by decide) (by decide)
  clear X99 e99
  obtain ⟨b102, g102⟩ : ∃ z, z = h99.size := ⟨_, rfl⟩
  rw [← g102] at A102 st102
  have ne_b99_b102 : b99 ≠ b102 := Nat.ne_of_lt (Nat.lt_of_lt_of_le V99.lt (Nat.le_of_eq g102.symm))
  have sz_b102 : h0.size ≤ b102 := Nat.le_trans K101.1 (Nat.le_of_eq g102.symm)
  have g_b102 : n0 ≤ b102 := Nat.le_trans Z0 sz_b102
  have f103_0 := V99.ext E102
  clear V99
  have K104 : Keep h0 h102 [] := K101.ext E102
  clear K101 E102
  have V102 : own_AV Z h102 b102 .int (own_is [(0 : Int32), (0 : Int32), (0 : Int32)]) := own_AV_newI A102
  clear A102
  refine own_st st102 ?_
  clear st102
  show own_Fin p e below G (T102.setTop (mkF m 12 #[iv p1, iv p2, iv p3, iv (1 : Int32), rv b99, .unset, .unset, .unset, .unset, .unset, .unset, .unset, .unset, .unset] [(.ref b102)]))
  refine own_st (fun _ k => XS.astore X102.here hx rfl (hb hby at_12) rfl rfl (l' := #[iv p1, iv p2, iv p3, iv (1 : Int32), rv b99, rv b102, .unset, .unset, .unset, .unset, .unset, .unset, .unset, .unset]) rfl k) ?_
  show own_Fin p e below G (T102.setTop (mkF m 14 #[iv p1, iv p2, iv p3, iv (1 : Int32), rv b99, rv b102, .unset, .unset, .unset, .unset, .unset, .unset, .unset, .unset] []))
  refine own_st (fun _ k => XS.iconst X102.here hx rfl (hb hby at_14) k) ?_
  show own_Fin p e below G (T102.setTop (mkF m 15 #[iv p1, iv p2, iv p3, iv (1 : Int32), rv b99, rv b102, .unset, .unset, .unset, .unset, .unset, .unset, .unset, .unset] [(.int (3 : Int32))]))
  obtain ⟨T105, h105, k105, X105, e105, E105, A105, st105⟩ := newP X102 hx hZ (own_w hw 0 rfl) e102 (g := (mkF m 15 #[iv p1, iv p2, iv p3, iv (1 : Int32), rv b99, rv b102, .unset, .unset, .unset, .unset, .unset, .unset, .unset, .unset] [(.int (3 : Int32))])) rfl (hb hby at_15) rfl (by decide) (cap := 3) (by decide) (by decide) (by decide) (by decide)
  clear X102 e102
  obtain ⟨b105, g105⟩ : ∃ z, z = h102.size := ⟨_, rfl⟩
  rw [← g105] at A105 st105
  have ne_b102_b105 : b102 ≠ b105 := Nat.ne_of_lt (Nat.lt_of_lt_of_le V102.lt (Nat.le_of_eq g105.symm))
  have ne_b99_b105 : b99 ≠ b105 := Nat.ne_of_lt (Nat.lt_of_lt_of_le f103_0.lt (Nat.le_of_eq g105.symm))
  have sz_b105 : h0.size ≤ b105 := Nat.le_trans K104.1 (Nat.le_of_eq g105.symm)
  have g_b105 : n0 ≤ b105 := Nat.le_trans Z0 sz_b105
  have f106_0 := f103_0.ext E105
  clear f103_0
  have f106_1 := V102.ext E105
  clear V102
  have K107 : Keep h0 h105 [] := K104.ext E105
  clear K104 E105
  have V105 : own_AV Z h105 b105 .int (own_is [(0 : Int32), (0 : Int32), (0 : Int32)]) := own_AV_newI A105
  clear A105
  refine own_st st105 ?_
  clear st105
  show own_Fin p e below G (T105.setTop (mkF m 17 #[iv p1, iv p2, iv p3, iv (1 : Int32), rv b99, rv b102, .unset, .unset, .unset, .unset, .unset, .unset, .unset, .unset] [(.ref b105)]))
  refine own_st (fun _ k => XS.astore X105.here hx rfl (hb hby at_17) rfl rfl (l' := #[iv p1, iv p2, iv p3, iv (1 : Int32), rv b99, rv b102, rv b105, .unset, .unset, .unset, .unset, .unset, .unset, .unset]) rfl k) ?_
  show own_Fin p e below G (T105.setTop (mkF m 19 #[iv p1, iv p2, iv p3, iv (1 : Int32), rv b99, rv b102, rv b105, .unset, .unset, .unset, .unset, .unset, .unset, .unset] []))
  refine own_st (fun _ k => XS.iloadN X105.here hx rfl (hb hby at_19) rfl  k) ?_
  show own_Fin p e below G (T105.setTop (mkF m 20 #[iv p1, iv p2, iv p3, iv (1 : Int32), rv b99, rv b102, rv b105, .unset, .unset, .unset, .unset, .unset, .unset, .unset] [(.int (1 : Int32))]))
  obtain ⟨T108, h108, k108, X108, e108, E108, A108, st108⟩ := newP X105 hx hZ (own_w hw 0 rfl) e105 (g := (mkF m 20 #[iv p1, iv p2, iv p3, iv (1 : Int32), rv b99, rv b102, rv b105, .unset, .unset, .unset, .unset, .unset, .unset, .unset] [(.int (1 : Int32))])) rfl (hb hby at_20) rfl (by decide) (cap := 1) (by decide) (by decide) (by decide) (by decide)
  clear X105 e105
  obtain ⟨b108, g108⟩ : ∃ z, z = h105.size := ⟨_, rfl⟩
  rw [← g108] at A108 st108
  have ne_b102_b108 : b102 ≠ b108 := Nat.ne_of_lt (Nat.lt_of_lt_of_le f106_1.lt (Nat.le_of_eq g108.symm))
  have ne_b105_b108 : b105 ≠ b108 := Nat.ne_of_lt (Nat.lt_of_lt_of_le V105.lt (Nat.le_of_eq g108.symm))
  have ne_b99_b108 : b99 ≠ b108 := Nat.ne_of_lt (Nat.lt_of_lt_of_le f106_0.lt (Nat.le_of_eq g108.symm))
  have sz_b108 : h0.size ≤ b108 := Nat.le_trans K107.1 (Nat.le_of_eq g108.symm)
  have g_b108 : n0 ≤ b108 := Nat.le_trans Z0 sz_b108
  have f109_0 := f106_0.ext E108
  clear f106_0
  have f109_1 := f106_1.ext E108
  clear f106_1
  have f109_2 := V105.ext E108
  clear V105
  have K110 : Keep h0 h108 [] := K107.ext E108
  clear K107 E108
  have V108 : own_AV Z h108 b108 .int (own_is [(0 : Int32)]) := own_AV_newI A108
  clear A108
  refine own_st st108 ?_
  clear st108
  show own_Fin p e below G (T108.setTop (mkF m 22 #[iv p1, iv p2, iv p3, iv (1 : Int32), rv b99, rv b102, rv b105, .unset, .unset, .unset, .unset, .unset, .unset, .unset] [(.ref b108)]))
  refine own_st (fun _ k => XS.astore X108.here hx rfl (hb hby at_22) rfl rfl (l' := #[iv p1, iv p2, iv p3, iv (1 : Int32), rv b99, rv b102, rv b105, rv b108, .unset, .unset, .unset, .unset, .unset, .unset]) rfl k) ?_
  show own_Fin p e below G (T108.setTop (mkF m 24 #[iv p1, iv p2, iv p3, iv (1 : Int32), rv b99, rv b102, rv b105, rv b108, .unset, .unset, .unset, .unset, .unset, .unset] []))
  refine own_st (fun _ k => XS.iloadN X108.here hx rfl (hb hby at_24) rfl  k) ?_
  show own_Fin p e below G (T108.setTop (mkF m 25 #[iv p1, iv p2, iv p3, iv (1 : Int32), rv b99, rv b102, rv b105, rv b108, .unset, .unset, .unset, .unset, .unset, .unset] [(.int (1 : Int32))]))
  obtain ⟨T111, h111, k111, X111, e111, E111, A111, st111⟩ := newP X108 hx hZ (own_w hw 0 rfl) e108 (g := (mkF m 25 #[iv p1, iv p2, iv p3, iv (1 : Int32), rv b99, rv b102, rv b105, rv b108, .unset, .unset, .unset, .unset, .unset, .unset] [(.int (1 : Int32))])) rfl (hb hby at_25) rfl (by decide) (cap := 1) (by decide) (by decide) (by decide) (by decide)
  clear X108 e108
  obtain ⟨b111, g111⟩ : ∃ z, z = h108.size := ⟨_, rfl⟩
  rw [← g111] at A111 st111
  have ne_b102_b111 : b102 ≠ b111 := Nat.ne_of_lt (Nat.lt_of_lt_of_le f109_1.lt (Nat.le_of_eq g111.symm))
  have ne_b105_b111 : b105 ≠ b111 := Nat.ne_of_lt (Nat.lt_of_lt_of_le f109_2.lt (Nat.le_of_eq g111.symm))
  have ne_b108_b111 : b108 ≠ b111 := Nat.ne_of_lt (Nat.lt_of_lt_of_le V108.lt (Nat.le_of_eq g111.symm))
  have ne_b99_b111 : b99 ≠ b111 := Nat.ne_of_lt (Nat.lt_of_lt_of_le f109_0.lt (Nat.le_of_eq g111.symm))
  have sz_b111 : h0.size ≤ b111 := Nat.le_trans K110.1 (Nat.le_of_eq g111.symm)
  have g_b111 : n0 ≤ b111 := Nat.le_trans Z0 sz_b111
  have f112_0 := f109_0.ext E111
  clear f109_0
  have f112_1 := f109_1.ext E111
  clear f109_1
  have f112_2 := f109_2.ext E111
  clear f109_2
  have f112_3 := V108.ext E111
  clear V108
  have K113 : Keep h0 h111 [] := K110.ext E111
  clear K110 E111
  have V111 : own_AV Z h111 b111 .int (own_is [(0 : Int32)]) := own_AV_newI A111
  clear A111
  refine own_st st111 ?_
  clear st111
  show own_Fin p e below G (T111.setTop (mkF m 27 #[iv p1, iv p2, iv p3, iv (1 : Int32), rv b99, rv b102, rv b105, rv b108, .unset, .unset, .unset, .unset, .unset, .unset] [(.ref b111)]))
  refine own_st (fun _ k => XS.astore X111.here hx rfl (hb hby at_27) rfl rfl (l' := #[iv p1, iv p2, iv p3, iv (1 : Int32), rv b99, rv b102, rv b105, rv b108, rv b111, .unset, .unset, .unset, .unset, .unset]) rfl k) ?_
  show own_Fin p e below G (T111.setTop (mkF m 29 #[iv p1, iv p2, iv p3, iv (1 : Int32), rv b99, rv b102, rv b105, rv b108, rv b111, .unset, .unset, .unset, .unset, .unset] []))
  refine own_st (fun _ k => XS.aload X111.here hx rfl (hb hby at_29) rfl rfl k) ?_
  show own_Fin p e below G (T111.setTop (mkF m 31 #[iv p1, iv p2, iv p3, iv (1 : Int32), rv b99, rv b102, rv b105, rv b108, rv b111, .unset, .unset, .unset, .unset, .unset] [(.ref b99)]))
  refine own_st (fun _ k => XS.iconst X111.here hx rfl (hb hby at_31) k) ?_
  show own_Fin p e below G (T111.setTop (mkF m 32 #[iv p1, iv p2, iv p3, iv (1 : Int32), rv b99, rv b102, rv b105, rv b108, rv b111, .unset, .unset, .unset, .unset, .unset] [(.int (0 : Int32)), (.ref b99)]))
  refine own_st (fun _ k => XS.iloadN X111.here hx rfl (hb hby at_32) rfl  k) ?_
  show own_Fin p e below G (T111.setTop (mkF m 33 #[iv p1, iv p2, iv p3, iv (1 : Int32), rv b99, rv b102, rv b105, rv b108, rv b111, .unset, .unset, .unset, .unset, .unset] [(.int p2), (.int (0 : Int32)), (.ref b99)]))
  refine own_st (fun _ k => XS.bipush X111.here hx rfl (hb hby at_33) k) ?_
  show own_Fin p e below G (T111.setTop (mkF m 35 #[iv p1, iv p2, iv p3, iv (1 : Int32), rv b99, rv b102, rv b105, rv b108, rv b111, .unset, .unset, .unset, .unset, .unset] [(.int (7 : Int32)), (.int p2), (.int (0 : Int32)), (.ref b99)]))
  refine own_st (fun _ k => XS.iand X111.here hx rfl (hb hby at_35) rfl k) ?_
  show own_Fin p e below G (T111.setTop (mkF m 36 #[iv p1, iv p2, iv p3, iv (1 : Int32), rv b99, rv b102, rv b105, rv b108, rv b111, .unset, .unset, .unset, .unset, .unset] [(.int (p2 &&& (7 : Int32))), (.int (0 : Int32)), (.ref b99)]))
  refine own_st (fun _ k => XS.iconst X111.here hx rfl (hb hby at_36) k) ?_
  show own_Fin p e below G (T111.setTop (mkF m 37 #[iv p1, iv p2, iv p3, iv (1 : Int32), rv b99, rv b102, rv b105, rv b108, rv b111, .unset, .unset, .unset, .unset, .unset] [(.int (1 : Int32)), (.int (p2 &&& (7 : Int32))), (.int (0 : Int32)), (.ref b99)]))
  refine own_st (fun _ k => XS.iadd X111.here hx rfl (hb hby at_37) rfl k) ?_
  show own_Fin p e below G (T111.setTop (mkF m 38 #[iv p1, iv p2, iv p3, iv (1 : Int32), rv b99, rv b102, rv b105, rv b108, rv b111, .unset, .unset, .unset, .unset, .unset] [(.int ((p2 &&& (7 : Int32)) + (1 : Int32))), (.int (0 : Int32)), (.ref b99)]))
  have r_u0 := own_n p2
  generalize e_u0 : ((p2 &&& (7 : Int32)) + (1 : Int32)) = u0 at r_u0 ⊢
  show own_Fin p e below G (T111.setTop (mkF m 38 #[iv p1, iv p2, iv p3, iv (1 : Int32), rv b99, rv b102, rv b105, rv b108, rv b111, .unset, .unset, .unset, .unset, .unset] [(.int u0), (.int (0 : Int32)), (.ref b99)]))
  obtain ⟨T114, h114, X114, e114, W114, V114, st114⟩ := own_stI X111 hx hZ e111 f112_0 (j := (0 : Int32)) (n := 3) rfl (by decide) (g := (mkF m 38 #[iv p1, iv p2, iv p3, iv (1 : Int32), rv b99, rv b102, rv b105, rv b108, rv b111, .unset, .unset, .unset, .unset, .unset] [(.int u0), (.int (0 : Int32)), (.ref b99)])) rfl rfl (hb hby at_38)
  clear X111 e111 f112_0
  have f115_1 := f112_1.other W114 (Ne.symm ne_b99_b102)
  clear f112_1
  have f115_2 := f112_2.other W114 (Ne.symm ne_b99_b105)
  clear f112_2
  have f115_3 := f112_3.other W114 (Ne.symm ne_b99_b108)
  clear f112_3
  have f115_4 := V111.other W114 (Ne.symm ne_b99_b111)
  clear V111
  have K116 : Keep h0 h114 [] := K113.wr W114 (Or.inr sz_b99)
  clear K113 W114
  have N117 := Fr.snoc X114 N0 g_b99
  clear N0
  replace V114 : own_AV Z h114 b99 .int (own_is [u0, (0 : Int32), (0 : Int32)]) := V114
  refine own_st st114 ?_
  clear st114
  show own_Fin p e below G (T114.setTop (mkF m 39 #[iv p1, iv p2, iv p3, iv (1 : Int32), rv b99, rv b102, rv b105, rv b108, rv b111, .unset, .unset, .unset, .unset, .unset] []))
  refine own_st (fun _ k => XS.aload X114.here hx rfl (hb hby at_39) rfl rfl k) ?_
  show own_Fin p e below G (T114.setTop (mkF m 41 #[iv p1, iv p2, iv p3, iv (1 : Int32), rv b99, rv b102, rv b105, rv b108, rv b111, .unset, .unset, .unset, .unset, .unset] [(.ref b99)]))
  refine own_st (fun _ k => XS.iconst X114.here hx rfl (hb hby at_41) k) ?_
  show own_Fin p e below G (T114.setTop (mkF m 42 #[iv p1, iv p2, iv p3, iv (1 : Int32), rv b99, rv b102, rv b105, rv b108, rv b111, .unset, .unset, .unset, .unset, .unset] [(.int (1 : Int32)), (.ref b99)]))
  refine own_st (fun _ k => XS.iloadN X114.here hx rfl (hb hby at_42) rfl  k) ?_
  show own_Fin p e below G (T114.setTop (mkF m 43 #[iv p1, iv p2, iv p3, iv (1 : Int32), rv b99, rv b102, rv b105, rv b108, rv b111, .unset, .unset, .unset, .unset, .unset] [(.int p2), (.int (1 : Int32)), (.ref b99)]))
  refine own_st (fun _ k => XS.iconst X114.here hx rfl (hb hby at_43) k) ?_
  show own_Fin p e below G (T114.setTop (mkF m 44 #[iv p1, iv p2, iv p3, iv (1 : Int32), rv b99, rv b102, rv b105, rv b108, rv b111, .unset, .unset, .unset, .unset, .unset] [(.int (3 : Int32)), (.int p2), (.int (1 : Int32)), (.ref b99)]))
  refine own_st (fun _ k => XS.iushr X114.here hx rfl (hb hby at_44) rfl k) ?_
  show own_Fin p e below G (T114.setTop (mkF m 45 #[iv p1, iv p2, iv p3, iv (1 : Int32), rv b99, rv b102, rv b105, rv b108, rv b111, .unset, .unset, .unset, .unset, .unset] [(.int ((p2.toUInt32 >>> ((3 : Int32) &&& 31).toUInt32).toInt32)), (.int (1 : Int32)), (.ref b99)]))
  refine own_st (fun _ k => XS.bipush X114.here hx rfl (hb hby at_45) k) ?_
  show own_Fin p e below G (T114.setTop (mkF m 47 #[iv p1, iv p2, iv p3, iv (1 : Int32), rv b99, rv b102, rv b105, rv b108, rv b111, .unset, .unset, .unset, .unset, .unset] [(.int (7 : Int32)), (.int ((p2.toUInt32 >>> ((3 : Int32) &&& 31).toUInt32).toInt32)), (.int (1 : Int32)), (.ref b99)]))
  refine own_st (fun _ k => XS.iand X114.here hx rfl (hb hby at_47) rfl k) ?_
  show own_Fin p e below G (T114.setTop (mkF m 48 #[iv p1, iv p2, iv p3, iv (1 : Int32), rv b99, rv b102, rv b105, rv b108, rv b111, .unset, .unset, .unset, .unset, .unset] [(.int (((p2.toUInt32 >>> ((3 : Int32) &&& 31).toUInt32).toInt32) &&& (7 : Int32))), (.int (1 : Int32)), (.ref b99)]))
  refine own_st (fun _ k => XS.iconst X114.here hx rfl (hb hby at_48) k) ?_
  show own_Fin p e below G (T114.setTop (mkF m 49 #[iv p1, iv p2, iv p3, iv (1 : Int32), rv b99, rv b102, rv b105, rv b108, rv b111, .unset, .unset, .unset, .unset, .unset] [(.int (1 : Int32)), (.int (((p2.toUInt32 >>> ((3 : Int32) &&& 31).toUInt32).toInt32) &&& (7 : Int32))), (.int (1 : Int32)), (.ref b99)]))
  refine own_st (fun _ k => XS.iadd X114.here hx rfl (hb hby at_49) rfl k) ?_
  show own_Fin p e below G (T114.setTop (mkF m 50 #[iv p1, iv p2, iv p3, iv (1 : Int32), rv b99, rv b102, rv b105, rv b108, rv b111, .unset, .unset, .unset, .unset, .unset] [(.int ((((p2.toUInt32 >>> ((3 : Int32) &&& 31).toUInt32).toInt32) &&& (7 : Int32)) + (1 : Int32))), (.int (1 : Int32)), (.ref b99)]))
  have r_u1 := own_n ((p2.toUInt32 >>> ((3 : Int32) &&& 31).toUInt32).toInt32)
  generalize e_u1 : ((((p2.toUInt32 >>> ((3 : Int32) &&& 31).toUInt32).toInt32) &&& (7 : Int32)) + (1 : Int32)) = u1 at r_u1 ⊢
  show own_Fin p e below G (T114.setTop (mkF m 50 #[iv p1, iv p2, iv p3, iv (1 : Int32), rv b99, rv b102, rv b105, rv b108, rv b111, .unset, .unset, .unset, .unset, .unset] [(.int u1), (.int (1 : Int32)), (.ref b99)]))
  obtain ⟨T118, h118, X118, e118, W118, V118, st118⟩ := own_stI X114 hx hZ e114 V114 (j := (1 : Int32)) (n := 3) rfl (by decide) (g := (mkF m 50 #[iv p1, iv p2, iv p3, iv (1 : Int32), rv b99, rv b102, rv b105, rv b108, rv b111, .unset, .unset, .unset, .unset, .unset] [(.int u1), (.int (1 : Int32)), (.ref b99)])) rfl rfl (hb hby at_50)
  clear X114 e114 V114
  have f119_1 := f115_1.other W118 (Ne.symm ne_b99_b102)
  clear f115_1
  have f119_2 := f115_2.other W118 (Ne.symm ne_b99_b105)
  clear f115_2
  have f119_3 := f115_3.other W118 (Ne.symm ne_b99_b108)
  clear f115_3
  have f119_4 := f115_4.other W118 (Ne.symm ne_b99_b111)
  clear f115_4
  have K120 : Keep h0 h118 [] := K116.wr W118 (Or.inr sz_b99)
  clear K116 W118
  have N121 := Fr.snoc X118 N117 g_b99
  clear N117
  replace V118 : own_AV Z h118 b99 .int (own_is [u0, u1, (0 : Int32)]) := V118
  refine own_st st118 ?_
  clear st118
  show own_Fin p e below G (T118.setTop (mkF m 51 #[iv p1, iv p2, iv p3, iv (1 : Int32), rv b99, rv b102, rv b105, rv b108, rv b111, .unset, .unset, .unset, .unset, .unset] []))
  refine own_st (fun _ k => XS.aload X118.here hx rfl (hb hby at_51) rfl rfl k) ?_
  show own_Fin p e below G (T118.setTop (mkF m 53 #[iv p1, iv p2, iv p3, iv (1 : Int32), rv b99, rv b102, rv b105, rv b108, rv b111, .unset, .unset, .unset, .unset, .unset] [(.ref b99)]))
  refine own_st (fun _ k => XS.iconst X118.here hx rfl (hb hby at_53) k) ?_
  show own_Fin p e below G (T118.setTop (mkF m 54 #[iv p1, iv p2, iv p3, iv (1 : Int32), rv b99, rv b102, rv b105, rv b108, rv b111, .unset, .unset, .unset, .unset, .unset] [(.int (2 : Int32)), (.ref b99)]))
  refine own_st (fun _ k => XS.iloadN X118.here hx rfl (hb hby at_54) rfl  k) ?_
  show own_Fin p e below G (T118.setTop (mkF m 55 #[iv p1, iv p2, iv p3, iv (1 : Int32), rv b99, rv b102, rv b105, rv b108, rv b111, .unset, .unset, .unset, .unset, .unset] [(.int p2), (.int (2 : Int32)), (.ref b99)]))
  refine own_st (fun _ k => XS.bipush X118.here hx rfl (hb hby at_55) k) ?_
  show own_Fin p e below G (T118.setTop (mkF m 57 #[iv p1, iv p2, iv p3, iv (1 : Int32), rv b99, rv b102, rv b105, rv b108, rv b111, .unset, .unset, .unset, .unset, .unset] [(.int (6 : Int32)), (.int p2), (.int (2 : Int32)), (.ref b99)]))
  refine own_st (fun _ k => XS.iushr X118.here hx rfl (hb hby at_57) rfl k) ?_
  show own_Fin p e below G (T118.setTop (mkF m 58 #[iv p1, iv p2, iv p3, iv (1 : Int32), rv b99, rv b102, rv b105, rv b108, rv b111, .unset, .unset, .unset, .unset, .unset] [(.int ((p2.toUInt32 >>> ((6 : Int32) &&& 31).toUInt32).toInt32)), (.int (2 : Int32)), (.ref b99)]))
  refine own_st (fun _ k => XS.bipush X118.here hx rfl (hb hby at_58) k) ?_
  show own_Fin p e below G (T118.setTop (mkF m 60 #[iv p1, iv p2, iv p3, iv (1 : Int32), rv b99, rv b102, rv b105, rv b108, rv b111, .unset, .unset, .unset, .unset, .unset] [(.int (7 : Int32)), (.int ((p2.toUInt32 >>> ((6 : Int32) &&& 31).toUInt32).toInt32)), (.int (2 : Int32)), (.ref b99)]))
  refine own_st (fun _ k => XS.iand X118.here hx rfl (hb hby at_60) rfl k) ?_
  show own_Fin p e below G (T118.setTop (mkF m 61 #[iv p1, iv p2, iv p3, iv (1 : Int32), rv b99, rv b102, rv b105, rv b108, rv b111, .unset, .unset, .unset, .unset, .unset] [(.int (((p2.toUInt32 >>> ((6 : Int32) &&& 31).toUInt32).toInt32) &&& (7 : Int32))), (.int (2 : Int32)), (.ref b99)]))
  refine own_st (fun _ k => XS.iconst X118.here hx rfl (hb hby at_61) k) ?_
  show own_Fin p e below G (T118.setTop (mkF m 62 #[iv p1, iv p2, iv p3, iv (1 : Int32), rv b99, rv b102, rv b105, rv b108, rv b111, .unset, .unset, .unset, .unset, .unset] [(.int (1 : Int32)), (.int (((p2.toUInt32 >>> ((6 : Int32) &&& 31).toUInt32).toInt32) &&& (7 : Int32))), (.int (2 : Int32)), (.ref b99)]))
  refine own_st (fun _ k => XS.iadd X118.here hx rfl (hb hby at_62) rfl k) ?_
  show own_Fin p e below G (T118.setTop (mkF m 63 #[iv p1, iv p2, iv p3, iv (1 : Int32), rv b99, rv b102, rv b105, rv b108, rv b111, .unset, .unset, .unset, .unset, .unset] [(.int ((((p2.toUInt32 >>> ((6 : Int32) &&& 31).toUInt32).toInt32) &&& (7 : Int32)) + (1 : Int32))), (.int (2 : Int32)), (.ref b99)]))
  have r_u2 := own_n ((p2.toUInt32 >>> ((6 : Int32) &&& 31).toUInt32).toInt32)
  generalize e_u2 : ((((p2.toUInt32 >>> ((6 : Int32) &&& 31).toUInt32).toInt32) &&& (7 : Int32)) + (1 : Int32)) = u2 at r_u2 ⊢
  show own_Fin p e below G (T118.setTop (mkF m 63 #[iv p1, iv p2, iv p3, iv (1 : Int32), rv b99, rv b102, rv b105, rv b108, rv b111, .unset, .unset, .unset, .unset, .unset] [(.int u2), (.int (2 : Int32)), (.ref b99)]))
  obtain ⟨T122, h122, X122, e122, W122, V122, st122⟩ := own_stI X118 hx hZ e118 V118 (j := (2 : Int32)) (n := 3) rfl (by decide) (g := (mkF m 63 #[iv p1, iv p2, iv p3, iv (1 : Int32), rv b99, rv b102, rv b105, rv b108, rv b111, .unset, .unset, .unset, .unset, .unset] [(.int u2), (.int (2 : Int32)), (.ref b99)])) rfl rfl (hb hby at_63)
  clear X118 e118 V118
  have f123_1 := f119_1.other W122 (Ne.symm ne_b99_b102)
  clear f119_1
  have f123_2 := f119_2.other W122 (Ne.symm ne_b99_b105)
  clear f119_2
  have f123_3 := f119_3.other W122 (Ne.symm ne_b99_b108)
  clear f119_3
  have f123_4 := f119_4.other W122 (Ne.symm ne_b99_b111)
  clear f119_4
  have K124 : Keep h0 h122 [] := K120.wr W122 (Or.inr sz_b99)
  clear K120 W122
  have N125 := Fr.snoc X122 N121 g_b99
  clear N121
  replace V122 : own_AV Z h122 b99 .int (own_is [u0, u1, u2]) := V122
  refine own_st st122 ?_
  clear st122
  show own_Fin p e below G (T122.setTop (mkF m 64 #[iv p1, iv p2, iv p3, iv (1 : Int32), rv b99, rv b102, rv b105, rv b108, rv b111, .unset, .unset, .unset, .unset, .unset] []))
  refine own_st (fun _ k => XS.aload X122.here hx rfl (hb hby at_64) rfl rfl k) ?_
  show own_Fin p e below G (T122.setTop (mkF m 66 #[iv p1, iv p2, iv p3, iv (1 : Int32), rv b99, rv b102, rv b105, rv b108, rv b111, .unset, .unset, .unset, .unset, .unset] [(.ref b102)]))
  refine own_st (fun _ k => XS.iconst X122.here hx rfl (hb hby at_66) k) ?_
  show own_Fin p e below G (T122.setTop (mkF m 67 #[iv p1, iv p2, iv p3, iv (1 : Int32), rv b99, rv b102, rv b105, rv b108, rv b111, .unset, .unset, .unset, .unset, .unset] [(.int (0 : Int32)), (.ref b102)]))
  refine own_st (fun _ k => XS.iloadN X122.here hx rfl (hb hby at_67) rfl  k) ?_
  show own_Fin p e below G (T122.setTop (mkF m 68 #[iv p1, iv p2, iv p3, iv (1 : Int32), rv b99, rv b102, rv b105, rv b108, rv b111, .unset, .unset, .unset, .unset, .unset] [(.int p3), (.int (0 : Int32)), (.ref b102)]))
  refine own_st (fun _ k => XS.sipush X122.here hx rfl (hb hby at_68) k) ?_
  show own_Fin p e below G (T122.setTop (mkF m 71 #[iv p1, iv p2, iv p3, iv (1 : Int32), rv b99, rv b102, rv b105, rv b108, rv b111, .unset, .unset, .unset, .unset, .unset] [(.int (255 : Int32)), (.int p3), (.int (0 : Int32)), (.ref b102)]))
  refine own_st (fun _ k => XS.iand X122.here hx rfl (hb hby at_71) rfl k) ?_
  show own_Fin p e below G (T122.setTop (mkF m 72 #[iv p1, iv p2, iv p3, iv (1 : Int32), rv b99, rv b102, rv b105, rv b108, rv b111, .unset, .unset, .unset, .unset, .unset] [(.int (p3 &&& (255 : Int32))), (.int (0 : Int32)), (.ref b102)]))
  refine own_st (fun _ k => XS.aload X122.here hx rfl (hb hby at_72) rfl rfl k) ?_
  show own_Fin p e below G (T122.setTop (mkF m 74 #[iv p1, iv p2, iv p3, iv (1 : Int32), rv b99, rv b102, rv b105, rv b108, rv b111, .unset, .unset, .unset, .unset, .unset] [(.ref b99), (.int (p3 &&& (255 : Int32))), (.int (0 : Int32)), (.ref b102)]))
  refine own_st (fun _ k => XS.iconst X122.here hx rfl (hb hby at_74) k) ?_
  show own_Fin p e below G (T122.setTop (mkF m 75 #[iv p1, iv p2, iv p3, iv (1 : Int32), rv b99, rv b102, rv b105, rv b108, rv b111, .unset, .unset, .unset, .unset, .unset] [(.int (0 : Int32)), (.ref b99), (.int (p3 &&& (255 : Int32))), (.int (0 : Int32)), (.ref b102)]))
  refine own_st (fun _ k => own_ldI X122 hx hZ e122 V122 (j := (0 : Int32)) (n := 3) rfl (by decide) (g := (mkF m 75 #[iv p1, iv p2, iv p3, iv (1 : Int32), rv b99, rv b102, rv b105, rv b108, rv b111, .unset, .unset, .unset, .unset, .unset] [(.int (0 : Int32)), (.ref b99), (.int (p3 &&& (255 : Int32))), (.int (0 : Int32)), (.ref b102)])) rfl rfl (hb hby at_75) k) ?_
  show own_Fin p e below G (T122.setTop (mkF m 76 #[iv p1, iv p2, iv p3, iv (1 : Int32), rv b99, rv b102, rv b105, rv b108, rv b111, .unset, .unset, .unset, .unset, .unset] [(.int u0), (.int (p3 &&& (255 : Int32))), (.int (0 : Int32)), (.ref b102)]))
  refine own_st (fun _ k => iremM (g := (mkF m 76 #[iv p1, iv p2, iv p3, iv (1 : Int32), rv b99, rv b102, rv b105, rv b108, rv b111, .unset, .unset, .unset, .unset, .unset] [(.int u0), (.int (p3 &&& (255 : Int32))), (.int (0 : Int32)), (.ref b102)])) X122 hx rfl (hb hby at_76) rfl (own_nz r_u0) k) ?_
  show own_Fin p e below G (T122.setTop (mkF m 77 #[iv p1, iv p2, iv p3, iv (1 : Int32), rv b99, rv b102, rv b105, rv b108, rv b111, .unset, .unset, .unset, .unset, .unset] [(.int ((p3 &&& (255 : Int32)) % u0)), (.int (0 : Int32)), (.ref b102)]))
  have r_c0 := own_c p3 r_u0
  generalize e_c0 : ((p3 &&& (255 : Int32)) % u0) = c0 at r_c0 ⊢
  show own_Fin p e below G (T122.setTop (mkF m 77 #[iv p1, iv p2, iv p3, iv (1 : Int32), rv b99, rv b102, rv b105, rv b108, rv b111, .unset, .unset, .unset, .unset, .unset] [(.int c0), (.int (0 : Int32)), (.ref b102)]))
  obtain ⟨T126, h126, X126, e126, W126, V126, st126⟩ := own_stI X122 hx hZ e122 f123_1 (j := (0 : Int32)) (n := 3) rfl (by decide) (g := (mkF m 77 #[iv p1, iv p2, iv p3, iv (1 : Int32), rv b99, rv b102, rv b105, rv b108, rv b111, .unset, .unset, .unset, .unset, .unset] [(.int c0), (.int (0 : Int32)), (.ref b102)])) rfl rfl (hb hby at_77)
  clear X122 e122 f123_1
  have f127_0 := V122.other W126 ne_b99_b102
  clear V122
  have f127_2 := f123_2.other W126 (Ne.symm ne_b102_b105)
  clear f123_2
  have f127_3 := f123_3.other W126 (Ne.symm ne_b102_b108)
  clear f123_3
  have f127_4 := f123_4.other W126 (Ne.symm ne_b102_b111)
  clear f123_4
  have K128 : Keep h0 h126 [] := K124.wr W126 (Or.inr sz_b102)
  clear K124 W126
  have N129 := Fr.snoc X126 N125 g_b102
  clear N125
  replace V126 : own_AV Z h126 b102 .int (own_is [c0, (0 : Int32), (0 : Int32)]) := V126
  refine own_st st126 ?_
  clear st126
  show own_Fin p e below G (T126.setTop (mkF m 78 #[iv p1, iv p2, iv p3, iv (1 : Int32), rv b99, rv b102, rv b105, rv b108, rv b111, .unset, .unset, .unset, .unset, .unset] []))
  refine own_st (fun _ k => XS.aload X126.here hx rfl (hb hby at_78) rfl rfl k) ?_
  show own_Fin p e below G (T126.setTop (mkF m 80 #[iv p1, iv p2, iv p3, iv (1 : Int32), rv b99, rv b102, rv b105, rv b108, rv b111, .unset, .unset, .unset, .unset, .unset] [(.ref b102)]))
  refine own_st (fun _ k => XS.iconst X126.here hx rfl (hb hby at_80) k) ?_
  show own_Fin p e below G (T126.setTop (mkF m 81 #[iv p1, iv p2, iv p3, iv (1 : Int32), rv b99, rv b102, rv b105, rv b108, rv b111, .unset, .unset, .unset, .unset, .unset] [(.int (1 : Int32)), (.ref b102)]))
  refine own_st (fun _ k => XS.iloadN X126.here hx rfl (hb hby at_81) rfl  k) ?_
  show own_Fin p e below G (T126.setTop (mkF m 82 #[iv p1, iv p2, iv p3, iv (1 : Int32), rv b99, rv b102, rv b105, rv b108, rv b111, .unset, .unset, .unset, .unset, .unset] [(.int p3), (.int (1 : Int32)), (.ref b102)]))
  refine own_st (fun _ k => XS.bipush X126.here hx rfl (hb hby at_82) k) ?_
  show own_Fin p e below G (T126.setTop (mkF m 84 #[iv p1, iv p2, iv p3, iv (1 : Int32), rv b99, rv b102, rv b105, rv b108, rv b111, .unset, .unset, .unset, .unset, .unset] [(.int (8 : Int32)), (.int p3), (.int (1 : Int32)), (.ref b102)]))
  refine own_st (fun _ k => XS.iushr X126.here hx rfl (hb hby at_84) rfl k) ?_
  show own_Fin p e below G (T126.setTop (mkF m 85 #[iv p1, iv p2, iv p3, iv (1 : Int32), rv b99, rv b102, rv b105, rv b108, rv b111, .unset, .unset, .unset, .unset, .unset] [(.int ((p3.toUInt32 >>> ((8 : Int32) &&& 31).toUInt32).toInt32)), (.int (1 : Int32)), (.ref b102)]))
  refine own_st (fun _ k => XS.sipush X126.here hx rfl (hb hby at_85) k) ?_
  show own_Fin p e below G (T126.setTop (mkF m 88 #[iv p1, iv p2, iv p3, iv (1 : Int32), rv b99, rv b102, rv b105, rv b108, rv b111, .unset, .unset, .unset, .unset, .unset] [(.int (255 : Int32)), (.int ((p3.toUInt32 >>> ((8 : Int32) &&& 31).toUInt32).toInt32)), (.int (1 : Int32)), (.ref b102)]))
  refine own_st (fun _ k => XS.iand X126.here hx rfl (hb hby at_88) rfl k) ?_
  show own_Fin p e below G (T126.setTop (mkF m 89 #[iv p1, iv p2, iv p3, iv (1 : Int32), rv b99, rv b102, rv b105, rv b108, rv b111, .unset, .unset, .unset, .unset, .unset] [(.int (((p3.toUInt32 >>> ((8 : Int32) &&& 31).toUInt32).toInt32) &&& (255 : Int32))), (.int (1 : Int32)), (.ref b102)]))
  refine own_st (fun _ k => XS.aload X126.here hx rfl (hb hby at_89) rfl rfl k) ?_
  show own_Fin p e below G (T126.setTop (mkF m 91 #[iv p1, iv p2, iv p3, iv (1 : Int32), rv b99, rv b102, rv b105, rv b108, rv b111, .unset, .unset, .unset, .unset, .unset] [(.ref b99), (.int (((p3.toUInt32 >>> ((8 : Int32) &&& 31).toUInt32).toInt32) &&& (255 : Int32))), (.int (1 : Int32)), (.ref b102)]))
  refine own_st (fun _ k => XS.iconst X126.here hx rfl (hb hby at_91) k) ?_
  show own_Fin p e below G (T126.setTop (mkF m 92 #[iv p1, iv p2, iv p3, iv (1 : Int32), rv b99, rv b102, rv b105, rv b108, rv b111, .unset, .unset, .unset, .unset, .unset] [(.int (1 : Int32)), (.ref b99), (.int (((p3.toUInt32 >>> ((8 : Int32) &&& 31).toUInt32).toInt32) &&& (255 : Int32))), (.int (1 : Int32)), (.ref b102)]))
  refine own_st (fun _ k => own_ldI X126 hx hZ e126 f127_0 (j := (1 : Int32)) (n := 3) rfl (by decide) (g := (mkF m 92 #[iv p1, iv p2, iv p3, iv (1 : Int32), rv b99, rv b102, rv b105, rv b108, rv b111, .unset, .unset, .unset, .unset, .unset] [(.int (1 : Int32)), (.ref b99), (.int (((p3.toUInt32 >>> ((8 : Int32) &&& 31).toUInt32).toInt32) &&& (255 : Int32))), (.int (1 : Int32)), (.ref b102)])) rfl rfl (hb hby at_92) k) ?_
  show own_Fin p e below G (T126.setTop (mkF m 93 #[iv p1, iv p2, iv p3, iv (1 : Int32), rv b99, rv b102, rv b105, rv b108, rv b111, .unset, .unset, .unset, .unset, .unset] [(.int u1), (.int (((p3.toUInt32 >>> ((8 : Int32) &&& 31).toUInt32).toInt32) &&& (255 : Int32))), (.int (1 : Int32)), (.ref b102)]))
  refine own_st (fun _ k => iremM (g := (mkF m 93 #[iv p1, iv p2, iv p3, iv (1 : Int32), rv b99, rv b102, rv b105, rv b108, rv b111, .unset, .unset, .unset, .unset, .unset] [(.int u1), (.int (((p3.toUInt32 >>> ((8 : Int32) &&& 31).toUInt32).toInt32) &&& (255 : Int32))), (.int (1 : Int32)), (.ref b102)])) X126 hx rfl (hb hby at_93) rfl (own_nz r_u1) k) ?_
  show own_Fin p e below G (T126.setTop (mkF m 94 #[iv p1, iv p2, iv p3, iv (1 : Int32), rv b99, rv b102, rv b105, rv b108, rv b111, .unset, .unset, .unset, .unset, .unset] [(.int ((((p3.toUInt32 >>> ((8 : Int32) &&& 31).toUInt32).toInt32) &&& (255 : Int32)) % u1)), (.int (1 : Int32)), (.ref b102)]))
  have r_c1 := own_c ((p3.toUInt32 >>> ((8 : Int32) &&& 31).toUInt32).toInt32) r_u1
  generalize e_c1 : ((((p3.toUInt32 >>> ((8 : Int32) &&& 31).toUInt32).toInt32) &&& (255 : Int32)) % u1) = c1 at r_c1 ⊢
  show own_Fin p e below G (T126.setTop (mkF m 94 #[iv p1, iv p2, iv p3, iv (1 : Int32), rv b99, rv b102, rv b105, rv b108, rv b111, .unset, .unset, .unset, .unset, .unset] [(.int c1), (.int (1 : Int32)), (.ref b102)]))
  obtain ⟨T130, h130, X130, e130, W130, V130, st130⟩ := own_stI X126 hx hZ e126 V126 (j := (1 : Int32)) (n := 3) rfl (by decide) (g := (mkF m 94 #[iv p1, iv p2, iv p3, iv (1 : Int32), rv b99, rv b102, rv b105, rv b108, rv b111, .unset, .unset, .unset, .unset, .unset] [(.int c1), (.int (1 : Int32)), (.ref b102)])) rfl rfl (hb hby at_94)
  clear X126 e126 V126
  have f131_0 := f127_0.other W130 ne_b99_b102
  clear f127_0
  have f131_2 := f127_2.other W130 (Ne.symm ne_b102_b105)
  clear f127_2
  have f131_3 := f127_3.other W130 (Ne.symm ne_b102_b108)
  clear f127_3
  have f131_4 := f127_4.other W130 (Ne.symm ne_b102_b111)
  clear f127_4
  have K132 : Keep h0 h130 [] := K128.wr W130 (Or.inr sz_b102)
  clear K128 W130
  have N133 := Fr.snoc X130 N129 g_b102
  clear N129
  replace V130 : own_AV Z h130 b102 .int (own_is [c0, c1, (0 : Int32)]) := V130
  refine own_st st130 ?_
  clear st130
  show own_Fin p e below G (T130.setTop (mkF m 95 #[iv p1, iv p2, iv p3, iv (1 : Int32), rv b99, rv b102, rv b105, rv b108, rv b111, .unset, .unset, .unset, .unset, .unset] []))
  refine own_st (fun _ k => XS.aload X130.here hx rfl (hb hby at_95) rfl rfl k) ?_
  show own_Fin p e below G (T130.setTop (mkF m 97 #[iv p1, iv p2, iv p3, iv (1 : Int32), rv b99, rv b102, rv b105, rv b108, rv b111, .unset, .unset, .unset, .unset, .unset] [(.ref b102)]))
  refine own_st (fun _ k => XS.iconst X130.here hx rfl (hb hby at_97) k) ?_
  show own_Fin p e below G (T130.setTop (mkF m 98 #[iv p1, iv p2, iv p3, iv (1 : Int32), rv b99, rv b102, rv b105, rv b108, rv b111, .unset, .unset, .unset, .unset, .unset] [(.int (2 : Int32)), (.ref b102)]))
  refine own_st (fun _ k => XS.iloadN X130.here hx rfl (hb hby at_98) rfl  k) ?_
  show own_Fin p e below G (T130.setTop (mkF m 99 #[iv p1, iv p2, iv p3, iv (1 : Int32), rv b99, rv b102, rv b105, rv b108, rv b111, .unset, .unset, .unset, .unset, .unset] [(.int p3), (.int (2 : Int32)), (.ref b102)]))
  refine own_st (fun _ k => XS.bipush X130.here hx rfl (hb hby at_99) k) ?_
  show own_Fin p e below G (T130.setTop (mkF m 101 #[iv p1, iv p2, iv p3, iv (1 : Int32), rv b99, rv b102, rv b105, rv b108, rv b111, .unset, .unset, .unset, .unset, .unset] [(.int (16 : Int32)), (.int p3), (.int (2 : Int32)), (.ref b102)]))
  refine own_st (fun _ k => XS.iushr X130.here hx rfl (hb hby at_101) rfl k) ?_
  show own_Fin p e below G (T130.setTop (mkF m 102 #[iv p1, iv p2, iv p3, iv (1 : Int32), rv b99, rv b102, rv b105, rv b108, rv b111, .unset, .unset, .unset, .unset, .unset] [(.int ((p3.toUInt32 >>> ((16 : Int32) &&& 31).toUInt32).toInt32)), (.int (2 : Int32)), (.ref b102)]))
  refine own_st (fun _ k => XS.sipush X130.here hx rfl (hb hby at_102) k) ?_
  show own_Fin p e below G (T130.setTop (mkF m 105 #[iv p1, iv p2, iv p3, iv (1 : Int32), rv b99, rv b102, rv b105, rv b108, rv b111, .unset, .unset, .unset, .unset, .unset] [(.int (255 : Int32)), (.int ((p3.toUInt32 >>> ((16 : Int32) &&& 31).toUInt32).toInt32)), (.int (2 : Int32)), (.ref b102)]))
  refine own_st (fun _ k => XS.iand X130.here hx rfl (hb hby at_105) rfl k) ?_
  show own_Fin p e below G (T130.setTop (mkF m 106 #[iv p1, iv p2, iv p3, iv (1 : Int32), rv b99, rv b102, rv b105, rv b108, rv b111, .unset, .unset, .unset, .unset, .unset] [(.int (((p3.toUInt32 >>> ((16 : Int32) &&& 31).toUInt32).toInt32) &&& (255 : Int32))), (.int (2 : Int32)), (.ref b102)]))
  refine own_st (fun _ k => XS.aload X130.here hx rfl (hb hby at_106) rfl rfl k) ?_
  show own_Fin p e below G (T130.setTop (mkF m 108 #[iv p1, iv p2, iv p3, iv (1 : Int32), rv b99, rv b102, rv b105, rv b108, rv b111, .unset, .unset, .unset, .unset, .unset] [(.ref b99), (.int (((p3.toUInt32 >>> ((16 : Int32) &&& 31).toUInt32).toInt32) &&& (255 : Int32))), (.int (2 : Int32)), (.ref b102)]))
  refine own_st (fun _ k => XS.iconst X130.here hx rfl (hb hby at_108) k) ?_
  show own_Fin p e below G (T130.setTop (mkF m 109 #[iv p1, iv p2, iv p3, iv (1 : Int32), rv b99, rv b102, rv b105, rv b108, rv b111, .unset, .unset, .unset, .unset, .unset] [(.int (2 : Int32)), (.ref b99), (.int (((p3.toUInt32 >>> ((16 : Int32) &&& 31).toUInt32).toInt32) &&& (255 : Int32))), (.int (2 : Int32)), (.ref b102)]))
  refine own_st (fun _ k => own_ldI X130 hx hZ e130 f131_0 (j := (2 : Int32)) (n := 3) rfl (by decide) (g := (mkF m 109 #[iv p1, iv p2, iv p3, iv (1 : Int32), rv b99, rv b102, rv b105, rv b108, rv b111, .unset, .unset, .unset, .unset, .unset] [(.int (2 : Int32)), (.ref b99), (.int (((p3.toUInt32 >>> ((16 : Int32) &&& 31).toUInt32).toInt32) &&& (255 : Int32))), (.int (2 : Int32)), (.ref b102)])) rfl rfl (hb hby at_109) k) ?_
  show own_Fin p e below G (T130.setTop (mkF m 110 #[iv p1, iv p2, iv p3, iv (1 : Int32), rv b99, rv b102, rv b105, rv b108, rv b111, .unset, .unset, .unset, .unset, .unset] [(.int u2), (.int (((p3.toUInt32 >>> ((16 : Int32) &&& 31).toUInt32).toInt32) &&& (255 : Int32))), (.int (2 : Int32)), (.ref b102)]))
  refine own_st (fun _ k => iremM (g := (mkF m 110 #[iv p1, iv p2, iv p3, iv (1 : Int32), rv b99, rv b102, rv b105, rv b108, rv b111, .unset, .unset, .unset, .unset, .unset] [(.int u2), (.int (((p3.toUInt32 >>> ((16 : Int32) &&& 31).toUInt32).toInt32) &&& (255 : Int32))), (.int (2 : Int32)), (.ref b102)])) X130 hx rfl (hb hby at_110) rfl (own_nz r_u2) k) ?_
  show own_Fin p e below G (T130.setTop (mkF m 111 #[iv p1, iv p2, iv p3, iv (1 : Int32), rv b99, rv b102, rv b105, rv b108, rv b111, .unset, .unset, .unset, .unset, .unset] [(.int ((((p3.toUInt32 >>> ((16 : Int32) &&& 31).toUInt32).toInt32) &&& (255 : Int32)) % u2)), (.int (2 : Int32)), (.ref b102)]))
  have r_c2 := own_c ((p3.toUInt32 >>> ((16 : Int32) &&& 31).toUInt32).toInt32) r_u2
  generalize e_c2 : ((((p3.toUInt32 >>> ((16 : Int32) &&& 31).toUInt32).toInt32) &&& (255 : Int32)) % u2) = c2 at r_c2 ⊢
  show own_Fin p e below G (T130.setTop (mkF m 111 #[iv p1, iv p2, iv p3, iv (1 : Int32), rv b99, rv b102, rv b105, rv b108, rv b111, .unset, .unset, .unset, .unset, .unset] [(.int c2), (.int (2 : Int32)), (.ref b102)]))
  obtain ⟨T134, h134, X134, e134, W134, V134, st134⟩ := own_stI X130 hx hZ e130 V130 (j := (2 : Int32)) (n := 3) rfl (by decide) (g := (mkF m 111 #[iv p1, iv p2, iv p3, iv (1 : Int32), rv b99, rv b102, rv b105, rv b108, rv b111, .unset, .unset, .unset, .unset, .unset] [(.int c2), (.int (2 : Int32)), (.ref b102)])) rfl rfl (hb hby at_111)
  clear X130 e130 V130
  have f135_0 := f131_0.other W134 ne_b99_b102
  clear f131_0
  have f135_2 := f131_2.other W134 (Ne.symm ne_b102_b105)
  clear f131_2
  have f135_3 := f131_3.other W134 (Ne.symm ne_b102_b108)
  clear f131_3
  have f135_4 := f131_4.other W134 (Ne.symm ne_b102_b111)
  clear f131_4
  have K136 : Keep h0 h134 [] := K132.wr W134 (Or.inr sz_b102)
  clear K132 W134
  have N137 := Fr.snoc X134 N133 g_b102
  clear N133
  replace V134 : own_AV Z h134 b102 .int (own_is [c0, c1, c2]) := V134
  refine own_st st134 ?_
  clear st134
  show own_Fin p e below G (T134.setTop (mkF m 112 #[iv p1, iv p2, iv p3, iv (1 : Int32), rv b99, rv b102, rv b105, rv b108, rv b111, .unset, .unset, .unset, .unset, .unset] []))
  refine own_st (fun _ k => XS.iloadN X134.here hx rfl (hb hby at_112) rfl  k) ?_
  show own_Fin p e below G (T134.setTop (mkF m 113 #[iv p1, iv p2, iv p3, iv (1 : Int32), rv b99, rv b102, rv b105, rv b108, rv b111, .unset, .unset, .unset, .unset, .unset] [(.int (1 : Int32))]))
  refine own_st (fun _ k => XS.ifNo X134.here hx rfl (hb hby at_113) rfl ((if0 _ _).trans (tlt (by decide : ((0 : Int32) < (1 : Int32)))).2.2.2) k) ?_
  show own_Fin p e below G (T134.setTop (mkF m 116 #[iv p1, iv p2, iv p3, iv (1 : Int32), rv b99, rv b102, rv b105, rv b108, rv b111, .unset, .unset, .unset, .unset, .unset] []))
  refine own_st (fun _ k => XS.aload X134.here hx rfl (hb hby at_116) rfl rfl k) ?_
  show own_Fin p e below G (T134.setTop (mkF m 118 #[iv p1, iv p2, iv p3, iv (1 : Int32), rv b99, rv b102, rv b105, rv b108, rv b111, .unset, .unset, .unset, .unset, .unset] [(.ref b108)]))
  refine own_st (fun _ k => XS.iconst X134.here hx rfl (hb hby at_118) k) ?_
  show own_Fin p e below G (T134.setTop (mkF m 119 #[iv p1, iv p2, iv p3, iv (1 : Int32), rv b99, rv b102, rv b105, rv b108, rv b111, .unset, .unset, .unset, .unset, .unset] [(.int (0 : Int32)), (.ref b108)]))
  refine own_st (fun _ k => XS.aload X134.here hx rfl (hb hby at_119) rfl rfl k) ?_
  show own_Fin p e below G (T134.setTop (mkF m 121 #[iv p1, iv p2, iv p3, iv (1 : Int32), rv b99, rv b102, rv b105, rv b108, rv b111, .unset, .unset, .unset, .unset, .unset] [(.ref b99), (.int (0 : Int32)), (.ref b108)]))
  refine own_st (fun _ k => XS.iconst X134.here hx rfl (hb hby at_121) k) ?_
  show own_Fin p e below G (T134.setTop (mkF m 122 #[iv p1, iv p2, iv p3, iv (1 : Int32), rv b99, rv b102, rv b105, rv b108, rv b111, .unset, .unset, .unset, .unset, .unset] [(.int (0 : Int32)), (.ref b99), (.int (0 : Int32)), (.ref b108)]))
  refine own_st (fun _ k => own_ldI X134 hx hZ e134 f135_0 (j := (0 : Int32)) (n := 3) rfl (by decide) (g := (mkF m 122 #[iv p1, iv p2, iv p3, iv (1 : Int32), rv b99, rv b102, rv b105, rv b108, rv b111, .unset, .unset, .unset, .unset, .unset] [(.int (0 : Int32)), (.ref b99), (.int (0 : Int32)), (.ref b108)])) rfl rfl (hb hby at_122) k) ?_
  show own_Fin p e below G (T134.setTop (mkF m 123 #[iv p1, iv p2, iv p3, iv (1 : Int32), rv b99, rv b102, rv b105, rv b108, rv b111, .unset, .unset, .unset, .unset, .unset] [(.int u0), (.int (0 : Int32)), (.ref b108)]))
  obtain ⟨T138, h138, X138, e138, W138, V138, st138⟩ := own_stI X134 hx hZ e134 f135_3 (j := (0 : Int32)) (n := 1) rfl (by decide) (g := (mkF m 123 #[iv p1, iv p2, iv p3, iv (1 : Int32), rv b99, rv b102, rv b105, rv b108, rv b111, .unset, .unset, .unset, .unset, .unset] [(.int u0), (.int (0 : Int32)), (.ref b108)])) rfl rfl (hb hby at_123)
  clear X134 e134 f135_3
  have f139_0 := f135_0.other W138 ne_b99_b108
  clear f135_0
  have f139_1 := V134.other W138 ne_b102_b108
  clear V134
  have f139_2 := f135_2.other W138 ne_b105_b108
  clear f135_2
  have f139_4 := f135_4.other W138 (Ne.symm ne_b108_b111)
  clear f135_4
  have K140 : Keep h0 h138 [] := K136.wr W138 (Or.inr sz_b108)
  clear K136 W138
  have N141 := Fr.snoc X138 N137 g_b108
  clear N137
  replace V138 : own_AV Z h138 b108 .int (own_is [u0]) := V138
  refine own_st st138 ?_
  clear st138
  show own_Fin p e below G (T138.setTop (mkF m 124 #[iv p1, iv p2, iv p3, iv (1 : Int32), rv b99, rv b102, rv b105, rv b108, rv b111, .unset, .unset, .unset, .unset, .unset] []))
  refine own_st (fun _ k => XS.aload X138.here hx rfl (hb hby at_124) rfl rfl k) ?_
  show own_Fin p e below G (T138.setTop (mkF m 126 #[iv p1, iv p2, iv p3, iv (1 : Int32), rv b99, rv b102, rv b105, rv b108, rv b111, .unset, .unset, .unset, .unset, .unset] [(.ref b111)]))
  refine own_st (fun _ k => XS.iconst X138.here hx rfl (hb hby at_126) k) ?_
  show own_Fin p e below G (T138.setTop (mkF m 127 #[iv p1, iv p2, iv p3, iv (1 : Int32), rv b99, rv b102, rv b105, rv b108, rv b111, .unset, .unset, .unset, .unset, .unset] [(.int (0 : Int32)), (.ref b111)]))
  refine own_st (fun _ k => XS.aload X138.here hx rfl (hb hby at_127) rfl rfl k) ?_
  show own_Fin p e below G (T138.setTop (mkF m 129 #[iv p1, iv p2, iv p3, iv (1 : Int32), rv b99, rv b102, rv b105, rv b108, rv b111, .unset, .unset, .unset, .unset, .unset] [(.ref b102), (.int (0 : Int32)), (.ref b111)]))
  refine own_st (fun _ k => XS.iconst X138.here hx rfl (hb hby at_129) k) ?_
  show own_Fin p e below G (T138.setTop (mkF m 130 #[iv p1, iv p2, iv p3, iv (1 : Int32), rv b99, rv b102, rv b105, rv b108, rv b111, .unset, .unset, .unset, .unset, .unset] [(.int (0 : Int32)), (.ref b102), (.int (0 : Int32)), (.ref b111)]))
  refine own_st (fun _ k => own_ldI X138 hx hZ e138 f139_1 (j := (0 : Int32)) (n := 3) rfl (by decide) (g := (mkF m 130 #[iv p1, iv p2, iv p3, iv (1 : Int32), rv b99, rv b102, rv b105, rv b108, rv b111, .unset, .unset, .unset, .unset, .unset] [(.int (0 : Int32)), (.ref b102), (.int (0 : Int32)), (.ref b111)])) rfl rfl (hb hby at_130) k) ?_
  show own_Fin p e below G (T138.setTop (mkF m 131 #[iv p1, iv p2, iv p3, iv (1 : Int32), rv b99, rv b102, rv b105, rv b108, rv b111, .unset, .unset, .unset, .unset, .unset] [(.int c0), (.int (0 : Int32)), (.ref b111)]))
  obtain ⟨T142, h142, X142, e142, W142, V142, st142⟩ := own_stI X138 hx hZ e138 f139_4 (j := (0 : Int32)) (n := 1) rfl (by decide) (g := (mkF m 131 #[iv p1, iv p2, iv p3, iv (1 : Int32), rv b99, rv b102, rv b105, rv b108, rv b111, .unset, .unset, .unset, .unset, .unset] [(.int c0), (.int (0 : Int32)), (.ref b111)])) rfl rfl (hb hby at_131)
  clear X138 e138 f139_4
  have f143_0 := f139_0.other W142 ne_b99_b111
  clear f139_0
  have f143_1 := f139_1.other W142 ne_b102_b111
  clear f139_1
  have f143_2 := f139_2.other W142 ne_b105_b111
  clear f139_2
  have f143_3 := V138.other W142 ne_b108_b111
  clear V138
  have K144 : Keep h0 h142 [] := K140.wr W142 (Or.inr sz_b111)
  clear K140 W142
  have N145 := Fr.snoc X142 N141 g_b111
  clear N141
  replace V142 : own_AV Z h142 b111 .int (own_is [c0]) := V142
  refine own_st st142 ?_
  clear st142
  show own_Fin p e below G (T142.setTop (mkF m 132 #[iv p1, iv p2, iv p3, iv (1 : Int32), rv b99, rv b102, rv b105, rv b108, rv b111, .unset, .unset, .unset, .unset, .unset] []))
  refine own_st (fun _ k => XS.iloadN X142.here hx rfl (hb hby at_132) rfl  k) ?_
  show own_Fin p e below G (T142.setTop (mkF m 133 #[iv p1, iv p2, iv p3, iv (1 : Int32), rv b99, rv b102, rv b105, rv b108, rv b111, .unset, .unset, .unset, .unset, .unset] [(.int (1 : Int32))]))
  refine own_st (fun _ k => XS.iconst X142.here hx rfl (hb hby at_133) k) ?_
  show own_Fin p e below G (T142.setTop (mkF m 134 #[iv p1, iv p2, iv p3, iv (1 : Int32), rv b99, rv b102, rv b105, rv b108, rv b111, .unset, .unset, .unset, .unset, .unset] [(.int (1 : Int32)), (.int (1 : Int32))]))
  refine own_st (fun _ k => XS.icmpYes X142.here hx rfl (pc0 := 134) (pc' := 153) rfl (hb hby at_134) rfl (flt (by decide : ¬ ((1 : Int32) < (1 : Int32)))).2.2.2 (by decide) (by decide) k) ?_
  show own_Fin p e below G (T142.setTop (mkF m 153 #[iv p1, iv p2, iv p3, iv (1 : Int32), rv b99, rv b102, rv b105, rv b108, rv b111, .unset, .unset, .unset, .unset, .unset] []))
  refine own_st (fun _ k => XS.iloadN X142.here hx rfl (hb hby at_153) rfl  k) ?_
  show own_Fin p e below G (T142.setTop (mkF m 154 #[iv p1, iv p2, iv p3, iv (1 : Int32), rv b99, rv b102, rv b105, rv b108, rv b111, .unset, .unset, .unset, .unset, .unset] [(.int (1 : Int32))]))
  refine own_st (fun _ k => XS.iconst X142.here hx rfl (hb hby at_154) k) ?_
  show own_Fin p e below G (T142.setTop (mkF m 155 #[iv p1, iv p2, iv p3, iv (1 : Int32), rv b99, rv b102, rv b105, rv b108, rv b111, .unset, .unset, .unset, .unset, .unset] [(.int (2 : Int32)), (.int (1 : Int32))]))
  refine own_st (fun _ k => XS.icmpYes X142.here hx rfl (pc0 := 155) (pc' := 174) rfl (hb hby at_155) rfl (flt (by decide : ¬ ((2 : Int32) < (1 : Int32)))).2.2.2 (by decide) (by decide) k) ?_
  show own_Fin p e below G (T142.setTop (mkF m 174 #[iv p1, iv p2, iv p3, iv (1 : Int32), rv b99, rv b102, rv b105, rv b108, rv b111, .unset, .unset, .unset, .unset, .unset] []))
  refine own_st (fun _ k => XS.iloadN X142.here hx rfl (hb hby at_174) rfl  k) ?_
  show own_Fin p e below G (T142.setTop (mkF m 175 #[iv p1, iv p2, iv p3, iv (1 : Int32), rv b99, rv b102, rv b105, rv b108, rv b111, .unset, .unset, .unset, .unset, .unset] [(.int (1 : Int32))]))
  refine own_st (fun _ k => XS.aload X142.here hx rfl (hb hby at_175) rfl rfl k) ?_
  show own_Fin p e below G (T142.setTop (mkF m 177 #[iv p1, iv p2, iv p3, iv (1 : Int32), rv b99, rv b102, rv b105, rv b108, rv b111, .unset, .unset, .unset, .unset, .unset] [(.ref b102), (.int (1 : Int32))]))
  refine own_st (fun _ k => XS.aload X142.here hx rfl (hb hby at_177) rfl rfl k) ?_
  show own_Fin p e below G (T142.setTop (mkF m 179 #[iv p1, iv p2, iv p3, iv (1 : Int32), rv b99, rv b102, rv b105, rv b108, rv b111, .unset, .unset, .unset, .unset, .unset] [(.ref b99), (.ref b102), (.int (1 : Int32))]))
  obtain ⟨_, _, ⟨T146, L146, k146, n146⟩, -, X146, ⟨Lc146, hQ146, l146, y146, z146⟩, st146⟩ := Jvm.LawKit.callS X142 hx (y := own_y0) hown (mvT hZ (own_w hw 1 rfl)) (mvT hZ (own_w hw 2 rfl)) (mvT hZ (own_w hw 3 rfl)) (mvT hZ (own_w hw 4 rfl)) (by decide) (backOf (W := 0) (rm_v1 l Z a0 hw [] b102 b99 c0 c1 c2 u0 u1 u2 h142 n0 (Nat.le_trans Z0 K144.1) f143_1 f143_0) hZ (own_w hw 4 rfl) (own_w hw 3 rfl) (by decide) (by decide)) (g := (mkF m 179 #[iv p1, iv p2, iv p3, iv (1 : Int32), rv b99, rv b102, rv b105, rv b108, rv b111, .unset, .unset, .unset, .unset, .unset] [(.ref b99), (.ref b102), (.int (1 : Int32))])) rfl (by rw [hml]; rfl) (argsL := [(.int (1 : Int32)), (.ref b102), (.ref b99)]) (rest := []) (lenOf pd__I_I_I_I_555 rfl) rfl (by show 2 * 0 + _ ≤ _; exact Nat.le_of_eq rfl) (hb hby at_179) (fun _ _ => ⟨rfl, e142, (by decide : 5 + 0 ≤ _), (by decide : 11 + 0 ≤ _)⟩)
  clear X142 e142
  dsimp only [Pt.U, Pt.locs, Pt.cells, Pt.slots] at X146 l146 y146 z146 st146 hQ146
  obtain rfl : k146 = (5 : Nat) := y146
  obtain rfl : n146 = (11 : Nat) := z146
  obtain ⟨rfl, N146q, e146⟩ := hQ146
  skip
  have N146 : Fr n0 L146 := by rw [l146]; exact Fr.app N145 N146q
  clear N145 l146 N146q
  refine own_st st146 ?_
  clear st146
  show own_Fin p e below G (T146.setTop (mkF m 182 #[iv p1, iv p2, iv p3, iv (1 : Int32), rv b99, rv b102, rv b105, rv b108, rv b111, .unset, .unset, .unset, .unset, .unset] [(.int c0)]))
  refine own_st (fun _ k => XS.istore X146.here hx rfl (hb hby at_182) rfl (l' := #[iv p1, iv p2, iv p3, iv (1 : Int32), rv b99, rv b102, rv b105, rv b108, rv b111, iv c0, .unset, .unset, .unset, .unset]) rfl k) ?_
  show own_Fin p e below G (T146.setTop (mkF m 184 #[iv p1, iv p2, iv p3, iv (1 : Int32), rv b99, rv b102, rv b105, rv b108, rv b111, iv c0, .unset, .unset, .unset, .unset] []))
  refine own_st (fun _ k => XS.iloadN X146.here hx rfl (hb hby at_184) rfl  k) ?_
  show own_Fin p e below G (T146.setTop (mkF m 185 #[iv p1, iv p2, iv p3, iv (1 : Int32), rv b99, rv b102, rv b105, rv b108, rv b111, iv c0, .unset, .unset, .unset, .unset] [(.int (1 : Int32))]))
  refine own_st (fun _ k => XS.aload X146.here hx rfl (hb hby at_185) rfl rfl k) ?_
  show own_Fin p e below G (T146.setTop (mkF m 187 #[iv p1, iv p2, iv p3, iv (1 : Int32), rv b99, rv b102, rv b105, rv b108, rv b111, iv c0, .unset, .unset, .unset, .unset] [(.ref b99), (.int (1 : Int32))]))
  obtain ⟨_, _, ⟨T147, L147, k147, n147⟩, -, X147, ⟨Lc147, hQ147, l147, y147, z147⟩, st147⟩ := Jvm.LawKit.callS X146 hx (y := own_y1) hown (mvT hZ (own_w hw 5 rfl)) (mvT hZ (own_w hw 6 rfl)) (mvT hZ (own_w hw 3 rfl)) (mvT hZ (own_w hw 7 rfl)) (by decide) (backOf (W := 0) (rm_t1 l Z a0 hw [] b99 u0 u1 u2 h142 n0 (Nat.le_trans Z0 K144.1) f143_0) hZ (own_w hw 7 rfl) (own_w hw 3 rfl) (by decide) (by decide)) (g := (mkF m 187 #[iv p1, iv p2, iv p3, iv (1 : Int32), rv b99, rv b102, rv b105, rv b108, rv b111, iv c0, .unset, .unset, .unset, .unset] [(.ref b99), (.int (1 : Int32))])) rfl (by rw [hml]; rfl) (argsL := [(.int (1 : Int32)), (.ref b99)]) (rest := []) (lenOf pd__I_I_I_391 rfl) rfl (by show 2 * 0 + _ ≤ _; exact Nat.le_of_eq rfl) (hb hby at_187) (fun _ _ => ⟨rfl, e146, (by decide : 5 + 0 ≤ _), (by decide : 11 + 0 ≤ _)⟩)
  clear X146 e146
  dsimp only [Pt.U, Pt.locs, Pt.cells, Pt.slots] at X147 l147 y147 z147 st147 hQ147
  obtain rfl : k147 = (5 : Nat) := y147
  obtain rfl : n147 = (11 : Nat) := z147
  obtain ⟨rfl, N147q, e147⟩ := hQ147
  skip
  have N147 : Fr n0 L147 := by rw [l147]; exact Fr.app N146 N147q
  clear N146 l147 N147q
  refine own_st st147 ?_
  clear st147
  show own_Fin p e below G (T147.setTop (mkF m 190 #[iv p1, iv p2, iv p3, iv (1 : Int32), rv b99, rv b102, rv b105, rv b108, rv b111, iv c0, .unset, .unset, .unset, .unset] [(.int u0)]))
  refine own_st (fun _ k => XS.istore X147.here hx rfl (hb hby at_190) rfl (l' := #[iv p1, iv p2, iv p3, iv (1 : Int32), rv b99, rv b102, rv b105, rv b108, rv b111, iv c0, iv u0, .unset, .unset, .unset]) rfl k) ?_
  show own_Fin p e below G (T147.setTop (mkF m 192 #[iv p1, iv p2, iv p3, iv (1 : Int32), rv b99, rv b102, rv b105, rv b108, rv b111, iv c0, iv u0, .unset, .unset, .unset] []))
  refine own_st (fun _ k => XS.aload X147.here hx rfl (hb hby at_192) rfl rfl k) ?_
  show own_Fin p e below G (T147.setTop (mkF m 194 #[iv p1, iv p2, iv p3, iv (1 : Int32), rv b99, rv b102, rv b105, rv b108, rv b111, iv c0, iv u0, .unset, .unset, .unset] [(.ref b111)]))
  refine own_st (fun _ k => XS.aload X147.here hx rfl (hb hby at_194) rfl rfl k) ?_
  show own_Fin p e below G (T147.setTop (mkF m 196 #[iv p1, iv p2, iv p3, iv (1 : Int32), rv b99, rv b102, rv b105, rv b108, rv b111, iv c0, iv u0, .unset, .unset, .unset] [(.ref b108), (.ref b111)]))
  obtain ⟨_, _, ⟨T148, L148, k148, n148⟩, -, X148, ⟨Lc148, hQ148, l148, y148, z148⟩, st148⟩ := Jvm.LawKit.callS X147 hx (y := own_y3) hown (mvT hZ (own_w hw 8 rfl)) (mvT hZ (own_w hw 9 rfl)) (mvT hZ (own_w hw 10 rfl)) (mvT hZ (own_w hw 11 rfl)) (by decide) (backOf (W := 0) (rm_x1 l Z a0 hw [] b111 b108 c0 u0 h142 n0 (Nat.le_trans Z0 K144.1) V142 f143_3 (Ne.symm ne_b108_b111) g_b111) hZ (own_w hw 11 rfl) (own_w hw 10 rfl) (by decide) (by decide)) (g := (mkF m 196 #[iv p1, iv p2, iv p3, iv (1 : Int32), rv b99, rv b102, rv b105, rv b108, rv b111, iv c0, iv u0, .unset, .unset, .unset] [(.ref b108), (.ref b111)])) rfl (by rw [hml]; rfl) (argsL := [(.ref b111), (.ref b108)]) (rest := []) (lenOf pd___I_I_Z_499 rfl) rfl (by show 2 * 0 + _ ≤ _; exact Nat.le_of_eq rfl) (hb hby at_196) (fun _ _ => ⟨rfl, e147, (by decide : 5 + 0 ≤ _), (by decide : 11 + 0 ≤ _)⟩)
  clear V142 X147 e147
  dsimp only [Pt.U, Pt.locs, Pt.cells, Pt.slots] at X148 l148 y148 z148 st148 hQ148
  obtain rfl : k148 = (5 : Nat) := y148
  obtain rfl : n148 = (11 : Nat) := z148
  obtain ⟨rr, ys, hQ148⟩ := hQ148
  obtain ⟨rfl, N148q, Kc148, gA148, hD⟩ := hQ148
  have N148 : Fr n0 L148 := by rw [l148]; exact Fr.app N147 N148q
  clear N147 l148 N148q
  have f149_0 := f143_0.keep Kc148 (ninS ne_b99_b111 nin0)
  clear f143_0
  have f149_1 := f143_1.keep Kc148 (ninS ne_b102_b111 nin0)
  clear f143_1
  have f149_2 := f143_2.keep Kc148 (ninS ne_b105_b111 nin0)
  clear f143_2
  have f149_3 := f143_3.keep Kc148 (ninS ne_b108_b111 nin0)
  clear f143_3
  have K150 : Keep h0 T148.heap [] := K144.trans Kc148 (allS (Or.inr sz_b111) all0)
  clear K144 Kc148
  refine own_st st148 ?_
  clear st148
  show own_Fin p e below G (T148.setTop (mkF m 199 #[iv p1, iv p2, iv p3, iv (1 : Int32), rv b99, rv b102, rv b105, rv b108, rv b111, iv c0, iv u0, .unset, .unset, .unset] [(.int rr)]))
  rcases hD with ⟨d0, rfl, rfl⟩ | ⟨d0, rfl, rfl⟩
  · show own_Fin p e below G (T148.setTop (mkF m 199 #[iv p1, iv p2, iv p3, iv (1 : Int32), rv b99, rv b102, rv b105, rv b108, rv b111, iv c0, iv u0, .unset, .unset, .unset] [(.int (1 : Int32))]))
    refine own_st (fun _ k => XS.istore X148.here hx rfl (hb hby at_199) rfl (l' := #[iv p1, iv p2, iv p3, iv (1 : Int32), rv b99, rv b102, rv b105, rv b108, rv b111, iv c0, iv u0, iv (1 : Int32), .unset, .unset]) rfl k) ?_
    show own_Fin p e below G (T148.setTop (mkF m 201 #[iv p1, iv p2, iv p3, iv (1 : Int32), rv b99, rv b102, rv b105, rv b108, rv b111, iv c0, iv u0, iv (1 : Int32), .unset, .unset] []))
    refine own_st (fun _ k => XS.iconst X148.here hx rfl (hb hby at_201) k) ?_
    show own_Fin p e below G (T148.setTop (mkF m 202 #[iv p1, iv p2, iv p3, iv (1 : Int32), rv b99, rv b102, rv b105, rv b108, rv b111, iv c0, iv u0, iv (1 : Int32), .unset, .unset] [(.int (1 : Int32))]))
    refine own_st (fun _ k => XS.istore X148.here hx rfl (hb hby at_202) rfl (l' := #[iv p1, iv p2, iv p3, iv (1 : Int32), rv b99, rv b102, rv b105, rv b108, rv b111, iv c0, iv u0, iv (1 : Int32), iv (1 : Int32), .unset]) rfl k) ?_
    show own_Fin p e below G (T148.setTop (mkF m 204 #[iv p1, iv p2, iv p3, iv (1 : Int32), rv b99, rv b102, rv b105, rv b108, rv b111, iv c0, iv u0, iv (1 : Int32), iv (1 : Int32), .unset] []))
    refine own_st (fun _ k => XS.iloadN X148.here hx rfl (hb hby at_204) rfl  k) ?_
    show own_Fin p e below G (T148.setTop (mkF m 205 #[iv p1, iv p2, iv p3, iv (1 : Int32), rv b99, rv b102, rv b105, rv b108, rv b111, iv c0, iv u0, iv (1 : Int32), iv (1 : Int32), .unset] [(.int (1 : Int32))]))
    refine own_st (fun _ k => XS.ifNo X148.here hx rfl (hb hby at_205) rfl ((if0 _ _).trans (tlt (by decide : ((0 : Int32) < (1 : Int32)))).2.2.2) k) ?_
    show own_Fin p e below G (T148.setTop (mkF m 208 #[iv p1, iv p2, iv p3, iv (1 : Int32), rv b99, rv b102, rv b105, rv b108, rv b111, iv c0, iv u0, iv (1 : Int32), iv (1 : Int32), .unset] []))
    refine own_st (fun _ k => XS.aload X148.here hx rfl (hb hby at_208) rfl rfl k) ?_
    show own_Fin p e below G (T148.setTop (mkF m 210 #[iv p1, iv p2, iv p3, iv (1 : Int32), rv b99, rv b102, rv b105, rv b108, rv b111, iv c0, iv u0, iv (1 : Int32), iv (1 : Int32), .unset] [(.ref b105)]))
    refine own_st (fun _ k => XS.iconst X148.here hx rfl (hb hby at_210) k) ?_
    show own_Fin p e below G (T148.setTop (mkF m 211 #[iv p1, iv p2, iv p3, iv (1 : Int32), rv b99, rv b102, rv b105, rv b108, rv b111, iv c0, iv u0, iv (1 : Int32), iv (1 : Int32), .unset] [(.int (0 : Int32)), (.ref b105)]))
    refine own_st (fun _ k => XS.aload X148.here hx rfl (hb hby at_211) rfl rfl k) ?_
    show own_Fin p e below G (T148.setTop (mkF m 213 #[iv p1, iv p2, iv p3, iv (1 : Int32), rv b99, rv b102, rv b105, rv b108, rv b111, iv c0, iv u0, iv (1 : Int32), iv (1 : Int32), .unset] [(.ref b111), (.int (0 : Int32)), (.ref b105)]))
    refine own_st (fun _ k => XS.iconst X148.here hx rfl (hb hby at_213) k) ?_
    show own_Fin p e below G (T148.setTop (mkF m 214 #[iv p1, iv p2, iv p3, iv (1 : Int32), rv b99, rv b102, rv b105, rv b108, rv b111, iv c0, iv u0, iv (1 : Int32), iv (1 : Int32), .unset] [(.int (0 : Int32)), (.ref b111), (.int (0 : Int32)), (.ref b105)]))
    refine own_st (fun _ k => own_ldI X148 hx hZ rfl gA148 (j := (0 : Int32)) (n := 1) rfl (by decide) (g := (mkF m 214 #[iv p1, iv p2, iv p3, iv (1 : Int32), rv b99, rv b102, rv b105, rv b108, rv b111, iv c0, iv u0, iv (1 : Int32), iv (1 : Int32), .unset] [(.int (0 : Int32)), (.ref b111), (.int (0 : Int32)), (.ref b105)])) rfl rfl (hb hby at_214) k) ?_
    show own_Fin p e below G (T148.setTop (mkF m 215 #[iv p1, iv p2, iv p3, iv (1 : Int32), rv b99, rv b102, rv b105, rv b108, rv b111, iv c0, iv u0, iv (1 : Int32), iv (1 : Int32), .unset] [(.int (c0 + (1 : Int32))), (.int (0 : Int32)), (.ref b105)]))
    obtain ⟨T151, h151, X151, e151, W151, V151, st151⟩ := own_stI X148 hx hZ rfl f149_2 (j := (0 : Int32)) (n := 3) rfl (by decide) (g := (mkF m 215 #[iv p1, iv p2, iv p3, iv (1 : Int32), rv b99, rv b102, rv b105, rv b108, rv b111, iv c0, iv u0, iv (1 : Int32), iv (1 : Int32), .unset] [(.int (c0 + (1 : Int32))), (.int (0 : Int32)), (.ref b105)])) rfl rfl (hb hby at_215)
    have f152_0 := f149_0.other W151 ne_b99_b105
    have f152_1 := f149_1.other W151 ne_b102_b105
    clear f152_1
    have f152_3 := f149_3.other W151 (Ne.symm ne_b105_b108)
    have f152_4 := gA148.other W151 (Ne.symm ne_b105_b111)
    clear f152_4
    have K153 : Keep h0 h151 [] := K150.wr W151 (Or.inr sz_b105)
    clear W151
    have N154 := Fr.snoc X151 N148 g_b105
    replace V151 : own_AV Z h151 b105 .int (own_is [(c0 + (1 : Int32)), (0 : Int32), (0 : Int32)]) := V151
    refine own_st st151 ?_
    clear st151
    show own_Fin p e below G (T151.setTop (mkF m 216 #[iv p1, iv p2, iv p3, iv (1 : Int32), rv b99, rv b102, rv b105, rv b108, rv b111, iv c0, iv u0, iv (1 : Int32), iv (1 : Int32), .unset] []))
    refine own_st (fun _ k => XS.iload X151.here hx rfl (hb hby at_216) rfl  k) ?_
    show own_Fin p e below G (T151.setTop (mkF m 218 #[iv p1, iv p2, iv p3, iv (1 : Int32), rv b99, rv b102, rv b105, rv b108, rv b111, iv c0, iv u0, iv (1 : Int32), iv (1 : Int32), .unset] [(.int (1 : Int32))]))
    refine own_st (fun _ k => XS.ifNo X151.here hx rfl (hb hby at_218) rfl ((if0 _ _).trans (feq (by decide : ¬ ((1 : Int32) = (0 : Int32)))).1) k) ?_
    show own_Fin p e below G (T151.setTop (mkF m 221 #[iv p1, iv p2, iv p3, iv (1 : Int32), rv b99, rv b102, rv b105, rv b108, rv b111, iv c0, iv u0, iv (1 : Int32), iv (1 : Int32), .unset] []))
    refine own_st (fun _ k => XS.aload X151.here hx rfl (hb hby at_221) rfl rfl k) ?_
    show own_Fin p e below G (T151.setTop (mkF m 223 #[iv p1, iv p2, iv p3, iv (1 : Int32), rv b99, rv b102, rv b105, rv b108, rv b111, iv c0, iv u0, iv (1 : Int32), iv (1 : Int32), .unset] [(.ref b108)]))
    refine own_st (fun _ k => XS.iconst X151.here hx rfl (hb hby at_223) k) ?_
    show own_Fin p e below G (T151.setTop (mkF m 224 #[iv p1, iv p2, iv p3, iv (1 : Int32), rv b99, rv b102, rv b105, rv b108, rv b111, iv c0, iv u0, iv (1 : Int32), iv (1 : Int32), .unset] [(.int (0 : Int32)), (.ref b108)]))
    refine own_st (fun _ k => own_ldI X151 hx hZ e151 f152_3 (j := (0 : Int32)) (n := 1) rfl (by decide) (g := (mkF m 224 #[iv p1, iv p2, iv p3, iv (1 : Int32), rv b99, rv b102, rv b105, rv b108, rv b111, iv c0, iv u0, iv (1 : Int32), iv (1 : Int32), .unset] [(.int (0 : Int32)), (.ref b108)])) rfl rfl (hb hby at_224) k) ?_
    clear f152_3
    show own_Fin p e below G (T151.setTop (mkF m 225 #[iv p1, iv p2, iv p3, iv (1 : Int32), rv b99, rv b102, rv b105, rv b108, rv b111, iv c0, iv u0, iv (1 : Int32), iv (1 : Int32), .unset] [(.int u0)]))
    refine own_st (fun _ k => XS.aload X151.here hx rfl (hb hby at_225) rfl rfl k) ?_
    show own_Fin p e below G (T151.setTop (mkF m 227 #[iv p1, iv p2, iv p3, iv (1 : Int32), rv b99, rv b102, rv b105, rv b108, rv b111, iv c0, iv u0, iv (1 : Int32), iv (1 : Int32), .unset] [(.ref b99), (.int u0)]))
    refine own_st (fun _ k => XS.iconst X151.here hx rfl (hb hby at_227) k) ?_
    show own_Fin p e below G (T151.setTop (mkF m 228 #[iv p1, iv p2, iv p3, iv (1 : Int32), rv b99, rv b102, rv b105, rv b108, rv b111, iv c0, iv u0, iv (1 : Int32), iv (1 : Int32), .unset] [(.int (0 : Int32)), (.ref b99), (.int u0)]))
    refine own_st (fun _ k => own_ldI X151 hx hZ e151 f152_0 (j := (0 : Int32)) (n := 3) rfl (by decide) (g := (mkF m 228 #[iv p1, iv p2, iv p3, iv (1 : Int32), rv b99, rv b102, rv b105, rv b108, rv b111, iv c0, iv u0, iv (1 : Int32), iv (1 : Int32), .unset] [(.int (0 : Int32)), (.ref b99), (.int u0)])) rfl rfl (hb hby at_228) k) ?_
    show own_Fin p e below G (T151.setTop (mkF m 229 #[iv p1, iv p2, iv p3, iv (1 : Int32), rv b99, rv b102, rv b105, rv b108, rv b111, iv c0, iv u0, iv (1 : Int32), iv (1 : Int32), .unset] [(.int u0), (.int u0)]))
    refine own_st (fun _ k => XS.icmpNo X151.here hx rfl (hb hby at_229) rfl (teq (rfl : u0 = u0)).2 k) ?_
    show own_Fin p e below G (T151.setTop (mkF m 232 #[iv p1, iv p2, iv p3, iv (1 : Int32), rv b99, rv b102, rv b105, rv b108, rv b111, iv c0, iv u0, iv (1 : Int32), iv (1 : Int32), .unset] []))
    refine own_st (fun _ k => XS.iconst X151.here hx rfl (hb hby at_232) k) ?_
    show own_Fin p e below G (T151.setTop (mkF m 233 #[iv p1, iv p2, iv p3, iv (1 : Int32), rv b99, rv b102, rv b105, rv b108, rv b111, iv c0, iv u0, iv (1 : Int32), iv (1 : Int32), .unset] [(.int (1 : Int32))]))
    refine own_st (fun _ k => XS.goto X151.here hx rfl (pc0 := 233) (pc' := 237) rfl (hb hby at_233) (by decide) (by decide) k) ?_
    show own_Fin p e below G (T151.setTop (mkF m 237 #[iv p1, iv p2, iv p3, iv (1 : Int32), rv b99, rv b102, rv b105, rv b108, rv b111, iv c0, iv u0, iv (1 : Int32), iv (1 : Int32), .unset] [(.int (1 : Int32))]))
    refine own_st (fun _ k => XS.istore X151.here hx rfl (hb hby at_237) rfl (l' := #[iv p1, iv p2, iv p3, iv (1 : Int32), rv b99, rv b102, rv b105, rv b108, rv b111, iv c0, iv u0, iv (1 : Int32), iv (1 : Int32), .unset]) rfl k) ?_
    show own_Fin p e below G (T151.setTop (mkF m 239 #[iv p1, iv p2, iv p3, iv (1 : Int32), rv b99, rv b102, rv b105, rv b108, rv b111, iv c0, iv u0, iv (1 : Int32), iv (1 : Int32), .unset] []))
    refine own_st (fun _ k => XS.iloadN X151.here hx rfl (hb hby at_239) rfl  k) ?_
    show own_Fin p e below G (T151.setTop (mkF m 240 #[iv p1, iv p2, iv p3, iv (1 : Int32), rv b99, rv b102, rv b105, rv b108, rv b111, iv c0, iv u0, iv (1 : Int32), iv (1 : Int32), .unset] [(.int (1 : Int32))]))
    refine own_st (fun _ k => XS.iconst X151.here hx rfl (hb hby at_240) k) ?_
    show own_Fin p e below G (T151.setTop (mkF m 241 #[iv p1, iv p2, iv p3, iv (1 : Int32), rv b99, rv b102, rv b105, rv b108, rv b111, iv c0, iv u0, iv (1 : Int32), iv (1 : Int32), .unset] [(.int (1 : Int32)), (.int (1 : Int32))]))
    refine own_st (fun _ k => XS.icmpYes X151.here hx rfl (pc0 := 241) (pc' := 275) rfl (hb hby at_241) rfl (flt (by decide : ¬ ((1 : Int32) < (1 : Int32)))).2.2.2 (by decide) (by decide) k) ?_
    show own_Fin p e below G (T151.setTop (mkF m 275 #[iv p1, iv p2, iv p3, iv (1 : Int32), rv b99, rv b102, rv b105, rv b108, rv b111, iv c0, iv u0, iv (1 : Int32), iv (1 : Int32), .unset] []))
    refine own_st (fun _ k => XS.iloadN X151.here hx rfl (hb hby at_275) rfl  k) ?_
    show own_Fin p e below G (T151.setTop (mkF m 276 #[iv p1, iv p2, iv p3, iv (1 : Int32), rv b99, rv b102, rv b105, rv b108, rv b111, iv c0, iv u0, iv (1 : Int32), iv (1 : Int32), .unset] [(.int (1 : Int32))]))
    refine own_st (fun _ k => XS.iconst X151.here hx rfl (hb hby at_276) k) ?_
    show own_Fin p e below G (T151.setTop (mkF m 277 #[iv p1, iv p2, iv p3, iv (1 : Int32), rv b99, rv b102, rv b105, rv b108, rv b111, iv c0, iv u0, iv (1 : Int32), iv (1 : Int32), .unset] [(.int (2 : Int32)), (.int (1 : Int32))]))
    refine own_st (fun _ k => XS.icmpYes X151.here hx rfl (pc0 := 277) (pc' := 311) rfl (hb hby at_277) rfl (flt (by decide : ¬ ((2 : Int32) < (1 : Int32)))).2.2.2 (by decide) (by decide) k) ?_
    show own_Fin p e below G (T151.setTop (mkF m 311 #[iv p1, iv p2, iv p3, iv (1 : Int32), rv b99, rv b102, rv b105, rv b108, rv b111, iv c0, iv u0, iv (1 : Int32), iv (1 : Int32), .unset] []))
    refine own_st (fun _ k => XS.iload X151.here hx rfl (hb hby at_311) rfl  k) ?_
    show own_Fin p e below G (T151.setTop (mkF m 313 #[iv p1, iv p2, iv p3, iv (1 : Int32), rv b99, rv b102, rv b105, rv b108, rv b111, iv c0, iv u0, iv (1 : Int32), iv (1 : Int32), .unset] [(.int (1 : Int32))]))
    refine own_st (fun _ k => XS.ifYes X151.here hx rfl (pc0 := 313) (pc' := 318) rfl (hb hby at_313) rfl ((if0 _ _).trans (feq (by decide : ¬ ((1 : Int32) = (0 : Int32)))).2) (by decide) (by decide) k) ?_
    show own_Fin p e below G (T151.setTop (mkF m 318 #[iv p1, iv p2, iv p3, iv (1 : Int32), rv b99, rv b102, rv b105, rv b108, rv b111, iv c0, iv u0, iv (1 : Int32), iv (1 : Int32), .unset] []))
    refine own_st (fun _ k => XS.iload X151.here hx rfl (hb hby at_318) rfl  k) ?_
    show own_Fin p e below G (T151.setTop (mkF m 320 #[iv p1, iv p2, iv p3, iv (1 : Int32), rv b99, rv b102, rv b105, rv b108, rv b111, iv c0, iv u0, iv (1 : Int32), iv (1 : Int32), .unset] [(.int c0)]))
    refine own_st (fun _ k => XS.iconst X151.here hx rfl (hb hby at_320) k) ?_
    show own_Fin p e below G (T151.setTop (mkF m 321 #[iv p1, iv p2, iv p3, iv (1 : Int32), rv b99, rv b102, rv b105, rv b108, rv b111, iv c0, iv u0, iv (1 : Int32), iv (1 : Int32), .unset] [(.int (1 : Int32)), (.int c0)]))
    refine own_st (fun _ k => XS.iadd X151.here hx rfl (hb hby at_321) rfl k) ?_
    show own_Fin p e below G (T151.setTop (mkF m 322 #[iv p1, iv p2, iv p3, iv (1 : Int32), rv b99, rv b102, rv b105, rv b108, rv b111, iv c0, iv u0, iv (1 : Int32), iv (1 : Int32), .unset] [(.int (c0 + (1 : Int32)))]))
    refine own_st (fun _ k => XS.iload X151.here hx rfl (hb hby at_322) rfl  k) ?_
    show own_Fin p e below G (T151.setTop (mkF m 324 #[iv p1, iv p2, iv p3, iv (1 : Int32), rv b99, rv b102, rv b105, rv b108, rv b111, iv c0, iv u0, iv (1 : Int32), iv (1 : Int32), .unset] [(.int u0), (.int (c0 + (1 : Int32)))]))
    refine own_st (fun _ k => XS.icmpNo X151.here hx rfl (hb hby at_324) rfl (tlt d0).2.1 k) ?_
    show own_Fin p e below G (T151.setTop (mkF m 327 #[iv p1, iv p2, iv p3, iv (1 : Int32), rv b99, rv b102, rv b105, rv b108, rv b111, iv c0, iv u0, iv (1 : Int32), iv (1 : Int32), .unset] []))
    refine own_st (fun _ k => XS.aload X151.here hx rfl (hb hby at_327) rfl rfl k) ?_
    show own_Fin p e below G (T151.setTop (mkF m 329 #[iv p1, iv p2, iv p3, iv (1 : Int32), rv b99, rv b102, rv b105, rv b108, rv b111, iv c0, iv u0, iv (1 : Int32), iv (1 : Int32), .unset] [(.ref b105)]))
    refine own_st (fun _ k => XS.iconst X151.here hx rfl (hb hby at_329) k) ?_
    show own_Fin p e below G (T151.setTop (mkF m 330 #[iv p1, iv p2, iv p3, iv (1 : Int32), rv b99, rv b102, rv b105, rv b108, rv b111, iv c0, iv u0, iv (1 : Int32), iv (1 : Int32), .unset] [(.int (0 : Int32)), (.ref b105)]))
    refine own_st (fun _ k => own_ldI X151 hx hZ e151 V151 (j := (0 : Int32)) (n := 3) rfl (by decide) (g := (mkF m 330 #[iv p1, iv p2, iv p3, iv (1 : Int32), rv b99, rv b102, rv b105, rv b108, rv b111, iv c0, iv u0, iv (1 : Int32), iv (1 : Int32), .unset] [(.int (0 : Int32)), (.ref b105)])) rfl rfl (hb hby at_330) k) ?_
    show own_Fin p e below G (T151.setTop (mkF m 331 #[iv p1, iv p2, iv p3, iv (1 : Int32), rv b99, rv b102, rv b105, rv b108, rv b111, iv c0, iv u0, iv (1 : Int32), iv (1 : Int32), .unset] [(.int (c0 + (1 : Int32)))]))
    refine own_st (fun _ k => XS.aload X151.here hx rfl (hb hby at_331) rfl rfl k) ?_
    show own_Fin p e below G (T151.setTop (mkF m 333 #[iv p1, iv p2, iv p3, iv (1 : Int32), rv b99, rv b102, rv b105, rv b108, rv b111, iv c0, iv u0, iv (1 : Int32), iv (1 : Int32), .unset] [(.ref b99), (.int (c0 + (1 : Int32)))]))
    refine own_st (fun _ k => XS.iconst X151.here hx rfl (hb hby at_333) k) ?_
    show own_Fin p e below G (T151.setTop (mkF m 334 #[iv p1, iv p2, iv p3, iv (1 : Int32), rv b99, rv b102, rv b105, rv b108, rv b111, iv c0, iv u0, iv (1 : Int32), iv (1 : Int32), .unset] [(.int (0 : Int32)), (.ref b99), (.int (c0 + (1 : Int32)))]))
    refine own_st (fun _ k => own_ldI X151 hx hZ e151 f152_0 (j := (0 : Int32)) (n := 3) rfl (by decide) (g := (mkF m 334 #[iv p1, iv p2, iv p3, iv (1 : Int32), rv b99, rv b102, rv b105, rv b108, rv b111, iv c0, iv u0, iv (1 : Int32), iv (1 : Int32), .unset] [(.int (0 : Int32)), (.ref b99), (.int (c0 + (1 : Int32)))])) rfl rfl (hb hby at_334) k) ?_
    show own_Fin p e below G (T151.setTop (mkF m 335 #[iv p1, iv p2, iv p3, iv (1 : Int32), rv b99, rv b102, rv b105, rv b108, rv b111, iv c0, iv u0, iv (1 : Int32), iv (1 : Int32), .unset] [(.int u0), (.int (c0 + (1 : Int32)))]))
    obtain ⟨_, _, ⟨T155, L155, k155, n155⟩, -, X155, ⟨Lc155, hQ155, l155, y155, z155⟩, st155⟩ := Jvm.LawKit.callS X151 hx (y := own_y2) hown (mvT hZ (own_w hw 12 rfl)) (mvT hZ (own_w hw 13 rfl)) (mvT hZ (own_w hw 3 rfl)) (mvT hZ (own_w hw 14 rfl)) (by decide) (backOf (W := 0) (rm_in l Z a0 hw [] (c0 + (1 : Int32)) u0 h151 n0 (Nat.le_trans Z0 K153.1) (own_g1 r_c0 r_u0) d0) hZ (own_w hw 14 rfl) (own_w hw 3 rfl) (by decide) (by decide)) (g := (mkF m 335 #[iv p1, iv p2, iv p3, iv (1 : Int32), rv b99, rv b102, rv b105, rv b108, rv b111, iv c0, iv u0, iv (1 : Int32), iv (1 : Int32), .unset] [(.int u0), (.int (c0 + (1 : Int32)))])) rfl (by rw [hml]; rfl) (argsL := [(.int (c0 + (1 : Int32))), (.int u0)]) (rest := []) (lenOf pd__II_Z_317 rfl) rfl (by show 2 * 0 + _ ≤ _; exact Nat.le_of_eq rfl) (hb hby at_335) (fun _ _ => ⟨rfl, e151, (by decide : 5 + 0 ≤ _), (by decide : 11 + 0 ≤ _)⟩)
    clear X151 e151
    dsimp only [Pt.U, Pt.locs, Pt.cells, Pt.slots] at X155 l155 y155 z155 st155 hQ155
    obtain rfl : k155 = (5 : Nat) := y155
    obtain rfl : n155 = (11 : Nat) := z155
    obtain ⟨rfl, N155q, e155⟩ := hQ155
    skip
    have N155 : Fr n0 L155 := by rw [l155]; exact Fr.app N154 N155q
    clear N154 l155 N155q
    refine own_st st155 ?_
    clear st155
    show own_Fin p e below G (T155.setTop (mkF m 338 #[iv p1, iv p2, iv p3, iv (1 : Int32), rv b99, rv b102, rv b105, rv b108, rv b111, iv c0, iv u0, iv (1 : Int32), iv (1 : Int32), .unset] [(.int (1 : Int32))]))
    refine own_st (fun _ k => XS.ifNo X155.here hx rfl (hb hby at_338) rfl ((if0 _ _).trans (feq (by decide : ¬ ((1 : Int32) = (0 : Int32)))).1) k) ?_
    show own_Fin p e below G (T155.setTop (mkF m 341 #[iv p1, iv p2, iv p3, iv (1 : Int32), rv b99, rv b102, rv b105, rv b108, rv b111, iv c0, iv u0, iv (1 : Int32), iv (1 : Int32), .unset] []))
    refine own_st (fun _ k => XS.aload X155.here hx rfl (hb hby at_341) rfl rfl k) ?_
    show own_Fin p e below G (T155.setTop (mkF m 343 #[iv p1, iv p2, iv p3, iv (1 : Int32), rv b99, rv b102, rv b105, rv b108, rv b111, iv c0, iv u0, iv (1 : Int32), iv (1 : Int32), .unset] [(.ref b105)]))
    refine own_st (fun _ k => XS.iconst X155.here hx rfl (hb hby at_343) k) ?_
    show own_Fin p e below G (T155.setTop (mkF m 344 #[iv p1, iv p2, iv p3, iv (1 : Int32), rv b99, rv b102, rv b105, rv b108, rv b111, iv c0, iv u0, iv (1 : Int32), iv (1 : Int32), .unset] [(.int (1 : Int32)), (.ref b105)]))
    refine own_st (fun _ k => own_ldI X155 hx hZ e155 V151 (j := (1 : Int32)) (n := 3) rfl (by decide) (g := (mkF m 344 #[iv p1, iv p2, iv p3, iv (1 : Int32), rv b99, rv b102, rv b105, rv b108, rv b111, iv c0, iv u0, iv (1 : Int32), iv (1 : Int32), .unset] [(.int (1 : Int32)), (.ref b105)])) rfl rfl (hb hby at_344) k) ?_
    show own_Fin p e below G (T155.setTop (mkF m 345 #[iv p1, iv p2, iv p3, iv (1 : Int32), rv b99, rv b102, rv b105, rv b108, rv b111, iv c0, iv u0, iv (1 : Int32), iv (1 : Int32), .unset] [(.int (0 : Int32))]))
    refine own_st (fun _ k => XS.aload X155.here hx rfl (hb hby at_345) rfl rfl k) ?_
    show own_Fin p e below G (T155.setTop (mkF m 347 #[iv p1, iv p2, iv p3, iv (1 : Int32), rv b99, rv b102, rv b105, rv b108, rv b111, iv c0, iv u0, iv (1 : Int32), iv (1 : Int32), .unset] [(.ref b99), (.int (0 : Int32))]))
    refine own_st (fun _ k => XS.iconst X155.here hx rfl (hb hby at_347) k) ?_
    show own_Fin p e below G (T155.setTop (mkF m 348 #[iv p1, iv p2, iv p3, iv (1 : Int32), rv b99, rv b102, rv b105, rv b108, rv b111, iv c0, iv u0, iv (1 : Int32), iv (1 : Int32), .unset] [(.int (1 : Int32)), (.ref b99), (.int (0 : Int32))]))
    refine own_st (fun _ k => own_ldI X155 hx hZ e155 f152_0 (j := (1 : Int32)) (n := 3) rfl (by decide) (g := (mkF m 348 #[iv p1, iv p2, iv p3, iv (1 : Int32), rv b99, rv b102, rv b105, rv b108, rv b111, iv c0, iv u0, iv (1 : Int32), iv (1 : Int32), .unset] [(.int (1 : Int32)), (.ref b99), (.int (0 : Int32))])) rfl rfl (hb hby at_348) k) ?_
    show own_Fin p e below G (T155.setTop (mkF m 349 #[iv p1, iv p2, iv p3, iv (1 : Int32), rv b99, rv b102, rv b105, rv b108, rv b111, iv c0, iv u0, iv (1 : Int32), iv (1 : Int32), .unset] [(.int u1), (.int (0 : Int32))]))
    obtain ⟨_, _, ⟨T156, L156, k156, n156⟩, -, X156, ⟨Lc156, hQ156, l156, y156, z156⟩, st156⟩ := Jvm.LawKit.callS X155 hx (y := own_y2) hown (mvT hZ (own_w hw 12 rfl)) (mvT hZ (own_w hw 13 rfl)) (mvT hZ (own_w hw 3 rfl)) (mvT hZ (own_w hw 14 rfl)) (by decide) (backOf (W := 0) (rm_in l Z a0 hw [] (0 : Int32) u1 h151 n0 (Nat.le_trans Z0 K153.1) (by decide) (own_pos r_u1)) hZ (own_w hw 14 rfl) (own_w hw 3 rfl) (by decide) (by decide)) (g := (mkF m 349 #[iv p1, iv p2, iv p3, iv (1 : Int32), rv b99, rv b102, rv b105, rv b108, rv b111, iv c0, iv u0, iv (1 : Int32), iv (1 : Int32), .unset] [(.int u1), (.int (0 : Int32))])) rfl (by rw [hml]; rfl) (argsL := [(.int (0 : Int32)), (.int u1)]) (rest := []) (lenOf pd__II_Z_317 rfl) rfl (by show 2 * 0 + _ ≤ _; exact Nat.le_of_eq rfl) (hb hby at_349) (fun _ _ => ⟨rfl, e155, (by decide : 5 + 0 ≤ _), (by decide : 11 + 0 ≤ _)⟩)
    clear X155 e155
    dsimp only [Pt.U, Pt.locs, Pt.cells, Pt.slots] at X156 l156 y156 z156 st156 hQ156
    obtain rfl : k156 = (5 : Nat) := y156
    obtain rfl : n156 = (11 : Nat) := z156
    obtain ⟨rfl, N156q, e156⟩ := hQ156
    skip
    have N156 : Fr n0 L156 := by rw [l156]; exact Fr.app N155 N156q
    clear N155 l156 N156q
    refine own_st st156 ?_
    clear st156
    show own_Fin p e below G (T156.setTop (mkF m 352 #[iv p1, iv p2, iv p3, iv (1 : Int32), rv b99, rv b102, rv b105, rv b108, rv b111, iv c0, iv u0, iv (1 : Int32), iv (1 : Int32), .unset] [(.int (1 : Int32))]))
    refine own_st (fun _ k => XS.ifNo X156.here hx rfl (hb hby at_352) rfl ((if0 _ _).trans (feq (by decide : ¬ ((1 : Int32) = (0 : Int32)))).1) k) ?_
    show own_Fin p e below G (T156.setTop (mkF m 355 #[iv p1, iv p2, iv p3, iv (1 : Int32), rv b99, rv b102, rv b105, rv b108, rv b111, iv c0, iv u0, iv (1 : Int32), iv (1 : Int32), .unset] []))
    refine own_st (fun _ k => XS.aload X156.here hx rfl (hb hby at_355) rfl rfl k) ?_
    show own_Fin p e below G (T156.setTop (mkF m 357 #[iv p1, iv p2, iv p3, iv (1 : Int32), rv b99, rv b102, rv b105, rv b108, rv b111, iv c0, iv u0, iv (1 : Int32), iv (1 : Int32), .unset] [(.ref b105)]))
    refine own_st (fun _ k => XS.iconst X156.here hx rfl (hb hby at_357) k) ?_
    show own_Fin p e below G (T156.setTop (mkF m 358 #[iv p1, iv p2, iv p3, iv (1 : Int32), rv b99, rv b102, rv b105, rv b108, rv b111, iv c0, iv u0, iv (1 : Int32), iv (1 : Int32), .unset] [(.int (2 : Int32)), (.ref b105)]))
    refine own_st (fun _ k => own_ldI X156 hx hZ e156 V151 (j := (2 : Int32)) (n := 3) rfl (by decide) (g := (mkF m 358 #[iv p1, iv p2, iv p3, iv (1 : Int32), rv b99, rv b102, rv b105, rv b108, rv b111, iv c0, iv u0, iv (1 : Int32), iv (1 : Int32), .unset] [(.int (2 : Int32)), (.ref b105)])) rfl rfl (hb hby at_358) k) ?_
    show own_Fin p e below G (T156.setTop (mkF m 359 #[iv p1, iv p2, iv p3, iv (1 : Int32), rv b99, rv b102, rv b105, rv b108, rv b111, iv c0, iv u0, iv (1 : Int32), iv (1 : Int32), .unset] [(.int (0 : Int32))]))
    refine own_st (fun _ k => XS.aload X156.here hx rfl (hb hby at_359) rfl rfl k) ?_
    show own_Fin p e below G (T156.setTop (mkF m 361 #[iv p1, iv p2, iv p3, iv (1 : Int32), rv b99, rv b102, rv b105, rv b108, rv b111, iv c0, iv u0, iv (1 : Int32), iv (1 : Int32), .unset] [(.ref b99), (.int (0 : Int32))]))
    refine own_st (fun _ k => XS.iconst X156.here hx rfl (hb hby at_361) k) ?_
    show own_Fin p e below G (T156.setTop (mkF m 362 #[iv p1, iv p2, iv p3, iv (1 : Int32), rv b99, rv b102, rv b105, rv b108, rv b111, iv c0, iv u0, iv (1 : Int32), iv (1 : Int32), .unset] [(.int (2 : Int32)), (.ref b99), (.int (0 : Int32))]))
    refine own_st (fun _ k => own_ldI X156 hx hZ e156 f152_0 (j := (2 : Int32)) (n := 3) rfl (by decide) (g := (mkF m 362 #[iv p1, iv p2, iv p3, iv (1 : Int32), rv b99, rv b102, rv b105, rv b108, rv b111, iv c0, iv u0, iv (1 : Int32), iv (1 : Int32), .unset] [(.int (2 : Int32)), (.ref b99), (.int (0 : Int32))])) rfl rfl (hb hby at_362) k) ?_
    show own_Fin p e below G (T156.setTop (mkF m 363 #[iv p1, iv p2, iv p3, iv (1 : Int32), rv b99, rv b102, rv b105, rv b108, rv b111, iv c0, iv u0, iv (1 : Int32), iv (1 : Int32), .unset] [(.int u2), (.int (0 : Int32))]))
    obtain ⟨_, _, ⟨T157, L157, k157, n157⟩, -, X157, ⟨Lc157, hQ157, l157, y157, z157⟩, st157⟩ := Jvm.LawKit.callS X156 hx (y := own_y2) hown (mvT hZ (own_w hw 12 rfl)) (mvT hZ (own_w hw 13 rfl)) (mvT hZ (own_w hw 3 rfl)) (mvT hZ (own_w hw 14 rfl)) (by decide) (backOf (W := 0) (rm_in l Z a0 hw [] (0 : Int32) u2 h151 n0 (Nat.le_trans Z0 K153.1) (by decide) (own_pos r_u2)) hZ (own_w hw 14 rfl) (own_w hw 3 rfl) (by decide) (by decide)) (g := (mkF m 363 #[iv p1, iv p2, iv p3, iv (1 : Int32), rv b99, rv b102, rv b105, rv b108, rv b111, iv c0, iv u0, iv (1 : Int32), iv (1 : Int32), .unset] [(.int u2), (.int (0 : Int32))])) rfl (by rw [hml]; rfl) (argsL := [(.int (0 : Int32)), (.int u2)]) (rest := []) (lenOf pd__II_Z_317 rfl) rfl (by show 2 * 0 + _ ≤ _; exact Nat.le_of_eq rfl) (hb hby at_363) (fun _ _ => ⟨rfl, e156, (by decide : 5 + 0 ≤ _), (by decide : 11 + 0 ≤ _)⟩)
    clear X156 e156
    dsimp only [Pt.U, Pt.locs, Pt.cells, Pt.slots] at X157 l157 y157 z157 st157 hQ157
    obtain rfl : k157 = (5 : Nat) := y157
    obtain rfl : n157 = (11 : Nat) := z157
    obtain ⟨rfl, N157q, e157⟩ := hQ157
    skip
    have N157 : Fr n0 L157 := by rw [l157]; exact Fr.app N156 N157q
    clear N156 l157 N157q
    refine own_st st157 ?_
    clear st157
    show own_Fin p e below G (T157.setTop (mkF m 366 #[iv p1, iv p2, iv p3, iv (1 : Int32), rv b99, rv b102, rv b105, rv b108, rv b111, iv c0, iv u0, iv (1 : Int32), iv (1 : Int32), .unset] [(.int (1 : Int32))]))
    refine own_st (fun _ k => XS.ifNo X157.here hx rfl (hb hby at_366) rfl ((if0 _ _).trans (feq (by decide : ¬ ((1 : Int32) = (0 : Int32)))).1) k) ?_
    show own_Fin p e below G (T157.setTop (mkF m 369 #[iv p1, iv p2, iv p3, iv (1 : Int32), rv b99, rv b102, rv b105, rv b108, rv b111, iv c0, iv u0, iv (1 : Int32), iv (1 : Int32), .unset] []))
    refine own_st (fun _ k => XS.iconst X157.here hx rfl (hb hby at_369) k) ?_
    show own_Fin p e below G (T157.setTop (mkF m 370 #[iv p1, iv p2, iv p3, iv (1 : Int32), rv b99, rv b102, rv b105, rv b108, rv b111, iv c0, iv u0, iv (1 : Int32), iv (1 : Int32), .unset] [(.int (1 : Int32))]))
    refine own_st (fun _ k => XS.goto X157.here hx rfl (pc0 := 370) (pc' := 374) rfl (hb hby at_370) (by decide) (by decide) k) ?_
    show own_Fin p e below G (T157.setTop (mkF m 374 #[iv p1, iv p2, iv p3, iv (1 : Int32), rv b99, rv b102, rv b105, rv b108, rv b111, iv c0, iv u0, iv (1 : Int32), iv (1 : Int32), .unset] [(.int (1 : Int32))]))
    refine own_st (fun _ k => XS.istore X157.here hx rfl (hb hby at_374) rfl (l' := #[iv p1, iv p2, iv p3, iv (1 : Int32), rv b99, rv b102, rv b105, rv b108, rv b111, iv c0, iv u0, iv (1 : Int32), iv (1 : Int32), iv (1 : Int32)]) rfl k) ?_
    show own_Fin p e below G (T157.setTop (mkF m 376 #[iv p1, iv p2, iv p3, iv (1 : Int32), rv b99, rv b102, rv b105, rv b108, rv b111, iv c0, iv u0, iv (1 : Int32), iv (1 : Int32), iv (1 : Int32)] []))
    refine own_st (fun _ k => XS.iload X157.here hx rfl (hb hby at_376) rfl  k) ?_
    show own_Fin p e below G (T157.setTop (mkF m 378 #[iv p1, iv p2, iv p3, iv (1 : Int32), rv b99, rv b102, rv b105, rv b108, rv b111, iv c0, iv u0, iv (1 : Int32), iv (1 : Int32), iv (1 : Int32)] [(.int (1 : Int32))]))
    refine own_st (fun _ k => XS.ifNo X157.here hx rfl (hb hby at_378) rfl ((if0 _ _).trans (feq (by decide : ¬ ((1 : Int32) = (0 : Int32)))).1) k) ?_
    show own_Fin p e below G (T157.setTop (mkF m 381 #[iv p1, iv p2, iv p3, iv (1 : Int32), rv b99, rv b102, rv b105, rv b108, rv b111, iv c0, iv u0, iv (1 : Int32), iv (1 : Int32), iv (1 : Int32)] []))
    refine own_st (fun _ k => XS.iload X157.here hx rfl (hb hby at_381) rfl  k) ?_
    show own_Fin p e below G (T157.setTop (mkF m 383 #[iv p1, iv p2, iv p3, iv (1 : Int32), rv b99, rv b102, rv b105, rv b108, rv b111, iv c0, iv u0, iv (1 : Int32), iv (1 : Int32), iv (1 : Int32)] [(.int (1 : Int32))]))
    refine own_st (fun _ k => XS.ifNo X157.here hx rfl (hb hby at_383) rfl ((if0 _ _).trans (feq (by decide : ¬ ((1 : Int32) = (0 : Int32)))).1) k) ?_
    show own_Fin p e below G (T157.setTop (mkF m 386 #[iv p1, iv p2, iv p3, iv (1 : Int32), rv b99, rv b102, rv b105, rv b108, rv b111, iv c0, iv u0, iv (1 : Int32), iv (1 : Int32), iv (1 : Int32)] []))
    refine own_st (fun _ k => XS.iloadN X157.here hx rfl (hb hby at_386) rfl  k) ?_
    show own_Fin p e below G (T157.setTop (mkF m 387 #[iv p1, iv p2, iv p3, iv (1 : Int32), rv b99, rv b102, rv b105, rv b108, rv b111, iv c0, iv u0, iv (1 : Int32), iv (1 : Int32), iv (1 : Int32)] [(.int (1 : Int32))]))
    refine own_st (fun _ k => XS.aload X157.here hx rfl (hb hby at_387) rfl rfl k) ?_
    show own_Fin p e below G (T157.setTop (mkF m 389 #[iv p1, iv p2, iv p3, iv (1 : Int32), rv b99, rv b102, rv b105, rv b108, rv b111, iv c0, iv u0, iv (1 : Int32), iv (1 : Int32), iv (1 : Int32)] [(.ref b105), (.int (1 : Int32))]))
    refine own_st (fun _ k => XS.aload X157.here hx rfl (hb hby at_389) rfl rfl k) ?_
    show own_Fin p e below G (T157.setTop (mkF m 391 #[iv p1, iv p2, iv p3, iv (1 : Int32), rv b99, rv b102, rv b105, rv b108, rv b111, iv c0, iv u0, iv (1 : Int32), iv (1 : Int32), iv (1 : Int32)] [(.ref b99), (.ref b105), (.int (1 : Int32))]))
    obtain ⟨_, _, ⟨T158, L158, k158, n158⟩, -, X158, ⟨Lc158, hQ158, l158, y158, z158⟩, st158⟩ := Jvm.LawKit.callS X157 hx (y := own_y0) hown (mvT hZ (own_w hw 1 rfl)) (mvT hZ (own_w hw 2 rfl)) (mvT hZ (own_w hw 3 rfl)) (mvT hZ (own_w hw 4 rfl)) (by decide) (backOf (W := 0) (rm_v1 l Z a0 hw [] b105 b99 (c0 + (1 : Int32)) (0 : Int32) (0 : Int32) u0 u1 u2 h151 n0 (Nat.le_trans Z0 K153.1) V151 f152_0) hZ (own_w hw 4 rfl) (own_w hw 3 rfl) (by decide) (by decide)) (g := (mkF m 391 #[iv p1, iv p2, iv p3, iv (1 : Int32), rv b99, rv b102, rv b105, rv b108, rv b111, iv c0, iv u0, iv (1 : Int32), iv (1 : Int32), iv (1 : Int32)] [(.ref b99), (.ref b105), (.int (1 : Int32))])) rfl (by rw [hml]; rfl) (argsL := [(.int (1 : Int32)), (.ref b105), (.ref b99)]) (rest := []) (lenOf pd__I_I_I_I_555 rfl) rfl (by show 2 * 0 + _ ≤ _; exact Nat.le_of_eq rfl) (hb hby at_391) (fun _ _ => ⟨rfl, e157, (by decide : 5 + 0 ≤ _), (by decide : 11 + 0 ≤ _)⟩)
    clear V151 f152_0 K153 X157 e157
    dsimp only [Pt.U, Pt.locs, Pt.cells, Pt.slots] at X158 l158 y158 z158 st158 hQ158
    obtain rfl : k158 = (5 : Nat) := y158
    obtain rfl : n158 = (11 : Nat) := z158
    obtain ⟨rfl, N158q, e158⟩ := hQ158
    clear e158
    skip
    have N158 : Fr n0 L158 := by rw [l158]; exact Fr.app N157 N158q
    clear N157 l158 N158q
    refine own_st st158 ?_
    clear st158
    show own_Fin p e below G (T158.setTop (mkF m 394 #[iv p1, iv p2, iv p3, iv (1 : Int32), rv b99, rv b102, rv b105, rv b108, rv b111, iv c0, iv u0, iv (1 : Int32), iv (1 : Int32), iv (1 : Int32)] [(.int (c0 + (1 : Int32)))]))
    refine own_st (fun _ k => XS.iload X158.here hx rfl (hb hby at_394) rfl  k) ?_
    show own_Fin p e below G (T158.setTop (mkF m 396 #[iv p1, iv p2, iv p3, iv (1 : Int32), rv b99, rv b102, rv b105, rv b108, rv b111, iv c0, iv u0, iv (1 : Int32), iv (1 : Int32), iv (1 : Int32)] [(.int c0), (.int (c0 + (1 : Int32)))]))
    refine own_st (fun _ k => XS.iconst X158.here hx rfl (hb hby at_396) k) ?_
    show own_Fin p e below G (T158.setTop (mkF m 397 #[iv p1, iv p2, iv p3, iv (1 : Int32), rv b99, rv b102, rv b105, rv b108, rv b111, iv c0, iv u0, iv (1 : Int32), iv (1 : Int32), iv (1 : Int32)] [(.int (1 : Int32)), (.int c0), (.int (c0 + (1 : Int32)))]))
    refine own_st (fun _ k => XS.iadd X158.here hx rfl (hb hby at_397) rfl k) ?_
    show own_Fin p e below G (T158.setTop (mkF m 398 #[iv p1, iv p2, iv p3, iv (1 : Int32), rv b99, rv b102, rv b105, rv b108, rv b111, iv c0, iv u0, iv (1 : Int32), iv (1 : Int32), iv (1 : Int32)] [(.int (c0 + (1 : Int32))), (.int (c0 + (1 : Int32)))]))
    refine own_st (fun _ k => XS.icmpNo X158.here hx rfl (hb hby at_398) rfl (teq (rfl : (c0 + (1 : Int32)) = (c0 + (1 : Int32)))).2 k) ?_
    show own_Fin p e below G (T158.setTop (mkF m 401 #[iv p1, iv p2, iv p3, iv (1 : Int32), rv b99, rv b102, rv b105, rv b108, rv b111, iv c0, iv u0, iv (1 : Int32), iv (1 : Int32), iv (1 : Int32)] []))
    refine own_st (fun _ k => XS.iconst X158.here hx rfl (hb hby at_401) k) ?_
    show own_Fin p e below G (T158.setTop (mkF m 402 #[iv p1, iv p2, iv p3, iv (1 : Int32), rv b99, rv b102, rv b105, rv b108, rv b111, iv c0, iv u0, iv (1 : Int32), iv (1 : Int32), iv (1 : Int32)] [(.int (1 : Int32))]))
    refine own_st (fun _ k => XS.goto X158.here hx rfl (pc0 := 402) (pc' := 406) rfl (hb hby at_402) (by decide) (by decide) k) ?_
    show own_Fin p e below G (T158.setTop (mkF m 406 #[iv p1, iv p2, iv p3, iv (1 : Int32), rv b99, rv b102, rv b105, rv b108, rv b111, iv c0, iv u0, iv (1 : Int32), iv (1 : Int32), iv (1 : Int32)] [(.int (1 : Int32))]))
    refine own_out X158 Bd.notSynchronized (v := (some (.int (1 : Int32)))) (fun h => by rw [Bd.returns] at h; cases h) hG (fun fs hr => retN X158 hx (t := .boolean) Bd.returns (by simp) (hb hby at_406) hr) (by decide) (by decide) ?_
    exact ⟨rfl, N158⟩
  · show own_Fin p e below G (T148.setTop (mkF m 199 #[iv p1, iv p2, iv p3, iv (1 : Int32), rv b99, rv b102, rv b105, rv b108, rv b111, iv c0, iv u0, .unset, .unset, .unset] [(.int (0 : Int32))]))
    refine own_st (fun _ k => XS.istore X148.here hx rfl (hb hby at_199) rfl (l' := #[iv p1, iv p2, iv p3, iv (1 : Int32), rv b99, rv b102, rv b105, rv b108, rv b111, iv c0, iv u0, iv (0 : Int32), .unset, .unset]) rfl k) ?_
    show own_Fin p e below G (T148.setTop (mkF m 201 #[iv p1, iv p2, iv p3, iv (1 : Int32), rv b99, rv b102, rv b105, rv b108, rv b111, iv c0, iv u0, iv (0 : Int32), .unset, .unset] []))
    refine own_st (fun _ k => XS.iconst X148.here hx rfl (hb hby at_201) k) ?_
    show own_Fin p e below G (T148.setTop (mkF m 202 #[iv p1, iv p2, iv p3, iv (1 : Int32), rv b99, rv b102, rv b105, rv b108, rv b111, iv c0, iv u0, iv (0 : Int32), .unset, .unset] [(.int (1 : Int32))]))
    refine own_st (fun _ k => XS.istore X148.here hx rfl (hb hby at_202) rfl (l' := #[iv p1, iv p2, iv p3, iv (1 : Int32), rv b99, rv b102, rv b105, rv b108, rv b111, iv c0, iv u0, iv (0 : Int32), iv (1 : Int32), .unset]) rfl k) ?_
    show own_Fin p e below G (T148.setTop (mkF m 204 #[iv p1, iv p2, iv p3, iv (1 : Int32), rv b99, rv b102, rv b105, rv b108, rv b111, iv c0, iv u0, iv (0 : Int32), iv (1 : Int32), .unset] []))
    refine own_st (fun _ k => XS.iloadN X148.here hx rfl (hb hby at_204) rfl  k) ?_
    show own_Fin p e below G (T148.setTop (mkF m 205 #[iv p1, iv p2, iv p3, iv (1 : Int32), rv b99, rv b102, rv b105, rv b108, rv b111, iv c0, iv u0, iv (0 : Int32), iv (1 : Int32), .unset] [(.int (1 : Int32))]))
    refine own_st (fun _ k => XS.ifNo X148.here hx rfl (hb hby at_205) rfl ((if0 _ _).trans (tlt (by decide : ((0 : Int32) < (1 : Int32)))).2.2.2) k) ?_
    show own_Fin p e below G (T148.setTop (mkF m 208 #[iv p1, iv p2, iv p3, iv (1 : Int32), rv b99, rv b102, rv b105, rv b108, rv b111, iv c0, iv u0, iv (0 : Int32), iv (1 : Int32), .unset] []))
    refine own_st (fun _ k => XS.aload X148.here hx rfl (hb hby at_208) rfl rfl k) ?_
    show own_Fin p e below G (T148.setTop (mkF m 210 #[iv p1, iv p2, iv p3, iv (1 : Int32), rv b99, rv b102, rv b105, rv b108, rv b111, iv c0, iv u0, iv (0 : Int32), iv (1 : Int32), .unset] [(.ref b105)]))
    refine own_st (fun _ k => XS.iconst X148.here hx rfl (hb hby at_210) k) ?_
    show own_Fin p e below G (T148.setTop (mkF m 211 #[iv p1, iv p2, iv p3, iv (1 : Int32), rv b99, rv b102, rv b105, rv b108, rv b111, iv c0, iv u0, iv (0 : Int32), iv (1 : Int32), .unset] [(.int (0 : Int32)), (.ref b105)]))
    refine own_st (fun _ k => XS.aload X148.here hx rfl (hb hby at_211) rfl rfl k) ?_
    show own_Fin p e below G (T148.setTop (mkF m 213 #[iv p1, iv p2, iv p3, iv (1 : Int32), rv b99, rv b102, rv b105, rv b108, rv b111, iv c0, iv u0, iv (0 : Int32), iv (1 : Int32), .unset] [(.ref b111), (.int (0 : Int32)), (.ref b105)]))
    refine own_st (fun _ k => XS.iconst X148.here hx rfl (hb hby at_213) k) ?_
    show own_Fin p e below G (T148.setTop (mkF m 214 #[iv p1, iv p2, iv p3, iv (1 : Int32), rv b99, rv b102, rv b105, rv b108, rv b111, iv c0, iv u0, iv (0 : Int32), iv (1 : Int32), .unset] [(.int (0 : Int32)), (.ref b111), (.int (0 : Int32)), (.ref b105)]))
    refine own_st (fun _ k => own_ldI X148 hx hZ rfl gA148 (j := (0 : Int32)) (n := 1) rfl (by decide) (g := (mkF m 214 #[iv p1, iv p2, iv p3, iv (1 : Int32), rv b99, rv b102, rv b105, rv b108, rv b111, iv c0, iv u0, iv (0 : Int32), iv (1 : Int32), .unset] [(.int (0 : Int32)), (.ref b111), (.int (0 : Int32)), (.ref b105)])) rfl rfl (hb hby at_214) k) ?_
    show own_Fin p e below G (T148.setTop (mkF m 215 #[iv p1, iv p2, iv p3, iv (1 : Int32), rv b99, rv b102, rv b105, rv b108, rv b111, iv c0, iv u0, iv (0 : Int32), iv (1 : Int32), .unset] [(.int (0 : Int32)), (.int (0 : Int32)), (.ref b105)]))
    obtain ⟨T159, h159, X159, e159, W159, V159, st159⟩ := own_stI X148 hx hZ rfl f149_2 (j := (0 : Int32)) (n := 3) rfl (by decide) (g := (mkF m 215 #[iv p1, iv p2, iv p3, iv (1 : Int32), rv b99, rv b102, rv b105, rv b108, rv b111, iv c0, iv u0, iv (0 : Int32), iv (1 : Int32), .unset] [(.int (0 : Int32)), (.int (0 : Int32)), (.ref b105)])) rfl rfl (hb hby at_215)
    clear X148 f149_2
    have f160_0 := f149_0.other W159 ne_b99_b105
    clear f149_0
    have f160_1 := f149_1.other W159 ne_b102_b105
    clear f149_1 f160_1
    have f160_3 := f149_3.other W159 (Ne.symm ne_b105_b108)
    clear f149_3
    have f160_4 := gA148.other W159 (Ne.symm ne_b105_b111)
    clear gA148 f160_4
    have K161 : Keep h0 h159 [] := K150.wr W159 (Or.inr sz_b105)
    clear K150 W159 K161
    have N162 := Fr.snoc X159 N148 g_b105
    clear N148
    replace V159 : own_AV Z h159 b105 .int (own_is [(0 : Int32), (0 : Int32), (0 : Int32)]) := V159
    refine own_st st159 ?_
    clear st159
    show own_Fin p e below G (T159.setTop (mkF m 216 #[iv p1, iv p2, iv p3, iv (1 : Int32), rv b99, rv b102, rv b105, rv b108, rv b111, iv c0, iv u0, iv (0 : Int32), iv (1 : Int32), .unset] []))
    refine own_st (fun _ k => XS.iload X159.here hx rfl (hb hby at_216) rfl  k) ?_
    show own_Fin p e below G (T159.setTop (mkF m 218 #[iv p1, iv p2, iv p3, iv (1 : Int32), rv b99, rv b102, rv b105, rv b108, rv b111, iv c0, iv u0, iv (0 : Int32), iv (1 : Int32), .unset] [(.int (1 : Int32))]))
    refine own_st (fun _ k => XS.ifNo X159.here hx rfl (hb hby at_218) rfl ((if0 _ _).trans (feq (by decide : ¬ ((1 : Int32) = (0 : Int32)))).1) k) ?_
    show own_Fin p e below G (T159.setTop (mkF m 221 #[iv p1, iv p2, iv p3, iv (1 : Int32), rv b99, rv b102, rv b105, rv b108, rv b111, iv c0, iv u0, iv (0 : Int32), iv (1 : Int32), .unset] []))
    refine own_st (fun _ k => XS.aload X159.here hx rfl (hb hby at_221) rfl rfl k) ?_
    show own_Fin p e below G (T159.setTop (mkF m 223 #[iv p1, iv p2, iv p3, iv (1 : Int32), rv b99, rv b102, rv b105, rv b108, rv b111, iv c0, iv u0, iv (0 : Int32), iv (1 : Int32), .unset] [(.ref b108)]))
    refine own_st (fun _ k => XS.iconst X159.here hx rfl (hb hby at_223) k) ?_
    show own_Fin p e below G (T159.setTop (mkF m 224 #[iv p1, iv p2, iv p3, iv (1 : Int32), rv b99, rv b102, rv b105, rv b108, rv b111, iv c0, iv u0, iv (0 : Int32), iv (1 : Int32), .unset] [(.int (0 : Int32)), (.ref b108)]))
    refine own_st (fun _ k => own_ldI X159 hx hZ e159 f160_3 (j := (0 : Int32)) (n := 1) rfl (by decide) (g := (mkF m 224 #[iv p1, iv p2, iv p3, iv (1 : Int32), rv b99, rv b102, rv b105, rv b108, rv b111, iv c0, iv u0, iv (0 : Int32), iv (1 : Int32), .unset] [(.int (0 : Int32)), (.ref b108)])) rfl rfl (hb hby at_224) k) ?_
    clear f160_3
    show own_Fin p e below G (T159.setTop (mkF m 225 #[iv p1, iv p2, iv p3, iv (1 : Int32), rv b99, rv b102, rv b105, rv b108, rv b111, iv c0, iv u0, iv (0 : Int32), iv (1 : Int32), .unset] [(.int u0)]))
    refine own_st (fun _ k => XS.aload X159.here hx rfl (hb hby at_225) rfl rfl k) ?_
    show own_Fin p e below G (T159.setTop (mkF m 227 #[iv p1, iv p2, iv p3, iv (1 : Int32), rv b99, rv b102, rv b105, rv b108, rv b111, iv c0, iv u0, iv (0 : Int32), iv (1 : Int32), .unset] [(.ref b99), (.int u0)]))
    refine own_st (fun _ k => XS.iconst X159.here hx rfl (hb hby at_227) k) ?_
    show own_Fin p e below G (T159.setTop (mkF m 228 #[iv p1, iv p2, iv p3, iv (1 : Int32), rv b99, rv b102, rv b105, rv b108, rv b111, iv c0, iv u0, iv (0 : Int32), iv (1 : Int32), .unset] [(.int (0 : Int32)), (.ref b99), (.int u0)]))
    refine own_st (fun _ k => own_ldI X159 hx hZ e159 f160_0 (j := (0 : Int32)) (n := 3) rfl (by decide) (g := (mkF m 228 #[iv p1, iv p2, iv p3, iv (1 : Int32), rv b99, rv b102, rv b105, rv b108, rv b111, iv c0, iv u0, iv (0 : Int32), iv (1 : Int32), .unset] [(.int (0 : Int32)), (.ref b99), (.int u0)])) rfl rfl (hb hby at_228) k) ?_
    clear f160_0
    show own_Fin p e below G (T159.setTop (mkF m 229 #[iv p1, iv p2, iv p3, iv (1 : Int32), rv b99, rv b102, rv b105, rv b108, rv b111, iv c0, iv u0, iv (0 : Int32), iv (1 : Int32), .unset] [(.int u0), (.int u0)]))
    refine own_st (fun _ k => XS.icmpNo X159.here hx rfl (hb hby at_229) rfl (teq (rfl : u0 = u0)).2 k) ?_
    show own_Fin p e below G (T159.setTop (mkF m 232 #[iv p1, iv p2, iv p3, iv (1 : Int32), rv b99, rv b102, rv b105, rv b108, rv b111, iv c0, iv u0, iv (0 : Int32), iv (1 : Int32), .unset] []))
    refine own_st (fun _ k => XS.iconst X159.here hx rfl (hb hby at_232) k) ?_
    show own_Fin p e below G (T159.setTop (mkF m 233 #[iv p1, iv p2, iv p3, iv (1 : Int32), rv b99, rv b102, rv b105, rv b108, rv b111, iv c0, iv u0, iv (0 : Int32), iv (1 : Int32), .unset] [(.int (1 : Int32))]))
    refine own_st (fun _ k => XS.goto X159.here hx rfl (pc0 := 233) (pc' := 237) rfl (hb hby at_233) (by decide) (by decide) k) ?_
    show own_Fin p e below G (T159.setTop (mkF m 237 #[iv p1, iv p2, iv p3, iv (1 : Int32), rv b99, rv b102, rv b105, rv b108, rv b111, iv c0, iv u0, iv (0 : Int32), iv (1 : Int32), .unset] [(.int (1 : Int32))]))
    refine own_st (fun _ k => XS.istore X159.here hx rfl (hb hby at_237) rfl (l' := #[iv p1, iv p2, iv p3, iv (1 : Int32), rv b99, rv b102, rv b105, rv b108, rv b111, iv c0, iv u0, iv (0 : Int32), iv (1 : Int32), .unset]) rfl k) ?_
    show own_Fin p e below G (T159.setTop (mkF m 239 #[iv p1, iv p2, iv p3, iv (1 : Int32), rv b99, rv b102, rv b105, rv b108, rv b111, iv c0, iv u0, iv (0 : Int32), iv (1 : Int32), .unset] []))
    refine own_st (fun _ k => XS.iloadN X159.here hx rfl (hb hby at_239) rfl  k) ?_
    show own_Fin p e below G (T159.setTop (mkF m 240 #[iv p1, iv p2, iv p3, iv (1 : Int32), rv b99, rv b102, rv b105, rv b108, rv b111, iv c0, iv u0, iv (0 : Int32), iv (1 : Int32), .unset] [(.int (1 : Int32))]))
    refine own_st (fun _ k => XS.iconst X159.here hx rfl (hb hby at_240) k) ?_
    show own_Fin p e below G (T159.setTop (mkF m 241 #[iv p1, iv p2, iv p3, iv (1 : Int32), rv b99, rv b102, rv b105, rv b108, rv b111, iv c0, iv u0, iv (0 : Int32), iv (1 : Int32), .unset] [(.int (1 : Int32)), (.int (1 : Int32))]))
    refine own_st (fun _ k => XS.icmpYes X159.here hx rfl (pc0 := 241) (pc' := 275) rfl (hb hby at_241) rfl (flt (by decide : ¬ ((1 : Int32) < (1 : Int32)))).2.2.2 (by decide) (by decide) k) ?_
    show own_Fin p e below G (T159.setTop (mkF m 275 #[iv p1, iv p2, iv p3, iv (1 : Int32), rv b99, rv b102, rv b105, rv b108, rv b111, iv c0, iv u0, iv (0 : Int32), iv (1 : Int32), .unset] []))
    refine own_st (fun _ k => XS.iloadN X159.here hx rfl (hb hby at_275) rfl  k) ?_
    show own_Fin p e below G (T159.setTop (mkF m 276 #[iv p1, iv p2, iv p3, iv (1 : Int32), rv b99, rv b102, rv b105, rv b108, rv b111, iv c0, iv u0, iv (0 : Int32), iv (1 : Int32), .unset] [(.int (1 : Int32))]))
    refine own_st (fun _ k => XS.iconst X159.here hx rfl (hb hby at_276) k) ?_
    show own_Fin p e below G (T159.setTop (mkF m 277 #[iv p1, iv p2, iv p3, iv (1 : Int32), rv b99, rv b102, rv b105, rv b108, rv b111, iv c0, iv u0, iv (0 : Int32), iv (1 : Int32), .unset] [(.int (2 : Int32)), (.int (1 : Int32))]))
    refine own_st (fun _ k => XS.icmpYes X159.here hx rfl (pc0 := 277) (pc' := 311) rfl (hb hby at_277) rfl (flt (by decide : ¬ ((2 : Int32) < (1 : Int32)))).2.2.2 (by decide) (by decide) k) ?_
    show own_Fin p e below G (T159.setTop (mkF m 311 #[iv p1, iv p2, iv p3, iv (1 : Int32), rv b99, rv b102, rv b105, rv b108, rv b111, iv c0, iv u0, iv (0 : Int32), iv (1 : Int32), .unset] []))
    refine own_st (fun _ k => XS.iload X159.here hx rfl (hb hby at_311) rfl  k) ?_
    show own_Fin p e below G (T159.setTop (mkF m 313 #[iv p1, iv p2, iv p3, iv (1 : Int32), rv b99, rv b102, rv b105, rv b108, rv b111, iv c0, iv u0, iv (0 : Int32), iv (1 : Int32), .unset] [(.int (1 : Int32))]))
    refine own_st (fun _ k => XS.ifYes X159.here hx rfl (pc0 := 313) (pc' := 318) rfl (hb hby at_313) rfl ((if0 _ _).trans (feq (by decide : ¬ ((1 : Int32) = (0 : Int32)))).2) (by decide) (by decide) k) ?_
    show own_Fin p e below G (T159.setTop (mkF m 318 #[iv p1, iv p2, iv p3, iv (1 : Int32), rv b99, rv b102, rv b105, rv b108, rv b111, iv c0, iv u0, iv (0 : Int32), iv (1 : Int32), .unset] []))
    refine own_st (fun _ k => XS.iload X159.here hx rfl (hb hby at_318) rfl  k) ?_
    show own_Fin p e below G (T159.setTop (mkF m 320 #[iv p1, iv p2, iv p3, iv (1 : Int32), rv b99, rv b102, rv b105, rv b108, rv b111, iv c0, iv u0, iv (0 : Int32), iv (1 : Int32), .unset] [(.int c0)]))
    refine own_st (fun _ k => XS.iconst X159.here hx rfl (hb hby at_320) k) ?_
    show own_Fin p e below G (T159.setTop (mkF m 321 #[iv p1, iv p2, iv p3, iv (1 : Int32), rv b99, rv b102, rv b105, rv b108, rv b111, iv c0, iv u0, iv (0 : Int32), iv (1 : Int32), .unset] [(.int (1 : Int32)), (.int c0)]))
    refine own_st (fun _ k => XS.iadd X159.here hx rfl (hb hby at_321) rfl k) ?_
    show own_Fin p e below G (T159.setTop (mkF m 322 #[iv p1, iv p2, iv p3, iv (1 : Int32), rv b99, rv b102, rv b105, rv b108, rv b111, iv c0, iv u0, iv (0 : Int32), iv (1 : Int32), .unset] [(.int (c0 + (1 : Int32)))]))
    refine own_st (fun _ k => XS.iload X159.here hx rfl (hb hby at_322) rfl  k) ?_
    show own_Fin p e below G (T159.setTop (mkF m 324 #[iv p1, iv p2, iv p3, iv (1 : Int32), rv b99, rv b102, rv b105, rv b108, rv b111, iv c0, iv u0, iv (0 : Int32), iv (1 : Int32), .unset] [(.int u0), (.int (c0 + (1 : Int32)))]))
    refine own_st (fun _ k => XS.icmpYes X159.here hx rfl (pc0 := 324) (pc' := 407) rfl (hb hby at_324) rfl (flt d0).2.1 (by decide) (by decide) k) ?_
    show own_Fin p e below G (T159.setTop (mkF m 407 #[iv p1, iv p2, iv p3, iv (1 : Int32), rv b99, rv b102, rv b105, rv b108, rv b111, iv c0, iv u0, iv (0 : Int32), iv (1 : Int32), .unset] []))
    refine own_st (fun _ k => XS.iload X159.here hx rfl (hb hby at_407) rfl  k) ?_
    show own_Fin p e below G (T159.setTop (mkF m 409 #[iv p1, iv p2, iv p3, iv (1 : Int32), rv b99, rv b102, rv b105, rv b108, rv b111, iv c0, iv u0, iv (0 : Int32), iv (1 : Int32), .unset] [(.int (0 : Int32))]))
    refine own_st (fun _ k => XS.ifNo X159.here hx rfl (hb hby at_409) rfl ((if0 _ _).trans (teq (by decide : ((0 : Int32) = (0 : Int32)))).2) k) ?_
    show own_Fin p e below G (T159.setTop (mkF m 412 #[iv p1, iv p2, iv p3, iv (1 : Int32), rv b99, rv b102, rv b105, rv b108, rv b111, iv c0, iv u0, iv (0 : Int32), iv (1 : Int32), .unset] []))
    refine own_st (fun _ k => XS.aload X159.here hx rfl (hb hby at_412) rfl rfl k) ?_
    show own_Fin p e below G (T159.setTop (mkF m 414 #[iv p1, iv p2, iv p3, iv (1 : Int32), rv b99, rv b102, rv b105, rv b108, rv b111, iv c0, iv u0, iv (0 : Int32), iv (1 : Int32), .unset] [(.ref b105)]))
    refine own_st (fun _ k => XS.iconst X159.here hx rfl (hb hby at_414) k) ?_
    show own_Fin p e below G (T159.setTop (mkF m 415 #[iv p1, iv p2, iv p3, iv (1 : Int32), rv b99, rv b102, rv b105, rv b108, rv b111, iv c0, iv u0, iv (0 : Int32), iv (1 : Int32), .unset] [(.int (0 : Int32)), (.ref b105)]))
    refine own_st (fun _ k => own_ldI X159 hx hZ e159 V159 (j := (0 : Int32)) (n := 3) rfl (by decide) (g := (mkF m 415 #[iv p1, iv p2, iv p3, iv (1 : Int32), rv b99, rv b102, rv b105, rv b108, rv b111, iv c0, iv u0, iv (0 : Int32), iv (1 : Int32), .unset] [(.int (0 : Int32)), (.ref b105)])) rfl rfl (hb hby at_415) k) ?_
    show own_Fin p e below G (T159.setTop (mkF m 416 #[iv p1, iv p2, iv p3, iv (1 : Int32), rv b99, rv b102, rv b105, rv b108, rv b111, iv c0, iv u0, iv (0 : Int32), iv (1 : Int32), .unset] [(.int (0 : Int32))]))
    refine own_st (fun _ k => XS.ifNo X159.here hx rfl (hb hby at_416) rfl ((if0 _ _).trans (teq (by decide : ((0 : Int32) = (0 : Int32)))).2) k) ?_
    show own_Fin p e below G (T159.setTop (mkF m 419 #[iv p1, iv p2, iv p3, iv (1 : Int32), rv b99, rv b102, rv b105, rv b108, rv b111, iv c0, iv u0, iv (0 : Int32), iv (1 : Int32), .unset] []))
    refine own_st (fun _ k => XS.aload X159.here hx rfl (hb hby at_419) rfl rfl k) ?_
    show own_Fin p e below G (T159.setTop (mkF m 421 #[iv p1, iv p2, iv p3, iv (1 : Int32), rv b99, rv b102, rv b105, rv b108, rv b111, iv c0, iv u0, iv (0 : Int32), iv (1 : Int32), .unset] [(.ref b105)]))
    refine own_st (fun _ k => XS.iconst X159.here hx rfl (hb hby at_421) k) ?_
    show own_Fin p e below G (T159.setTop (mkF m 422 #[iv p1, iv p2, iv p3, iv (1 : Int32), rv b99, rv b102, rv b105, rv b108, rv b111, iv c0, iv u0, iv (0 : Int32), iv (1 : Int32), .unset] [(.int (1 : Int32)), (.ref b105)]))
    refine own_st (fun _ k => own_ldI X159 hx hZ e159 V159 (j := (1 : Int32)) (n := 3) rfl (by decide) (g := (mkF m 422 #[iv p1, iv p2, iv p3, iv (1 : Int32), rv b99, rv b102, rv b105, rv b108, rv b111, iv c0, iv u0, iv (0 : Int32), iv (1 : Int32), .unset] [(.int (1 : Int32)), (.ref b105)])) rfl rfl (hb hby at_422) k) ?_
    show own_Fin p e below G (T159.setTop (mkF m 423 #[iv p1, iv p2, iv p3, iv (1 : Int32), rv b99, rv b102, rv b105, rv b108, rv b111, iv c0, iv u0, iv (0 : Int32), iv (1 : Int32), .unset] [(.int (0 : Int32))]))
    refine own_st (fun _ k => XS.ifNo X159.here hx rfl (hb hby at_423) rfl ((if0 _ _).trans (teq (by decide : ((0 : Int32) = (0 : Int32)))).2) k) ?_
    show own_Fin p e below G (T159.setTop (mkF m 426 #[iv p1, iv p2, iv p3, iv (1 : Int32), rv b99, rv b102, rv b105, rv b108, rv b111, iv c0, iv u0, iv (0 : Int32), iv (1 : Int32), .unset] []))
    refine own_st (fun _ k => XS.aload X159.here hx rfl (hb hby at_426) rfl rfl k) ?_
    show own_Fin p e below G (T159.setTop (mkF m 428 #[iv p1, iv p2, iv p3, iv (1 : Int32), rv b99, rv b102, rv b105, rv b108, rv b111, iv c0, iv u0, iv (0 : Int32), iv (1 : Int32), .unset] [(.ref b105)]))
    refine own_st (fun _ k => XS.iconst X159.here hx rfl (hb hby at_428) k) ?_
    show own_Fin p e below G (T159.setTop (mkF m 429 #[iv p1, iv p2, iv p3, iv (1 : Int32), rv b99, rv b102, rv b105, rv b108, rv b111, iv c0, iv u0, iv (0 : Int32), iv (1 : Int32), .unset] [(.int (2 : Int32)), (.ref b105)]))
    refine own_st (fun _ k => own_ldI X159 hx hZ e159 V159 (j := (2 : Int32)) (n := 3) rfl (by decide) (g := (mkF m 429 #[iv p1, iv p2, iv p3, iv (1 : Int32), rv b99, rv b102, rv b105, rv b108, rv b111, iv c0, iv u0, iv (0 : Int32), iv (1 : Int32), .unset] [(.int (2 : Int32)), (.ref b105)])) rfl rfl (hb hby at_429) k) ?_
    clear e159 V159
    show own_Fin p e below G (T159.setTop (mkF m 430 #[iv p1, iv p2, iv p3, iv (1 : Int32), rv b99, rv b102, rv b105, rv b108, rv b111, iv c0, iv u0, iv (0 : Int32), iv (1 : Int32), .unset] [(.int (0 : Int32))]))
    refine own_st (fun _ k => XS.ifNo X159.here hx rfl (hb hby at_430) rfl ((if0 _ _).trans (teq (by decide : ((0 : Int32) = (0 : Int32)))).2) k) ?_
    show own_Fin p e below G (T159.setTop (mkF m 433 #[iv p1, iv p2, iv p3, iv (1 : Int32), rv b99, rv b102, rv b105, rv b108, rv b111, iv c0, iv u0, iv (0 : Int32), iv (1 : Int32), .unset] []))
    refine own_st (fun _ k => XS.iconst X159.here hx rfl (hb hby at_433) k) ?_
    show own_Fin p e below G (T159.setTop (mkF m 434 #[iv p1, iv p2, iv p3, iv (1 : Int32), rv b99, rv b102, rv b105, rv b108, rv b111, iv c0, iv u0, iv (0 : Int32), iv (1 : Int32), .unset] [(.int (1 : Int32))]))
    refine own_st (fun _ k => XS.goto X159.here hx rfl (pc0 := 434) (pc' := 438) rfl (hb hby at_434) (by decide) (by decide) k) ?_
    show own_Fin p e below G (T159.setTop (mkF m 438 #[iv p1, iv p2, iv p3, iv (1 : Int32), rv b99, rv b102, rv b105, rv b108, rv b111, iv c0, iv u0, iv (0 : Int32), iv (1 : Int32), .unset] [(.int (1 : Int32))]))
    refine own_out X159 Bd.notSynchronized (v := (some (.int (1 : Int32)))) (fun h => by rw [Bd.returns] at h; cases h) hG (fun fs hr => retN X159 hx (t := .boolean) Bd.returns (by simp) (hb hby at_438) hr) (by decide) (by decide) ?_
    exact ⟨rfl, N162⟩

set_option maxRecDepth 65536 in
set_option maxHeartbeats 40000000 in
theorem rm0_2 (l : Launch) (Z : State) (a0 : Array Value) (hw : ∀ d ∈ tables_1, d.before a0 Z = true) (ws : List Jvm.Cond) (p1 : Int32) (p2 : Int32) (p3 : Int32) (h0 : Heap) (n0 : Nat) (Z0 : n0 ≤ h0.size) (hL : (p1 &&& (3 : Int32)) = (2 : Int32)) :
    MetFree l x (head1 (Jvm.Cond.code x code maxLocals ret :: ws) room_1) (fun a U => a = #[(.int p1), (.int p2), (.int p3)] ∧ Z.Warmed39 U.vm ∧ U.heap = h0) (fun _ _ _ _ _ => True) (fun _ U o U' => ∃ v L, o = .returned v ∧ Qrm0_0 Z p1 p2 p3 h0 n0 v U'.heap L ∧ FrameEnd U o U' L room_1.cells room_1.slots) := by
  refine MetFree.of_bodySF (plainFor_of_name pn_com_example_paired_paths_pairedpaths_gsos_ChoicesNextPinLaw) hisR ?_
  intro p e s m args below meth c s₁ Bd hml0 hP hK
  obtain ⟨rfl, hZ, hh⟩ := hP
  have hx := Bd.exec
  have hby := Bd.bytes
  have hml : c.maxLocals = 14 := hml0
  have hown : s.vm.findClass "com/example/paired_paths/pairedpaths/gsos/ChoicesNextPinLaw" = some m.cls := findClass_of_methodNamed Bd.named
  have hnm := (name_of_methodNamed Bd.named Bd.method).1
  have X0 : Stand p l e room_1 s m #[(.int p1), (.int p2), (.int p3)] below meth c s₁ [] 0 0 := Stand.of_body Bd
  have e0 : s₁.heap = h0 := by rw [← hh, Bd.state]; rfl
  have N0 := Fr.nil n0
  have K0 : Keep h0 h0 [] := Keep.refl _ _
  refine own_start (Qk := Qrm0_0 Z p1 p2 p3 h0 n0) (fun G hG => ?_)
  refine own_st (fun _ k => castTop (ef_0_III m p1 p2 p3) k) ?_
  show own_Fin p e below G (s₁.setTop (mkF m 0 #[iv p1, iv p2, iv p3, .unset, .unset, .unset, .unset, .unset, .unset, .unset, .unset, .unset, .unset, .unset] []))
  refine own_st (fun _ k => XS.iloadN X0.here hx rfl (hb hby at_0) rfl  k) ?_
  show own_Fin p e below G (s₁.setTop (mkF m 1 #[iv p1, iv p2, iv p3, .unset, .unset, .unset, .unset, .unset, .unset, .unset, .unset, .unset, .unset, .unset] [(.int p1)]))
  refine own_st (fun _ k => XS.iconst X0.here hx rfl (hb hby at_1) k) ?_
  show own_Fin p e below G (s₁.setTop (mkF m 2 #[iv p1, iv p2, iv p3, .unset, .unset, .unset, .unset, .unset, .unset, .unset, .unset, .unset, .unset, .unset] [(.int (3 : Int32)), (.int p1)]))
  refine own_st (fun _ k => XS.iand X0.here hx rfl (hb hby at_2) rfl k) ?_
  show own_Fin p e below G (s₁.setTop (mkF m 3 #[iv p1, iv p2, iv p3, .unset, .unset, .unset, .unset, .unset, .unset, .unset, .unset, .unset, .unset, .unset] [(.int (p1 &&& (3 : Int32)))]))
  rw [hL]
  show own_Fin p e below G (s₁.setTop (mkF m 3 #[iv p1, iv p2, iv p3, .unset, .unset, .unset, .unset, .unset, .unset, .unset, .unset, .unset, .unset, .unset] [(.int (2 : Int32))]))
  refine own_st (fun _ k => XS.istoreN X0.here hx rfl (hb hby at_3) rfl (l' := #[iv p1, iv p2, iv p3, iv (2 : Int32), .unset, .unset, .unset, .unset, .unset, .unset, .unset, .unset, .unset, .unset]) rfl k) ?_
  show own_Fin p e below G (s₁.setTop (mkF m 4 #[iv p1, iv p2, iv p3, iv (2 : Int32), .unset, .unset, .unset, .unset, .unset, .unset, .unset, .unset, .unset, .unset] []))
  refine own_st (fun _ k => XS.iconst X0.here hx rfl (hb hby at_4) k) ?_
  show own_Fin p e below G (s₁.setTop (mkF m 5 #[iv p1, iv p2, iv p3, iv (2 : Int32), .unset, .unset, .unset, .unset, .unset, .unset, .unset, .unset, .unset, .unset] [(.int (3 : Int32))]))
  obtain ⟨T163, h163, k163, X163, e163, E163, A163, st163⟩ := newP X0 hx hZ (own_w hw 0 rfl) e0 (g := (mkF m 5 #[iv p1, iv p2, iv p3, iv (2 : Int32), .unset, .unset, .unset, .unset, .unset, .unset, .unset, .unset, .unset, .unset] [(.int (3 : Int32))])) rfl (hb hby at_5) rfl (by decide) (cap := 3) (by decide) (by decide) (by decide) (by decide)
  clear X0 e0
  obtain ⟨b163, g163⟩ : ∃ z, z = h0.size := ⟨_, rfl⟩
  rw [← g163] at A163 st163
  have sz_b163 : h0.size ≤ b163 := Nat.le_trans K0.1 (Nat.le_of_eq g163.symm)
  have g_b163 : n0 ≤ b163 := Nat.le_trans Z0 sz_b163
  have K165 : Keep h0 h163 [] := K0.ext E163
  clear K0 E163
  have V163 : own_AV Z h163 b163 .int (own_is [(0 : Int32), (0 : Int32), (0 : Int32)]) := own_AV_newI A163
  clear A163
  refine own_st st163 ?_
  clear st163
  show own_Fin p e below G (T163.setTop (mkF m 7 #[iv p1, iv p2, iv p3, iv (2 : Int32), .unset, .unset, .unset, .unset, .unset, .unset, .unset, .unset, .unset, .unset] [(.ref b163)]))
  refine own_st (fun _ k => XS.astore X163.here hx rfl (hb hby at_7) rfl rfl (l' := #[iv p1, iv p2, iv p3, iv (2 : Int32), rv b163, .unset, .unset, .unset, .unset, .unset, .unset, .unset, .unset, .unset]) rfl k) ?_
  show own_Fin p e below G (T163.setTop (mkF m 9 #[iv p1, iv p2, iv p3, iv (2 : Int32), rv b163, .unset, .unset, .unset, .unset, .unset, .unset, .unset, .unset, .unset] []))
  refine own_st (fun _ k => XS.iconst X163.here hx rfl (hb hby at_9) k) ?_
  show own_Fin p e below G (T163.setTop (mkF m 10 #[iv p1, iv p2, iv p3, iv (2 : Int32), rv b163, .unset, .unset, .unset, .unset, .unset, .unset, .unset, .unset, .unset] [(.int (3 : Int32))]))
  obtain ⟨T166, h166, k166, X166, e166, E166, A166, st166⟩ := newP X163 hx hZ (own_w hw 0 rfl) e163 (g := (mkF m 10 #[iv p1, iv p2, iv p3, iv (2 : Int32), rv b163, .unset, .unset, .unset, .unset, .unset, .unset, .unset, .unset, .unset] [(.int (3 : Int32))])) rfl (hb hby at_10) rfl (by decide) (cap := 3) (by decide) (by decide) (by decide) (by decide)
  clear X163 e163
  obtain ⟨b166, g166⟩ : ∃ z, z = h163.size := ⟨_, rfl⟩
  rw [← g166] at A166 st166
  have ne_b163_b166 : b163 ≠ b166 := Nat.ne_of_lt (Nat.lt_of_lt_of_le V163.lt (Nat.le_of_eq g166.symm))
  have sz_b166 : h0.size ≤ b166 := Nat.le_trans K165.1 (Nat.le_of_eq g166.symm)
  have g_b166 : n0 ≤ b166 := Nat.le_trans Z0 sz_b166
  have f167_0 := V163.ext E166
  clear V163
  have K168 : Keep h0 h166 [] := K165.ext E166
  clear K165 E166
  have V166 : own_AV Z h166 b166 .int (own_is [(0 : Int32), (0 : Int32), (0 : Int32)]) := own_AV_newI A166
  clear A166
  refine own_st st166 ?_
  clear st166
  show own_Fin p e below G (T166.setTop (mkF m 12 #[iv p1, iv p2, iv p3, iv (2 : Int32), rv b163, .unset, .unset, .unset, .unset, .unset, .unset, .unset, .unset, .unset] [(.ref b166)]))
  refine own_st (fun _ k => XS.astore X166.here hx rfl (hb hby at_12) rfl rfl (l' := #[iv p1, iv p2, iv p3, iv (2 : Int32), rv b163, rv b166, .unset, .unset, .unset, .unset, .unset, .unset, .unset, .unset]) rfl k) ?_
  show own_Fin p e below G (T166.setTop (mkF m 14 #[iv p1, iv p2, iv p3, iv (2 : Int32), rv b163, rv b166, .unset, .unset, .unset, .unset, .unset, .unset, .unset, .unset] []))
  refine own_st (fun _ k => XS.iconst X166.here hx rfl (hb hby at_14) k) ?_
  show own_Fin p e below G (T166.setTop (mkF m 15 #[iv p1, iv p2, iv p3, iv (2 : Int32), rv b163, rv b166, .unset, .unset, .unset, .unset, .unset, .unset, .unset, .unset] [(.int (3 : Int32))]))
  obtain ⟨T169, h169, k169, X169, e169, E169, A169, st169⟩ := newP X166 hx hZ (own_w hw 0 rfl) e166 (g := (mkF m 15 #[iv p1, iv p2, iv p3, iv (2 : Int32), rv b163, rv b166, .unset, .unset, .unset, .unset, .unset, .unset, .unset, .unset] [(.int (3 : Int32))])) rfl (hb hby at_15) rfl (by decide) (cap := 3) (by decide) (by decide) (by decide) (by decide)
  clear X166 e166
  obtain ⟨b169, g169⟩ : ∃ z, z = h166.size := ⟨_, rfl⟩
  rw [← g169] at A169 st169
  have ne_b163_b169 : b163 ≠ b169 := Nat.ne_of_lt (Nat.lt_of_lt_of_le f167_0.lt (Nat.le_of_eq g169.symm))
  have ne_b166_b169 : b166 ≠ b169 := Nat.ne_of_lt (Nat.lt_of_lt_of_le V166.lt (Nat.le_of_eq g169.symm))
  have sz_b169 : h0.size ≤ b169 := Nat.le_trans K168.1 (Nat.le_of_eq g169.symm)
  have g_b169 : n0 ≤ b169 := Nat.le_trans Z0 sz_b169
  have f170_0 := f167_0.ext E169
  clear f167_0
  have f170_1 := V166.ext E169
  clear V166
  have K171 : Keep h0 h169 [] := K168.ext E169
  clear K168 E169
  have V169 : own_AV Z h169 b169 .int (own_is [(0 : Int32), (0 : Int32), (0 : Int32)]) := own_AV_newI A169
  clear A169
  refine own_st st169 ?_
  clear st169
  show own_Fin p e below G (T169.setTop (mkF m 17 #[iv p1, iv p2, iv p3, iv (2 : Int32), rv b163, rv b166, .unset, .unset, .unset, .unset, .unset, .unset, .unset, .unset] [(.ref b169)]))
  refine own_st (fun _ k => XS.astore X169.here hx rfl (hb hby at_17) rfl rfl (l' := #[iv p1, iv p2, iv p3, iv (2 : Int32), rv b163, rv b166, rv b169, .unset, .unset, .unset, .unset, .unset, .unset, .unset]) rfl k) ?_
  show own_Fin p e below G (T169.setTop (mkF m 19 #[iv p1, iv p2, iv p3, iv (2 : Int32), rv b163, rv b166, rv b169, .unset, .unset, .unset, .unset, .unset, .unset, .unset] []))
  refine own_st (fun _ k => XS.iloadN X169.here hx rfl (hb hby at_19) rfl  k) ?_
  show own_Fin p e below G (T169.setTop (mkF m 20 #[iv p1, iv p2, iv p3, iv (2 : Int32), rv b163, rv b166, rv b169, .unset, .unset, .unset, .unset, .unset, .unset, .unset] [(.int (2 : Int32))]))
  obtain ⟨T172, h172, k172, X172, e172, E172, A172, st172⟩ := newP X169 hx hZ (own_w hw 0 rfl) e169 (g := (mkF m 20 #[iv p1, iv p2, iv p3, iv (2 : Int32), rv b163, rv b166, rv b169, .unset, .unset, .unset, .unset, .unset, .unset, .unset] [(.int (2 : Int32))])) rfl (hb hby at_20) rfl (by decide) (cap := 2) (by decide) (by decide) (by decide) (by decide)
  clear X169 e169
  obtain ⟨b172, g172⟩ : ∃ z, z = h169.size := ⟨_, rfl⟩
  rw [← g172] at A172 st172
  have ne_b163_b172 : b163 ≠ b172 := Nat.ne_of_lt (Nat.lt_of_lt_of_le f170_0.lt (Nat.le_of_eq g172.symm))
  have ne_b166_b172 : b166 ≠ b172 := Nat.ne_of_lt (Nat.lt_of_lt_of_le f170_1.lt (Nat.le_of_eq g172.symm))
  have ne_b169_b172 : b169 ≠ b172 := Nat.ne_of_lt (Nat.lt_of_lt_of_le V169.lt (Nat.le_of_eq g172.symm))
  have sz_b172 : h0.size ≤ b172 := Nat.le_trans K171.1 (Nat.le_of_eq g172.symm)
  have g_b172 : n0 ≤ b172 := Nat.le_trans Z0 sz_b172
  have f173_0 := f170_0.ext E172
  clear f170_0
  have f173_1 := f170_1.ext E172
  clear f170_1
  have f173_2 := V169.ext E172
  clear V169
  have K174 : Keep h0 h172 [] := K171.ext E172
  clear K171 E172
  have V172 : own_AV Z h172 b172 .int (own_is [(0 : Int32), (0 : Int32)]) := own_AV_newI A172
  clear A172
  refine own_st st172 ?_
  clear st172
  show own_Fin p e below G (T172.setTop (mkF m 22 #[iv p1, iv p2, iv p3, iv (2 : Int32), rv b163, rv b166, rv b169, .unset, .unset, .unset, .unset, .unset, .unset, .unset] [(.ref b172)]))
  refine own_st (fun _ k => XS.astore X172.here hx rfl (hb hby at_22) rfl rfl (l' := #[iv p1, iv p2, iv p3, iv (2 : Int32), rv b163, rv b166, rv b169, rv b172, .unset, .unset, .unset, .unset, .unset, .unset]) rfl k) ?_
  show own_Fin p e below G (T172.setTop (mkF m 24 #[iv p1, iv p2, iv p3, iv (2 : Int32), rv b163, rv b166, rv b169, rv b172, .unset, .unset, .unset, .unset, .unset, .unset] []))
  refine own_st (fun _ k => XS.iloadN X172.here hx rfl (hb hby at_24) rfl  k) ?_
  show own_Fin p e below G (T172.setTop (mkF m 25 #[iv p1, iv p2, iv p3, iv (2 : Int32), rv b163, rv b166, rv b169, rv b172, .unset, .unset, .unset, .unset, .unset, .unset] [(.int (2 : Int32))]))
  obtain ⟨T175, h175, k175, X175, e175, E175, A175, st175⟩ := newP X172 hx hZ (own_w hw 0 rfl) e172 (g := (mkF m 25 #[iv p1, iv p2, iv p3, iv (2 : Int32), rv b163, rv b166, rv b169, rv b172, .unset, .unset, .unset, .unset, .unset, .unset] [(.int (2 : Int32))])) rfl (hb hby at_25) rfl (by decide) (cap := 2) (by decide) (by decide) (by decide) (by decide)
  clear X172 e172
  obtain ⟨b175, g175⟩ : ∃ z, z = h172.size := ⟨_, rfl⟩
  rw [← g175] at A175 st175
  have ne_b163_b175 : b163 ≠ b175 := Nat.ne_of_lt (Nat.lt_of_lt_of_le f173_0.lt (Nat.le_of_eq g175.symm))
  have ne_b166_b175 : b166 ≠ b175 := Nat.ne_of_lt (Nat.lt_of_lt_of_le f173_1.lt (Nat.le_of_eq g175.symm))
  have ne_b169_b175 : b169 ≠ b175 := Nat.ne_of_lt (Nat.lt_of_lt_of_le f173_2.lt (Nat.le_of_eq g175.symm))
  have ne_b172_b175 : b172 ≠ b175 := Nat.ne_of_lt (Nat.lt_of_lt_of_le V172.lt (Nat.le_of_eq g175.symm))
  have sz_b175 : h0.size ≤ b175 := Nat.le_trans K174.1 (Nat.le_of_eq g175.symm)
  have g_b175 : n0 ≤ b175 := Nat.le_trans Z0 sz_b175
  have f176_0 := f173_0.ext E175
  clear f173_0
  have f176_1 := f173_1.ext E175
  clear f173_1
  have f176_2 := f173_2.ext E175
  clear f173_2
  have f176_3 := V172.ext E175
  clear V172
  have K177 : Keep h0 h175 [] := K174.ext E175
  clear K174 E175
  have V175 : own_AV Z h175 b175 .int (own_is [(0 : Int32), (0 : Int32)]) := own_AV_newI A175
  clear A175
  refine own_st st175 ?_
  clear st175
  show own_Fin p e below G (T175.setTop (mkF m 27 #[iv p1, iv p2, iv p3, iv (2 : Int32), rv b163, rv b166, rv b169, rv b172, .unset, .unset, .unset, .unset, .unset, .unset] [(.ref b175)]))
  refine own_st (fun _ k => XS.astore X175.here hx rfl (hb hby at_27) rfl rfl (l' := #[iv p1, iv p2, iv p3, iv (2 : Int32), rv b163, rv b166, rv b169, rv b172, rv b175, .unset, .unset, .unset, .unset, .unset]) rfl k) ?_
  show own_Fin p e below G (T175.setTop (mkF m 29 #[iv p1, iv p2, iv p3, iv (2 : Int32), rv b163, rv b166, rv b169, rv b172, rv b175, .unset, .unset, .unset, .unset, .unset] []))
  refine own_st (fun _ k => XS.aload X175.here hx rfl (hb hby at_29) rfl rfl k) ?_
  show own_Fin p e below G (T175.setTop (mkF m 31 #[iv p1, iv p2, iv p3, iv (2 : Int32), rv b163, rv b166, rv b169, rv b172, rv b175, .unset, .unset, .unset, .unset, .unset] [(.ref b163)]))
  refine own_st (fun _ k => XS.iconst X175.here hx rfl (hb hby at_31) k) ?_
  show own_Fin p e below G (T175.setTop (mkF m 32 #[iv p1, iv p2, iv p3, iv (2 : Int32), rv b163, rv b166, rv b169, rv b172, rv b175, .unset, .unset, .unset, .unset, .unset] [(.int (0 : Int32)), (.ref b163)]))
  refine own_st (fun _ k => XS.iloadN X175.here hx rfl (hb hby at_32) rfl  k) ?_
  show own_Fin p e below G (T175.setTop (mkF m 33 #[iv p1, iv p2, iv p3, iv (2 : Int32), rv b163, rv b166, rv b169, rv b172, rv b175, .unset, .unset, .unset, .unset, .unset] [(.int p2), (.int (0 : Int32)), (.ref b163)]))
  refine own_st (fun _ k => XS.bipush X175.here hx rfl (hb hby at_33) k) ?_
  show own_Fin p e below G (T175.setTop (mkF m 35 #[iv p1, iv p2, iv p3, iv (2 : Int32), rv b163, rv b166, rv b169, rv b172, rv b175, .unset, .unset, .unset, .unset, .unset] [(.int (7 : Int32)), (.int p2), (.int (0 : Int32)), (.ref b163)]))
  refine own_st (fun _ k => XS.iand X175.here hx rfl (hb hby at_35) rfl k) ?_
  show own_Fin p e below G (T175.setTop (mkF m 36 #[iv p1, iv p2, iv p3, iv (2 : Int32), rv b163, rv b166, rv b169, rv b172, rv b175, .unset, .unset, .unset, .unset, .unset] [(.int (p2 &&& (7 : Int32))), (.int (0 : Int32)), (.ref b163)]))
  refine own_st (fun _ k => XS.iconst X175.here hx rfl (hb hby at_36) k) ?_
  show own_Fin p e below G (T175.setTop (mkF m 37 #[iv p1, iv p2, iv p3, iv (2 : Int32), rv b163, rv b166, rv b169, rv b172, rv b175, .unset, .unset, .unset, .unset, .unset] [(.int (1 : Int32)), (.int (p2 &&& (7 : Int32))), (.int (0 : Int32)), (.ref b163)]))
  refine own_st (fun _ k => XS.iadd X175.here hx rfl (hb hby at_37) rfl k) ?_
  show own_Fin p e below G (T175.setTop (mkF m 38 #[iv p1, iv p2, iv p3, iv (2 : Int32), rv b163, rv b166, rv b169, rv b172, rv b175, .unset, .unset, .unset, .unset, .unset] [(.int ((p2 &&& (7 : Int32)) + (1 : Int32))), (.int (0 : Int32)), (.ref b163)]))
  have r_u0 := own_n p2
  generalize e_u0 : ((p2 &&& (7 : Int32)) + (1 : Int32)) = u0 at r_u0 ⊢
  show own_Fin p e below G (T175.setTop (mkF m 38 #[iv p1, iv p2, iv p3, iv (2 : Int32), rv b163, rv b166, rv b169, rv b172, rv b175, .unset, .unset, .unset, .unset, .unset] [(.int u0), (.int (0 : Int32)), (.ref b163)]))
  obtain ⟨T178, h178, X178, e178, W178, V178, st178⟩ := own_stI X175 hx hZ e175 f176_0 (j := (0 : Int32)) (n := 3) rfl (by decide) (g := (mkF m 38 #[iv p1, iv p2, iv p3, iv (2 : Int32), rv b163, rv b166, rv b169, rv b172, rv b175, .unset, .unset, .unset, .unset, .unset] [(.int u0), (.int (0 : Int32)), (.ref b163)])) rfl rfl (hb hby at_38)
  clear X175 e175 f176_0
  have f179_1 := f176_1.other W178 (Ne.symm ne_b163_b166)
  clear f176_1
  have f179_2 := f176_2.other W178 (Ne.symm ne_b163_b169)
  clear f176_2
  have f179_3 := f176_3.other W178 (Ne.symm ne_b163_b172)
  clear f176_3
  have f179_4 := V175.other W178 (Ne.symm ne_b163_b175)
  clear V175
  have K180 : Keep h0 h178 [] := K177.wr W178 (Or.inr sz_b163)
  clear K177 W178
  have N181 := Fr.snoc X178 N0 g_b163
  clear N0
  replace V178 : own_AV Z h178 b163 .int (own_is [u0, (0 : Int32), (0 : Int32)]) := V178
  refine own_st st178 ?_
  clear st178
  show own_Fin p e below G (T178.setTop (mkF m 39 #[iv p1, iv p2, iv p3, iv (2 : Int32), rv b163, rv b166, rv b169, rv b172, rv b175, .unset, .unset, .unset, .unset, .unset] []))
  refine own_st (fun _ k => XS.aload X178.here hx rfl (hb hby at_39) rfl rfl k) ?_
  show own_Fin p e below G (T178.setTop (mkF m 41 #[iv p1, iv p2, iv p3, iv (2 : Int32), rv b163, rv b166, rv b169, rv b172, rv b175, .unset, .unset, .unset, .unset, .unset] [(.ref b163)]))
  refine own_st (fun _ k => XS.iconst X178.here hx rfl (hb hby at_41) k) ?_
  show own_Fin p e below G (T178.setTop (mkF m 42 #[iv p1, iv p2, iv p3, iv (2 : Int32), rv b163, rv b166, rv b169, rv b172, rv b175, .unset, .unset, .unset, .unset, .unset] [(.int (1 : Int32)), (.ref b163)]))
  refine own_st (fun _ k => XS.iloadN X178.here hx rfl (hb hby at_42) rfl  k) ?_
  show own_Fin p e below G (T178.setTop (mkF m 43 #[iv p1, iv p2, iv p3, iv (2 : Int32), rv b163, rv b166, rv b169, rv b172, rv b175, .unset, .unset, .unset, .unset, .unset] [(.int p2), (.int (1 : Int32)), (.ref b163)]))
  refine own_st (fun _ k => XS.iconst X178.here hx rfl (hb hby at_43) k) ?_
  show own_Fin p e below G (T178.setTop (mkF m 44 #[iv p1, iv p2, iv p3, iv (2 : Int32), rv b163, rv b166, rv b169, rv b172, rv b175, .unset, .unset, .unset, .unset, .unset] [(.int (3 : Int32)), (.int p2), (.int (1 : Int32)), (.ref b163)]))
  refine own_st (fun _ k => XS.iushr X178.here hx rfl (hb hby at_44) rfl k) ?_
  show own_Fin p e below G (T178.setTop (mkF m 45 #[iv p1, iv p2, iv p3, iv (2 : Int32), rv b163, rv b166, rv b169, rv b172, rv b175, .unset, .unset, .unset, .unset, .unset] [(.int ((p2.toUInt32 >>> ((3 : Int32) &&& 31).toUInt32).toInt32)), (.int (1 : Int32)), (.ref b163)]))
  refine own_st (fun _ k => XS.bipush X178.here hx rfl (hb hby at_45) k) ?_
  show own_Fin p e below G (T178.setTop (mkF m 47 #[iv p1, iv p2, iv p3, iv (2 : Int32), rv b163, rv b166, rv b169, rv b172, rv b175, .unset, .unset, .unset, .unset, .unset] [(.int (7 : Int32)), (.int ((p2.toUInt32 >>> ((3 : Int32) &&& 31).toUInt32).toInt32)), (.int (1 : Int32)), (.ref b163)]))
  refine own_st (fun _ k => XS.iand X178.here hx rfl (hb hby at_47) rfl k) ?_
  show own_Fin p e below G (T178.setTop (mkF m 48 #[iv p1, iv p2, iv p3, iv (2 : Int32), rv b163, rv b166, rv b169, rv b172, rv b175, .unset, .unset, .unset, .unset, .unset] [(.int (((p2.toUInt32 >>> ((3 : Int32) &&& 31).toUInt32).toInt32) &&& (7 : Int32))), (.int (1 : Int32)), (.ref b163)]))
  refine own_st (fun _ k => XS.iconst X178.here hx rfl (hb hby at_48) k) ?_
  show own_Fin p e below G (T178.setTop (mkF m 49 #[iv p1, iv p2, iv p3, iv (2 : Int32), rv b163, rv b166, rv b169, rv b172, rv b175, .unset, .unset, .unset, .unset, .unset] [(.int (1 : Int32)), (.int (((p2.toUInt32 >>> ((3 : Int32) &&& 31).toUInt32).toInt32) &&& (7 : Int32))), (.int (1 : Int32)), (.ref b163)]))
  refine own_st (fun _ k => XS.iadd X178.here hx rfl (hb hby at_49) rfl k) ?_
  show own_Fin p e below G (T178.setTop (mkF m 50 #[iv p1, iv p2, iv p3, iv (2 : Int32), rv b163, rv b166, rv b169, rv b172, rv b175, .unset, .unset, .unset, .unset, .unset] [(.int ((((p2.toUInt32 >>> ((3 : Int32) &&& 31).toUInt32).toInt32) &&& (7 : Int32)) + (1 : Int32))), (.int (1 : Int32)), (.ref b163)]))
  have r_u1 := own_n ((p2.toUInt32 >>> ((3 : Int32) &&& 31).toUInt32).toInt32)
  generalize e_u1 : ((((p2.toUInt32 >>> ((3 : Int32) &&& 31).toUInt32).toInt32) &&& (7 : Int32)) + (1 : Int32)) = u1 at r_u1 ⊢
  show own_Fin p e below G (T178.setTop (mkF m 50 #[iv p1, iv p2, iv p3, iv (2 : Int32), rv b163, rv b166, rv b169, rv b172, rv b175, .unset, .unset, .unset, .unset, .unset] [(.int u1), (.int (1 : Int32)), (.ref b163)]))
  obtain ⟨T182, h182, X182, e182, W182, V182, st182⟩ := own_stI X178 hx hZ e178 V178 (j := (1 : Int32)) (n := 3) rfl (by decide) (g := (mkF m 50 #[iv p1, iv p2, iv p3, iv (2 : Int32), rv b163, rv b166, rv b169, rv b172, rv b175, .unset, .unset, .unset, .unset, .unset] [(.int u1), (.int (1 : Int32)), (.ref b163)])) rfl rfl (hb hby at_50)
  clear X178 e178 V178
  have f183_1 := f179_1.other W182 (Ne.symm ne_b163_b166)
  clear f179_1
  have f183_2 := f179_2.other W182 (Ne.symm ne_b163_b169)
  clear f179_2
  have f183_3 := f179_3.other W182 (Ne.symm ne_b163_b172)
  clear f179_3
  have f183_4 := f179_4.other W182 (Ne.symm ne_b163_b175)
  clear f179_4
  have K184 : Keep h0 h182 [] := K180.wr W182 (Or.inr sz_b163)
  clear K180 W182
  have N185 := Fr.snoc X182 N181 g_b163
  clear N181
  replace V182 : own_AV Z h182 b163 .int (own_is [u0, u1, (0 : Int32)]) := V182
  refine own_st st182 ?_
  clear st182
  show own_Fin p e below G (T182.setTop (mkF m 51 #[iv p1, iv p2, iv p3, iv (2 : Int32), rv b163, rv b166, rv b169, rv b172, rv b175, .unset, .unset, .unset, .unset, .unset] []))
  refine own_st (fun _ k => XS.aload X182.here hx rfl (hb hby at_51) rfl rfl k) ?_
  show own_Fin p e below G (T182.setTop (mkF m 53 #[iv p1, iv p2, iv p3, iv (2 : Int32), rv b163, rv b166, rv b169, rv b172, rv b175, .unset, .unset, .unset, .unset, .unset] [(.ref b163)]))
  refine own_st (fun _ k => XS.iconst X182.here hx rfl (hb hby at_53) k) ?_
  show own_Fin p e below G (T182.setTop (mkF m 54 #[iv p1, iv p2, iv p3, iv (2 : Int32), rv b163, rv b166, rv b169, rv b172, rv b175, .unset, .unset, .unset, .unset, .unset] [(.int (2 : Int32)), (.ref b163)]))
  refine own_st (fun _ k => XS.iloadN X182.here hx rfl (hb hby at_54) rfl  k) ?_
  show own_Fin p e below G (T182.setTop (mkF m 55 #[iv p1, iv p2, iv p3, iv (2 : Int32), rv b163, rv b166, rv b169, rv b172, rv b175, .unset, .unset, .unset, .unset, .unset] [(.int p2), (.int (2 : Int32)), (.ref b163)]))
  refine own_st (fun _ k => XS.bipush X182.here hx rfl (hb hby at_55) k) ?_
  show own_Fin p e below G (T182.setTop (mkF m 57 #[iv p1, iv p2, iv p3, iv (2 : Int32), rv b163, rv b166, rv b169, rv b172, rv b175, .unset, .unset, .unset, .unset, .unset] [(.int (6 : Int32)), (.int p2), (.int (2 : Int32)), (.ref b163)]))
  refine own_st (fun _ k => XS.iushr X182.here hx rfl (hb hby at_57) rfl k) ?_
  show own_Fin p e below G (T182.setTop (mkF m 58 #[iv p1, iv p2, iv p3, iv (2 : Int32), rv b163, rv b166, rv b169, rv b172, rv b175, .unset, .unset, .unset, .unset, .unset] [(.int ((p2.toUInt32 >>> ((6 : Int32) &&& 31).toUInt32).toInt32)), (.int (2 : Int32)), (.ref b163)]))
  refine own_st (fun _ k => XS.bipush X182.here hx rfl (hb hby at_58) k) ?_
  show own_Fin p e below G (T182.setTop (mkF m 60 #[iv p1, iv p2, iv p3, iv (2 : Int32), rv b163, rv b166, rv b169, rv b172, rv b175, .unset, .unset, .unset, .unset, .unset] [(.int (7 : Int32)), (.int ((p2.toUInt32 >>> ((6 : Int32) &&& 31).toUInt32).toInt32)), (.int (2 : Int32)), (.ref b163)]))
  refine own_st (fun _ k => XS.iand X182.here hx rfl (hb hby at_60) rfl k) ?_
  show own_Fin p e below G (T182.setTop (mkF m 61 #[iv p1, iv p2, iv p3, iv (2 : Int32), rv b163, rv b166, rv b169, rv b172, rv b175, .unset, .unset, .unset, .unset, .unset] [(.int (((p2.toUInt32 >>> ((6 : Int32) &&& 31).toUInt32).toInt32) &&& (7 : Int32))), (.int (2 : Int32)), (.ref b163)]))
  refine own_st (fun _ k => XS.iconst X182.here hx rfl (hb hby at_61) k) ?_
  show own_Fin p e below G (T182.setTop (mkF m 62 #[iv p1, iv p2, iv p3, iv (2 : Int32), rv b163, rv b166, rv b169, rv b172, rv b175, .unset, .unset, .unset, .unset, .unset] [(.int (1 : Int32)), (.int (((p2.toUInt32 >>> ((6 : Int32) &&& 31).toUInt32).toInt32) &&& (7 : Int32))), (.int (2 : Int32)), (.ref b163)]))
  refine own_st (fun _ k => XS.iadd X182.here hx rfl (hb hby at_62) rfl k) ?_
  show own_Fin p e below G (T182.setTop (mkF m 63 #[iv p1, iv p2, iv p3, iv (2 : Int32), rv b163, rv b166, rv b169, rv b172, rv b175, .unset, .unset, .unset, .unset, .unset] [(.int ((((p2.toUInt32 >>> ((6 : Int32) &&& 31).toUInt32).toInt32) &&& (7 : Int32)) + (1 : Int32))), (.int (2 : Int32)), (.ref b163)]))
  have r_u2 := own_n ((p2.toUInt32 >>> ((6 : Int32) &&& 31).toUInt32).toInt32)
  generalize e_u2 : ((((p2.toUInt32 >>> ((6 : Int32) &&& 31).toUInt32).toInt32) &&& (7 : Int32)) + (1 : Int32)) = u2 at r_u2 ⊢
  show own_Fin p e below G (T182.setTop (mkF m 63 #[iv p1, iv p2, iv p3, iv (2 : Int32), rv b163, rv b166, rv b169, rv b172, rv b175, .unset, .unset, .unset, .unset, .unset] [(.int u2), (.int (2 : Int32)), (.ref b163)]))
  obtain ⟨T186, h186, X186, e186, W186, V186, st186⟩ := own_stI X182 hx hZ e182 V182 (j := (2 : Int32)) (n := 3) rfl (by decide) (g := (mkF m 63 #[iv p1, iv p2, iv p3, iv (2 : Int32), rv b163, rv b166, rv b169, rv b172, rv b175, .unset, .unset, .unset, .unset, .unset] [(.int u2), (.int (2 : Int32)), (.ref b163)])) rfl rfl (hb hby at_63)
  clear X182 e182 V182
  have f187_1 := f183_1.other W186 (Ne.symm ne_b163_b166)
  clear f183_1
  have f187_2 := f183_2.other W186 (Ne.symm ne_b163_b169)
  clear f183_2
  have f187_3 := f183_3.other W186 (Ne.symm ne_b163_b172)
  clear f183_3
  have f187_4 := f183_4.other W186 (Ne.symm ne_b163_b175)
  clear f183_4
  have K188 : Keep h0 h186 [] := K184.wr W186 (Or.inr sz_b163)
  clear K184 W186
  have N189 := Fr.snoc X186 N185 g_b163
  clear N185
  replace V186 : own_AV Z h186 b163 .int (own_is [u0, u1, u2]) := V186
  refine own_st st186 ?_
  clear st186
  show own_Fin p e below G (T186.setTop (mkF m 64 #[iv p1, iv p2, iv p3, iv (2 : Int32), rv b163, rv b166, rv b169, rv b172, rv b175, .unset, .unset, .unset, .unset, .unset] []))
  refine own_st (fun _ k => XS.aload X186.here hx rfl (hb hby at_64) rfl rfl k) ?_
  show own_Fin p e below G (T186.setTop (mkF m 66 #[iv p1, iv p2, iv p3, iv (2 : Int32), rv b163, rv b166, rv b169, rv b172, rv b175, .unset, .unset, .unset, .unset, .unset] [(.ref b166)]))
  refine own_st (fun _ k => XS.iconst X186.here hx rfl (hb hby at_66) k) ?_
  show own_Fin p e below G (T186.setTop (mkF m 67 #[iv p1, iv p2, iv p3, iv (2 : Int32), rv b163, rv b166, rv b169, rv b172, rv b175, .unset, .unset, .unset, .unset, .unset] [(.int (0 : Int32)), (.ref b166)]))
  refine own_st (fun _ k => XS.iloadN X186.here hx rfl (hb hby at_67) rfl  k) ?_
  show own_Fin p e below G (T186.setTop (mkF m 68 #[iv p1, iv p2, iv p3, iv (2 : Int32), rv b163, rv b166, rv b169, rv b172, rv b175, .unset, .unset, .unset, .unset, .unset] [(.int p3), (.int (0 : Int32)), (.ref b166)]))
  refine own_st (fun _ k => XS.sipush X186.here hx rfl (hb hby at_68) k) ?_
  show own_Fin p e below G (T186.setTop (mkF m 71 #[iv p1, iv p2, iv p3, iv (2 : Int32), rv b163, rv b166, rv b169, rv b172, rv b175, .unset, .unset, .unset, .unset, .unset] [(.int (255 : Int32)), (.int p3), (.int (0 : Int32)), (.ref b166)]))
  refine own_st (fun _ k => XS.iand X186.here hx rfl (hb hby at_71) rfl k) ?_
  show own_Fin p e below G (T186.setTop (mkF m 72 #[iv p1, iv p2, iv p3, iv (2 : Int32), rv b163, rv b166, rv b169, rv b172, rv b175, .unset, .unset, .unset, .unset, .unset] [(.int (p3 &&& (255 : Int32))), (.int (0 : Int32)), (.ref b166)]))
  refine own_st (fun _ k => XS.aload X186.here hx rfl (hb hby at_72) rfl rfl k) ?_
  show own_Fin p e below G (T186.setTop (mkF m 74 #[iv p1, iv p2, iv p3, iv (2 : Int32), rv b163, rv b166, rv b169, rv b172, rv b175, .unset, .unset, .unset, .unset, .unset] [(.ref b163), (.int (p3 &&& (255 : Int32))), (.int (0 : Int32)), (.ref b166)]))
  refine own_st (fun _ k => XS.iconst X186.here hx rfl (hb hby at_74) k) ?_
  show own_Fin p e below G (T186.setTop (mkF m 75 #[iv p1, iv p2, iv p3, iv (2 : Int32), rv b163, rv b166, rv b169, rv b172, rv b175, .unset, .unset, .unset, .unset, .unset] [(.int (0 : Int32)), (.ref b163), (.int (p3 &&& (255 : Int32))), (.int (0 : Int32)), (.ref b166)]))
  refine own_st (fun _ k => own_ldI X186 hx hZ e186 V186 (j := (0 : Int32)) (n := 3) rfl (by decide) (g := (mkF m 75 #[iv p1, iv p2, iv p3, iv (2 : Int32), rv b163, rv b166, rv b169, rv b172, rv b175, .unset, .unset, .unset, .unset, .unset] [(.int (0 : Int32)), (.ref b163), (.int (p3 &&& (255 : Int32))), (.int (0 : Int32)), (.ref b166)])) rfl rfl (hb hby at_75) k) ?_
  show own_Fin p e below G (T186.setTop (mkF m 76 #[iv p1, iv p2, iv p3, iv (2 : Int32), rv b163, rv b166, rv b169, rv b172, rv b175, .unset, .unset, .unset, .unset, .unset] [(.int u0), (.int (p3 &&& (255 : Int32))), (.int (0 : Int32)), (.ref b166)]))
  refine own_st (fun _ k => iremM (g := (mkF m 76 #[iv p1, iv p2, iv p3, iv (2 : Int32), rv b163, rv b166, rv b169, rv b172, rv b175, .unset, .unset, .unset, .unset, .unset] [(.int u0), (.int (p3 &&& (255 : Int32))), (.int (0 : Int32)), (.ref b166)])) X186 hx rfl (hb hby at_76) rfl (own_nz r_u0) k) ?_
  show own_Fin p e below G (T186.setTop (mkF m 77 #[iv p1, iv p2, iv p3, iv (2 : Int32), rv b163, rv b166, rv b169, rv b172, rv b175, .unset, .unset, .unset, .unset, .unset] [(.int ((p3 &&& (255 : Int32)) % u0)), (.int (0 : Int32)), (.ref b166)]))
  have r_c0 := own_c p3 r_u0
  generalize e_c0 : ((p3 &&& (255 : Int32)) % u0) = c0 at r_c0 ⊢
  show own_Fin p e below G (T186.setTop (mkF m 77 #[iv p1, iv p2, iv p3, iv (2 : Int32), rv b163, rv b166, rv b169, rv b172, rv b175, .unset, .unset, .unset, .unset, .unset] [(.int c0), (.int (0 : Int32)), (.ref b166)]))
  obtain ⟨T190, h190, X190, e190, W190, V190, st190⟩ := own_stI X186 hx hZ e186 f187_1 (j := (0 : Int32)) (n := 3) rfl (by decide) (g := (mkF m 77 #[iv p1, iv p2, iv p3, iv (2 : Int32), rv b163, rv b166, rv b169, rv b172, rv b175, .unset, .unset, .unset, .unset, .unset] [(.int c0), (.int (0 : Int32)), (.ref b166)])) rfl rfl (hb hby at_77)
  clear X186 e186 f187_1
  have f191_0 := V186.other W190 ne_b163_b166
  clear V186
  have f191_2 := f187_2.other W190 (Ne.symm ne_b166_b169)
  clear f187_2
  have f191_3 := f187_3.other W190 (Ne.symm ne_b166_b172)
  clear f187_3
  have f191_4 := f187_4.other W190 (Ne.symm ne_b166_b175)
  clear f187_4
  have K192 : Keep h0 h190 [] := K188.wr W190 (Or.inr sz_b166)
  clear K188 W190
  have N193 := Fr.snoc X190 N189 g_b166
  clear N189
  replace V190 : own_AV Z h190 b166 .int (own_is [c0, (0 : Int32), (0 : Int32)]) := V190
  refine own_st st190 ?_
  clear st190
  show own_Fin p e below G (T190.setTop (mkF m 78 #[iv p1, iv p2, iv p3, iv (2 : Int32), rv b163, rv b166, rv b169, rv b172, rv b175, .unset, .unset, .unset, .unset, .unset] []))
  refine own_st (fun _ k => XS.aload X190.here hx rfl (hb hby at_78) rfl rfl k) ?_
  show own_Fin p e below G (T190.setTop (mkF m 80 #[iv p1, iv p2, iv p3, iv (2 : Int32), rv b163, rv b166, rv b169, rv b172, rv b175, .unset, .unset, .unset, .unset, .unset] [(.ref b166)]))
  refine own_st (fun _ k => XS.iconst X190.here hx rfl (hb hby at_80) k) ?_
  show own_Fin p e below G (T190.setTop (mkF m 81 #[iv p1, iv p2, iv p3, iv (2 : Int32), rv b163, rv b166, rv b169, rv b172, rv b175, .unset, .unset, .unset, .unset, .unset] [(.int (1 : Int32)), (.ref b166)]))
  refine own_st (fun _ k => XS.iloadN X190.here hx rfl (hb hby at_81) rfl  k) ?_
  show own_Fin p e below G (T190.setTop (mkF m 82 #[iv p1, iv p2, iv p3, iv (2 : Int32), rv b163, rv b166, rv b169, rv b172, rv b175, .unset, .unset, .unset, .unset, .unset] [(.int p3), (.int (1 : Int32)), (.ref b166)]))
  refine own_st (fun _ k => XS.bipush X190.here hx rfl (hb hby at_82) k) ?_
  show own_Fin p e below G (T190.setTop (mkF m 84 #[iv p1, iv p2, iv p3, iv (2 : Int32), rv b163, rv b166, rv b169, rv b172, rv b175, .unset, .unset, .unset, .unset, .unset] [(.int (8 : Int32)), (.int p3), (.int (1 : Int32)), (.ref b166)]))
  refine own_st (fun _ k => XS.iushr X190.here hx rfl (hb hby at_84) rfl k) ?_
  show own_Fin p e below G (T190.setTop (mkF m 85 #[iv p1, iv p2, iv p3, iv (2 : Int32), rv b163, rv b166, rv b169, rv b172, rv b175, .unset, .unset, .unset, .unset, .unset] [(.int ((p3.toUInt32 >>> ((8 : Int32) &&& 31).toUInt32).toInt32)), (.int (1 : Int32)), (.ref b166)]))
  refine own_st (fun _ k => XS.sipush X190.here hx rfl (hb hby at_85) k) ?_
  show own_Fin p e below G (T190.setTop (mkF m 88 #[iv p1, iv p2, iv p3, iv (2 : Int32), rv b163, rv b166, rv b169, rv b172, rv b175, .unset, .unset, .unset, .unset, .unset] [(.int (255 : Int32)), (.int ((p3.toUInt32 >>> ((8 : Int32) &&& 31).toUInt32).toInt32)), (.int (1 : Int32)), (.ref b166)]))
  refine own_st (fun _ k => XS.iand X190.here hx rfl (hb hby at_88) rfl k) ?_
  show own_Fin p e below G (T190.setTop (mkF m 89 #[iv p1, iv p2, iv p3, iv (2 : Int32), rv b163, rv b166, rv b169, rv b172, rv b175, .unset, .unset, .unset, .unset, .unset] [(.int (((p3.toUInt32 >>> ((8 : Int32) &&& 31).toUInt32).toInt32) &&& (255 : Int32))), (.int (1 : Int32)), (.ref b166)]))
  refine own_st (fun _ k => XS.aload X190.here hx rfl (hb hby at_89) rfl rfl k) ?_
  show own_Fin p e below G (T190.setTop (mkF m 91 #[iv p1, iv p2, iv p3, iv (2 : Int32), rv b163, rv b166, rv b169, rv b172, rv b175, .unset, .unset, .unset, .unset, .unset] [(.ref b163), (.int (((p3.toUInt32 >>> ((8 : Int32) &&& 31).toUInt32).toInt32) &&& (255 : Int32))), (.int (1 : Int32)), (.ref b166)]))
  refine own_st (fun _ k => XS.iconst X190.here hx rfl (hb hby at_91) k) ?_
  show own_Fin p e below G (T190.setTop (mkF m 92 #[iv p1, iv p2, iv p3, iv (2 : Int32), rv b163, rv b166, rv b169, rv b172, rv b175, .unset, .unset, .unset, .unset, .unset] [(.int (1 : Int32)), (.ref b163), (.int (((p3.toUInt32 >>> ((8 : Int32) &&& 31).toUInt32).toInt32) &&& (255 : Int32))), (.int (1 : Int32)), (.ref b166)]))
  refine own_st (fun _ k => own_ldI X190 hx hZ e190 f191_0 (j := (1 : Int32)) (n := 3) rfl (by decide) (g := (mkF m 92 #[iv p1, iv p2, iv p3, iv (2 : Int32), rv b163, rv b166, rv b169, rv b172, rv b175, .unset, .unset, .unset, .unset, .unset] [(.int (1 : Int32)), (.ref b163), (.int (((p3.toUInt32 >>> ((8 : Int32) &&& 31).toUInt32).toInt32) &&& (255 : Int32))), (.int (1 : Int32)), (.ref b166)])) rfl rfl (hb hby at_92) k) ?_
  show own_Fin p e below G (T190.setTop (mkF m 93 #[iv p1, iv p2, iv p3, iv (2 : Int32), rv b163, rv b166, rv b169, rv b172, rv b175, .unset, .unset, .unset, .unset, .unset] [(.int u1), (.int (((p3.toUInt32 >>> ((8 : Int32) &&& 31).toUInt32).toInt32) &&& (255 : Int32))), (.int (1 : Int32)), (.ref b166)]))
  refine own_st (fun _ k => iremM (g := (mkF m 93 #[iv p1, iv p2, iv p3, iv (2 : Int32), rv b163, rv b166, rv b169, rv b172, rv b175, .unset, .unset, .unset, .unset, .unset] [(.int u1), (.int (((p3.toUInt32 >>> ((8 : Int32) &&& 31).toUInt32).toInt32) &&& (255 : Int32))), (.int (1 : Int32)), (.ref b166)])) X190 hx rfl (hb hby at_93) rfl (own_nz r_u1) k) ?_
  show own_Fin p e below G (T190.setTop (mkF m 94 #[iv p1, iv p2, iv p3, iv (2 : Int32), rv b163, rv b166, rv b169, rv b172, rv b175, .unset, .unset, .unset, .unset, .unset] [(.int ((((p3.toUInt32 >>> ((8 : Int32) &&& 31).toUInt32).toInt32) &&& (255 : Int32)) % u1)), (.int (1 : Int32)), (.ref b166)]))
  have r_c1 := own_c ((p3.toUInt32 >>> ((8 : Int32) &&& 31).toUInt32).toInt32) r_u1
  generalize e_c1 : ((((p3.toUInt32 >>> ((8 : Int32) &&& 31).toUInt32).toInt32) &&& (255 : Int32)) % u1) = c1 at r_c1 ⊢
  show own_Fin p e below G (T190.setTop (mkF m 94 #[iv p1, iv p2, iv p3, iv (2 : Int32), rv b163, rv b166, rv b169, rv b172, rv b175, .unset, .unset, .unset, .unset, .unset] [(.int c1), (.int (1 : Int32)), (.ref b166)]))
  obtain ⟨T194, h194, X194, e194, W194, V194, st194⟩ := own_stI X190 hx hZ e190 V190 (j := (1 : Int32)) (n := 3) rfl (by decide) (g := (mkF m 94 #[iv p1, iv p2, iv p3, iv (2 : Int32), rv b163, rv b166, rv b169, rv b172, rv b175, .unset, .unset, .unset, .unset, .unset] [(.int c1), (.int (1 : Int32)), (.ref b166)])) rfl rfl (hb hby at_94)
  clear X190 e190 V190
  have f195_0 := f191_0.other W194 ne_b163_b166
  clear f191_0
  have f195_2 := f191_2.other W194 (Ne.symm ne_b166_b169)
  clear f191_2
  have f195_3 := f191_3.other W194 (Ne.symm ne_b166_b172)
  clear f191_3
  have f195_4 := f191_4.other W194 (Ne.symm ne_b166_b175)
  clear f191_4
  have K196 : Keep h0 h194 [] := K192.wr W194 (Or.inr sz_b166)
  clear K192 W194
  have N197 := Fr.snoc X194 N193 g_b166
  clear N193
  replace V194 : own_AV Z h194 b166 .int (own_is [c0, c1, (0 : Int32)]) := V194
  refine own_st st194 ?_
  clear st194
  show own_Fin p e below G (T194.setTop (mkF m 95 #[iv p1, iv p2, iv p3, iv (2 : Int32), rv b163, rv b166, rv b169, rv b172, rv b175, .unset, .unset, .unset, .unset, .unset] []))
  refine own_st (fun _ k => XS.aload X194.here hx rfl (hb hby at_95) rfl rfl k) ?_
  show own_Fin p e below G (T194.setTop (mkF m 97 #[iv p1, iv p2, iv p3, iv (2 : Int32), rv b163, rv b166, rv b169, rv b172, rv b175, .unset, .unset, .unset, .unset, .unset] [(.ref b166)]))
  refine own_st (fun _ k => XS.iconst X194.here hx rfl (hb hby at_97) k) ?_
  show own_Fin p e below G (T194.setTop (mkF m 98 #[iv p1, iv p2, iv p3, iv (2 : Int32), rv b163, rv b166, rv b169, rv b172, rv b175, .unset, .unset, .unset, .unset, .unset] [(.int (2 : Int32)), (.ref b166)]))
  refine own_st (fun _ k => XS.iloadN X194.here hx rfl (hb hby at_98) rfl  k) ?_
  show own_Fin p e below G (T194.setTop (mkF m 99 #[iv p1, iv p2, iv p3, iv (2 : Int32), rv b163, rv b166, rv b169, rv b172, rv b175, .unset, .unset, .unset, .unset, .unset] [(.int p3), (.int (2 : Int32)), (.ref b166)]))
  refine own_st (fun _ k => XS.bipush X194.here hx rfl (hb hby at_99) k) ?_
  show own_Fin p e below G (T194.setTop (mkF m 101 #[iv p1, iv p2, iv p3, iv (2 : Int32), rv b163, rv b166, rv b169, rv b172, rv b175, .unset, .unset, .unset, .unset, .unset] [(.int (16 : Int32)), (.int p3), (.int (2 : Int32)), (.ref b166)]))
  refine own_st (fun _ k => XS.iushr X194.here hx rfl (hb hby at_101) rfl k) ?_
  show own_Fin p e below G (T194.setTop (mkF m 102 #[iv p1, iv p2, iv p3, iv (2 : Int32), rv b163, rv b166, rv b169, rv b172, rv b175, .unset, .unset, .unset, .unset, .unset] [(.int ((p3.toUInt32 >>> ((16 : Int32) &&& 31).toUInt32).toInt32)), (.int (2 : Int32)), (.ref b166)]))
  refine own_st (fun _ k => XS.sipush X194.here hx rfl (hb hby at_102) k) ?_
  show own_Fin p e below G (T194.setTop (mkF m 105 #[iv p1, iv p2, iv p3, iv (2 : Int32), rv b163, rv b166, rv b169, rv b172, rv b175, .unset, .unset, .unset, .unset, .unset] [(.int (255 : Int32)), (.int ((p3.toUInt32 >>> ((16 : Int32) &&& 31).toUInt32).toInt32)), (.int (2 : Int32)), (.ref b166)]))
  refine own_st (fun _ k => XS.iand X194.here hx rfl (hb hby at_105) rfl k) ?_
  show own_Fin p e below G (T194.setTop (mkF m 106 #[iv p1, iv p2, iv p3, iv (2 : Int32), rv b163, rv b166, rv b169, rv b172, rv b175, .unset, .unset, .unset, .unset, .unset] [(.int (((p3.toUInt32 >>> ((16 : Int32) &&& 31).toUInt32).toInt32) &&& (255 : Int32))), (.int (2 : Int32)), (.ref b166)]))
  refine own_st (fun _ k => XS.aload X194.here hx rfl (hb hby at_106) rfl rfl k) ?_
  show own_Fin p e below G (T194.setTop (mkF m 108 #[iv p1, iv p2, iv p3, iv (2 : Int32), rv b163, rv b166, rv b169, rv b172, rv b175, .unset, .unset, .unset, .unset, .unset] [(.ref b163), (.int (((p3.toUInt32 >>> ((16 : Int32) &&& 31).toUInt32).toInt32) &&& (255 : Int32))), (.int (2 : Int32)), (.ref b166)]))
  refine own_st (fun _ k => XS.iconst X194.here hx rfl (hb hby at_108) k) ?_
  show own_Fin p e below G (T194.setTop (mkF m 109 #[iv p1, iv p2, iv p3, iv (2 : Int32), rv b163, rv b166, rv b169, rv b172, rv b175, .unset, .unset, .unset, .unset, .unset] [(.int (2 : Int32)), (.ref b163), (.int (((p3.toUInt32 >>> ((16 : Int32) &&& 31).toUInt32).toInt32) &&& (255 : Int32))), (.int (2 : Int32)), (.ref b166)]))
  refine own_st (fun _ k => own_ldI X194 hx hZ e194 f195_0 (j := (2 : Int32)) (n := 3) rfl (by decide) (g := (mkF m 109 #[iv p1, iv p2, iv p3, iv (2 : Int32), rv b163, rv b166, rv b169, rv b172, rv b175, .unset, .unset, .unset, .unset, .unset] [(.int (2 : Int32)), (.ref b163), (.int (((p3.toUInt32 >>> ((16 : Int32) &&& 31).toUInt32).toInt32) &&& (255 : Int32))), (.int (2 : Int32)), (.ref b166)])) rfl rfl (hb hby at_109) k) ?_
  show own_Fin p e below G (T194.setTop (mkF m 110 #[iv p1, iv p2, iv p3, iv (2 : Int32), rv b163, rv b166, rv b169, rv b172, rv b175, .unset, .unset, .unset, .unset, .unset] [(.int u2), (.int (((p3.toUInt32 >>> ((16 : Int32) &&& 31).toUInt32).toInt32) &&& (255 : Int32))), (.int (2 : Int32)), (.ref b166)]))
  refine own_st (fun _ k => iremM (g := (mkF m 110 #[iv p1, iv p2, iv p3, iv (2 : Int32), rv b163, rv b166, rv b169, rv b172, rv b175, .unset, .unset, .unset, .unset, .unset] [(.int u2), (.int (((p3.toUInt32 >>> ((16 : Int32) &&& 31).toUInt32).toInt32) &&& (255 : Int32))), (.int (2 : Int32)), (.ref b166)])) X194 hx rfl (hb hby at_110) rfl (own_nz r_u2) k) ?_
  show own_Fin p e below G (T194.setTop (mkF m 111 #[iv p1, iv p2, iv p3, iv (2 : Int32), rv b163, rv b166, rv b169, rv b172, rv b175, .unset, .unset, .unset, .unset, .unset] [(.int ((((p3.toUInt32 >>> ((16 : Int32) &&& 31).toUInt32).toInt32) &&& (255 : Int32)) % u2)), (.int (2 : Int32)), (.ref b166)]))
  have r_c2 := own_c ((p3.toUInt32 >>> ((16 : Int32) &&& 31).toUInt32).toInt32) r_u2
  generalize e_c2 : ((((p3.toUInt32 >>> ((16 : Int32) &&& 31).toUInt32).toInt32) &&& (255 : Int32)) % u2) = c2 at r_c2 ⊢
  show own_Fin p e below G (T194.setTop (mkF m 111 #[iv p1, iv p2, iv p3, iv (2 : Int32), rv b163, rv b166, rv b169, rv b172, rv b175, .unset, .unset, .unset, .unset, .unset] [(.int c2), (.int (2 : Int32)), (.ref b166)]))
  obtain ⟨T198, h198, X198, e198, W198, V198, st198⟩ := own_stI X194 hx hZ e194 V194 (j := (2 : Int32)) (n := 3) rfl (by decide) (g := (mkF m 111 #[iv p1, iv p2, iv p3, iv (2 : Int32), rv b163, rv b166, rv b169, rv b172, rv b175, .unset, .unset, .unset, .unset, .unset] [(.int c2), (.int (2 : Int32)), (.ref b166)])) rfl rfl (hb hby at_111)
  clear X194 e194 V194
  have f199_0 := f195_0.other W198 ne_b163_b166
  clear f195_0
  have f199_2 := f195_2.other W198 (Ne.symm ne_b166_b169)
  clear f195_2
  have f199_3 := f195_3.other W198 (Ne.symm ne_b166_b172)
  clear f195_3
  have f199_4 := f195_4.other W198 (Ne.symm ne_b166_b175)
  clear f195_4
  have K200 : Keep h0 h198 [] := K196.wr W198 (Or.inr sz_b166)
  clear K196 W198
  have N201 := Fr.snoc X198 N197 g_b166
  clear N197
  replace V198 : own_AV Z h198 b166 .int (own_is [c0, c1, c2]) := V198
  refine own_st st198 ?_
  clear st198
  show own_Fin p e below G (T198.setTop (mkF m 112 #[iv p1, iv p2, iv p3, iv (2 : Int32), rv b163, rv b166, rv b169, rv b172, rv b175, .unset, .unset, .unset, .unset, .unset] []))
  refine own_st (fun _ k => XS.iloadN X198.here hx rfl (hb hby at_112) rfl  k) ?_
  show own_Fin p e below G (T198.setTop (mkF m 113 #[iv p1, iv p2, iv p3, iv (2 : Int32), rv b163, rv b166, rv b169, rv b172, rv b175, .unset, .unset, .unset, .unset, .unset] [(.int (2 : Int32))]))
  refine own_st (fun _ k => XS.ifNo X198.here hx rfl (hb hby at_113) rfl ((if0 _ _).trans (tlt (by decide : ((0 : Int32) < (2 : Int32)))).2.2.2) k) ?_
  show own_Fin p e below G (T198.setTop (mkF m 116 #[iv p1, iv p2, iv p3, iv (2 : Int32), rv b163, rv b166, rv b169, rv b172, rv b175, .unset, .unset, .unset, .unset, .unset] []))
  refine own_st (fun _ k => XS.aload X198.here hx rfl (hb hby at_116) rfl rfl k) ?_
  show own_Fin p e below G (T198.setTop (mkF m 118 #[iv p1, iv p2, iv p3, iv (2 : Int32), rv b163, rv b166, rv b169, rv b172, rv b175, .unset, .unset, .unset, .unset, .unset] [(.ref b172)]))
  refine own_st (fun _ k => XS.iconst X198.here hx rfl (hb hby at_118) k) ?_
  show own_Fin p e below G (T198.setTop (mkF m 119 #[iv p1, iv p2, iv p3, iv (2 : Int32), rv b163, rv b166, rv b169, rv b172, rv b175, .unset, .unset, .unset, .unset, .unset] [(.int (0 : Int32)), (.ref b172)]))
  refine own_st (fun _ k => XS.aload X198.here hx rfl (hb hby at_119) rfl rfl k) ?_
  show own_Fin p e below G (T198.setTop (mkF m 121 #[iv p1, iv p2, iv p3, iv (2 : Int32), rv b163, rv b166, rv b169, rv b172, rv b175, .unset, .unset, .unset, .unset, .unset] [(.ref b163), (.int (0 : Int32)), (.ref b172)]))
  refine own_st (fun _ k => XS.iconst X198.here hx rfl (hb hby at_121) k) ?_
  show own_Fin p e below G (T198.setTop (mkF m 122 #[iv p1, iv p2, iv p3, iv (2 : Int32), rv b163, rv b166, rv b169, rv b172, rv b175, .unset, .unset, .unset, .unset, .unset] [(.int (0 : Int32)), (.ref b163), (.int (0 : Int32)), (.ref b172)]))
  refine own_st (fun _ k => own_ldI X198 hx hZ e198 f199_0 (j := (0 : Int32)) (n := 3) rfl (by decide) (g := (mkF m 122 #[iv p1, iv p2, iv p3, iv (2 : Int32), rv b163, rv b166, rv b169, rv b172, rv b175, .unset, .unset, .unset, .unset, .unset] [(.int (0 : Int32)), (.ref b163), (.int (0 : Int32)), (.ref b172)])) rfl rfl (hb hby at_122) k) ?_
  show own_Fin p e below G (T198.setTop (mkF m 123 #[iv p1, iv p2, iv p3, iv (2 : Int32), rv b163, rv b166, rv b169, rv b172, rv b175, .unset, .unset, .unset, .unset, .unset] [(.int u0), (.int (0 : Int32)), (.ref b172)]))
  obtain ⟨T202, h202, X202, e202, W202, V202, st202⟩ := own_stI X198 hx hZ e198 f199_3 (j := (0 : Int32)) (n := 2) rfl (by decide) (g := (mkF m 123 #[iv p1, iv p2, iv p3, iv (2 : Int32), rv b163, rv b166, rv b169, rv b172, rv b175, .unset, .unset, .unset, .unset, .unset] [(.int u0), (.int (0 : Int32)), (.ref b172)])) rfl rfl (hb hby at_123)
  clear X198 e198 f199_3
  have f203_0 := f199_0.other W202 ne_b163_b172
  clear f199_0
  have f203_1 := V198.other W202 ne_b166_b172
  clear V198
  have f203_2 := f199_2.other W202 ne_b169_b172
  clear f199_2
  have f203_4 := f199_4.other W202 (Ne.symm ne_b172_b175)
  clear f199_4
  have K204 : Keep h0 h202 [] := K200.wr W202 (Or.inr sz_b172)
  clear K200 W202
  have N205 := Fr.snoc X202 N201 g_b172
  clear N201
  replace V202 : own_AV Z h202 b172 .int (own_is [u0, (0 : Int32)]) := V202
  refine own_st st202 ?_
  clear st202
  show own_Fin p e below G (T202.setTop (mkF m 124 #[iv p1, iv p2, iv p3, iv (2 : Int32), rv b163, rv b166, rv b169, rv b172, rv b175, .unset, .unset, .unset, .unset, .unset] []))
  refine own_st (fun _ k => XS.aload X202.here hx rfl (hb hby at_124) rfl rfl k) ?_
  show own_Fin p e below G (T202.setTop (mkF m 126 #[iv p1, iv p2, iv p3, iv (2 : Int32), rv b163, rv b166, rv b169, rv b172, rv b175, .unset, .unset, .unset, .unset, .unset] [(.ref b175)]))
  refine own_st (fun _ k => XS.iconst X202.here hx rfl (hb hby at_126) k) ?_
  show own_Fin p e below G (T202.setTop (mkF m 127 #[iv p1, iv p2, iv p3, iv (2 : Int32), rv b163, rv b166, rv b169, rv b172, rv b175, .unset, .unset, .unset, .unset, .unset] [(.int (0 : Int32)), (.ref b175)]))
  refine own_st (fun _ k => XS.aload X202.here hx rfl (hb hby at_127) rfl rfl k) ?_
  show own_Fin p e below G (T202.setTop (mkF m 129 #[iv p1, iv p2, iv p3, iv (2 : Int32), rv b163, rv b166, rv b169, rv b172, rv b175, .unset, .unset, .unset, .unset, .unset] [(.ref b166), (.int (0 : Int32)), (.ref b175)]))
  refine own_st (fun _ k => XS.iconst X202.here hx rfl (hb hby at_129) k) ?_
  show own_Fin p e below G (T202.setTop (mkF m 130 #[iv p1, iv p2, iv p3, iv (2 : Int32), rv b163, rv b166, rv b169, rv b172, rv b175, .unset, .unset, .unset, .unset, .unset] [(.int (0 : Int32)), (.ref b166), (.int (0 : Int32)), (.ref b175)]))
  refine own_st (fun _ k => own_ldI X202 hx hZ e202 f203_1 (j := (0 : Int32)) (n := 3) rfl (by decide) (g := (mkF m 130 #[iv p1, iv p2, iv p3, iv (2 : Int32), rv b163, rv b166, rv b169, rv b172, rv b175, .unset, .unset, .unset, .unset, .unset] [(.int (0 : Int32)), (.ref b166), (.int (0 : Int32)), (.ref b175)])) rfl rfl (hb hby at_130) k) ?_
  show own_Fin p e below G (T202.setTop (mkF m 131 #[iv p1, iv p2, iv p3, iv (2 : Int32), rv b163, rv b166, rv b169, rv b172, rv b175, .unset, .unset, .unset, .unset, .unset] [(.int c0), (.int (0 : Int32)), (.ref b175)]))
  obtain ⟨T206, h206, X206, e206, W206, V206, st206⟩ := own_stI X202 hx hZ e202 f203_4 (j := (0 : Int32)) (n := 2) rfl (by decide) (g := (mkF m 131 #[iv p1, iv p2, iv p3, iv (2 : Int32), rv b163, rv b166, rv b169, rv b172, rv b175, .unset, .unset, .unset, .unset, .unset] [(.int c0), (.int (0 : Int32)), (.ref b175)])) rfl rfl (hb hby at_131)
  clear X202 e202 f203_4
  have f207_0 := f203_0.other W206 ne_b163_b175
  clear f203_0
  have f207_1 := f203_1.other W206 ne_b166_b175
  clear f203_1
  have f207_2 := f203_2.other W206 ne_b169_b175
  clear f203_2
  have f207_3 := V202.other W206 ne_b172_b175
  clear V202
  have K208 : Keep h0 h206 [] := K204.wr W206 (Or.inr sz_b175)
  clear K204 W206
  have N209 := Fr.snoc X206 N205 g_b175
  clear N205
  replace V206 : own_AV Z h206 b175 .int (own_is [c0, (0 : Int32)]) := V206
  refine own_st st206 ?_
  clear st206
  show own_Fin p e below G (T206.setTop (mkF m 132 #[iv p1, iv p2, iv p3, iv (2 : Int32), rv b163, rv b166, rv b169, rv b172, rv b175, .unset, .unset, .unset, .unset, .unset] []))
  refine own_st (fun _ k => XS.iloadN X206.here hx rfl (hb hby at_132) rfl  k) ?_
  show own_Fin p e below G (T206.setTop (mkF m 133 #[iv p1, iv p2, iv p3, iv (2 : Int32), rv b163, rv b166, rv b169, rv b172, rv b175, .unset, .unset, .unset, .unset, .unset] [(.int (2 : Int32))]))
  refine own_st (fun _ k => XS.iconst X206.here hx rfl (hb hby at_133) k) ?_
  show own_Fin p e below G (T206.setTop (mkF m 134 #[iv p1, iv p2, iv p3, iv (2 : Int32), rv b163, rv b166, rv b169, rv b172, rv b175, .unset, .unset, .unset, .unset, .unset] [(.int (1 : Int32)), (.int (2 : Int32))]))
  refine own_st (fun _ k => XS.icmpNo X206.here hx rfl (hb hby at_134) rfl (tlt (by decide : ((1 : Int32) < (2 : Int32)))).2.2.2 k) ?_
  show own_Fin p e below G (T206.setTop (mkF m 137 #[iv p1, iv p2, iv p3, iv (2 : Int32), rv b163, rv b166, rv b169, rv b172, rv b175, .unset, .unset, .unset, .unset, .unset] []))
  refine own_st (fun _ k => XS.aload X206.here hx rfl (hb hby at_137) rfl rfl k) ?_
  show own_Fin p e below G (T206.setTop (mkF m 139 #[iv p1, iv p2, iv p3, iv (2 : Int32), rv b163, rv b166, rv b169, rv b172, rv b175, .unset, .unset, .unset, .unset, .unset] [(.ref b172)]))
  refine own_st (fun _ k => XS.iconst X206.here hx rfl (hb hby at_139) k) ?_
  show own_Fin p e below G (T206.setTop (mkF m 140 #[iv p1, iv p2, iv p3, iv (2 : Int32), rv b163, rv b166, rv b169, rv b172, rv b175, .unset, .unset, .unset, .unset, .unset] [(.int (1 : Int32)), (.ref b172)]))
  refine own_st (fun _ k => XS.aload X206.here hx rfl (hb hby at_140) rfl rfl k) ?_
  show own_Fin p e below G (T206.setTop (mkF m 142 #[iv p1, iv p2, iv p3, iv (2 : Int32), rv b163, rv b166, rv b169, rv b172, rv b175, .unset, .unset, .unset, .unset, .unset] [(.ref b163), (.int (1 : Int32)), (.ref b172)]))
  refine own_st (fun _ k => XS.iconst X206.here hx rfl (hb hby at_142) k) ?_
  show own_Fin p e below G (T206.setTop (mkF m 143 #[iv p1, iv p2, iv p3, iv (2 : Int32), rv b163, rv b166, rv b169, rv b172, rv b175, .unset, .unset, .unset, .unset, .unset] [(.int (1 : Int32)), (.ref b163), (.int (1 : Int32)), (.ref b172)]))
  refine own_st (fun _ k => own_ldI X206 hx hZ e206 f207_0 (j := (1 : Int32)) (n := 3) rfl (by decide) (g := (mkF m 143 #[iv p1, iv p2, iv p3, iv (2 : Int32), rv b163, rv b166, rv b169, rv b172, rv b175, .unset, .unset, .unset, .unset, .unset] [(.int (1 : Int32)), (.ref b163), (.int (1 : Int32)), (.ref b172)])) rfl rfl (hb hby at_143) k) ?_
  show own_Fin p e below G (T206.setTop (mkF m 144 #[iv p1, iv p2, iv p3, iv (2 : Int32), rv b163, rv b166, rv b169, rv b172, rv b175, .unset, .unset, .unset, .unset, .unset] [(.int u1), (.int (1 : Int32)), (.ref b172)]))
  obtain ⟨T210, h210, X210, e210, W210, V210, st210⟩ := own_stI X206 hx hZ e206 f207_3 (j := (1 : Int32)) (n := 2) rfl (by decide) (g := (mkF m 144 #[iv p1, iv p2, iv p3, iv (2 : Int32), rv b163, rv b166, rv b169, rv b172, rv b175, .unset, .unset, .unset, .unset, .unset] [(.int u1), (.int (1 : Int32)), (.ref b172)])) rfl rfl (hb hby at_144)
  clear X206 e206 f207_3
  have f211_0 := f207_0.other W210 ne_b163_b172
  clear f207_0
  have f211_1 := f207_1.other W210 ne_b166_b172
  clear f207_1
  have f211_2 := f207_2.other W210 ne_b169_b172
  clear f207_2
  have f211_4 := V206.other W210 (Ne.symm ne_b172_b175)
  clear V206
  have K212 : Keep h0 h210 [] := K208.wr W210 (Or.inr sz_b172)
  clear K208 W210
  have N213 := Fr.snoc X210 N209 g_b172
  clear N209
  replace V210 : own_AV Z h210 b172 .int (own_is [u0, u1]) := V210
  refine own_st st210 ?_
  clear st210
  show own_Fin p e below G (T210.setTop (mkF m 145 #[iv p1, iv p2, iv p3, iv (2 : Int32), rv b163, rv b166, rv b169, rv b172, rv b175, .unset, .unset, .unset, .unset, .unset] []))
  refine own_st (fun _ k => XS.aload X210.here hx rfl (hb hby at_145) rfl rfl k) ?_
  show own_Fin p e below G (T210.setTop (mkF m 147 #[iv p1, iv p2, iv p3, iv (2 : Int32), rv b163, rv b166, rv b169, rv b172, rv b175, .unset, .unset, .unset, .unset, .unset] [(.ref b175)]))
  refine own_st (fun _ k => XS.iconst X210.here hx rfl (hb hby at_147) k) ?_
  show own_Fin p e below G (T210.setTop (mkF m 148 #[iv p1, iv p2, iv p3, iv (2 : Int32), rv b163, rv b166, rv b169, rv b172, rv b175, .unset, .unset, .unset, .unset, .unset] [(.int (1 : Int32)), (.ref b175)]))
  refine own_st (fun _ k => XS.aload X210.here hx rfl (hb hby at_148) rfl rfl k) ?_
  show own_Fin p e below G (T210.setTop (mkF m 150 #[iv p1, iv p2, iv p3, iv (2 : Int32), rv b163, rv b166, rv b169, rv b172, rv b175, .unset, .unset, .unset, .unset, .unset] [(.ref b166), (.int (1 : Int32)), (.ref b175)]))
  refine own_st (fun _ k => XS.iconst X210.here hx rfl (hb hby at_150) k) ?_
  show own_Fin p e below G (T210.setTop (mkF m 151 #[iv p1, iv p2, iv p3, iv (2 : Int32), rv b163, rv b166, rv b169, rv b172, rv b175, .unset, .unset, .unset, .unset, .unset] [(.int (1 : Int32)), (.ref b166), (.int (1 : Int32)), (.ref b175)]))
  refine own_st (fun _ k => own_ldI X210 hx hZ e210 f211_1 (j := (1 : Int32)) (n := 3) rfl (by decide) (g := (mkF m 151 #[iv p1, iv p2, iv p3, iv (2 : Int32), rv b163, rv b166, rv b169, rv b172, rv b175, .unset, .unset, .unset, .unset, .unset] [(.int (1 : Int32)), (.ref b166), (.int (1 : Int32)), (.ref b175)])) rfl rfl (hb hby at_151) k) ?_
  show own_Fin p e below G (T210.setTop (mkF m 152 #[iv p1, iv p2, iv p3, iv (2 : Int32), rv b163, rv b166, rv b169, rv b172, rv b175, .unset, .unset, .unset, .unset, .unset] [(.int c1), (.int (1 : Int32)), (.ref b175)]))
  obtain ⟨T214, h214, X214, e214, W214, V214, st214⟩ := own_stI X210 hx hZ e210 f211_4 (j := (1 : Int32)) (n := 2) rfl (by decide) (g := (mkF m 152 #[iv p1, iv p2, iv p3, iv (2 : Int32), rv b163, rv b166, rv b169, rv b172, rv b175, .unset, .unset, .unset, .unset, .unset] [(.int c1), (.int (1 : Int32)), (.ref b175)])) rfl rfl (hb hby at_152)
  clear X210 e210 f211_4
  have f215_0 := f211_0.other W214 ne_b163_b175
  clear f211_0
  have f215_1 := f211_1.other W214 ne_b166_b175
  clear f211_1
  have f215_2 := f211_2.other W214 ne_b169_b175
  clear f211_2
  have f215_3 := V210.other W214 ne_b172_b175
  clear V210
  have K216 : Keep h0 h214 [] := K212.wr W214 (Or.inr sz_b175)
  clear K212 W214
  have N217 := Fr.snoc X214 N213 g_b175
  clear N213
  replace V214 : own_AV Z h214 b175 .int (own_is [c0, c1]) := V214
  refine own_st st214 ?_
  clear st214
  show own_Fin p e below G (T214.setTop (mkF m 153 #[iv p1, iv p2, iv p3, iv (2 : Int32), rv b163, rv b166, rv b169, rv b172, rv b175, .unset, .unset, .unset, .unset, .unset] []))
  refine own_st (fun _ k => XS.iloadN X214.here hx rfl (hb hby at_153) rfl  k) ?_
  show own_Fin p e below G (T214.setTop (mkF m 154 #[iv p1, iv p2, iv p3, iv (2 : Int32), rv b163, rv b166, rv b169, rv b172, rv b175, .unset, .unset, .unset, .unset, .unset] [(.int (2 : Int32))]))
  refine own_st (fun _ k => XS.iconst X214.here hx rfl (hb hby at_154) k) ?_
  show own_Fin p e below G (T214.setTop (mkF m 155 #[iv p1, iv p2, iv p3, iv (2 : Int32), rv b163, rv b166, rv b169, rv b172, rv b175, .unset, .unset, .unset, .unset, .unset] [(.int (2 : Int32)), (.int (2 : Int32))]))
  refine own_st (fun _ k => XS.icmpYes X214.here hx rfl (pc0 := 155) (pc' := 174) rfl (hb hby at_155) rfl (flt (by decide : ¬ ((2 : Int32) < (2 : Int32)))).2.2.2 (by decide) (by decide) k) ?_
  show own_Fin p e below G (T214.setTop (mkF m 174 #[iv p1, iv p2, iv p3, iv (2 : Int32), rv b163, rv b166, rv b169, rv b172, rv b175, .unset, .unset, .unset, .unset, .unset] []))
  refine own_st (fun _ k => XS.iloadN X214.here hx rfl (hb hby at_174) rfl  k) ?_
  show own_Fin p e below G (T214.setTop (mkF m 175 #[iv p1, iv p2, iv p3, iv (2 : Int32), rv b163, rv b166, rv b169, rv b172, rv b175, .unset, .unset, .unset, .unset, .unset] [(.int (2 : Int32))]))
  refine own_st (fun _ k => XS.aload X214.here hx rfl (hb hby at_175) rfl rfl k) ?_
  show own_Fin p e below G (T214.setTop (mkF m 177 #[iv p1, iv p2, iv p3, iv (2 : Int32), rv b163, rv b166, rv b169, rv b172, rv b175, .unset, .unset, .unset, .unset, .unset] [(.ref b166), (.int (2 : Int32))]))
  refine own_st (fun _ k => XS.aload X214.here hx rfl (hb hby at_177) rfl rfl k) ?_
  show own_Fin p e below G (T214.setTop (mkF m 179 #[iv p1, iv p2, iv p3, iv (2 : Int32), rv b163, rv b166, rv b169, rv b172, rv b175, .unset, .unset, .unset, .unset, .unset] [(.ref b163), (.ref b166), (.int (2 : Int32))]))
  obtain ⟨_, _, ⟨T218, L218, k218, n218⟩, -, X218, ⟨Lc218, hQ218, l218, y218, z218⟩, st218⟩ := Jvm.LawKit.callS X214 hx (y := own_y0) hown (mvT hZ (own_w hw 1 rfl)) (mvT hZ (own_w hw 2 rfl)) (mvT hZ (own_w hw 3 rfl)) (mvT hZ (own_w hw 4 rfl)) (by decide) (backOf (W := 0) (rm_v2 l Z a0 hw [] b166 b163 c0 c1 c2 u0 u1 u2 h214 n0 (Nat.le_trans Z0 K216.1) f215_1 f215_0) hZ (own_w hw 4 rfl) (own_w hw 3 rfl) (by decide) (by decide)) (g := (mkF m 179 #[iv p1, iv p2, iv p3, iv (2 : Int32), rv b163, rv b166, rv b169, rv b172, rv b175, .unset, .unset, .unset, .unset, .unset] [(.ref b163), (.ref b166), (.int (2 : Int32))])) rfl (by rw [hml]; rfl) (argsL := [(.int (2 : Int32)), (.ref b166), (.ref b163)]) (rest := []) (lenOf pd__I_I_I_I_555 rfl) rfl (by show 2 * 0 + _ ≤ _; exact Nat.le_of_eq rfl) (hb hby at_179) (fun _ _ => ⟨rfl, e214, (by decide : 5 + 0 ≤ _), (by decide : 13 + 0 ≤ _)⟩)
  clear X214 e214
  dsimp only [Pt.U, Pt.locs, Pt.cells, Pt.slots] at X218 l218 y218 z218 st218 hQ218
  obtain rfl : k218 = (5 : Nat) := y218
  obtain rfl : n218 = (13 : Nat) := z218
  obtain ⟨rfl, N218q, e218⟩ := hQ218
  skip
  have N218 : Fr n0 L218 := by rw [l218]; exact Fr.app N217 N218q
  clear N217 l218 N218q
  refine own_st st218 ?_
  clear st218
  show own_Fin p e below G (T218.setTop (mkF m 182 #[iv p1, iv p2, iv p3, iv (2 : Int32), rv b163, rv b166, rv b169, rv b172, rv b175, .unset, .unset, .unset, .unset, .unset] [(.int ((c0 * u1) + c1))]))
  refine own_st (fun _ k => XS.istore X218.here hx rfl (hb hby at_182) rfl (l' := #[iv p1, iv p2, iv p3, iv (2 : Int32), rv b163, rv b166, rv b169, rv b172, rv b175, iv ((c0 * u1) + c1), .unset, .unset, .unset, .unset]) rfl k) ?_
  show own_Fin p e below G (T218.setTop (mkF m 184 #[iv p1, iv p2, iv p3, iv (2 : Int32), rv b163, rv b166, rv b169, rv b172, rv b175, iv ((c0 * u1) + c1), .unset, .unset, .unset, .unset] []))
  refine own_st (fun _ k => XS.iloadN X218.here hx rfl (hb hby at_184) rfl  k) ?_
  show own_Fin p e below G (T218.setTop (mkF m 185 #[iv p1, iv p2, iv p3, iv (2 : Int32), rv b163, rv b166, rv b169, rv b172, rv b175, iv ((c0 * u1) + c1), .unset, .unset, .unset, .unset] [(.int (2 : Int32))]))
  refine own_st (fun _ k => XS.aload X218.here hx rfl (hb hby at_185) rfl rfl k) ?_
  show own_Fin p e below G (T218.setTop (mkF m 187 #[iv p1, iv p2, iv p3, iv (2 : Int32), rv b163, rv b166, rv b169, rv b172, rv b175, iv ((c0 * u1) + c1), .unset, .unset, .unset, .unset] [(.ref b163), (.int (2 : Int32))]))
  obtain ⟨_, _, ⟨T219, L219, k219, n219⟩, -, X219, ⟨Lc219, hQ219, l219, y219, z219⟩, st219⟩ := Jvm.LawKit.callS X218 hx (y := own_y1) hown (mvT hZ (own_w hw 5 rfl)) (mvT hZ (own_w hw 6 rfl)) (mvT hZ (own_w hw 3 rfl)) (mvT hZ (own_w hw 7 rfl)) (by decide) (backOf (W := 0) (rm_t2 l Z a0 hw [] b163 u0 u1 u2 h214 n0 (Nat.le_trans Z0 K216.1) f215_0) hZ (own_w hw 7 rfl) (own_w hw 3 rfl) (by decide) (by decide)) (g := (mkF m 187 #[iv p1, iv p2, iv p3, iv (2 : Int32), rv b163, rv b166, rv b169, rv b172, rv b175, iv ((c0 * u1) + c1), .unset, .unset, .unset, .unset] [(.ref b163), (.int (2 : Int32))])) rfl (by rw [hml]; rfl) (argsL := [(.int (2 : Int32)), (.ref b163)]) (rest := []) (lenOf pd__I_I_I_391 rfl) rfl (by show 2 * 0 + _ ≤ _; exact Nat.le_of_eq rfl) (hb hby at_187) (fun _ _ => ⟨rfl, e218, (by decide : 5 + 0 ≤ _), (by decide : 13 + 0 ≤ _)⟩)
  clear X218 e218
  dsimp only [Pt.U, Pt.locs, Pt.cells, Pt.slots] at X219 l219 y219 z219 st219 hQ219
  obtain rfl : k219 = (5 : Nat) := y219
  obtain rfl : n219 = (13 : Nat) := z219
  obtain ⟨rfl, N219q, e219⟩ := hQ219
  skip
  have N219 : Fr n0 L219 := by rw [l219]; exact Fr.app N218 N219q
  clear N218 l219 N219q
  refine own_st st219 ?_
  clear st219
  show own_Fin p e below G (T219.setTop (mkF m 190 #[iv p1, iv p2, iv p3, iv (2 : Int32), rv b163, rv b166, rv b169, rv b172, rv b175, iv ((c0 * u1) + c1), .unset, .unset, .unset, .unset] [(.int (u0 * u1))]))
  refine own_st (fun _ k => XS.istore X219.here hx rfl (hb hby at_190) rfl (l' := #[iv p1, iv p2, iv p3, iv (2 : Int32), rv b163, rv b166, rv b169, rv b172, rv b175, iv ((c0 * u1) + c1), iv (u0 * u1), .unset, .unset, .unset]) rfl k) ?_
  show own_Fin p e below G (T219.setTop (mkF m 192 #[iv p1, iv p2, iv p3, iv (2 : Int32), rv b163, rv b166, rv b169, rv b172, rv b175, iv ((c0 * u1) + c1), iv (u0 * u1), .unset, .unset, .unset] []))
  refine own_st (fun _ k => XS.aload X219.here hx rfl (hb hby at_192) rfl rfl k) ?_
  show own_Fin p e below G (T219.setTop (mkF m 194 #[iv p1, iv p2, iv p3, iv (2 : Int32), rv b163, rv b166, rv b169, rv b172, rv b175, iv ((c0 * u1) + c1), iv (u0 * u1), .unset, .unset, .unset] [(.ref b175)]))
  refine own_st (fun _ k => XS.aload X219.here hx rfl (hb hby at_194) rfl rfl k) ?_
  show own_Fin p e below G (T219.setTop (mkF m 196 #[iv p1, iv p2, iv p3, iv (2 : Int32), rv b163, rv b166, rv b169, rv b172, rv b175, iv ((c0 * u1) + c1), iv (u0 * u1), .unset, .unset, .unset] [(.ref b172), (.ref b175)]))
  obtain ⟨_, _, ⟨T220, L220, k220, n220⟩, -, X220, ⟨Lc220, hQ220, l220, y220, z220⟩, st220⟩ := Jvm.LawKit.callS X219 hx (y := own_y3) hown (mvT hZ (own_w hw 8 rfl)) (mvT hZ (own_w hw 9 rfl)) (mvT hZ (own_w hw 10 rfl)) (mvT hZ (own_w hw 11 rfl)) (by decide) (backOf (W := 0) (rm_x2 l Z a0 hw [] b175 b172 c0 c1 u0 u1 h214 n0 (Nat.le_trans Z0 K216.1) V214 f215_3 (Ne.symm ne_b172_b175) g_b175) hZ (own_w hw 11 rfl) (own_w hw 10 rfl) (by decide) (by decide)) (g := (mkF m 196 #[iv p1, iv p2, iv p3, iv (2 : Int32), rv b163, rv b166, rv b169, rv b172, rv b175, iv ((c0 * u1) + c1), iv (u0 * u1), .unset, .unset, .unset] [(.ref b172), (.ref b175)])) rfl (by rw [hml]; rfl) (argsL := [(.ref b175), (.ref b172)]) (rest := []) (lenOf pd___I_I_Z_499 rfl) rfl (by show 2 * 0 + _ ≤ _; exact Nat.le_of_eq rfl) (hb hby at_196) (fun _ _ => ⟨rfl, e219, (by decide : 5 + 0 ≤ _), (by decide : 13 + 0 ≤ _)⟩)
  clear V214 X219 e219
  dsimp only [Pt.U, Pt.locs, Pt.cells, Pt.slots] at X220 l220 y220 z220 st220 hQ220
  obtain rfl : k220 = (5 : Nat) := y220
  obtain rfl : n220 = (13 : Nat) := z220
  obtain ⟨rr, ys, hQ220⟩ := hQ220
  obtain ⟨rfl, N220q, Kc220, gA220, hD⟩ := hQ220
  have N220 : Fr n0 L220 := by rw [l220]; exact Fr.app N219 N220q
  clear N219 l220 N220q
  have f221_0 := f215_0.keep Kc220 (ninS ne_b163_b175 nin0)
  clear f215_0
  have f221_1 := f215_1.keep Kc220 (ninS ne_b166_b175 nin0)
  clear f215_1
  have f221_2 := f215_2.keep Kc220 (ninS ne_b169_b175 nin0)
  clear f215_2
  have f221_3 := f215_3.keep Kc220 (ninS ne_b172_b175 nin0)
  clear f215_3
  have K222 : Keep h0 T220.heap [] := K216.trans Kc220 (allS (Or.inr sz_b175) all0)
  clear K216 Kc220
  refine own_st st220 ?_
  clear st220
  show own_Fin p e below G (T220.setTop (mkF m 199 #[iv p1, iv p2, iv p3, iv (2 : Int32), rv b163, rv b166, rv b169, rv b172, rv b175, iv ((c0 * u1) + c1), iv (u0 * u1), .unset, .unset, .unset] [(.int rr)]))
  rcases hD with ⟨d0, rfl, rfl⟩ | ⟨d0, d1, rfl, rfl⟩ | ⟨d0, d1, rfl, rfl⟩
  · show own_Fin p e below G (T220.setTop (mkF m 199 #[iv p1, iv p2, iv p3, iv (2 : Int32), rv b163, rv b166, rv b169, rv b172, rv b175, iv ((c0 * u1) + c1), iv (u0 * u1), .unset, .unset, .unset] [(.int (1 : Int32))]))
    refine own_st (fun _ k => XS.istore X220.here hx rfl (hb hby at_199) rfl (l' := #[iv p1, iv p2, iv p3, iv (2 : Int32), rv b163, rv b166, rv b169, rv b172, rv b175, iv ((c0 * u1) + c1), iv (u0 * u1), iv (1 : Int32), .unset, .unset]) rfl k) ?_
    show own_Fin p e below G (T220.setTop (mkF m 201 #[iv p1, iv p2, iv p3, iv (2 : Int32), rv b163, rv b166, rv b169, rv b172, rv b175, iv ((c0 * u1) + c1), iv (u0 * u1), iv (1 : Int32), .unset, .unset] []))
    refine own_st (fun _ k => XS.iconst X220.here hx rfl (hb hby at_201) k) ?_
    show own_Fin p e below G (T220.setTop (mkF m 202 #[iv p1, iv p2, iv p3, iv (2 : Int32), rv b163, rv b166, rv b169, rv b172, rv b175, iv ((c0 * u1) + c1), iv (u0 * u1), iv (1 : Int32), .unset, .unset] [(.int (1 : Int32))]))
    refine own_st (fun _ k => XS.istore X220.here hx rfl (hb hby at_202) rfl (l' := #[iv p1, iv p2, iv p3, iv (2 : Int32), rv b163, rv b166, rv b169, rv b172, rv b175, iv ((c0 * u1) + c1), iv (u0 * u1), iv (1 : Int32), iv (1 : Int32), .unset]) rfl k) ?_
    show own_Fin p e below G (T220.setTop (mkF m 204 #[iv p1, iv p2, iv p3, iv (2 : Int32), rv b163, rv b166, rv b169, rv b172, rv b175, iv ((c0 * u1) + c1), iv (u0 * u1), iv (1 : Int32), iv (1 : Int32), .unset] []))
    refine own_st (fun _ k => XS.iloadN X220.here hx rfl (hb hby at_204) rfl  k) ?_
    show own_Fin p e below G (T220.setTop (mkF m 205 #[iv p1, iv p2, iv p3, iv (2 : Int32), rv b163, rv b166, rv b169, rv b172, rv b175, iv ((c0 * u1) + c1), iv (u0 * u1), iv (1 : Int32), iv (1 : Int32), .unset] [(.int (2 : Int32))]))
    refine own_st (fun _ k => XS.ifNo X220.here hx rfl (hb hby at_205) rfl ((if0 _ _).trans (tlt (by decide : ((0 : Int32) < (2 : Int32)))).2.2.2) k) ?_
    show own_Fin p e below G (T220.setTop (mkF m 208 #[iv p1, iv p2, iv p3, iv (2 : Int32), rv b163, rv b166, rv b169, rv b172, rv b175, iv ((c0 * u1) + c1), iv (u0 * u1), iv (1 : Int32), iv (1 : Int32), .unset] []))
    refine own_st (fun _ k => XS.aload X220.here hx rfl (hb hby at_208) rfl rfl k) ?_
    show own_Fin p e below G (T220.setTop (mkF m 210 #[iv p1, iv p2, iv p3, iv (2 : Int32), rv b163, rv b166, rv b169, rv b172, rv b175, iv ((c0 * u1) + c1), iv (u0 * u1), iv (1 : Int32), iv (1 : Int32), .unset] [(.ref b169)]))
    refine own_st (fun _ k => XS.iconst X220.here hx rfl (hb hby at_210) k) ?_
    show own_Fin p e below G (T220.setTop (mkF m 211 #[iv p1, iv p2, iv p3, iv (2 : Int32), rv b163, rv b166, rv b169, rv b172, rv b175, iv ((c0 * u1) + c1), iv (u0 * u1), iv (1 : Int32), iv (1 : Int32), .unset] [(.int (0 : Int32)), (.ref b169)]))
    refine own_st (fun _ k => XS.aload X220.here hx rfl (hb hby at_211) rfl rfl k) ?_
    show own_Fin p e below G (T220.setTop (mkF m 213 #[iv p1, iv p2, iv p3, iv (2 : Int32), rv b163, rv b166, rv b169, rv b172, rv b175, iv ((c0 * u1) + c1), iv (u0 * u1), iv (1 : Int32), iv (1 : Int32), .unset] [(.ref b175), (.int (0 : Int32)), (.ref b169)]))
    refine own_st (fun _ k => XS.iconst X220.here hx rfl (hb hby at_213) k) ?_
    show own_Fin p e below G (T220.setTop (mkF m 214 #[iv p1, iv p2, iv p3, iv (2 : Int32), rv b163, rv b166, rv b169, rv b172, rv b175, iv ((c0 * u1) + c1), iv (u0 * u1), iv (1 : Int32), iv (1 : Int32), .unset] [(.int (0 : Int32)), (.ref b175), (.int (0 : Int32)), (.ref b169)]))
    refine own_st (fun _ k => own_ldI X220 hx hZ rfl gA220 (j := (0 : Int32)) (n := 2) rfl (by decide) (g := (mkF m 214 #[iv p1, iv p2, iv p3, iv (2 : Int32), rv b163, rv b166, rv b169, rv b172, rv b175, iv ((c0 * u1) + c1), iv (u0 * u1), iv (1 : Int32), iv (1 : Int32), .unset] [(.int (0 : Int32)), (.ref b175), (.int (0 : Int32)), (.ref b169)])) rfl rfl (hb hby at_214) k) ?_
    show own_Fin p e below G (T220.setTop (mkF m 215 #[iv p1, iv p2, iv p3, iv (2 : Int32), rv b163, rv b166, rv b169, rv b172, rv b175, iv ((c0 * u1) + c1), iv (u0 * u1), iv (1 : Int32), iv (1 : Int32), .unset] [(.int c0), (.int (0 : Int32)), (.ref b169)]))
    obtain ⟨T223, h223, X223, e223, W223, V223, st223⟩ := own_stI X220 hx hZ rfl f221_2 (j := (0 : Int32)) (n := 3) rfl (by decide) (g := (mkF m 215 #[iv p1, iv p2, iv p3, iv (2 : Int32), rv b163, rv b166, rv b169, rv b172, rv b175, iv ((c0 * u1) + c1), iv (u0 * u1), iv (1 : Int32), iv (1 : Int32), .unset] [(.int c0), (.int (0 : Int32)), (.ref b169)])) rfl rfl (hb hby at_215)
    have f224_0 := f221_0.other W223 ne_b163_b169
    have f224_1 := f221_1.other W223 ne_b166_b169
    have f224_3 := f221_3.other W223 (Ne.symm ne_b169_b172)
    have f224_4 := gA220.other W223 (Ne.symm ne_b169_b175)
    have K225 : Keep h0 h223 [] := K222.wr W223 (Or.inr sz_b169)
    clear W223
    have N226 := Fr.snoc X223 N220 g_b169
    replace V223 : own_AV Z h223 b169 .int (own_is [c0, (0 : Int32), (0 : Int32)]) := V223
    refine own_st st223 ?_
    clear st223
    show own_Fin p e below G (T223.setTop (mkF m 216 #[iv p1, iv p2, iv p3, iv (2 : Int32), rv b163, rv b166, rv b169, rv b172, rv b175, iv ((c0 * u1) + c1), iv (u0 * u1), iv (1 : Int32), iv (1 : Int32), .unset] []))
    refine own_st (fun _ k => XS.iload X223.here hx rfl (hb hby at_216) rfl  k) ?_
    show own_Fin p e below G (T223.setTop (mkF m 218 #[iv p1, iv p2, iv p3, iv (2 : Int32), rv b163, rv b166, rv b169, rv b172, rv b175, iv ((c0 * u1) + c1), iv (u0 * u1), iv (1 : Int32), iv (1 : Int32), .unset] [(.int (1 : Int32))]))
    refine own_st (fun _ k => XS.ifNo X223.here hx rfl (hb hby at_218) rfl ((if0 _ _).trans (feq (by decide : ¬ ((1 : Int32) = (0 : Int32)))).1) k) ?_
    show own_Fin p e below G (T223.setTop (mkF m 221 #[iv p1, iv p2, iv p3, iv (2 : Int32), rv b163, rv b166, rv b169, rv b172, rv b175, iv ((c0 * u1) + c1), iv (u0 * u1), iv (1 : Int32), iv (1 : Int32), .unset] []))
    refine own_st (fun _ k => XS.aload X223.here hx rfl (hb hby at_221) rfl rfl k) ?_
    show own_Fin p e below G (T223.setTop (mkF m 223 #[iv p1, iv p2, iv p3, iv (2 : Int32), rv b163, rv b166, rv b169, rv b172, rv b175, iv ((c0 * u1) + c1), iv (u0 * u1), iv (1 : Int32), iv (1 : Int32), .unset] [(.ref b172)]))
    refine own_st (fun _ k => XS.iconst X223.here hx rfl (hb hby at_223) k) ?_
    show own_Fin p e below G (T223.setTop (mkF m 224 #[iv p1, iv p2, iv p3, iv (2 : Int32), rv b163, rv b166, rv b169, rv b172, rv b175, iv ((c0 * u1) + c1), iv (u0 * u1), iv (1 : Int32), iv (1 : Int32), .unset] [(.int (0 : Int32)), (.ref b172)]))
    refine own_st (fun _ k => own_ldI X223 hx hZ e223 f224_3 (j := (0 : Int32)) (n := 2) rfl (by decide) (g := (mkF m 224 #[iv p1, iv p2, iv p3, iv (2 : Int32), rv b163, rv b166, rv b169, rv b172, rv b175, iv ((c0 * u1) + c1), iv (u0 * u1), iv (1 : Int32), iv (1 : Int32), .unset] [(.int (0 : Int32)), (.ref b172)])) rfl rfl (hb hby at_224) k) ?_
    show own_Fin p e below G (T223.setTop (mkF m 225 #[iv p1, iv p2, iv p3, iv (2 : Int32), rv b163, rv b166, rv b169, rv b172, rv b175, iv ((c0 * u1) + c1), iv (u0 * u1), iv (1 : Int32), iv (1 : Int32), .unset] [(.int u0)]))
    refine own_st (fun _ k => XS.aload X223.here hx rfl (hb hby at_225) rfl rfl k) ?_
    show own_Fin p e below G (T223.setTop (mkF m 227 #[iv p1, iv p2, iv p3, iv (2 : Int32), rv b163, rv b166, rv b169, rv b172, rv b175, iv ((c0 * u1) + c1), iv (u0 * u1), iv (1 : Int32), iv (1 : Int32), .unset] [(.ref b163), (.int u0)]))
    refine own_st (fun _ k => XS.iconst X223.here hx rfl (hb hby at_227) k) ?_
    show own_Fin p e below G (T223.setTop (mkF m 228 #[iv p1, iv p2, iv p3, iv (2 : Int32), rv b163, rv b166, rv b169, rv b172, rv b175, iv ((c0 * u1) + c1), iv (u0 * u1), iv (1 : Int32), iv (1 : Int32), .unset] [(.int (0 : Int32)), (.ref b163), (.int u0)]))
    refine own_st (fun _ k => own_ldI X223 hx hZ e223 f224_0 (j := (0 : Int32)) (n := 3) rfl (by decide) (g := (mkF m 228 #[iv p1, iv p2, iv p3, iv (2 : Int32), rv b163, rv b166, rv b169, rv b172, rv b175, iv ((c0 * u1) + c1), iv (u0 * u1), iv (1 : Int32), iv (1 : Int32), .unset] [(.int (0 : Int32)), (.ref b163), (.int u0)])) rfl rfl (hb hby at_228) k) ?_
    show own_Fin p e below G (T223.setTop (mkF m 229 #[iv p1, iv p2, iv p3, iv (2 : Int32), rv b163, rv b166, rv b169, rv b172, rv b175, iv ((c0 * u1) + c1), iv (u0 * u1), iv (1 : Int32), iv (1 : Int32), .unset] [(.int u0), (.int u0)]))
    refine own_st (fun _ k => XS.icmpNo X223.here hx rfl (hb hby at_229) rfl (teq (rfl : u0 = u0)).2 k) ?_
    show own_Fin p e below G (T223.setTop (mkF m 232 #[iv p1, iv p2, iv p3, iv (2 : Int32), rv b163, rv b166, rv b169, rv b172, rv b175, iv ((c0 * u1) + c1), iv (u0 * u1), iv (1 : Int32), iv (1 : Int32), .unset] []))
    refine own_st (fun _ k => XS.iconst X223.here hx rfl (hb hby at_232) k) ?_
    show own_Fin p e below G (T223.setTop (mkF m 233 #[iv p1, iv p2, iv p3, iv (2 : Int32), rv b163, rv b166, rv b169, rv b172, rv b175, iv ((c0 * u1) + c1), iv (u0 * u1), iv (1 : Int32), iv (1 : Int32), .unset] [(.int (1 : Int32))]))
    refine own_st (fun _ k => XS.goto X223.here hx rfl (pc0 := 233) (pc' := 237) rfl (hb hby at_233) (by decide) (by decide) k) ?_
    show own_Fin p e below G (T223.setTop (mkF m 237 #[iv p1, iv p2, iv p3, iv (2 : Int32), rv b163, rv b166, rv b169, rv b172, rv b175, iv ((c0 * u1) + c1), iv (u0 * u1), iv (1 : Int32), iv (1 : Int32), .unset] [(.int (1 : Int32))]))
    refine own_st (fun _ k => XS.istore X223.here hx rfl (hb hby at_237) rfl (l' := #[iv p1, iv p2, iv p3, iv (2 : Int32), rv b163, rv b166, rv b169, rv b172, rv b175, iv ((c0 * u1) + c1), iv (u0 * u1), iv (1 : Int32), iv (1 : Int32), .unset]) rfl k) ?_
    show own_Fin p e below G (T223.setTop (mkF m 239 #[iv p1, iv p2, iv p3, iv (2 : Int32), rv b163, rv b166, rv b169, rv b172, rv b175, iv ((c0 * u1) + c1), iv (u0 * u1), iv (1 : Int32), iv (1 : Int32), .unset] []))
    refine own_st (fun _ k => XS.iloadN X223.here hx rfl (hb hby at_239) rfl  k) ?_
    show own_Fin p e below G (T223.setTop (mkF m 240 #[iv p1, iv p2, iv p3, iv (2 : Int32), rv b163, rv b166, rv b169, rv b172, rv b175, iv ((c0 * u1) + c1), iv (u0 * u1), iv (1 : Int32), iv (1 : Int32), .unset] [(.int (2 : Int32))]))
    refine own_st (fun _ k => XS.iconst X223.here hx rfl (hb hby at_240) k) ?_
    show own_Fin p e below G (T223.setTop (mkF m 241 #[iv p1, iv p2, iv p3, iv (2 : Int32), rv b163, rv b166, rv b169, rv b172, rv b175, iv ((c0 * u1) + c1), iv (u0 * u1), iv (1 : Int32), iv (1 : Int32), .unset] [(.int (1 : Int32)), (.int (2 : Int32))]))
    refine own_st (fun _ k => XS.icmpNo X223.here hx rfl (hb hby at_241) rfl (tlt (by decide : ((1 : Int32) < (2 : Int32)))).2.2.2 k) ?_
    show own_Fin p e below G (T223.setTop (mkF m 244 #[iv p1, iv p2, iv p3, iv (2 : Int32), rv b163, rv b166, rv b169, rv b172, rv b175, iv ((c0 * u1) + c1), iv (u0 * u1), iv (1 : Int32), iv (1 : Int32), .unset] []))
    refine own_st (fun _ k => XS.aload X223.here hx rfl (hb hby at_244) rfl rfl k) ?_
    show own_Fin p e below G (T223.setTop (mkF m 246 #[iv p1, iv p2, iv p3, iv (2 : Int32), rv b163, rv b166, rv b169, rv b172, rv b175, iv ((c0 * u1) + c1), iv (u0 * u1), iv (1 : Int32), iv (1 : Int32), .unset] [(.ref b169)]))
    refine own_st (fun _ k => XS.iconst X223.here hx rfl (hb hby at_246) k) ?_
    show own_Fin p e below G (T223.setTop (mkF m 247 #[iv p1, iv p2, iv p3, iv (2 : Int32), rv b163, rv b166, rv b169, rv b172, rv b175, iv ((c0 * u1) + c1), iv (u0 * u1), iv (1 : Int32), iv (1 : Int32), .unset] [(.int (1 : Int32)), (.ref b169)]))
    refine own_st (fun _ k => XS.aload X223.here hx rfl (hb hby at_247) rfl rfl k) ?_
    show own_Fin p e below G (T223.setTop (mkF m 249 #[iv p1, iv p2, iv p3, iv (2 : Int32), rv b163, rv b166, rv b169, rv b172, rv b175, iv ((c0 * u1) + c1), iv (u0 * u1), iv (1 : Int32), iv (1 : Int32), .unset] [(.ref b175), (.int (1 : Int32)), (.ref b169)]))
    refine own_st (fun _ k => XS.iconst X223.here hx rfl (hb hby at_249) k) ?_
    show own_Fin p e below G (T223.setTop (mkF m 250 #[iv p1, iv p2, iv p3, iv (2 : Int32), rv b163, rv b166, rv b169, rv b172, rv b175, iv ((c0 * u1) + c1), iv (u0 * u1), iv (1 : Int32), iv (1 : Int32), .unset] [(.int (1 : Int32)), (.ref b175), (.int (1 : Int32)), (.ref b169)]))
    refine own_st (fun _ k => own_ldI X223 hx hZ e223 f224_4 (j := (1 : Int32)) (n := 2) rfl (by decide) (g := (mkF m 250 #[iv p1, iv p2, iv p3, iv (2 : Int32), rv b163, rv b166, rv b169, rv b172, rv b175, iv ((c0 * u1) + c1), iv (u0 * u1), iv (1 : Int32), iv (1 : Int32), .unset] [(.int (1 : Int32)), (.ref b175), (.int (1 : Int32)), (.ref b169)])) rfl rfl (hb hby at_250) k) ?_
    show own_Fin p e below G (T223.setTop (mkF m 251 #[iv p1, iv p2, iv p3, iv (2 : Int32), rv b163, rv b166, rv b169, rv b172, rv b175, iv ((c0 * u1) + c1), iv (u0 * u1), iv (1 : Int32), iv (1 : Int32), .unset] [(.int (c1 + (1 : Int32))), (.int (1 : Int32)), (.ref b169)]))
    obtain ⟨T227, h227, X227, e227, W227, V227, st227⟩ := own_stI X223 hx hZ e223 V223 (j := (1 : Int32)) (n := 3) rfl (by decide) (g := (mkF m 251 #[iv p1, iv p2, iv p3, iv (2 : Int32), rv b163, rv b166, rv b169, rv b172, rv b175, iv ((c0 * u1) + c1), iv (u0 * u1), iv (1 : Int32), iv (1 : Int32), .unset] [(.int (c1 + (1 : Int32))), (.int (1 : Int32)), (.ref b169)])) rfl rfl (hb hby at_251)
    clear X223 e223 V223
    have f228_0 := f224_0.other W227 ne_b163_b169
    clear f224_0
    have f228_1 := f224_1.other W227 ne_b166_b169
    clear f224_1 f228_1
    have f228_3 := f224_3.other W227 (Ne.symm ne_b169_b172)
    clear f224_3
    have f228_4 := f224_4.other W227 (Ne.symm ne_b169_b175)
    clear f224_4 f228_4
    have K229 : Keep h0 h227 [] := K225.wr W227 (Or.inr sz_b169)
    clear K225 W227
    have N230 := Fr.snoc X227 N226 g_b169
    clear N226
    replace V227 : own_AV Z h227 b169 .int (own_is [c0, (c1 + (1 : Int32)), (0 : Int32)]) := V227
    refine own_st st227 ?_
    clear st227
    show own_Fin p e below G (T227.setTop (mkF m 252 #[iv p1, iv p2, iv p3, iv (2 : Int32), rv b163, rv b166, rv b169, rv b172, rv b175, iv ((c0 * u1) + c1), iv (u0 * u1), iv (1 : Int32), iv (1 : Int32), .unset] []))
    refine own_st (fun _ k => XS.iload X227.here hx rfl (hb hby at_252) rfl  k) ?_
    show own_Fin p e below G (T227.setTop (mkF m 254 #[iv p1, iv p2, iv p3, iv (2 : Int32), rv b163, rv b166, rv b169, rv b172, rv b175, iv ((c0 * u1) + c1), iv (u0 * u1), iv (1 : Int32), iv (1 : Int32), .unset] [(.int (1 : Int32))]))
    refine own_st (fun _ k => XS.ifNo X227.here hx rfl (hb hby at_254) rfl ((if0 _ _).trans (feq (by decide : ¬ ((1 : Int32) = (0 : Int32)))).1) k) ?_
    show own_Fin p e below G (T227.setTop (mkF m 257 #[iv p1, iv p2, iv p3, iv (2 : Int32), rv b163, rv b166, rv b169, rv b172, rv b175, iv ((c0 * u1) + c1), iv (u0 * u1), iv (1 : Int32), iv (1 : Int32), .unset] []))
    refine own_st (fun _ k => XS.aload X227.here hx rfl (hb hby at_257) rfl rfl k) ?_
    show own_Fin p e below G (T227.setTop (mkF m 259 #[iv p1, iv p2, iv p3, iv (2 : Int32), rv b163, rv b166, rv b169, rv b172, rv b175, iv ((c0 * u1) + c1), iv (u0 * u1), iv (1 : Int32), iv (1 : Int32), .unset] [(.ref b172)]))
    refine own_st (fun _ k => XS.iconst X227.here hx rfl (hb hby at_259) k) ?_
    show own_Fin p e below G (T227.setTop (mkF m 260 #[iv p1, iv p2, iv p3, iv (2 : Int32), rv b163, rv b166, rv b169, rv b172, rv b175, iv ((c0 * u1) + c1), iv (u0 * u1), iv (1 : Int32), iv (1 : Int32), .unset] [(.int (1 : Int32)), (.ref b172)]))
    refine own_st (fun _ k => own_ldI X227 hx hZ e227 f228_3 (j := (1 : Int32)) (n := 2) rfl (by decide) (g := (mkF m 260 #[iv p1, iv p2, iv p3, iv (2 : Int32), rv b163, rv b166, rv b169, rv b172, rv b175, iv ((c0 * u1) + c1), iv (u0 * u1), iv (1 : Int32), iv (1 : Int32), .unset] [(.int (1 : Int32)), (.ref b172)])) rfl rfl (hb hby at_260) k) ?_
    clear f228_3
    show own_Fin p e below G (T227.setTop (mkF m 261 #[iv p1, iv p2, iv p3, iv (2 : Int32), rv b163, rv b166, rv b169, rv b172, rv b175, iv ((c0 * u1) + c1), iv (u0 * u1), iv (1 : Int32), iv (1 : Int32), .unset] [(.int u1)]))
    refine own_st (fun _ k => XS.aload X227.here hx rfl (hb hby at_261) rfl rfl k) ?_
    show own_Fin p e below G (T227.setTop (mkF m 263 #[iv p1, iv p2, iv p3, iv (2 : Int32), rv b163, rv b166, rv b169, rv b172, rv b175, iv ((c0 * u1) + c1), iv (u0 * u1), iv (1 : Int32), iv (1 : Int32), .unset] [(.ref b163), (.int u1)]))
    refine own_st (fun _ k => XS.iconst X227.here hx rfl (hb hby at_263) k) ?_
    show own_Fin p e below G (T227.setTop (mkF m 264 #[iv p1, iv p2, iv p3, iv (2 : Int32), rv b163, rv b166, rv b169, rv b172, rv b175, iv ((c0 * u1) + c1), iv (u0 * u1), iv (1 : Int32), iv (1 : Int32), .unset] [(.int (1 : Int32)), (.ref b163), (.int u1)]))
    refine own_st (fun _ k => own_ldI X227 hx hZ e227 f228_0 (j := (1 : Int32)) (n := 3) rfl (by decide) (g := (mkF m 264 #[iv p1, iv p2, iv p3, iv (2 : Int32), rv b163, rv b166, rv b169, rv b172, rv b175, iv ((c0 * u1) + c1), iv (u0 * u1), iv (1 : Int32), iv (1 : Int32), .unset] [(.int (1 : Int32)), (.ref b163), (.int u1)])) rfl rfl (hb hby at_264) k) ?_
    show own_Fin p e below G (T227.setTop (mkF m 265 #[iv p1, iv p2, iv p3, iv (2 : Int32), rv b163, rv b166, rv b169, rv b172, rv b175, iv ((c0 * u1) + c1), iv (u0 * u1), iv (1 : Int32), iv (1 : Int32), .unset] [(.int u1), (.int u1)]))
    refine own_st (fun _ k => XS.icmpNo X227.here hx rfl (hb hby at_265) rfl (teq (rfl : u1 = u1)).2 k) ?_
    show own_Fin p e below G (T227.setTop (mkF m 268 #[iv p1, iv p2, iv p3, iv (2 : Int32), rv b163, rv b166, rv b169, rv b172, rv b175, iv ((c0 * u1) + c1), iv (u0 * u1), iv (1 : Int32), iv (1 : Int32), .unset] []))
    refine own_st (fun _ k => XS.iconst X227.here hx rfl (hb hby at_268) k) ?_
    show own_Fin p e below G (T227.setTop (mkF m 269 #[iv p1, iv p2, iv p3, iv (2 : Int32), rv b163, rv b166, rv b169, rv b172, rv b175, iv ((c0 * u1) + c1), iv (u0 * u1), iv (1 : Int32), iv (1 : Int32), .unset] [(.int (1 : Int32))]))
    refine own_st (fun _ k => XS.goto X227.here hx rfl (pc0 := 269) (pc' := 273) rfl (hb hby at_269) (by decide) (by decide) k) ?_
    show own_Fin p e below G (T227.setTop (mkF m 273 #[iv p1, iv p2, iv p3, iv (2 : Int32), rv b163, rv b166, rv b169, rv b172, rv b175, iv ((c0 * u1) + c1), iv (u0 * u1), iv (1 : Int32), iv (1 : Int32), .unset] [(.int (1 : Int32))]))
    refine own_st (fun _ k => XS.istore X227.here hx rfl (hb hby at_273) rfl (l' := #[iv p1, iv p2, iv p3, iv (2 : Int32), rv b163, rv b166, rv b169, rv b172, rv b175, iv ((c0 * u1) + c1), iv (u0 * u1), iv (1 : Int32), iv (1 : Int32), .unset]) rfl k) ?_
    show own_Fin p e below G (T227.setTop (mkF m 275 #[iv p1, iv p2, iv p3, iv (2 : Int32), rv b163, rv b166, rv b169, rv b172, rv b175, iv ((c0 * u1) + c1), iv (u0 * u1), iv (1 : Int32), iv (1 : Int32), .unset] []))
    refine own_st (fun _ k => XS.iloadN X227.here hx rfl (hb hby at_275) rfl  k) ?_
    show own_Fin p e below G (T227.setTop (mkF m 276 #[iv p1, iv p2, iv p3, iv (2 : Int32), rv b163, rv b166, rv b169, rv b172, rv b175, iv ((c0 * u1) + c1), iv (u0 * u1), iv (1 : Int32), iv (1 : Int32), .unset] [(.int (2 : Int32))]))
    refine own_st (fun _ k => XS.iconst X227.here hx rfl (hb hby at_276) k) ?_
    show own_Fin p e below G (T227.setTop (mkF m 277 #[iv p1, iv p2, iv p3, iv (2 : Int32), rv b163, rv b166, rv b169, rv b172, rv b175, iv ((c0 * u1) + c1), iv (u0 * u1), iv (1 : Int32), iv (1 : Int32), .unset] [(.int (2 : Int32)), (.int (2 : Int32))]))
    refine own_st (fun _ k => XS.icmpYes X227.here hx rfl (pc0 := 277) (pc' := 311) rfl (hb hby at_277) rfl (flt (by decide : ¬ ((2 : Int32) < (2 : Int32)))).2.2.2 (by decide) (by decide) k) ?_
    show own_Fin p e below G (T227.setTop (mkF m 311 #[iv p1, iv p2, iv p3, iv (2 : Int32), rv b163, rv b166, rv b169, rv b172, rv b175, iv ((c0 * u1) + c1), iv (u0 * u1), iv (1 : Int32), iv (1 : Int32), .unset] []))
    refine own_st (fun _ k => XS.iload X227.here hx rfl (hb hby at_311) rfl  k) ?_
    show own_Fin p e below G (T227.setTop (mkF m 313 #[iv p1, iv p2, iv p3, iv (2 : Int32), rv b163, rv b166, rv b169, rv b172, rv b175, iv ((c0 * u1) + c1), iv (u0 * u1), iv (1 : Int32), iv (1 : Int32), .unset] [(.int (1 : Int32))]))
    refine own_st (fun _ k => XS.ifYes X227.here hx rfl (pc0 := 313) (pc' := 318) rfl (hb hby at_313) rfl ((if0 _ _).trans (feq (by decide : ¬ ((1 : Int32) = (0 : Int32)))).2) (by decide) (by decide) k) ?_
    show own_Fin p e below G (T227.setTop (mkF m 318 #[iv p1, iv p2, iv p3, iv (2 : Int32), rv b163, rv b166, rv b169, rv b172, rv b175, iv ((c0 * u1) + c1), iv (u0 * u1), iv (1 : Int32), iv (1 : Int32), .unset] []))
    refine own_st (fun _ k => XS.iload X227.here hx rfl (hb hby at_318) rfl  k) ?_
    show own_Fin p e below G (T227.setTop (mkF m 320 #[iv p1, iv p2, iv p3, iv (2 : Int32), rv b163, rv b166, rv b169, rv b172, rv b175, iv ((c0 * u1) + c1), iv (u0 * u1), iv (1 : Int32), iv (1 : Int32), .unset] [(.int ((c0 * u1) + c1))]))
    refine own_st (fun _ k => XS.iconst X227.here hx rfl (hb hby at_320) k) ?_
    show own_Fin p e below G (T227.setTop (mkF m 321 #[iv p1, iv p2, iv p3, iv (2 : Int32), rv b163, rv b166, rv b169, rv b172, rv b175, iv ((c0 * u1) + c1), iv (u0 * u1), iv (1 : Int32), iv (1 : Int32), .unset] [(.int (1 : Int32)), (.int ((c0 * u1) + c1))]))
    refine own_st (fun _ k => XS.iadd X227.here hx rfl (hb hby at_321) rfl k) ?_
    show own_Fin p e below G (T227.setTop (mkF m 322 #[iv p1, iv p2, iv p3, iv (2 : Int32), rv b163, rv b166, rv b169, rv b172, rv b175, iv ((c0 * u1) + c1), iv (u0 * u1), iv (1 : Int32), iv (1 : Int32), .unset] [(.int (((c0 * u1) + c1) + (1 : Int32)))]))
    refine own_st (fun _ k => XS.iload X227.here hx rfl (hb hby at_322) rfl  k) ?_
    show own_Fin p e below G (T227.setTop (mkF m 324 #[iv p1, iv p2, iv p3, iv (2 : Int32), rv b163, rv b166, rv b169, rv b172, rv b175, iv ((c0 * u1) + c1), iv (u0 * u1), iv (1 : Int32), iv (1 : Int32), .unset] [(.int (u0 * u1)), (.int (((c0 * u1) + c1) + (1 : Int32)))]))
    refine own_st (fun _ k => XS.icmpNo X227.here hx rfl (hb hby at_324) rfl (tlt (own_w2a r_c0 r_c1 r_u0 r_u1 d0).1).2.1 k) ?_
    show own_Fin p e below G (T227.setTop (mkF m 327 #[iv p1, iv p2, iv p3, iv (2 : Int32), rv b163, rv b166, rv b169, rv b172, rv b175, iv ((c0 * u1) + c1), iv (u0 * u1), iv (1 : Int32), iv (1 : Int32), .unset] []))
    refine own_st (fun _ k => XS.aload X227.here hx rfl (hb hby at_327) rfl rfl k) ?_
    show own_Fin p e below G (T227.setTop (mkF m 329 #[iv p1, iv p2, iv p3, iv (2 : Int32), rv b163, rv b166, rv b169, rv b172, rv b175, iv ((c0 * u1) + c1), iv (u0 * u1), iv (1 : Int32), iv (1 : Int32), .unset] [(.ref b169)]))
    refine own_st (fun _ k => XS.iconst X227.here hx rfl (hb hby at_329) k) ?_
    show own_Fin p e below G (T227.setTop (mkF m 330 #[iv p1, iv p2, iv p3, iv (2 : Int32), rv b163, rv b166, rv b169, rv b172, rv b175, iv ((c0 * u1) + c1), iv (u0 * u1), iv (1 : Int32), iv (1 : Int32), .unset] [(.int (0 : Int32)), (.ref b169)]))
    refine own_st (fun _ k => own_ldI X227 hx hZ e227 V227 (j := (0 : Int32)) (n := 3) rfl (by decide) (g := (mkF m 330 #[iv p1, iv p2, iv p3, iv (2 : Int32), rv b163, rv b166, rv b169, rv b172, rv b175, iv ((c0 * u1) + c1), iv (u0 * u1), iv (1 : Int32), iv (1 : Int32), .unset] [(.int (0 : Int32)), (.ref b169)])) rfl rfl (hb hby at_330) k) ?_
    show own_Fin p e below G (T227.setTop (mkF m 331 #[iv p1, iv p2, iv p3, iv (2 : Int32), rv b163, rv b166, rv b169, rv b172, rv b175, iv ((c0 * u1) + c1), iv (u0 * u1), iv (1 : Int32), iv (1 : Int32), .unset] [(.int c0)]))
    refine own_st (fun _ k => XS.aload X227.here hx rfl (hb hby at_331) rfl rfl k) ?_
    show own_Fin p e below G (T227.setTop (mkF m 333 #[iv p1, iv p2, iv p3, iv (2 : Int32), rv b163, rv b166, rv b169, rv b172, rv b175, iv ((c0 * u1) + c1), iv (u0 * u1), iv (1 : Int32), iv (1 : Int32), .unset] [(.ref b163), (.int c0)]))
    refine own_st (fun _ k => XS.iconst X227.here hx rfl (hb hby at_333) k) ?_
    show own_Fin p e below G (T227.setTop (mkF m 334 #[iv p1, iv p2, iv p3, iv (2 : Int32), rv b163, rv b166, rv b169, rv b172, rv b175, iv ((c0 * u1) + c1), iv (u0 * u1), iv (1 : Int32), iv (1 : Int32), .unset] [(.int (0 : Int32)), (.ref b163), (.int c0)]))
    refine own_st (fun _ k => own_ldI X227 hx hZ e227 f228_0 (j := (0 : Int32)) (n := 3) rfl (by decide) (g := (mkF m 334 #[iv p1, iv p2, iv p3, iv (2 : Int32), rv b163, rv b166, rv b169, rv b172, rv b175, iv ((c0 * u1) + c1), iv (u0 * u1), iv (1 : Int32), iv (1 : Int32), .unset] [(.int (0 : Int32)), (.ref b163), (.int c0)])) rfl rfl (hb hby at_334) k) ?_
    show own_Fin p e below G (T227.setTop (mkF m 335 #[iv p1, iv p2, iv p3, iv (2 : Int32), rv b163, rv b166, rv b169, rv b172, rv b175, iv ((c0 * u1) + c1), iv (u0 * u1), iv (1 : Int32), iv (1 : Int32), .unset] [(.int u0), (.int c0)]))
    obtain ⟨_, _, ⟨T231, L231, k231, n231⟩, -, X231, ⟨Lc231, hQ231, l231, y231, z231⟩, st231⟩ := Jvm.LawKit.callS X227 hx (y := own_y2) hown (mvT hZ (own_w hw 12 rfl)) (mvT hZ (own_w hw 13 rfl)) (mvT hZ (own_w hw 3 rfl)) (mvT hZ (own_w hw 14 rfl)) (by decide) (backOf (W := 0) (rm_in l Z a0 hw [] c0 u0 h227 n0 (Nat.le_trans Z0 K229.1) (own_ge r_c0.1) (own_lt_of r_c0)) hZ (own_w hw 14 rfl) (own_w hw 3 rfl) (by decide) (by decide)) (g := (mkF m 335 #[iv p1, iv p2, iv p3, iv (2 : Int32), rv b163, rv b166, rv b169, rv b172, rv b175, iv ((c0 * u1) + c1), iv (u0 * u1), iv (1 : Int32), iv (1 : Int32), .unset] [(.int u0), (.int c0)])) rfl (by rw [hml]; rfl) (argsL := [(.int c0), (.int u0)]) (rest := []) (lenOf pd__II_Z_317 rfl) rfl (by show 2 * 0 + _ ≤ _; exact Nat.le_of_eq rfl) (hb hby at_335) (fun _ _ => ⟨rfl, e227, (by decide : 5 + 0 ≤ _), (by decide : 13 + 0 ≤ _)⟩)
    clear X227 e227
    dsimp only [Pt.U, Pt.locs, Pt.cells, Pt.slots] at X231 l231 y231 z231 st231 hQ231
    obtain rfl : k231 = (5 : Nat) := y231
    obtain rfl : n231 = (13 : Nat) := z231
    obtain ⟨rfl, N231q, e231⟩ := hQ231
    skip
    have N231 : Fr n0 L231 := by rw [l231]; exact Fr.app N230 N231q
    clear N230 l231 N231q
    refine own_st st231 ?_
    clear st231
    show own_Fin p e below G (T231.setTop (mkF m 338 #[iv p1, iv p2, iv p3, iv (2 : Int32), rv b163, rv b166, rv b169, rv b172, rv b175, iv ((c0 * u1) + c1), iv (u0 * u1), iv (1 : Int32), iv (1 : Int32), .unset] [(.int (1 : Int32))]))
    refine own_st (fun _ k => XS.ifNo X231.here hx rfl (hb hby at_338) rfl ((if0 _ _).trans (feq (by decide : ¬ ((1 : Int32) = (0 : Int32)))).1) k) ?_
    show own_Fin p e below G (T231.setTop (mkF m 341 #[iv p1, iv p2, iv p3, iv (2 : Int32), rv b163, rv b166, rv b169, rv b172, rv b175, iv ((c0 * u1) + c1), iv (u0 * u1), iv (1 : Int32), iv (1 : Int32), .unset] []))
    refine own_st (fun _ k => XS.aload X231.here hx rfl (hb hby at_341) rfl rfl k) ?_
    show own_Fin p e below G (T231.setTop (mkF m 343 #[iv p1, iv p2, iv p3, iv (2 : Int32), rv b163, rv b166, rv b169, rv b172, rv b175, iv ((c0 * u1) + c1), iv (u0 * u1), iv (1 : Int32), iv (1 : Int32), .unset] [(.ref b169)]))
    refine own_st (fun _ k => XS.iconst X231.here hx rfl (hb hby at_343) k) ?_
    show own_Fin p e below G (T231.setTop (mkF m 344 #[iv p1, iv p2, iv p3, iv (2 : Int32), rv b163, rv b166, rv b169, rv b172, rv b175, iv ((c0 * u1) + c1), iv (u0 * u1), iv (1 : Int32), iv (1 : Int32), .unset] [(.int (1 : Int32)), (.ref b169)]))
    refine own_st (fun _ k => own_ldI X231 hx hZ e231 V227 (j := (1 : Int32)) (n := 3) rfl (by decide) (g := (mkF m 344 #[iv p1, iv p2, iv p3, iv (2 : Int32), rv b163, rv b166, rv b169, rv b172, rv b175, iv ((c0 * u1) + c1), iv (u0 * u1), iv (1 : Int32), iv (1 : Int32), .unset] [(.int (1 : Int32)), (.ref b169)])) rfl rfl (hb hby at_344) k) ?_
    show own_Fin p e below G (T231.setTop (mkF m 345 #[iv p1, iv p2, iv p3, iv (2 : Int32), rv b163, rv b166, rv b169, rv b172, rv b175, iv ((c0 * u1) + c1), iv (u0 * u1), iv (1 : Int32), iv (1 : Int32), .unset] [(.int (c1 + (1 : Int32)))]))
    refine own_st (fun _ k => XS.aload X231.here hx rfl (hb hby at_345) rfl rfl k) ?_
    show own_Fin p e below G (T231.setTop (mkF m 347 #[iv p1, iv p2, iv p3, iv (2 : Int32), rv b163, rv b166, rv b169, rv b172, rv b175, iv ((c0 * u1) + c1), iv (u0 * u1), iv (1 : Int32), iv (1 : Int32), .unset] [(.ref b163), (.int (c1 + (1 : Int32)))]))
    refine own_st (fun _ k => XS.iconst X231.here hx rfl (hb hby at_347) k) ?_
    show own_Fin p e below G (T231.setTop (mkF m 348 #[iv p1, iv p2, iv p3, iv (2 : Int32), rv b163, rv b166, rv b169, rv b172, rv b175, iv ((c0 * u1) + c1), iv (u0 * u1), iv (1 : Int32), iv (1 : Int32), .unset] [(.int (1 : Int32)), (.ref b163), (.int (c1 + (1 : Int32)))]))
    refine own_st (fun _ k => own_ldI X231 hx hZ e231 f228_0 (j := (1 : Int32)) (n := 3) rfl (by decide) (g := (mkF m 348 #[iv p1, iv p2, iv p3, iv (2 : Int32), rv b163, rv b166, rv b169, rv b172, rv b175, iv ((c0 * u1) + c1), iv (u0 * u1), iv (1 : Int32), iv (1 : Int32), .unset] [(.int (1 : Int32)), (.ref b163), (.int (c1 + (1 : Int32)))])) rfl rfl (hb hby at_348) k) ?_
    show own_Fin p e below G (T231.setTop (mkF m 349 #[iv p1, iv p2, iv p3, iv (2 : Int32), rv b163, rv b166, rv b169, rv b172, rv b175, iv ((c0 * u1) + c1), iv (u0 * u1), iv (1 : Int32), iv (1 : Int32), .unset] [(.int u1), (.int (c1 + (1 : Int32)))]))
    obtain ⟨_, _, ⟨T232, L232, k232, n232⟩, -, X232, ⟨Lc232, hQ232, l232, y232, z232⟩, st232⟩ := Jvm.LawKit.callS X231 hx (y := own_y2) hown (mvT hZ (own_w hw 12 rfl)) (mvT hZ (own_w hw 13 rfl)) (mvT hZ (own_w hw 3 rfl)) (mvT hZ (own_w hw 14 rfl)) (by decide) (backOf (W := 0) (rm_in l Z a0 hw [] (c1 + (1 : Int32)) u1 h227 n0 (Nat.le_trans Z0 K229.1) (own_g1 r_c1 r_u1) d0) hZ (own_w hw 14 rfl) (own_w hw 3 rfl) (by decide) (by decide)) (g := (mkF m 349 #[iv p1, iv p2, iv p3, iv (2 : Int32), rv b163, rv b166, rv b169, rv b172, rv b175, iv ((c0 * u1) + c1), iv (u0 * u1), iv (1 : Int32), iv (1 : Int32), .unset] [(.int u1), (.int (c1 + (1 : Int32)))])) rfl (by rw [hml]; rfl) (argsL := [(.int (c1 + (1 : Int32))), (.int u1)]) (rest := []) (lenOf pd__II_Z_317 rfl) rfl (by show 2 * 0 + _ ≤ _; exact Nat.le_of_eq rfl) (hb hby at_349) (fun _ _ => ⟨rfl, e231, (by decide : 5 + 0 ≤ _), (by decide : 13 + 0 ≤ _)⟩)
    clear X231 e231
    dsimp only [Pt.U, Pt.locs, Pt.cells, Pt.slots] at X232 l232 y232 z232 st232 hQ232
    obtain rfl : k232 = (5 : Nat) := y232
    obtain rfl : n232 = (13 : Nat) := z232
    obtain ⟨rfl, N232q, e232⟩ := hQ232
    skip
    have N232 : Fr n0 L232 := by rw [l232]; exact Fr.app N231 N232q
    clear N231 l232 N232q
    refine own_st st232 ?_
    clear st232
    show own_Fin p e below G (T232.setTop (mkF m 352 #[iv p1, iv p2, iv p3, iv (2 : Int32), rv b163, rv b166, rv b169, rv b172, rv b175, iv ((c0 * u1) + c1), iv (u0 * u1), iv (1 : Int32), iv (1 : Int32), .unset] [(.int (1 : Int32))]))
    refine own_st (fun _ k => XS.ifNo X232.here hx rfl (hb hby at_352) rfl ((if0 _ _).trans (feq (by decide : ¬ ((1 : Int32) = (0 : Int32)))).1) k) ?_
    show own_Fin p e below G (T232.setTop (mkF m 355 #[iv p1, iv p2, iv p3, iv (2 : Int32), rv b163, rv b166, rv b169, rv b172, rv b175, iv ((c0 * u1) + c1), iv (u0 * u1), iv (1 : Int32), iv (1 : Int32), .unset] []))
    refine own_st (fun _ k => XS.aload X232.here hx rfl (hb hby at_355) rfl rfl k) ?_
    show own_Fin p e below G (T232.setTop (mkF m 357 #[iv p1, iv p2, iv p3, iv (2 : Int32), rv b163, rv b166, rv b169, rv b172, rv b175, iv ((c0 * u1) + c1), iv (u0 * u1), iv (1 : Int32), iv (1 : Int32), .unset] [(.ref b169)]))
    refine own_st (fun _ k => XS.iconst X232.here hx rfl (hb hby at_357) k) ?_
    show own_Fin p e below G (T232.setTop (mkF m 358 #[iv p1, iv p2, iv p3, iv (2 : Int32), rv b163, rv b166, rv b169, rv b172, rv b175, iv ((c0 * u1) + c1), iv (u0 * u1), iv (1 : Int32), iv (1 : Int32), .unset] [(.int (2 : Int32)), (.ref b169)]))
    refine own_st (fun _ k => own_ldI X232 hx hZ e232 V227 (j := (2 : Int32)) (n := 3) rfl (by decide) (g := (mkF m 358 #[iv p1, iv p2, iv p3, iv (2 : Int32), rv b163, rv b166, rv b169, rv b172, rv b175, iv ((c0 * u1) + c1), iv (u0 * u1), iv (1 : Int32), iv (1 : Int32), .unset] [(.int (2 : Int32)), (.ref b169)])) rfl rfl (hb hby at_358) k) ?_
    show own_Fin p e below G (T232.setTop (mkF m 359 #[iv p1, iv p2, iv p3, iv (2 : Int32), rv b163, rv b166, rv b169, rv b172, rv b175, iv ((c0 * u1) + c1), iv (u0 * u1), iv (1 : Int32), iv (1 : Int32), .unset] [(.int (0 : Int32))]))
    refine own_st (fun _ k => XS.aload X232.here hx rfl (hb hby at_359) rfl rfl k) ?_
    show own_Fin p e below G (T232.setTop (mkF m 361 #[iv p1, iv p2, iv p3, iv (2 : Int32), rv b163, rv b166, rv b169, rv b172, rv b175, iv ((c0 * u1) + c1), iv (u0 * u1), iv (1 : Int32), iv (1 : Int32), .unset] [(.ref b163), (.int (0 : Int32))]))
    refine own_st (fun _ k => XS.iconst X232.here hx rfl (hb hby at_361) k) ?_
    show own_Fin p e below G (T232.setTop (mkF m 362 #[iv p1, iv p2, iv p3, iv (2 : Int32), rv b163, rv b166, rv b169, rv b172, rv b175, iv ((c0 * u1) + c1), iv (u0 * u1), iv (1 : Int32), iv (1 : Int32), .unset] [(.int (2 : Int32)), (.ref b163), (.int (0 : Int32))]))
    refine own_st (fun _ k => own_ldI X232 hx hZ e232 f228_0 (j := (2 : Int32)) (n := 3) rfl (by decide) (g := (mkF m 362 #[iv p1, iv p2, iv p3, iv (2 : Int32), rv b163, rv b166, rv b169, rv b172, rv b175, iv ((c0 * u1) + c1), iv (u0 * u1), iv (1 : Int32), iv (1 : Int32), .unset] [(.int (2 : Int32)), (.ref b163), (.int (0 : Int32))])) rfl rfl (hb hby at_362) k) ?_
    show own_Fin p e below G (T232.setTop (mkF m 363 #[iv p1, iv p2, iv p3, iv (2 : Int32), rv b163, rv b166, rv b169, rv b172, rv b175, iv ((c0 * u1) + c1), iv (u0 * u1), iv (1 : Int32), iv (1 : Int32), .unset] [(.int u2), (.int (0 : Int32))]))
    obtain ⟨_, _, ⟨T233, L233, k233, n233⟩, -, X233, ⟨Lc233, hQ233, l233, y233, z233⟩, st233⟩ := Jvm.LawKit.callS X232 hx (y := own_y2) hown (mvT hZ (own_w hw 12 rfl)) (mvT hZ (own_w hw 13 rfl)) (mvT hZ (own_w hw 3 rfl)) (mvT hZ (own_w hw 14 rfl)) (by decide) (backOf (W := 0) (rm_in l Z a0 hw [] (0 : Int32) u2 h227 n0 (Nat.le_trans Z0 K229.1) (by decide) (own_pos r_u2)) hZ (own_w hw 14 rfl) (own_w hw 3 rfl) (by decide) (by decide)) (g := (mkF m 363 #[iv p1, iv p2, iv p3, iv (2 : Int32), rv b163, rv b166, rv b169, rv b172, rv b175, iv ((c0 * u1) + c1), iv (u0 * u1), iv (1 : Int32), iv (1 : Int32), .unset] [(.int u2), (.int (0 : Int32))])) rfl (by rw [hml]; rfl) (argsL := [(.int (0 : Int32)), (.int u2)]) (rest := []) (lenOf pd__II_Z_317 rfl) rfl (by show 2 * 0 + _ ≤ _; exact Nat.le_of_eq rfl) (hb hby at_363) (fun _ _ => ⟨rfl, e232, (by decide : 5 + 0 ≤ _), (by decide : 13 + 0 ≤ _)⟩)
    clear X232 e232
    dsimp only [Pt.U, Pt.locs, Pt.cells, Pt.slots] at X233 l233 y233 z233 st233 hQ233
    obtain rfl : k233 = (5 : Nat) := y233
    obtain rfl : n233 = (13 : Nat) := z233
    obtain ⟨rfl, N233q, e233⟩ := hQ233
    skip
    have N233 : Fr n0 L233 := by rw [l233]; exact Fr.app N232 N233q
    clear N232 l233 N233q
    refine own_st st233 ?_
    clear st233
    show own_Fin p e below G (T233.setTop (mkF m 366 #[iv p1, iv p2, iv p3, iv (2 : Int32), rv b163, rv b166, rv b169, rv b172, rv b175, iv ((c0 * u1) + c1), iv (u0 * u1), iv (1 : Int32), iv (1 : Int32), .unset] [(.int (1 : Int32))]))
    refine own_st (fun _ k => XS.ifNo X233.here hx rfl (hb hby at_366) rfl ((if0 _ _).trans (feq (by decide : ¬ ((1 : Int32) = (0 : Int32)))).1) k) ?_
    show own_Fin p e below G (T233.setTop (mkF m 369 #[iv p1, iv p2, iv p3, iv (2 : Int32), rv b163, rv b166, rv b169, rv b172, rv b175, iv ((c0 * u1) + c1), iv (u0 * u1), iv (1 : Int32), iv (1 : Int32), .unset] []))
    refine own_st (fun _ k => XS.iconst X233.here hx rfl (hb hby at_369) k) ?_
    show own_Fin p e below G (T233.setTop (mkF m 370 #[iv p1, iv p2, iv p3, iv (2 : Int32), rv b163, rv b166, rv b169, rv b172, rv b175, iv ((c0 * u1) + c1), iv (u0 * u1), iv (1 : Int32), iv (1 : Int32), .unset] [(.int (1 : Int32))]))
    refine own_st (fun _ k => XS.goto X233.here hx rfl (pc0 := 370) (pc' := 374) rfl (hb hby at_370) (by decide) (by decide) k) ?_
    show own_Fin p e below G (T233.setTop (mkF m 374 #[iv p1, iv p2, iv p3, iv (2 : Int32), rv b163, rv b166, rv b169, rv b172, rv b175, iv ((c0 * u1) + c1), iv (u0 * u1), iv (1 : Int32), iv (1 : Int32), .unset] [(.int (1 : Int32))]))
    refine own_st (fun _ k => XS.istore X233.here hx rfl (hb hby at_374) rfl (l' := #[iv p1, iv p2, iv p3, iv (2 : Int32), rv b163, rv b166, rv b169, rv b172, rv b175, iv ((c0 * u1) + c1), iv (u0 * u1), iv (1 : Int32), iv (1 : Int32), iv (1 : Int32)]) rfl k) ?_
    show own_Fin p e below G (T233.setTop (mkF m 376 #[iv p1, iv p2, iv p3, iv (2 : Int32), rv b163, rv b166, rv b169, rv b172, rv b175, iv ((c0 * u1) + c1), iv (u0 * u1), iv (1 : Int32), iv (1 : Int32), iv (1 : Int32)] []))
    refine own_st (fun _ k => XS.iload X233.here hx rfl (hb hby at_376) rfl  k) ?_
    show own_Fin p e below G (T233.setTop (mkF m 378 #[iv p1, iv p2, iv p3, iv (2 : Int32), rv b163, rv b166, rv b169, rv b172, rv b175, iv ((c0 * u1) + c1), iv (u0 * u1), iv (1 : Int32), iv (1 : Int32), iv (1 : Int32)] [(.int (1 : Int32))]))
    refine own_st (fun _ k => XS.ifNo X233.here hx rfl (hb hby at_378) rfl ((if0 _ _).trans (feq (by decide : ¬ ((1 : Int32) = (0 : Int32)))).1) k) ?_
    show own_Fin p e below G (T233.setTop (mkF m 381 #[iv p1, iv p2, iv p3, iv (2 : Int32), rv b163, rv b166, rv b169, rv b172, rv b175, iv ((c0 * u1) + c1), iv (u0 * u1), iv (1 : Int32), iv (1 : Int32), iv (1 : Int32)] []))
    refine own_st (fun _ k => XS.iload X233.here hx rfl (hb hby at_381) rfl  k) ?_
    show own_Fin p e below G (T233.setTop (mkF m 383 #[iv p1, iv p2, iv p3, iv (2 : Int32), rv b163, rv b166, rv b169, rv b172, rv b175, iv ((c0 * u1) + c1), iv (u0 * u1), iv (1 : Int32), iv (1 : Int32), iv (1 : Int32)] [(.int (1 : Int32))]))
    refine own_st (fun _ k => XS.ifNo X233.here hx rfl (hb hby at_383) rfl ((if0 _ _).trans (feq (by decide : ¬ ((1 : Int32) = (0 : Int32)))).1) k) ?_
    show own_Fin p e below G (T233.setTop (mkF m 386 #[iv p1, iv p2, iv p3, iv (2 : Int32), rv b163, rv b166, rv b169, rv b172, rv b175, iv ((c0 * u1) + c1), iv (u0 * u1), iv (1 : Int32), iv (1 : Int32), iv (1 : Int32)] []))
    refine own_st (fun _ k => XS.iloadN X233.here hx rfl (hb hby at_386) rfl  k) ?_
    show own_Fin p e below G (T233.setTop (mkF m 387 #[iv p1, iv p2, iv p3, iv (2 : Int32), rv b163, rv b166, rv b169, rv b172, rv b175, iv ((c0 * u1) + c1), iv (u0 * u1), iv (1 : Int32), iv (1 : Int32), iv (1 : Int32)] [(.int (2 : Int32))]))
    refine own_st (fun _ k => XS.aload X233.here hx rfl (hb hby at_387) rfl rfl k) ?_
    show own_Fin p e below G (T233.setTop (mkF m 389 #[iv p1, iv p2, iv p3, iv (2 : Int32), rv b163, rv b166, rv b169, rv b172, rv b175, iv ((c0 * u1) + c1), iv (u0 * u1), iv (1 : Int32), iv (1 : Int32), iv (1 : Int32)] [(.ref b169), (.int (2 : Int32))]))
    refine own_st (fun _ k => XS.aload X233.here hx rfl (hb hby at_389) rfl rfl k) ?_
    show own_Fin p e below G (T233.setTop (mkF m 391 #[iv p1, iv p2, iv p3, iv (2 : Int32), rv b163, rv b166, rv b169, rv b172, rv b175, iv ((c0 * u1) + c1), iv (u0 * u1), iv (1 : Int32), iv (1 : Int32), iv (1 : Int32)] [(.ref b163), (.ref b169), (.int (2 : Int32))]))
    obtain ⟨_, _, ⟨T234, L234, k234, n234⟩, -, X234, ⟨Lc234, hQ234, l234, y234, z234⟩, st234⟩ := Jvm.LawKit.callS X233 hx (y := own_y0) hown (mvT hZ (own_w hw 1 rfl)) (mvT hZ (own_w hw 2 rfl)) (mvT hZ (own_w hw 3 rfl)) (mvT hZ (own_w hw 4 rfl)) (by decide) (backOf (W := 0) (rm_v2 l Z a0 hw [] b169 b163 c0 (c1 + (1 : Int32)) (0 : Int32) u0 u1 u2 h227 n0 (Nat.le_trans Z0 K229.1) V227 f228_0) hZ (own_w hw 4 rfl) (own_w hw 3 rfl) (by decide) (by decide)) (g := (mkF m 391 #[iv p1, iv p2, iv p3, iv (2 : Int32), rv b163, rv b166, rv b169, rv b172, rv b175, iv ((c0 * u1) + c1), iv (u0 * u1), iv (1 : Int32), iv (1 : Int32), iv (1 : Int32)] [(.ref b163), (.ref b169), (.int (2 : Int32))])) rfl (by rw [hml]; rfl) (argsL := [(.int (2 : Int32)), (.ref b169), (.ref b163)]) (rest := []) (lenOf pd__I_I_I_I_555 rfl) rfl (by show 2 * 0 + _ ≤ _; exact Nat.le_of_eq rfl) (hb hby at_391) (fun _ _ => ⟨rfl, e233, (by decide : 5 + 0 ≤ _), (by decide : 13 + 0 ≤ _)⟩)
    clear V227 f228_0 K229 X233 e233
    dsimp only [Pt.U, Pt.locs, Pt.cells, Pt.slots] at X234 l234 y234 z234 st234 hQ234
    obtain rfl : k234 = (5 : Nat) := y234
    obtain rfl : n234 = (13 : Nat) := z234
    obtain ⟨rfl, N234q, e234⟩ := hQ234
    clear e234
    skip
    have N234 : Fr n0 L234 := by rw [l234]; exact Fr.app N233 N234q
    clear N233 l234 N234q
    refine own_st st234 ?_
    clear st234
    show own_Fin p e below G (T234.setTop (mkF m 394 #[iv p1, iv p2, iv p3, iv (2 : Int32), rv b163, rv b166, rv b169, rv b172, rv b175, iv ((c0 * u1) + c1), iv (u0 * u1), iv (1 : Int32), iv (1 : Int32), iv (1 : Int32)] [(.int ((c0 * u1) + (c1 + (1 : Int32))))]))
    refine own_st (fun _ k => XS.iload X234.here hx rfl (hb hby at_394) rfl  k) ?_
    show own_Fin p e below G (T234.setTop (mkF m 396 #[iv p1, iv p2, iv p3, iv (2 : Int32), rv b163, rv b166, rv b169, rv b172, rv b175, iv ((c0 * u1) + c1), iv (u0 * u1), iv (1 : Int32), iv (1 : Int32), iv (1 : Int32)] [(.int ((c0 * u1) + c1)), (.int ((c0 * u1) + (c1 + (1 : Int32))))]))
    refine own_st (fun _ k => XS.iconst X234.here hx rfl (hb hby at_396) k) ?_
    show own_Fin p e below G (T234.setTop (mkF m 397 #[iv p1, iv p2, iv p3, iv (2 : Int32), rv b163, rv b166, rv b169, rv b172, rv b175, iv ((c0 * u1) + c1), iv (u0 * u1), iv (1 : Int32), iv (1 : Int32), iv (1 : Int32)] [(.int (1 : Int32)), (.int ((c0 * u1) + c1)), (.int ((c0 * u1) + (c1 + (1 : Int32))))]))
    refine own_st (fun _ k => XS.iadd X234.here hx rfl (hb hby at_397) rfl k) ?_
    show own_Fin p e below G (T234.setTop (mkF m 398 #[iv p1, iv p2, iv p3, iv (2 : Int32), rv b163, rv b166, rv b169, rv b172, rv b175, iv ((c0 * u1) + c1), iv (u0 * u1), iv (1 : Int32), iv (1 : Int32), iv (1 : Int32)] [(.int (((c0 * u1) + c1) + (1 : Int32))), (.int ((c0 * u1) + (c1 + (1 : Int32))))]))
    refine own_st (fun _ k => XS.icmpNo X234.here hx rfl (hb hby at_398) rfl (teq (own_w2a r_c0 r_c1 r_u0 r_u1 d0).2).2 k) ?_
    show own_Fin p e below G (T234.setTop (mkF m 401 #[iv p1, iv p2, iv p3, iv (2 : Int32), rv b163, rv b166, rv b169, rv b172, rv b175, iv ((c0 * u1) + c1), iv (u0 * u1), iv (1 : Int32), iv (1 : Int32), iv (1 : Int32)] []))
    refine own_st (fun _ k => XS.iconst X234.here hx rfl (hb hby at_401) k) ?_
    show own_Fin p e below G (T234.setTop (mkF m 402 #[iv p1, iv p2, iv p3, iv (2 : Int32), rv b163, rv b166, rv b169, rv b172, rv b175, iv ((c0 * u1) + c1), iv (u0 * u1), iv (1 : Int32), iv (1 : Int32), iv (1 : Int32)] [(.int (1 : Int32))]))
    refine own_st (fun _ k => XS.goto X234.here hx rfl (pc0 := 402) (pc' := 406) rfl (hb hby at_402) (by decide) (by decide) k) ?_
    show own_Fin p e below G (T234.setTop (mkF m 406 #[iv p1, iv p2, iv p3, iv (2 : Int32), rv b163, rv b166, rv b169, rv b172, rv b175, iv ((c0 * u1) + c1), iv (u0 * u1), iv (1 : Int32), iv (1 : Int32), iv (1 : Int32)] [(.int (1 : Int32))]))
    refine own_out X234 Bd.notSynchronized (v := (some (.int (1 : Int32)))) (fun h => by rw [Bd.returns] at h; cases h) hG (fun fs hr => retN X234 hx (t := .boolean) Bd.returns (by simp) (hb hby at_406) hr) (by decide) (by decide) ?_
    exact ⟨rfl, N234⟩
  · show own_Fin p e below G (T220.setTop (mkF m 199 #[iv p1, iv p2, iv p3, iv (2 : Int32), rv b163, rv b166, rv b169, rv b172, rv b175, iv ((c0 * u1) + c1), iv (u0 * u1), .unset, .unset, .unset] [(.int (1 : Int32))]))
    refine own_st (fun _ k => XS.istore X220.here hx rfl (hb hby at_199) rfl (l' := #[iv p1, iv p2, iv p3, iv (2 : Int32), rv b163, rv b166, rv b169, rv b172, rv b175, iv ((c0 * u1) + c1), iv (u0 * u1), iv (1 : Int32), .unset, .unset]) rfl k) ?_
    show own_Fin p e below G (T220.setTop (mkF m 201 #[iv p1, iv p2, iv p3, iv (2 : Int32), rv b163, rv b166, rv b169, rv b172, rv b175, iv ((c0 * u1) + c1), iv (u0 * u1), iv (1 : Int32), .unset, .unset] []))
    refine own_st (fun _ k => XS.iconst X220.here hx rfl (hb hby at_201) k) ?_
    show own_Fin p e below G (T220.setTop (mkF m 202 #[iv p1, iv p2, iv p3, iv (2 : Int32), rv b163, rv b166, rv b169, rv b172, rv b175, iv ((c0 * u1) + c1), iv (u0 * u1), iv (1 : Int32), .unset, .unset] [(.int (1 : Int32))]))
    refine own_st (fun _ k => XS.istore X220.here hx rfl (hb hby at_202) rfl (l' := #[iv p1, iv p2, iv p3, iv (2 : Int32), rv b163, rv b166, rv b169, rv b172, rv b175, iv ((c0 * u1) + c1), iv (u0 * u1), iv (1 : Int32), iv (1 : Int32), .unset]) rfl k) ?_
    show own_Fin p e below G (T220.setTop (mkF m 204 #[iv p1, iv p2, iv p3, iv (2 : Int32), rv b163, rv b166, rv b169, rv b172, rv b175, iv ((c0 * u1) + c1), iv (u0 * u1), iv (1 : Int32), iv (1 : Int32), .unset] []))
    refine own_st (fun _ k => XS.iloadN X220.here hx rfl (hb hby at_204) rfl  k) ?_
    show own_Fin p e below G (T220.setTop (mkF m 205 #[iv p1, iv p2, iv p3, iv (2 : Int32), rv b163, rv b166, rv b169, rv b172, rv b175, iv ((c0 * u1) + c1), iv (u0 * u1), iv (1 : Int32), iv (1 : Int32), .unset] [(.int (2 : Int32))]))
    refine own_st (fun _ k => XS.ifNo X220.here hx rfl (hb hby at_205) rfl ((if0 _ _).trans (tlt (by decide : ((0 : Int32) < (2 : Int32)))).2.2.2) k) ?_
    show own_Fin p e below G (T220.setTop (mkF m 208 #[iv p1, iv p2, iv p3, iv (2 : Int32), rv b163, rv b166, rv b169, rv b172, rv b175, iv ((c0 * u1) + c1), iv (u0 * u1), iv (1 : Int32), iv (1 : Int32), .unset] []))
    refine own_st (fun _ k => XS.aload X220.here hx rfl (hb hby at_208) rfl rfl k) ?_
    show own_Fin p e below G (T220.setTop (mkF m 210 #[iv p1, iv p2, iv p3, iv (2 : Int32), rv b163, rv b166, rv b169, rv b172, rv b175, iv ((c0 * u1) + c1), iv (u0 * u1), iv (1 : Int32), iv (1 : Int32), .unset] [(.ref b169)]))
    refine own_st (fun _ k => XS.iconst X220.here hx rfl (hb hby at_210) k) ?_
    show own_Fin p e below G (T220.setTop (mkF m 211 #[iv p1, iv p2, iv p3, iv (2 : Int32), rv b163, rv b166, rv b169, rv b172, rv b175, iv ((c0 * u1) + c1), iv (u0 * u1), iv (1 : Int32), iv (1 : Int32), .unset] [(.int (0 : Int32)), (.ref b169)]))
    refine own_st (fun _ k => XS.aload X220.here hx rfl (hb hby at_211) rfl rfl k) ?_
    show own_Fin p e below G (T220.setTop (mkF m 213 #[iv p1, iv p2, iv p3, iv (2 : Int32), rv b163, rv b166, rv b169, rv b172, rv b175, iv ((c0 * u1) + c1), iv (u0 * u1), iv (1 : Int32), iv (1 : Int32), .unset] [(.ref b175), (.int (0 : Int32)), (.ref b169)]))
    refine own_st (fun _ k => XS.iconst X220.here hx rfl (hb hby at_213) k) ?_
    show own_Fin p e below G (T220.setTop (mkF m 214 #[iv p1, iv p2, iv p3, iv (2 : Int32), rv b163, rv b166, rv b169, rv b172, rv b175, iv ((c0 * u1) + c1), iv (u0 * u1), iv (1 : Int32), iv (1 : Int32), .unset] [(.int (0 : Int32)), (.ref b175), (.int (0 : Int32)), (.ref b169)]))
    refine own_st (fun _ k => own_ldI X220 hx hZ rfl gA220 (j := (0 : Int32)) (n := 2) rfl (by decide) (g := (mkF m 214 #[iv p1, iv p2, iv p3, iv (2 : Int32), rv b163, rv b166, rv b169, rv b172, rv b175, iv ((c0 * u1) + c1), iv (u0 * u1), iv (1 : Int32), iv (1 : Int32), .unset] [(.int (0 : Int32)), (.ref b175), (.int (0 : Int32)), (.ref b169)])) rfl rfl (hb hby at_214) k) ?_
    show own_Fin p e below G (T220.setTop (mkF m 215 #[iv p1, iv p2, iv p3, iv (2 : Int32), rv b163, rv b166, rv b169, rv b172, rv b175, iv ((c0 * u1) + c1), iv (u0 * u1), iv (1 : Int32), iv (1 : Int32), .unset] [(.int (c0 + (1 : Int32))), (.int (0 : Int32)), (.ref b169)]))
    obtain ⟨T235, h235, X235, e235, W235, V235, st235⟩ := own_stI X220 hx hZ rfl f221_2 (j := (0 : Int32)) (n := 3) rfl (by decide) (g := (mkF m 215 #[iv p1, iv p2, iv p3, iv (2 : Int32), rv b163, rv b166, rv b169, rv b172, rv b175, iv ((c0 * u1) + c1), iv (u0 * u1), iv (1 : Int32), iv (1 : Int32), .unset] [(.int (c0 + (1 : Int32))), (.int (0 : Int32)), (.ref b169)])) rfl rfl (hb hby at_215)
    have f236_0 := f221_0.other W235 ne_b163_b169
    have f236_1 := f221_1.other W235 ne_b166_b169
    have f236_3 := f221_3.other W235 (Ne.symm ne_b169_b172)
    have f236_4 := gA220.other W235 (Ne.symm ne_b169_b175)
    have K237 : Keep h0 h235 [] := K222.wr W235 (Or.inr sz_b169)
    clear W235
    have N238 := Fr.snoc X235 N220 g_b169
    replace V235 : own_AV Z h235 b169 .int (own_is [(c0 + (1 : Int32)), (0 : Int32), (0 : Int32)]) := V235
    refine own_st st235 ?_
    clear st235
    show own_Fin p e below G (T235.setTop (mkF m 216 #[iv p1, iv p2, iv p3, iv (2 : Int32), rv b163, rv b166, rv b169, rv b172, rv b175, iv ((c0 * u1) + c1), iv (u0 * u1), iv (1 : Int32), iv (1 : Int32), .unset] []))
    refine own_st (fun _ k => XS.iload X235.here hx rfl (hb hby at_216) rfl  k) ?_
    show own_Fin p e below G (T235.setTop (mkF m 218 #[iv p1, iv p2, iv p3, iv (2 : Int32), rv b163, rv b166, rv b169, rv b172, rv b175, iv ((c0 * u1) + c1), iv (u0 * u1), iv (1 : Int32), iv (1 : Int32), .unset] [(.int (1 : Int32))]))
    refine own_st (fun _ k => XS.ifNo X235.here hx rfl (hb hby at_218) rfl ((if0 _ _).trans (feq (by decide : ¬ ((1 : Int32) = (0 : Int32)))).1) k) ?_
    show own_Fin p e below G (T235.setTop (mkF m 221 #[iv p1, iv p2, iv p3, iv (2 : Int32), rv b163, rv b166, rv b169, rv b172, rv b175, iv ((c0 * u1) + c1), iv (u0 * u1), iv (1 : Int32), iv (1 : Int32), .unset] []))
    refine own_st (fun _ k => XS.aload X235.here hx rfl (hb hby at_221) rfl rfl k) ?_
    show own_Fin p e below G (T235.setTop (mkF m 223 #[iv p1, iv p2, iv p3, iv (2 : Int32), rv b163, rv b166, rv b169, rv b172, rv b175, iv ((c0 * u1) + c1), iv (u0 * u1), iv (1 : Int32), iv (1 : Int32), .unset] [(.ref b172)]))
    refine own_st (fun _ k => XS.iconst X235.here hx rfl (hb hby at_223) k) ?_
    show own_Fin p e below G (T235.setTop (mkF m 224 #[iv p1, iv p2, iv p3, iv (2 : Int32), rv b163, rv b166, rv b169, rv b172, rv b175, iv ((c0 * u1) + c1), iv (u0 * u1), iv (1 : Int32), iv (1 : Int32), .unset] [(.int (0 : Int32)), (.ref b172)]))
    refine own_st (fun _ k => own_ldI X235 hx hZ e235 f236_3 (j := (0 : Int32)) (n := 2) rfl (by decide) (g := (mkF m 224 #[iv p1, iv p2, iv p3, iv (2 : Int32), rv b163, rv b166, rv b169, rv b172, rv b175, iv ((c0 * u1) + c1), iv (u0 * u1), iv (1 : Int32), iv (1 : Int32), .unset] [(.int (0 : Int32)), (.ref b172)])) rfl rfl (hb hby at_224) k) ?_
    show own_Fin p e below G (T235.setTop (mkF m 225 #[iv p1, iv p2, iv p3, iv (2 : Int32), rv b163, rv b166, rv b169, rv b172, rv b175, iv ((c0 * u1) + c1), iv (u0 * u1), iv (1 : Int32), iv (1 : Int32), .unset] [(.int u0)]))
    refine own_st (fun _ k => XS.aload X235.here hx rfl (hb hby at_225) rfl rfl k) ?_
    show own_Fin p e below G (T235.setTop (mkF m 227 #[iv p1, iv p2, iv p3, iv (2 : Int32), rv b163, rv b166, rv b169, rv b172, rv b175, iv ((c0 * u1) + c1), iv (u0 * u1), iv (1 : Int32), iv (1 : Int32), .unset] [(.ref b163), (.int u0)]))
    refine own_st (fun _ k => XS.iconst X235.here hx rfl (hb hby at_227) k) ?_
    show own_Fin p e below G (T235.setTop (mkF m 228 #[iv p1, iv p2, iv p3, iv (2 : Int32), rv b163, rv b166, rv b169, rv b172, rv b175, iv ((c0 * u1) + c1), iv (u0 * u1), iv (1 : Int32), iv (1 : Int32), .unset] [(.int (0 : Int32)), (.ref b163), (.int u0)]))
    refine own_st (fun _ k => own_ldI X235 hx hZ e235 f236_0 (j := (0 : Int32)) (n := 3) rfl (by decide) (g := (mkF m 228 #[iv p1, iv p2, iv p3, iv (2 : Int32), rv b163, rv b166, rv b169, rv b172, rv b175, iv ((c0 * u1) + c1), iv (u0 * u1), iv (1 : Int32), iv (1 : Int32), .unset] [(.int (0 : Int32)), (.ref b163), (.int u0)])) rfl rfl (hb hby at_228) k) ?_
    show own_Fin p e below G (T235.setTop (mkF m 229 #[iv p1, iv p2, iv p3, iv (2 : Int32), rv b163, rv b166, rv b169, rv b172, rv b175, iv ((c0 * u1) + c1), iv (u0 * u1), iv (1 : Int32), iv (1 : Int32), .unset] [(.int u0), (.int u0)]))
    refine own_st (fun _ k => XS.icmpNo X235.here hx rfl (hb hby at_229) rfl (teq (rfl : u0 = u0)).2 k) ?_
    show own_Fin p e below G (T235.setTop (mkF m 232 #[iv p1, iv p2, iv p3, iv (2 : Int32), rv b163, rv b166, rv b169, rv b172, rv b175, iv ((c0 * u1) + c1), iv (u0 * u1), iv (1 : Int32), iv (1 : Int32), .unset] []))
    refine own_st (fun _ k => XS.iconst X235.here hx rfl (hb hby at_232) k) ?_
    show own_Fin p e below G (T235.setTop (mkF m 233 #[iv p1, iv p2, iv p3, iv (2 : Int32), rv b163, rv b166, rv b169, rv b172, rv b175, iv ((c0 * u1) + c1), iv (u0 * u1), iv (1 : Int32), iv (1 : Int32), .unset] [(.int (1 : Int32))]))
    refine own_st (fun _ k => XS.goto X235.here hx rfl (pc0 := 233) (pc' := 237) rfl (hb hby at_233) (by decide) (by decide) k) ?_
    show own_Fin p e below G (T235.setTop (mkF m 237 #[iv p1, iv p2, iv p3, iv (2 : Int32), rv b163, rv b166, rv b169, rv b172, rv b175, iv ((c0 * u1) + c1), iv (u0 * u1), iv (1 : Int32), iv (1 : Int32), .unset] [(.int (1 : Int32))]))
    refine own_st (fun _ k => XS.istore X235.here hx rfl (hb hby at_237) rfl (l' := #[iv p1, iv p2, iv p3, iv (2 : Int32), rv b163, rv b166, rv b169, rv b172, rv b175, iv ((c0 * u1) + c1), iv (u0 * u1), iv (1 : Int32), iv (1 : Int32), .unset]) rfl k) ?_
    show own_Fin p e below G (T235.setTop (mkF m 239 #[iv p1, iv p2, iv p3, iv (2 : Int32), rv b163, rv b166, rv b169, rv b172, rv b175, iv ((c0 * u1) + c1), iv (u0 * u1), iv (1 : Int32), iv (1 : Int32), .unset] []))
    refine own_st (fun _ k => XS.iloadN X235.here hx rfl (hb hby at_239) rfl  k) ?_
    show own_Fin p e below G (T235.setTop (mkF m 240 #[iv p1, iv p2, iv p3, iv (2 : Int32), rv b163, rv b166, rv b169, rv b172, rv b175, iv ((c0 * u1) + c1), iv (u0 * u1), iv (1 : Int32), iv (1 : Int32), .unset] [(.int (2 : Int32))]))
    refine own_st (fun _ k => XS.iconst X235.here hx rfl (hb hby at_240) k) ?_
    show own_Fin p e below G (T235.setTop (mkF m 241 #[iv p1, iv p2, iv p3, iv (2 : Int32), rv b163, rv b166, rv b169, rv b172, rv b175, iv ((c0 * u1) + c1), iv (u0 * u1), iv (1 : Int32), iv (1 : Int32), .unset] [(.int (1 : Int32)), (.int (2 : Int32))]))
    refine own_st (fun _ k => XS.icmpNo X235.here hx rfl (hb hby at_241) rfl (tlt (by decide : ((1 : Int32) < (2 : Int32)))).2.2.2 k) ?_
    show own_Fin p e below G (T235.setTop (mkF m 244 #[iv p1, iv p2, iv p3, iv (2 : Int32), rv b163, rv b166, rv b169, rv b172, rv b175, iv ((c0 * u1) + c1), iv (u0 * u1), iv (1 : Int32), iv (1 : Int32), .unset] []))
    refine own_st (fun _ k => XS.aload X235.here hx rfl (hb hby at_244) rfl rfl k) ?_
    show own_Fin p e below G (T235.setTop (mkF m 246 #[iv p1, iv p2, iv p3, iv (2 : Int32), rv b163, rv b166, rv b169, rv b172, rv b175, iv ((c0 * u1) + c1), iv (u0 * u1), iv (1 : Int32), iv (1 : Int32), .unset] [(.ref b169)]))
    refine own_st (fun _ k => XS.iconst X235.here hx rfl (hb hby at_246) k) ?_
    show own_Fin p e below G (T235.setTop (mkF m 247 #[iv p1, iv p2, iv p3, iv (2 : Int32), rv b163, rv b166, rv b169, rv b172, rv b175, iv ((c0 * u1) + c1), iv (u0 * u1), iv (1 : Int32), iv (1 : Int32), .unset] [(.int (1 : Int32)), (.ref b169)]))
    refine own_st (fun _ k => XS.aload X235.here hx rfl (hb hby at_247) rfl rfl k) ?_
    show own_Fin p e below G (T235.setTop (mkF m 249 #[iv p1, iv p2, iv p3, iv (2 : Int32), rv b163, rv b166, rv b169, rv b172, rv b175, iv ((c0 * u1) + c1), iv (u0 * u1), iv (1 : Int32), iv (1 : Int32), .unset] [(.ref b175), (.int (1 : Int32)), (.ref b169)]))
    refine own_st (fun _ k => XS.iconst X235.here hx rfl (hb hby at_249) k) ?_
    show own_Fin p e below G (T235.setTop (mkF m 250 #[iv p1, iv p2, iv p3, iv (2 : Int32), rv b163, rv b166, rv b169, rv b172, rv b175, iv ((c0 * u1) + c1), iv (u0 * u1), iv (1 : Int32), iv (1 : Int32), .unset] [(.int (1 : Int32)), (.ref b175), (.int (1 : Int32)), (.ref b169)]))
    refine own_st (fun _ k => own_ldI X235 hx hZ e235 f236_4 (j := (1 : Int32)) (n := 2) rfl (by decide) (g := (mkF m 250 #[iv p1, iv p2, iv p3, iv (2 : Int32), rv b163, rv b166, rv b169, rv b172, rv b175, iv ((c0 * u1) + c1), iv (u0 * u1), iv (1 : Int32), iv (1 : Int32), .unset] [(.int (1 : Int32)), (.ref b175), (.int (1 : Int32)), (.ref b169)])) rfl rfl (hb hby at_250) k) ?_
    show own_Fin p e below G (T235.setTop (mkF m 251 #[iv p1, iv p2, iv p3, iv (2 : Int32), rv b163, rv b166, rv b169, rv b172, rv b175, iv ((c0 * u1) + c1), iv (u0 * u1), iv (1 : Int32), iv (1 : Int32), .unset] [(.int (0 : Int32)), (.int (1 : Int32)), (.ref b169)]))
    obtain ⟨T239, h239, X239, e239, W239, V239, st239⟩ := own_stI X235 hx hZ e235 V235 (j := (1 : Int32)) (n := 3) rfl (by decide) (g := (mkF m 251 #[iv p1, iv p2, iv p3, iv (2 : Int32), rv b163, rv b166, rv b169, rv b172, rv b175, iv ((c0 * u1) + c1), iv (u0 * u1), iv (1 : Int32), iv (1 : Int32), .unset] [(.int (0 : Int32)), (.int (1 : Int32)), (.ref b169)])) rfl rfl (hb hby at_251)
    clear X235 e235 V235
    have f240_0 := f236_0.other W239 ne_b163_b169
    clear f236_0
    have f240_1 := f236_1.other W239 ne_b166_b169
    clear f236_1 f240_1
    have f240_3 := f236_3.other W239 (Ne.symm ne_b169_b172)
    clear f236_3
    have f240_4 := f236_4.other W239 (Ne.symm ne_b169_b175)
    clear f236_4 f240_4
    have K241 : Keep h0 h239 [] := K237.wr W239 (Or.inr sz_b169)
    clear K237 W239
    have N242 := Fr.snoc X239 N238 g_b169
    clear N238
    replace V239 : own_AV Z h239 b169 .int (own_is [(c0 + (1 : Int32)), (0 : Int32), (0 : Int32)]) := V239
    refine own_st st239 ?_
    clear st239
    show own_Fin p e below G (T239.setTop (mkF m 252 #[iv p1, iv p2, iv p3, iv (2 : Int32), rv b163, rv b166, rv b169, rv b172, rv b175, iv ((c0 * u1) + c1), iv (u0 * u1), iv (1 : Int32), iv (1 : Int32), .unset] []))
    refine own_st (fun _ k => XS.iload X239.here hx rfl (hb hby at_252) rfl  k) ?_
    show own_Fin p e below G (T239.setTop (mkF m 254 #[iv p1, iv p2, iv p3, iv (2 : Int32), rv b163, rv b166, rv b169, rv b172, rv b175, iv ((c0 * u1) + c1), iv (u0 * u1), iv (1 : Int32), iv (1 : Int32), .unset] [(.int (1 : Int32))]))
    refine own_st (fun _ k => XS.ifNo X239.here hx rfl (hb hby at_254) rfl ((if0 _ _).trans (feq (by decide : ¬ ((1 : Int32) = (0 : Int32)))).1) k) ?_
    show own_Fin p e below G (T239.setTop (mkF m 257 #[iv p1, iv p2, iv p3, iv (2 : Int32), rv b163, rv b166, rv b169, rv b172, rv b175, iv ((c0 * u1) + c1), iv (u0 * u1), iv (1 : Int32), iv (1 : Int32), .unset] []))
    refine own_st (fun _ k => XS.aload X239.here hx rfl (hb hby at_257) rfl rfl k) ?_
    show own_Fin p e below G (T239.setTop (mkF m 259 #[iv p1, iv p2, iv p3, iv (2 : Int32), rv b163, rv b166, rv b169, rv b172, rv b175, iv ((c0 * u1) + c1), iv (u0 * u1), iv (1 : Int32), iv (1 : Int32), .unset] [(.ref b172)]))
    refine own_st (fun _ k => XS.iconst X239.here hx rfl (hb hby at_259) k) ?_
    show own_Fin p e below G (T239.setTop (mkF m 260 #[iv p1, iv p2, iv p3, iv (2 : Int32), rv b163, rv b166, rv b169, rv b172, rv b175, iv ((c0 * u1) + c1), iv (u0 * u1), iv (1 : Int32), iv (1 : Int32), .unset] [(.int (1 : Int32)), (.ref b172)]))
    refine own_st (fun _ k => own_ldI X239 hx hZ e239 f240_3 (j := (1 : Int32)) (n := 2) rfl (by decide) (g := (mkF m 260 #[iv p1, iv p2, iv p3, iv (2 : Int32), rv b163, rv b166, rv b169, rv b172, rv b175, iv ((c0 * u1) + c1), iv (u0 * u1), iv (1 : Int32), iv (1 : Int32), .unset] [(.int (1 : Int32)), (.ref b172)])) rfl rfl (hb hby at_260) k) ?_
    clear f240_3
    show own_Fin p e below G (T239.setTop (mkF m 261 #[iv p1, iv p2, iv p3, iv (2 : Int32), rv b163, rv b166, rv b169, rv b172, rv b175, iv ((c0 * u1) + c1), iv (u0 * u1), iv (1 : Int32), iv (1 : Int32), .unset] [(.int u1)]))
    refine own_st (fun _ k => XS.aload X239.here hx rfl (hb hby at_261) rfl rfl k) ?_
    show own_Fin p e below G (T239.setTop (mkF m 263 #[iv p1, iv p2, iv p3, iv (2 : Int32), rv b163, rv b166, rv b169, rv b172, rv b175, iv ((c0 * u1) + c1), iv (u0 * u1), iv (1 : Int32), iv (1 : Int32), .unset] [(.ref b163), (.int u1)]))
    refine own_st (fun _ k => XS.iconst X239.here hx rfl (hb hby at_263) k) ?_
    show own_Fin p e below G (T239.setTop (mkF m 264 #[iv p1, iv p2, iv p3, iv (2 : Int32), rv b163, rv b166, rv b169, rv b172, rv b175, iv ((c0 * u1) + c1), iv (u0 * u1), iv (1 : Int32), iv (1 : Int32), .unset] [(.int (1 : Int32)), (.ref b163), (.int u1)]))
    refine own_st (fun _ k => own_ldI X239 hx hZ e239 f240_0 (j := (1 : Int32)) (n := 3) rfl (by decide) (g := (mkF m 264 #[iv p1, iv p2, iv p3, iv (2 : Int32), rv b163, rv b166, rv b169, rv b172, rv b175, iv ((c0 * u1) + c1), iv (u0 * u1), iv (1 : Int32), iv (1 : Int32), .unset] [(.int (1 : Int32)), (.ref b163), (.int u1)])) rfl rfl (hb hby at_264) k) ?_
    show own_Fin p e below G (T239.setTop (mkF m 265 #[iv p1, iv p2, iv p3, iv (2 : Int32), rv b163, rv b166, rv b169, rv b172, rv b175, iv ((c0 * u1) + c1), iv (u0 * u1), iv (1 : Int32), iv (1 : Int32), .unset] [(.int u1), (.int u1)]))
    refine own_st (fun _ k => XS.icmpNo X239.here hx rfl (hb hby at_265) rfl (teq (rfl : u1 = u1)).2 k) ?_
    show own_Fin p e below G (T239.setTop (mkF m 268 #[iv p1, iv p2, iv p3, iv (2 : Int32), rv b163, rv b166, rv b169, rv b172, rv b175, iv ((c0 * u1) + c1), iv (u0 * u1), iv (1 : Int32), iv (1 : Int32), .unset] []))
    refine own_st (fun _ k => XS.iconst X239.here hx rfl (hb hby at_268) k) ?_
    show own_Fin p e below G (T239.setTop (mkF m 269 #[iv p1, iv p2, iv p3, iv (2 : Int32), rv b163, rv b166, rv b169, rv b172, rv b175, iv ((c0 * u1) + c1), iv (u0 * u1), iv (1 : Int32), iv (1 : Int32), .unset] [(.int (1 : Int32))]))
    refine own_st (fun _ k => XS.goto X239.here hx rfl (pc0 := 269) (pc' := 273) rfl (hb hby at_269) (by decide) (by decide) k) ?_
    show own_Fin p e below G (T239.setTop (mkF m 273 #[iv p1, iv p2, iv p3, iv (2 : Int32), rv b163, rv b166, rv b169, rv b172, rv b175, iv ((c0 * u1) + c1), iv (u0 * u1), iv (1 : Int32), iv (1 : Int32), .unset] [(.int (1 : Int32))]))
    refine own_st (fun _ k => XS.istore X239.here hx rfl (hb hby at_273) rfl (l' := #[iv p1, iv p2, iv p3, iv (2 : Int32), rv b163, rv b166, rv b169, rv b172, rv b175, iv ((c0 * u1) + c1), iv (u0 * u1), iv (1 : Int32), iv (1 : Int32), .unset]) rfl k) ?_
    show own_Fin p e below G (T239.setTop (mkF m 275 #[iv p1, iv p2, iv p3, iv (2 : Int32), rv b163, rv b166, rv b169, rv b172, rv b175, iv ((c0 * u1) + c1), iv (u0 * u1), iv (1 : Int32), iv (1 : Int32), .unset] []))
    refine own_st (fun _ k => XS.iloadN X239.here hx rfl (hb hby at_275) rfl  k) ?_
    show own_Fin p e below G (T239.setTop (mkF m 276 #[iv p1, iv p2, iv p3, iv (2 : Int32), rv b163, rv b166, rv b169, rv b172, rv b175, iv ((c0 * u1) + c1), iv (u0 * u1), iv (1 : Int32), iv (1 : Int32), .unset] [(.int (2 : Int32))]))
    refine own_st (fun _ k => XS.iconst X239.here hx rfl (hb hby at_276) k) ?_
    show own_Fin p e below G (T239.setTop (mkF m 277 #[iv p1, iv p2, iv p3, iv (2 : Int32), rv b163, rv b166, rv b169, rv b172, rv b175, iv ((c0 * u1) + c1), iv (u0 * u1), iv (1 : Int32), iv (1 : Int32), .unset] [(.int (2 : Int32)), (.int (2 : Int32))]))
    refine own_st (fun _ k => XS.icmpYes X239.here hx rfl (pc0 := 277) (pc' := 311) rfl (hb hby at_277) rfl (flt (by decide : ¬ ((2 : Int32) < (2 : Int32)))).2.2.2 (by decide) (by decide) k) ?_
    show own_Fin p e below G (T239.setTop (mkF m 311 #[iv p1, iv p2, iv p3, iv (2 : Int32), rv b163, rv b166, rv b169, rv b172, rv b175, iv ((c0 * u1) + c1), iv (u0 * u1), iv (1 : Int32), iv (1 : Int32), .unset] []))
    refine own_st (fun _ k => XS.iload X239.here hx rfl (hb hby at_311) rfl  k) ?_
    show own_Fin p e below G (T239.setTop (mkF m 313 #[iv p1, iv p2, iv p3, iv (2 : Int32), rv b163, rv b166, rv b169, rv b172, rv b175, iv ((c0 * u1) + c1), iv (u0 * u1), iv (1 : Int32), iv (1 : Int32), .unset] [(.int (1 : Int32))]))
    refine own_st (fun _ k => XS.ifYes X239.here hx rfl (pc0 := 313) (pc' := 318) rfl (hb hby at_313) rfl ((if0 _ _).trans (feq (by decide : ¬ ((1 : Int32) = (0 : Int32)))).2) (by decide) (by decide) k) ?_
    show own_Fin p e below G (T239.setTop (mkF m 318 #[iv p1, iv p2, iv p3, iv (2 : Int32), rv b163, rv b166, rv b169, rv b172, rv b175, iv ((c0 * u1) + c1), iv (u0 * u1), iv (1 : Int32), iv (1 : Int32), .unset] []))
    refine own_st (fun _ k => XS.iload X239.here hx rfl (hb hby at_318) rfl  k) ?_
    show own_Fin p e below G (T239.setTop (mkF m 320 #[iv p1, iv p2, iv p3, iv (2 : Int32), rv b163, rv b166, rv b169, rv b172, rv b175, iv ((c0 * u1) + c1), iv (u0 * u1), iv (1 : Int32), iv (1 : Int32), .unset] [(.int ((c0 * u1) + c1))]))
    refine own_st (fun _ k => XS.iconst X239.here hx rfl (hb hby at_320) k) ?_
    show own_Fin p e below G (T239.setTop (mkF m 321 #[iv p1, iv p2, iv p3, iv (2 : Int32), rv b163, rv b166, rv b169, rv b172, rv b175, iv ((c0 * u1) + c1), iv (u0 * u1), iv (1 : Int32), iv (1 : Int32), .unset] [(.int (1 : Int32)), (.int ((c0 * u1) + c1))]))
    refine own_st (fun _ k => XS.iadd X239.here hx rfl (hb hby at_321) rfl k) ?_
    show own_Fin p e below G (T239.setTop (mkF m 322 #[iv p1, iv p2, iv p3, iv (2 : Int32), rv b163, rv b166, rv b169, rv b172, rv b175, iv ((c0 * u1) + c1), iv (u0 * u1), iv (1 : Int32), iv (1 : Int32), .unset] [(.int (((c0 * u1) + c1) + (1 : Int32)))]))
    refine own_st (fun _ k => XS.iload X239.here hx rfl (hb hby at_322) rfl  k) ?_
    show own_Fin p e below G (T239.setTop (mkF m 324 #[iv p1, iv p2, iv p3, iv (2 : Int32), rv b163, rv b166, rv b169, rv b172, rv b175, iv ((c0 * u1) + c1), iv (u0 * u1), iv (1 : Int32), iv (1 : Int32), .unset] [(.int (u0 * u1)), (.int (((c0 * u1) + c1) + (1 : Int32)))]))
    refine own_st (fun _ k => XS.icmpNo X239.here hx rfl (hb hby at_324) rfl (tlt (own_w2b r_c0 r_c1 r_u0 r_u1 d0 d1).1).2.1 k) ?_
    show own_Fin p e below G (T239.setTop (mkF m 327 #[iv p1, iv p2, iv p3, iv (2 : Int32), rv b163, rv b166, rv b169, rv b172, rv b175, iv ((c0 * u1) + c1), iv (u0 * u1), iv (1 : Int32), iv (1 : Int32), .unset] []))
    refine own_st (fun _ k => XS.aload X239.here hx rfl (hb hby at_327) rfl rfl k) ?_
    show own_Fin p e below G (T239.setTop (mkF m 329 #[iv p1, iv p2, iv p3, iv (2 : Int32), rv b163, rv b166, rv b169, rv b172, rv b175, iv ((c0 * u1) + c1), iv (u0 * u1), iv (1 : Int32), iv (1 : Int32), .unset] [(.ref b169)]))
    refine own_st (fun _ k => XS.iconst X239.here hx rfl (hb hby at_329) k) ?_
    show own_Fin p e below G (T239.setTop (mkF m 330 #[iv p1, iv p2, iv p3, iv (2 : Int32), rv b163, rv b166, rv b169, rv b172, rv b175, iv ((c0 * u1) + c1), iv (u0 * u1), iv (1 : Int32), iv (1 : Int32), .unset] [(.int (0 : Int32)), (.ref b169)]))
    refine own_st (fun _ k => own_ldI X239 hx hZ e239 V239 (j := (0 : Int32)) (n := 3) rfl (by decide) (g := (mkF m 330 #[iv p1, iv p2, iv p3, iv (2 : Int32), rv b163, rv b166, rv b169, rv b172, rv b175, iv ((c0 * u1) + c1), iv (u0 * u1), iv (1 : Int32), iv (1 : Int32), .unset] [(.int (0 : Int32)), (.ref b169)])) rfl rfl (hb hby at_330) k) ?_
    show own_Fin p e below G (T239.setTop (mkF m 331 #[iv p1, iv p2, iv p3, iv (2 : Int32), rv b163, rv b166, rv b169, rv b172, rv b175, iv ((c0 * u1) + c1), iv (u0 * u1), iv (1 : Int32), iv (1 : Int32), .unset] [(.int (c0 + (1 : Int32)))]))
    refine own_st (fun _ k => XS.aload X239.here hx rfl (hb hby at_331) rfl rfl k) ?_
    show own_Fin p e below G (T239.setTop (mkF m 333 #[iv p1, iv p2, iv p3, iv (2 : Int32), rv b163, rv b166, rv b169, rv b172, rv b175, iv ((c0 * u1) + c1), iv (u0 * u1), iv (1 : Int32), iv (1 : Int32), .unset] [(.ref b163), (.int (c0 + (1 : Int32)))]))
    refine own_st (fun _ k => XS.iconst X239.here hx rfl (hb hby at_333) k) ?_
    show own_Fin p e below G (T239.setTop (mkF m 334 #[iv p1, iv p2, iv p3, iv (2 : Int32), rv b163, rv b166, rv b169, rv b172, rv b175, iv ((c0 * u1) + c1), iv (u0 * u1), iv (1 : Int32), iv (1 : Int32), .unset] [(.int (0 : Int32)), (.ref b163), (.int (c0 + (1 : Int32)))]))
    refine own_st (fun _ k => own_ldI X239 hx hZ e239 f240_0 (j := (0 : Int32)) (n := 3) rfl (by decide) (g := (mkF m 334 #[iv p1, iv p2, iv p3, iv (2 : Int32), rv b163, rv b166, rv b169, rv b172, rv b175, iv ((c0 * u1) + c1), iv (u0 * u1), iv (1 : Int32), iv (1 : Int32), .unset] [(.int (0 : Int32)), (.ref b163), (.int (c0 + (1 : Int32)))])) rfl rfl (hb hby at_334) k) ?_
    show own_Fin p e below G (T239.setTop (mkF m 335 #[iv p1, iv p2, iv p3, iv (2 : Int32), rv b163, rv b166, rv b169, rv b172, rv b175, iv ((c0 * u1) + c1), iv (u0 * u1), iv (1 : Int32), iv (1 : Int32), .unset] [(.int u0), (.int (c0 + (1 : Int32)))]))
    obtain ⟨_, _, ⟨T243, L243, k243, n243⟩, -, X243, ⟨Lc243, hQ243, l243, y243, z243⟩, st243⟩ := Jvm.LawKit.callS X239 hx (y := own_y2) hown (mvT hZ (own_w hw 12 rfl)) (mvT hZ (own_w hw 13 rfl)) (mvT hZ (own_w hw 3 rfl)) (mvT hZ (own_w hw 14 rfl)) (by decide) (backOf (W := 0) (rm_in l Z a0 hw [] (c0 + (1 : Int32)) u0 h239 n0 (Nat.le_trans Z0 K241.1) (own_g1 r_c0 r_u0) d1) hZ (own_w hw 14 rfl) (own_w hw 3 rfl) (by decide) (by decide)) (g := (mkF m 335 #[iv p1, iv p2, iv p3, iv (2 : Int32), rv b163, rv b166, rv b169, rv b172, rv b175, iv ((c0 * u1) + c1), iv (u0 * u1), iv (1 : Int32), iv (1 : Int32), .unset] [(.int u0), (.int (c0 + (1 : Int32)))])) rfl (by rw [hml]; rfl) (argsL := [(.int (c0 + (1 : Int32))), (.int u0)]) (rest := []) (lenOf pd__II_Z_317 rfl) rfl (by show 2 * 0 + _ ≤ _; exact Nat.le_of_eq rfl) (hb hby at_335) (fun _ _ => ⟨rfl, e239, (by decide : 5 + 0 ≤ _), (by decide : 13 + 0 ≤ _)⟩)
    clear X239 e239
    dsimp only [Pt.U, Pt.locs, Pt.cells, Pt.slots] at X243 l243 y243 z243 st243 hQ243
    obtain rfl : k243 = (5 : Nat) := y243
    obtain rfl : n243 = (13 : Nat) := z243
    obtain ⟨rfl, N243q, e243⟩ := hQ243
    skip
    have N243 : Fr n0 L243 := by rw [l243]; exact Fr.app N242 N243q
    clear N242 l243 N243q
    refine own_st st243 ?_
    clear st243
    show own_Fin p e below G (T243.setTop (mkF m 338 #[iv p1, iv p2, iv p3, iv (2 : Int32), rv b163, rv b166, rv b169, rv b172, rv b175, iv ((c0 * u1) + c1), iv (u0 * u1), iv (1 : Int32), iv (1 : Int32), .unset] [(.int (1 : Int32))]))
    refine own_st (fun _ k => XS.ifNo X243.here hx rfl (hb hby at_338) rfl ((if0 _ _).trans (feq (by decide : ¬ ((1 : Int32) = (0 : Int32)))).1) k) ?_
    show own_Fin p e below G (T243.setTop (mkF m 341 #[iv p1, iv p2, iv p3, iv (2 : Int32), rv b163, rv b166, rv b169, rv b172, rv b175, iv ((c0 * u1) + c1), iv (u0 * u1), iv (1 : Int32), iv (1 : Int32), .unset] []))
    refine own_st (fun _ k => XS.aload X243.here hx rfl (hb hby at_341) rfl rfl k) ?_
    show own_Fin p e below G (T243.setTop (mkF m 343 #[iv p1, iv p2, iv p3, iv (2 : Int32), rv b163, rv b166, rv b169, rv b172, rv b175, iv ((c0 * u1) + c1), iv (u0 * u1), iv (1 : Int32), iv (1 : Int32), .unset] [(.ref b169)]))
    refine own_st (fun _ k => XS.iconst X243.here hx rfl (hb hby at_343) k) ?_
    show own_Fin p e below G (T243.setTop (mkF m 344 #[iv p1, iv p2, iv p3, iv (2 : Int32), rv b163, rv b166, rv b169, rv b172, rv b175, iv ((c0 * u1) + c1), iv (u0 * u1), iv (1 : Int32), iv (1 : Int32), .unset] [(.int (1 : Int32)), (.ref b169)]))
    refine own_st (fun _ k => own_ldI X243 hx hZ e243 V239 (j := (1 : Int32)) (n := 3) rfl (by decide) (g := (mkF m 344 #[iv p1, iv p2, iv p3, iv (2 : Int32), rv b163, rv b166, rv b169, rv b172, rv b175, iv ((c0 * u1) + c1), iv (u0 * u1), iv (1 : Int32), iv (1 : Int32), .unset] [(.int (1 : Int32)), (.ref b169)])) rfl rfl (hb hby at_344) k) ?_
    show own_Fin p e below G (T243.setTop (mkF m 345 #[iv p1, iv p2, iv p3, iv (2 : Int32), rv b163, rv b166, rv b169, rv b172, rv b175, iv ((c0 * u1) + c1), iv (u0 * u1), iv (1 : Int32), iv (1 : Int32), .unset] [(.int (0 : Int32))]))
    refine own_st (fun _ k => XS.aload X243.here hx rfl (hb hby at_345) rfl rfl k) ?_
    show own_Fin p e below G (T243.setTop (mkF m 347 #[iv p1, iv p2, iv p3, iv (2 : Int32), rv b163, rv b166, rv b169, rv b172, rv b175, iv ((c0 * u1) + c1), iv (u0 * u1), iv (1 : Int32), iv (1 : Int32), .unset] [(.ref b163), (.int (0 : Int32))]))
    refine own_st (fun _ k => XS.iconst X243.here hx rfl (hb hby at_347) k) ?_
    show own_Fin p e below G (T243.setTop (mkF m 348 #[iv p1, iv p2, iv p3, iv (2 : Int32), rv b163, rv b166, rv b169, rv b172, rv b175, iv ((c0 * u1) + c1), iv (u0 * u1), iv (1 : Int32), iv (1 : Int32), .unset] [(.int (1 : Int32)), (.ref b163), (.int (0 : Int32))]))
    refine own_st (fun _ k => own_ldI X243 hx hZ e243 f240_0 (j := (1 : Int32)) (n := 3) rfl (by decide) (g := (mkF m 348 #[iv p1, iv p2, iv p3, iv (2 : Int32), rv b163, rv b166, rv b169, rv b172, rv b175, iv ((c0 * u1) + c1), iv (u0 * u1), iv (1 : Int32), iv (1 : Int32), .unset] [(.int (1 : Int32)), (.ref b163), (.int (0 : Int32))])) rfl rfl (hb hby at_348) k) ?_
    show own_Fin p e below G (T243.setTop (mkF m 349 #[iv p1, iv p2, iv p3, iv (2 : Int32), rv b163, rv b166, rv b169, rv b172, rv b175, iv ((c0 * u1) + c1), iv (u0 * u1), iv (1 : Int32), iv (1 : Int32), .unset] [(.int u1), (.int (0 : Int32))]))
    obtain ⟨_, _, ⟨T244, L244, k244, n244⟩, -, X244, ⟨Lc244, hQ244, l244, y244, z244⟩, st244⟩ := Jvm.LawKit.callS X243 hx (y := own_y2) hown (mvT hZ (own_w hw 12 rfl)) (mvT hZ (own_w hw 13 rfl)) (mvT hZ (own_w hw 3 rfl)) (mvT hZ (own_w hw 14 rfl)) (by decide) (backOf (W := 0) (rm_in l Z a0 hw [] (0 : Int32) u1 h239 n0 (Nat.le_trans Z0 K241.1) (by decide) (own_pos r_u1)) hZ (own_w hw 14 rfl) (own_w hw 3 rfl) (by decide) (by decide)) (g := (mkF m 349 #[iv p1, iv p2, iv p3, iv (2 : Int32), rv b163, rv b166, rv b169, rv b172, rv b175, iv ((c0 * u1) + c1), iv (u0 * u1), iv (1 : Int32), iv (1 : Int32), .unset] [(.int u1), (.int (0 : Int32))])) rfl (by rw [hml]; rfl) (argsL := [(.int (0 : Int32)), (.int u1)]) (rest := []) (lenOf pd__II_Z_317 rfl) rfl (by show 2 * 0 + _ ≤ _; exact Nat.le_of_eq rfl) (hb hby at_349) (fun _ _ => ⟨rfl, e243, (by decide : 5 + 0 ≤ _), (by decide : 13 + 0 ≤ _)⟩)
    clear X243 e243
    dsimp only [Pt.U, Pt.locs, Pt.cells, Pt.slots] at X244 l244 y244 z244 st244 hQ244
    obtain rfl : k244 = (5 : Nat) := y244
    obtain rfl : n244 = (13 : Nat) := z244
    obtain ⟨rfl, N244q, e244⟩ := hQ244
    skip
    have N244 : Fr n0 L244 := by rw [l244]; exact Fr.app N243 N244q
    clear N243 l244 N244q
    refine own_st st244 ?_
    clear st244
    show own_Fin p e below G (T244.setTop (mkF m 352 #[iv p1, iv p2, iv p3, iv (2 : Int32), rv b163, rv b166, rv b169, rv b172, rv b175, iv ((c0 * u1) + c1), iv (u0 * u1), iv (1 : Int32), iv (1 : Int32), .unset] [(.int (1 : Int32))]))
    refine own_st (fun _ k => XS.ifNo X244.here hx rfl (hb hby at_352) rfl ((if0 _ _).trans (feq (by decide : ¬ ((1 : Int32) = (0 : Int32)))).1) k) ?_
    show own_Fin p e below G (T244.setTop (mkF m 355 #[iv p1, iv p2, iv p3, iv (2 : Int32), rv b163, rv b166, rv b169, rv b172, rv b175, iv ((c0 * u1) + c1), iv (u0 * u1), iv (1 : Int32), iv (1 : Int32), .unset] []))
    refine own_st (fun _ k => XS.aload X244.here hx rfl (hb hby at_355) rfl rfl k) ?_
    show own_Fin p e below G (T244.setTop (mkF m 357 #[iv p1, iv p2, iv p3, iv (2 : Int32), rv b163, rv b166, rv b169, rv b172, rv b175, iv ((c0 * u1) + c1), iv (u0 * u1), iv (1 : Int32), iv (1 : Int32), .unset] [(.ref b169)]))
    refine own_st (fun _ k => XS.iconst X244.here hx rfl (hb hby at_357) k) ?_
    show own_Fin p e below G (T244.setTop (mkF m 358 #[iv p1, iv p2, iv p3, iv (2 : Int32), rv b163, rv b166, rv b169, rv b172, rv b175, iv ((c0 * u1) + c1), iv (u0 * u1), iv (1 : Int32), iv (1 : Int32), .unset] [(.int (2 : Int32)), (.ref b169)]))
    refine own_st (fun _ k => own_ldI X244 hx hZ e244 V239 (j := (2 : Int32)) (n := 3) rfl (by decide) (g := (mkF m 358 #[iv p1, iv p2, iv p3, iv (2 : Int32), rv b163, rv b166, rv b169, rv b172, rv b175, iv ((c0 * u1) + c1), iv (u0 * u1), iv (1 : Int32), iv (1 : Int32), .unset] [(.int (2 : Int32)), (.ref b169)])) rfl rfl (hb hby at_358) k) ?_
    show own_Fin p e below G (T244.setTop (mkF m 359 #[iv p1, iv p2, iv p3, iv (2 : Int32), rv b163, rv b166, rv b169, rv b172, rv b175, iv ((c0 * u1) + c1), iv (u0 * u1), iv (1 : Int32), iv (1 : Int32), .unset] [(.int (0 : Int32))]))
    refine own_st (fun _ k => XS.aload X244.here hx rfl (hb hby at_359) rfl rfl k) ?_
    show own_Fin p e below G (T244.setTop (mkF m 361 #[iv p1, iv p2, iv p3, iv (2 : Int32), rv b163, rv b166, rv b169, rv b172, rv b175, iv ((c0 * u1) + c1), iv (u0 * u1), iv (1 : Int32), iv (1 : Int32), .unset] [(.ref b163), (.int (0 : Int32))]))
    refine own_st (fun _ k => XS.iconst X244.here hx rfl (hb hby at_361) k) ?_
    show own_Fin p e below G (T244.setTop (mkF m 362 #[iv p1, iv p2, iv p3, iv (2 : Int32), rv b163, rv b166, rv b169, rv b172, rv b175, iv ((c0 * u1) + c1), iv (u0 * u1), iv (1 : Int32), iv (1 : Int32), .unset] [(.int (2 : Int32)), (.ref b163), (.int (0 : Int32))]))
    refine own_st (fun _ k => own_ldI X244 hx hZ e244 f240_0 (j := (2 : Int32)) (n := 3) rfl (by decide) (g := (mkF m 362 #[iv p1, iv p2, iv p3, iv (2 : Int32), rv b163, rv b166, rv b169, rv b172, rv b175, iv ((c0 * u1) + c1), iv (u0 * u1), iv (1 : Int32), iv (1 : Int32), .unset] [(.int (2 : Int32)), (.ref b163), (.int (0 : Int32))])) rfl rfl (hb hby at_362) k) ?_
    show own_Fin p e below G (T244.setTop (mkF m 363 #[iv p1, iv p2, iv p3, iv (2 : Int32), rv b163, rv b166, rv b169, rv b172, rv b175, iv ((c0 * u1) + c1), iv (u0 * u1), iv (1 : Int32), iv (1 : Int32), .unset] [(.int u2), (.int (0 : Int32))]))
    obtain ⟨_, _, ⟨T245, L245, k245, n245⟩, -, X245, ⟨Lc245, hQ245, l245, y245, z245⟩, st245⟩ := Jvm.LawKit.callS X244 hx (y := own_y2) hown (mvT hZ (own_w hw 12 rfl)) (mvT hZ (own_w hw 13 rfl)) (mvT hZ (own_w hw 3 rfl)) (mvT hZ (own_w hw 14 rfl)) (by decide) (backOf (W := 0) (rm_in l Z a0 hw [] (0 : Int32) u2 h239 n0 (Nat.le_trans Z0 K241.1) (by decide) (own_pos r_u2)) hZ (own_w hw 14 rfl) (own_w hw 3 rfl) (by decide) (by decide)) (g := (mkF m 363 #[iv p1, iv p2, iv p3, iv (2 : Int32), rv b163, rv b166, rv b169, rv b172, rv b175, iv ((c0 * u1) + c1), iv (u0 * u1), iv (1 : Int32), iv (1 : Int32), .unset] [(.int u2), (.int (0 : Int32))])) rfl (by rw [hml]; rfl) (argsL := [(.int (0 : Int32)), (.int u2)]) (rest := []) (lenOf pd__II_Z_317 rfl) rfl (by show 2 * 0 + _ ≤ _; exact Nat.le_of_eq rfl) (hb hby at_363) (fun _ _ => ⟨rfl, e244, (by decide : 5 + 0 ≤ _), (by decide : 13 + 0 ≤ _)⟩)
    clear X244 e244
    dsimp only [Pt.U, Pt.locs, Pt.cells, Pt.slots] at X245 l245 y245 z245 st245 hQ245
    obtain rfl : k245 = (5 : Nat) := y245
    obtain rfl : n245 = (13 : Nat) := z245
    obtain ⟨rfl, N245q, e245⟩ := hQ245
    skip
    have N245 : Fr n0 L245 := by rw [l245]; exact Fr.app N244 N245q
    clear N244 l245 N245q
    refine own_st st245 ?_
    clear st245
    show own_Fin p e below G (T245.setTop (mkF m 366 #[iv p1, iv p2, iv p3, iv (2 : Int32), rv b163, rv b166, rv b169, rv b172, rv b175, iv ((c0 * u1) + c1), iv (u0 * u1), iv (1 : Int32), iv (1 : Int32), .unset] [(.int (1 : Int32))]))
    refine own_st (fun _ k => XS.ifNo X245.here hx rfl (hb hby at_366) rfl ((if0 _ _).trans (feq (by decide : ¬ ((1 : Int32) = (0 : Int32)))).1) k) ?_
    show own_Fin p e below G (T245.setTop (mkF m 369 #[iv p1, iv p2, iv p3, iv (2 : Int32), rv b163, rv b166, rv b169, rv b172, rv b175, iv ((c0 * u1) + c1), iv (u0 * u1), iv (1 : Int32), iv (1 : Int32), .unset] []))
    refine own_st (fun _ k => XS.iconst X245.here hx rfl (hb hby at_369) k) ?_
    show own_Fin p e below G (T245.setTop (mkF m 370 #[iv p1, iv p2, iv p3, iv (2 : Int32), rv b163, rv b166, rv b169, rv b172, rv b175, iv ((c0 * u1) + c1), iv (u0 * u1), iv (1 : Int32), iv (1 : Int32), .unset] [(.int (1 : Int32))]))
    refine own_st (fun _ k => XS.goto X245.here hx rfl (pc0 := 370) (pc' := 374) rfl (hb hby at_370) (by decide) (by decide) k) ?_
    show own_Fin p e below G (T245.setTop (mkF m 374 #[iv p1, iv p2, iv p3, iv (2 : Int32), rv b163, rv b166, rv b169, rv b172, rv b175, iv ((c0 * u1) + c1), iv (u0 * u1), iv (1 : Int32), iv (1 : Int32), .unset] [(.int (1 : Int32))]))
    refine own_st (fun _ k => XS.istore X245.here hx rfl (hb hby at_374) rfl (l' := #[iv p1, iv p2, iv p3, iv (2 : Int32), rv b163, rv b166, rv b169, rv b172, rv b175, iv ((c0 * u1) + c1), iv (u0 * u1), iv (1 : Int32), iv (1 : Int32), iv (1 : Int32)]) rfl k) ?_
    show own_Fin p e below G (T245.setTop (mkF m 376 #[iv p1, iv p2, iv p3, iv (2 : Int32), rv b163, rv b166, rv b169, rv b172, rv b175, iv ((c0 * u1) + c1), iv (u0 * u1), iv (1 : Int32), iv (1 : Int32), iv (1 : Int32)] []))
    refine own_st (fun _ k => XS.iload X245.here hx rfl (hb hby at_376) rfl  k) ?_
    show own_Fin p e below G (T245.setTop (mkF m 378 #[iv p1, iv p2, iv p3, iv (2 : Int32), rv b163, rv b166, rv b169, rv b172, rv b175, iv ((c0 * u1) + c1), iv (u0 * u1), iv (1 : Int32), iv (1 : Int32), iv (1 : Int32)] [(.int (1 : Int32))]))
    refine own_st (fun _ k => XS.ifNo X245.here hx rfl (hb hby at_378) rfl ((if0 _ _).trans (feq (by decide : ¬ ((1 : Int32) = (0 : Int32)))).1) k) ?_
    show own_Fin p e below G (T245.setTop (mkF m 381 #[iv p1, iv p2, iv p3, iv (2 : Int32), rv b163, rv b166, rv b169, rv b172, rv b175, iv ((c0 * u1) + c1), iv (u0 * u1), iv (1 : Int32), iv (1 : Int32), iv (1 : Int32)] []))
    refine own_st (fun _ k => XS.iload X245.here hx rfl (hb hby at_381) rfl  k) ?_
    show own_Fin p e below G (T245.setTop (mkF m 383 #[iv p1, iv p2, iv p3, iv (2 : Int32), rv b163, rv b166, rv b169, rv b172, rv b175, iv ((c0 * u1) + c1), iv (u0 * u1), iv (1 : Int32), iv (1 : Int32), iv (1 : Int32)] [(.int (1 : Int32))]))
    refine own_st (fun _ k => XS.ifNo X245.here hx rfl (hb hby at_383) rfl ((if0 _ _).trans (feq (by decide : ¬ ((1 : Int32) = (0 : Int32)))).1) k) ?_
    show own_Fin p e below G (T245.setTop (mkF m 386 #[iv p1, iv p2, iv p3, iv (2 : Int32), rv b163, rv b166, rv b169, rv b172, rv b175, iv ((c0 * u1) + c1), iv (u0 * u1), iv (1 : Int32), iv (1 : Int32), iv (1 : Int32)] []))
    refine own_st (fun _ k => XS.iloadN X245.here hx rfl (hb hby at_386) rfl  k) ?_
    show own_Fin p e below G (T245.setTop (mkF m 387 #[iv p1, iv p2, iv p3, iv (2 : Int32), rv b163, rv b166, rv b169, rv b172, rv b175, iv ((c0 * u1) + c1), iv (u0 * u1), iv (1 : Int32), iv (1 : Int32), iv (1 : Int32)] [(.int (2 : Int32))]))
    refine own_st (fun _ k => XS.aload X245.here hx rfl (hb hby at_387) rfl rfl k) ?_
    show own_Fin p e below G (T245.setTop (mkF m 389 #[iv p1, iv p2, iv p3, iv (2 : Int32), rv b163, rv b166, rv b169, rv b172, rv b175, iv ((c0 * u1) + c1), iv (u0 * u1), iv (1 : Int32), iv (1 : Int32), iv (1 : Int32)] [(.ref b169), (.int (2 : Int32))]))
    refine own_st (fun _ k => XS.aload X245.here hx rfl (hb hby at_389) rfl rfl k) ?_
    show own_Fin p e below G (T245.setTop (mkF m 391 #[iv p1, iv p2, iv p3, iv (2 : Int32), rv b163, rv b166, rv b169, rv b172, rv b175, iv ((c0 * u1) + c1), iv (u0 * u1), iv (1 : Int32), iv (1 : Int32), iv (1 : Int32)] [(.ref b163), (.ref b169), (.int (2 : Int32))]))
    obtain ⟨_, _, ⟨T246, L246, k246, n246⟩, -, X246, ⟨Lc246, hQ246, l246, y246, z246⟩, st246⟩ := Jvm.LawKit.callS X245 hx (y := own_y0) hown (mvT hZ (own_w hw 1 rfl)) (mvT hZ (own_w hw 2 rfl)) (mvT hZ (own_w hw 3 rfl)) (mvT hZ (own_w hw 4 rfl)) (by decide) (backOf (W := 0) (rm_v2 l Z a0 hw [] b169 b163 (c0 + (1 : Int32)) (0 : Int32) (0 : Int32) u0 u1 u2 h239 n0 (Nat.le_trans Z0 K241.1) V239 f240_0) hZ (own_w hw 4 rfl) (own_w hw 3 rfl) (by decide) (by decide)) (g := (mkF m 391 #[iv p1, iv p2, iv p3, iv (2 : Int32), rv b163, rv b166, rv b169, rv b172, rv b175, iv ((c0 * u1) + c1), iv (u0 * u1), iv (1 : Int32), iv (1 : Int32), iv (1 : Int32)] [(.ref b163), (.ref b169), (.int (2 : Int32))])) rfl (by rw [hml]; rfl) (argsL := [(.int (2 : Int32)), (.ref b169), (.ref b163)]) (rest := []) (lenOf pd__I_I_I_I_555 rfl) rfl (by show 2 * 0 + _ ≤ _; exact Nat.le_of_eq rfl) (hb hby at_391) (fun _ _ => ⟨rfl, e245, (by decide : 5 + 0 ≤ _), (by decide : 13 + 0 ≤ _)⟩)
    clear V239 f240_0 K241 X245 e245
    dsimp only [Pt.U, Pt.locs, Pt.cells, Pt.slots] at X246 l246 y246 z246 st246 hQ246
    obtain rfl : k246 = (5 : Nat) := y246
    obtain rfl : n246 = (13 : Nat) := z246
    obtain ⟨rfl, N246q, e246⟩ := hQ246
    clear e246
    skip
    have N246 : Fr n0 L246 := by rw [l246]; exact Fr.app N245 N246q
    clear N245 l246 N246q
    refine own_st st246 ?_
    clear st246
    show own_Fin p e below G (T246.setTop (mkF m 394 #[iv p1, iv p2, iv p3, iv (2 : Int32), rv b163, rv b166, rv b169, rv b172, rv b175, iv ((c0 * u1) + c1), iv (u0 * u1), iv (1 : Int32), iv (1 : Int32), iv (1 : Int32)] [(.int (((c0 + (1 : Int32)) * u1) + (0 : Int32)))]))
    refine own_st (fun _ k => XS.iload X246.here hx rfl (hb hby at_394) rfl  k) ?_
    show own_Fin p e below G (T246.setTop (mkF m 396 #[iv p1, iv p2, iv p3, iv (2 : Int32), rv b163, rv b166, rv b169, rv b172, rv b175, iv ((c0 * u1) + c1), iv (u0 * u1), iv (1 : Int32), iv (1 : Int32), iv (1 : Int32)] [(.int ((c0 * u1) + c1)), (.int (((c0 + (1 : Int32)) * u1) + (0 : Int32)))]))
    refine own_st (fun _ k => XS.iconst X246.here hx rfl (hb hby at_396) k) ?_
    show own_Fin p e below G (T246.setTop (mkF m 397 #[iv p1, iv p2, iv p3, iv (2 : Int32), rv b163, rv b166, rv b169, rv b172, rv b175, iv ((c0 * u1) + c1), iv (u0 * u1), iv (1 : Int32), iv (1 : Int32), iv (1 : Int32)] [(.int (1 : Int32)), (.int ((c0 * u1) + c1)), (.int (((c0 + (1 : Int32)) * u1) + (0 : Int32)))]))
    refine own_st (fun _ k => XS.iadd X246.here hx rfl (hb hby at_397) rfl k) ?_
    show own_Fin p e below G (T246.setTop (mkF m 398 #[iv p1, iv p2, iv p3, iv (2 : Int32), rv b163, rv b166, rv b169, rv b172, rv b175, iv ((c0 * u1) + c1), iv (u0 * u1), iv (1 : Int32), iv (1 : Int32), iv (1 : Int32)] [(.int (((c0 * u1) + c1) + (1 : Int32))), (.int (((c0 + (1 : Int32)) * u1) + (0 : Int32)))]))
    refine own_st (fun _ k => XS.icmpNo X246.here hx rfl (hb hby at_398) rfl (teq (own_w2b r_c0 r_c1 r_u0 r_u1 d0 d1).2).2 k) ?_
    show own_Fin p e below G (T246.setTop (mkF m 401 #[iv p1, iv p2, iv p3, iv (2 : Int32), rv b163, rv b166, rv b169, rv b172, rv b175, iv ((c0 * u1) + c1), iv (u0 * u1), iv (1 : Int32), iv (1 : Int32), iv (1 : Int32)] []))
    refine own_st (fun _ k => XS.iconst X246.here hx rfl (hb hby at_401) k) ?_
    show own_Fin p e below G (T246.setTop (mkF m 402 #[iv p1, iv p2, iv p3, iv (2 : Int32), rv b163, rv b166, rv b169, rv b172, rv b175, iv ((c0 * u1) + c1), iv (u0 * u1), iv (1 : Int32), iv (1 : Int32), iv (1 : Int32)] [(.int (1 : Int32))]))
    refine own_st (fun _ k => XS.goto X246.here hx rfl (pc0 := 402) (pc' := 406) rfl (hb hby at_402) (by decide) (by decide) k) ?_
    show own_Fin p e below G (T246.setTop (mkF m 406 #[iv p1, iv p2, iv p3, iv (2 : Int32), rv b163, rv b166, rv b169, rv b172, rv b175, iv ((c0 * u1) + c1), iv (u0 * u1), iv (1 : Int32), iv (1 : Int32), iv (1 : Int32)] [(.int (1 : Int32))]))
    refine own_out X246 Bd.notSynchronized (v := (some (.int (1 : Int32)))) (fun h => by rw [Bd.returns] at h; cases h) hG (fun fs hr => retN X246 hx (t := .boolean) Bd.returns (by simp) (hb hby at_406) hr) (by decide) (by decide) ?_
    exact ⟨rfl, N246⟩
  · show own_Fin p e below G (T220.setTop (mkF m 199 #[iv p1, iv p2, iv p3, iv (2 : Int32), rv b163, rv b166, rv b169, rv b172, rv b175, iv ((c0 * u1) + c1), iv (u0 * u1), .unset, .unset, .unset] [(.int (0 : Int32))]))
    refine own_st (fun _ k => XS.istore X220.here hx rfl (hb hby at_199) rfl (l' := #[iv p1, iv p2, iv p3, iv (2 : Int32), rv b163, rv b166, rv b169, rv b172, rv b175, iv ((c0 * u1) + c1), iv (u0 * u1), iv (0 : Int32), .unset, .unset]) rfl k) ?_
    show own_Fin p e below G (T220.setTop (mkF m 201 #[iv p1, iv p2, iv p3, iv (2 : Int32), rv b163, rv b166, rv b169, rv b172, rv b175, iv ((c0 * u1) + c1), iv (u0 * u1), iv (0 : Int32), .unset, .unset] []))
    refine own_st (fun _ k => XS.iconst X220.here hx rfl (hb hby at_201) k) ?_
    show own_Fin p e below G (T220.setTop (mkF m 202 #[iv p1, iv p2, iv p3, iv (2 : Int32), rv b163, rv b166, rv b169, rv b172, rv b175, iv ((c0 * u1) + c1), iv (u0 * u1), iv (0 : Int32), .unset, .unset] [(.int (1 : Int32))]))
    refine own_st (fun _ k => XS.istore X220.here hx rfl (hb hby at_202) rfl (l' := #[iv p1, iv p2, iv p3, iv (2 : Int32), rv b163, rv b166, rv b169, rv b172, rv b175, iv ((c0 * u1) + c1), iv (u0 * u1), iv (0 : Int32), iv (1 : Int32), .unset]) rfl k) ?_
    show own_Fin p e below G (T220.setTop (mkF m 204 #[iv p1, iv p2, iv p3, iv (2 : Int32), rv b163, rv b166, rv b169, rv b172, rv b175, iv ((c0 * u1) + c1), iv (u0 * u1), iv (0 : Int32), iv (1 : Int32), .unset] []))
    refine own_st (fun _ k => XS.iloadN X220.here hx rfl (hb hby at_204) rfl  k) ?_
    show own_Fin p e below G (T220.setTop (mkF m 205 #[iv p1, iv p2, iv p3, iv (2 : Int32), rv b163, rv b166, rv b169, rv b172, rv b175, iv ((c0 * u1) + c1), iv (u0 * u1), iv (0 : Int32), iv (1 : Int32), .unset] [(.int (2 : Int32))]))
    refine own_st (fun _ k => XS.ifNo X220.here hx rfl (hb hby at_205) rfl ((if0 _ _).trans (tlt (by decide : ((0 : Int32) < (2 : Int32)))).2.2.2) k) ?_
    show own_Fin p e below G (T220.setTop (mkF m 208 #[iv p1, iv p2, iv p3, iv (2 : Int32), rv b163, rv b166, rv b169, rv b172, rv b175, iv ((c0 * u1) + c1), iv (u0 * u1), iv (0 : Int32), iv (1 : Int32), .unset] []))
    refine own_st (fun _ k => XS.aload X220.here hx rfl (hb hby at_208) rfl rfl k) ?_
    show own_Fin p e below G (T220.setTop (mkF m 210 #[iv p1, iv p2, iv p3, iv (2 : Int32), rv b163, rv b166, rv b169, rv b172, rv b175, iv ((c0 * u1) + c1), iv (u0 * u1), iv (0 : Int32), iv (1 : Int32), .unset] [(.ref b169)]))
    refine own_st (fun _ k => XS.iconst X220.here hx rfl (hb hby at_210) k) ?_
    show own_Fin p e below G (T220.setTop (mkF m 211 #[iv p1, iv p2, iv p3, iv (2 : Int32), rv b163, rv b166, rv b169, rv b172, rv b175, iv ((c0 * u1) + c1), iv (u0 * u1), iv (0 : Int32), iv (1 : Int32), .unset] [(.int (0 : Int32)), (.ref b169)]))
    refine own_st (fun _ k => XS.aload X220.here hx rfl (hb hby at_211) rfl rfl k) ?_
    show own_Fin p e below G (T220.setTop (mkF m 213 #[iv p1, iv p2, iv p3, iv (2 : Int32), rv b163, rv b166, rv b169, rv b172, rv b175, iv ((c0 * u1) + c1), iv (u0 * u1), iv (0 : Int32), iv (1 : Int32), .unset] [(.ref b175), (.int (0 : Int32)), (.ref b169)]))
    refine own_st (fun _ k => XS.iconst X220.here hx rfl (hb hby at_213) k) ?_
    show own_Fin p e below G (T220.setTop (mkF m 214 #[iv p1, iv p2, iv p3, iv (2 : Int32), rv b163, rv b166, rv b169, rv b172, rv b175, iv ((c0 * u1) + c1), iv (u0 * u1), iv (0 : Int32), iv (1 : Int32), .unset] [(.int (0 : Int32)), (.ref b175), (.int (0 : Int32)), (.ref b169)]))
    refine own_st (fun _ k => own_ldI X220 hx hZ rfl gA220 (j := (0 : Int32)) (n := 2) rfl (by decide) (g := (mkF m 214 #[iv p1, iv p2, iv p3, iv (2 : Int32), rv b163, rv b166, rv b169, rv b172, rv b175, iv ((c0 * u1) + c1), iv (u0 * u1), iv (0 : Int32), iv (1 : Int32), .unset] [(.int (0 : Int32)), (.ref b175), (.int (0 : Int32)), (.ref b169)])) rfl rfl (hb hby at_214) k) ?_
    show own_Fin p e below G (T220.setTop (mkF m 215 #[iv p1, iv p2, iv p3, iv (2 : Int32), rv b163, rv b166, rv b169, rv b172, rv b175, iv ((c0 * u1) + c1), iv (u0 * u1), iv (0 : Int32), iv (1 : Int32), .unset] [(.int (0 : Int32)), (.int (0 : Int32)), (.ref b169)]))
    obtain ⟨T247, h247, X247, e247, W247, V247, st247⟩ := own_stI X220 hx hZ rfl f221_2 (j := (0 : Int32)) (n := 3) rfl (by decide) (g := (mkF m 215 #[iv p1, iv p2, iv p3, iv (2 : Int32), rv b163, rv b166, rv b169, rv b172, rv b175, iv ((c0 * u1) + c1), iv (u0 * u1), iv (0 : Int32), iv (1 : Int32), .unset] [(.int (0 : Int32)), (.int (0 : Int32)), (.ref b169)])) rfl rfl (hb hby at_215)
    clear X220 f221_2
    have f248_0 := f221_0.other W247 ne_b163_b169
    clear f221_0
    have f248_1 := f221_1.other W247 ne_b166_b169
    clear f221_1
    have f248_3 := f221_3.other W247 (Ne.symm ne_b169_b172)
    clear f221_3
    have f248_4 := gA220.other W247 (Ne.symm ne_b169_b175)
    clear gA220
    have K249 : Keep h0 h247 [] := K222.wr W247 (Or.inr sz_b169)
    clear K222 W247
    have N250 := Fr.snoc X247 N220 g_b169
    clear N220
    replace V247 : own_AV Z h247 b169 .int (own_is [(0 : Int32), (0 : Int32), (0 : Int32)]) := V247
    refine own_st st247 ?_
    clear st247
    show own_Fin p e below G (T247.setTop (mkF m 216 #[iv p1, iv p2, iv p3, iv (2 : Int32), rv b163, rv b166, rv b169, rv b172, rv b175, iv ((c0 * u1) + c1), iv (u0 * u1), iv (0 : Int32), iv (1 : Int32), .unset] []))
    refine own_st (fun _ k => XS.iload X247.here hx rfl (hb hby at_216) rfl  k) ?_
    show own_Fin p e below G (T247.setTop (mkF m 218 #[iv p1, iv p2, iv p3, iv (2 : Int32), rv b163, rv b166, rv b169, rv b172, rv b175, iv ((c0 * u1) + c1), iv (u0 * u1), iv (0 : Int32), iv (1 : Int32), .unset] [(.int (1 : Int32))]))
    refine own_st (fun _ k => XS.ifNo X247.here hx rfl (hb hby at_218) rfl ((if0 _ _).trans (feq (by decide : ¬ ((1 : Int32) = (0 : Int32)))).1) k) ?_
    show own_Fin p e below G (T247.setTop (mkF m 221 #[iv p1, iv p2, iv p3, iv (2 : Int32), rv b163, rv b166, rv b169, rv b172, rv b175, iv ((c0 * u1) + c1), iv (u0 * u1), iv (0 : Int32), iv (1 : Int32), .unset] []))
    refine own_st (fun _ k => XS.aload X247.here hx rfl (hb hby at_221) rfl rfl k) ?_
    show own_Fin p e below G (T247.setTop (mkF m 223 #[iv p1, iv p2, iv p3, iv (2 : Int32), rv b163, rv b166, rv b169, rv b172, rv b175, iv ((c0 * u1) + c1), iv (u0 * u1), iv (0 : Int32), iv (1 : Int32), .unset] [(.ref b172)]))
    refine own_st (fun _ k => XS.iconst X247.here hx rfl (hb hby at_223) k) ?_
    show own_Fin p e below G (T247.setTop (mkF m 224 #[iv p1, iv p2, iv p3, iv (2 : Int32), rv b163, rv b166, rv b169, rv b172, rv b175, iv ((c0 * u1) + c1), iv (u0 * u1), iv (0 : Int32), iv (1 : Int32), .unset] [(.int (0 : Int32)), (.ref b172)]))
    refine own_st (fun _ k => own_ldI X247 hx hZ e247 f248_3 (j := (0 : Int32)) (n := 2) rfl (by decide) (g := (mkF m 224 #[iv p1, iv p2, iv p3, iv (2 : Int32), rv b163, rv b166, rv b169, rv b172, rv b175, iv ((c0 * u1) + c1), iv (u0 * u1), iv (0 : Int32), iv (1 : Int32), .unset] [(.int (0 : Int32)), (.ref b172)])) rfl rfl (hb hby at_224) k) ?_
    show own_Fin p e below G (T247.setTop (mkF m 225 #[iv p1, iv p2, iv p3, iv (2 : Int32), rv b163, rv b166, rv b169, rv b172, rv b175, iv ((c0 * u1) + c1), iv (u0 * u1), iv (0 : Int32), iv (1 : Int32), .unset] [(.int u0)]))
    refine own_st (fun _ k => XS.aload X247.here hx rfl (hb hby at_225) rfl rfl k) ?_
    show own_Fin p e below G (T247.setTop (mkF m 227 #[iv p1, iv p2, iv p3, iv (2 : Int32), rv b163, rv b166, rv b169, rv b172, rv b175, iv ((c0 * u1) + c1), iv (u0 * u1), iv (0 : Int32), iv (1 : Int32), .unset] [(.ref b163), (.int u0)]))
    refine own_st (fun _ k => XS.iconst X247.here hx rfl (hb hby at_227) k) ?_
    show own_Fin p e below G (T247.setTop (mkF m 228 #[iv p1, iv p2, iv p3, iv (2 : Int32), rv b163, rv b166, rv b169, rv b172, rv b175, iv ((c0 * u1) + c1), iv (u0 * u1), iv (0 : Int32), iv (1 : Int32), .unset] [(.int (0 : Int32)), (.ref b163), (.int u0)]))
    refine own_st (fun _ k => own_ldI X247 hx hZ e247 f248_0 (j := (0 : Int32)) (n := 3) rfl (by decide) (g := (mkF m 228 #[iv p1, iv p2, iv p3, iv (2 : Int32), rv b163, rv b166, rv b169, rv b172, rv b175, iv ((c0 * u1) + c1), iv (u0 * u1), iv (0 : Int32), iv (1 : Int32), .unset] [(.int (0 : Int32)), (.ref b163), (.int u0)])) rfl rfl (hb hby at_228) k) ?_
    show own_Fin p e below G (T247.setTop (mkF m 229 #[iv p1, iv p2, iv p3, iv (2 : Int32), rv b163, rv b166, rv b169, rv b172, rv b175, iv ((c0 * u1) + c1), iv (u0 * u1), iv (0 : Int32), iv (1 : Int32), .unset] [(.int u0), (.int u0)]))
    refine own_st (fun _ k => XS.icmpNo X247.here hx rfl (hb hby at_229) rfl (teq (rfl : u0 = u0)).2 k) ?_
    show own_Fin p e below G (T247.setTop (mkF m 232 #[iv p1, iv p2, iv p3, iv (2 : Int32), rv b163, rv b166, rv b169, rv b172, rv b175, iv ((c0 * u1) + c1), iv (u0 * u1), iv (0 : Int32), iv (1 : Int32), .unset] []))
    refine own_st (fun _ k => XS.iconst X247.here hx rfl (hb hby at_232) k) ?_
    show own_Fin p e below G (T247.setTop (mkF m 233 #[iv p1, iv p2, iv p3, iv (2 : Int32), rv b163, rv b166, rv b169, rv b172, rv b175, iv ((c0 * u1) + c1), iv (u0 * u1), iv (0 : Int32), iv (1 : Int32), .unset] [(.int (1 : Int32))]))
    refine own_st (fun _ k => XS.goto X247.here hx rfl (pc0 := 233) (pc' := 237) rfl (hb hby at_233) (by decide) (by decide) k) ?_
    show own_Fin p e below G (T247.setTop (mkF m 237 #[iv p1, iv p2, iv p3, iv (2 : Int32), rv b163, rv b166, rv b169, rv b172, rv b175, iv ((c0 * u1) + c1), iv (u0 * u1), iv (0 : Int32), iv (1 : Int32), .unset] [(.int (1 : Int32))]))
    refine own_st (fun _ k => XS.istore X247.here hx rfl (hb hby at_237) rfl (l' := #[iv p1, iv p2, iv p3, iv (2 : Int32), rv b163, rv b166, rv b169, rv b172, rv b175, iv ((c0 * u1) + c1), iv (u0 * u1), iv (0 : Int32), iv (1 : Int32), .unset]) rfl k) ?_
    show own_Fin p e below G (T247.setTop (mkF m 239 #[iv p1, iv p2, iv p3, iv (2 : Int32), rv b163, rv b166, rv b169, rv b172, rv b175, iv ((c0 * u1) + c1), iv (u0 * u1), iv (0 : Int32), iv (1 : Int32), .unset] []))
    refine own_st (fun _ k => XS.iloadN X247.here hx rfl (hb hby at_239) rfl  k) ?_
    show own_Fin p e below G (T247.setTop (mkF m 240 #[iv p1, iv p2, iv p3, iv (2 : Int32), rv b163, rv b166, rv b169, rv b172, rv b175, iv ((c0 * u1) + c1), iv (u0 * u1), iv (0 : Int32), iv (1 : Int32), .unset] [(.int (2 : Int32))]))
    refine own_st (fun _ k => XS.iconst X247.here hx rfl (hb hby at_240) k) ?_
    show own_Fin p e below G (T247.setTop (mkF m 241 #[iv p1, iv p2, iv p3, iv (2 : Int32), rv b163, rv b166, rv b169, rv b172, rv b175, iv ((c0 * u1) + c1), iv (u0 * u1), iv (0 : Int32), iv (1 : Int32), .unset] [(.int (1 : Int32)), (.int (2 : Int32))]))
    refine own_st (fun _ k => XS.icmpNo X247.here hx rfl (hb hby at_241) rfl (tlt (by decide : ((1 : Int32) < (2 : Int32)))).2.2.2 k) ?_
    show own_Fin p e below G (T247.setTop (mkF m 244 #[iv p1, iv p2, iv p3, iv (2 : Int32), rv b163, rv b166, rv b169, rv b172, rv b175, iv ((c0 * u1) + c1), iv (u0 * u1), iv (0 : Int32), iv (1 : Int32), .unset] []))
    refine own_st (fun _ k => XS.aload X247.here hx rfl (hb hby at_244) rfl rfl k) ?_
    show own_Fin p e below G (T247.setTop (mkF m 246 #[iv p1, iv p2, iv p3, iv (2 : Int32), rv b163, rv b166, rv b169, rv b172, rv b175, iv ((c0 * u1) + c1), iv (u0 * u1), iv (0 : Int32), iv (1 : Int32), .unset] [(.ref b169)]))
    refine own_st (fun _ k => XS.iconst X247.here hx rfl (hb hby at_246) k) ?_
    show own_Fin p e below G (T247.setTop (mkF m 247 #[iv p1, iv p2, iv p3, iv (2 : Int32), rv b163, rv b166, rv b169, rv b172, rv b175, iv ((c0 * u1) + c1), iv (u0 * u1), iv (0 : Int32), iv (1 : Int32), .unset] [(.int (1 : Int32)), (.ref b169)]))
    refine own_st (fun _ k => XS.aload X247.here hx rfl (hb hby at_247) rfl rfl k) ?_
    show own_Fin p e below G (T247.setTop (mkF m 249 #[iv p1, iv p2, iv p3, iv (2 : Int32), rv b163, rv b166, rv b169, rv b172, rv b175, iv ((c0 * u1) + c1), iv (u0 * u1), iv (0 : Int32), iv (1 : Int32), .unset] [(.ref b175), (.int (1 : Int32)), (.ref b169)]))
    refine own_st (fun _ k => XS.iconst X247.here hx rfl (hb hby at_249) k) ?_
    show own_Fin p e below G (T247.setTop (mkF m 250 #[iv p1, iv p2, iv p3, iv (2 : Int32), rv b163, rv b166, rv b169, rv b172, rv b175, iv ((c0 * u1) + c1), iv (u0 * u1), iv (0 : Int32), iv (1 : Int32), .unset] [(.int (1 : Int32)), (.ref b175), (.int (1 : Int32)), (.ref b169)]))
    refine own_st (fun _ k => own_ldI X247 hx hZ e247 f248_4 (j := (1 : Int32)) (n := 2) rfl (by decide) (g := (mkF m 250 #[iv p1, iv p2, iv p3, iv (2 : Int32), rv b163, rv b166, rv b169, rv b172, rv b175, iv ((c0 * u1) + c1), iv (u0 * u1), iv (0 : Int32), iv (1 : Int32), .unset] [(.int (1 : Int32)), (.ref b175), (.int (1 : Int32)), (.ref b169)])) rfl rfl (hb hby at_250) k) ?_
    show own_Fin p e below G (T247.setTop (mkF m 251 #[iv p1, iv p2, iv p3, iv (2 : Int32), rv b163, rv b166, rv b169, rv b172, rv b175, iv ((c0 * u1) + c1), iv (u0 * u1), iv (0 : Int32), iv (1 : Int32), .unset] [(.int (0 : Int32)), (.int (1 : Int32)), (.ref b169)]))
    obtain ⟨T251, h251, X251, e251, W251, V251, st251⟩ := own_stI X247 hx hZ e247 V247 (j := (1 : Int32)) (n := 3) rfl (by decide) (g := (mkF m 251 #[iv p1, iv p2, iv p3, iv (2 : Int32), rv b163, rv b166, rv b169, rv b172, rv b175, iv ((c0 * u1) + c1), iv (u0 * u1), iv (0 : Int32), iv (1 : Int32), .unset] [(.int (0 : Int32)), (.int (1 : Int32)), (.ref b169)])) rfl rfl (hb hby at_251)
    clear X247 e247 V247
    have f252_0 := f248_0.other W251 ne_b163_b169
    clear f248_0
    have f252_1 := f248_1.other W251 ne_b166_b169
    clear f248_1 f252_1
    have f252_3 := f248_3.other W251 (Ne.symm ne_b169_b172)
    clear f248_3
    have f252_4 := f248_4.other W251 (Ne.symm ne_b169_b175)
    clear f248_4 f252_4
    have K253 : Keep h0 h251 [] := K249.wr W251 (Or.inr sz_b169)
    clear K249 W251 K253
    have N254 := Fr.snoc X251 N250 g_b169
    clear N250
    replace V251 : own_AV Z h251 b169 .int (own_is [(0 : Int32), (0 : Int32), (0 : Int32)]) := V251
    refine own_st st251 ?_
    clear st251
    show own_Fin p e below G (T251.setTop (mkF m 252 #[iv p1, iv p2, iv p3, iv (2 : Int32), rv b163, rv b166, rv b169, rv b172, rv b175, iv ((c0 * u1) + c1), iv (u0 * u1), iv (0 : Int32), iv (1 : Int32), .unset] []))
    refine own_st (fun _ k => XS.iload X251.here hx rfl (hb hby at_252) rfl  k) ?_
    show own_Fin p e below G (T251.setTop (mkF m 254 #[iv p1, iv p2, iv p3, iv (2 : Int32), rv b163, rv b166, rv b169, rv b172, rv b175, iv ((c0 * u1) + c1), iv (u0 * u1), iv (0 : Int32), iv (1 : Int32), .unset] [(.int (1 : Int32))]))
    refine own_st (fun _ k => XS.ifNo X251.here hx rfl (hb hby at_254) rfl ((if0 _ _).trans (feq (by decide : ¬ ((1 : Int32) = (0 : Int32)))).1) k) ?_
    show own_Fin p e below G (T251.setTop (mkF m 257 #[iv p1, iv p2, iv p3, iv (2 : Int32), rv b163, rv b166, rv b169, rv b172, rv b175, iv ((c0 * u1) + c1), iv (u0 * u1), iv (0 : Int32), iv (1 : Int32), .unset] []))
    refine own_st (fun _ k => XS.aload X251.here hx rfl (hb hby at_257) rfl rfl k) ?_
    show own_Fin p e below G (T251.setTop (mkF m 259 #[iv p1, iv p2, iv p3, iv (2 : Int32), rv b163, rv b166, rv b169, rv b172, rv b175, iv ((c0 * u1) + c1), iv (u0 * u1), iv (0 : Int32), iv (1 : Int32), .unset] [(.ref b172)]))
    refine own_st (fun _ k => XS.iconst X251.here hx rfl (hb hby at_259) k) ?_
    show own_Fin p e below G (T251.setTop (mkF m 260 #[iv p1, iv p2, iv p3, iv (2 : Int32), rv b163, rv b166, rv b169, rv b172, rv b175, iv ((c0 * u1) + c1), iv (u0 * u1), iv (0 : Int32), iv (1 : Int32), .unset] [(.int (1 : Int32)), (.ref b172)]))
    refine own_st (fun _ k => own_ldI X251 hx hZ e251 f252_3 (j := (1 : Int32)) (n := 2) rfl (by decide) (g := (mkF m 260 #[iv p1, iv p2, iv p3, iv (2 : Int32), rv b163, rv b166, rv b169, rv b172, rv b175, iv ((c0 * u1) + c1), iv (u0 * u1), iv (0 : Int32), iv (1 : Int32), .unset] [(.int (1 : Int32)), (.ref b172)])) rfl rfl (hb hby at_260) k) ?_
    clear f252_3
    show own_Fin p e below G (T251.setTop (mkF m 261 #[iv p1, iv p2, iv p3, iv (2 : Int32), rv b163, rv b166, rv b169, rv b172, rv b175, iv ((c0 * u1) + c1), iv (u0 * u1), iv (0 : Int32), iv (1 : Int32), .unset] [(.int u1)]))
    refine own_st (fun _ k => XS.aload X251.here hx rfl (hb hby at_261) rfl rfl k) ?_
    show own_Fin p e below G (T251.setTop (mkF m 263 #[iv p1, iv p2, iv p3, iv (2 : Int32), rv b163, rv b166, rv b169, rv b172, rv b175, iv ((c0 * u1) + c1), iv (u0 * u1), iv (0 : Int32), iv (1 : Int32), .unset] [(.ref b163), (.int u1)]))
    refine own_st (fun _ k => XS.iconst X251.here hx rfl (hb hby at_263) k) ?_
    show own_Fin p e below G (T251.setTop (mkF m 264 #[iv p1, iv p2, iv p3, iv (2 : Int32), rv b163, rv b166, rv b169, rv b172, rv b175, iv ((c0 * u1) + c1), iv (u0 * u1), iv (0 : Int32), iv (1 : Int32), .unset] [(.int (1 : Int32)), (.ref b163), (.int u1)]))
    refine own_st (fun _ k => own_ldI X251 hx hZ e251 f252_0 (j := (1 : Int32)) (n := 3) rfl (by decide) (g := (mkF m 264 #[iv p1, iv p2, iv p3, iv (2 : Int32), rv b163, rv b166, rv b169, rv b172, rv b175, iv ((c0 * u1) + c1), iv (u0 * u1), iv (0 : Int32), iv (1 : Int32), .unset] [(.int (1 : Int32)), (.ref b163), (.int u1)])) rfl rfl (hb hby at_264) k) ?_
    clear f252_0
    show own_Fin p e below G (T251.setTop (mkF m 265 #[iv p1, iv p2, iv p3, iv (2 : Int32), rv b163, rv b166, rv b169, rv b172, rv b175, iv ((c0 * u1) + c1), iv (u0 * u1), iv (0 : Int32), iv (1 : Int32), .unset] [(.int u1), (.int u1)]))
    refine own_st (fun _ k => XS.icmpNo X251.here hx rfl (hb hby at_265) rfl (teq (rfl : u1 = u1)).2 k) ?_
    show own_Fin p e below G (T251.setTop (mkF m 268 #[iv p1, iv p2, iv p3, iv (2 : Int32), rv b163, rv b166, rv b169, rv b172, rv b175, iv ((c0 * u1) + c1), iv (u0 * u1), iv (0 : Int32), iv (1 : Int32), .unset] []))
    refine own_st (fun _ k => XS.iconst X251.here hx rfl (hb hby at_268) k) ?_
    show own_Fin p e below G (T251.setTop (mkF m 269 #[iv p1, iv p2, iv p3, iv (2 : Int32), rv b163, rv b166, rv b169, rv b172, rv b175, iv ((c0 * u1) + c1), iv (u0 * u1), iv (0 : Int32), iv (1 : Int32), .unset] [(.int (1 : Int32))]))
    refine own_st (fun _ k => XS.goto X251.here hx rfl (pc0 := 269) (pc' := 273) rfl (hb hby at_269) (by decide) (by decide) k) ?_
    show own_Fin p e below G (T251.setTop (mkF m 273 #[iv p1, iv p2, iv p3, iv (2 : Int32), rv b163, rv b166, rv b169, rv b172, rv b175, iv ((c0 * u1) + c1), iv (u0 * u1), iv (0 : Int32), iv (1 : Int32), .unset] [(.int (1 : Int32))]))
    refine own_st (fun _ k => XS.istore X251.here hx rfl (hb hby at_273) rfl (l' := #[iv p1, iv p2, iv p3, iv (2 : Int32), rv b163, rv b166, rv b169, rv b172, rv b175, iv ((c0 * u1) + c1), iv (u0 * u1), iv (0 : Int32), iv (1 : Int32), .unset]) rfl k) ?_
    show own_Fin p e below G (T251.setTop (mkF m 275 #[iv p1, iv p2, iv p3, iv (2 : Int32), rv b163, rv b166, rv b169, rv b172, rv b175, iv ((c0 * u1) + c1), iv (u0 * u1), iv (0 : Int32), iv (1 : Int32), .unset] []))
    refine own_st (fun _ k => XS.iloadN X251.here hx rfl (hb hby at_275) rfl  k) ?_
    show own_Fin p e below G (T251.setTop (mkF m 276 #[iv p1, iv p2, iv p3, iv (2 : Int32), rv b163, rv b166, rv b169, rv b172, rv b175, iv ((c0 * u1) + c1), iv (u0 * u1), iv (0 : Int32), iv (1 : Int32), .unset] [(.int (2 : Int32))]))
    refine own_st (fun _ k => XS.iconst X251.here hx rfl (hb hby at_276) k) ?_
    show own_Fin p e below G (T251.setTop (mkF m 277 #[iv p1, iv p2, iv p3, iv (2 : Int32), rv b163, rv b166, rv b169, rv b172, rv b175, iv ((c0 * u1) + c1), iv (u0 * u1), iv (0 : Int32), iv (1 : Int32), .unset] [(.int (2 : Int32)), (.int (2 : Int32))]))
    refine own_st (fun _ k => XS.icmpYes X251.here hx rfl (pc0 := 277) (pc' := 311) rfl (hb hby at_277) rfl (flt (by decide : ¬ ((2 : Int32) < (2 : Int32)))).2.2.2 (by decide) (by decide) k) ?_
    show own_Fin p e below G (T251.setTop (mkF m 311 #[iv p1, iv p2, iv p3, iv (2 : Int32), rv b163, rv b166, rv b169, rv b172, rv b175, iv ((c0 * u1) + c1), iv (u0 * u1), iv (0 : Int32), iv (1 : Int32), .unset] []))
    refine own_st (fun _ k => XS.iload X251.here hx rfl (hb hby at_311) rfl  k) ?_
    show own_Fin p e below G (T251.setTop (mkF m 313 #[iv p1, iv p2, iv p3, iv (2 : Int32), rv b163, rv b166, rv b169, rv b172, rv b175, iv ((c0 * u1) + c1), iv (u0 * u1), iv (0 : Int32), iv (1 : Int32), .unset] [(.int (1 : Int32))]))
    refine own_st (fun _ k => XS.ifYes X251.here hx rfl (pc0 := 313) (pc' := 318) rfl (hb hby at_313) rfl ((if0 _ _).trans (feq (by decide : ¬ ((1 : Int32) = (0 : Int32)))).2) (by decide) (by decide) k) ?_
    show own_Fin p e below G (T251.setTop (mkF m 318 #[iv p1, iv p2, iv p3, iv (2 : Int32), rv b163, rv b166, rv b169, rv b172, rv b175, iv ((c0 * u1) + c1), iv (u0 * u1), iv (0 : Int32), iv (1 : Int32), .unset] []))
    refine own_st (fun _ k => XS.iload X251.here hx rfl (hb hby at_318) rfl  k) ?_
    show own_Fin p e below G (T251.setTop (mkF m 320 #[iv p1, iv p2, iv p3, iv (2 : Int32), rv b163, rv b166, rv b169, rv b172, rv b175, iv ((c0 * u1) + c1), iv (u0 * u1), iv (0 : Int32), iv (1 : Int32), .unset] [(.int ((c0 * u1) + c1))]))
    refine own_st (fun _ k => XS.iconst X251.here hx rfl (hb hby at_320) k) ?_
    show own_Fin p e below G (T251.setTop (mkF m 321 #[iv p1, iv p2, iv p3, iv (2 : Int32), rv b163, rv b166, rv b169, rv b172, rv b175, iv ((c0 * u1) + c1), iv (u0 * u1), iv (0 : Int32), iv (1 : Int32), .unset] [(.int (1 : Int32)), (.int ((c0 * u1) + c1))]))
    refine own_st (fun _ k => XS.iadd X251.here hx rfl (hb hby at_321) rfl k) ?_
    show own_Fin p e below G (T251.setTop (mkF m 322 #[iv p1, iv p2, iv p3, iv (2 : Int32), rv b163, rv b166, rv b169, rv b172, rv b175, iv ((c0 * u1) + c1), iv (u0 * u1), iv (0 : Int32), iv (1 : Int32), .unset] [(.int (((c0 * u1) + c1) + (1 : Int32)))]))
    refine own_st (fun _ k => XS.iload X251.here hx rfl (hb hby at_322) rfl  k) ?_
    show own_Fin p e below G (T251.setTop (mkF m 324 #[iv p1, iv p2, iv p3, iv (2 : Int32), rv b163, rv b166, rv b169, rv b172, rv b175, iv ((c0 * u1) + c1), iv (u0 * u1), iv (0 : Int32), iv (1 : Int32), .unset] [(.int (u0 * u1)), (.int (((c0 * u1) + c1) + (1 : Int32)))]))
    refine own_st (fun _ k => XS.icmpYes X251.here hx rfl (pc0 := 324) (pc' := 407) rfl (hb hby at_324) rfl (flt (own_w2c r_c0 r_c1 r_u0 r_u1 d0 d1)).2.1 (by decide) (by decide) k) ?_
    show own_Fin p e below G (T251.setTop (mkF m 407 #[iv p1, iv p2, iv p3, iv (2 : Int32), rv b163, rv b166, rv b169, rv b172, rv b175, iv ((c0 * u1) + c1), iv (u0 * u1), iv (0 : Int32), iv (1 : Int32), .unset] []))
    refine own_st (fun _ k => XS.iload X251.here hx rfl (hb hby at_407) rfl  k) ?_
    show own_Fin p e below G (T251.setTop (mkF m 409 #[iv p1, iv p2, iv p3, iv (2 : Int32), rv b163, rv b166, rv b169, rv b172, rv b175, iv ((c0 * u1) + c1), iv (u0 * u1), iv (0 : Int32), iv (1 : Int32), .unset] [(.int (0 : Int32))]))
    refine own_st (fun _ k => XS.ifNo X251.here hx rfl (hb hby at_409) rfl ((if0 _ _).trans (teq (by decide : ((0 : Int32) = (0 : Int32)))).2) k) ?_
    show own_Fin p e below G (T251.setTop (mkF m 412 #[iv p1, iv p2, iv p3, iv (2 : Int32), rv b163, rv b166, rv b169, rv b172, rv b175, iv ((c0 * u1) + c1), iv (u0 * u1), iv (0 : Int32), iv (1 : Int32), .unset] []))
    refine own_st (fun _ k => XS.aload X251.here hx rfl (hb hby at_412) rfl rfl k) ?_
    show own_Fin p e below G (T251.setTop (mkF m 414 #[iv p1, iv p2, iv p3, iv (2 : Int32), rv b163, rv b166, rv b169, rv b172, rv b175, iv ((c0 * u1) + c1), iv (u0 * u1), iv (0 : Int32), iv (1 : Int32), .unset] [(.ref b169)]))
    refine own_st (fun _ k => XS.iconst X251.here hx rfl (hb hby at_414) k) ?_
    show own_Fin p e below G (T251.setTop (mkF m 415 #[iv p1, iv p2, iv p3, iv (2 : Int32), rv b163, rv b166, rv b169, rv b172, rv b175, iv ((c0 * u1) + c1), iv (u0 * u1), iv (0 : Int32), iv (1 : Int32), .unset] [(.int (0 : Int32)), (.ref b169)]))
    refine own_st (fun _ k => own_ldI X251 hx hZ e251 V251 (j := (0 : Int32)) (n := 3) rfl (by decide) (g := (mkF m 415 #[iv p1, iv p2, iv p3, iv (2 : Int32), rv b163, rv b166, rv b169, rv b172, rv b175, iv ((c0 * u1) + c1), iv (u0 * u1), iv (0 : Int32), iv (1 : Int32), .unset] [(.int (0 : Int32)), (.ref b169)])) rfl rfl (hb hby at_415) k) ?_
    show own_Fin p e below G (T251.setTop (mkF m 416 #[iv p1, iv p2, iv p3, iv (2 : Int32), rv b163, rv b166, rv b169, rv b172, rv b175, iv ((c0 * u1) + c1), iv (u0 * u1), iv (0 : Int32), iv (1 : Int32), .unset] [(.int (0 : Int32))]))
    refine own_st (fun _ k => XS.ifNo X251.here hx rfl (hb hby at_416) rfl ((if0 _ _).trans (teq (by decide : ((0 : Int32) = (0 : Int32)))).2) k) ?_
    show own_Fin p e below G (T251.setTop (mkF m 419 #[iv p1, iv p2, iv p3, iv (2 : Int32), rv b163, rv b166, rv b169, rv b172, rv b175, iv ((c0 * u1) + c1), iv (u0 * u1), iv (0 : Int32), iv (1 : Int32), .unset] []))
    refine own_st (fun _ k => XS.aload X251.here hx rfl (hb hby at_419) rfl rfl k) ?_
    show own_Fin p e below G (T251.setTop (mkF m 421 #[iv p1, iv p2, iv p3, iv (2 : Int32), rv b163, rv b166, rv b169, rv b172, rv b175, iv ((c0 * u1) + c1), iv (u0 * u1), iv (0 : Int32), iv (1 : Int32), .unset] [(.ref b169)]))
    refine own_st (fun _ k => XS.iconst X251.here hx rfl (hb hby at_421) k) ?_
    show own_Fin p e below G (T251.setTop (mkF m 422 #[iv p1, iv p2, iv p3, iv (2 : Int32), rv b163, rv b166, rv b169, rv b172, rv b175, iv ((c0 * u1) + c1), iv (u0 * u1), iv (0 : Int32), iv (1 : Int32), .unset] [(.int (1 : Int32)), (.ref b169)]))
    refine own_st (fun _ k => own_ldI X251 hx hZ e251 V251 (j := (1 : Int32)) (n := 3) rfl (by decide) (g := (mkF m 422 #[iv p1, iv p2, iv p3, iv (2 : Int32), rv b163, rv b166, rv b169, rv b172, rv b175, iv ((c0 * u1) + c1), iv (u0 * u1), iv (0 : Int32), iv (1 : Int32), .unset] [(.int (1 : Int32)), (.ref b169)])) rfl rfl (hb hby at_422) k) ?_
    show own_Fin p e below G (T251.setTop (mkF m 423 #[iv p1, iv p2, iv p3, iv (2 : Int32), rv b163, rv b166, rv b169, rv b172, rv b175, iv ((c0 * u1) + c1), iv (u0 * u1), iv (0 : Int32), iv (1 : Int32), .unset] [(.int (0 : Int32))]))
    refine own_st (fun _ k => XS.ifNo X251.here hx rfl (hb hby at_423) rfl ((if0 _ _).trans (teq (by decide : ((0 : Int32) = (0 : Int32)))).2) k) ?_
    show own_Fin p e below G (T251.setTop (mkF m 426 #[iv p1, iv p2, iv p3, iv (2 : Int32), rv b163, rv b166, rv b169, rv b172, rv b175, iv ((c0 * u1) + c1), iv (u0 * u1), iv (0 : Int32), iv (1 : Int32), .unset] []))
    refine own_st (fun _ k => XS.aload X251.here hx rfl (hb hby at_426) rfl rfl k) ?_
    show own_Fin p e below G (T251.setTop (mkF m 428 #[iv p1, iv p2, iv p3, iv (2 : Int32), rv b163, rv b166, rv b169, rv b172, rv b175, iv ((c0 * u1) + c1), iv (u0 * u1), iv (0 : Int32), iv (1 : Int32), .unset] [(.ref b169)]))
    refine own_st (fun _ k => XS.iconst X251.here hx rfl (hb hby at_428) k) ?_
    show own_Fin p e below G (T251.setTop (mkF m 429 #[iv p1, iv p2, iv p3, iv (2 : Int32), rv b163, rv b166, rv b169, rv b172, rv b175, iv ((c0 * u1) + c1), iv (u0 * u1), iv (0 : Int32), iv (1 : Int32), .unset] [(.int (2 : Int32)), (.ref b169)]))
    refine own_st (fun _ k => own_ldI X251 hx hZ e251 V251 (j := (2 : Int32)) (n := 3) rfl (by decide) (g := (mkF m 429 #[iv p1, iv p2, iv p3, iv (2 : Int32), rv b163, rv b166, rv b169, rv b172, rv b175, iv ((c0 * u1) + c1), iv (u0 * u1), iv (0 : Int32), iv (1 : Int32), .unset] [(.int (2 : Int32)), (.ref b169)])) rfl rfl (hb hby at_429) k) ?_
    clear e251 V251
    show own_Fin p e below G (T251.setTop (mkF m 430 #[iv p1, iv p2, iv p3, iv (2 : Int32), rv b163, rv b166, rv b169, rv b172, rv b175, iv ((c0 * u1) + c1), iv (u0 * u1), iv (0 : Int32), iv (1 : Int32), .unset] [(.int (0 : Int32))]))
    refine own_st (fun _ k => XS.ifNo X251.here hx rfl (hb hby at_430) rfl ((if0 _ _).trans (teq (by decide : ((0 : Int32) = (0 : Int32)))).2) k) ?_
    show own_Fin p e below G (T251.setTop (mkF m 433 #[iv p1, iv p2, iv p3, iv (2 : Int32), rv b163, rv b166, rv b169, rv b172, rv b175, iv ((c0 * u1) + c1), iv (u0 * u1), iv (0 : Int32), iv (1 : Int32), .unset] []))
    refine own_st (fun _ k => XS.iconst X251.here hx rfl (hb hby at_433) k) ?_
    show own_Fin p e below G (T251.setTop (mkF m 434 #[iv p1, iv p2, iv p3, iv (2 : Int32), rv b163, rv b166, rv b169, rv b172, rv b175, iv ((c0 * u1) + c1), iv (u0 * u1), iv (0 : Int32), iv (1 : Int32), .unset] [(.int (1 : Int32))]))
    refine own_st (fun _ k => XS.goto X251.here hx rfl (pc0 := 434) (pc' := 438) rfl (hb hby at_434) (by decide) (by decide) k) ?_
    show own_Fin p e below G (T251.setTop (mkF m 438 #[iv p1, iv p2, iv p3, iv (2 : Int32), rv b163, rv b166, rv b169, rv b172, rv b175, iv ((c0 * u1) + c1), iv (u0 * u1), iv (0 : Int32), iv (1 : Int32), .unset] [(.int (1 : Int32))]))
    refine own_out X251 Bd.notSynchronized (v := (some (.int (1 : Int32)))) (fun h => by rw [Bd.returns] at h; cases h) hG (fun fs hr => retN X251 hx (t := .boolean) Bd.returns (by simp) (hb hby at_438) hr) (by decide) (by decide) ?_
    exact ⟨rfl, N254⟩

set_option maxRecDepth 65536 in
set_option maxHeartbeats 40000000 in
theorem rm0_3 (l : Launch) (Z : State) (a0 : Array Value) (hw : ∀ d ∈ tables_1, d.before a0 Z = true) (ws : List Jvm.Cond) (p1 : Int32) (p2 : Int32) (p3 : Int32) (h0 : Heap) (n0 : Nat) (Z0 : n0 ≤ h0.size) (hL : (p1 &&& (3 : Int32)) = (3 : Int32)) :
    MetFree l x (head1 (Jvm.Cond.code x code maxLocals ret :: ws) room_1) (fun a U => a = #[(.int p1), (.int p2), (.int p3)] ∧ Z.Warmed39 U.vm ∧ U.heap = h0) (fun _ _ _ _ _ => True) (fun _ U o U' => ∃ v L, o = .returned v ∧ Qrm0_0 Z p1 p2 p3 h0 n0 v U'.heap L ∧ FrameEnd U o U' L room_1.cells room_1.slots) := by
  refine MetFree.of_bodySF (plainFor_of_name pn_com_example_paired_paths_pairedpaths_gsos_ChoicesNextPinLaw) hisR ?_
  intro p e s m args below meth c s₁ Bd hml0 hP hK
  obtain ⟨rfl, hZ, hh⟩ := hP
  have hx := Bd.exec
  have hby := Bd.bytes
  have hml : c.maxLocals = 14 := hml0
  have hown : s.vm.findClass "com/example/paired_paths/pairedpaths/gsos/ChoicesNextPinLaw" = some m.cls := findClass_of_methodNamed Bd.named
  have hnm := (name_of_methodNamed Bd.named Bd.method).1
  have X0 : Stand p l e room_1 s m #[(.int p1), (.int p2), (.int p3)] below meth c s₁ [] 0 0 := Stand.of_body Bd
  have e0 : s₁.heap = h0 := by rw [← hh, Bd.state]; rfl
  have N0 := Fr.nil n0
  have K0 : Keep h0 h0 [] := Keep.refl _ _
  refine own_start (Qk := Qrm0_0 Z p1 p2 p3 h0 n0) (fun G hG => ?_)
  refine own_st (fun _ k => castTop (ef_0_III m p1 p2 p3) k) ?_
  show own_Fin p e below G (s₁.setTop (mkF m 0 #[iv p1, iv p2, iv p3, .unset, .unset, .unset, .unset, .unset, .unset, .unset, .unset, .unset, .unset, .unset] []))
  refine own_st (fun _ k => XS.iloadN X0.here hx rfl (hb hby at_0) rfl  k) ?_
  show own_Fin p e below G (s₁.setTop (mkF m 1 #[iv p1, iv p2, iv p3, .unset, .unset, .unset, .unset, .unset, .unset, .unset, .unset, .unset, .unset, .unset] [(.int p1)]))
  refine own_st (fun _ k => XS.iconst X0.here hx rfl (hb hby at_1) k) ?_
  show own_Fin p e below G (s₁.setTop (mkF m 2 #[iv p1, iv p2, iv p3, .unset, .unset, .unset, .unset, .unset, .unset, .unset, .unset, .unset, .unset, .unset] [(.int (3 : Int32)), (.int p1)]))
  refine own_st (fun _ k => XS.iand X0.here hx rfl (hb hby at_2) rfl k) ?_
  show own_Fin p e below G (s₁.setTop (mkF m 3 #[iv p1, iv p2, iv p3, .unset, .unset, .unset, .unset, .unset, .unset, .unset, .unset, .unset, .unset, .unset] [(.int (p1 &&& (3 : Int32)))]))
  rw [hL]
  show own_Fin p e below G (s₁.setTop (mkF m 3 #[iv p1, iv p2, iv p3, .unset, .unset, .unset, .unset, .unset, .unset, .unset, .unset, .unset, .unset, .unset] [(.int (3 : Int32))]))
  refine own_st (fun _ k => XS.istoreN X0.here hx rfl (hb hby at_3) rfl (l' := #[iv p1, iv p2, iv p3, iv (3 : Int32), .unset, .unset, .unset, .unset, .unset, .unset, .unset, .unset, .unset, .unset]) rfl k) ?_
  show own_Fin p e below G (s₁.setTop (mkF m 4 #[iv p1, iv p2, iv p3, iv (3 : Int32), .unset, .unset, .unset, .unset, .unset, .unset, .unset, .unset, .unset, .unset] []))
  refine own_st (fun _ k => XS.iconst X0.here hx rfl (hb hby at_4) k) ?_
  show own_Fin p e below G (s₁.setTop (mkF m 5 #[iv p1, iv p2, iv p3, iv (3 : Int32), .unset, .unset, .unset, .unset, .unset, .unset, .unset, .unset, .unset, .unset] [(.int (3 : Int32))]))
  obtain ⟨T255, h255, k255, X255, e255, E255, A255, st255⟩ := newP X0 hx hZ (own_w hw 0 rfl) e0 (g := (mkF m 5 #[iv p1, iv p2, iv p3, iv (3 : Int32), .unset, .unset, .unset, .unset, .unset, .unset, .unset, .unset, .unset, .unset] [(.int (3 : Int32))])) rfl (hb hby at_5) rfl (by decide) (cap := 3) (by decide) (by decide) (by decide) (by decide)
  clear X0 e0
  obtain ⟨b255, g255⟩ : ∃ z, z = h0.size := ⟨_, rfl⟩
  rw [← g255] at A255 st255
  have sz_b255 : h0.size ≤ b255 := Nat.le_trans K0.1 (Nat.le_of_eq g255.symm)
  have g_b255 : n0 ≤ b255 := Nat.le_trans Z0 sz_b255
  have K257 : Keep h0 h255 [] := K0.ext E255
  clear K0 E255
  have V255 : own_AV Z h255 b255 .int (own_is [(0 : Int32), (0 : Int32), (0 : Int32)]) := own_AV_newI A255
  clear A255
  refine own_st st255 ?_
  clear st255
  show own_Fin p e below G (T255.setTop (mkF m 7 #[iv p1, iv p2, iv p3, iv (3 : Int32), .unset, .unset, .unset, .unset, .unset, .unset, .unset, .unset, .unset, .unset] [(.ref b255)]))
  refine own_st (fun _ k => XS.astore X255.here hx rfl (hb hby at_7) rfl rfl (l' := #[iv p1, iv p2, iv p3, iv (3 : Int32), rv b255, .unset, .unset, .unset, .unset, .unset, .unset, .unset, .unset, .unset]) rfl k) ?_
  show own_Fin p e below G (T255.setTop (mkF m 9 #[iv p1, iv p2, iv p3, iv (3 : Int32), rv b255, .unset, .unset, .unset, .unset, .unset, .unset, .unset, .unset, .unset] []))
  refine own_st (fun _ k => XS.iconst X255.here hx rfl (hb hby at_9) k) ?_
  show own_Fin p e below G (T255.setTop (mkF m 10 #[iv p1, iv p2, iv p3, iv (3 : Int32), rv b255, .unset, .unset, .unset, .unset, .unset, .unset, .unset, .unset, .unset] [(.int (3 : Int32))]))
  obtain ⟨T258, h258, k258, X258, e258, E258, A258, st258⟩ := newP X255 hx hZ (own_w hw 0 rfl) e255 (g := (mkF m 10 #[iv p1, iv p2, iv p3, iv (3 : Int32), rv b255, .unset, .unset, .unset, .unset, .unset, .unset, .unset, .unset, .unset] [(.int (3 : Int32))])) rfl (hb hby at_10) rfl (by decide) (cap := 3) (by decide) (by decide) (by decide) (by decide)
  clear X255 e255
  obtain ⟨b258, g258⟩ : ∃ z, z = h255.size := ⟨_, rfl⟩
  rw [← g258] at A258 st258
  have ne_b255_b258 : b255 ≠ b258 := Nat.ne_of_lt (Nat.lt_of_lt_of_le V255.lt (Nat.le_of_eq g258.symm))
  have sz_b258 : h0.size ≤ b258 := Nat.le_trans K257.1 (Nat.le_of_eq g258.symm)
  have g_b258 : n0 ≤ b258 := Nat.le_trans Z0 sz_b258
  have f259_0 := V255.ext E258
  clear V255
  have K260 : Keep h0 h258 [] := K257.ext E258
  clear K257 E258
  have V258 : own_AV Z h258 b258 .int (own_is [(0 : Int32), (0 : Int32), (0 : Int32)]) := own_AV_newI A258
  clear A258
  refine own_st st258 ?_
  clear st258
  show own_Fin p e below G (T258.setTop (mkF m 12 #[iv p1, iv p2, iv p3, iv (3 : Int32), rv b255, .unset, .unset, .unset, .unset, .unset, .unset, .unset, .unset, .unset] [(.ref b258)]))
  refine own_st (fun _ k => XS.astore X258.here hx rfl (hb hby at_12) rfl rfl (l' := #[iv p1, iv p2, iv p3, iv (3 : Int32), rv b255, rv b258, .unset, .unset, .unset, .unset, .unset, .unset, .unset, .unset]) rfl k) ?_
  show own_Fin p e below G (T258.setTop (mkF m 14 #[iv p1, iv p2, iv p3, iv (3 : Int32), rv b255, rv b258, .unset, .unset, .unset, .unset, .unset, .unset, .unset, .unset] []))
  refine own_st (fun _ k => XS.iconst X258.here hx rfl (hb hby at_14) k) ?_
  show own_Fin p e below G (T258.setTop (mkF m 15 #[iv p1, iv p2, iv p3, iv (3 : Int32), rv b255, rv b258, .unset, .unset, .unset, .unset, .unset, .unset, .unset, .unset] [(.int (3 : Int32))]))
  obtain ⟨T261, h261, k261, X261, e261, E261, A261, st261⟩ := newP X258 hx hZ (own_w hw 0 rfl) e258 (g := (mkF m 15 #[iv p1, iv p2, iv p3, iv (3 : Int32), rv b255, rv b258, .unset, .unset, .unset, .unset, .unset, .unset, .unset, .unset] [(.int (3 : Int32))])) rfl (hb hby at_15) rfl (by decide) (cap := 3) (by decide) (by decide) (by decide) (by decide)
  clear X258 e258
  obtain ⟨b261, g261⟩ : ∃ z, z = h258.size := ⟨_, rfl⟩
  rw [← g261] at A261 st261
  have ne_b255_b261 : b255 ≠ b261 := Nat.ne_of_lt (Nat.lt_of_lt_of_le f259_0.lt (Nat.le_of_eq g261.symm))
  have ne_b258_b261 : b258 ≠ b261 := Nat.ne_of_lt (Nat.lt_of_lt_of_le V258.lt (Nat.le_of_eq g261.symm))
  have sz_b261 : h0.size ≤ b261 := Nat.le_trans K260.1 (Nat.le_of_eq g261.symm)
  have g_b261 : n0 ≤ b261 := Nat.le_trans Z0 sz_b261
  have f262_0 := f259_0.ext E261
  clear f259_0
  have f262_1 := V258.ext E261
  clear V258
  have K263 : Keep h0 h261 [] := K260.ext E261
  clear K260 E261
  have V261 : own_AV Z h261 b261 .int (own_is [(0 : Int32), (0 : Int32), (0 : Int32)]) := own_AV_newI A261
  clear A261
  refine own_st st261 ?_
  clear st261
  show own_Fin p e below G (T261.setTop (mkF m 17 #[iv p1, iv p2, iv p3, iv (3 : Int32), rv b255, rv b258, .unset, .unset, .unset, .unset, .unset, .unset, .unset, .unset] [(.ref b261)]))
  refine own_st (fun _ k => XS.astore X261.here hx rfl (hb hby at_17) rfl rfl (l' := #[iv p1, iv p2, iv p3, iv (3 : Int32), rv b255, rv b258, rv b261, .unset, .unset, .unset, .unset, .unset, .unset, .unset]) rfl k) ?_
  show own_Fin p e below G (T261.setTop (mkF m 19 #[iv p1, iv p2, iv p3, iv (3 : Int32), rv b255, rv b258, rv b261, .unset, .unset, .unset, .unset, .unset, .unset, .unset] []))
  refine own_st (fun _ k => XS.iloadN X261.here hx rfl (hb hby at_19) rfl  k) ?_
  show own_Fin p e below G (T261.setTop (mkF m 20 #[iv p1, iv p2, iv p3, iv (3 : Int32), rv b255, rv b258, rv b261, .unset, .unset, .unset, .unset, .unset, .unset, .unset] [(.int (3 : Int32))]))
  obtain ⟨T264, h264, k264, X264, e264, E264, A264, st264⟩ := newP X261 hx hZ (own_w hw 0 rfl) e261 (g := (mkF m 20 #[iv p1, iv p2, iv p3, iv (3 : Int32), rv b255, rv b258, rv b261, .unset, .unset, .unset, .unset, .unset, .unset, .unset] [(.int (3 : Int32))])) rfl (hb hby at_20) rfl (by decide) (cap := 3) (by decide) (by decide) (by decide) (by decide)
  clear X261 e261
  obtain ⟨b264, g264⟩ : ∃ z, z = h261.size := ⟨_, rfl⟩
  rw [← g264] at A264 st264
  have ne_b255_b264 : b255 ≠ b264 := Nat.ne_of_lt (Nat.lt_of_lt_of_le f262_0.lt (Nat.le_of_eq g264.symm))
  have ne_b258_b264 : b258 ≠ b264 := Nat.ne_of_lt (Nat.lt_of_lt_of_le f262_1.lt (Nat.le_of_eq g264.symm))
  have ne_b261_b264 : b261 ≠ b264 := Nat.ne_of_lt (Nat.lt_of_lt_of_le V261.lt (Nat.le_of_eq g264.symm))
  have sz_b264 : h0.size ≤ b264 := Nat.le_trans K263.1 (Nat.le_of_eq g264.symm)
  have g_b264 : n0 ≤ b264 := Nat.le_trans Z0 sz_b264
  have f265_0 := f262_0.ext E264
  clear f262_0
  have f265_1 := f262_1.ext E264
  clear f262_1
  have f265_2 := V261.ext E264
  clear V261
  have K266 : Keep h0 h264 [] := K263.ext E264
  clear K263 E264
  have V264 : own_AV Z h264 b264 .int (own_is [(0 : Int32), (0 : Int32), (0 : Int32)]) := own_AV_newI A264
  clear A264
  refine own_st st264 ?_
  clear st264
  show own_Fin p e below G (T264.setTop (mkF m 22 #[iv p1, iv p2, iv p3, iv (3 : Int32), rv b255, rv b258, rv b261, .unset, .unset, .unset, .unset, .unset, .unset, .unset] [(.ref b264)]))
  refine own_st (fun _ k => XS.astore X264.here hx rfl (hb hby at_22) rfl rfl (l' := #[iv p1, iv p2, iv p3, iv (3 : Int32), rv b255, rv b258, rv b261, rv b264, .unset, .unset, .unset, .unset, .unset, .unset]) rfl k) ?_
  show own_Fin p e below G (T264.setTop (mkF m 24 #[iv p1, iv p2, iv p3, iv (3 : Int32), rv b255, rv b258, rv b261, rv b264, .unset, .unset, .unset, .unset, .unset, .unset] []))
  refine own_st (fun _ k => XS.iloadN X264.here hx rfl (hb hby at_24) rfl  k) ?_
  show own_Fin p e below G (T264.setTop (mkF m 25 #[iv p1, iv p2, iv p3, iv (3 : Int32), rv b255, rv b258, rv b261, rv b264, .unset, .unset, .unset, .unset, .unset, .unset] [(.int (3 : Int32))]))
  obtain ⟨T267, h267, k267, X267, e267, E267, A267, st267⟩ := newP X264 hx hZ (own_w hw 0 rfl) e264 (g := (mkF m 25 #[iv p1, iv p2, iv p3, iv (3 : Int32), rv b255, rv b258, rv b261, rv b264, .unset, .unset, .unset, .unset, .unset, .unset] [(.int (3 : Int32))])) rfl (hb hby at_25) rfl (by decide) (cap := 3) (by decide) (by decide) (by decide) (by decide)
  clear X264 e264
  obtain ⟨b267, g267⟩ : ∃ z, z = h264.size := ⟨_, rfl⟩
  rw [← g267] at A267 st267
  have ne_b255_b267 : b255 ≠ b267 := Nat.ne_of_lt (Nat.lt_of_lt_of_le f265_0.lt (Nat.le_of_eq g267.symm))
  have ne_b258_b267 : b258 ≠ b267 := Nat.ne_of_lt (Nat.lt_of_lt_of_le f265_1.lt (Nat.le_of_eq g267.symm))
  have ne_b261_b267 : b261 ≠ b267 := Nat.ne_of_lt (Nat.lt_of_lt_of_le f265_2.lt (Nat.le_of_eq g267.symm))
  have ne_b264_b267 : b264 ≠ b267 := Nat.ne_of_lt (Nat.lt_of_lt_of_le V264.lt (Nat.le_of_eq g267.symm))
  have sz_b267 : h0.size ≤ b267 := Nat.le_trans K266.1 (Nat.le_of_eq g267.symm)
  have g_b267 : n0 ≤ b267 := Nat.le_trans Z0 sz_b267
  have f268_0 := f265_0.ext E267
  clear f265_0
  have f268_1 := f265_1.ext E267
  clear f265_1
  have f268_2 := f265_2.ext E267
  clear f265_2
  have f268_3 := V264.ext E267
  clear V264
  have K269 : Keep h0 h267 [] := K266.ext E267
  clear K266 E267
  have V267 : own_AV Z h267 b267 .int (own_is [(0 : Int32), (0 : Int32), (0 : Int32)]) := own_AV_newI A267
  clear A267
  refine own_st st267 ?_
  clear st267
  show own_Fin p e below G (T267.setTop (mkF m 27 #[iv p1, iv p2, iv p3, iv (3 : Int32), rv b255, rv b258, rv b261, rv b264, .unset, .unset, .unset, .unset, .unset, .unset] [(.ref b267)]))
  refine own_st (fun _ k => XS.astore X267.here hx rfl (hb hby at_27) rfl rfl (l' := #[iv p1, iv p2, iv p3, iv (3 : Int32), rv b255, rv b258, rv b261, rv b264, rv b267, .unset, .unset, .unset, .unset, .unset]) rfl k) ?_
  show own_Fin p e below G (T267.setTop (mkF m 29 #[iv p1, iv p2, iv p3, iv (3 : Int32), rv b255, rv b258, rv b261, rv b264, rv b267, .unset, .unset, .unset, .unset, .unset] []))
  refine own_st (fun _ k => XS.aload X267.here hx rfl (hb hby at_29) rfl rfl k) ?_
  show own_Fin p e below G (T267.setTop (mkF m 31 #[iv p1, iv p2, iv p3, iv (3 : Int32), rv b255, rv b258, rv b261, rv b264, rv b267, .unset, .unset, .unset, .unset, .unset] [(.ref b255)]))
  refine own_st (fun _ k => XS.iconst X267.here hx rfl (hb hby at_31) k) ?_
  show own_Fin p e below G (T267.setTop (mkF m 32 #[iv p1, iv p2, iv p3, iv (3 : Int32), rv b255, rv b258, rv b261, rv b264, rv b267, .unset, .unset, .unset, .unset, .unset] [(.int (0 : Int32)), (.ref b255)]))
  refine own_st (fun _ k => XS.iloadN X267.here hx rfl (hb hby at_32) rfl  k) ?_
  show own_Fin p e below G (T267.setTop (mkF m 33 #[iv p1, iv p2, iv p3, iv (3 : Int32), rv b255, rv b258, rv b261, rv b264, rv b267, .unset, .unset, .unset, .unset, .unset] [(.int p2), (.int (0 : Int32)), (.ref b255)]))
  refine own_st (fun _ k => XS.bipush X267.here hx rfl (hb hby at_33) k) ?_
  show own_Fin p e below G (T267.setTop (mkF m 35 #[iv p1, iv p2, iv p3, iv (3 : Int32), rv b255, rv b258, rv b261, rv b264, rv b267, .unset, .unset, .unset, .unset, .unset] [(.int (7 : Int32)), (.int p2), (.int (0 : Int32)), (.ref b255)]))
  refine own_st (fun _ k => XS.iand X267.here hx rfl (hb hby at_35) rfl k) ?_
  show own_Fin p e below G (T267.setTop (mkF m 36 #[iv p1, iv p2, iv p3, iv (3 : Int32), rv b255, rv b258, rv b261, rv b264, rv b267, .unset, .unset, .unset, .unset, .unset] [(.int (p2 &&& (7 : Int32))), (.int (0 : Int32)), (.ref b255)]))
  refine own_st (fun _ k => XS.iconst X267.here hx rfl (hb hby at_36) k) ?_
  show own_Fin p e below G (T267.setTop (mkF m 37 #[iv p1, iv p2, iv p3, iv (3 : Int32), rv b255, rv b258, rv b261, rv b264, rv b267, .unset, .unset, .unset, .unset, .unset] [(.int (1 : Int32)), (.int (p2 &&& (7 : Int32))), (.int (0 : Int32)), (.ref b255)]))
  refine own_st (fun _ k => XS.iadd X267.here hx rfl (hb hby at_37) rfl k) ?_
  show own_Fin p e below G (T267.setTop (mkF m 38 #[iv p1, iv p2, iv p3, iv (3 : Int32), rv b255, rv b258, rv b261, rv b264, rv b267, .unset, .unset, .unset, .unset, .unset] [(.int ((p2 &&& (7 : Int32)) + (1 : Int32))), (.int (0 : Int32)), (.ref b255)]))
  have r_u0 := own_n p2
  generalize e_u0 : ((p2 &&& (7 : Int32)) + (1 : Int32)) = u0 at r_u0 ⊢
  show own_Fin p e below G (T267.setTop (mkF m 38 #[iv p1, iv p2, iv p3, iv (3 : Int32), rv b255, rv b258, rv b261, rv b264, rv b267, .unset, .unset, .unset, .unset, .unset] [(.int u0), (.int (0 : Int32)), (.ref b255)]))
  obtain ⟨T270, h270, X270, e270, W270, V270, st270⟩ := own_stI X267 hx hZ e267 f268_0 (j := (0 : Int32)) (n := 3) rfl (by decide) (g := (mkF m 38 #[iv p1, iv p2, iv p3, iv (3 : Int32), rv b255, rv b258, rv b261, rv b264, rv b267, .unset, .unset, .unset, .unset, .unset] [(.int u0), (.int (0 : Int32)), (.ref b255)])) rfl rfl (hb hby at_38)
  clear X267 e267 f268_0
  have f271_1 := f268_1.other W270 (Ne.symm ne_b255_b258)
  clear f268_1
  have f271_2 := f268_2.other W270 (Ne.symm ne_b255_b261)
  clear f268_2
  have f271_3 := f268_3.other W270 (Ne.symm ne_b255_b264)
  clear f268_3
  have f271_4 := V267.other W270 (Ne.symm ne_b255_b267)
  clear V267
  have K272 : Keep h0 h270 [] := K269.wr W270 (Or.inr sz_b255)
  clear K269 W270
  have N273 := Fr.snoc X270 N0 g_b255
  clear N0
  replace V270 : own_AV Z h270 b255 .int (own_is [u0, (0 : Int32), (0 : Int32)]) := V270
  refine own_st st270 ?_
  clear st270
  show own_Fin p e below G (T270.setTop (mkF m 39 #[iv p1, iv p2, iv p3, iv (3 : Int32), rv b255, rv b258, rv b261, rv b264, rv b267, .unset, .unset, .unset, .unset, .unset] []))
  refine own_st (fun _ k => XS.aload X270.here hx rfl (hb hby at_39) rfl rfl k) ?_
  show own_Fin p e below G (T270.setTop (mkF m 41 #[iv p1, iv p2, iv p3, iv (3 : Int32), rv b255, rv b258, rv b261, rv b264, rv b267, .unset, .unset, .unset, .unset, .unset] [(.ref b255)]))
  refine own_st (fun _ k => XS.iconst X270.here hx rfl (hb hby at_41) k) ?_
  show own_Fin p e below G (T270.setTop (mkF m 42 #[iv p1, iv p2, iv p3, iv (3 : Int32), rv b255, rv b258, rv b261, rv b264, rv b267, .unset, .unset, .unset, .unset, .unset] [(.int (1 : Int32)), (.ref b255)]))
  refine own_st (fun _ k => XS.iloadN X270.here hx rfl (hb hby at_42) rfl  k) ?_
  show own_Fin p e below G (T270.setTop (mkF m 43 #[iv p1, iv p2, iv p3, iv (3 : Int32), rv b255, rv b258, rv b261, rv b264, rv b267, .unset, .unset, .unset, .unset, .unset] [(.int p2), (.int (1 : Int32)), (.ref b255)]))
  refine own_st (fun _ k => XS.iconst X270.here hx rfl (hb hby at_43) k) ?_
  show own_Fin p e below G (T270.setTop (mkF m 44 #[iv p1, iv p2, iv p3, iv (3 : Int32), rv b255, rv b258, rv b261, rv b264, rv b267, .unset, .unset, .unset, .unset, .unset] [(.int (3 : Int32)), (.int p2), (.int (1 : Int32)), (.ref b255)]))
  refine own_st (fun _ k => XS.iushr X270.here hx rfl (hb hby at_44) rfl k) ?_
  show own_Fin p e below G (T270.setTop (mkF m 45 #[iv p1, iv p2, iv p3, iv (3 : Int32), rv b255, rv b258, rv b261, rv b264, rv b267, .unset, .unset, .unset, .unset, .unset] [(.int ((p2.toUInt32 >>> ((3 : Int32) &&& 31).toUInt32).toInt32)), (.int (1 : Int32)), (.ref b255)]))
  refine own_st (fun _ k => XS.bipush X270.here hx rfl (hb hby at_45) k) ?_
  show own_Fin p e below G (T270.setTop (mkF m 47 #[iv p1, iv p2, iv p3, iv (3 : Int32), rv b255, rv b258, rv b261, rv b264, rv b267, .unset, .unset, .unset, .unset, .unset] [(.int (7 : Int32)), (.int ((p2.toUInt32 >>> ((3 : Int32) &&& 31).toUInt32).toInt32)), (.int (1 : Int32)), (.ref b255)]))
  refine own_st (fun _ k => XS.iand X270.here hx rfl (hb hby at_47) rfl k) ?_
  show own_Fin p e below G (T270.setTop (mkF m 48 #[iv p1, iv p2, iv p3, iv (3 : Int32), rv b255, rv b258, rv b261, rv b264, rv b267, .unset, .unset, .unset, .unset, .unset] [(.int (((p2.toUInt32 >>> ((3 : Int32) &&& 31).toUInt32).toInt32) &&& (7 : Int32))), (.int (1 : Int32)), (.ref b255)]))
  refine own_st (fun _ k => XS.iconst X270.here hx rfl (hb hby at_48) k) ?_
  show own_Fin p e below G (T270.setTop (mkF m 49 #[iv p1, iv p2, iv p3, iv (3 : Int32), rv b255, rv b258, rv b261, rv b264, rv b267, .unset, .unset, .unset, .unset, .unset] [(.int (1 : Int32)), (.int (((p2.toUInt32 >>> ((3 : Int32) &&& 31).toUInt32).toInt32) &&& (7 : Int32))), (.int (1 : Int32)), (.ref b255)]))
  refine own_st (fun _ k => XS.iadd X270.here hx rfl (hb hby at_49) rfl k) ?_
  show own_Fin p e below G (T270.setTop (mkF m 50 #[iv p1, iv p2, iv p3, iv (3 : Int32), rv b255, rv b258, rv b261, rv b264, rv b267, .unset, .unset, .unset, .unset, .unset] [(.int ((((p2.toUInt32 >>> ((3 : Int32) &&& 31).toUInt32).toInt32) &&& (7 : Int32)) + (1 : Int32))), (.int (1 : Int32)), (.ref b255)]))
  have r_u1 := own_n ((p2.toUInt32 >>> ((3 : Int32) &&& 31).toUInt32).toInt32)
  generalize e_u1 : ((((p2.toUInt32 >>> ((3 : Int32) &&& 31).toUInt32).toInt32) &&& (7 : Int32)) + (1 : Int32)) = u1 at r_u1 ⊢
  show own_Fin p e below G (T270.setTop (mkF m 50 #[iv p1, iv p2, iv p3, iv (3 : Int32), rv b255, rv b258, rv b261, rv b264, rv b267, .unset, .unset, .unset, .unset, .unset] [(.int u1), (.int (1 : Int32)), (.ref b255)]))
  obtain ⟨T274, h274, X274, e274, W274, V274, st274⟩ := own_stI X270 hx hZ e270 V270 (j := (1 : Int32)) (n := 3) rfl (by decide) (g := (mkF m 50 #[iv p1, iv p2, iv p3, iv (3 : Int32), rv b255, rv b258, rv b261, rv b264, rv b267, .unset, .unset, .unset, .unset, .unset] [(.int u1), (.int (1 : Int32)), (.ref b255)])) rfl rfl (hb hby at_50)
  clear X270 e270 V270
  have f275_1 := f271_1.other W274 (Ne.symm ne_b255_b258)
  clear f271_1
  have f275_2 := f271_2.other W274 (Ne.symm ne_b255_b261)
  clear f271_2
  have f275_3 := f271_3.other W274 (Ne.symm ne_b255_b264)
  clear f271_3
  have f275_4 := f271_4.other W274 (Ne.symm ne_b255_b267)
  clear f271_4
  have K276 : Keep h0 h274 [] := K272.wr W274 (Or.inr sz_b255)
  clear K272 W274
  have N277 := Fr.snoc X274 N273 g_b255
  clear N273
  replace V274 : own_AV Z h274 b255 .int (own_is [u0, u1, (0 : Int32)]) := V274
  refine own_st st274 ?_
  clear st274
  show own_Fin p e below G (T274.setTop (mkF m 51 #[iv p1, iv p2, iv p3, iv (3 : Int32), rv b255, rv b258, rv b261, rv b264, rv b267, .unset, .unset, .unset, .unset, .unset] []))
  refine own_st (fun _ k => XS.aload X274.here hx rfl (hb hby at_51) rfl rfl k) ?_
  show own_Fin p e below G (T274.setTop (mkF m 53 #[iv p1, iv p2, iv p3, iv (3 : Int32), rv b255, rv b258, rv b261, rv b264, rv b267, .unset, .unset, .unset, .unset, .unset] [(.ref b255)]))
  refine own_st (fun _ k => XS.iconst X274.here hx rfl (hb hby at_53) k) ?_
  show own_Fin p e below G (T274.setTop (mkF m 54 #[iv p1, iv p2, iv p3, iv (3 : Int32), rv b255, rv b258, rv b261, rv b264, rv b267, .unset, .unset, .unset, .unset, .unset] [(.int (2 : Int32)), (.ref b255)]))
  refine own_st (fun _ k => XS.iloadN X274.here hx rfl (hb hby at_54) rfl  k) ?_
  show own_Fin p e below G (T274.setTop (mkF m 55 #[iv p1, iv p2, iv p3, iv (3 : Int32), rv b255, rv b258, rv b261, rv b264, rv b267, .unset, .unset, .unset, .unset, .unset] [(.int p2), (.int (2 : Int32)), (.ref b255)]))
  refine own_st (fun _ k => XS.bipush X274.here hx rfl (hb hby at_55) k) ?_
  show own_Fin p e below G (T274.setTop (mkF m 57 #[iv p1, iv p2, iv p3, iv (3 : Int32), rv b255, rv b258, rv b261, rv b264, rv b267, .unset, .unset, .unset, .unset, .unset] [(.int (6 : Int32)), (.int p2), (.int (2 : Int32)), (.ref b255)]))
  refine own_st (fun _ k => XS.iushr X274.here hx rfl (hb hby at_57) rfl k) ?_
  show own_Fin p e below G (T274.setTop (mkF m 58 #[iv p1, iv p2, iv p3, iv (3 : Int32), rv b255, rv b258, rv b261, rv b264, rv b267, .unset, .unset, .unset, .unset, .unset] [(.int ((p2.toUInt32 >>> ((6 : Int32) &&& 31).toUInt32).toInt32)), (.int (2 : Int32)), (.ref b255)]))
  refine own_st (fun _ k => XS.bipush X274.here hx rfl (hb hby at_58) k) ?_
  show own_Fin p e below G (T274.setTop (mkF m 60 #[iv p1, iv p2, iv p3, iv (3 : Int32), rv b255, rv b258, rv b261, rv b264, rv b267, .unset, .unset, .unset, .unset, .unset] [(.int (7 : Int32)), (.int ((p2.toUInt32 >>> ((6 : Int32) &&& 31).toUInt32).toInt32)), (.int (2 : Int32)), (.ref b255)]))
  refine own_st (fun _ k => XS.iand X274.here hx rfl (hb hby at_60) rfl k) ?_
  show own_Fin p e below G (T274.setTop (mkF m 61 #[iv p1, iv p2, iv p3, iv (3 : Int32), rv b255, rv b258, rv b261, rv b264, rv b267, .unset, .unset, .unset, .unset, .unset] [(.int (((p2.toUInt32 >>> ((6 : Int32) &&& 31).toUInt32).toInt32) &&& (7 : Int32))), (.int (2 : Int32)), (.ref b255)]))
  refine own_st (fun _ k => XS.iconst X274.here hx rfl (hb hby at_61) k) ?_
  show own_Fin p e below G (T274.setTop (mkF m 62 #[iv p1, iv p2, iv p3, iv (3 : Int32), rv b255, rv b258, rv b261, rv b264, rv b267, .unset, .unset, .unset, .unset, .unset] [(.int (1 : Int32)), (.int (((p2.toUInt32 >>> ((6 : Int32) &&& 31).toUInt32).toInt32) &&& (7 : Int32))), (.int (2 : Int32)), (.ref b255)]))
  refine own_st (fun _ k => XS.iadd X274.here hx rfl (hb hby at_62) rfl k) ?_
  show own_Fin p e below G (T274.setTop (mkF m 63 #[iv p1, iv p2, iv p3, iv (3 : Int32), rv b255, rv b258, rv b261, rv b264, rv b267, .unset, .unset, .unset, .unset, .unset] [(.int ((((p2.toUInt32 >>> ((6 : Int32) &&& 31).toUInt32).toInt32) &&& (7 : Int32)) + (1 : Int32))), (.int (2 : Int32)), (.ref b255)]))
  have r_u2 := own_n ((p2.toUInt32 >>> ((6 : Int32) &&& 31).toUInt32).toInt32)
  generalize e_u2 : ((((p2.toUInt32 >>> ((6 : Int32) &&& 31).toUInt32).toInt32) &&& (7 : Int32)) + (1 : Int32)) = u2 at r_u2 ⊢
  show own_Fin p e below G (T274.setTop (mkF m 63 #[iv p1, iv p2, iv p3, iv (3 : Int32), rv b255, rv b258, rv b261, rv b264, rv b267, .unset, .unset, .unset, .unset, .unset] [(.int u2), (.int (2 : Int32)), (.ref b255)]))
  obtain ⟨T278, h278, X278, e278, W278, V278, st278⟩ := own_stI X274 hx hZ e274 V274 (j := (2 : Int32)) (n := 3) rfl (by decide) (g := (mkF m 63 #[iv p1, iv p2, iv p3, iv (3 : Int32), rv b255, rv b258, rv b261, rv b264, rv b267, .unset, .unset, .unset, .unset, .unset] [(.int u2), (.int (2 : Int32)), (.ref b255)])) rfl rfl (hb hby at_63)
  clear X274 e274 V274
  have f279_1 := f275_1.other W278 (Ne.symm ne_b255_b258)
  clear f275_1
  have f279_2 := f275_2.other W278 (Ne.symm ne_b255_b261)
  clear f275_2
  have f279_3 := f275_3.other W278 (Ne.symm ne_b255_b264)
  clear f275_3
  have f279_4 := f275_4.other W278 (Ne.symm ne_b255_b267)
  clear f275_4
  have K280 : Keep h0 h278 [] := K276.wr W278 (Or.inr sz_b255)
  clear K276 W278
  have N281 := Fr.snoc X278 N277 g_b255
  clear N277
  replace V278 : own_AV Z h278 b255 .int (own_is [u0, u1, u2]) := V278
  refine own_st st278 ?_
  clear st278
  show own_Fin p e below G (T278.setTop (mkF m 64 #[iv p1, iv p2, iv p3, iv (3 : Int32), rv b255, rv b258, rv b261, rv b264, rv b267, .unset, .unset, .unset, .unset, .unset] []))
  refine own_st (fun _ k => XS.aload X278.here hx rfl (hb hby at_64) rfl rfl k) ?_
  show own_Fin p e below G (T278.setTop (mkF m 66 #[iv p1, iv p2, iv p3, iv (3 : Int32), rv b255, rv b258, rv b261, rv b264, rv b267, .unset, .unset, .unset, .unset, .unset] [(.ref b258)]))
  refine own_st (fun _ k => XS.iconst X278.here hx rfl (hb hby at_66) k) ?_
  show own_Fin p e below G (T278.setTop (mkF m 67 #[iv p1, iv p2, iv p3, iv (3 : Int32), rv b255, rv b258, rv b261, rv b264, rv b267, .unset, .unset, .unset, .unset, .unset] [(.int (0 : Int32)), (.ref b258)]))
  refine own_st (fun _ k => XS.iloadN X278.here hx rfl (hb hby at_67) rfl  k) ?_
  show own_Fin p e below G (T278.setTop (mkF m 68 #[iv p1, iv p2, iv p3, iv (3 : Int32), rv b255, rv b258, rv b261, rv b264, rv b267, .unset, .unset, .unset, .unset, .unset] [(.int p3), (.int (0 : Int32)), (.ref b258)]))
  refine own_st (fun _ k => XS.sipush X278.here hx rfl (hb hby at_68) k) ?_
  show own_Fin p e below G (T278.setTop (mkF m 71 #[iv p1, iv p2, iv p3, iv (3 : Int32), rv b255, rv b258, rv b261, rv b264, rv b267, .unset, .unset, .unset, .unset, .unset] [(.int (255 : Int32)), (.int p3), (.int (0 : Int32)), (.ref b258)]))
  refine own_st (fun _ k => XS.iand X278.here hx rfl (hb hby at_71) rfl k) ?_
  show own_Fin p e below G (T278.setTop (mkF m 72 #[iv p1, iv p2, iv p3, iv (3 : Int32), rv b255, rv b258, rv b261, rv b264, rv b267, .unset, .unset, .unset, .unset, .unset] [(.int (p3 &&& (255 : Int32))), (.int (0 : Int32)), (.ref b258)]))
  refine own_st (fun _ k => XS.aload X278.here hx rfl (hb hby at_72) rfl rfl k) ?_
  show own_Fin p e below G (T278.setTop (mkF m 74 #[iv p1, iv p2, iv p3, iv (3 : Int32), rv b255, rv b258, rv b261, rv b264, rv b267, .unset, .unset, .unset, .unset, .unset] [(.ref b255), (.int (p3 &&& (255 : Int32))), (.int (0 : Int32)), (.ref b258)]))
  refine own_st (fun _ k => XS.iconst X278.here hx rfl (hb hby at_74) k) ?_
  show own_Fin p e below G (T278.setTop (mkF m 75 #[iv p1, iv p2, iv p3, iv (3 : Int32), rv b255, rv b258, rv b261, rv b264, rv b267, .unset, .unset, .unset, .unset, .unset] [(.int (0 : Int32)), (.ref b255), (.int (p3 &&& (255 : Int32))), (.int (0 : Int32)), (.ref b258)]))
  refine own_st (fun _ k => own_ldI X278 hx hZ e278 V278 (j := (0 : Int32)) (n := 3) rfl (by decide) (g := (mkF m 75 #[iv p1, iv p2, iv p3, iv (3 : Int32), rv b255, rv b258, rv b261, rv b264, rv b267, .unset, .unset, .unset, .unset, .unset] [(.int (0 : Int32)), (.ref b255), (.int (p3 &&& (255 : Int32))), (.int (0 : Int32)), (.ref b258)])) rfl rfl (hb hby at_75) k) ?_
  show own_Fin p e below G (T278.setTop (mkF m 76 #[iv p1, iv p2, iv p3, iv (3 : Int32), rv b255, rv b258, rv b261, rv b264, rv b267, .unset, .unset, .unset, .unset, .unset] [(.int u0), (.int (p3 &&& (255 : Int32))), (.int (0 : Int32)), (.ref b258)]))
  refine own_st (fun _ k => iremM (g := (mkF m 76 #[iv p1, iv p2, iv p3, iv (3 : Int32), rv b255, rv b258, rv b261, rv b264, rv b267, .unset, .unset, .unset, .unset, .unset] [(.int u0), (.int (p3 &&& (255 : Int32))), (.int (0 : Int32)), (.ref b258)])) X278 hx rfl (hb hby at_76) rfl (own_nz r_u0) k) ?_
  show own_Fin p e below G (T278.setTop (mkF m 77 #[iv p1, iv p2, iv p3, iv (3 : Int32), rv b255, rv b258, rv b261, rv b264, rv b267, .unset, .unset, .unset, .unset, .unset] [(.int ((p3 &&& (255 : Int32)) % u0)), (.int (0 : Int32)), (.ref b258)]))
  have r_c0 := own_c p3 r_u0
  generalize e_c0 : ((p3 &&& (255 : Int32)) % u0) = c0 at r_c0 ⊢
  show own_Fin p e below G (T278.setTop (mkF m 77 #[iv p1, iv p2, iv p3, iv (3 : Int32), rv b255, rv b258, rv b261, rv b264, rv b267, .unset, .unset, .unset, .unset, .unset] [(.int c0), (.int (0 : Int32)), (.ref b258)]))
  obtain ⟨T282, h282, X282, e282, W282, V282, st282⟩ := own_stI X278 hx hZ e278 f279_1 (j := (0 : Int32)) (n := 3) rfl (by decide) (g := (mkF m 77 #[iv p1, iv p2, iv p3, iv (3 : Int32), rv b255, rv b258, rv b261, rv b264, rv b267, .unset, .unset, .unset, .unset, .unset] [(.int c0), (.int (0 : Int32)), (.ref b258)])) rfl rfl (hb hby at_77)
  clear X278 e278 f279_1
  have f283_0 := V278.other W282 ne_b255_b258
  clear V278
  have f283_2 := f279_2.other W282 (Ne.symm ne_b258_b261)
  clear f279_2
  have f283_3 := f279_3.other W282 (Ne.symm ne_b258_b264)
  clear f279_3
  have f283_4 := f279_4.other W282 (Ne.symm ne_b258_b267)
  clear f279_4
  have K284 : Keep h0 h282 [] := K280.wr W282 (Or.inr sz_b258)
  clear K280 W282
  have N285 := Fr.snoc X282 N281 g_b258
  clear N281
  replace V282 : own_AV Z h282 b258 .int (own_is [c0, (0 : Int32), (0 : Int32)]) := V282
  refine own_st st282 ?_
  clear st282
  show own_Fin p e below G (T282.setTop (mkF m 78 #[iv p1, iv p2, iv p3, iv (3 : Int32), rv b255, rv b258, rv b261, rv b264, rv b267, .unset, .unset, .unset, .unset, .unset] []))
  refine own_st (fun _ k => XS.aload X282.here hx rfl (hb hby at_78) rfl rfl k) ?_
  show own_Fin p e below G (T282.setTop (mkF m 80 #[iv p1, iv p2, iv p3, iv (3 : Int32), rv b255, rv b258, rv b261, rv b264, rv b267, .unset, .unset, .unset, .unset, .unset] [(.ref b258)]))
  refine own_st (fun _ k => XS.iconst X282.here hx rfl (hb hby at_80) k) ?_
  show own_Fin p e below G (T282.setTop (mkF m 81 #[iv p1, iv p2, iv p3, iv (3 : Int32), rv b255, rv b258, rv b261, rv b264, rv b267, .unset, .unset, .unset, .unset, .unset] [(.int (1 : Int32)), (.ref b258)]))
  refine own_st (fun _ k => XS.iloadN X282.here hx rfl (hb hby at_81) rfl  k) ?_
  show own_Fin p e below G (T282.setTop (mkF m 82 #[iv p1, iv p2, iv p3, iv (3 : Int32), rv b255, rv b258, rv b261, rv b264, rv b267, .unset, .unset, .unset, .unset, .unset] [(.int p3), (.int (1 : Int32)), (.ref b258)]))
  refine own_st (fun _ k => XS.bipush X282.here hx rfl (hb hby at_82) k) ?_
  show own_Fin p e below G (T282.setTop (mkF m 84 #[iv p1, iv p2, iv p3, iv (3 : Int32), rv b255, rv b258, rv b261, rv b264, rv b267, .unset, .unset, .unset, .unset, .unset] [(.int (8 : Int32)), (.int p3), (.int (1 : Int32)), (.ref b258)]))
  refine own_st (fun _ k => XS.iushr X282.here hx rfl (hb hby at_84) rfl k) ?_
  show own_Fin p e below G (T282.setTop (mkF m 85 #[iv p1, iv p2, iv p3, iv (3 : Int32), rv b255, rv b258, rv b261, rv b264, rv b267, .unset, .unset, .unset, .unset, .unset] [(.int ((p3.toUInt32 >>> ((8 : Int32) &&& 31).toUInt32).toInt32)), (.int (1 : Int32)), (.ref b258)]))
  refine own_st (fun _ k => XS.sipush X282.here hx rfl (hb hby at_85) k) ?_
  show own_Fin p e below G (T282.setTop (mkF m 88 #[iv p1, iv p2, iv p3, iv (3 : Int32), rv b255, rv b258, rv b261, rv b264, rv b267, .unset, .unset, .unset, .unset, .unset] [(.int (255 : Int32)), (.int ((p3.toUInt32 >>> ((8 : Int32) &&& 31).toUInt32).toInt32)), (.int (1 : Int32)), (.ref b258)]))
  refine own_st (fun _ k => XS.iand X282.here hx rfl (hb hby at_88) rfl k) ?_
  show own_Fin p e below G (T282.setTop (mkF m 89 #[iv p1, iv p2, iv p3, iv (3 : Int32), rv b255, rv b258, rv b261, rv b264, rv b267, .unset, .unset, .unset, .unset, .unset] [(.int (((p3.toUInt32 >>> ((8 : Int32) &&& 31).toUInt32).toInt32) &&& (255 : Int32))), (.int (1 : Int32)), (.ref b258)]))
  refine own_st (fun _ k => XS.aload X282.here hx rfl (hb hby at_89) rfl rfl k) ?_
  show own_Fin p e below G (T282.setTop (mkF m 91 #[iv p1, iv p2, iv p3, iv (3 : Int32), rv b255, rv b258, rv b261, rv b264, rv b267, .unset, .unset, .unset, .unset, .unset] [(.ref b255), (.int (((p3.toUInt32 >>> ((8 : Int32) &&& 31).toUInt32).toInt32) &&& (255 : Int32))), (.int (1 : Int32)), (.ref b258)]))
  refine own_st (fun _ k => XS.iconst X282.here hx rfl (hb hby at_91) k) ?_
  show own_Fin p e below G (T282.setTop (mkF m 92 #[iv p1, iv p2, iv p3, iv (3 : Int32), rv b255, rv b258, rv b261, rv b264, rv b267, .unset, .unset, .unset, .unset, .unset] [(.int (1 : Int32)), (.ref b255), (.int (((p3.toUInt32 >>> ((8 : Int32) &&& 31).toUInt32).toInt32) &&& (255 : Int32))), (.int (1 : Int32)), (.ref b258)]))
  refine own_st (fun _ k => own_ldI X282 hx hZ e282 f283_0 (j := (1 : Int32)) (n := 3) rfl (by decide) (g := (mkF m 92 #[iv p1, iv p2, iv p3, iv (3 : Int32), rv b255, rv b258, rv b261, rv b264, rv b267, .unset, .unset, .unset, .unset, .unset] [(.int (1 : Int32)), (.ref b255), (.int (((p3.toUInt32 >>> ((8 : Int32) &&& 31).toUInt32).toInt32) &&& (255 : Int32))), (.int (1 : Int32)), (.ref b258)])) rfl rfl (hb hby at_92) k) ?_
  show own_Fin p e below G (T282.setTop (mkF m 93 #[iv p1, iv p2, iv p3, iv (3 : Int32), rv b255, rv b258, rv b261, rv b264, rv b267, .unset, .unset, .unset, .unset, .unset] [(.int u1), (.int (((p3.toUInt32 >>> ((8 : Int32) &&& 31).toUInt32).toInt32) &&& (255 : Int32))), (.int (1 : Int32)), (.ref b258)]))
  refine own_st (fun _ k => iremM (g := (mkF m 93 #[iv p1, iv p2, iv p3, iv (3 : Int32), rv b255, rv b258, rv b261, rv b264, rv b267, .unset, .unset, .unset, .unset, .unset] [(.int u1), (.int (((p3.toUInt32 >>> ((8 : Int32) &&& 31).toUInt32).toInt32) &&& (255 : Int32))), (.int (1 : Int32)), (.ref b258)])) X282 hx rfl (hb hby at_93) rfl (own_nz r_u1) k) ?_
  show own_Fin p e below G (T282.setTop (mkF m 94 #[iv p1, iv p2, iv p3, iv (3 : Int32), rv b255, rv b258, rv b261, rv b264, rv b267, .unset, .unset, .unset, .unset, .unset] [(.int ((((p3.toUInt32 >>> ((8 : Int32) &&& 31).toUInt32).toInt32) &&& (255 : Int32)) % u1)), (.int (1 : Int32)), (.ref b258)]))
  have r_c1 := own_c ((p3.toUInt32 >>> ((8 : Int32) &&& 31).toUInt32).toInt32) r_u1
  generalize e_c1 : ((((p3.toUInt32 >>> ((8 : Int32) &&& 31).toUInt32).toInt32) &&& (255 : Int32)) % u1) = c1 at r_c1 ⊢
  show own_Fin p e below G (T282.setTop (mkF m 94 #[iv p1, iv p2, iv p3, iv (3 : Int32), rv b255, rv b258, rv b261, rv b264, rv b267, .unset, .unset, .unset, .unset, .unset] [(.int c1), (.int (1 : Int32)), (.ref b258)]))
  obtain ⟨T286, h286, X286, e286, W286, V286, st286⟩ := own_stI X282 hx hZ e282 V282 (j := (1 : Int32)) (n := 3) rfl (by decide) (g := (mkF m 94 #[iv p1, iv p2, iv p3, iv (3 : Int32), rv b255, rv b258, rv b261, rv b264, rv b267, .unset, .unset, .unset, .unset, .unset] [(.int c1), (.int (1 : Int32)), (.ref b258)])) rfl rfl (hb hby at_94)
  clear X282 e282 V282
  have f287_0 := f283_0.other W286 ne_b255_b258
  clear f283_0
  have f287_2 := f283_2.other W286 (Ne.symm ne_b258_b261)
  clear f283_2
  have f287_3 := f283_3.other W286 (Ne.symm ne_b258_b264)
  clear f283_3
  have f287_4 := f283_4.other W286 (Ne.symm ne_b258_b267)
  clear f283_4
  have K288 : Keep h0 h286 [] := K284.wr W286 (Or.inr sz_b258)
  clear K284 W286
  have N289 := Fr.snoc X286 N285 g_b258
  clear N285
  replace V286 : own_AV Z h286 b258 .int (own_is [c0, c1, (0 : Int32)]) := V286
  refine own_st st286 ?_
  clear st286
  show own_Fin p e below G (T286.setTop (mkF m 95 #[iv p1, iv p2, iv p3, iv (3 : Int32), rv b255, rv b258, rv b261, rv b264, rv b267, .unset, .unset, .unset, .unset, .unset] []))
  refine own_st (fun _ k => XS.aload X286.here hx rfl (hb hby at_95) rfl rfl k) ?_
  show own_Fin p e below G (T286.setTop (mkF m 97 #[iv p1, iv p2, iv p3, iv (3 : Int32), rv b255, rv b258, rv b261, rv b264, rv b267, .unset, .unset, .unset, .unset, .unset] [(.ref b258)]))
  refine own_st (fun _ k => XS.iconst X286.here hx rfl (hb hby at_97) k) ?_
  show own_Fin p e below G (T286.setTop (mkF m 98 #[iv p1, iv p2, iv p3, iv (3 : Int32), rv b255, rv b258, rv b261, rv b264, rv b267, .unset, .unset, .unset, .unset, .unset] [(.int (2 : Int32)), (.ref b258)]))
  refine own_st (fun _ k => XS.iloadN X286.here hx rfl (hb hby at_98) rfl  k) ?_
  show own_Fin p e below G (T286.setTop (mkF m 99 #[iv p1, iv p2, iv p3, iv (3 : Int32), rv b255, rv b258, rv b261, rv b264, rv b267, .unset, .unset, .unset, .unset, .unset] [(.int p3), (.int (2 : Int32)), (.ref b258)]))
  refine own_st (fun _ k => XS.bipush X286.here hx rfl (hb hby at_99) k) ?_
  show own_Fin p e below G (T286.setTop (mkF m 101 #[iv p1, iv p2, iv p3, iv (3 : Int32), rv b255, rv b258, rv b261, rv b264, rv b267, .unset, .unset, .unset, .unset, .unset] [(.int (16 : Int32)), (.int p3), (.int (2 : Int32)), (.ref b258)]))
  refine own_st (fun _ k => XS.iushr X286.here hx rfl (hb hby at_101) rfl k) ?_
  show own_Fin p e below G (T286.setTop (mkF m 102 #[iv p1, iv p2, iv p3, iv (3 : Int32), rv b255, rv b258, rv b261, rv b264, rv b267, .unset, .unset, .unset, .unset, .unset] [(.int ((p3.toUInt32 >>> ((16 : Int32) &&& 31).toUInt32).toInt32)), (.int (2 : Int32)), (.ref b258)]))
  refine own_st (fun _ k => XS.sipush X286.here hx rfl (hb hby at_102) k) ?_
  show own_Fin p e below G (T286.setTop (mkF m 105 #[iv p1, iv p2, iv p3, iv (3 : Int32), rv b255, rv b258, rv b261, rv b264, rv b267, .unset, .unset, .unset, .unset, .unset] [(.int (255 : Int32)), (.int ((p3.toUInt32 >>> ((16 : Int32) &&& 31).toUInt32).toInt32)), (.int (2 : Int32)), (.ref b258)]))
  refine own_st (fun _ k => XS.iand X286.here hx rfl (hb hby at_105) rfl k) ?_
  show own_Fin p e below G (T286.setTop (mkF m 106 #[iv p1, iv p2, iv p3, iv (3 : Int32), rv b255, rv b258, rv b261, rv b264, rv b267, .unset, .unset, .unset, .unset, .unset] [(.int (((p3.toUInt32 >>> ((16 : Int32) &&& 31).toUInt32).toInt32) &&& (255 : Int32))), (.int (2 : Int32)), (.ref b258)]))
  refine own_st (fun _ k => XS.aload X286.here hx rfl (hb hby at_106) rfl rfl k) ?_
  show own_Fin p e below G (T286.setTop (mkF m 108 #[iv p1, iv p2, iv p3, iv (3 : Int32), rv b255, rv b258, rv b261, rv b264, rv b267, .unset, .unset, .unset, .unset, .unset] [(.ref b255), (.int (((p3.toUInt32 >>> ((16 : Int32) &&& 31).toUInt32).toInt32) &&& (255 : Int32))), (.int (2 : Int32)), (.ref b258)]))
  refine own_st (fun _ k => XS.iconst X286.here hx rfl (hb hby at_108) k) ?_
  show own_Fin p e below G (T286.setTop (mkF m 109 #[iv p1, iv p2, iv p3, iv (3 : Int32), rv b255, rv b258, rv b261, rv b264, rv b267, .unset, .unset, .unset, .unset, .unset] [(.int (2 : Int32)), (.ref b255), (.int (((p3.toUInt32 >>> ((16 : Int32) &&& 31).toUInt32).toInt32) &&& (255 : Int32))), (.int (2 : Int32)), (.ref b258)]))
  refine own_st (fun _ k => own_ldI X286 hx hZ e286 f287_0 (j := (2 : Int32)) (n := 3) rfl (by decide) (g := (mkF m 109 #[iv p1, iv p2, iv p3, iv (3 : Int32), rv b255, rv b258, rv b261, rv b264, rv b267, .unset, .unset, .unset, .unset, .unset] [(.int (2 : Int32)), (.ref b255), (.int (((p3.toUInt32 >>> ((16 : Int32) &&& 31).toUInt32).toInt32) &&& (255 : Int32))), (.int (2 : Int32)), (.ref b258)])) rfl rfl (hb hby at_109) k) ?_
  show own_Fin p e below G (T286.setTop (mkF m 110 #[iv p1, iv p2, iv p3, iv (3 : Int32), rv b255, rv b258, rv b261, rv b264, rv b267, .unset, .unset, .unset, .unset, .unset] [(.int u2), (.int (((p3.toUInt32 >>> ((16 : Int32) &&& 31).toUInt32).toInt32) &&& (255 : Int32))), (.int (2 : Int32)), (.ref b258)]))
  refine own_st (fun _ k => iremM (g := (mkF m 110 #[iv p1, iv p2, iv p3, iv (3 : Int32), rv b255, rv b258, rv b261, rv b264, rv b267, .unset, .unset, .unset, .unset, .unset] [(.int u2), (.int (((p3.toUInt32 >>> ((16 : Int32) &&& 31).toUInt32).toInt32) &&& (255 : Int32))), (.int (2 : Int32)), (.ref b258)])) X286 hx rfl (hb hby at_110) rfl (own_nz r_u2) k) ?_
  show own_Fin p e below G (T286.setTop (mkF m 111 #[iv p1, iv p2, iv p3, iv (3 : Int32), rv b255, rv b258, rv b261, rv b264, rv b267, .unset, .unset, .unset, .unset, .unset] [(.int ((((p3.toUInt32 >>> ((16 : Int32) &&& 31).toUInt32).toInt32) &&& (255 : Int32)) % u2)), (.int (2 : Int32)), (.ref b258)]))
  have r_c2 := own_c ((p3.toUInt32 >>> ((16 : Int32) &&& 31).toUInt32).toInt32) r_u2
  generalize e_c2 : ((((p3.toUInt32 >>> ((16 : Int32) &&& 31).toUInt32).toInt32) &&& (255 : Int32)) % u2) = c2 at r_c2 ⊢
  show own_Fin p e below G (T286.setTop (mkF m 111 #[iv p1, iv p2, iv p3, iv (3 : Int32), rv b255, rv b258, rv b261, rv b264, rv b267, .unset, .unset, .unset, .unset, .unset] [(.int c2), (.int (2 : Int32)), (.ref b258)]))
  obtain ⟨T290, h290, X290, e290, W290, V290, st290⟩ := own_stI X286 hx hZ e286 V286 (j := (2 : Int32)) (n := 3) rfl (by decide) (g := (mkF m 111 #[iv p1, iv p2, iv p3, iv (3 : Int32), rv b255, rv b258, rv b261, rv b264, rv b267, .unset, .unset, .unset, .unset, .unset] [(.int c2), (.int (2 : Int32)), (.ref b258)])) rfl rfl (hb hby at_111)
  clear X286 e286 V286
  have f291_0 := f287_0.other W290 ne_b255_b258
  clear f287_0
  have f291_2 := f287_2.other W290 (Ne.symm ne_b258_b261)
  clear f287_2
  have f291_3 := f287_3.other W290 (Ne.symm ne_b258_b264)
  clear f287_3
  have f291_4 := f287_4.other W290 (Ne.symm ne_b258_b267)
  clear f287_4
  have K292 : Keep h0 h290 [] := K288.wr W290 (Or.inr sz_b258)
  clear K288 W290
  have N293 := Fr.snoc X290 N289 g_b258
  clear N289
  replace V290 : own_AV Z h290 b258 .int (own_is [c0, c1, c2]) := V290
  refine own_st st290 ?_
  clear st290
  show own_Fin p e below G (T290.setTop (mkF m 112 #[iv p1, iv p2, iv p3, iv (3 : Int32), rv b255, rv b258, rv b261, rv b264, rv b267, .unset, .unset, .unset, .unset, .unset] []))
  refine own_st (fun _ k => XS.iloadN X290.here hx rfl (hb hby at_112) rfl  k) ?_
  show own_Fin p e below G (T290.setTop (mkF m 113 #[iv p1, iv p2, iv p3, iv (3 : Int32), rv b255, rv b258, rv b261, rv b264, rv b267, .unset, .unset, .unset, .unset, .unset] [(.int (3 : Int32))]))
  refine own_st (fun _ k => XS.ifNo X290.here hx rfl (hb hby at_113) rfl ((if0 _ _).trans (tlt (by decide : ((0 : Int32) < (3 : Int32)))).2.2.2) k) ?_
  show own_Fin p e below G (T290.setTop (mkF m 116 #[iv p1, iv p2, iv p3, iv (3 : Int32), rv b255, rv b258, rv b261, rv b264, rv b267, .unset, .unset, .unset, .unset, .unset] []))
  refine own_st (fun _ k => XS.aload X290.here hx rfl (hb hby at_116) rfl rfl k) ?_
  show own_Fin p e below G (T290.setTop (mkF m 118 #[iv p1, iv p2, iv p3, iv (3 : Int32), rv b255, rv b258, rv b261, rv b264, rv b267, .unset, .unset, .unset, .unset, .unset] [(.ref b264)]))
  refine own_st (fun _ k => XS.iconst X290.here hx rfl (hb hby at_118) k) ?_
  show own_Fin p e below G (T290.setTop (mkF m 119 #[iv p1, iv p2, iv p3, iv (3 : Int32), rv b255, rv b258, rv b261, rv b264, rv b267, .unset, .unset, .unset, .unset, .unset] [(.int (0 : Int32)), (.ref b264)]))
  refine own_st (fun _ k => XS.aload X290.here hx rfl (hb hby at_119) rfl rfl k) ?_
  show own_Fin p e below G (T290.setTop (mkF m 121 #[iv p1, iv p2, iv p3, iv (3 : Int32), rv b255, rv b258, rv b261, rv b264, rv b267, .unset, .unset, .unset, .unset, .unset] [(.ref b255), (.int (0 : Int32)), (.ref b264)]))
  refine own_st (fun _ k => XS.iconst X290.here hx rfl (hb hby at_121) k) ?_
  show own_Fin p e below G (T290.setTop (mkF m 122 #[iv p1, iv p2, iv p3, iv (3 : Int32), rv b255, rv b258, rv b261, rv b264, rv b267, .unset, .unset, .unset, .unset, .unset] [(.int (0 : Int32)), (.ref b255), (.int (0 : Int32)), (.ref b264)]))
  refine own_st (fun _ k => own_ldI X290 hx hZ e290 f291_0 (j := (0 : Int32)) (n := 3) rfl (by decide) (g := (mkF m 122 #[iv p1, iv p2, iv p3, iv (3 : Int32), rv b255, rv b258, rv b261, rv b264, rv b267, .unset, .unset, .unset, .unset, .unset] [(.int (0 : Int32)), (.ref b255), (.int (0 : Int32)), (.ref b264)])) rfl rfl (hb hby at_122) k) ?_
  show own_Fin p e below G (T290.setTop (mkF m 123 #[iv p1, iv p2, iv p3, iv (3 : Int32), rv b255, rv b258, rv b261, rv b264, rv b267, .unset, .unset, .unset, .unset, .unset] [(.int u0), (.int (0 : Int32)), (.ref b264)]))
  obtain ⟨T294, h294, X294, e294, W294, V294, st294⟩ := own_stI X290 hx hZ e290 f291_3 (j := (0 : Int32)) (n := 3) rfl (by decide) (g := (mkF m 123 #[iv p1, iv p2, iv p3, iv (3 : Int32), rv b255, rv b258, rv b261, rv b264, rv b267, .unset, .unset, .unset, .unset, .unset] [(.int u0), (.int (0 : Int32)), (.ref b264)])) rfl rfl (hb hby at_123)
  clear X290 e290 f291_3
  have f295_0 := f291_0.other W294 ne_b255_b264
  clear f291_0
  have f295_1 := V290.other W294 ne_b258_b264
  clear V290
  have f295_2 := f291_2.other W294 ne_b261_b264
  clear f291_2
  have f295_4 := f291_4.other W294 (Ne.symm ne_b264_b267)
  clear f291_4
  have K296 : Keep h0 h294 [] := K292.wr W294 (Or.inr sz_b264)
  clear K292 W294
  have N297 := Fr.snoc X294 N293 g_b264
  clear N293
  replace V294 : own_AV Z h294 b264 .int (own_is [u0, (0 : Int32), (0 : Int32)]) := V294
  refine own_st st294 ?_
  clear st294
  show own_Fin p e below G (T294.setTop (mkF m 124 #[iv p1, iv p2, iv p3, iv (3 : Int32), rv b255, rv b258, rv b261, rv b264, rv b267, .unset, .unset, .unset, .unset, .unset] []))
  refine own_st (fun _ k => XS.aload X294.here hx rfl (hb hby at_124) rfl rfl k) ?_
  show own_Fin p e below G (T294.setTop (mkF m 126 #[iv p1, iv p2, iv p3, iv (3 : Int32), rv b255, rv b258, rv b261, rv b264, rv b267, .unset, .unset, .unset, .unset, .unset] [(.ref b267)]))
  refine own_st (fun _ k => XS.iconst X294.here hx rfl (hb hby at_126) k) ?_
  show own_Fin p e below G (T294.setTop (mkF m 127 #[iv p1, iv p2, iv p3, iv (3 : Int32), rv b255, rv b258, rv b261, rv b264, rv b267, .unset, .unset, .unset, .unset, .unset] [(.int (0 : Int32)), (.ref b267)]))
  refine own_st (fun _ k => XS.aload X294.here hx rfl (hb hby at_127) rfl rfl k) ?_
  show own_Fin p e below G (T294.setTop (mkF m 129 #[iv p1, iv p2, iv p3, iv (3 : Int32), rv b255, rv b258, rv b261, rv b264, rv b267, .unset, .unset, .unset, .unset, .unset] [(.ref b258), (.int (0 : Int32)), (.ref b267)]))
  refine own_st (fun _ k => XS.iconst X294.here hx rfl (hb hby at_129) k) ?_
  show own_Fin p e below G (T294.setTop (mkF m 130 #[iv p1, iv p2, iv p3, iv (3 : Int32), rv b255, rv b258, rv b261, rv b264, rv b267, .unset, .unset, .unset, .unset, .unset] [(.int (0 : Int32)), (.ref b258), (.int (0 : Int32)), (.ref b267)]))
  refine own_st (fun _ k => own_ldI X294 hx hZ e294 f295_1 (j := (0 : Int32)) (n := 3) rfl (by decide) (g := (mkF m 130 #[iv p1, iv p2, iv p3, iv (3 : Int32), rv b255, rv b258, rv b261, rv b264, rv b267, .unset, .unset, .unset, .unset, .unset] [(.int (0 : Int32)), (.ref b258), (.int (0 : Int32)), (.ref b267)])) rfl rfl (hb hby at_130) k) ?_
  show own_Fin p e below G (T294.setTop (mkF m 131 #[iv p1, iv p2, iv p3, iv (3 : Int32), rv b255, rv b258, rv b261, rv b264, rv b267, .unset, .unset, .unset, .unset, .unset] [(.int c0), (.int (0 : Int32)), (.ref b267)]))
  obtain ⟨T298, h298, X298, e298, W298, V298, st298⟩ := own_stI X294 hx hZ e294 f295_4 (j := (0 : Int32)) (n := 3) rfl (by decide) (g := (mkF m 131 #[iv p1, iv p2, iv p3, iv (3 : Int32), rv b255, rv b258, rv b261, rv b264, rv b267, .unset, .unset, .unset, .unset, .unset] [(.int c0), (.int (0 : Int32)), (.ref b267)])) rfl rfl (hb hby at_131)
  clear X294 e294 f295_4
  have f299_0 := f295_0.other W298 ne_b255_b267
  clear f295_0
  have f299_1 := f295_1.other W298 ne_b258_b267
  clear f295_1
  have f299_2 := f295_2.other W298 ne_b261_b267
  clear f295_2
  have f299_3 := V294.other W298 ne_b264_b267
  clear V294
  have K300 : Keep h0 h298 [] := K296.wr W298 (Or.inr sz_b267)
  clear K296 W298
  have N301 := Fr.snoc X298 N297 g_b267
  clear N297
  replace V298 : own_AV Z h298 b267 .int (own_is [c0, (0 : Int32), (0 : Int32)]) := V298
  refine own_st st298 ?_
  clear st298
  show own_Fin p e below G (T298.setTop (mkF m 132 #[iv p1, iv p2, iv p3, iv (3 : Int32), rv b255, rv b258, rv b261, rv b264, rv b267, .unset, .unset, .unset, .unset, .unset] []))
  refine own_st (fun _ k => XS.iloadN X298.here hx rfl (hb hby at_132) rfl  k) ?_
  show own_Fin p e below G (T298.setTop (mkF m 133 #[iv p1, iv p2, iv p3, iv (3 : Int32), rv b255, rv b258, rv b261, rv b264, rv b267, .unset, .unset, .unset, .unset, .unset] [(.int (3 : Int32))]))
  refine own_st (fun _ k => XS.iconst X298.here hx rfl (hb hby at_133) k) ?_
  show own_Fin p e below G (T298.setTop (mkF m 134 #[iv p1, iv p2, iv p3, iv (3 : Int32), rv b255, rv b258, rv b261, rv b264, rv b267, .unset, .unset, .unset, .unset, .unset] [(.int (1 : Int32)), (.int (3 : Int32))]))
  refine own_st (fun _ k => XS.icmpNo X298.here hx rfl (hb hby at_134) rfl (tlt (by decide : ((1 : Int32) < (3 : Int32)))).2.2.2 k) ?_
  show own_Fin p e below G (T298.setTop (mkF m 137 #[iv p1, iv p2, iv p3, iv (3 : Int32), rv b255, rv b258, rv b261, rv b264, rv b267, .unset, .unset, .unset, .unset, .unset] []))
  refine own_st (fun _ k => XS.aload X298.here hx rfl (hb hby at_137) rfl rfl k) ?_
  show own_Fin p e below G (T298.setTop (mkF m 139 #[iv p1, iv p2, iv p3, iv (3 : Int32), rv b255, rv b258, rv b261, rv b264, rv b267, .unset, .unset, .unset, .unset, .unset] [(.ref b264)]))
  refine own_st (fun _ k => XS.iconst X298.here hx rfl (hb hby at_139) k) ?_
  show own_Fin p e below G (T298.setTop (mkF m 140 #[iv p1, iv p2, iv p3, iv (3 : Int32), rv b255, rv b258, rv b261, rv b264, rv b267, .unset, .unset, .unset, .unset, .unset] [(.int (1 : Int32)), (.ref b264)]))
  refine own_st (fun _ k => XS.aload X298.here hx rfl (hb hby at_140) rfl rfl k) ?_
  show own_Fin p e below G (T298.setTop (mkF m 142 #[iv p1, iv p2, iv p3, iv (3 : Int32), rv b255, rv b258, rv b261, rv b264, rv b267, .unset, .unset, .unset, .unset, .unset] [(.ref b255), (.int (1 : Int32)), (.ref b264)]))
  refine own_st (fun _ k => XS.iconst X298.here hx rfl (hb hby at_142) k) ?_
  show own_Fin p e below G (T298.setTop (mkF m 143 #[iv p1, iv p2, iv p3, iv (3 : Int32), rv b255, rv b258, rv b261, rv b264, rv b267, .unset, .unset, .unset, .unset, .unset] [(.int (1 : Int32)), (.ref b255), (.int (1 : Int32)), (.ref b264)]))
  refine own_st (fun _ k => own_ldI X298 hx hZ e298 f299_0 (j := (1 : Int32)) (n := 3) rfl (by decide) (g := (mkF m 143 #[iv p1, iv p2, iv p3, iv (3 : Int32), rv b255, rv b258, rv b261, rv b264, rv b267, .unset, .unset, .unset, .unset, .unset] [(.int (1 : Int32)), (.ref b255), (.int (1 : Int32)), (.ref b264)])) rfl rfl (hb hby at_143) k) ?_
  show own_Fin p e below G (T298.setTop (mkF m 144 #[iv p1, iv p2, iv p3, iv (3 : Int32), rv b255, rv b258, rv b261, rv b264, rv b267, .unset, .unset, .unset, .unset, .unset] [(.int u1), (.int (1 : Int32)), (.ref b264)]))
  obtain ⟨T302, h302, X302, e302, W302, V302, st302⟩ := own_stI X298 hx hZ e298 f299_3 (j := (1 : Int32)) (n := 3) rfl (by decide) (g := (mkF m 144 #[iv p1, iv p2, iv p3, iv (3 : Int32), rv b255, rv b258, rv b261, rv b264, rv b267, .unset, .unset, .unset, .unset, .unset] [(.int u1), (.int (1 : Int32)), (.ref b264)])) rfl rfl (hb hby at_144)
  clear X298 e298 f299_3
  have f303_0 := f299_0.other W302 ne_b255_b264
  clear f299_0
  have f303_1 := f299_1.other W302 ne_b258_b264
  clear f299_1
  have f303_2 := f299_2.other W302 ne_b261_b264
  clear f299_2
  have f303_4 := V298.other W302 (Ne.symm ne_b264_b267)
  clear V298
  have K304 : Keep h0 h302 [] := K300.wr W302 (Or.inr sz_b264)
  clear K300 W302
  have N305 := Fr.snoc X302 N301 g_b264
  clear N301
  replace V302 : own_AV Z h302 b264 .int (own_is [u0, u1, (0 : Int32)]) := V302
  refine own_st st302 ?_
  clear st302
  show own_Fin p e below G (T302.setTop (mkF m 145 #[iv p1, iv p2, iv p3, iv (3 : Int32), rv b255, rv b258, rv b261, rv b264, rv b267, .unset, .unset, .unset, .unset, .unset] []))
  refine own_st (fun _ k => XS.aload X302.here hx rfl (hb hby at_145) rfl rfl k) ?_
  show own_Fin p e below G (T302.setTop (mkF m 147 #[iv p1, iv p2, iv p3, iv (3 : Int32), rv b255, rv b258, rv b261, rv b264, rv b267, .unset, .unset, .unset, .unset, .unset] [(.ref b267)]))
  refine own_st (fun _ k => XS.iconst X302.here hx rfl (hb hby at_147) k) ?_
  show own_Fin p e below G (T302.setTop (mkF m 148 #[iv p1, iv p2, iv p3, iv (3 : Int32), rv b255, rv b258, rv b261, rv b264, rv b267, .unset, .unset, .unset, .unset, .unset] [(.int (1 : Int32)), (.ref b267)]))
  refine own_st (fun _ k => XS.aload X302.here hx rfl (hb hby at_148) rfl rfl k) ?_
  show own_Fin p e below G (T302.setTop (mkF m 150 #[iv p1, iv p2, iv p3, iv (3 : Int32), rv b255, rv b258, rv b261, rv b264, rv b267, .unset, .unset, .unset, .unset, .unset] [(.ref b258), (.int (1 : Int32)), (.ref b267)]))
  refine own_st (fun _ k => XS.iconst X302.here hx rfl (hb hby at_150) k) ?_
  show own_Fin p e below G (T302.setTop (mkF m 151 #[iv p1, iv p2, iv p3, iv (3 : Int32), rv b255, rv b258, rv b261, rv b264, rv b267, .unset, .unset, .unset, .unset, .unset] [(.int (1 : Int32)), (.ref b258), (.int (1 : Int32)), (.ref b267)]))
  refine own_st (fun _ k => own_ldI X302 hx hZ e302 f303_1 (j := (1 : Int32)) (n := 3) rfl (by decide) (g := (mkF m 151 #[iv p1, iv p2, iv p3, iv (3 : Int32), rv b255, rv b258, rv b261, rv b264, rv b267, .unset, .unset, .unset, .unset, .unset] [(.int (1 : Int32)), (.ref b258), (.int (1 : Int32)), (.ref b267)])) rfl rfl (hb hby at_151) k) ?_
  show own_Fin p e below G (T302.setTop (mkF m 152 #[iv p1, iv p2, iv p3, iv (3 : Int32), rv b255, rv b258, rv b261, rv b264, rv b267, .unset, .unset, .unset, .unset, .unset] [(.int c1), (.int (1 : Int32)), (.ref b267)]))
  obtain ⟨T306, h306, X306, e306, W306, V306, st306⟩ := own_stI X302 hx hZ e302 f303_4 (j := (1 : Int32)) (n := 3) rfl (by decide) (g := (mkF m 152 #[iv p1, iv p2, iv p3, iv (3 : Int32), rv b255, rv b258, rv b261, rv b264, rv b267, .unset, .unset, .unset, .unset, .unset] [(.int c1), (.int (1 : Int32)), (.ref b267)])) rfl rfl (hb hby at_152)
  clear X302 e302 f303_4
  have f307_0 := f303_0.other W306 ne_b255_b267
  clear f303_0
  have f307_1 := f303_1.other W306 ne_b258_b267
  clear f303_1
  have f307_2 := f303_2.other W306 ne_b261_b267
  clear f303_2
  have f307_3 := V302.other W306 ne_b264_b267
  clear V302
  have K308 : Keep h0 h306 [] := K304.wr W306 (Or.inr sz_b267)
  clear K304 W306
  have N309 := Fr.snoc X306 N305 g_b267
  clear N305
  replace V306 : own_AV Z h306 b267 .int (own_is [c0, c1, (0 : Int32)]) := V306
  refine own_st st306 ?_
  clear st306
  show own_Fin p e below G (T306.setTop (mkF m 153 #[iv p1, iv p2, iv p3, iv (3 : Int32), rv b255, rv b258, rv b261, rv b264, rv b267, .unset, .unset, .unset, .unset, .unset] []))
  refine own_st (fun _ k => XS.iloadN X306.here hx rfl (hb hby at_153) rfl  k) ?_
  show own_Fin p e below G (T306.setTop (mkF m 154 #[iv p1, iv p2, iv p3, iv (3 : Int32), rv b255, rv b258, rv b261, rv b264, rv b267, .unset, .unset, .unset, .unset, .unset] [(.int (3 : Int32))]))
  refine own_st (fun _ k => XS.iconst X306.here hx rfl (hb hby at_154) k) ?_
  show own_Fin p e below G (T306.setTop (mkF m 155 #[iv p1, iv p2, iv p3, iv (3 : Int32), rv b255, rv b258, rv b261, rv b264, rv b267, .unset, .unset, .unset, .unset, .unset] [(.int (2 : Int32)), (.int (3 : Int32))]))
  refine own_st (fun _ k => XS.icmpNo X306.here hx rfl (hb hby at_155) rfl (tlt (by decide : ((2 : Int32) < (3 : Int32)))).2.2.2 k) ?_
  show own_Fin p e below G (T306.setTop (mkF m 158 #[iv p1, iv p2, iv p3, iv (3 : Int32), rv b255, rv b258, rv b261, rv b264, rv b267, .unset, .unset, .unset, .unset, .unset] []))
  refine own_st (fun _ k => XS.aload X306.here hx rfl (hb hby at_158) rfl rfl k) ?_
  show own_Fin p e below G (T306.setTop (mkF m 160 #[iv p1, iv p2, iv p3, iv (3 : Int32), rv b255, rv b258, rv b261, rv b264, rv b267, .unset, .unset, .unset, .unset, .unset] [(.ref b264)]))
  refine own_st (fun _ k => XS.iconst X306.here hx rfl (hb hby at_160) k) ?_
  show own_Fin p e below G (T306.setTop (mkF m 161 #[iv p1, iv p2, iv p3, iv (3 : Int32), rv b255, rv b258, rv b261, rv b264, rv b267, .unset, .unset, .unset, .unset, .unset] [(.int (2 : Int32)), (.ref b264)]))
  refine own_st (fun _ k => XS.aload X306.here hx rfl (hb hby at_161) rfl rfl k) ?_
  show own_Fin p e below G (T306.setTop (mkF m 163 #[iv p1, iv p2, iv p3, iv (3 : Int32), rv b255, rv b258, rv b261, rv b264, rv b267, .unset, .unset, .unset, .unset, .unset] [(.ref b255), (.int (2 : Int32)), (.ref b264)]))
  refine own_st (fun _ k => XS.iconst X306.here hx rfl (hb hby at_163) k) ?_
  show own_Fin p e below G (T306.setTop (mkF m 164 #[iv p1, iv p2, iv p3, iv (3 : Int32), rv b255, rv b258, rv b261, rv b264, rv b267, .unset, .unset, .unset, .unset, .unset] [(.int (2 : Int32)), (.ref b255), (.int (2 : Int32)), (.ref b264)]))
  refine own_st (fun _ k => own_ldI X306 hx hZ e306 f307_0 (j := (2 : Int32)) (n := 3) rfl (by decide) (g := (mkF m 164 #[iv p1, iv p2, iv p3, iv (3 : Int32), rv b255, rv b258, rv b261, rv b264, rv b267, .unset, .unset, .unset, .unset, .unset] [(.int (2 : Int32)), (.ref b255), (.int (2 : Int32)), (.ref b264)])) rfl rfl (hb hby at_164) k) ?_
  show own_Fin p e below G (T306.setTop (mkF m 165 #[iv p1, iv p2, iv p3, iv (3 : Int32), rv b255, rv b258, rv b261, rv b264, rv b267, .unset, .unset, .unset, .unset, .unset] [(.int u2), (.int (2 : Int32)), (.ref b264)]))
  obtain ⟨T310, h310, X310, e310, W310, V310, st310⟩ := own_stI X306 hx hZ e306 f307_3 (j := (2 : Int32)) (n := 3) rfl (by decide) (g := (mkF m 165 #[iv p1, iv p2, iv p3, iv (3 : Int32), rv b255, rv b258, rv b261, rv b264, rv b267, .unset, .unset, .unset, .unset, .unset] [(.int u2), (.int (2 : Int32)), (.ref b264)])) rfl rfl (hb hby at_165)
  clear X306 e306 f307_3
  have f311_0 := f307_0.other W310 ne_b255_b264
  clear f307_0
  have f311_1 := f307_1.other W310 ne_b258_b264
  clear f307_1
  have f311_2 := f307_2.other W310 ne_b261_b264
  clear f307_2
  have f311_4 := V306.other W310 (Ne.symm ne_b264_b267)
  clear V306
  have K312 : Keep h0 h310 [] := K308.wr W310 (Or.inr sz_b264)
  clear K308 W310
  have N313 := Fr.snoc X310 N309 g_b264
  clear N309
  replace V310 : own_AV Z h310 b264 .int (own_is [u0, u1, u2]) := V310
  refine own_st st310 ?_
  clear st310
  show own_Fin p e below G (T310.setTop (mkF m 166 #[iv p1, iv p2, iv p3, iv (3 : Int32), rv b255, rv b258, rv b261, rv b264, rv b267, .unset, .unset, .unset, .unset, .unset] []))
  refine own_st (fun _ k => XS.aload X310.here hx rfl (hb hby at_166) rfl rfl k) ?_
  show own_Fin p e below G (T310.setTop (mkF m 168 #[iv p1, iv p2, iv p3, iv (3 : Int32), rv b255, rv b258, rv b261, rv b264, rv b267, .unset, .unset, .unset, .unset, .unset] [(.ref b267)]))
  refine own_st (fun _ k => XS.iconst X310.here hx rfl (hb hby at_168) k) ?_
  show own_Fin p e below G (T310.setTop (mkF m 169 #[iv p1, iv p2, iv p3, iv (3 : Int32), rv b255, rv b258, rv b261, rv b264, rv b267, .unset, .unset, .unset, .unset, .unset] [(.int (2 : Int32)), (.ref b267)]))
  refine own_st (fun _ k => XS.aload X310.here hx rfl (hb hby at_169) rfl rfl k) ?_
  show own_Fin p e below G (T310.setTop (mkF m 171 #[iv p1, iv p2, iv p3, iv (3 : Int32), rv b255, rv b258, rv b261, rv b264, rv b267, .unset, .unset, .unset, .unset, .unset] [(.ref b258), (.int (2 : Int32)), (.ref b267)]))
  refine own_st (fun _ k => XS.iconst X310.here hx rfl (hb hby at_171) k) ?_
  show own_Fin p e below G (T310.setTop (mkF m 172 #[iv p1, iv p2, iv p3, iv (3 : Int32), rv b255, rv b258, rv b261, rv b264, rv b267, .unset, .unset, .unset, .unset, .unset] [(.int (2 : Int32)), (.ref b258), (.int (2 : Int32)), (.ref b267)]))
  refine own_st (fun _ k => own_ldI X310 hx hZ e310 f311_1 (j := (2 : Int32)) (n := 3) rfl (by decide) (g := (mkF m 172 #[iv p1, iv p2, iv p3, iv (3 : Int32), rv b255, rv b258, rv b261, rv b264, rv b267, .unset, .unset, .unset, .unset, .unset] [(.int (2 : Int32)), (.ref b258), (.int (2 : Int32)), (.ref b267)])) rfl rfl (hb hby at_172) k) ?_
  show own_Fin p e below G (T310.setTop (mkF m 173 #[iv p1, iv p2, iv p3, iv (3 : Int32), rv b255, rv b258, rv b261, rv b264, rv b267, .unset, .unset, .unset, .unset, .unset] [(.int c2), (.int (2 : Int32)), (.ref b267)]))
  obtain ⟨T314, h314, X314, e314, W314, V314, st314⟩ := own_stI X310 hx hZ e310 f311_4 (j := (2 : Int32)) (n := 3) rfl (by decide) (g := (mkF m 173 #[iv p1, iv p2, iv p3, iv (3 : Int32), rv b255, rv b258, rv b261, rv b264, rv b267, .unset, .unset, .unset, .unset, .unset] [(.int c2), (.int (2 : Int32)), (.ref b267)])) rfl rfl (hb hby at_173)
  clear X310 e310 f311_4
  have f315_0 := f311_0.other W314 ne_b255_b267
  clear f311_0
  have f315_1 := f311_1.other W314 ne_b258_b267
  clear f311_1
  have f315_2 := f311_2.other W314 ne_b261_b267
  clear f311_2
  have f315_3 := V310.other W314 ne_b264_b267
  clear V310
  have K316 : Keep h0 h314 [] := K312.wr W314 (Or.inr sz_b267)
  clear K312 W314
  have N317 := Fr.snoc X314 N313 g_b267
  clear N313
  replace V314 : own_AV Z h314 b267 .int (own_is [c0, c1, c2]) := V314
  refine own_st st314 ?_
  clear st314
  show own_Fin p e below G (T314.setTop (mkF m 174 #[iv p1, iv p2, iv p3, iv (3 : Int32), rv b255, rv b258, rv b261, rv b264, rv b267, .unset, .unset, .unset, .unset, .unset] []))
  refine own_st (fun _ k => XS.iloadN X314.here hx rfl (hb hby at_174) rfl  k) ?_
  show own_Fin p e below G (T314.setTop (mkF m 175 #[iv p1, iv p2, iv p3, iv (3 : Int32), rv b255, rv b258, rv b261, rv b264, rv b267, .unset, .unset, .unset, .unset, .unset] [(.int (3 : Int32))]))
  refine own_st (fun _ k => XS.aload X314.here hx rfl (hb hby at_175) rfl rfl k) ?_
  show own_Fin p e below G (T314.setTop (mkF m 177 #[iv p1, iv p2, iv p3, iv (3 : Int32), rv b255, rv b258, rv b261, rv b264, rv b267, .unset, .unset, .unset, .unset, .unset] [(.ref b258), (.int (3 : Int32))]))
  refine own_st (fun _ k => XS.aload X314.here hx rfl (hb hby at_177) rfl rfl k) ?_
  show own_Fin p e below G (T314.setTop (mkF m 179 #[iv p1, iv p2, iv p3, iv (3 : Int32), rv b255, rv b258, rv b261, rv b264, rv b267, .unset, .unset, .unset, .unset, .unset] [(.ref b255), (.ref b258), (.int (3 : Int32))]))
  obtain ⟨_, _, ⟨T318, L318, k318, n318⟩, -, X318, ⟨Lc318, hQ318, l318, y318, z318⟩, st318⟩ := Jvm.LawKit.callS X314 hx (y := own_y0) hown (mvT hZ (own_w hw 1 rfl)) (mvT hZ (own_w hw 2 rfl)) (mvT hZ (own_w hw 3 rfl)) (mvT hZ (own_w hw 4 rfl)) (by decide) (backOf (W := 0) (rm_v3 l Z a0 hw [] b258 b255 c0 c1 c2 u0 u1 u2 h314 n0 (Nat.le_trans Z0 K316.1) f315_1 f315_0) hZ (own_w hw 4 rfl) (own_w hw 3 rfl) (by decide) (by decide)) (g := (mkF m 179 #[iv p1, iv p2, iv p3, iv (3 : Int32), rv b255, rv b258, rv b261, rv b264, rv b267, .unset, .unset, .unset, .unset, .unset] [(.ref b255), (.ref b258), (.int (3 : Int32))])) rfl (by rw [hml]; rfl) (argsL := [(.int (3 : Int32)), (.ref b258), (.ref b255)]) (rest := []) (lenOf pd__I_I_I_I_555 rfl) rfl (by show 2 * 0 + _ ≤ _; exact Nat.le_of_eq rfl) (hb hby at_179) (fun _ _ => ⟨rfl, e314, (by decide : 5 + 0 ≤ _), (by decide : 15 + 0 ≤ _)⟩)
  clear X314 e314
  dsimp only [Pt.U, Pt.locs, Pt.cells, Pt.slots] at X318 l318 y318 z318 st318 hQ318
  obtain rfl : k318 = (5 : Nat) := y318
  obtain rfl : n318 = (15 : Nat) := z318
  obtain ⟨rfl, N318q, e318⟩ := hQ318
  skip
  have N318 : Fr n0 L318 := by rw [l318]; exact Fr.app N317 N318q
  clear N317 l318 N318q
  refine own_st st318 ?_
  clear st318
  show own_Fin p e below G (T318.setTop (mkF m 182 #[iv p1, iv p2, iv p3, iv (3 : Int32), rv b255, rv b258, rv b261, rv b264, rv b267, .unset, .unset, .unset, .unset, .unset] [(.int ((((c0 * u1) * u2) + (c1 * u2)) + c2))]))
  refine own_st (fun _ k => XS.istore X318.here hx rfl (hb hby at_182) rfl (l' := #[iv p1, iv p2, iv p3, iv (3 : Int32), rv b255, rv b258, rv b261, rv b264, rv b267, iv ((((c0 * u1) * u2) + (c1 * u2)) + c2), .unset, .unset, .unset, .unset]) rfl k) ?_
  show own_Fin p e below G (T318.setTop (mkF m 184 #[iv p1, iv p2, iv p3, iv (3 : Int32), rv b255, rv b258, rv b261, rv b264, rv b267, iv ((((c0 * u1) * u2) + (c1 * u2)) + c2), .unset, .unset, .unset, .unset] []))
  refine own_st (fun _ k => XS.iloadN X318.here hx rfl (hb hby at_184) rfl  k) ?_
  show own_Fin p e below G (T318.setTop (mkF m 185 #[iv p1, iv p2, iv p3, iv (3 : Int32), rv b255, rv b258, rv b261, rv b264, rv b267, iv ((((c0 * u1) * u2) + (c1 * u2)) + c2), .unset, .unset, .unset, .unset] [(.int (3 : Int32))]))
  refine own_st (fun _ k => XS.aload X318.here hx rfl (hb hby at_185) rfl rfl k) ?_
  show own_Fin p e below G (T318.setTop (mkF m 187 #[iv p1, iv p2, iv p3, iv (3 : Int32), rv b255, rv b258, rv b261, rv b264, rv b267, iv ((((c0 * u1) * u2) + (c1 * u2)) + c2), .unset, .unset, .unset, .unset] [(.ref b255), (.int (3 : Int32))]))
  obtain ⟨_, _, ⟨T319, L319, k319, n319⟩, -, X319, ⟨Lc319, hQ319, l319, y319, z319⟩, st319⟩ := Jvm.LawKit.callS X318 hx (y := own_y1) hown (mvT hZ (own_w hw 5 rfl)) (mvT hZ (own_w hw 6 rfl)) (mvT hZ (own_w hw 3 rfl)) (mvT hZ (own_w hw 7 rfl)) (by decide) (backOf (W := 0) (rm_t3 l Z a0 hw [] b255 u0 u1 u2 h314 n0 (Nat.le_trans Z0 K316.1) f315_0) hZ (own_w hw 7 rfl) (own_w hw 3 rfl) (by decide) (by decide)) (g := (mkF m 187 #[iv p1, iv p2, iv p3, iv (3 : Int32), rv b255, rv b258, rv b261, rv b264, rv b267, iv ((((c0 * u1) * u2) + (c1 * u2)) + c2), .unset, .unset, .unset, .unset] [(.ref b255), (.int (3 : Int32))])) rfl (by rw [hml]; rfl) (argsL := [(.int (3 : Int32)), (.ref b255)]) (rest := []) (lenOf pd__I_I_I_391 rfl) rfl (by show 2 * 0 + _ ≤ _; exact Nat.le_of_eq rfl) (hb hby at_187) (fun _ _ => ⟨rfl, e318, (by decide : 5 + 0 ≤ _), (by decide : 15 + 0 ≤ _)⟩)
  clear X318 e318
  dsimp only [Pt.U, Pt.locs, Pt.cells, Pt.slots] at X319 l319 y319 z319 st319 hQ319
  obtain rfl : k319 = (5 : Nat) := y319
  obtain rfl : n319 = (15 : Nat) := z319
  obtain ⟨rfl, N319q, e319⟩ := hQ319
  skip
  have N319 : Fr n0 L319 := by rw [l319]; exact Fr.app N318 N319q
  clear N318 l319 N319q
  refine own_st st319 ?_
  clear st319
  show own_Fin p e below G (T319.setTop (mkF m 190 #[iv p1, iv p2, iv p3, iv (3 : Int32), rv b255, rv b258, rv b261, rv b264, rv b267, iv ((((c0 * u1) * u2) + (c1 * u2)) + c2), .unset, .unset, .unset, .unset] [(.int ((u0 * u1) * u2))]))
  refine own_st (fun _ k => XS.istore X319.here hx rfl (hb hby at_190) rfl (l' := #[iv p1, iv p2, iv p3, iv (3 : Int32), rv b255, rv b258, rv b261, rv b264, rv b267, iv ((((c0 * u1) * u2) + (c1 * u2)) + c2), iv ((u0 * u1) * u2), .unset, .unset, .unset]) rfl k) ?_
  show own_Fin p e below G (T319.setTop (mkF m 192 #[iv p1, iv p2, iv p3, iv (3 : Int32), rv b255, rv b258, rv b261, rv b264, rv b267, iv ((((c0 * u1) * u2) + (c1 * u2)) + c2), iv ((u0 * u1) * u2), .unset, .unset, .unset] []))
  refine own_st (fun _ k => XS.aload X319.here hx rfl (hb hby at_192) rfl rfl k) ?_
  show own_Fin p e below G (T319.setTop (mkF m 194 #[iv p1, iv p2, iv p3, iv (3 : Int32), rv b255, rv b258, rv b261, rv b264, rv b267, iv ((((c0 * u1) * u2) + (c1 * u2)) + c2), iv ((u0 * u1) * u2), .unset, .unset, .unset] [(.ref b267)]))
  refine own_st (fun _ k => XS.aload X319.here hx rfl (hb hby at_194) rfl rfl k) ?_
  show own_Fin p e below G (T319.setTop (mkF m 196 #[iv p1, iv p2, iv p3, iv (3 : Int32), rv b255, rv b258, rv b261, rv b264, rv b267, iv ((((c0 * u1) * u2) + (c1 * u2)) + c2), iv ((u0 * u1) * u2), .unset, .unset, .unset] [(.ref b264), (.ref b267)]))
  obtain ⟨_, _, ⟨T320, L320, k320, n320⟩, -, X320, ⟨Lc320, hQ320, l320, y320, z320⟩, st320⟩ := Jvm.LawKit.callS X319 hx (y := own_y3) hown (mvT hZ (own_w hw 8 rfl)) (mvT hZ (own_w hw 9 rfl)) (mvT hZ (own_w hw 10 rfl)) (mvT hZ (own_w hw 11 rfl)) (by decide) (backOf (W := 0) (rm_x3 l Z a0 hw [] b267 b264 c0 c1 c2 u0 u1 u2 h314 n0 (Nat.le_trans Z0 K316.1) V314 f315_3 (Ne.symm ne_b264_b267) g_b267) hZ (own_w hw 11 rfl) (own_w hw 10 rfl) (by decide) (by decide)) (g := (mkF m 196 #[iv p1, iv p2, iv p3, iv (3 : Int32), rv b255, rv b258, rv b261, rv b264, rv b267, iv ((((c0 * u1) * u2) + (c1 * u2)) + c2), iv ((u0 * u1) * u2), .unset, .unset, .unset] [(.ref b264), (.ref b267)])) rfl (by rw [hml]; rfl) (argsL := [(.ref b267), (.ref b264)]) (rest := []) (lenOf pd___I_I_Z_499 rfl) rfl (by show 2 * 0 + _ ≤ _; exact Nat.le_of_eq rfl) (hb hby at_196) (fun _ _ => ⟨rfl, e319, (by decide : 5 + 0 ≤ _), (by decide : 15 + 0 ≤ _)⟩)
  clear V314 X319 e319
  dsimp only [Pt.U, Pt.locs, Pt.cells, Pt.slots] at X320 l320 y320 z320 st320 hQ320
  obtain rfl : k320 = (5 : Nat) := y320
  obtain rfl : n320 = (15 : Nat) := z320
  obtain ⟨rr, ys, hQ320⟩ := hQ320
  obtain ⟨rfl, N320q, Kc320, gA320, hD⟩ := hQ320
  have N320 : Fr n0 L320 := by rw [l320]; exact Fr.app N319 N320q
  clear N319 l320 N320q
  have f321_0 := f315_0.keep Kc320 (ninS ne_b255_b267 nin0)
  clear f315_0
  have f321_1 := f315_1.keep Kc320 (ninS ne_b258_b267 nin0)
  clear f315_1
  have f321_2 := f315_2.keep Kc320 (ninS ne_b261_b267 nin0)
  clear f315_2
  have f321_3 := f315_3.keep Kc320 (ninS ne_b264_b267 nin0)
  clear f315_3
  have K322 : Keep h0 T320.heap [] := K316.trans Kc320 (allS (Or.inr sz_b267) all0)
  clear K316 Kc320
  refine own_st st320 ?_
  clear st320
  show own_Fin p e below G (T320.setTop (mkF m 199 #[iv p1, iv p2, iv p3, iv (3 : Int32), rv b255, rv b258, rv b261, rv b264, rv b267, iv ((((c0 * u1) * u2) + (c1 * u2)) + c2), iv ((u0 * u1) * u2), .unset, .unset, .unset] [(.int rr)]))
  rcases hD with ⟨d0, rfl, rfl⟩ | ⟨d0, d1, rfl, rfl⟩ | ⟨d0, d1, d2, rfl, rfl⟩ | ⟨d0, d1, d2, rfl, rfl⟩
  · show own_Fin p e below G (T320.setTop (mkF m 199 #[iv p1, iv p2, iv p3, iv (3 : Int32), rv b255, rv b258, rv b261, rv b264, rv b267, iv ((((c0 * u1) * u2) + (c1 * u2)) + c2), iv ((u0 * u1) * u2), .unset, .unset, .unset] [(.int (1 : Int32))]))
    refine own_st (fun _ k => XS.istore X320.here hx rfl (hb hby at_199) rfl (l' := #[iv p1, iv p2, iv p3, iv (3 : Int32), rv b255, rv b258, rv b261, rv b264, rv b267, iv ((((c0 * u1) * u2) + (c1 * u2)) + c2), iv ((u0 * u1) * u2), iv (1 : Int32), .unset, .unset]) rfl k) ?_
    show own_Fin p e below G (T320.setTop (mkF m 201 #[iv p1, iv p2, iv p3, iv (3 : Int32), rv b255, rv b258, rv b261, rv b264, rv b267, iv ((((c0 * u1) * u2) + (c1 * u2)) + c2), iv ((u0 * u1) * u2), iv (1 : Int32), .unset, .unset] []))
    refine own_st (fun _ k => XS.iconst X320.here hx rfl (hb hby at_201) k) ?_
    show own_Fin p e below G (T320.setTop (mkF m 202 #[iv p1, iv p2, iv p3, iv (3 : Int32), rv b255, rv b258, rv b261, rv b264, rv b267, iv ((((c0 * u1) * u2) + (c1 * u2)) + c2), iv ((u0 * u1) * u2), iv (1 : Int32), .unset, .unset] [(.int (1 : Int32))]))
    refine own_st (fun _ k => XS.istore X320.here hx rfl (hb hby at_202) rfl (l' := #[iv p1, iv p2, iv p3, iv (3 : Int32), rv b255, rv b258, rv b261, rv b264, rv b267, iv ((((c0 * u1) * u2) + (c1 * u2)) + c2), iv ((u0 * u1) * u2), iv (1 : Int32), iv (1 : Int32), .unset]) rfl k) ?_
    show own_Fin p e below G (T320.setTop (mkF m 204 #[iv p1, iv p2, iv p3, iv (3 : Int32), rv b255, rv b258, rv b261, rv b264, rv b267, iv ((((c0 * u1) * u2) + (c1 * u2)) + c2), iv ((u0 * u1) * u2), iv (1 : Int32), iv (1 : Int32), .unset] []))
    refine own_st (fun _ k => XS.iloadN X320.here hx rfl (hb hby at_204) rfl  k) ?_
    show own_Fin p e below G (T320.setTop (mkF m 205 #[iv p1, iv p2, iv p3, iv (3 : Int32), rv b255, rv b258, rv b261, rv b264, rv b267, iv ((((c0 * u1) * u2) + (c1 * u2)) + c2), iv ((u0 * u1) * u2), iv (1 : Int32), iv (1 : Int32), .unset] [(.int (3 : Int32))]))
    refine own_st (fun _ k => XS.ifNo X320.here hx rfl (hb hby at_205) rfl ((if0 _ _).trans (tlt (by decide : ((0 : Int32) < (3 : Int32)))).2.2.2) k) ?_
    show own_Fin p e below G (T320.setTop (mkF m 208 #[iv p1, iv p2, iv p3, iv (3 : Int32), rv b255, rv b258, rv b261, rv b264, rv b267, iv ((((c0 * u1) * u2) + (c1 * u2)) + c2), iv ((u0 * u1) * u2), iv (1 : Int32), iv (1 : Int32), .unset] []))
    refine own_st (fun _ k => XS.aload X320.here hx rfl (hb hby at_208) rfl rfl k) ?_
    show own_Fin p e below G (T320.setTop (mkF m 210 #[iv p1, iv p2, iv p3, iv (3 : Int32), rv b255, rv b258, rv b261, rv b264, rv b267, iv ((((c0 * u1) * u2) + (c1 * u2)) + c2), iv ((u0 * u1) * u2), iv (1 : Int32), iv (1 : Int32), .unset] [(.ref b261)]))
    refine own_st (fun _ k => XS.iconst X320.here hx rfl (hb hby at_210) k) ?_
    show own_Fin p e below G (T320.setTop (mkF m 211 #[iv p1, iv p2, iv p3, iv (3 : Int32), rv b255, rv b258, rv b261, rv b264, rv b267, iv ((((c0 * u1) * u2) + (c1 * u2)) + c2), iv ((u0 * u1) * u2), iv (1 : Int32), iv (1 : Int32), .unset] [(.int (0 : Int32)), (.ref b261)]))
    refine own_st (fun _ k => XS.aload X320.here hx rfl (hb hby at_211) rfl rfl k) ?_
    show own_Fin p e below G (T320.setTop (mkF m 213 #[iv p1, iv p2, iv p3, iv (3 : Int32), rv b255, rv b258, rv b261, rv b264, rv b267, iv ((((c0 * u1) * u2) + (c1 * u2)) + c2), iv ((u0 * u1) * u2), iv (1 : Int32), iv (1 : Int32), .unset] [(.ref b267), (.int (0 : Int32)), (.ref b261)]))
    refine own_st (fun _ k => XS.iconst X320.here hx rfl (hb hby at_213) k) ?_
    show own_Fin p e below G (T320.setTop (mkF m 214 #[iv p1, iv p2, iv p3, iv (3 : Int32), rv b255, rv b258, rv b261, rv b264, rv b267, iv ((((c0 * u1) * u2) + (c1 * u2)) + c2), iv ((u0 * u1) * u2), iv (1 : Int32), iv (1 : Int32), .unset] [(.int (0 : Int32)), (.ref b267), (.int (0 : Int32)), (.ref b261)]))
    refine own_st (fun _ k => own_ldI X320 hx hZ rfl gA320 (j := (0 : Int32)) (n := 3) rfl (by decide) (g := (mkF m 214 #[iv p1, iv p2, iv p3, iv (3 : Int32), rv b255, rv b258, rv b261, rv b264, rv b267, iv ((((c0 * u1) * u2) + (c1 * u2)) + c2), iv ((u0 * u1) * u2), iv (1 : Int32), iv (1 : Int32), .unset] [(.int (0 : Int32)), (.ref b267), (.int (0 : Int32)), (.ref b261)])) rfl rfl (hb hby at_214) k) ?_
    show own_Fin p e below G (T320.setTop (mkF m 215 #[iv p1, iv p2, iv p3, iv (3 : Int32), rv b255, rv b258, rv b261, rv b264, rv b267, iv ((((c0 * u1) * u2) + (c1 * u2)) + c2), iv ((u0 * u1) * u2), iv (1 : Int32), iv (1 : Int32), .unset] [(.int c0), (.int (0 : Int32)), (.ref b261)]))
    obtain ⟨T323, h323, X323, e323, W323, V323, st323⟩ := own_stI X320 hx hZ rfl f321_2 (j := (0 : Int32)) (n := 3) rfl (by decide) (g := (mkF m 215 #[iv p1, iv p2, iv p3, iv (3 : Int32), rv b255, rv b258, rv b261, rv b264, rv b267, iv ((((c0 * u1) * u2) + (c1 * u2)) + c2), iv ((u0 * u1) * u2), iv (1 : Int32), iv (1 : Int32), .unset] [(.int c0), (.int (0 : Int32)), (.ref b261)])) rfl rfl (hb hby at_215)
    have f324_0 := f321_0.other W323 ne_b255_b261
    have f324_1 := f321_1.other W323 ne_b258_b261
    have f324_3 := f321_3.other W323 (Ne.symm ne_b261_b264)
    have f324_4 := gA320.other W323 (Ne.symm ne_b261_b267)
    have K325 : Keep h0 h323 [] := K322.wr W323 (Or.inr sz_b261)
    clear W323
    have N326 := Fr.snoc X323 N320 g_b261
    replace V323 : own_AV Z h323 b261 .int (own_is [c0, (0 : Int32), (0 : Int32)]) := V323
    refine own_st st323 ?_
    clear st323
    show own_Fin p e below G (T323.setTop (mkF m 216 #[iv p1, iv p2, iv p3, iv (3 : Int32), rv b255, rv b258, rv b261, rv b264, rv b267, iv ((((c0 * u1) * u2) + (c1 * u2)) + c2), iv ((u0 * u1) * u2), iv (1 : Int32), iv (1 : Int32), .unset] []))
    refine own_st (fun _ k => XS.iload X323.here hx rfl (hb hby at_216) rfl  k) ?_
    show own_Fin p e below G (T323.setTop (mkF m 218 #[iv p1, iv p2, iv p3, iv (3 : Int32), rv b255, rv b258, rv b261, rv b264, rv b267, iv ((((c0 * u1) * u2) + (c1 * u2)) + c2), iv ((u0 * u1) * u2), iv (1 : Int32), iv (1 : Int32), .unset] [(.int (1 : Int32))]))
    refine own_st (fun _ k => XS.ifNo X323.here hx rfl (hb hby at_218) rfl ((if0 _ _).trans (feq (by decide : ¬ ((1 : Int32) = (0 : Int32)))).1) k) ?_
    show own_Fin p e below G (T323.setTop (mkF m 221 #[iv p1, iv p2, iv p3, iv (3 : Int32), rv b255, rv b258, rv b261, rv b264, rv b267, iv ((((c0 * u1) * u2) + (c1 * u2)) + c2), iv ((u0 * u1) * u2), iv (1 : Int32), iv (1 : Int32), .unset] []))
    refine own_st (fun _ k => XS.aload X323.here hx rfl (hb hby at_221) rfl rfl k) ?_
    show own_Fin p e below G (T323.setTop (mkF m 223 #[iv p1, iv p2, iv p3, iv (3 : Int32), rv b255, rv b258, rv b261, rv b264, rv b267, iv ((((c0 * u1) * u2) + (c1 * u2)) + c2), iv ((u0 * u1) * u2), iv (1 : Int32), iv (1 : Int32), .unset] [(.ref b264)]))
    refine own_st (fun _ k => XS.iconst X323.here hx rfl (hb hby at_223) k) ?_
    show own_Fin p e below G (T323.setTop (mkF m 224 #[iv p1, iv p2, iv p3, iv (3 : Int32), rv b255, rv b258, rv b261, rv b264, rv b267, iv ((((c0 * u1) * u2) + (c1 * u2)) + c2), iv ((u0 * u1) * u2), iv (1 : Int32), iv (1 : Int32), .unset] [(.int (0 : Int32)), (.ref b264)]))
    refine own_st (fun _ k => own_ldI X323 hx hZ e323 f324_3 (j := (0 : Int32)) (n := 3) rfl (by decide) (g := (mkF m 224 #[iv p1, iv p2, iv p3, iv (3 : Int32), rv b255, rv b258, rv b261, rv b264, rv b267, iv ((((c0 * u1) * u2) + (c1 * u2)) + c2), iv ((u0 * u1) * u2), iv (1 : Int32), iv (1 : Int32), .unset] [(.int (0 : Int32)), (.ref b264)])) rfl rfl (hb hby at_224) k) ?_
    show own_Fin p e below G (T323.setTop (mkF m 225 #[iv p1, iv p2, iv p3, iv (3 : Int32), rv b255, rv b258, rv b261, rv b264, rv b267, iv ((((c0 * u1) * u2) + (c1 * u2)) + c2), iv ((u0 * u1) * u2), iv (1 : Int32), iv (1 : Int32), .unset] [(.int u0)]))
    refine own_st (fun _ k => XS.aload X323.here hx rfl (hb hby at_225) rfl rfl k) ?_
    show own_Fin p e below G (T323.setTop (mkF m 227 #[iv p1, iv p2, iv p3, iv (3 : Int32), rv b255, rv b258, rv b261, rv b264, rv b267, iv ((((c0 * u1) * u2) + (c1 * u2)) + c2), iv ((u0 * u1) * u2), iv (1 : Int32), iv (1 : Int32), .unset] [(.ref b255), (.int u0)]))
    refine own_st (fun _ k => XS.iconst X323.here hx rfl (hb hby at_227) k) ?_
    show own_Fin p e below G (T323.setTop (mkF m 228 #[iv p1, iv p2, iv p3, iv (3 : Int32), rv b255, rv b258, rv b261, rv b264, rv b267, iv ((((c0 * u1) * u2) + (c1 * u2)) + c2), iv ((u0 * u1) * u2), iv (1 : Int32), iv (1 : Int32), .unset] [(.int (0 : Int32)), (.ref b255), (.int u0)]))
    refine own_st (fun _ k => own_ldI X323 hx hZ e323 f324_0 (j := (0 : Int32)) (n := 3) rfl (by decide) (g := (mkF m 228 #[iv p1, iv p2, iv p3, iv (3 : Int32), rv b255, rv b258, rv b261, rv b264, rv b267, iv ((((c0 * u1) * u2) + (c1 * u2)) + c2), iv ((u0 * u1) * u2), iv (1 : Int32), iv (1 : Int32), .unset] [(.int (0 : Int32)), (.ref b255), (.int u0)])) rfl rfl (hb hby at_228) k) ?_
    show own_Fin p e below G (T323.setTop (mkF m 229 #[iv p1, iv p2, iv p3, iv (3 : Int32), rv b255, rv b258, rv b261, rv b264, rv b267, iv ((((c0 * u1) * u2) + (c1 * u2)) + c2), iv ((u0 * u1) * u2), iv (1 : Int32), iv (1 : Int32), .unset] [(.int u0), (.int u0)]))
    refine own_st (fun _ k => XS.icmpNo X323.here hx rfl (hb hby at_229) rfl (teq (rfl : u0 = u0)).2 k) ?_
    show own_Fin p e below G (T323.setTop (mkF m 232 #[iv p1, iv p2, iv p3, iv (3 : Int32), rv b255, rv b258, rv b261, rv b264, rv b267, iv ((((c0 * u1) * u2) + (c1 * u2)) + c2), iv ((u0 * u1) * u2), iv (1 : Int32), iv (1 : Int32), .unset] []))
    refine own_st (fun _ k => XS.iconst X323.here hx rfl (hb hby at_232) k) ?_
    show own_Fin p e below G (T323.setTop (mkF m 233 #[iv p1, iv p2, iv p3, iv (3 : Int32), rv b255, rv b258, rv b261, rv b264, rv b267, iv ((((c0 * u1) * u2) + (c1 * u2)) + c2), iv ((u0 * u1) * u2), iv (1 : Int32), iv (1 : Int32), .unset] [(.int (1 : Int32))]))
    refine own_st (fun _ k => XS.goto X323.here hx rfl (pc0 := 233) (pc' := 237) rfl (hb hby at_233) (by decide) (by decide) k) ?_
    show own_Fin p e below G (T323.setTop (mkF m 237 #[iv p1, iv p2, iv p3, iv (3 : Int32), rv b255, rv b258, rv b261, rv b264, rv b267, iv ((((c0 * u1) * u2) + (c1 * u2)) + c2), iv ((u0 * u1) * u2), iv (1 : Int32), iv (1 : Int32), .unset] [(.int (1 : Int32))]))
    refine own_st (fun _ k => XS.istore X323.here hx rfl (hb hby at_237) rfl (l' := #[iv p1, iv p2, iv p3, iv (3 : Int32), rv b255, rv b258, rv b261, rv b264, rv b267, iv ((((c0 * u1) * u2) + (c1 * u2)) + c2), iv ((u0 * u1) * u2), iv (1 : Int32), iv (1 : Int32), .unset]) rfl k) ?_
    show own_Fin p e below G (T323.setTop (mkF m 239 #[iv p1, iv p2, iv p3, iv (3 : Int32), rv b255, rv b258, rv b261, rv b264, rv b267, iv ((((c0 * u1) * u2) + (c1 * u2)) + c2), iv ((u0 * u1) * u2), iv (1 : Int32), iv (1 : Int32), .unset] []))
    refine own_st (fun _ k => XS.iloadN X323.here hx rfl (hb hby at_239) rfl  k) ?_
    show own_Fin p e below G (T323.setTop (mkF m 240 #[iv p1, iv p2, iv p3, iv (3 : Int32), rv b255, rv b258, rv b261, rv b264, rv b267, iv ((((c0 * u1) * u2) + (c1 * u2)) + c2), iv ((u0 * u1) * u2), iv (1 : Int32), iv (1 : Int32), .unset] [(.int (3 : Int32))]))
    refine own_st (fun _ k => XS.iconst X323.here hx rfl (hb hby at_240) k) ?_
    show own_Fin p e below G (T323.setTop (mkF m 241 #[iv p1, iv p2, iv p3, iv (3 : Int32), rv b255, rv b258, rv b261, rv b264, rv b267, iv ((((c0 * u1) * u2) + (c1 * u2)) + c2), iv ((u0 * u1) * u2), iv (1 : Int32), iv (1 : Int32), .unset] [(.int (1 : Int32)), (.int (3 : Int32))]))
    refine own_st (fun _ k => XS.icmpNo X323.here hx rfl (hb hby at_241) rfl (tlt (by decide : ((1 : Int32) < (3 : Int32)))).2.2.2 k) ?_
    show own_Fin p e below G (T323.setTop (mkF m 244 #[iv p1, iv p2, iv p3, iv (3 : Int32), rv b255, rv b258, rv b261, rv b264, rv b267, iv ((((c0 * u1) * u2) + (c1 * u2)) + c2), iv ((u0 * u1) * u2), iv (1 : Int32), iv (1 : Int32), .unset] []))
    refine own_st (fun _ k => XS.aload X323.here hx rfl (hb hby at_244) rfl rfl k) ?_
    show own_Fin p e below G (T323.setTop (mkF m 246 #[iv p1, iv p2, iv p3, iv (3 : Int32), rv b255, rv b258, rv b261, rv b264, rv b267, iv ((((c0 * u1) * u2) + (c1 * u2)) + c2), iv ((u0 * u1) * u2), iv (1 : Int32), iv (1 : Int32), .unset] [(.ref b261)]))
    refine own_st (fun _ k => XS.iconst X323.here hx rfl (hb hby at_246) k) ?_
    show own_Fin p e below G (T323.setTop (mkF m 247 #[iv p1, iv p2, iv p3, iv (3 : Int32), rv b255, rv b258, rv b261, rv b264, rv b267, iv ((((c0 * u1) * u2) + (c1 * u2)) + c2), iv ((u0 * u1) * u2), iv (1 : Int32), iv (1 : Int32), .unset] [(.int (1 : Int32)), (.ref b261)]))
    refine own_st (fun _ k => XS.aload X323.here hx rfl (hb hby at_247) rfl rfl k) ?_
    show own_Fin p e below G (T323.setTop (mkF m 249 #[iv p1, iv p2, iv p3, iv (3 : Int32), rv b255, rv b258, rv b261, rv b264, rv b267, iv ((((c0 * u1) * u2) + (c1 * u2)) + c2), iv ((u0 * u1) * u2), iv (1 : Int32), iv (1 : Int32), .unset] [(.ref b267), (.int (1 : Int32)), (.ref b261)]))
    refine own_st (fun _ k => XS.iconst X323.here hx rfl (hb hby at_249) k) ?_
    show own_Fin p e below G (T323.setTop (mkF m 250 #[iv p1, iv p2, iv p3, iv (3 : Int32), rv b255, rv b258, rv b261, rv b264, rv b267, iv ((((c0 * u1) * u2) + (c1 * u2)) + c2), iv ((u0 * u1) * u2), iv (1 : Int32), iv (1 : Int32), .unset] [(.int (1 : Int32)), (.ref b267), (.int (1 : Int32)), (.ref b261)]))
    refine own_st (fun _ k => own_ldI X323 hx hZ e323 f324_4 (j := (1 : Int32)) (n := 3) rfl (by decide) (g := (mkF m 250 #[iv p1, iv p2, iv p3, iv (3 : Int32), rv b255, rv b258, rv b261, rv b264, rv b267, iv ((((c0 * u1) * u2) + (c1 * u2)) + c2), iv ((u0 * u1) * u2), iv (1 : Int32), iv (1 : Int32), .unset] [(.int (1 : Int32)), (.ref b267), (.int (1 : Int32)), (.ref b261)])) rfl rfl (hb hby at_250) k) ?_
    show own_Fin p e below G (T323.setTop (mkF m 251 #[iv p1, iv p2, iv p3, iv (3 : Int32), rv b255, rv b258, rv b261, rv b264, rv b267, iv ((((c0 * u1) * u2) + (c1 * u2)) + c2), iv ((u0 * u1) * u2), iv (1 : Int32), iv (1 : Int32), .unset] [(.int c1), (.int (1 : Int32)), (.ref b261)]))
    obtain ⟨T327, h327, X327, e327, W327, V327, st327⟩ := own_stI X323 hx hZ e323 V323 (j := (1 : Int32)) (n := 3) rfl (by decide) (g := (mkF m 251 #[iv p1, iv p2, iv p3, iv (3 : Int32), rv b255, rv b258, rv b261, rv b264, rv b267, iv ((((c0 * u1) * u2) + (c1 * u2)) + c2), iv ((u0 * u1) * u2), iv (1 : Int32), iv (1 : Int32), .unset] [(.int c1), (.int (1 : Int32)), (.ref b261)])) rfl rfl (hb hby at_251)
    clear X323 e323 V323
    have f328_0 := f324_0.other W327 ne_b255_b261
    clear f324_0
    have f328_1 := f324_1.other W327 ne_b258_b261
    clear f324_1
    have f328_3 := f324_3.other W327 (Ne.symm ne_b261_b264)
    clear f324_3
    have f328_4 := f324_4.other W327 (Ne.symm ne_b261_b267)
    clear f324_4
    have K329 : Keep h0 h327 [] := K325.wr W327 (Or.inr sz_b261)
    clear K325 W327
    have N330 := Fr.snoc X327 N326 g_b261
    clear N326
    replace V327 : own_AV Z h327 b261 .int (own_is [c0, c1, (0 : Int32)]) := V327
    refine own_st st327 ?_
    clear st327
    show own_Fin p e below G (T327.setTop (mkF m 252 #[iv p1, iv p2, iv p3, iv (3 : Int32), rv b255, rv b258, rv b261, rv b264, rv b267, iv ((((c0 * u1) * u2) + (c1 * u2)) + c2), iv ((u0 * u1) * u2), iv (1 : Int32), iv (1 : Int32), .unset] []))
    refine own_st (fun _ k => XS.iload X327.here hx rfl (hb hby at_252) rfl  k) ?_
    show own_Fin p e below G (T327.setTop (mkF m 254 #[iv p1, iv p2, iv p3, iv (3 : Int32), rv b255, rv b258, rv b261, rv b264, rv b267, iv ((((c0 * u1) * u2) + (c1 * u2)) + c2), iv ((u0 * u1) * u2), iv (1 : Int32), iv (1 : Int32), .unset] [(.int (1 : Int32))]))
    refine own_st (fun _ k => XS.ifNo X327.here hx rfl (hb hby at_254) rfl ((if0 _ _).trans (feq (by decide : ¬ ((1 : Int32) = (0 : Int32)))).1) k) ?_
    show own_Fin p e below G (T327.setTop (mkF m 257 #[iv p1, iv p2, iv p3, iv (3 : Int32), rv b255, rv b258, rv b261, rv b264, rv b267, iv ((((c0 * u1) * u2) + (c1 * u2)) + c2), iv ((u0 * u1) * u2), iv (1 : Int32), iv (1 : Int32), .unset] []))
    refine own_st (fun _ k => XS.aload X327.here hx rfl (hb hby at_257) rfl rfl k) ?_
    show own_Fin p e below G (T327.setTop (mkF m 259 #[iv p1, iv p2, iv p3, iv (3 : Int32), rv b255, rv b258, rv b261, rv b264, rv b267, iv ((((c0 * u1) * u2) + (c1 * u2)) + c2), iv ((u0 * u1) * u2), iv (1 : Int32), iv (1 : Int32), .unset] [(.ref b264)]))
    refine own_st (fun _ k => XS.iconst X327.here hx rfl (hb hby at_259) k) ?_
    show own_Fin p e below G (T327.setTop (mkF m 260 #[iv p1, iv p2, iv p3, iv (3 : Int32), rv b255, rv b258, rv b261, rv b264, rv b267, iv ((((c0 * u1) * u2) + (c1 * u2)) + c2), iv ((u0 * u1) * u2), iv (1 : Int32), iv (1 : Int32), .unset] [(.int (1 : Int32)), (.ref b264)]))
    refine own_st (fun _ k => own_ldI X327 hx hZ e327 f328_3 (j := (1 : Int32)) (n := 3) rfl (by decide) (g := (mkF m 260 #[iv p1, iv p2, iv p3, iv (3 : Int32), rv b255, rv b258, rv b261, rv b264, rv b267, iv ((((c0 * u1) * u2) + (c1 * u2)) + c2), iv ((u0 * u1) * u2), iv (1 : Int32), iv (1 : Int32), .unset] [(.int (1 : Int32)), (.ref b264)])) rfl rfl (hb hby at_260) k) ?_
    show own_Fin p e below G (T327.setTop (mkF m 261 #[iv p1, iv p2, iv p3, iv (3 : Int32), rv b255, rv b258, rv b261, rv b264, rv b267, iv ((((c0 * u1) * u2) + (c1 * u2)) + c2), iv ((u0 * u1) * u2), iv (1 : Int32), iv (1 : Int32), .unset] [(.int u1)]))
    refine own_st (fun _ k => XS.aload X327.here hx rfl (hb hby at_261) rfl rfl k) ?_
    show own_Fin p e below G (T327.setTop (mkF m 263 #[iv p1, iv p2, iv p3, iv (3 : Int32), rv b255, rv b258, rv b261, rv b264, rv b267, iv ((((c0 * u1) * u2) + (c1 * u2)) + c2), iv ((u0 * u1) * u2), iv (1 : Int32), iv (1 : Int32), .unset] [(.ref b255), (.int u1)]))
    refine own_st (fun _ k => XS.iconst X327.here hx rfl (hb hby at_263) k) ?_
    show own_Fin p e below G (T327.setTop (mkF m 264 #[iv p1, iv p2, iv p3, iv (3 : Int32), rv b255, rv b258, rv b261, rv b264, rv b267, iv ((((c0 * u1) * u2) + (c1 * u2)) + c2), iv ((u0 * u1) * u2), iv (1 : Int32), iv (1 : Int32), .unset] [(.int (1 : Int32)), (.ref b255), (.int u1)]))
    refine own_st (fun _ k => own_ldI X327 hx hZ e327 f328_0 (j := (1 : Int32)) (n := 3) rfl (by decide) (g := (mkF m 264 #[iv p1, iv p2, iv p3, iv (3 : Int32), rv b255, rv b258, rv b261, rv b264, rv b267, iv ((((c0 * u1) * u2) + (c1 * u2)) + c2), iv ((u0 * u1) * u2), iv (1 : Int32), iv (1 : Int32), .unset] [(.int (1 : Int32)), (.ref b255), (.int u1)])) rfl rfl (hb hby at_264) k) ?_
    show own_Fin p e below G (T327.setTop (mkF m 265 #[iv p1, iv p2, iv p3, iv (3 : Int32), rv b255, rv b258, rv b261, rv b264, rv b267, iv ((((c0 * u1) * u2) + (c1 * u2)) + c2), iv ((u0 * u1) * u2), iv (1 : Int32), iv (1 : Int32), .unset] [(.int u1), (.int u1)]))
    refine own_st (fun _ k => XS.icmpNo X327.here hx rfl (hb hby at_265) rfl (teq (rfl : u1 = u1)).2 k) ?_
    show own_Fin p e below G (T327.setTop (mkF m 268 #[iv p1, iv p2, iv p3, iv (3 : Int32), rv b255, rv b258, rv b261, rv b264, rv b267, iv ((((c0 * u1) * u2) + (c1 * u2)) + c2), iv ((u0 * u1) * u2), iv (1 : Int32), iv (1 : Int32), .unset] []))
    refine own_st (fun _ k => XS.iconst X327.here hx rfl (hb hby at_268) k) ?_
    show own_Fin p e below G (T327.setTop (mkF m 269 #[iv p1, iv p2, iv p3, iv (3 : Int32), rv b255, rv b258, rv b261, rv b264, rv b267, iv ((((c0 * u1) * u2) + (c1 * u2)) + c2), iv ((u0 * u1) * u2), iv (1 : Int32), iv (1 : Int32), .unset] [(.int (1 : Int32))]))
    refine own_st (fun _ k => XS.goto X327.here hx rfl (pc0 := 269) (pc' := 273) rfl (hb hby at_269) (by decide) (by decide) k) ?_
    show own_Fin p e below G (T327.setTop (mkF m 273 #[iv p1, iv p2, iv p3, iv (3 : Int32), rv b255, rv b258, rv b261, rv b264, rv b267, iv ((((c0 * u1) * u2) + (c1 * u2)) + c2), iv ((u0 * u1) * u2), iv (1 : Int32), iv (1 : Int32), .unset] [(.int (1 : Int32))]))
    refine own_st (fun _ k => XS.istore X327.here hx rfl (hb hby at_273) rfl (l' := #[iv p1, iv p2, iv p3, iv (3 : Int32), rv b255, rv b258, rv b261, rv b264, rv b267, iv ((((c0 * u1) * u2) + (c1 * u2)) + c2), iv ((u0 * u1) * u2), iv (1 : Int32), iv (1 : Int32), .unset]) rfl k) ?_
    show own_Fin p e below G (T327.setTop (mkF m 275 #[iv p1, iv p2, iv p3, iv (3 : Int32), rv b255, rv b258, rv b261, rv b264, rv b267, iv ((((c0 * u1) * u2) + (c1 * u2)) + c2), iv ((u0 * u1) * u2), iv (1 : Int32), iv (1 : Int32), .unset] []))
    refine own_st (fun _ k => XS.iloadN X327.here hx rfl (hb hby at_275) rfl  k) ?_
    show own_Fin p e below G (T327.setTop (mkF m 276 #[iv p1, iv p2, iv p3, iv (3 : Int32), rv b255, rv b258, rv b261, rv b264, rv b267, iv ((((c0 * u1) * u2) + (c1 * u2)) + c2), iv ((u0 * u1) * u2), iv (1 : Int32), iv (1 : Int32), .unset] [(.int (3 : Int32))]))
    refine own_st (fun _ k => XS.iconst X327.here hx rfl (hb hby at_276) k) ?_
    show own_Fin p e below G (T327.setTop (mkF m 277 #[iv p1, iv p2, iv p3, iv (3 : Int32), rv b255, rv b258, rv b261, rv b264, rv b267, iv ((((c0 * u1) * u2) + (c1 * u2)) + c2), iv ((u0 * u1) * u2), iv (1 : Int32), iv (1 : Int32), .unset] [(.int (2 : Int32)), (.int (3 : Int32))]))
    refine own_st (fun _ k => XS.icmpNo X327.here hx rfl (hb hby at_277) rfl (tlt (by decide : ((2 : Int32) < (3 : Int32)))).2.2.2 k) ?_
    show own_Fin p e below G (T327.setTop (mkF m 280 #[iv p1, iv p2, iv p3, iv (3 : Int32), rv b255, rv b258, rv b261, rv b264, rv b267, iv ((((c0 * u1) * u2) + (c1 * u2)) + c2), iv ((u0 * u1) * u2), iv (1 : Int32), iv (1 : Int32), .unset] []))
    refine own_st (fun _ k => XS.aload X327.here hx rfl (hb hby at_280) rfl rfl k) ?_
    show own_Fin p e below G (T327.setTop (mkF m 282 #[iv p1, iv p2, iv p3, iv (3 : Int32), rv b255, rv b258, rv b261, rv b264, rv b267, iv ((((c0 * u1) * u2) + (c1 * u2)) + c2), iv ((u0 * u1) * u2), iv (1 : Int32), iv (1 : Int32), .unset] [(.ref b261)]))
    refine own_st (fun _ k => XS.iconst X327.here hx rfl (hb hby at_282) k) ?_
    show own_Fin p e below G (T327.setTop (mkF m 283 #[iv p1, iv p2, iv p3, iv (3 : Int32), rv b255, rv b258, rv b261, rv b264, rv b267, iv ((((c0 * u1) * u2) + (c1 * u2)) + c2), iv ((u0 * u1) * u2), iv (1 : Int32), iv (1 : Int32), .unset] [(.int (2 : Int32)), (.ref b261)]))
    refine own_st (fun _ k => XS.aload X327.here hx rfl (hb hby at_283) rfl rfl k) ?_
    show own_Fin p e below G (T327.setTop (mkF m 285 #[iv p1, iv p2, iv p3, iv (3 : Int32), rv b255, rv b258, rv b261, rv b264, rv b267, iv ((((c0 * u1) * u2) + (c1 * u2)) + c2), iv ((u0 * u1) * u2), iv (1 : Int32), iv (1 : Int32), .unset] [(.ref b267), (.int (2 : Int32)), (.ref b261)]))
    refine own_st (fun _ k => XS.iconst X327.here hx rfl (hb hby at_285) k) ?_
    show own_Fin p e below G (T327.setTop (mkF m 286 #[iv p1, iv p2, iv p3, iv (3 : Int32), rv b255, rv b258, rv b261, rv b264, rv b267, iv ((((c0 * u1) * u2) + (c1 * u2)) + c2), iv ((u0 * u1) * u2), iv (1 : Int32), iv (1 : Int32), .unset] [(.int (2 : Int32)), (.ref b267), (.int (2 : Int32)), (.ref b261)]))
    refine own_st (fun _ k => own_ldI X327 hx hZ e327 f328_4 (j := (2 : Int32)) (n := 3) rfl (by decide) (g := (mkF m 286 #[iv p1, iv p2, iv p3, iv (3 : Int32), rv b255, rv b258, rv b261, rv b264, rv b267, iv ((((c0 * u1) * u2) + (c1 * u2)) + c2), iv ((u0 * u1) * u2), iv (1 : Int32), iv (1 : Int32), .unset] [(.int (2 : Int32)), (.ref b267), (.int (2 : Int32)), (.ref b261)])) rfl rfl (hb hby at_286) k) ?_
    show own_Fin p e below G (T327.setTop (mkF m 287 #[iv p1, iv p2, iv p3, iv (3 : Int32), rv b255, rv b258, rv b261, rv b264, rv b267, iv ((((c0 * u1) * u2) + (c1 * u2)) + c2), iv ((u0 * u1) * u2), iv (1 : Int32), iv (1 : Int32), .unset] [(.int (c2 + (1 : Int32))), (.int (2 : Int32)), (.ref b261)]))
    obtain ⟨T331, h331, X331, e331, W331, V331, st331⟩ := own_stI X327 hx hZ e327 V327 (j := (2 : Int32)) (n := 3) rfl (by decide) (g := (mkF m 287 #[iv p1, iv p2, iv p3, iv (3 : Int32), rv b255, rv b258, rv b261, rv b264, rv b267, iv ((((c0 * u1) * u2) + (c1 * u2)) + c2), iv ((u0 * u1) * u2), iv (1 : Int32), iv (1 : Int32), .unset] [(.int (c2 + (1 : Int32))), (.int (2 : Int32)), (.ref b261)])) rfl rfl (hb hby at_287)
    clear X327 e327 V327
    have f332_0 := f328_0.other W331 ne_b255_b261
    clear f328_0
    have f332_1 := f328_1.other W331 ne_b258_b261
    clear f328_1 f332_1
    have f332_3 := f328_3.other W331 (Ne.symm ne_b261_b264)
    clear f328_3
    have f332_4 := f328_4.other W331 (Ne.symm ne_b261_b267)
    clear f328_4 f332_4
    have K333 : Keep h0 h331 [] := K329.wr W331 (Or.inr sz_b261)
    clear K329 W331
    have N334 := Fr.snoc X331 N330 g_b261
    clear N330
    replace V331 : own_AV Z h331 b261 .int (own_is [c0, c1, (c2 + (1 : Int32))]) := V331
    refine own_st st331 ?_
    clear st331
    show own_Fin p e below G (T331.setTop (mkF m 288 #[iv p1, iv p2, iv p3, iv (3 : Int32), rv b255, rv b258, rv b261, rv b264, rv b267, iv ((((c0 * u1) * u2) + (c1 * u2)) + c2), iv ((u0 * u1) * u2), iv (1 : Int32), iv (1 : Int32), .unset] []))
    refine own_st (fun _ k => XS.iload X331.here hx rfl (hb hby at_288) rfl  k) ?_
    show own_Fin p e below G (T331.setTop (mkF m 290 #[iv p1, iv p2, iv p3, iv (3 : Int32), rv b255, rv b258, rv b261, rv b264, rv b267, iv ((((c0 * u1) * u2) + (c1 * u2)) + c2), iv ((u0 * u1) * u2), iv (1 : Int32), iv (1 : Int32), .unset] [(.int (1 : Int32))]))
    refine own_st (fun _ k => XS.ifNo X331.here hx rfl (hb hby at_290) rfl ((if0 _ _).trans (feq (by decide : ¬ ((1 : Int32) = (0 : Int32)))).1) k) ?_
    show own_Fin p e below G (T331.setTop (mkF m 293 #[iv p1, iv p2, iv p3, iv (3 : Int32), rv b255, rv b258, rv b261, rv b264, rv b267, iv ((((c0 * u1) * u2) + (c1 * u2)) + c2), iv ((u0 * u1) * u2), iv (1 : Int32), iv (1 : Int32), .unset] []))
    refine own_st (fun _ k => XS.aload X331.here hx rfl (hb hby at_293) rfl rfl k) ?_
    show own_Fin p e below G (T331.setTop (mkF m 295 #[iv p1, iv p2, iv p3, iv (3 : Int32), rv b255, rv b258, rv b261, rv b264, rv b267, iv ((((c0 * u1) * u2) + (c1 * u2)) + c2), iv ((u0 * u1) * u2), iv (1 : Int32), iv (1 : Int32), .unset] [(.ref b264)]))
    refine own_st (fun _ k => XS.iconst X331.here hx rfl (hb hby at_295) k) ?_
    show own_Fin p e below G (T331.setTop (mkF m 296 #[iv p1, iv p2, iv p3, iv (3 : Int32), rv b255, rv b258, rv b261, rv b264, rv b267, iv ((((c0 * u1) * u2) + (c1 * u2)) + c2), iv ((u0 * u1) * u2), iv (1 : Int32), iv (1 : Int32), .unset] [(.int (2 : Int32)), (.ref b264)]))
    refine own_st (fun _ k => own_ldI X331 hx hZ e331 f332_3 (j := (2 : Int32)) (n := 3) rfl (by decide) (g := (mkF m 296 #[iv p1, iv p2, iv p3, iv (3 : Int32), rv b255, rv b258, rv b261, rv b264, rv b267, iv ((((c0 * u1) * u2) + (c1 * u2)) + c2), iv ((u0 * u1) * u2), iv (1 : Int32), iv (1 : Int32), .unset] [(.int (2 : Int32)), (.ref b264)])) rfl rfl (hb hby at_296) k) ?_
    clear f332_3
    show own_Fin p e below G (T331.setTop (mkF m 297 #[iv p1, iv p2, iv p3, iv (3 : Int32), rv b255, rv b258, rv b261, rv b264, rv b267, iv ((((c0 * u1) * u2) + (c1 * u2)) + c2), iv ((u0 * u1) * u2), iv (1 : Int32), iv (1 : Int32), .unset] [(.int u2)]))
    refine own_st (fun _ k => XS.aload X331.here hx rfl (hb hby at_297) rfl rfl k) ?_
    show own_Fin p e below G (T331.setTop (mkF m 299 #[iv p1, iv p2, iv p3, iv (3 : Int32), rv b255, rv b258, rv b261, rv b264, rv b267, iv ((((c0 * u1) * u2) + (c1 * u2)) + c2), iv ((u0 * u1) * u2), iv (1 : Int32), iv (1 : Int32), .unset] [(.ref b255), (.int u2)]))
    refine own_st (fun _ k => XS.iconst X331.here hx rfl (hb hby at_299) k) ?_
    show own_Fin p e below G (T331.setTop (mkF m 300 #[iv p1, iv p2, iv p3, iv (3 : Int32), rv b255, rv b258, rv b261, rv b264, rv b267, iv ((((c0 * u1) * u2) + (c1 * u2)) + c2), iv ((u0 * u1) * u2), iv (1 : Int32), iv (1 : Int32), .unset] [(.int (2 : Int32)), (.ref b255), (.int u2)]))
    refine own_st (fun _ k => own_ldI X331 hx hZ e331 f332_0 (j := (2 : Int32)) (n := 3) rfl (by decide) (g := (mkF m 300 #[iv p1, iv p2, iv p3, iv (3 : Int32), rv b255, rv b258, rv b261, rv b264, rv b267, iv ((((c0 * u1) * u2) + (c1 * u2)) + c2), iv ((u0 * u1) * u2), iv (1 : Int32), iv (1 : Int32), .unset] [(.int (2 : Int32)), (.ref b255), (.int u2)])) rfl rfl (hb hby at_300) k) ?_
    show own_Fin p e below G (T331.setTop (mkF m 301 #[iv p1, iv p2, iv p3, iv (3 : Int32), rv b255, rv b258, rv b261, rv b264, rv b267, iv ((((c0 * u1) * u2) + (c1 * u2)) + c2), iv ((u0 * u1) * u2), iv (1 : Int32), iv (1 : Int32), .unset] [(.int u2), (.int u2)]))
    refine own_st (fun _ k => XS.icmpNo X331.here hx rfl (hb hby at_301) rfl (teq (rfl : u2 = u2)).2 k) ?_
    show own_Fin p e below G (T331.setTop (mkF m 304 #[iv p1, iv p2, iv p3, iv (3 : Int32), rv b255, rv b258, rv b261, rv b264, rv b267, iv ((((c0 * u1) * u2) + (c1 * u2)) + c2), iv ((u0 * u1) * u2), iv (1 : Int32), iv (1 : Int32), .unset] []))
    refine own_st (fun _ k => XS.iconst X331.here hx rfl (hb hby at_304) k) ?_
    show own_Fin p e below G (T331.setTop (mkF m 305 #[iv p1, iv p2, iv p3, iv (3 : Int32), rv b255, rv b258, rv b261, rv b264, rv b267, iv ((((c0 * u1) * u2) + (c1 * u2)) + c2), iv ((u0 * u1) * u2), iv (1 : Int32), iv (1 : Int32), .unset] [(.int (1 : Int32))]))
    refine own_st (fun _ k => XS.goto X331.here hx rfl (pc0 := 305) (pc' := 309) rfl (hb hby at_305) (by decide) (by decide) k) ?_
    show own_Fin p e below G (T331.setTop (mkF m 309 #[iv p1, iv p2, iv p3, iv (3 : Int32), rv b255, rv b258, rv b261, rv b264, rv b267, iv ((((c0 * u1) * u2) + (c1 * u2)) + c2), iv ((u0 * u1) * u2), iv (1 : Int32), iv (1 : Int32), .unset] [(.int (1 : Int32))]))
    refine own_st (fun _ k => XS.istore X331.here hx rfl (hb hby at_309) rfl (l' := #[iv p1, iv p2, iv p3, iv (3 : Int32), rv b255, rv b258, rv b261, rv b264, rv b267, iv ((((c0 * u1) * u2) + (c1 * u2)) + c2), iv ((u0 * u1) * u2), iv (1 : Int32), iv (1 : Int32), .unset]) rfl k) ?_
    show own_Fin p e below G (T331.setTop (mkF m 311 #[iv p1, iv p2, iv p3, iv (3 : Int32), rv b255, rv b258, rv b261, rv b264, rv b267, iv ((((c0 * u1) * u2) + (c1 * u2)) + c2), iv ((u0 * u1) * u2), iv (1 : Int32), iv (1 : Int32), .unset] []))
    refine own_st (fun _ k => XS.iload X331.here hx rfl (hb hby at_311) rfl  k) ?_
    show own_Fin p e below G (T331.setTop (mkF m 313 #[iv p1, iv p2, iv p3, iv (3 : Int32), rv b255, rv b258, rv b261, rv b264, rv b267, iv ((((c0 * u1) * u2) + (c1 * u2)) + c2), iv ((u0 * u1) * u2), iv (1 : Int32), iv (1 : Int32), .unset] [(.int (1 : Int32))]))
    refine own_st (fun _ k => XS.ifYes X331.here hx rfl (pc0 := 313) (pc' := 318) rfl (hb hby at_313) rfl ((if0 _ _).trans (feq (by decide : ¬ ((1 : Int32) = (0 : Int32)))).2) (by decide) (by decide) k) ?_
    show own_Fin p e below G (T331.setTop (mkF m 318 #[iv p1, iv p2, iv p3, iv (3 : Int32), rv b255, rv b258, rv b261, rv b264, rv b267, iv ((((c0 * u1) * u2) + (c1 * u2)) + c2), iv ((u0 * u1) * u2), iv (1 : Int32), iv (1 : Int32), .unset] []))
    refine own_st (fun _ k => XS.iload X331.here hx rfl (hb hby at_318) rfl  k) ?_
    show own_Fin p e below G (T331.setTop (mkF m 320 #[iv p1, iv p2, iv p3, iv (3 : Int32), rv b255, rv b258, rv b261, rv b264, rv b267, iv ((((c0 * u1) * u2) + (c1 * u2)) + c2), iv ((u0 * u1) * u2), iv (1 : Int32), iv (1 : Int32), .unset] [(.int ((((c0 * u1) * u2) + (c1 * u2)) + c2))]))
    refine own_st (fun _ k => XS.iconst X331.here hx rfl (hb hby at_320) k) ?_
    show own_Fin p e below G (T331.setTop (mkF m 321 #[iv p1, iv p2, iv p3, iv (3 : Int32), rv b255, rv b258, rv b261, rv b264, rv b267, iv ((((c0 * u1) * u2) + (c1 * u2)) + c2), iv ((u0 * u1) * u2), iv (1 : Int32), iv (1 : Int32), .unset] [(.int (1 : Int32)), (.int ((((c0 * u1) * u2) + (c1 * u2)) + c2))]))
    refine own_st (fun _ k => XS.iadd X331.here hx rfl (hb hby at_321) rfl k) ?_
    show own_Fin p e below G (T331.setTop (mkF m 322 #[iv p1, iv p2, iv p3, iv (3 : Int32), rv b255, rv b258, rv b261, rv b264, rv b267, iv ((((c0 * u1) * u2) + (c1 * u2)) + c2), iv ((u0 * u1) * u2), iv (1 : Int32), iv (1 : Int32), .unset] [(.int (((((c0 * u1) * u2) + (c1 * u2)) + c2) + (1 : Int32)))]))
    refine own_st (fun _ k => XS.iload X331.here hx rfl (hb hby at_322) rfl  k) ?_
    show own_Fin p e below G (T331.setTop (mkF m 324 #[iv p1, iv p2, iv p3, iv (3 : Int32), rv b255, rv b258, rv b261, rv b264, rv b267, iv ((((c0 * u1) * u2) + (c1 * u2)) + c2), iv ((u0 * u1) * u2), iv (1 : Int32), iv (1 : Int32), .unset] [(.int ((u0 * u1) * u2)), (.int (((((c0 * u1) * u2) + (c1 * u2)) + c2) + (1 : Int32)))]))
    refine own_st (fun _ k => XS.icmpNo X331.here hx rfl (hb hby at_324) rfl (tlt (own_w3a r_c0 r_c1 r_c2 r_u0 r_u1 r_u2 d0).1).2.1 k) ?_
    show own_Fin p e below G (T331.setTop (mkF m 327 #[iv p1, iv p2, iv p3, iv (3 : Int32), rv b255, rv b258, rv b261, rv b264, rv b267, iv ((((c0 * u1) * u2) + (c1 * u2)) + c2), iv ((u0 * u1) * u2), iv (1 : Int32), iv (1 : Int32), .unset] []))
    refine own_st (fun _ k => XS.aload X331.here hx rfl (hb hby at_327) rfl rfl k) ?_
    show own_Fin p e below G (T331.setTop (mkF m 329 #[iv p1, iv p2, iv p3, iv (3 : Int32), rv b255, rv b258, rv b261, rv b264, rv b267, iv ((((c0 * u1) * u2) + (c1 * u2)) + c2), iv ((u0 * u1) * u2), iv (1 : Int32), iv (1 : Int32), .unset] [(.ref b261)]))
    refine own_st (fun _ k => XS.iconst X331.here hx rfl (hb hby at_329) k) ?_
    show own_Fin p e below G (T331.setTop (mkF m 330 #[iv p1, iv p2, iv p3, iv (3 : Int32), rv b255, rv b258, rv b261, rv b264, rv b267, iv ((((c0 * u1) * u2) + (c1 * u2)) + c2), iv ((u0 * u1) * u2), iv (1 : Int32), iv (1 : Int32), .unset] [(.int (0 : Int32)), (.ref b261)]))
    refine own_st (fun _ k => own_ldI X331 hx hZ e331 V331 (j := (0 : Int32)) (n := 3) rfl (by decide) (g := (mkF m 330 #[iv p1, iv p2, iv p3, iv (3 : Int32), rv b255, rv b258, rv b261, rv b264, rv b267, iv ((((c0 * u1) * u2) + (c1 * u2)) + c2), iv ((u0 * u1) * u2), iv (1 : Int32), iv (1 : Int32), .unset] [(.int (0 : Int32)), (.ref b261)])) rfl rfl (hb hby at_330) k) ?_
    show own_Fin p e below G (T331.setTop (mkF m 331 #[iv p1, iv p2, iv p3, iv (3 : Int32), rv b255, rv b258, rv b261, rv b264, rv b267, iv ((((c0 * u1) * u2) + (c1 * u2)) + c2), iv ((u0 * u1) * u2), iv (1 : Int32), iv (1 : Int32), .unset] [(.int c0)]))
    refine own_st (fun _ k => XS.aload X331.here hx rfl (hb hby at_331) rfl rfl k) ?_
    show own_Fin p e below G (T331.setTop (mkF m 333 #[iv p1, iv p2, iv p3, iv (3 : Int32), rv b255, rv b258, rv b261, rv b264, rv b267, iv ((((c0 * u1) * u2) + (c1 * u2)) + c2), iv ((u0 * u1) * u2), iv (1 : Int32), iv (1 : Int32), .unset] [(.ref b255), (.int c0)]))
    refine own_st (fun _ k => XS.iconst X331.here hx rfl (hb hby at_333) k) ?_
    show own_Fin p e below G (T331.setTop (mkF m 334 #[iv p1, iv p2, iv p3, iv (3 : Int32), rv b255, rv b258, rv b261, rv b264, rv b267, iv ((((c0 * u1) * u2) + (c1 * u2)) + c2), iv ((u0 * u1) * u2), iv (1 : Int32), iv (1 : Int32), .unset] [(.int (0 : Int32)), (.ref b255), (.int c0)]))
    refine own_st (fun _ k => own_ldI X331 hx hZ e331 f332_0 (j := (0 : Int32)) (n := 3) rfl (by decide) (g := (mkF m 334 #[iv p1, iv p2, iv p3, iv (3 : Int32), rv b255, rv b258, rv b261, rv b264, rv b267, iv ((((c0 * u1) * u2) + (c1 * u2)) + c2), iv ((u0 * u1) * u2), iv (1 : Int32), iv (1 : Int32), .unset] [(.int (0 : Int32)), (.ref b255), (.int c0)])) rfl rfl (hb hby at_334) k) ?_
    show own_Fin p e below G (T331.setTop (mkF m 335 #[iv p1, iv p2, iv p3, iv (3 : Int32), rv b255, rv b258, rv b261, rv b264, rv b267, iv ((((c0 * u1) * u2) + (c1 * u2)) + c2), iv ((u0 * u1) * u2), iv (1 : Int32), iv (1 : Int32), .unset] [(.int u0), (.int c0)]))
    obtain ⟨_, _, ⟨T335, L335, k335, n335⟩, -, X335, ⟨Lc335, hQ335, l335, y335, z335⟩, st335⟩ := Jvm.LawKit.callS X331 hx (y := own_y2) hown (mvT hZ (own_w hw 12 rfl)) (mvT hZ (own_w hw 13 rfl)) (mvT hZ (own_w hw 3 rfl)) (mvT hZ (own_w hw 14 rfl)) (by decide) (backOf (W := 0) (rm_in l Z a0 hw [] c0 u0 h331 n0 (Nat.le_trans Z0 K333.1) (own_ge r_c0.1) (own_lt_of r_c0)) hZ (own_w hw 14 rfl) (own_w hw 3 rfl) (by decide) (by decide)) (g := (mkF m 335 #[iv p1, iv p2, iv p3, iv (3 : Int32), rv b255, rv b258, rv b261, rv b264, rv b267, iv ((((c0 * u1) * u2) + (c1 * u2)) + c2), iv ((u0 * u1) * u2), iv (1 : Int32), iv (1 : Int32), .unset] [(.int u0), (.int c0)])) rfl (by rw [hml]; rfl) (argsL := [(.int c0), (.int u0)]) (rest := []) (lenOf pd__II_Z_317 rfl) rfl (by show 2 * 0 + _ ≤ _; exact Nat.le_of_eq rfl) (hb hby at_335) (fun _ _ => ⟨rfl, e331, (by decide : 5 + 0 ≤ _), (by decide : 15 + 0 ≤ _)⟩)
    clear X331 e331
    dsimp only [Pt.U, Pt.locs, Pt.cells, Pt.slots] at X335 l335 y335 z335 st335 hQ335
    obtain rfl : k335 = (5 : Nat) := y335
    obtain rfl : n335 = (15 : Nat) := z335
    obtain ⟨rfl, N335q, e335⟩ := hQ335
    skip
    have N335 : Fr n0 L335 := by rw [l335]; exact Fr.app N334 N335q
    clear N334 l335 N335q
    refine own_st st335 ?_
    clear st335
    show own_Fin p e below G (T335.setTop (mkF m 338 #[iv p1, iv p2, iv p3, iv (3 : Int32), rv b255, rv b258, rv b261, rv b264, rv b267, iv ((((c0 * u1) * u2) + (c1 * u2)) + c2), iv ((u0 * u1) * u2), iv (1 : Int32), iv (1 : Int32), .unset] [(.int (1 : Int32))]))
    refine own_st (fun _ k => XS.ifNo X335.here hx rfl (hb hby at_338) rfl ((if0 _ _).trans (feq (by decide : ¬ ((1 : Int32) = (0 : Int32)))).1) k) ?_
    show own_Fin p e below G (T335.setTop (mkF m 341 #[iv p1, iv p2, iv p3, iv (3 : Int32), rv b255, rv b258, rv b261, rv b264, rv b267, iv ((((c0 * u1) * u2) + (c1 * u2)) + c2), iv ((u0 * u1) * u2), iv (1 : Int32), iv (1 : Int32), .unset] []))
    refine own_st (fun _ k => XS.aload X335.here hx rfl (hb hby at_341) rfl rfl k) ?_
    show own_Fin p e below G (T335.setTop (mkF m 343 #[iv p1, iv p2, iv p3, iv (3 : Int32), rv b255, rv b258, rv b261, rv b264, rv b267, iv ((((c0 * u1) * u2) + (c1 * u2)) + c2), iv ((u0 * u1) * u2), iv (1 : Int32), iv (1 : Int32), .unset] [(.ref b261)]))
    refine own_st (fun _ k => XS.iconst X335.here hx rfl (hb hby at_343) k) ?_
    show own_Fin p e below G (T335.setTop (mkF m 344 #[iv p1, iv p2, iv p3, iv (3 : Int32), rv b255, rv b258, rv b261, rv b264, rv b267, iv ((((c0 * u1) * u2) + (c1 * u2)) + c2), iv ((u0 * u1) * u2), iv (1 : Int32), iv (1 : Int32), .unset] [(.int (1 : Int32)), (.ref b261)]))
    refine own_st (fun _ k => own_ldI X335 hx hZ e335 V331 (j := (1 : Int32)) (n := 3) rfl (by decide) (g := (mkF m 344 #[iv p1, iv p2, iv p3, iv (3 : Int32), rv b255, rv b258, rv b261, rv b264, rv b267, iv ((((c0 * u1) * u2) + (c1 * u2)) + c2), iv ((u0 * u1) * u2), iv (1 : Int32), iv (1 : Int32), .unset] [(.int (1 : Int32)), (.ref b261)])) rfl rfl (hb hby at_344) k) ?_
    show own_Fin p e below G (T335.setTop (mkF m 345 #[iv p1, iv p2, iv p3, iv (3 : Int32), rv b255, rv b258, rv b261, rv b264, rv b267, iv ((((c0 * u1) * u2) + (c1 * u2)) + c2), iv ((u0 * u1) * u2), iv (1 : Int32), iv (1 : Int32), .unset] [(.int c1)]))
    refine own_st (fun _ k => XS.aload X335.here hx rfl (hb hby at_345) rfl rfl k) ?_
    show own_Fin p e below G (T335.setTop (mkF m 347 #[iv p1, iv p2, iv p3, iv (3 : Int32), rv b255, rv b258, rv b261, rv b264, rv b267, iv ((((c0 * u1) * u2) + (c1 * u2)) + c2), iv ((u0 * u1) * u2), iv (1 : Int32), iv (1 : Int32), .unset] [(.ref b255), (.int c1)]))
    refine own_st (fun _ k => XS.iconst X335.here hx rfl (hb hby at_347) k) ?_
    show own_Fin p e below G (T335.setTop (mkF m 348 #[iv p1, iv p2, iv p3, iv (3 : Int32), rv b255, rv b258, rv b261, rv b264, rv b267, iv ((((c0 * u1) * u2) + (c1 * u2)) + c2), iv ((u0 * u1) * u2), iv (1 : Int32), iv (1 : Int32), .unset] [(.int (1 : Int32)), (.ref b255), (.int c1)]))
    refine own_st (fun _ k => own_ldI X335 hx hZ e335 f332_0 (j := (1 : Int32)) (n := 3) rfl (by decide) (g := (mkF m 348 #[iv p1, iv p2, iv p3, iv (3 : Int32), rv b255, rv b258, rv b261, rv b264, rv b267, iv ((((c0 * u1) * u2) + (c1 * u2)) + c2), iv ((u0 * u1) * u2), iv (1 : Int32), iv (1 : Int32), .unset] [(.int (1 : Int32)), (.ref b255), (.int c1)])) rfl rfl (hb hby at_348) k) ?_
    show own_Fin p e below G (T335.setTop (mkF m 349 #[iv p1, iv p2, iv p3, iv (3 : Int32), rv b255, rv b258, rv b261, rv b264, rv b267, iv ((((c0 * u1) * u2) + (c1 * u2)) + c2), iv ((u0 * u1) * u2), iv (1 : Int32), iv (1 : Int32), .unset] [(.int u1), (.int c1)]))
    obtain ⟨_, _, ⟨T336, L336, k336, n336⟩, -, X336, ⟨Lc336, hQ336, l336, y336, z336⟩, st336⟩ := Jvm.LawKit.callS X335 hx (y := own_y2) hown (mvT hZ (own_w hw 12 rfl)) (mvT hZ (own_w hw 13 rfl)) (mvT hZ (own_w hw 3 rfl)) (mvT hZ (own_w hw 14 rfl)) (by decide) (backOf (W := 0) (rm_in l Z a0 hw [] c1 u1 h331 n0 (Nat.le_trans Z0 K333.1) (own_ge r_c1.1) (own_lt_of r_c1)) hZ (own_w hw 14 rfl) (own_w hw 3 rfl) (by decide) (by decide)) (g := (mkF m 349 #[iv p1, iv p2, iv p3, iv (3 : Int32), rv b255, rv b258, rv b261, rv b264, rv b267, iv ((((c0 * u1) * u2) + (c1 * u2)) + c2), iv ((u0 * u1) * u2), iv (1 : Int32), iv (1 : Int32), .unset] [(.int u1), (.int c1)])) rfl (by rw [hml]; rfl) (argsL := [(.int c1), (.int u1)]) (rest := []) (lenOf pd__II_Z_317 rfl) rfl (by show 2 * 0 + _ ≤ _; exact Nat.le_of_eq rfl) (hb hby at_349) (fun _ _ => ⟨rfl, e335, (by decide : 5 + 0 ≤ _), (by decide : 15 + 0 ≤ _)⟩)
    clear X335 e335
    dsimp only [Pt.U, Pt.locs, Pt.cells, Pt.slots] at X336 l336 y336 z336 st336 hQ336
    obtain rfl : k336 = (5 : Nat) := y336
    obtain rfl : n336 = (15 : Nat) := z336
    obtain ⟨rfl, N336q, e336⟩ := hQ336
    skip
    have N336 : Fr n0 L336 := by rw [l336]; exact Fr.app N335 N336q
    clear N335 l336 N336q
    refine own_st st336 ?_
    clear st336
    show own_Fin p e below G (T336.setTop (mkF m 352 #[iv p1, iv p2, iv p3, iv (3 : Int32), rv b255, rv b258, rv b261, rv b264, rv b267, iv ((((c0 * u1) * u2) + (c1 * u2)) + c2), iv ((u0 * u1) * u2), iv (1 : Int32), iv (1 : Int32), .unset] [(.int (1 : Int32))]))
    refine own_st (fun _ k => XS.ifNo X336.here hx rfl (hb hby at_352) rfl ((if0 _ _).trans (feq (by decide : ¬ ((1 : Int32) = (0 : Int32)))).1) k) ?_
    show own_Fin p e below G (T336.setTop (mkF m 355 #[iv p1, iv p2, iv p3, iv (3 : Int32), rv b255, rv b258, rv b261, rv b264, rv b267, iv ((((c0 * u1) * u2) + (c1 * u2)) + c2), iv ((u0 * u1) * u2), iv (1 : Int32), iv (1 : Int32), .unset] []))
    refine own_st (fun _ k => XS.aload X336.here hx rfl (hb hby at_355) rfl rfl k) ?_
    show own_Fin p e below G (T336.setTop (mkF m 357 #[iv p1, iv p2, iv p3, iv (3 : Int32), rv b255, rv b258, rv b261, rv b264, rv b267, iv ((((c0 * u1) * u2) + (c1 * u2)) + c2), iv ((u0 * u1) * u2), iv (1 : Int32), iv (1 : Int32), .unset] [(.ref b261)]))
    refine own_st (fun _ k => XS.iconst X336.here hx rfl (hb hby at_357) k) ?_
    show own_Fin p e below G (T336.setTop (mkF m 358 #[iv p1, iv p2, iv p3, iv (3 : Int32), rv b255, rv b258, rv b261, rv b264, rv b267, iv ((((c0 * u1) * u2) + (c1 * u2)) + c2), iv ((u0 * u1) * u2), iv (1 : Int32), iv (1 : Int32), .unset] [(.int (2 : Int32)), (.ref b261)]))
    refine own_st (fun _ k => own_ldI X336 hx hZ e336 V331 (j := (2 : Int32)) (n := 3) rfl (by decide) (g := (mkF m 358 #[iv p1, iv p2, iv p3, iv (3 : Int32), rv b255, rv b258, rv b261, rv b264, rv b267, iv ((((c0 * u1) * u2) + (c1 * u2)) + c2), iv ((u0 * u1) * u2), iv (1 : Int32), iv (1 : Int32), .unset] [(.int (2 : Int32)), (.ref b261)])) rfl rfl (hb hby at_358) k) ?_
    show own_Fin p e below G (T336.setTop (mkF m 359 #[iv p1, iv p2, iv p3, iv (3 : Int32), rv b255, rv b258, rv b261, rv b264, rv b267, iv ((((c0 * u1) * u2) + (c1 * u2)) + c2), iv ((u0 * u1) * u2), iv (1 : Int32), iv (1 : Int32), .unset] [(.int (c2 + (1 : Int32)))]))
    refine own_st (fun _ k => XS.aload X336.here hx rfl (hb hby at_359) rfl rfl k) ?_
    show own_Fin p e below G (T336.setTop (mkF m 361 #[iv p1, iv p2, iv p3, iv (3 : Int32), rv b255, rv b258, rv b261, rv b264, rv b267, iv ((((c0 * u1) * u2) + (c1 * u2)) + c2), iv ((u0 * u1) * u2), iv (1 : Int32), iv (1 : Int32), .unset] [(.ref b255), (.int (c2 + (1 : Int32)))]))
    refine own_st (fun _ k => XS.iconst X336.here hx rfl (hb hby at_361) k) ?_
    show own_Fin p e below G (T336.setTop (mkF m 362 #[iv p1, iv p2, iv p3, iv (3 : Int32), rv b255, rv b258, rv b261, rv b264, rv b267, iv ((((c0 * u1) * u2) + (c1 * u2)) + c2), iv ((u0 * u1) * u2), iv (1 : Int32), iv (1 : Int32), .unset] [(.int (2 : Int32)), (.ref b255), (.int (c2 + (1 : Int32)))]))
    refine own_st (fun _ k => own_ldI X336 hx hZ e336 f332_0 (j := (2 : Int32)) (n := 3) rfl (by decide) (g := (mkF m 362 #[iv p1, iv p2, iv p3, iv (3 : Int32), rv b255, rv b258, rv b261, rv b264, rv b267, iv ((((c0 * u1) * u2) + (c1 * u2)) + c2), iv ((u0 * u1) * u2), iv (1 : Int32), iv (1 : Int32), .unset] [(.int (2 : Int32)), (.ref b255), (.int (c2 + (1 : Int32)))])) rfl rfl (hb hby at_362) k) ?_
    show own_Fin p e below G (T336.setTop (mkF m 363 #[iv p1, iv p2, iv p3, iv (3 : Int32), rv b255, rv b258, rv b261, rv b264, rv b267, iv ((((c0 * u1) * u2) + (c1 * u2)) + c2), iv ((u0 * u1) * u2), iv (1 : Int32), iv (1 : Int32), .unset] [(.int u2), (.int (c2 + (1 : Int32)))]))
    obtain ⟨_, _, ⟨T337, L337, k337, n337⟩, -, X337, ⟨Lc337, hQ337, l337, y337, z337⟩, st337⟩ := Jvm.LawKit.callS X336 hx (y := own_y2) hown (mvT hZ (own_w hw 12 rfl)) (mvT hZ (own_w hw 13 rfl)) (mvT hZ (own_w hw 3 rfl)) (mvT hZ (own_w hw 14 rfl)) (by decide) (backOf (W := 0) (rm_in l Z a0 hw [] (c2 + (1 : Int32)) u2 h331 n0 (Nat.le_trans Z0 K333.1) (own_g1 r_c2 r_u2) d0) hZ (own_w hw 14 rfl) (own_w hw 3 rfl) (by decide) (by decide)) (g := (mkF m 363 #[iv p1, iv p2, iv p3, iv (3 : Int32), rv b255, rv b258, rv b261, rv b264, rv b267, iv ((((c0 * u1) * u2) + (c1 * u2)) + c2), iv ((u0 * u1) * u2), iv (1 : Int32), iv (1 : Int32), .unset] [(.int u2), (.int (c2 + (1 : Int32)))])) rfl (by rw [hml]; rfl) (argsL := [(.int (c2 + (1 : Int32))), (.int u2)]) (rest := []) (lenOf pd__II_Z_317 rfl) rfl (by show 2 * 0 + _ ≤ _; exact Nat.le_of_eq rfl) (hb hby at_363) (fun _ _ => ⟨rfl, e336, (by decide : 5 + 0 ≤ _), (by decide : 15 + 0 ≤ _)⟩)
    clear X336 e336
    dsimp only [Pt.U, Pt.locs, Pt.cells, Pt.slots] at X337 l337 y337 z337 st337 hQ337
    obtain rfl : k337 = (5 : Nat) := y337
    obtain rfl : n337 = (15 : Nat) := z337
    obtain ⟨rfl, N337q, e337⟩ := hQ337
    skip
    have N337 : Fr n0 L337 := by rw [l337]; exact Fr.app N336 N337q
    clear N336 l337 N337q
    refine own_st st337 ?_
    clear st337
    show own_Fin p e below G (T337.setTop (mkF m 366 #[iv p1, iv p2, iv p3, iv (3 : Int32), rv b255, rv b258, rv b261, rv b264, rv b267, iv ((((c0 * u1) * u2) + (c1 * u2)) + c2), iv ((u0 * u1) * u2), iv (1 : Int32), iv (1 : Int32), .unset] [(.int (1 : Int32))]))
    refine own_st (fun _ k => XS.ifNo X337.here hx rfl (hb hby at_366) rfl ((if0 _ _).trans (feq (by decide : ¬ ((1 : Int32) = (0 : Int32)))).1) k) ?_
    show own_Fin p e below G (T337.setTop (mkF m 369 #[iv p1, iv p2, iv p3, iv (3 : Int32), rv b255, rv b258, rv b261, rv b264, rv b267, iv ((((c0 * u1) * u2) + (c1 * u2)) + c2), iv ((u0 * u1) * u2), iv (1 : Int32), iv (1 : Int32), .unset] []))
    refine own_st (fun _ k => XS.iconst X337.here hx rfl (hb hby at_369) k) ?_
    show own_Fin p e below G (T337.setTop (mkF m 370 #[iv p1, iv p2, iv p3, iv (3 : Int32), rv b255, rv b258, rv b261, rv b264, rv b267, iv ((((c0 * u1) * u2) + (c1 * u2)) + c2), iv ((u0 * u1) * u2), iv (1 : Int32), iv (1 : Int32), .unset] [(.int (1 : Int32))]))
    refine own_st (fun _ k => XS.goto X337.here hx rfl (pc0 := 370) (pc' := 374) rfl (hb hby at_370) (by decide) (by decide) k) ?_
    show own_Fin p e below G (T337.setTop (mkF m 374 #[iv p1, iv p2, iv p3, iv (3 : Int32), rv b255, rv b258, rv b261, rv b264, rv b267, iv ((((c0 * u1) * u2) + (c1 * u2)) + c2), iv ((u0 * u1) * u2), iv (1 : Int32), iv (1 : Int32), .unset] [(.int (1 : Int32))]))
    refine own_st (fun _ k => XS.istore X337.here hx rfl (hb hby at_374) rfl (l' := #[iv p1, iv p2, iv p3, iv (3 : Int32), rv b255, rv b258, rv b261, rv b264, rv b267, iv ((((c0 * u1) * u2) + (c1 * u2)) + c2), iv ((u0 * u1) * u2), iv (1 : Int32), iv (1 : Int32), iv (1 : Int32)]) rfl k) ?_
    show own_Fin p e below G (T337.setTop (mkF m 376 #[iv p1, iv p2, iv p3, iv (3 : Int32), rv b255, rv b258, rv b261, rv b264, rv b267, iv ((((c0 * u1) * u2) + (c1 * u2)) + c2), iv ((u0 * u1) * u2), iv (1 : Int32), iv (1 : Int32), iv (1 : Int32)] []))
    refine own_st (fun _ k => XS.iload X337.here hx rfl (hb hby at_376) rfl  k) ?_
    show own_Fin p e below G (T337.setTop (mkF m 378 #[iv p1, iv p2, iv p3, iv (3 : Int32), rv b255, rv b258, rv b261, rv b264, rv b267, iv ((((c0 * u1) * u2) + (c1 * u2)) + c2), iv ((u0 * u1) * u2), iv (1 : Int32), iv (1 : Int32), iv (1 : Int32)] [(.int (1 : Int32))]))
    refine own_st (fun _ k => XS.ifNo X337.here hx rfl (hb hby at_378) rfl ((if0 _ _).trans (feq (by decide : ¬ ((1 : Int32) = (0 : Int32)))).1) k) ?_
    show own_Fin p e below G (T337.setTop (mkF m 381 #[iv p1, iv p2, iv p3, iv (3 : Int32), rv b255, rv b258, rv b261, rv b264, rv b267, iv ((((c0 * u1) * u2) + (c1 * u2)) + c2), iv ((u0 * u1) * u2), iv (1 : Int32), iv (1 : Int32), iv (1 : Int32)] []))
    refine own_st (fun _ k => XS.iload X337.here hx rfl (hb hby at_381) rfl  k) ?_
    show own_Fin p e below G (T337.setTop (mkF m 383 #[iv p1, iv p2, iv p3, iv (3 : Int32), rv b255, rv b258, rv b261, rv b264, rv b267, iv ((((c0 * u1) * u2) + (c1 * u2)) + c2), iv ((u0 * u1) * u2), iv (1 : Int32), iv (1 : Int32), iv (1 : Int32)] [(.int (1 : Int32))]))
    refine own_st (fun _ k => XS.ifNo X337.here hx rfl (hb hby at_383) rfl ((if0 _ _).trans (feq (by decide : ¬ ((1 : Int32) = (0 : Int32)))).1) k) ?_
    show own_Fin p e below G (T337.setTop (mkF m 386 #[iv p1, iv p2, iv p3, iv (3 : Int32), rv b255, rv b258, rv b261, rv b264, rv b267, iv ((((c0 * u1) * u2) + (c1 * u2)) + c2), iv ((u0 * u1) * u2), iv (1 : Int32), iv (1 : Int32), iv (1 : Int32)] []))
    refine own_st (fun _ k => XS.iloadN X337.here hx rfl (hb hby at_386) rfl  k) ?_
    show own_Fin p e below G (T337.setTop (mkF m 387 #[iv p1, iv p2, iv p3, iv (3 : Int32), rv b255, rv b258, rv b261, rv b264, rv b267, iv ((((c0 * u1) * u2) + (c1 * u2)) + c2), iv ((u0 * u1) * u2), iv (1 : Int32), iv (1 : Int32), iv (1 : Int32)] [(.int (3 : Int32))]))
    refine own_st (fun _ k => XS.aload X337.here hx rfl (hb hby at_387) rfl rfl k) ?_
    show own_Fin p e below G (T337.setTop (mkF m 389 #[iv p1, iv p2, iv p3, iv (3 : Int32), rv b255, rv b258, rv b261, rv b264, rv b267, iv ((((c0 * u1) * u2) + (c1 * u2)) + c2), iv ((u0 * u1) * u2), iv (1 : Int32), iv (1 : Int32), iv (1 : Int32)] [(.ref b261), (.int (3 : Int32))]))
    refine own_st (fun _ k => XS.aload X337.here hx rfl (hb hby at_389) rfl rfl k) ?_
    show own_Fin p e below G (T337.setTop (mkF m 391 #[iv p1, iv p2, iv p3, iv (3 : Int32), rv b255, rv b258, rv b261, rv b264, rv b267, iv ((((c0 * u1) * u2) + (c1 * u2)) + c2), iv ((u0 * u1) * u2), iv (1 : Int32), iv (1 : Int32), iv (1 : Int32)] [(.ref b255), (.ref b261), (.int (3 : Int32))]))
    obtain ⟨_, _, ⟨T338, L338, k338, n338⟩, -, X338, ⟨Lc338, hQ338, l338, y338, z338⟩, st338⟩ := Jvm.LawKit.callS X337 hx (y := own_y0) hown (mvT hZ (own_w hw 1 rfl)) (mvT hZ (own_w hw 2 rfl)) (mvT hZ (own_w hw 3 rfl)) (mvT hZ (own_w hw 4 rfl)) (by decide) (backOf (W := 0) (rm_v3 l Z a0 hw [] b261 b255 c0 c1 (c2 + (1 : Int32)) u0 u1 u2 h331 n0 (Nat.le_trans Z0 K333.1) V331 f332_0) hZ (own_w hw 4 rfl) (own_w hw 3 rfl) (by decide) (by decide)) (g := (mkF m 391 #[iv p1, iv p2, iv p3, iv (3 : Int32), rv b255, rv b258, rv b261, rv b264, rv b267, iv ((((c0 * u1) * u2) + (c1 * u2)) + c2), iv ((u0 * u1) * u2), iv (1 : Int32), iv (1 : Int32), iv (1 : Int32)] [(.ref b255), (.ref b261), (.int (3 : Int32))])) rfl (by rw [hml]; rfl) (argsL := [(.int (3 : Int32)), (.ref b261), (.ref b255)]) (rest := []) (lenOf pd__I_I_I_I_555 rfl) rfl (by show 2 * 0 + _ ≤ _; exact Nat.le_of_eq rfl) (hb hby at_391) (fun _ _ => ⟨rfl, e337, (by decide : 5 + 0 ≤ _), (by decide : 15 + 0 ≤ _)⟩)
    clear V331 f332_0 K333 X337 e337
    dsimp only [Pt.U, Pt.locs, Pt.cells, Pt.slots] at X338 l338 y338 z338 st338 hQ338
    obtain rfl : k338 = (5 : Nat) := y338
    obtain rfl : n338 = (15 : Nat) := z338
    obtain ⟨rfl, N338q, e338⟩ := hQ338
    clear e338
    skip
    have N338 : Fr n0 L338 := by rw [l338]; exact Fr.app N337 N338q
    clear N337 l338 N338q
    refine own_st st338 ?_
    clear st338
    show own_Fin p e below G (T338.setTop (mkF m 394 #[iv p1, iv p2, iv p3, iv (3 : Int32), rv b255, rv b258, rv b261, rv b264, rv b267, iv ((((c0 * u1) * u2) + (c1 * u2)) + c2), iv ((u0 * u1) * u2), iv (1 : Int32), iv (1 : Int32), iv (1 : Int32)] [(.int ((((c0 * u1) * u2) + (c1 * u2)) + (c2 + (1 : Int32))))]))
    refine own_st (fun _ k => XS.iload X338.here hx rfl (hb hby at_394) rfl  k) ?_
    show own_Fin p e below G (T338.setTop (mkF m 396 #[iv p1, iv p2, iv p3, iv (3 : Int32), rv b255, rv b258, rv b261, rv b264, rv b267, iv ((((c0 * u1) * u2) + (c1 * u2)) + c2), iv ((u0 * u1) * u2), iv (1 : Int32), iv (1 : Int32), iv (1 : Int32)] [(.int ((((c0 * u1) * u2) + (c1 * u2)) + c2)), (.int ((((c0 * u1) * u2) + (c1 * u2)) + (c2 + (1 : Int32))))]))
    refine own_st (fun _ k => XS.iconst X338.here hx rfl (hb hby at_396) k) ?_
    show own_Fin p e below G (T338.setTop (mkF m 397 #[iv p1, iv p2, iv p3, iv (3 : Int32), rv b255, rv b258, rv b261, rv b264, rv b267, iv ((((c0 * u1) * u2) + (c1 * u2)) + c2), iv ((u0 * u1) * u2), iv (1 : Int32), iv (1 : Int32), iv (1 : Int32)] [(.int (1 : Int32)), (.int ((((c0 * u1) * u2) + (c1 * u2)) + c2)), (.int ((((c0 * u1) * u2) + (c1 * u2)) + (c2 + (1 : Int32))))]))
    refine own_st (fun _ k => XS.iadd X338.here hx rfl (hb hby at_397) rfl k) ?_
    show own_Fin p e below G (T338.setTop (mkF m 398 #[iv p1, iv p2, iv p3, iv (3 : Int32), rv b255, rv b258, rv b261, rv b264, rv b267, iv ((((c0 * u1) * u2) + (c1 * u2)) + c2), iv ((u0 * u1) * u2), iv (1 : Int32), iv (1 : Int32), iv (1 : Int32)] [(.int (((((c0 * u1) * u2) + (c1 * u2)) + c2) + (1 : Int32))), (.int ((((c0 * u1) * u2) + (c1 * u2)) + (c2 + (1 : Int32))))]))
    refine own_st (fun _ k => XS.icmpNo X338.here hx rfl (hb hby at_398) rfl (teq (own_w3a r_c0 r_c1 r_c2 r_u0 r_u1 r_u2 d0).2).2 k) ?_
    show own_Fin p e below G (T338.setTop (mkF m 401 #[iv p1, iv p2, iv p3, iv (3 : Int32), rv b255, rv b258, rv b261, rv b264, rv b267, iv ((((c0 * u1) * u2) + (c1 * u2)) + c2), iv ((u0 * u1) * u2), iv (1 : Int32), iv (1 : Int32), iv (1 : Int32)] []))
    refine own_st (fun _ k => XS.iconst X338.here hx rfl (hb hby at_401) k) ?_
    show own_Fin p e below G (T338.setTop (mkF m 402 #[iv p1, iv p2, iv p3, iv (3 : Int32), rv b255, rv b258, rv b261, rv b264, rv b267, iv ((((c0 * u1) * u2) + (c1 * u2)) + c2), iv ((u0 * u1) * u2), iv (1 : Int32), iv (1 : Int32), iv (1 : Int32)] [(.int (1 : Int32))]))
    refine own_st (fun _ k => XS.goto X338.here hx rfl (pc0 := 402) (pc' := 406) rfl (hb hby at_402) (by decide) (by decide) k) ?_
    show own_Fin p e below G (T338.setTop (mkF m 406 #[iv p1, iv p2, iv p3, iv (3 : Int32), rv b255, rv b258, rv b261, rv b264, rv b267, iv ((((c0 * u1) * u2) + (c1 * u2)) + c2), iv ((u0 * u1) * u2), iv (1 : Int32), iv (1 : Int32), iv (1 : Int32)] [(.int (1 : Int32))]))
    refine own_out X338 Bd.notSynchronized (v := (some (.int (1 : Int32)))) (fun h => by rw [Bd.returns] at h; cases h) hG (fun fs hr => retN X338 hx (t := .boolean) Bd.returns (by simp) (hb hby at_406) hr) (by decide) (by decide) ?_
    exact ⟨rfl, N338⟩
  · show own_Fin p e below G (T320.setTop (mkF m 199 #[iv p1, iv p2, iv p3, iv (3 : Int32), rv b255, rv b258, rv b261, rv b264, rv b267, iv ((((c0 * u1) * u2) + (c1 * u2)) + c2), iv ((u0 * u1) * u2), .unset, .unset, .unset] [(.int (1 : Int32))]))
    refine own_st (fun _ k => XS.istore X320.here hx rfl (hb hby at_199) rfl (l' := #[iv p1, iv p2, iv p3, iv (3 : Int32), rv b255, rv b258, rv b261, rv b264, rv b267, iv ((((c0 * u1) * u2) + (c1 * u2)) + c2), iv ((u0 * u1) * u2), iv (1 : Int32), .unset, .unset]) rfl k) ?_
    show own_Fin p e below G (T320.setTop (mkF m 201 #[iv p1, iv p2, iv p3, iv (3 : Int32), rv b255, rv b258, rv b261, rv b264, rv b267, iv ((((c0 * u1) * u2) + (c1 * u2)) + c2), iv ((u0 * u1) * u2), iv (1 : Int32), .unset, .unset] []))
    refine own_st (fun _ k => XS.iconst X320.here hx rfl (hb hby at_201) k) ?_
    show own_Fin p e below G (T320.setTop (mkF m 202 #[iv p1, iv p2, iv p3, iv (3 : Int32), rv b255, rv b258, rv b261, rv b264, rv b267, iv ((((c0 * u1) * u2) + (c1 * u2)) + c2), iv ((u0 * u1) * u2), iv (1 : Int32), .unset, .unset] [(.int (1 : Int32))]))
    refine own_st (fun _ k => XS.istore X320.here hx rfl (hb hby at_202) rfl (l' := #[iv p1, iv p2, iv p3, iv (3 : Int32), rv b255, rv b258, rv b261, rv b264, rv b267, iv ((((c0 * u1) * u2) + (c1 * u2)) + c2), iv ((u0 * u1) * u2), iv (1 : Int32), iv (1 : Int32), .unset]) rfl k) ?_
    show own_Fin p e below G (T320.setTop (mkF m 204 #[iv p1, iv p2, iv p3, iv (3 : Int32), rv b255, rv b258, rv b261, rv b264, rv b267, iv ((((c0 * u1) * u2) + (c1 * u2)) + c2), iv ((u0 * u1) * u2), iv (1 : Int32), iv (1 : Int32), .unset] []))
    refine own_st (fun _ k => XS.iloadN X320.here hx rfl (hb hby at_204) rfl  k) ?_
    show own_Fin p e below G (T320.setTop (mkF m 205 #[iv p1, iv p2, iv p3, iv (3 : Int32), rv b255, rv b258, rv b261, rv b264, rv b267, iv ((((c0 * u1) * u2) + (c1 * u2)) + c2), iv ((u0 * u1) * u2), iv (1 : Int32), iv (1 : Int32), .unset] [(.int (3 : Int32))]))
    refine own_st (fun _ k => XS.ifNo X320.here hx rfl (hb hby at_205) rfl ((if0 _ _).trans (tlt (by decide : ((0 : Int32) < (3 : Int32)))).2.2.2) k) ?_
    show own_Fin p e below G (T320.setTop (mkF m 208 #[iv p1, iv p2, iv p3, iv (3 : Int32), rv b255, rv b258, rv b261, rv b264, rv b267, iv ((((c0 * u1) * u2) + (c1 * u2)) + c2), iv ((u0 * u1) * u2), iv (1 : Int32), iv (1 : Int32), .unset] []))
    refine own_st (fun _ k => XS.aload X320.here hx rfl (hb hby at_208) rfl rfl k) ?_
    show own_Fin p e below G (T320.setTop (mkF m 210 #[iv p1, iv p2, iv p3, iv (3 : Int32), rv b255, rv b258, rv b261, rv b264, rv b267, iv ((((c0 * u1) * u2) + (c1 * u2)) + c2), iv ((u0 * u1) * u2), iv (1 : Int32), iv (1 : Int32), .unset] [(.ref b261)]))
    refine own_st (fun _ k => XS.iconst X320.here hx rfl (hb hby at_210) k) ?_
    show own_Fin p e below G (T320.setTop (mkF m 211 #[iv p1, iv p2, iv p3, iv (3 : Int32), rv b255, rv b258, rv b261, rv b264, rv b267, iv ((((c0 * u1) * u2) + (c1 * u2)) + c2), iv ((u0 * u1) * u2), iv (1 : Int32), iv (1 : Int32), .unset] [(.int (0 : Int32)), (.ref b261)]))
    refine own_st (fun _ k => XS.aload X320.here hx rfl (hb hby at_211) rfl rfl k) ?_
    show own_Fin p e below G (T320.setTop (mkF m 213 #[iv p1, iv p2, iv p3, iv (3 : Int32), rv b255, rv b258, rv b261, rv b264, rv b267, iv ((((c0 * u1) * u2) + (c1 * u2)) + c2), iv ((u0 * u1) * u2), iv (1 : Int32), iv (1 : Int32), .unset] [(.ref b267), (.int (0 : Int32)), (.ref b261)]))
    refine own_st (fun _ k => XS.iconst X320.here hx rfl (hb hby at_213) k) ?_
    show own_Fin p e below G (T320.setTop (mkF m 214 #[iv p1, iv p2, iv p3, iv (3 : Int32), rv b255, rv b258, rv b261, rv b264, rv b267, iv ((((c0 * u1) * u2) + (c1 * u2)) + c2), iv ((u0 * u1) * u2), iv (1 : Int32), iv (1 : Int32), .unset] [(.int (0 : Int32)), (.ref b267), (.int (0 : Int32)), (.ref b261)]))
    refine own_st (fun _ k => own_ldI X320 hx hZ rfl gA320 (j := (0 : Int32)) (n := 3) rfl (by decide) (g := (mkF m 214 #[iv p1, iv p2, iv p3, iv (3 : Int32), rv b255, rv b258, rv b261, rv b264, rv b267, iv ((((c0 * u1) * u2) + (c1 * u2)) + c2), iv ((u0 * u1) * u2), iv (1 : Int32), iv (1 : Int32), .unset] [(.int (0 : Int32)), (.ref b267), (.int (0 : Int32)), (.ref b261)])) rfl rfl (hb hby at_214) k) ?_
    show own_Fin p e below G (T320.setTop (mkF m 215 #[iv p1, iv p2, iv p3, iv (3 : Int32), rv b255, rv b258, rv b261, rv b264, rv b267, iv ((((c0 * u1) * u2) + (c1 * u2)) + c2), iv ((u0 * u1) * u2), iv (1 : Int32), iv (1 : Int32), .unset] [(.int c0), (.int (0 : Int32)), (.ref b261)]))
    obtain ⟨T339, h339, X339, e339, W339, V339, st339⟩ := own_stI X320 hx hZ rfl f321_2 (j := (0 : Int32)) (n := 3) rfl (by decide) (g := (mkF m 215 #[iv p1, iv p2, iv p3, iv (3 : Int32), rv b255, rv b258, rv b261, rv b264, rv b267, iv ((((c0 * u1) * u2) + (c1 * u2)) + c2), iv ((u0 * u1) * u2), iv (1 : Int32), iv (1 : Int32), .unset] [(.int c0), (.int (0 : Int32)), (.ref b261)])) rfl rfl (hb hby at_215)
    have f340_0 := f321_0.other W339 ne_b255_b261
    have f340_1 := f321_1.other W339 ne_b258_b261
    have f340_3 := f321_3.other W339 (Ne.symm ne_b261_b264)
    have f340_4 := gA320.other W339 (Ne.symm ne_b261_b267)
    have K341 : Keep h0 h339 [] := K322.wr W339 (Or.inr sz_b261)
    clear W339
    have N342 := Fr.snoc X339 N320 g_b261
    replace V339 : own_AV Z h339 b261 .int (own_is [c0, (0 : Int32), (0 : Int32)]) := V339
    refine own_st st339 ?_
    clear st339
    show own_Fin p e below G (T339.setTop (mkF m 216 #[iv p1, iv p2, iv p3, iv (3 : Int32), rv b255, rv b258, rv b261, rv b264, rv b267, iv ((((c0 * u1) * u2) + (c1 * u2)) + c2), iv ((u0 * u1) * u2), iv (1 : Int32), iv (1 : Int32), .unset] []))
    refine own_st (fun _ k => XS.iload X339.here hx rfl (hb hby at_216) rfl  k) ?_
    show own_Fin p e below G (T339.setTop (mkF m 218 #[iv p1, iv p2, iv p3, iv (3 : Int32), rv b255, rv b258, rv b261, rv b264, rv b267, iv ((((c0 * u1) * u2) + (c1 * u2)) + c2), iv ((u0 * u1) * u2), iv (1 : Int32), iv (1 : Int32), .unset] [(.int (1 : Int32))]))
    refine own_st (fun _ k => XS.ifNo X339.here hx rfl (hb hby at_218) rfl ((if0 _ _).trans (feq (by decide : ¬ ((1 : Int32) = (0 : Int32)))).1) k) ?_
    show own_Fin p e below G (T339.setTop (mkF m 221 #[iv p1, iv p2, iv p3, iv (3 : Int32), rv b255, rv b258, rv b261, rv b264, rv b267, iv ((((c0 * u1) * u2) + (c1 * u2)) + c2), iv ((u0 * u1) * u2), iv (1 : Int32), iv (1 : Int32), .unset] []))
    refine own_st (fun _ k => XS.aload X339.here hx rfl (hb hby at_221) rfl rfl k) ?_
    show own_Fin p e below G (T339.setTop (mkF m 223 #[iv p1, iv p2, iv p3, iv (3 : Int32), rv b255, rv b258, rv b261, rv b264, rv b267, iv ((((c0 * u1) * u2) + (c1 * u2)) + c2), iv ((u0 * u1) * u2), iv (1 : Int32), iv (1 : Int32), .unset] [(.ref b264)]))
    refine own_st (fun _ k => XS.iconst X339.here hx rfl (hb hby at_223) k) ?_
    show own_Fin p e below G (T339.setTop (mkF m 224 #[iv p1, iv p2, iv p3, iv (3 : Int32), rv b255, rv b258, rv b261, rv b264, rv b267, iv ((((c0 * u1) * u2) + (c1 * u2)) + c2), iv ((u0 * u1) * u2), iv (1 : Int32), iv (1 : Int32), .unset] [(.int (0 : Int32)), (.ref b264)]))
    refine own_st (fun _ k => own_ldI X339 hx hZ e339 f340_3 (j := (0 : Int32)) (n := 3) rfl (by decide) (g := (mkF m 224 #[iv p1, iv p2, iv p3, iv (3 : Int32), rv b255, rv b258, rv b261, rv b264, rv b267, iv ((((c0 * u1) * u2) + (c1 * u2)) + c2), iv ((u0 * u1) * u2), iv (1 : Int32), iv (1 : Int32), .unset] [(.int (0 : Int32)), (.ref b264)])) rfl rfl (hb hby at_224) k) ?_
    show own_Fin p e below G (T339.setTop (mkF m 225 #[iv p1, iv p2, iv p3, iv (3 : Int32), rv b255, rv b258, rv b261, rv b264, rv b267, iv ((((c0 * u1) * u2) + (c1 * u2)) + c2), iv ((u0 * u1) * u2), iv (1 : Int32), iv (1 : Int32), .unset] [(.int u0)]))
    refine own_st (fun _ k => XS.aload X339.here hx rfl (hb hby at_225) rfl rfl k) ?_
    show own_Fin p e below G (T339.setTop (mkF m 227 #[iv p1, iv p2, iv p3, iv (3 : Int32), rv b255, rv b258, rv b261, rv b264, rv b267, iv ((((c0 * u1) * u2) + (c1 * u2)) + c2), iv ((u0 * u1) * u2), iv (1 : Int32), iv (1 : Int32), .unset] [(.ref b255), (.int u0)]))
    refine own_st (fun _ k => XS.iconst X339.here hx rfl (hb hby at_227) k) ?_
    show own_Fin p e below G (T339.setTop (mkF m 228 #[iv p1, iv p2, iv p3, iv (3 : Int32), rv b255, rv b258, rv b261, rv b264, rv b267, iv ((((c0 * u1) * u2) + (c1 * u2)) + c2), iv ((u0 * u1) * u2), iv (1 : Int32), iv (1 : Int32), .unset] [(.int (0 : Int32)), (.ref b255), (.int u0)]))
    refine own_st (fun _ k => own_ldI X339 hx hZ e339 f340_0 (j := (0 : Int32)) (n := 3) rfl (by decide) (g := (mkF m 228 #[iv p1, iv p2, iv p3, iv (3 : Int32), rv b255, rv b258, rv b261, rv b264, rv b267, iv ((((c0 * u1) * u2) + (c1 * u2)) + c2), iv ((u0 * u1) * u2), iv (1 : Int32), iv (1 : Int32), .unset] [(.int (0 : Int32)), (.ref b255), (.int u0)])) rfl rfl (hb hby at_228) k) ?_
    show own_Fin p e below G (T339.setTop (mkF m 229 #[iv p1, iv p2, iv p3, iv (3 : Int32), rv b255, rv b258, rv b261, rv b264, rv b267, iv ((((c0 * u1) * u2) + (c1 * u2)) + c2), iv ((u0 * u1) * u2), iv (1 : Int32), iv (1 : Int32), .unset] [(.int u0), (.int u0)]))
    refine own_st (fun _ k => XS.icmpNo X339.here hx rfl (hb hby at_229) rfl (teq (rfl : u0 = u0)).2 k) ?_
    show own_Fin p e below G (T339.setTop (mkF m 232 #[iv p1, iv p2, iv p3, iv (3 : Int32), rv b255, rv b258, rv b261, rv b264, rv b267, iv ((((c0 * u1) * u2) + (c1 * u2)) + c2), iv ((u0 * u1) * u2), iv (1 : Int32), iv (1 : Int32), .unset] []))
    refine own_st (fun _ k => XS.iconst X339.here hx rfl (hb hby at_232) k) ?_
    show own_Fin p e below G (T339.setTop (mkF m 233 #[iv p1, iv p2, iv p3, iv (3 : Int32), rv b255, rv b258, rv b261, rv b264, rv b267, iv ((((c0 * u1) * u2) + (c1 * u2)) + c2), iv ((u0 * u1) * u2), iv (1 : Int32), iv (1 : Int32), .unset] [(.int (1 : Int32))]))
    refine own_st (fun _ k => XS.goto X339.here hx rfl (pc0 := 233) (pc' := 237) rfl (hb hby at_233) (by decide) (by decide) k) ?_
    show own_Fin p e below G (T339.setTop (mkF m 237 #[iv p1, iv p2, iv p3, iv (3 : Int32), rv b255, rv b258, rv b261, rv b264, rv b267, iv ((((c0 * u1) * u2) + (c1 * u2)) + c2), iv ((u0 * u1) * u2), iv (1 : Int32), iv (1 : Int32), .unset] [(.int (1 : Int32))]))
    refine own_st (fun _ k => XS.istore X339.here hx rfl (hb hby at_237) rfl (l' := #[iv p1, iv p2, iv p3, iv (3 : Int32), rv b255, rv b258, rv b261, rv b264, rv b267, iv ((((c0 * u1) * u2) + (c1 * u2)) + c2), iv ((u0 * u1) * u2), iv (1 : Int32), iv (1 : Int32), .unset]) rfl k) ?_
    show own_Fin p e below G (T339.setTop (mkF m 239 #[iv p1, iv p2, iv p3, iv (3 : Int32), rv b255, rv b258, rv b261, rv b264, rv b267, iv ((((c0 * u1) * u2) + (c1 * u2)) + c2), iv ((u0 * u1) * u2), iv (1 : Int32), iv (1 : Int32), .unset] []))
    refine own_st (fun _ k => XS.iloadN X339.here hx rfl (hb hby at_239) rfl  k) ?_
    show own_Fin p e below G (T339.setTop (mkF m 240 #[iv p1, iv p2, iv p3, iv (3 : Int32), rv b255, rv b258, rv b261, rv b264, rv b267, iv ((((c0 * u1) * u2) + (c1 * u2)) + c2), iv ((u0 * u1) * u2), iv (1 : Int32), iv (1 : Int32), .unset] [(.int (3 : Int32))]))
    refine own_st (fun _ k => XS.iconst X339.here hx rfl (hb hby at_240) k) ?_
    show own_Fin p e below G (T339.setTop (mkF m 241 #[iv p1, iv p2, iv p3, iv (3 : Int32), rv b255, rv b258, rv b261, rv b264, rv b267, iv ((((c0 * u1) * u2) + (c1 * u2)) + c2), iv ((u0 * u1) * u2), iv (1 : Int32), iv (1 : Int32), .unset] [(.int (1 : Int32)), (.int (3 : Int32))]))
    refine own_st (fun _ k => XS.icmpNo X339.here hx rfl (hb hby at_241) rfl (tlt (by decide : ((1 : Int32) < (3 : Int32)))).2.2.2 k) ?_
    show own_Fin p e below G (T339.setTop (mkF m 244 #[iv p1, iv p2, iv p3, iv (3 : Int32), rv b255, rv b258, rv b261, rv b264, rv b267, iv ((((c0 * u1) * u2) + (c1 * u2)) + c2), iv ((u0 * u1) * u2), iv (1 : Int32), iv (1 : Int32), .unset] []))
    refine own_st (fun _ k => XS.aload X339.here hx rfl (hb hby at_244) rfl rfl k) ?_
    show own_Fin p e below G (T339.setTop (mkF m 246 #[iv p1, iv p2, iv p3, iv (3 : Int32), rv b255, rv b258, rv b261, rv b264, rv b267, iv ((((c0 * u1) * u2) + (c1 * u2)) + c2), iv ((u0 * u1) * u2), iv (1 : Int32), iv (1 : Int32), .unset] [(.ref b261)]))
    refine own_st (fun _ k => XS.iconst X339.here hx rfl (hb hby at_246) k) ?_
    show own_Fin p e below G (T339.setTop (mkF m 247 #[iv p1, iv p2, iv p3, iv (3 : Int32), rv b255, rv b258, rv b261, rv b264, rv b267, iv ((((c0 * u1) * u2) + (c1 * u2)) + c2), iv ((u0 * u1) * u2), iv (1 : Int32), iv (1 : Int32), .unset] [(.int (1 : Int32)), (.ref b261)]))
    refine own_st (fun _ k => XS.aload X339.here hx rfl (hb hby at_247) rfl rfl k) ?_
    show own_Fin p e below G (T339.setTop (mkF m 249 #[iv p1, iv p2, iv p3, iv (3 : Int32), rv b255, rv b258, rv b261, rv b264, rv b267, iv ((((c0 * u1) * u2) + (c1 * u2)) + c2), iv ((u0 * u1) * u2), iv (1 : Int32), iv (1 : Int32), .unset] [(.ref b267), (.int (1 : Int32)), (.ref b261)]))
    refine own_st (fun _ k => XS.iconst X339.here hx rfl (hb hby at_249) k) ?_
    show own_Fin p e below G (T339.setTop (mkF m 250 #[iv p1, iv p2, iv p3, iv (3 : Int32), rv b255, rv b258, rv b261, rv b264, rv b267, iv ((((c0 * u1) * u2) + (c1 * u2)) + c2), iv ((u0 * u1) * u2), iv (1 : Int32), iv (1 : Int32), .unset] [(.int (1 : Int32)), (.ref b267), (.int (1 : Int32)), (.ref b261)]))
    refine own_st (fun _ k => own_ldI X339 hx hZ e339 f340_4 (j := (1 : Int32)) (n := 3) rfl (by decide) (g := (mkF m 250 #[iv p1, iv p2, iv p3, iv (3 : Int32), rv b255, rv b258, rv b261, rv b264, rv b267, iv ((((c0 * u1) * u2) + (c1 * u2)) + c2), iv ((u0 * u1) * u2), iv (1 : Int32), iv (1 : Int32), .unset] [(.int (1 : Int32)), (.ref b267), (.int (1 : Int32)), (.ref b261)])) rfl rfl (hb hby at_250) k) ?_
    show own_Fin p e below G (T339.setTop (mkF m 251 #[iv p1, iv p2, iv p3, iv (3 : Int32), rv b255, rv b258, rv b261, rv b264, rv b267, iv ((((c0 * u1) * u2) + (c1 * u2)) + c2), iv ((u0 * u1) * u2), iv (1 : Int32), iv (1 : Int32), .unset] [(.int (c1 + (1 : Int32))), (.int (1 : Int32)), (.ref b261)]))
    obtain ⟨T343, h343, X343, e343, W343, V343, st343⟩ := own_stI X339 hx hZ e339 V339 (j := (1 : Int32)) (n := 3) rfl (by decide) (g := (mkF m 251 #[iv p1, iv p2, iv p3, iv (3 : Int32), rv b255, rv b258, rv b261, rv b264, rv b267, iv ((((c0 * u1) * u2) + (c1 * u2)) + c2), iv ((u0 * u1) * u2), iv (1 : Int32), iv (1 : Int32), .unset] [(.int (c1 + (1 : Int32))), (.int (1 : Int32)), (.ref b261)])) rfl rfl (hb hby at_251)
    clear X339 e339 V339
    have f344_0 := f340_0.other W343 ne_b255_b261
    clear f340_0
    have f344_1 := f340_1.other W343 ne_b258_b261
    clear f340_1
    have f344_3 := f340_3.other W343 (Ne.symm ne_b261_b264)
    clear f340_3
    have f344_4 := f340_4.other W343 (Ne.symm ne_b261_b267)
    clear f340_4
    have K345 : Keep h0 h343 [] := K341.wr W343 (Or.inr sz_b261)
    clear K341 W343
    have N346 := Fr.snoc X343 N342 g_b261
    clear N342
    replace V343 : own_AV Z h343 b261 .int (own_is [c0, (c1 + (1 : Int32)), (0 : Int32)]) := V343
    refine own_st st343 ?_
    clear st343
    show own_Fin p e below G (T343.setTop (mkF m 252 #[iv p1, iv p2, iv p3, iv (3 : Int32), rv b255, rv b258, rv b261, rv b264, rv b267, iv ((((c0 * u1) * u2) + (c1 * u2)) + c2), iv ((u0 * u1) * u2), iv (1 : Int32), iv (1 : Int32), .unset] []))
    refine own_st (fun _ k => XS.iload X343.here hx rfl (hb hby at_252) rfl  k) ?_
    show own_Fin p e below G (T343.setTop (mkF m 254 #[iv p1, iv p2, iv p3, iv (3 : Int32), rv b255, rv b258, rv b261, rv b264, rv b267, iv ((((c0 * u1) * u2) + (c1 * u2)) + c2), iv ((u0 * u1) * u2), iv (1 : Int32), iv (1 : Int32), .unset] [(.int (1 : Int32))]))
    refine own_st (fun _ k => XS.ifNo X343.here hx rfl (hb hby at_254) rfl ((if0 _ _).trans (feq (by decide : ¬ ((1 : Int32) = (0 : Int32)))).1) k) ?_
    show own_Fin p e below G (T343.setTop (mkF m 257 #[iv p1, iv p2, iv p3, iv (3 : Int32), rv b255, rv b258, rv b261, rv b264, rv b267, iv ((((c0 * u1) * u2) + (c1 * u2)) + c2), iv ((u0 * u1) * u2), iv (1 : Int32), iv (1 : Int32), .unset] []))
    refine own_st (fun _ k => XS.aload X343.here hx rfl (hb hby at_257) rfl rfl k) ?_
    show own_Fin p e below G (T343.setTop (mkF m 259 #[iv p1, iv p2, iv p3, iv (3 : Int32), rv b255, rv b258, rv b261, rv b264, rv b267, iv ((((c0 * u1) * u2) + (c1 * u2)) + c2), iv ((u0 * u1) * u2), iv (1 : Int32), iv (1 : Int32), .unset] [(.ref b264)]))
    refine own_st (fun _ k => XS.iconst X343.here hx rfl (hb hby at_259) k) ?_
    show own_Fin p e below G (T343.setTop (mkF m 260 #[iv p1, iv p2, iv p3, iv (3 : Int32), rv b255, rv b258, rv b261, rv b264, rv b267, iv ((((c0 * u1) * u2) + (c1 * u2)) + c2), iv ((u0 * u1) * u2), iv (1 : Int32), iv (1 : Int32), .unset] [(.int (1 : Int32)), (.ref b264)]))
    refine own_st (fun _ k => own_ldI X343 hx hZ e343 f344_3 (j := (1 : Int32)) (n := 3) rfl (by decide) (g := (mkF m 260 #[iv p1, iv p2, iv p3, iv (3 : Int32), rv b255, rv b258, rv b261, rv b264, rv b267, iv ((((c0 * u1) * u2) + (c1 * u2)) + c2), iv ((u0 * u1) * u2), iv (1 : Int32), iv (1 : Int32), .unset] [(.int (1 : Int32)), (.ref b264)])) rfl rfl (hb hby at_260) k) ?_
    show own_Fin p e below G (T343.setTop (mkF m 261 #[iv p1, iv p2, iv p3, iv (3 : Int32), rv b255, rv b258, rv b261, rv b264, rv b267, iv ((((c0 * u1) * u2) + (c1 * u2)) + c2), iv ((u0 * u1) * u2), iv (1 : Int32), iv (1 : Int32), .unset] [(.int u1)]))
    refine own_st (fun _ k => XS.aload X343.here hx rfl (hb hby at_261) rfl rfl k) ?_
    show own_Fin p e below G (T343.setTop (mkF m 263 #[iv p1, iv p2, iv p3, iv (3 : Int32), rv b255, rv b258, rv b261, rv b264, rv b267, iv ((((c0 * u1) * u2) + (c1 * u2)) + c2), iv ((u0 * u1) * u2), iv (1 : Int32), iv (1 : Int32), .unset] [(.ref b255), (.int u1)]))
    refine own_st (fun _ k => XS.iconst X343.here hx rfl (hb hby at_263) k) ?_
    show own_Fin p e below G (T343.setTop (mkF m 264 #[iv p1, iv p2, iv p3, iv (3 : Int32), rv b255, rv b258, rv b261, rv b264, rv b267, iv ((((c0 * u1) * u2) + (c1 * u2)) + c2), iv ((u0 * u1) * u2), iv (1 : Int32), iv (1 : Int32), .unset] [(.int (1 : Int32)), (.ref b255), (.int u1)]))
    refine own_st (fun _ k => own_ldI X343 hx hZ e343 f344_0 (j := (1 : Int32)) (n := 3) rfl (by decide) (g := (mkF m 264 #[iv p1, iv p2, iv p3, iv (3 : Int32), rv b255, rv b258, rv b261, rv b264, rv b267, iv ((((c0 * u1) * u2) + (c1 * u2)) + c2), iv ((u0 * u1) * u2), iv (1 : Int32), iv (1 : Int32), .unset] [(.int (1 : Int32)), (.ref b255), (.int u1)])) rfl rfl (hb hby at_264) k) ?_
    show own_Fin p e below G (T343.setTop (mkF m 265 #[iv p1, iv p2, iv p3, iv (3 : Int32), rv b255, rv b258, rv b261, rv b264, rv b267, iv ((((c0 * u1) * u2) + (c1 * u2)) + c2), iv ((u0 * u1) * u2), iv (1 : Int32), iv (1 : Int32), .unset] [(.int u1), (.int u1)]))
    refine own_st (fun _ k => XS.icmpNo X343.here hx rfl (hb hby at_265) rfl (teq (rfl : u1 = u1)).2 k) ?_
    show own_Fin p e below G (T343.setTop (mkF m 268 #[iv p1, iv p2, iv p3, iv (3 : Int32), rv b255, rv b258, rv b261, rv b264, rv b267, iv ((((c0 * u1) * u2) + (c1 * u2)) + c2), iv ((u0 * u1) * u2), iv (1 : Int32), iv (1 : Int32), .unset] []))
    refine own_st (fun _ k => XS.iconst X343.here hx rfl (hb hby at_268) k) ?_
    show own_Fin p e below G (T343.setTop (mkF m 269 #[iv p1, iv p2, iv p3, iv (3 : Int32), rv b255, rv b258, rv b261, rv b264, rv b267, iv ((((c0 * u1) * u2) + (c1 * u2)) + c2), iv ((u0 * u1) * u2), iv (1 : Int32), iv (1 : Int32), .unset] [(.int (1 : Int32))]))
    refine own_st (fun _ k => XS.goto X343.here hx rfl (pc0 := 269) (pc' := 273) rfl (hb hby at_269) (by decide) (by decide) k) ?_
    show own_Fin p e below G (T343.setTop (mkF m 273 #[iv p1, iv p2, iv p3, iv (3 : Int32), rv b255, rv b258, rv b261, rv b264, rv b267, iv ((((c0 * u1) * u2) + (c1 * u2)) + c2), iv ((u0 * u1) * u2), iv (1 : Int32), iv (1 : Int32), .unset] [(.int (1 : Int32))]))
    refine own_st (fun _ k => XS.istore X343.here hx rfl (hb hby at_273) rfl (l' := #[iv p1, iv p2, iv p3, iv (3 : Int32), rv b255, rv b258, rv b261, rv b264, rv b267, iv ((((c0 * u1) * u2) + (c1 * u2)) + c2), iv ((u0 * u1) * u2), iv (1 : Int32), iv (1 : Int32), .unset]) rfl k) ?_
    show own_Fin p e below G (T343.setTop (mkF m 275 #[iv p1, iv p2, iv p3, iv (3 : Int32), rv b255, rv b258, rv b261, rv b264, rv b267, iv ((((c0 * u1) * u2) + (c1 * u2)) + c2), iv ((u0 * u1) * u2), iv (1 : Int32), iv (1 : Int32), .unset] []))
    refine own_st (fun _ k => XS.iloadN X343.here hx rfl (hb hby at_275) rfl  k) ?_
    show own_Fin p e below G (T343.setTop (mkF m 276 #[iv p1, iv p2, iv p3, iv (3 : Int32), rv b255, rv b258, rv b261, rv b264, rv b267, iv ((((c0 * u1) * u2) + (c1 * u2)) + c2), iv ((u0 * u1) * u2), iv (1 : Int32), iv (1 : Int32), .unset] [(.int (3 : Int32))]))
    refine own_st (fun _ k => XS.iconst X343.here hx rfl (hb hby at_276) k) ?_
    show own_Fin p e below G (T343.setTop (mkF m 277 #[iv p1, iv p2, iv p3, iv (3 : Int32), rv b255, rv b258, rv b261, rv b264, rv b267, iv ((((c0 * u1) * u2) + (c1 * u2)) + c2), iv ((u0 * u1) * u2), iv (1 : Int32), iv (1 : Int32), .unset] [(.int (2 : Int32)), (.int (3 : Int32))]))
    refine own_st (fun _ k => XS.icmpNo X343.here hx rfl (hb hby at_277) rfl (tlt (by decide : ((2 : Int32) < (3 : Int32)))).2.2.2 k) ?_
    show own_Fin p e below G (T343.setTop (mkF m 280 #[iv p1, iv p2, iv p3, iv (3 : Int32), rv b255, rv b258, rv b261, rv b264, rv b267, iv ((((c0 * u1) * u2) + (c1 * u2)) + c2), iv ((u0 * u1) * u2), iv (1 : Int32), iv (1 : Int32), .unset] []))
    refine own_st (fun _ k => XS.aload X343.here hx rfl (hb hby at_280) rfl rfl k) ?_
    show own_Fin p e below G (T343.setTop (mkF m 282 #[iv p1, iv p2, iv p3, iv (3 : Int32), rv b255, rv b258, rv b261, rv b264, rv b267, iv ((((c0 * u1) * u2) + (c1 * u2)) + c2), iv ((u0 * u1) * u2), iv (1 : Int32), iv (1 : Int32), .unset] [(.ref b261)]))
    refine own_st (fun _ k => XS.iconst X343.here hx rfl (hb hby at_282) k) ?_
    show own_Fin p e below G (T343.setTop (mkF m 283 #[iv p1, iv p2, iv p3, iv (3 : Int32), rv b255, rv b258, rv b261, rv b264, rv b267, iv ((((c0 * u1) * u2) + (c1 * u2)) + c2), iv ((u0 * u1) * u2), iv (1 : Int32), iv (1 : Int32), .unset] [(.int (2 : Int32)), (.ref b261)]))
    refine own_st (fun _ k => XS.aload X343.here hx rfl (hb hby at_283) rfl rfl k) ?_
    show own_Fin p e below G (T343.setTop (mkF m 285 #[iv p1, iv p2, iv p3, iv (3 : Int32), rv b255, rv b258, rv b261, rv b264, rv b267, iv ((((c0 * u1) * u2) + (c1 * u2)) + c2), iv ((u0 * u1) * u2), iv (1 : Int32), iv (1 : Int32), .unset] [(.ref b267), (.int (2 : Int32)), (.ref b261)]))
    refine own_st (fun _ k => XS.iconst X343.here hx rfl (hb hby at_285) k) ?_
    show own_Fin p e below G (T343.setTop (mkF m 286 #[iv p1, iv p2, iv p3, iv (3 : Int32), rv b255, rv b258, rv b261, rv b264, rv b267, iv ((((c0 * u1) * u2) + (c1 * u2)) + c2), iv ((u0 * u1) * u2), iv (1 : Int32), iv (1 : Int32), .unset] [(.int (2 : Int32)), (.ref b267), (.int (2 : Int32)), (.ref b261)]))
    refine own_st (fun _ k => own_ldI X343 hx hZ e343 f344_4 (j := (2 : Int32)) (n := 3) rfl (by decide) (g := (mkF m 286 #[iv p1, iv p2, iv p3, iv (3 : Int32), rv b255, rv b258, rv b261, rv b264, rv b267, iv ((((c0 * u1) * u2) + (c1 * u2)) + c2), iv ((u0 * u1) * u2), iv (1 : Int32), iv (1 : Int32), .unset] [(.int (2 : Int32)), (.ref b267), (.int (2 : Int32)), (.ref b261)])) rfl rfl (hb hby at_286) k) ?_
    show own_Fin p e below G (T343.setTop (mkF m 287 #[iv p1, iv p2, iv p3, iv (3 : Int32), rv b255, rv b258, rv b261, rv b264, rv b267, iv ((((c0 * u1) * u2) + (c1 * u2)) + c2), iv ((u0 * u1) * u2), iv (1 : Int32), iv (1 : Int32), .unset] [(.int (0 : Int32)), (.int (2 : Int32)), (.ref b261)]))
    obtain ⟨T347, h347, X347, e347, W347, V347, st347⟩ := own_stI X343 hx hZ e343 V343 (j := (2 : Int32)) (n := 3) rfl (by decide) (g := (mkF m 287 #[iv p1, iv p2, iv p3, iv (3 : Int32), rv b255, rv b258, rv b261, rv b264, rv b267, iv ((((c0 * u1) * u2) + (c1 * u2)) + c2), iv ((u0 * u1) * u2), iv (1 : Int32), iv (1 : Int32), .unset] [(.int (0 : Int32)), (.int (2 : Int32)), (.ref b261)])) rfl rfl (hb hby at_287)
    clear X343 e343 V343
    have f348_0 := f344_0.other W347 ne_b255_b261
    clear f344_0
    have f348_1 := f344_1.other W347 ne_b258_b261
    clear f344_1 f348_1
    have f348_3 := f344_3.other W347 (Ne.symm ne_b261_b264)
    clear f344_3
    have f348_4 := f344_4.other W347 (Ne.symm ne_b261_b267)
    clear f344_4 f348_4
    have K349 : Keep h0 h347 [] := K345.wr W347 (Or.inr sz_b261)
    clear K345 W347
    have N350 := Fr.snoc X347 N346 g_b261
    clear N346
    replace V347 : own_AV Z h347 b261 .int (own_is [c0, (c1 + (1 : Int32)), (0 : Int32)]) := V347
    refine own_st st347 ?_
    clear st347
    show own_Fin p e below G (T347.setTop (mkF m 288 #[iv p1, iv p2, iv p3, iv (3 : Int32), rv b255, rv b258, rv b261, rv b264, rv b267, iv ((((c0 * u1) * u2) + (c1 * u2)) + c2), iv ((u0 * u1) * u2), iv (1 : Int32), iv (1 : Int32), .unset] []))
    refine own_st (fun _ k => XS.iload X347.here hx rfl (hb hby at_288) rfl  k) ?_
    show own_Fin p e below G (T347.setTop (mkF m 290 #[iv p1, iv p2, iv p3, iv (3 : Int32), rv b255, rv b258, rv b261, rv b264, rv b267, iv ((((c0 * u1) * u2) + (c1 * u2)) + c2), iv ((u0 * u1) * u2), iv (1 : Int32), iv (1 : Int32), .unset] [(.int (1 : Int32))]))
    refine own_st (fun _ k => XS.ifNo X347.here hx rfl (hb hby at_290) rfl ((if0 _ _).trans (feq (by decide : ¬ ((1 : Int32) = (0 : Int32)))).1) k) ?_
    show own_Fin p e below G (T347.setTop (mkF m 293 #[iv p1, iv p2, iv p3, iv (3 : Int32), rv b255, rv b258, rv b261, rv b264, rv b267, iv ((((c0 * u1) * u2) + (c1 * u2)) + c2), iv ((u0 * u1) * u2), iv (1 : Int32), iv (1 : Int32), .unset] []))
    refine own_st (fun _ k => XS.aload X347.here hx rfl (hb hby at_293) rfl rfl k) ?_
    show own_Fin p e below G (T347.setTop (mkF m 295 #[iv p1, iv p2, iv p3, iv (3 : Int32), rv b255, rv b258, rv b261, rv b264, rv b267, iv ((((c0 * u1) * u2) + (c1 * u2)) + c2), iv ((u0 * u1) * u2), iv (1 : Int32), iv (1 : Int32), .unset] [(.ref b264)]))
    refine own_st (fun _ k => XS.iconst X347.here hx rfl (hb hby at_295) k) ?_
    show own_Fin p e below G (T347.setTop (mkF m 296 #[iv p1, iv p2, iv p3, iv (3 : Int32), rv b255, rv b258, rv b261, rv b264, rv b267, iv ((((c0 * u1) * u2) + (c1 * u2)) + c2), iv ((u0 * u1) * u2), iv (1 : Int32), iv (1 : Int32), .unset] [(.int (2 : Int32)), (.ref b264)]))
    refine own_st (fun _ k => own_ldI X347 hx hZ e347 f348_3 (j := (2 : Int32)) (n := 3) rfl (by decide) (g := (mkF m 296 #[iv p1, iv p2, iv p3, iv (3 : Int32), rv b255, rv b258, rv b261, rv b264, rv b267, iv ((((c0 * u1) * u2) + (c1 * u2)) + c2), iv ((u0 * u1) * u2), iv (1 : Int32), iv (1 : Int32), .unset] [(.int (2 : Int32)), (.ref b264)])) rfl rfl (hb hby at_296) k) ?_
    clear f348_3
    show own_Fin p e below G (T347.setTop (mkF m 297 #[iv p1, iv p2, iv p3, iv (3 : Int32), rv b255, rv b258, rv b261, rv b264, rv b267, iv ((((c0 * u1) * u2) + (c1 * u2)) + c2), iv ((u0 * u1) * u2), iv (1 : Int32), iv (1 : Int32), .unset] [(.int u2)]))
    refine own_st (fun _ k => XS.aload X347.here hx rfl (hb hby at_297) rfl rfl k) ?_
    show own_Fin p e below G (T347.setTop (mkF m 299 #[iv p1, iv p2, iv p3, iv (3 : Int32), rv b255, rv b258, rv b261, rv b264, rv b267, iv ((((c0 * u1) * u2) + (c1 * u2)) + c2), iv ((u0 * u1) * u2), iv (1 : Int32), iv (1 : Int32), .unset] [(.ref b255), (.int u2)]))
    refine own_st (fun _ k => XS.iconst X347.here hx rfl (hb hby at_299) k) ?_
    show own_Fin p e below G (T347.setTop (mkF m 300 #[iv p1, iv p2, iv p3, iv (3 : Int32), rv b255, rv b258, rv b261, rv b264, rv b267, iv ((((c0 * u1) * u2) + (c1 * u2)) + c2), iv ((u0 * u1) * u2), iv (1 : Int32), iv (1 : Int32), .unset] [(.int (2 : Int32)), (.ref b255), (.int u2)]))
    refine own_st (fun _ k => own_ldI X347 hx hZ e347 f348_0 (j := (2 : Int32)) (n := 3) rfl (by decide) (g := (mkF m 300 #[iv p1, iv p2, iv p3, iv (3 : Int32), rv b255, rv b258, rv b261, rv b264, rv b267, iv ((((c0 * u1) * u2) + (c1 * u2)) + c2), iv ((u0 * u1) * u2), iv (1 : Int32), iv (1 : Int32), .unset] [(.int (2 : Int32)), (.ref b255), (.int u2)])) rfl rfl (hb hby at_300) k) ?_
    show own_Fin p e below G (T347.setTop (mkF m 301 #[iv p1, iv p2, iv p3, iv (3 : Int32), rv b255, rv b258, rv b261, rv b264, rv b267, iv ((((c0 * u1) * u2) + (c1 * u2)) + c2), iv ((u0 * u1) * u2), iv (1 : Int32), iv (1 : Int32), .unset] [(.int u2), (.int u2)]))
    refine own_st (fun _ k => XS.icmpNo X347.here hx rfl (hb hby at_301) rfl (teq (rfl : u2 = u2)).2 k) ?_
    show own_Fin p e below G (T347.setTop (mkF m 304 #[iv p1, iv p2, iv p3, iv (3 : Int32), rv b255, rv b258, rv b261, rv b264, rv b267, iv ((((c0 * u1) * u2) + (c1 * u2)) + c2), iv ((u0 * u1) * u2), iv (1 : Int32), iv (1 : Int32), .unset] []))
    refine own_st (fun _ k => XS.iconst X347.here hx rfl (hb hby at_304) k) ?_
    show own_Fin p e below G (T347.setTop (mkF m 305 #[iv p1, iv p2, iv p3, iv (3 : Int32), rv b255, rv b258, rv b261, rv b264, rv b267, iv ((((c0 * u1) * u2) + (c1 * u2)) + c2), iv ((u0 * u1) * u2), iv (1 : Int32), iv (1 : Int32), .unset] [(.int (1 : Int32))]))
    refine own_st (fun _ k => XS.goto X347.here hx rfl (pc0 := 305) (pc' := 309) rfl (hb hby at_305) (by decide) (by decide) k) ?_
    show own_Fin p e below G (T347.setTop (mkF m 309 #[iv p1, iv p2, iv p3, iv (3 : Int32), rv b255, rv b258, rv b261, rv b264, rv b267, iv ((((c0 * u1) * u2) + (c1 * u2)) + c2), iv ((u0 * u1) * u2), iv (1 : Int32), iv (1 : Int32), .unset] [(.int (1 : Int32))]))
    refine own_st (fun _ k => XS.istore X347.here hx rfl (hb hby at_309) rfl (l' := #[iv p1, iv p2, iv p3, iv (3 : Int32), rv b255, rv b258, rv b261, rv b264, rv b267, iv ((((c0 * u1) * u2) + (c1 * u2)) + c2), iv ((u0 * u1) * u2), iv (1 : Int32), iv (1 : Int32), .unset]) rfl k) ?_
    show own_Fin p e below G (T347.setTop (mkF m 311 #[iv p1, iv p2, iv p3, iv (3 : Int32), rv b255, rv b258, rv b261, rv b264, rv b267, iv ((((c0 * u1) * u2) + (c1 * u2)) + c2), iv ((u0 * u1) * u2), iv (1 : Int32), iv (1 : Int32), .unset] []))
    refine own_st (fun _ k => XS.iload X347.here hx rfl (hb hby at_311) rfl  k) ?_
    show own_Fin p e below G (T347.setTop (mkF m 313 #[iv p1, iv p2, iv p3, iv (3 : Int32), rv b255, rv b258, rv b261, rv b264, rv b267, iv ((((c0 * u1) * u2) + (c1 * u2)) + c2), iv ((u0 * u1) * u2), iv (1 : Int32), iv (1 : Int32), .unset] [(.int (1 : Int32))]))
    refine own_st (fun _ k => XS.ifYes X347.here hx rfl (pc0 := 313) (pc' := 318) rfl (hb hby at_313) rfl ((if0 _ _).trans (feq (by decide : ¬ ((1 : Int32) = (0 : Int32)))).2) (by decide) (by decide) k) ?_
    show own_Fin p e below G (T347.setTop (mkF m 318 #[iv p1, iv p2, iv p3, iv (3 : Int32), rv b255, rv b258, rv b261, rv b264, rv b267, iv ((((c0 * u1) * u2) + (c1 * u2)) + c2), iv ((u0 * u1) * u2), iv (1 : Int32), iv (1 : Int32), .unset] []))
    refine own_st (fun _ k => XS.iload X347.here hx rfl (hb hby at_318) rfl  k) ?_
    show own_Fin p e below G (T347.setTop (mkF m 320 #[iv p1, iv p2, iv p3, iv (3 : Int32), rv b255, rv b258, rv b261, rv b264, rv b267, iv ((((c0 * u1) * u2) + (c1 * u2)) + c2), iv ((u0 * u1) * u2), iv (1 : Int32), iv (1 : Int32), .unset] [(.int ((((c0 * u1) * u2) + (c1 * u2)) + c2))]))
    refine own_st (fun _ k => XS.iconst X347.here hx rfl (hb hby at_320) k) ?_
    show own_Fin p e below G (T347.setTop (mkF m 321 #[iv p1, iv p2, iv p3, iv (3 : Int32), rv b255, rv b258, rv b261, rv b264, rv b267, iv ((((c0 * u1) * u2) + (c1 * u2)) + c2), iv ((u0 * u1) * u2), iv (1 : Int32), iv (1 : Int32), .unset] [(.int (1 : Int32)), (.int ((((c0 * u1) * u2) + (c1 * u2)) + c2))]))
    refine own_st (fun _ k => XS.iadd X347.here hx rfl (hb hby at_321) rfl k) ?_
    show own_Fin p e below G (T347.setTop (mkF m 322 #[iv p1, iv p2, iv p3, iv (3 : Int32), rv b255, rv b258, rv b261, rv b264, rv b267, iv ((((c0 * u1) * u2) + (c1 * u2)) + c2), iv ((u0 * u1) * u2), iv (1 : Int32), iv (1 : Int32), .unset] [(.int (((((c0 * u1) * u2) + (c1 * u2)) + c2) + (1 : Int32)))]))
    refine own_st (fun _ k => XS.iload X347.here hx rfl (hb hby at_322) rfl  k) ?_
    show own_Fin p e below G (T347.setTop (mkF m 324 #[iv p1, iv p2, iv p3, iv (3 : Int32), rv b255, rv b258, rv b261, rv b264, rv b267, iv ((((c0 * u1) * u2) + (c1 * u2)) + c2), iv ((u0 * u1) * u2), iv (1 : Int32), iv (1 : Int32), .unset] [(.int ((u0 * u1) * u2)), (.int (((((c0 * u1) * u2) + (c1 * u2)) + c2) + (1 : Int32)))]))
    refine own_st (fun _ k => XS.icmpNo X347.here hx rfl (hb hby at_324) rfl (tlt (own_w3b r_c0 r_c1 r_c2 r_u0 r_u1 r_u2 d0 d1).1).2.1 k) ?_
    show own_Fin p e below G (T347.setTop (mkF m 327 #[iv p1, iv p2, iv p3, iv (3 : Int32), rv b255, rv b258, rv b261, rv b264, rv b267, iv ((((c0 * u1) * u2) + (c1 * u2)) + c2), iv ((u0 * u1) * u2), iv (1 : Int32), iv (1 : Int32), .unset] []))
    refine own_st (fun _ k => XS.aload X347.here hx rfl (hb hby at_327) rfl rfl k) ?_
    show own_Fin p e below G (T347.setTop (mkF m 329 #[iv p1, iv p2, iv p3, iv (3 : Int32), rv b255, rv b258, rv b261, rv b264, rv b267, iv ((((c0 * u1) * u2) + (c1 * u2)) + c2), iv ((u0 * u1) * u2), iv (1 : Int32), iv (1 : Int32), .unset] [(.ref b261)]))
    refine own_st (fun _ k => XS.iconst X347.here hx rfl (hb hby at_329) k) ?_
    show own_Fin p e below G (T347.setTop (mkF m 330 #[iv p1, iv p2, iv p3, iv (3 : Int32), rv b255, rv b258, rv b261, rv b264, rv b267, iv ((((c0 * u1) * u2) + (c1 * u2)) + c2), iv ((u0 * u1) * u2), iv (1 : Int32), iv (1 : Int32), .unset] [(.int (0 : Int32)), (.ref b261)]))
    refine own_st (fun _ k => own_ldI X347 hx hZ e347 V347 (j := (0 : Int32)) (n := 3) rfl (by decide) (g := (mkF m 330 #[iv p1, iv p2, iv p3, iv (3 : Int32), rv b255, rv b258, rv b261, rv b264, rv b267, iv ((((c0 * u1) * u2) + (c1 * u2)) + c2), iv ((u0 * u1) * u2), iv (1 : Int32), iv (1 : Int32), .unset] [(.int (0 : Int32)), (.ref b261)])) rfl rfl (hb hby at_330) k) ?_
    show own_Fin p e below G (T347.setTop (mkF m 331 #[iv p1, iv p2, iv p3, iv (3 : Int32), rv b255, rv b258, rv b261, rv b264, rv b267, iv ((((c0 * u1) * u2) + (c1 * u2)) + c2), iv ((u0 * u1) * u2), iv (1 : Int32), iv (1 : Int32), .unset] [(.int c0)]))
    refine own_st (fun _ k => XS.aload X347.here hx rfl (hb hby at_331) rfl rfl k) ?_
    show own_Fin p e below G (T347.setTop (mkF m 333 #[iv p1, iv p2, iv p3, iv (3 : Int32), rv b255, rv b258, rv b261, rv b264, rv b267, iv ((((c0 * u1) * u2) + (c1 * u2)) + c2), iv ((u0 * u1) * u2), iv (1 : Int32), iv (1 : Int32), .unset] [(.ref b255), (.int c0)]))
    refine own_st (fun _ k => XS.iconst X347.here hx rfl (hb hby at_333) k) ?_
    show own_Fin p e below G (T347.setTop (mkF m 334 #[iv p1, iv p2, iv p3, iv (3 : Int32), rv b255, rv b258, rv b261, rv b264, rv b267, iv ((((c0 * u1) * u2) + (c1 * u2)) + c2), iv ((u0 * u1) * u2), iv (1 : Int32), iv (1 : Int32), .unset] [(.int (0 : Int32)), (.ref b255), (.int c0)]))
    refine own_st (fun _ k => own_ldI X347 hx hZ e347 f348_0 (j := (0 : Int32)) (n := 3) rfl (by decide) (g := (mkF m 334 #[iv p1, iv p2, iv p3, iv (3 : Int32), rv b255, rv b258, rv b261, rv b264, rv b267, iv ((((c0 * u1) * u2) + (c1 * u2)) + c2), iv ((u0 * u1) * u2), iv (1 : Int32), iv (1 : Int32), .unset] [(.int (0 : Int32)), (.ref b255), (.int c0)])) rfl rfl (hb hby at_334) k) ?_
    show own_Fin p e below G (T347.setTop (mkF m 335 #[iv p1, iv p2, iv p3, iv (3 : Int32), rv b255, rv b258, rv b261, rv b264, rv b267, iv ((((c0 * u1) * u2) + (c1 * u2)) + c2), iv ((u0 * u1) * u2), iv (1 : Int32), iv (1 : Int32), .unset] [(.int u0), (.int c0)]))
    obtain ⟨_, _, ⟨T351, L351, k351, n351⟩, -, X351, ⟨Lc351, hQ351, l351, y351, z351⟩, st351⟩ := Jvm.LawKit.callS X347 hx (y := own_y2) hown (mvT hZ (own_w hw 12 rfl)) (mvT hZ (own_w hw 13 rfl)) (mvT hZ (own_w hw 3 rfl)) (mvT hZ (own_w hw 14 rfl)) (by decide) (backOf (W := 0) (rm_in l Z a0 hw [] c0 u0 h347 n0 (Nat.le_trans Z0 K349.1) (own_ge r_c0.1) (own_lt_of r_c0)) hZ (own_w hw 14 rfl) (own_w hw 3 rfl) (by decide) (by decide)) (g := (mkF m 335 #[iv p1, iv p2, iv p3, iv (3 : Int32), rv b255, rv b258, rv b261, rv b264, rv b267, iv ((((c0 * u1) * u2) + (c1 * u2)) + c2), iv ((u0 * u1) * u2), iv (1 : Int32), iv (1 : Int32), .unset] [(.int u0), (.int c0)])) rfl (by rw [hml]; rfl) (argsL := [(.int c0), (.int u0)]) (rest := []) (lenOf pd__II_Z_317 rfl) rfl (by show 2 * 0 + _ ≤ _; exact Nat.le_of_eq rfl) (hb hby at_335) (fun _ _ => ⟨rfl, e347, (by decide : 5 + 0 ≤ _), (by decide : 15 + 0 ≤ _)⟩)
    clear X347 e347
    dsimp only [Pt.U, Pt.locs, Pt.cells, Pt.slots] at X351 l351 y351 z351 st351 hQ351
    obtain rfl : k351 = (5 : Nat) := y351
    obtain rfl : n351 = (15 : Nat) := z351
    obtain ⟨rfl, N351q, e351⟩ := hQ351
    skip
    have N351 : Fr n0 L351 := by rw [l351]; exact Fr.app N350 N351q
    clear N350 l351 N351q
    refine own_st st351 ?_
    clear st351
    show own_Fin p e below G (T351.setTop (mkF m 338 #[iv p1, iv p2, iv p3, iv (3 : Int32), rv b255, rv b258, rv b261, rv b264, rv b267, iv ((((c0 * u1) * u2) + (c1 * u2)) + c2), iv ((u0 * u1) * u2), iv (1 : Int32), iv (1 : Int32), .unset] [(.int (1 : Int32))]))
    refine own_st (fun _ k => XS.ifNo X351.here hx rfl (hb hby at_338) rfl ((if0 _ _).trans (feq (by decide : ¬ ((1 : Int32) = (0 : Int32)))).1) k) ?_
    show own_Fin p e below G (T351.setTop (mkF m 341 #[iv p1, iv p2, iv p3, iv (3 : Int32), rv b255, rv b258, rv b261, rv b264, rv b267, iv ((((c0 * u1) * u2) + (c1 * u2)) + c2), iv ((u0 * u1) * u2), iv (1 : Int32), iv (1 : Int32), .unset] []))
    refine own_st (fun _ k => XS.aload X351.here hx rfl (hb hby at_341) rfl rfl k) ?_
    show own_Fin p e below G (T351.setTop (mkF m 343 #[iv p1, iv p2, iv p3, iv (3 : Int32), rv b255, rv b258, rv b261, rv b264, rv b267, iv ((((c0 * u1) * u2) + (c1 * u2)) + c2), iv ((u0 * u1) * u2), iv (1 : Int32), iv (1 : Int32), .unset] [(.ref b261)]))
    refine own_st (fun _ k => XS.iconst X351.here hx rfl (hb hby at_343) k) ?_
    show own_Fin p e below G (T351.setTop (mkF m 344 #[iv p1, iv p2, iv p3, iv (3 : Int32), rv b255, rv b258, rv b261, rv b264, rv b267, iv ((((c0 * u1) * u2) + (c1 * u2)) + c2), iv ((u0 * u1) * u2), iv (1 : Int32), iv (1 : Int32), .unset] [(.int (1 : Int32)), (.ref b261)]))
    refine own_st (fun _ k => own_ldI X351 hx hZ e351 V347 (j := (1 : Int32)) (n := 3) rfl (by decide) (g := (mkF m 344 #[iv p1, iv p2, iv p3, iv (3 : Int32), rv b255, rv b258, rv b261, rv b264, rv b267, iv ((((c0 * u1) * u2) + (c1 * u2)) + c2), iv ((u0 * u1) * u2), iv (1 : Int32), iv (1 : Int32), .unset] [(.int (1 : Int32)), (.ref b261)])) rfl rfl (hb hby at_344) k) ?_
    show own_Fin p e below G (T351.setTop (mkF m 345 #[iv p1, iv p2, iv p3, iv (3 : Int32), rv b255, rv b258, rv b261, rv b264, rv b267, iv ((((c0 * u1) * u2) + (c1 * u2)) + c2), iv ((u0 * u1) * u2), iv (1 : Int32), iv (1 : Int32), .unset] [(.int (c1 + (1 : Int32)))]))
    refine own_st (fun _ k => XS.aload X351.here hx rfl (hb hby at_345) rfl rfl k) ?_
    show own_Fin p e below G (T351.setTop (mkF m 347 #[iv p1, iv p2, iv p3, iv (3 : Int32), rv b255, rv b258, rv b261, rv b264, rv b267, iv ((((c0 * u1) * u2) + (c1 * u2)) + c2), iv ((u0 * u1) * u2), iv (1 : Int32), iv (1 : Int32), .unset] [(.ref b255), (.int (c1 + (1 : Int32)))]))
    refine own_st (fun _ k => XS.iconst X351.here hx rfl (hb hby at_347) k) ?_
    show own_Fin p e below G (T351.setTop (mkF m 348 #[iv p1, iv p2, iv p3, iv (3 : Int32), rv b255, rv b258, rv b261, rv b264, rv b267, iv ((((c0 * u1) * u2) + (c1 * u2)) + c2), iv ((u0 * u1) * u2), iv (1 : Int32), iv (1 : Int32), .unset] [(.int (1 : Int32)), (.ref b255), (.int (c1 + (1 : Int32)))]))
    refine own_st (fun _ k => own_ldI X351 hx hZ e351 f348_0 (j := (1 : Int32)) (n := 3) rfl (by decide) (g := (mkF m 348 #[iv p1, iv p2, iv p3, iv (3 : Int32), rv b255, rv b258, rv b261, rv b264, rv b267, iv ((((c0 * u1) * u2) + (c1 * u2)) + c2), iv ((u0 * u1) * u2), iv (1 : Int32), iv (1 : Int32), .unset] [(.int (1 : Int32)), (.ref b255), (.int (c1 + (1 : Int32)))])) rfl rfl (hb hby at_348) k) ?_
    show own_Fin p e below G (T351.setTop (mkF m 349 #[iv p1, iv p2, iv p3, iv (3 : Int32), rv b255, rv b258, rv b261, rv b264, rv b267, iv ((((c0 * u1) * u2) + (c1 * u2)) + c2), iv ((u0 * u1) * u2), iv (1 : Int32), iv (1 : Int32), .unset] [(.int u1), (.int (c1 + (1 : Int32)))]))
    obtain ⟨_, _, ⟨T352, L352, k352, n352⟩, -, X352, ⟨Lc352, hQ352, l352, y352, z352⟩, st352⟩ := Jvm.LawKit.callS X351 hx (y := own_y2) hown (mvT hZ (own_w hw 12 rfl)) (mvT hZ (own_w hw 13 rfl)) (mvT hZ (own_w hw 3 rfl)) (mvT hZ (own_w hw 14 rfl)) (by decide) (backOf (W := 0) (rm_in l Z a0 hw [] (c1 + (1 : Int32)) u1 h347 n0 (Nat.le_trans Z0 K349.1) (own_g1 r_c1 r_u1) d1) hZ (own_w hw 14 rfl) (own_w hw 3 rfl) (by decide) (by decide)) (g := (mkF m 349 #[iv p1, iv p2, iv p3, iv (3 : Int32), rv b255, rv b258, rv b261, rv b264, rv b267, iv ((((c0 * u1) * u2) + (c1 * u2)) + c2), iv ((u0 * u1) * u2), iv (1 : Int32), iv (1 : Int32), .unset] [(.int u1), (.int (c1 + (1 : Int32)))])) rfl (by rw [hml]; rfl) (argsL := [(.int (c1 + (1 : Int32))), (.int u1)]) (rest := []) (lenOf pd__II_Z_317 rfl) rfl (by show 2 * 0 + _ ≤ _; exact Nat.le_of_eq rfl) (hb hby at_349) (fun _ _ => ⟨rfl, e351, (by decide : 5 + 0 ≤ _), (by decide : 15 + 0 ≤ _)⟩)
    clear X351 e351
    dsimp only [Pt.U, Pt.locs, Pt.cells, Pt.slots] at X352 l352 y352 z352 st352 hQ352
    obtain rfl : k352 = (5 : Nat) := y352
    obtain rfl : n352 = (15 : Nat) := z352
    obtain ⟨rfl, N352q, e352⟩ := hQ352
    skip
    have N352 : Fr n0 L352 := by rw [l352]; exact Fr.app N351 N352q
    clear N351 l352 N352q
    refine own_st st352 ?_
    clear st352
    show own_Fin p e below G (T352.setTop (mkF m 352 #[iv p1, iv p2, iv p3, iv (3 : Int32), rv b255, rv b258, rv b261, rv b264, rv b267, iv ((((c0 * u1) * u2) + (c1 * u2)) + c2), iv ((u0 * u1) * u2), iv (1 : Int32), iv (1 : Int32), .unset] [(.int (1 : Int32))]))
    refine own_st (fun _ k => XS.ifNo X352.here hx rfl (hb hby at_352) rfl ((if0 _ _).trans (feq (by decide : ¬ ((1 : Int32) = (0 : Int32)))).1) k) ?_
    show own_Fin p e below G (T352.setTop (mkF m 355 #[iv p1, iv p2, iv p3, iv (3 : Int32), rv b255, rv b258, rv b261, rv b264, rv b267, iv ((((c0 * u1) * u2) + (c1 * u2)) + c2), iv ((u0 * u1) * u2), iv (1 : Int32), iv (1 : Int32), .unset] []))
    refine own_st (fun _ k => XS.aload X352.here hx rfl (hb hby at_355) rfl rfl k) ?_
    show own_Fin p e below G (T352.setTop (mkF m 357 #[iv p1, iv p2, iv p3, iv (3 : Int32), rv b255, rv b258, rv b261, rv b264, rv b267, iv ((((c0 * u1) * u2) + (c1 * u2)) + c2), iv ((u0 * u1) * u2), iv (1 : Int32), iv (1 : Int32), .unset] [(.ref b261)]))
    refine own_st (fun _ k => XS.iconst X352.here hx rfl (hb hby at_357) k) ?_
    show own_Fin p e below G (T352.setTop (mkF m 358 #[iv p1, iv p2, iv p3, iv (3 : Int32), rv b255, rv b258, rv b261, rv b264, rv b267, iv ((((c0 * u1) * u2) + (c1 * u2)) + c2), iv ((u0 * u1) * u2), iv (1 : Int32), iv (1 : Int32), .unset] [(.int (2 : Int32)), (.ref b261)]))
    refine own_st (fun _ k => own_ldI X352 hx hZ e352 V347 (j := (2 : Int32)) (n := 3) rfl (by decide) (g := (mkF m 358 #[iv p1, iv p2, iv p3, iv (3 : Int32), rv b255, rv b258, rv b261, rv b264, rv b267, iv ((((c0 * u1) * u2) + (c1 * u2)) + c2), iv ((u0 * u1) * u2), iv (1 : Int32), iv (1 : Int32), .unset] [(.int (2 : Int32)), (.ref b261)])) rfl rfl (hb hby at_358) k) ?_
    show own_Fin p e below G (T352.setTop (mkF m 359 #[iv p1, iv p2, iv p3, iv (3 : Int32), rv b255, rv b258, rv b261, rv b264, rv b267, iv ((((c0 * u1) * u2) + (c1 * u2)) + c2), iv ((u0 * u1) * u2), iv (1 : Int32), iv (1 : Int32), .unset] [(.int (0 : Int32))]))
    refine own_st (fun _ k => XS.aload X352.here hx rfl (hb hby at_359) rfl rfl k) ?_
    show own_Fin p e below G (T352.setTop (mkF m 361 #[iv p1, iv p2, iv p3, iv (3 : Int32), rv b255, rv b258, rv b261, rv b264, rv b267, iv ((((c0 * u1) * u2) + (c1 * u2)) + c2), iv ((u0 * u1) * u2), iv (1 : Int32), iv (1 : Int32), .unset] [(.ref b255), (.int (0 : Int32))]))
    refine own_st (fun _ k => XS.iconst X352.here hx rfl (hb hby at_361) k) ?_
    show own_Fin p e below G (T352.setTop (mkF m 362 #[iv p1, iv p2, iv p3, iv (3 : Int32), rv b255, rv b258, rv b261, rv b264, rv b267, iv ((((c0 * u1) * u2) + (c1 * u2)) + c2), iv ((u0 * u1) * u2), iv (1 : Int32), iv (1 : Int32), .unset] [(.int (2 : Int32)), (.ref b255), (.int (0 : Int32))]))
    refine own_st (fun _ k => own_ldI X352 hx hZ e352 f348_0 (j := (2 : Int32)) (n := 3) rfl (by decide) (g := (mkF m 362 #[iv p1, iv p2, iv p3, iv (3 : Int32), rv b255, rv b258, rv b261, rv b264, rv b267, iv ((((c0 * u1) * u2) + (c1 * u2)) + c2), iv ((u0 * u1) * u2), iv (1 : Int32), iv (1 : Int32), .unset] [(.int (2 : Int32)), (.ref b255), (.int (0 : Int32))])) rfl rfl (hb hby at_362) k) ?_
    show own_Fin p e below G (T352.setTop (mkF m 363 #[iv p1, iv p2, iv p3, iv (3 : Int32), rv b255, rv b258, rv b261, rv b264, rv b267, iv ((((c0 * u1) * u2) + (c1 * u2)) + c2), iv ((u0 * u1) * u2), iv (1 : Int32), iv (1 : Int32), .unset] [(.int u2), (.int (0 : Int32))]))
    obtain ⟨_, _, ⟨T353, L353, k353, n353⟩, -, X353, ⟨Lc353, hQ353, l353, y353, z353⟩, st353⟩ := Jvm.LawKit.callS X352 hx (y := own_y2) hown (mvT hZ (own_w hw 12 rfl)) (mvT hZ (own_w hw 13 rfl)) (mvT hZ (own_w hw 3 rfl)) (mvT hZ (own_w hw 14 rfl)) (by decide) (backOf (W := 0) (rm_in l Z a0 hw [] (0 : Int32) u2 h347 n0 (Nat.le_trans Z0 K349.1) (by decide) (own_pos r_u2)) hZ (own_w hw 14 rfl) (own_w hw 3 rfl) (by decide) (by decide)) (g := (mkF m 363 #[iv p1, iv p2, iv p3, iv (3 : Int32), rv b255, rv b258, rv b261, rv b264, rv b267, iv ((((c0 * u1) * u2) + (c1 * u2)) + c2), iv ((u0 * u1) * u2), iv (1 : Int32), iv (1 : Int32), .unset] [(.int u2), (.int (0 : Int32))])) rfl (by rw [hml]; rfl) (argsL := [(.int (0 : Int32)), (.int u2)]) (rest := []) (lenOf pd__II_Z_317 rfl) rfl (by show 2 * 0 + _ ≤ _; exact Nat.le_of_eq rfl) (hb hby at_363) (fun _ _ => ⟨rfl, e352, (by decide : 5 + 0 ≤ _), (by decide : 15 + 0 ≤ _)⟩)
    clear X352 e352
    dsimp only [Pt.U, Pt.locs, Pt.cells, Pt.slots] at X353 l353 y353 z353 st353 hQ353
    obtain rfl : k353 = (5 : Nat) := y353
    obtain rfl : n353 = (15 : Nat) := z353
    obtain ⟨rfl, N353q, e353⟩ := hQ353
    skip
    have N353 : Fr n0 L353 := by rw [l353]; exact Fr.app N352 N353q
    clear N352 l353 N353q
    refine own_st st353 ?_
    clear st353
    show own_Fin p e below G (T353.setTop (mkF m 366 #[iv p1, iv p2, iv p3, iv (3 : Int32), rv b255, rv b258, rv b261, rv b264, rv b267, iv ((((c0 * u1) * u2) + (c1 * u2)) + c2), iv ((u0 * u1) * u2), iv (1 : Int32), iv (1 : Int32), .unset] [(.int (1 : Int32))]))
    refine own_st (fun _ k => XS.ifNo X353.here hx rfl (hb hby at_366) rfl ((if0 _ _).trans (feq (by decide : ¬ ((1 : Int32) = (0 : Int32)))).1) k) ?_
    show own_Fin p e below G (T353.setTop (mkF m 369 #[iv p1, iv p2, iv p3, iv (3 : Int32), rv b255, rv b258, rv b261, rv b264, rv b267, iv ((((c0 * u1) * u2) + (c1 * u2)) + c2), iv ((u0 * u1) * u2), iv (1 : Int32), iv (1 : Int32), .unset] []))
    refine own_st (fun _ k => XS.iconst X353.here hx rfl (hb hby at_369) k) ?_
    show own_Fin p e below G (T353.setTop (mkF m 370 #[iv p1, iv p2, iv p3, iv (3 : Int32), rv b255, rv b258, rv b261, rv b264, rv b267, iv ((((c0 * u1) * u2) + (c1 * u2)) + c2), iv ((u0 * u1) * u2), iv (1 : Int32), iv (1 : Int32), .unset] [(.int (1 : Int32))]))
    refine own_st (fun _ k => XS.goto X353.here hx rfl (pc0 := 370) (pc' := 374) rfl (hb hby at_370) (by decide) (by decide) k) ?_
    show own_Fin p e below G (T353.setTop (mkF m 374 #[iv p1, iv p2, iv p3, iv (3 : Int32), rv b255, rv b258, rv b261, rv b264, rv b267, iv ((((c0 * u1) * u2) + (c1 * u2)) + c2), iv ((u0 * u1) * u2), iv (1 : Int32), iv (1 : Int32), .unset] [(.int (1 : Int32))]))
    refine own_st (fun _ k => XS.istore X353.here hx rfl (hb hby at_374) rfl (l' := #[iv p1, iv p2, iv p3, iv (3 : Int32), rv b255, rv b258, rv b261, rv b264, rv b267, iv ((((c0 * u1) * u2) + (c1 * u2)) + c2), iv ((u0 * u1) * u2), iv (1 : Int32), iv (1 : Int32), iv (1 : Int32)]) rfl k) ?_
    show own_Fin p e below G (T353.setTop (mkF m 376 #[iv p1, iv p2, iv p3, iv (3 : Int32), rv b255, rv b258, rv b261, rv b264, rv b267, iv ((((c0 * u1) * u2) + (c1 * u2)) + c2), iv ((u0 * u1) * u2), iv (1 : Int32), iv (1 : Int32), iv (1 : Int32)] []))
    refine own_st (fun _ k => XS.iload X353.here hx rfl (hb hby at_376) rfl  k) ?_
    show own_Fin p e below G (T353.setTop (mkF m 378 #[iv p1, iv p2, iv p3, iv (3 : Int32), rv b255, rv b258, rv b261, rv b264, rv b267, iv ((((c0 * u1) * u2) + (c1 * u2)) + c2), iv ((u0 * u1) * u2), iv (1 : Int32), iv (1 : Int32), iv (1 : Int32)] [(.int (1 : Int32))]))
    refine own_st (fun _ k => XS.ifNo X353.here hx rfl (hb hby at_378) rfl ((if0 _ _).trans (feq (by decide : ¬ ((1 : Int32) = (0 : Int32)))).1) k) ?_
    show own_Fin p e below G (T353.setTop (mkF m 381 #[iv p1, iv p2, iv p3, iv (3 : Int32), rv b255, rv b258, rv b261, rv b264, rv b267, iv ((((c0 * u1) * u2) + (c1 * u2)) + c2), iv ((u0 * u1) * u2), iv (1 : Int32), iv (1 : Int32), iv (1 : Int32)] []))
    refine own_st (fun _ k => XS.iload X353.here hx rfl (hb hby at_381) rfl  k) ?_
    show own_Fin p e below G (T353.setTop (mkF m 383 #[iv p1, iv p2, iv p3, iv (3 : Int32), rv b255, rv b258, rv b261, rv b264, rv b267, iv ((((c0 * u1) * u2) + (c1 * u2)) + c2), iv ((u0 * u1) * u2), iv (1 : Int32), iv (1 : Int32), iv (1 : Int32)] [(.int (1 : Int32))]))
    refine own_st (fun _ k => XS.ifNo X353.here hx rfl (hb hby at_383) rfl ((if0 _ _).trans (feq (by decide : ¬ ((1 : Int32) = (0 : Int32)))).1) k) ?_
    show own_Fin p e below G (T353.setTop (mkF m 386 #[iv p1, iv p2, iv p3, iv (3 : Int32), rv b255, rv b258, rv b261, rv b264, rv b267, iv ((((c0 * u1) * u2) + (c1 * u2)) + c2), iv ((u0 * u1) * u2), iv (1 : Int32), iv (1 : Int32), iv (1 : Int32)] []))
    refine own_st (fun _ k => XS.iloadN X353.here hx rfl (hb hby at_386) rfl  k) ?_
    show own_Fin p e below G (T353.setTop (mkF m 387 #[iv p1, iv p2, iv p3, iv (3 : Int32), rv b255, rv b258, rv b261, rv b264, rv b267, iv ((((c0 * u1) * u2) + (c1 * u2)) + c2), iv ((u0 * u1) * u2), iv (1 : Int32), iv (1 : Int32), iv (1 : Int32)] [(.int (3 : Int32))]))
    refine own_st (fun _ k => XS.aload X353.here hx rfl (hb hby at_387) rfl rfl k) ?_
    show own_Fin p e below G (T353.setTop (mkF m 389 #[iv p1, iv p2, iv p3, iv (3 : Int32), rv b255, rv b258, rv b261, rv b264, rv b267, iv ((((c0 * u1) * u2) + (c1 * u2)) + c2), iv ((u0 * u1) * u2), iv (1 : Int32), iv (1 : Int32), iv (1 : Int32)] [(.ref b261), (.int (3 : Int32))]))
    refine own_st (fun _ k => XS.aload X353.here hx rfl (hb hby at_389) rfl rfl k) ?_
    show own_Fin p e below G (T353.setTop (mkF m 391 #[iv p1, iv p2, iv p3, iv (3 : Int32), rv b255, rv b258, rv b261, rv b264, rv b267, iv ((((c0 * u1) * u2) + (c1 * u2)) + c2), iv ((u0 * u1) * u2), iv (1 : Int32), iv (1 : Int32), iv (1 : Int32)] [(.ref b255), (.ref b261), (.int (3 : Int32))]))
    obtain ⟨_, _, ⟨T354, L354, k354, n354⟩, -, X354, ⟨Lc354, hQ354, l354, y354, z354⟩, st354⟩ := Jvm.LawKit.callS X353 hx (y := own_y0) hown (mvT hZ (own_w hw 1 rfl)) (mvT hZ (own_w hw 2 rfl)) (mvT hZ (own_w hw 3 rfl)) (mvT hZ (own_w hw 4 rfl)) (by decide) (backOf (W := 0) (rm_v3 l Z a0 hw [] b261 b255 c0 (c1 + (1 : Int32)) (0 : Int32) u0 u1 u2 h347 n0 (Nat.le_trans Z0 K349.1) V347 f348_0) hZ (own_w hw 4 rfl) (own_w hw 3 rfl) (by decide) (by decide)) (g := (mkF m 391 #[iv p1, iv p2, iv p3, iv (3 : Int32), rv b255, rv b258, rv b261, rv b264, rv b267, iv ((((c0 * u1) * u2) + (c1 * u2)) + c2), iv ((u0 * u1) * u2), iv (1 : Int32), iv (1 : Int32), iv (1 : Int32)] [(.ref b255), (.ref b261), (.int (3 : Int32))])) rfl (by rw [hml]; rfl) (argsL := [(.int (3 : Int32)), (.ref b261), (.ref b255)]) (rest := []) (lenOf pd__I_I_I_I_555 rfl) rfl (by show 2 * 0 + _ ≤ _; exact Nat.le_of_eq rfl) (hb hby at_391) (fun _ _ => ⟨rfl, e353, (by decide : 5 + 0 ≤ _), (by decide : 15 + 0 ≤ _)⟩)
    clear V347 f348_0 K349 X353 e353
    dsimp only [Pt.U, Pt.locs, Pt.cells, Pt.slots] at X354 l354 y354 z354 st354 hQ354
    obtain rfl : k354 = (5 : Nat) := y354
    obtain rfl : n354 = (15 : Nat) := z354
    obtain ⟨rfl, N354q, e354⟩ := hQ354
    clear e354
    skip
    have N354 : Fr n0 L354 := by rw [l354]; exact Fr.app N353 N354q
    clear N353 l354 N354q
    refine own_st st354 ?_
    clear st354
    show own_Fin p e below G (T354.setTop (mkF m 394 #[iv p1, iv p2, iv p3, iv (3 : Int32), rv b255, rv b258, rv b261, rv b264, rv b267, iv ((((c0 * u1) * u2) + (c1 * u2)) + c2), iv ((u0 * u1) * u2), iv (1 : Int32), iv (1 : Int32), iv (1 : Int32)] [(.int ((((c0 * u1) * u2) + ((c1 + (1 : Int32)) * u2)) + (0 : Int32)))]))
    refine own_st (fun _ k => XS.iload X354.here hx rfl (hb hby at_394) rfl  k) ?_
    show own_Fin p e below G (T354.setTop (mkF m 396 #[iv p1, iv p2, iv p3, iv (3 : Int32), rv b255, rv b258, rv b261, rv b264, rv b267, iv ((((c0 * u1) * u2) + (c1 * u2)) + c2), iv ((u0 * u1) * u2), iv (1 : Int32), iv (1 : Int32), iv (1 : Int32)] [(.int ((((c0 * u1) * u2) + (c1 * u2)) + c2)), (.int ((((c0 * u1) * u2) + ((c1 + (1 : Int32)) * u2)) + (0 : Int32)))]))
    refine own_st (fun _ k => XS.iconst X354.here hx rfl (hb hby at_396) k) ?_
    show own_Fin p e below G (T354.setTop (mkF m 397 #[iv p1, iv p2, iv p3, iv (3 : Int32), rv b255, rv b258, rv b261, rv b264, rv b267, iv ((((c0 * u1) * u2) + (c1 * u2)) + c2), iv ((u0 * u1) * u2), iv (1 : Int32), iv (1 : Int32), iv (1 : Int32)] [(.int (1 : Int32)), (.int ((((c0 * u1) * u2) + (c1 * u2)) + c2)), (.int ((((c0 * u1) * u2) + ((c1 + (1 : Int32)) * u2)) + (0 : Int32)))]))
    refine own_st (fun _ k => XS.iadd X354.here hx rfl (hb hby at_397) rfl k) ?_
    show own_Fin p e below G (T354.setTop (mkF m 398 #[iv p1, iv p2, iv p3, iv (3 : Int32), rv b255, rv b258, rv b261, rv b264, rv b267, iv ((((c0 * u1) * u2) + (c1 * u2)) + c2), iv ((u0 * u1) * u2), iv (1 : Int32), iv (1 : Int32), iv (1 : Int32)] [(.int (((((c0 * u1) * u2) + (c1 * u2)) + c2) + (1 : Int32))), (.int ((((c0 * u1) * u2) + ((c1 + (1 : Int32)) * u2)) + (0 : Int32)))]))
    refine own_st (fun _ k => XS.icmpNo X354.here hx rfl (hb hby at_398) rfl (teq (own_w3b r_c0 r_c1 r_c2 r_u0 r_u1 r_u2 d0 d1).2).2 k) ?_
    show own_Fin p e below G (T354.setTop (mkF m 401 #[iv p1, iv p2, iv p3, iv (3 : Int32), rv b255, rv b258, rv b261, rv b264, rv b267, iv ((((c0 * u1) * u2) + (c1 * u2)) + c2), iv ((u0 * u1) * u2), iv (1 : Int32), iv (1 : Int32), iv (1 : Int32)] []))
    refine own_st (fun _ k => XS.iconst X354.here hx rfl (hb hby at_401) k) ?_
    show own_Fin p e below G (T354.setTop (mkF m 402 #[iv p1, iv p2, iv p3, iv (3 : Int32), rv b255, rv b258, rv b261, rv b264, rv b267, iv ((((c0 * u1) * u2) + (c1 * u2)) + c2), iv ((u0 * u1) * u2), iv (1 : Int32), iv (1 : Int32), iv (1 : Int32)] [(.int (1 : Int32))]))
    refine own_st (fun _ k => XS.goto X354.here hx rfl (pc0 := 402) (pc' := 406) rfl (hb hby at_402) (by decide) (by decide) k) ?_
    show own_Fin p e below G (T354.setTop (mkF m 406 #[iv p1, iv p2, iv p3, iv (3 : Int32), rv b255, rv b258, rv b261, rv b264, rv b267, iv ((((c0 * u1) * u2) + (c1 * u2)) + c2), iv ((u0 * u1) * u2), iv (1 : Int32), iv (1 : Int32), iv (1 : Int32)] [(.int (1 : Int32))]))
    refine own_out X354 Bd.notSynchronized (v := (some (.int (1 : Int32)))) (fun h => by rw [Bd.returns] at h; cases h) hG (fun fs hr => retN X354 hx (t := .boolean) Bd.returns (by simp) (hb hby at_406) hr) (by decide) (by decide) ?_
    exact ⟨rfl, N354⟩
  · show own_Fin p e below G (T320.setTop (mkF m 199 #[iv p1, iv p2, iv p3, iv (3 : Int32), rv b255, rv b258, rv b261, rv b264, rv b267, iv ((((c0 * u1) * u2) + (c1 * u2)) + c2), iv ((u0 * u1) * u2), .unset, .unset, .unset] [(.int (1 : Int32))]))
    refine own_st (fun _ k => XS.istore X320.here hx rfl (hb hby at_199) rfl (l' := #[iv p1, iv p2, iv p3, iv (3 : Int32), rv b255, rv b258, rv b261, rv b264, rv b267, iv ((((c0 * u1) * u2) + (c1 * u2)) + c2), iv ((u0 * u1) * u2), iv (1 : Int32), .unset, .unset]) rfl k) ?_
    show own_Fin p e below G (T320.setTop (mkF m 201 #[iv p1, iv p2, iv p3, iv (3 : Int32), rv b255, rv b258, rv b261, rv b264, rv b267, iv ((((c0 * u1) * u2) + (c1 * u2)) + c2), iv ((u0 * u1) * u2), iv (1 : Int32), .unset, .unset] []))
    refine own_st (fun _ k => XS.iconst X320.here hx rfl (hb hby at_201) k) ?_
    show own_Fin p e below G (T320.setTop (mkF m 202 #[iv p1, iv p2, iv p3, iv (3 : Int32), rv b255, rv b258, rv b261, rv b264, rv b267, iv ((((c0 * u1) * u2) + (c1 * u2)) + c2), iv ((u0 * u1) * u2), iv (1 : Int32), .unset, .unset] [(.int (1 : Int32))]))
    refine own_st (fun _ k => XS.istore X320.here hx rfl (hb hby at_202) rfl (l' := #[iv p1, iv p2, iv p3, iv (3 : Int32), rv b255, rv b258, rv b261, rv b264, rv b267, iv ((((c0 * u1) * u2) + (c1 * u2)) + c2), iv ((u0 * u1) * u2), iv (1 : Int32), iv (1 : Int32), .unset]) rfl k) ?_
    show own_Fin p e below G (T320.setTop (mkF m 204 #[iv p1, iv p2, iv p3, iv (3 : Int32), rv b255, rv b258, rv b261, rv b264, rv b267, iv ((((c0 * u1) * u2) + (c1 * u2)) + c2), iv ((u0 * u1) * u2), iv (1 : Int32), iv (1 : Int32), .unset] []))
    refine own_st (fun _ k => XS.iloadN X320.here hx rfl (hb hby at_204) rfl  k) ?_
    show own_Fin p e below G (T320.setTop (mkF m 205 #[iv p1, iv p2, iv p3, iv (3 : Int32), rv b255, rv b258, rv b261, rv b264, rv b267, iv ((((c0 * u1) * u2) + (c1 * u2)) + c2), iv ((u0 * u1) * u2), iv (1 : Int32), iv (1 : Int32), .unset] [(.int (3 : Int32))]))
    refine own_st (fun _ k => XS.ifNo X320.here hx rfl (hb hby at_205) rfl ((if0 _ _).trans (tlt (by decide : ((0 : Int32) < (3 : Int32)))).2.2.2) k) ?_
    show own_Fin p e below G (T320.setTop (mkF m 208 #[iv p1, iv p2, iv p3, iv (3 : Int32), rv b255, rv b258, rv b261, rv b264, rv b267, iv ((((c0 * u1) * u2) + (c1 * u2)) + c2), iv ((u0 * u1) * u2), iv (1 : Int32), iv (1 : Int32), .unset] []))
    refine own_st (fun _ k => XS.aload X320.here hx rfl (hb hby at_208) rfl rfl k) ?_
    show own_Fin p e below G (T320.setTop (mkF m 210 #[iv p1, iv p2, iv p3, iv (3 : Int32), rv b255, rv b258, rv b261, rv b264, rv b267, iv ((((c0 * u1) * u2) + (c1 * u2)) + c2), iv ((u0 * u1) * u2), iv (1 : Int32), iv (1 : Int32), .unset] [(.ref b261)]))
    refine own_st (fun _ k => XS.iconst X320.here hx rfl (hb hby at_210) k) ?_
    show own_Fin p e below G (T320.setTop (mkF m 211 #[iv p1, iv p2, iv p3, iv (3 : Int32), rv b255, rv b258, rv b261, rv b264, rv b267, iv ((((c0 * u1) * u2) + (c1 * u2)) + c2), iv ((u0 * u1) * u2), iv (1 : Int32), iv (1 : Int32), .unset] [(.int (0 : Int32)), (.ref b261)]))
    refine own_st (fun _ k => XS.aload X320.here hx rfl (hb hby at_211) rfl rfl k) ?_
    show own_Fin p e below G (T320.setTop (mkF m 213 #[iv p1, iv p2, iv p3, iv (3 : Int32), rv b255, rv b258, rv b261, rv b264, rv b267, iv ((((c0 * u1) * u2) + (c1 * u2)) + c2), iv ((u0 * u1) * u2), iv (1 : Int32), iv (1 : Int32), .unset] [(.ref b267), (.int (0 : Int32)), (.ref b261)]))
    refine own_st (fun _ k => XS.iconst X320.here hx rfl (hb hby at_213) k) ?_
    show own_Fin p e below G (T320.setTop (mkF m 214 #[iv p1, iv p2, iv p3, iv (3 : Int32), rv b255, rv b258, rv b261, rv b264, rv b267, iv ((((c0 * u1) * u2) + (c1 * u2)) + c2), iv ((u0 * u1) * u2), iv (1 : Int32), iv (1 : Int32), .unset] [(.int (0 : Int32)), (.ref b267), (.int (0 : Int32)), (.ref b261)]))
    refine own_st (fun _ k => own_ldI X320 hx hZ rfl gA320 (j := (0 : Int32)) (n := 3) rfl (by decide) (g := (mkF m 214 #[iv p1, iv p2, iv p3, iv (3 : Int32), rv b255, rv b258, rv b261, rv b264, rv b267, iv ((((c0 * u1) * u2) + (c1 * u2)) + c2), iv ((u0 * u1) * u2), iv (1 : Int32), iv (1 : Int32), .unset] [(.int (0 : Int32)), (.ref b267), (.int (0 : Int32)), (.ref b261)])) rfl rfl (hb hby at_214) k) ?_
    show own_Fin p e below G (T320.setTop (mkF m 215 #[iv p1, iv p2, iv p3, iv (3 : Int32), rv b255, rv b258, rv b261, rv b264, rv b267, iv ((((c0 * u1) * u2) + (c1 * u2)) + c2), iv ((u0 * u1) * u2), iv (1 : Int32), iv (1 : Int32), .unset] [(.int (c0 + (1 : Int32))), (.int (0 : Int32)), (.ref b261)]))
    obtain ⟨T355, h355, X355, e355, W355, V355, st355⟩ := own_stI X320 hx hZ rfl f321_2 (j := (0 : Int32)) (n := 3) rfl (by decide) (g := (mkF m 215 #[iv p1, iv p2, iv p3, iv (3 : Int32), rv b255, rv b258, rv b261, rv b264, rv b267, iv ((((c0 * u1) * u2) + (c1 * u2)) + c2), iv ((u0 * u1) * u2), iv (1 : Int32), iv (1 : Int32), .unset] [(.int (c0 + (1 : Int32))), (.int (0 : Int32)), (.ref b261)])) rfl rfl (hb hby at_215)
    have f356_0 := f321_0.other W355 ne_b255_b261
    have f356_1 := f321_1.other W355 ne_b258_b261
    have f356_3 := f321_3.other W355 (Ne.symm ne_b261_b264)
    have f356_4 := gA320.other W355 (Ne.symm ne_b261_b267)
    have K357 : Keep h0 h355 [] := K322.wr W355 (Or.inr sz_b261)
    clear W355
    have N358 := Fr.snoc X355 N320 g_b261
    replace V355 : own_AV Z h355 b261 .int (own_is [(c0 + (1 : Int32)), (0 : Int32), (0 : Int32)]) := V355
    refine own_st st355 ?_
    clear st355
    show own_Fin p e below G (T355.setTop (mkF m 216 #[iv p1, iv p2, iv p3, iv (3 : Int32), rv b255, rv b258, rv b261, rv b264, rv b267, iv ((((c0 * u1) * u2) + (c1 * u2)) + c2), iv ((u0 * u1) * u2), iv (1 : Int32), iv (1 : Int32), .unset] []))
    refine own_st (fun _ k => XS.iload X355.here hx rfl (hb hby at_216) rfl  k) ?_
    show own_Fin p e below G (T355.setTop (mkF m 218 #[iv p1, iv p2, iv p3, iv (3 : Int32), rv b255, rv b258, rv b261, rv b264, rv b267, iv ((((c0 * u1) * u2) + (c1 * u2)) + c2), iv ((u0 * u1) * u2), iv (1 : Int32), iv (1 : Int32), .unset] [(.int (1 : Int32))]))
    refine own_st (fun _ k => XS.ifNo X355.here hx rfl (hb hby at_218) rfl ((if0 _ _).trans (feq (by decide : ¬ ((1 : Int32) = (0 : Int32)))).1) k) ?_
    show own_Fin p e below G (T355.setTop (mkF m 221 #[iv p1, iv p2, iv p3, iv (3 : Int32), rv b255, rv b258, rv b261, rv b264, rv b267, iv ((((c0 * u1) * u2) + (c1 * u2)) + c2), iv ((u0 * u1) * u2), iv (1 : Int32), iv (1 : Int32), .unset] []))
    refine own_st (fun _ k => XS.aload X355.here hx rfl (hb hby at_221) rfl rfl k) ?_
    show own_Fin p e below G (T355.setTop (mkF m 223 #[iv p1, iv p2, iv p3, iv (3 : Int32), rv b255, rv b258, rv b261, rv b264, rv b267, iv ((((c0 * u1) * u2) + (c1 * u2)) + c2), iv ((u0 * u1) * u2), iv (1 : Int32), iv (1 : Int32), .unset] [(.ref b264)]))
    refine own_st (fun _ k => XS.iconst X355.here hx rfl (hb hby at_223) k) ?_
    show own_Fin p e below G (T355.setTop (mkF m 224 #[iv p1, iv p2, iv p3, iv (3 : Int32), rv b255, rv b258, rv b261, rv b264, rv b267, iv ((((c0 * u1) * u2) + (c1 * u2)) + c2), iv ((u0 * u1) * u2), iv (1 : Int32), iv (1 : Int32), .unset] [(.int (0 : Int32)), (.ref b264)]))
    refine own_st (fun _ k => own_ldI X355 hx hZ e355 f356_3 (j := (0 : Int32)) (n := 3) rfl (by decide) (g := (mkF m 224 #[iv p1, iv p2, iv p3, iv (3 : Int32), rv b255, rv b258, rv b261, rv b264, rv b267, iv ((((c0 * u1) * u2) + (c1 * u2)) + c2), iv ((u0 * u1) * u2), iv (1 : Int32), iv (1 : Int32), .unset] [(.int (0 : Int32)), (.ref b264)])) rfl rfl (hb hby at_224) k) ?_
    show own_Fin p e below G (T355.setTop (mkF m 225 #[iv p1, iv p2, iv p3, iv (3 : Int32), rv b255, rv b258, rv b261, rv b264, rv b267, iv ((((c0 * u1) * u2) + (c1 * u2)) + c2), iv ((u0 * u1) * u2), iv (1 : Int32), iv (1 : Int32), .unset] [(.int u0)]))
    refine own_st (fun _ k => XS.aload X355.here hx rfl (hb hby at_225) rfl rfl k) ?_
    show own_Fin p e below G (T355.setTop (mkF m 227 #[iv p1, iv p2, iv p3, iv (3 : Int32), rv b255, rv b258, rv b261, rv b264, rv b267, iv ((((c0 * u1) * u2) + (c1 * u2)) + c2), iv ((u0 * u1) * u2), iv (1 : Int32), iv (1 : Int32), .unset] [(.ref b255), (.int u0)]))
    refine own_st (fun _ k => XS.iconst X355.here hx rfl (hb hby at_227) k) ?_
    show own_Fin p e below G (T355.setTop (mkF m 228 #[iv p1, iv p2, iv p3, iv (3 : Int32), rv b255, rv b258, rv b261, rv b264, rv b267, iv ((((c0 * u1) * u2) + (c1 * u2)) + c2), iv ((u0 * u1) * u2), iv (1 : Int32), iv (1 : Int32), .unset] [(.int (0 : Int32)), (.ref b255), (.int u0)]))
    refine own_st (fun _ k => own_ldI X355 hx hZ e355 f356_0 (j := (0 : Int32)) (n := 3) rfl (by decide) (g := (mkF m 228 #[iv p1, iv p2, iv p3, iv (3 : Int32), rv b255, rv b258, rv b261, rv b264, rv b267, iv ((((c0 * u1) * u2) + (c1 * u2)) + c2), iv ((u0 * u1) * u2), iv (1 : Int32), iv (1 : Int32), .unset] [(.int (0 : Int32)), (.ref b255), (.int u0)])) rfl rfl (hb hby at_228) k) ?_
    show own_Fin p e below G (T355.setTop (mkF m 229 #[iv p1, iv p2, iv p3, iv (3 : Int32), rv b255, rv b258, rv b261, rv b264, rv b267, iv ((((c0 * u1) * u2) + (c1 * u2)) + c2), iv ((u0 * u1) * u2), iv (1 : Int32), iv (1 : Int32), .unset] [(.int u0), (.int u0)]))
    refine own_st (fun _ k => XS.icmpNo X355.here hx rfl (hb hby at_229) rfl (teq (rfl : u0 = u0)).2 k) ?_
    show own_Fin p e below G (T355.setTop (mkF m 232 #[iv p1, iv p2, iv p3, iv (3 : Int32), rv b255, rv b258, rv b261, rv b264, rv b267, iv ((((c0 * u1) * u2) + (c1 * u2)) + c2), iv ((u0 * u1) * u2), iv (1 : Int32), iv (1 : Int32), .unset] []))
    refine own_st (fun _ k => XS.iconst X355.here hx rfl (hb hby at_232) k) ?_
    show own_Fin p e below G (T355.setTop (mkF m 233 #[iv p1, iv p2, iv p3, iv (3 : Int32), rv b255, rv b258, rv b261, rv b264, rv b267, iv ((((c0 * u1) * u2) + (c1 * u2)) + c2), iv ((u0 * u1) * u2), iv (1 : Int32), iv (1 : Int32), .unset] [(.int (1 : Int32))]))
    refine own_st (fun _ k => XS.goto X355.here hx rfl (pc0 := 233) (pc' := 237) rfl (hb hby at_233) (by decide) (by decide) k) ?_
    show own_Fin p e below G (T355.setTop (mkF m 237 #[iv p1, iv p2, iv p3, iv (3 : Int32), rv b255, rv b258, rv b261, rv b264, rv b267, iv ((((c0 * u1) * u2) + (c1 * u2)) + c2), iv ((u0 * u1) * u2), iv (1 : Int32), iv (1 : Int32), .unset] [(.int (1 : Int32))]))
    refine own_st (fun _ k => XS.istore X355.here hx rfl (hb hby at_237) rfl (l' := #[iv p1, iv p2, iv p3, iv (3 : Int32), rv b255, rv b258, rv b261, rv b264, rv b267, iv ((((c0 * u1) * u2) + (c1 * u2)) + c2), iv ((u0 * u1) * u2), iv (1 : Int32), iv (1 : Int32), .unset]) rfl k) ?_
    show own_Fin p e below G (T355.setTop (mkF m 239 #[iv p1, iv p2, iv p3, iv (3 : Int32), rv b255, rv b258, rv b261, rv b264, rv b267, iv ((((c0 * u1) * u2) + (c1 * u2)) + c2), iv ((u0 * u1) * u2), iv (1 : Int32), iv (1 : Int32), .unset] []))
    refine own_st (fun _ k => XS.iloadN X355.here hx rfl (hb hby at_239) rfl  k) ?_
    show own_Fin p e below G (T355.setTop (mkF m 240 #[iv p1, iv p2, iv p3, iv (3 : Int32), rv b255, rv b258, rv b261, rv b264, rv b267, iv ((((c0 * u1) * u2) + (c1 * u2)) + c2), iv ((u0 * u1) * u2), iv (1 : Int32), iv (1 : Int32), .unset] [(.int (3 : Int32))]))
    refine own_st (fun _ k => XS.iconst X355.here hx rfl (hb hby at_240) k) ?_
    show own_Fin p e below G (T355.setTop (mkF m 241 #[iv p1, iv p2, iv p3, iv (3 : Int32), rv b255, rv b258, rv b261, rv b264, rv b267, iv ((((c0 * u1) * u2) + (c1 * u2)) + c2), iv ((u0 * u1) * u2), iv (1 : Int32), iv (1 : Int32), .unset] [(.int (1 : Int32)), (.int (3 : Int32))]))
    refine own_st (fun _ k => XS.icmpNo X355.here hx rfl (hb hby at_241) rfl (tlt (by decide : ((1 : Int32) < (3 : Int32)))).2.2.2 k) ?_
    show own_Fin p e below G (T355.setTop (mkF m 244 #[iv p1, iv p2, iv p3, iv (3 : Int32), rv b255, rv b258, rv b261, rv b264, rv b267, iv ((((c0 * u1) * u2) + (c1 * u2)) + c2), iv ((u0 * u1) * u2), iv (1 : Int32), iv (1 : Int32), .unset] []))
    refine own_st (fun _ k => XS.aload X355.here hx rfl (hb hby at_244) rfl rfl k) ?_
    show own_Fin p e below G (T355.setTop (mkF m 246 #[iv p1, iv p2, iv p3, iv (3 : Int32), rv b255, rv b258, rv b261, rv b264, rv b267, iv ((((c0 * u1) * u2) + (c1 * u2)) + c2), iv ((u0 * u1) * u2), iv (1 : Int32), iv (1 : Int32), .unset] [(.ref b261)]))
    refine own_st (fun _ k => XS.iconst X355.here hx rfl (hb hby at_246) k) ?_
    show own_Fin p e below G (T355.setTop (mkF m 247 #[iv p1, iv p2, iv p3, iv (3 : Int32), rv b255, rv b258, rv b261, rv b264, rv b267, iv ((((c0 * u1) * u2) + (c1 * u2)) + c2), iv ((u0 * u1) * u2), iv (1 : Int32), iv (1 : Int32), .unset] [(.int (1 : Int32)), (.ref b261)]))
    refine own_st (fun _ k => XS.aload X355.here hx rfl (hb hby at_247) rfl rfl k) ?_
    show own_Fin p e below G (T355.setTop (mkF m 249 #[iv p1, iv p2, iv p3, iv (3 : Int32), rv b255, rv b258, rv b261, rv b264, rv b267, iv ((((c0 * u1) * u2) + (c1 * u2)) + c2), iv ((u0 * u1) * u2), iv (1 : Int32), iv (1 : Int32), .unset] [(.ref b267), (.int (1 : Int32)), (.ref b261)]))
    refine own_st (fun _ k => XS.iconst X355.here hx rfl (hb hby at_249) k) ?_
    show own_Fin p e below G (T355.setTop (mkF m 250 #[iv p1, iv p2, iv p3, iv (3 : Int32), rv b255, rv b258, rv b261, rv b264, rv b267, iv ((((c0 * u1) * u2) + (c1 * u2)) + c2), iv ((u0 * u1) * u2), iv (1 : Int32), iv (1 : Int32), .unset] [(.int (1 : Int32)), (.ref b267), (.int (1 : Int32)), (.ref b261)]))
    refine own_st (fun _ k => own_ldI X355 hx hZ e355 f356_4 (j := (1 : Int32)) (n := 3) rfl (by decide) (g := (mkF m 250 #[iv p1, iv p2, iv p3, iv (3 : Int32), rv b255, rv b258, rv b261, rv b264, rv b267, iv ((((c0 * u1) * u2) + (c1 * u2)) + c2), iv ((u0 * u1) * u2), iv (1 : Int32), iv (1 : Int32), .unset] [(.int (1 : Int32)), (.ref b267), (.int (1 : Int32)), (.ref b261)])) rfl rfl (hb hby at_250) k) ?_
    show own_Fin p e below G (T355.setTop (mkF m 251 #[iv p1, iv p2, iv p3, iv (3 : Int32), rv b255, rv b258, rv b261, rv b264, rv b267, iv ((((c0 * u1) * u2) + (c1 * u2)) + c2), iv ((u0 * u1) * u2), iv (1 : Int32), iv (1 : Int32), .unset] [(.int (0 : Int32)), (.int (1 : Int32)), (.ref b261)]))
    obtain ⟨T359, h359, X359, e359, W359, V359, st359⟩ := own_stI X355 hx hZ e355 V355 (j := (1 : Int32)) (n := 3) rfl (by decide) (g := (mkF m 251 #[iv p1, iv p2, iv p3, iv (3 : Int32), rv b255, rv b258, rv b261, rv b264, rv b267, iv ((((c0 * u1) * u2) + (c1 * u2)) + c2), iv ((u0 * u1) * u2), iv (1 : Int32), iv (1 : Int32), .unset] [(.int (0 : Int32)), (.int (1 : Int32)), (.ref b261)])) rfl rfl (hb hby at_251)
    clear X355 e355 V355
    have f360_0 := f356_0.other W359 ne_b255_b261
    clear f356_0
    have f360_1 := f356_1.other W359 ne_b258_b261
    clear f356_1
    have f360_3 := f356_3.other W359 (Ne.symm ne_b261_b264)
    clear f356_3
    have f360_4 := f356_4.other W359 (Ne.symm ne_b261_b267)
    clear f356_4
    have K361 : Keep h0 h359 [] := K357.wr W359 (Or.inr sz_b261)
    clear K357 W359
    have N362 := Fr.snoc X359 N358 g_b261
    clear N358
    replace V359 : own_AV Z h359 b261 .int (own_is [(c0 + (1 : Int32)), (0 : Int32), (0 : Int32)]) := V359
    refine own_st st359 ?_
    clear st359
    show own_Fin p e below G (T359.setTop (mkF m 252 #[iv p1, iv p2, iv p3, iv (3 : Int32), rv b255, rv b258, rv b261, rv b264, rv b267, iv ((((c0 * u1) * u2) + (c1 * u2)) + c2), iv ((u0 * u1) * u2), iv (1 : Int32), iv (1 : Int32), .unset] []))
    refine own_st (fun _ k => XS.iload X359.here hx rfl (hb hby at_252) rfl  k) ?_
    show own_Fin p e below G (T359.setTop (mkF m 254 #[iv p1, iv p2, iv p3, iv (3 : Int32), rv b255, rv b258, rv b261, rv b264, rv b267, iv ((((c0 * u1) * u2) + (c1 * u2)) + c2), iv ((u0 * u1) * u2), iv (1 : Int32), iv (1 : Int32), .unset] [(.int (1 : Int32))]))
    refine own_st (fun _ k => XS.ifNo X359.here hx rfl (hb hby at_254) rfl ((if0 _ _).trans (feq (by decide : ¬ ((1 : Int32) = (0 : Int32)))).1) k) ?_
    show own_Fin p e below G (T359.setTop (mkF m 257 #[iv p1, iv p2, iv p3, iv (3 : Int32), rv b255, rv b258, rv b261, rv b264, rv b267, iv ((((c0 * u1) * u2) + (c1 * u2)) + c2), iv ((u0 * u1) * u2), iv (1 : Int32), iv (1 : Int32), .unset] []))
    refine own_st (fun _ k => XS.aload X359.here hx rfl (hb hby at_257) rfl rfl k) ?_
    show own_Fin p e below G (T359.setTop (mkF m 259 #[iv p1, iv p2, iv p3, iv (3 : Int32), rv b255, rv b258, rv b261, rv b264, rv b267, iv ((((c0 * u1) * u2) + (c1 * u2)) + c2), iv ((u0 * u1) * u2), iv (1 : Int32), iv (1 : Int32), .unset] [(.ref b264)]))
    refine own_st (fun _ k => XS.iconst X359.here hx rfl (hb hby at_259) k) ?_
    show own_Fin p e below G (T359.setTop (mkF m 260 #[iv p1, iv p2, iv p3, iv (3 : Int32), rv b255, rv b258, rv b261, rv b264, rv b267, iv ((((c0 * u1) * u2) + (c1 * u2)) + c2), iv ((u0 * u1) * u2), iv (1 : Int32), iv (1 : Int32), .unset] [(.int (1 : Int32)), (.ref b264)]))
    refine own_st (fun _ k => own_ldI X359 hx hZ e359 f360_3 (j := (1 : Int32)) (n := 3) rfl (by decide) (g := (mkF m 260 #[iv p1, iv p2, iv p3, iv (3 : Int32), rv b255, rv b258, rv b261, rv b264, rv b267, iv ((((c0 * u1) * u2) + (c1 * u2)) + c2), iv ((u0 * u1) * u2), iv (1 : Int32), iv (1 : Int32), .unset] [(.int (1 : Int32)), (.ref b264)])) rfl rfl (hb hby at_260) k) ?_
    show own_Fin p e below G (T359.setTop (mkF m 261 #[iv p1, iv p2, iv p3, iv (3 : Int32), rv b255, rv b258, rv b261, rv b264, rv b267, iv ((((c0 * u1) * u2) + (c1 * u2)) + c2), iv ((u0 * u1) * u2), iv (1 : Int32), iv (1 : Int32), .unset] [(.int u1)]))
    refine own_st (fun _ k => XS.aload X359.here hx rfl (hb hby at_261) rfl rfl k) ?_
    show own_Fin p e below G (T359.setTop (mkF m 263 #[iv p1, iv p2, iv p3, iv (3 : Int32), rv b255, rv b258, rv b261, rv b264, rv b267, iv ((((c0 * u1) * u2) + (c1 * u2)) + c2), iv ((u0 * u1) * u2), iv (1 : Int32), iv (1 : Int32), .unset] [(.ref b255), (.int u1)]))
    refine own_st (fun _ k => XS.iconst X359.here hx rfl (hb hby at_263) k) ?_
    show own_Fin p e below G (T359.setTop (mkF m 264 #[iv p1, iv p2, iv p3, iv (3 : Int32), rv b255, rv b258, rv b261, rv b264, rv b267, iv ((((c0 * u1) * u2) + (c1 * u2)) + c2), iv ((u0 * u1) * u2), iv (1 : Int32), iv (1 : Int32), .unset] [(.int (1 : Int32)), (.ref b255), (.int u1)]))
    refine own_st (fun _ k => own_ldI X359 hx hZ e359 f360_0 (j := (1 : Int32)) (n := 3) rfl (by decide) (g := (mkF m 264 #[iv p1, iv p2, iv p3, iv (3 : Int32), rv b255, rv b258, rv b261, rv b264, rv b267, iv ((((c0 * u1) * u2) + (c1 * u2)) + c2), iv ((u0 * u1) * u2), iv (1 : Int32), iv (1 : Int32), .unset] [(.int (1 : Int32)), (.ref b255), (.int u1)])) rfl rfl (hb hby at_264) k) ?_
    show own_Fin p e below G (T359.setTop (mkF m 265 #[iv p1, iv p2, iv p3, iv (3 : Int32), rv b255, rv b258, rv b261, rv b264, rv b267, iv ((((c0 * u1) * u2) + (c1 * u2)) + c2), iv ((u0 * u1) * u2), iv (1 : Int32), iv (1 : Int32), .unset] [(.int u1), (.int u1)]))
    refine own_st (fun _ k => XS.icmpNo X359.here hx rfl (hb hby at_265) rfl (teq (rfl : u1 = u1)).2 k) ?_
    show own_Fin p e below G (T359.setTop (mkF m 268 #[iv p1, iv p2, iv p3, iv (3 : Int32), rv b255, rv b258, rv b261, rv b264, rv b267, iv ((((c0 * u1) * u2) + (c1 * u2)) + c2), iv ((u0 * u1) * u2), iv (1 : Int32), iv (1 : Int32), .unset] []))
    refine own_st (fun _ k => XS.iconst X359.here hx rfl (hb hby at_268) k) ?_
    show own_Fin p e below G (T359.setTop (mkF m 269 #[iv p1, iv p2, iv p3, iv (3 : Int32), rv b255, rv b258, rv b261, rv b264, rv b267, iv ((((c0 * u1) * u2) + (c1 * u2)) + c2), iv ((u0 * u1) * u2), iv (1 : Int32), iv (1 : Int32), .unset] [(.int (1 : Int32))]))
    refine own_st (fun _ k => XS.goto X359.here hx rfl (pc0 := 269) (pc' := 273) rfl (hb hby at_269) (by decide) (by decide) k) ?_
    show own_Fin p e below G (T359.setTop (mkF m 273 #[iv p1, iv p2, iv p3, iv (3 : Int32), rv b255, rv b258, rv b261, rv b264, rv b267, iv ((((c0 * u1) * u2) + (c1 * u2)) + c2), iv ((u0 * u1) * u2), iv (1 : Int32), iv (1 : Int32), .unset] [(.int (1 : Int32))]))
    refine own_st (fun _ k => XS.istore X359.here hx rfl (hb hby at_273) rfl (l' := #[iv p1, iv p2, iv p3, iv (3 : Int32), rv b255, rv b258, rv b261, rv b264, rv b267, iv ((((c0 * u1) * u2) + (c1 * u2)) + c2), iv ((u0 * u1) * u2), iv (1 : Int32), iv (1 : Int32), .unset]) rfl k) ?_
    show own_Fin p e below G (T359.setTop (mkF m 275 #[iv p1, iv p2, iv p3, iv (3 : Int32), rv b255, rv b258, rv b261, rv b264, rv b267, iv ((((c0 * u1) * u2) + (c1 * u2)) + c2), iv ((u0 * u1) * u2), iv (1 : Int32), iv (1 : Int32), .unset] []))
    refine own_st (fun _ k => XS.iloadN X359.here hx rfl (hb hby at_275) rfl  k) ?_
    show own_Fin p e below G (T359.setTop (mkF m 276 #[iv p1, iv p2, iv p3, iv (3 : Int32), rv b255, rv b258, rv b261, rv b264, rv b267, iv ((((c0 * u1) * u2) + (c1 * u2)) + c2), iv ((u0 * u1) * u2), iv (1 : Int32), iv (1 : Int32), .unset] [(.int (3 : Int32))]))
    refine own_st (fun _ k => XS.iconst X359.here hx rfl (hb hby at_276) k) ?_
    show own_Fin p e below G (T359.setTop (mkF m 277 #[iv p1, iv p2, iv p3, iv (3 : Int32), rv b255, rv b258, rv b261, rv b264, rv b267, iv ((((c0 * u1) * u2) + (c1 * u2)) + c2), iv ((u0 * u1) * u2), iv (1 : Int32), iv (1 : Int32), .unset] [(.int (2 : Int32)), (.int (3 : Int32))]))
    refine own_st (fun _ k => XS.icmpNo X359.here hx rfl (hb hby at_277) rfl (tlt (by decide : ((2 : Int32) < (3 : Int32)))).2.2.2 k) ?_
    show own_Fin p e below G (T359.setTop (mkF m 280 #[iv p1, iv p2, iv p3, iv (3 : Int32), rv b255, rv b258, rv b261, rv b264, rv b267, iv ((((c0 * u1) * u2) + (c1 * u2)) + c2), iv ((u0 * u1) * u2), iv (1 : Int32), iv (1 : Int32), .unset] []))
    refine own_st (fun _ k => XS.aload X359.here hx rfl (hb hby at_280) rfl rfl k) ?_
    show own_Fin p e below G (T359.setTop (mkF m 282 #[iv p1, iv p2, iv p3, iv (3 : Int32), rv b255, rv b258, rv b261, rv b264, rv b267, iv ((((c0 * u1) * u2) + (c1 * u2)) + c2), iv ((u0 * u1) * u2), iv (1 : Int32), iv (1 : Int32), .unset] [(.ref b261)]))
    refine own_st (fun _ k => XS.iconst X359.here hx rfl (hb hby at_282) k) ?_
    show own_Fin p e below G (T359.setTop (mkF m 283 #[iv p1, iv p2, iv p3, iv (3 : Int32), rv b255, rv b258, rv b261, rv b264, rv b267, iv ((((c0 * u1) * u2) + (c1 * u2)) + c2), iv ((u0 * u1) * u2), iv (1 : Int32), iv (1 : Int32), .unset] [(.int (2 : Int32)), (.ref b261)]))
    refine own_st (fun _ k => XS.aload X359.here hx rfl (hb hby at_283) rfl rfl k) ?_
    show own_Fin p e below G (T359.setTop (mkF m 285 #[iv p1, iv p2, iv p3, iv (3 : Int32), rv b255, rv b258, rv b261, rv b264, rv b267, iv ((((c0 * u1) * u2) + (c1 * u2)) + c2), iv ((u0 * u1) * u2), iv (1 : Int32), iv (1 : Int32), .unset] [(.ref b267), (.int (2 : Int32)), (.ref b261)]))
    refine own_st (fun _ k => XS.iconst X359.here hx rfl (hb hby at_285) k) ?_
    show own_Fin p e below G (T359.setTop (mkF m 286 #[iv p1, iv p2, iv p3, iv (3 : Int32), rv b255, rv b258, rv b261, rv b264, rv b267, iv ((((c0 * u1) * u2) + (c1 * u2)) + c2), iv ((u0 * u1) * u2), iv (1 : Int32), iv (1 : Int32), .unset] [(.int (2 : Int32)), (.ref b267), (.int (2 : Int32)), (.ref b261)]))
    refine own_st (fun _ k => own_ldI X359 hx hZ e359 f360_4 (j := (2 : Int32)) (n := 3) rfl (by decide) (g := (mkF m 286 #[iv p1, iv p2, iv p3, iv (3 : Int32), rv b255, rv b258, rv b261, rv b264, rv b267, iv ((((c0 * u1) * u2) + (c1 * u2)) + c2), iv ((u0 * u1) * u2), iv (1 : Int32), iv (1 : Int32), .unset] [(.int (2 : Int32)), (.ref b267), (.int (2 : Int32)), (.ref b261)])) rfl rfl (hb hby at_286) k) ?_
    show own_Fin p e below G (T359.setTop (mkF m 287 #[iv p1, iv p2, iv p3, iv (3 : Int32), rv b255, rv b258, rv b261, rv b264, rv b267, iv ((((c0 * u1) * u2) + (c1 * u2)) + c2), iv ((u0 * u1) * u2), iv (1 : Int32), iv (1 : Int32), .unset] [(.int (0 : Int32)), (.int (2 : Int32)), (.ref b261)]))
    obtain ⟨T363, h363, X363, e363, W363, V363, st363⟩ := own_stI X359 hx hZ e359 V359 (j := (2 : Int32)) (n := 3) rfl (by decide) (g := (mkF m 287 #[iv p1, iv p2, iv p3, iv (3 : Int32), rv b255, rv b258, rv b261, rv b264, rv b267, iv ((((c0 * u1) * u2) + (c1 * u2)) + c2), iv ((u0 * u1) * u2), iv (1 : Int32), iv (1 : Int32), .unset] [(.int (0 : Int32)), (.int (2 : Int32)), (.ref b261)])) rfl rfl (hb hby at_287)
    clear X359 e359 V359
    have f364_0 := f360_0.other W363 ne_b255_b261
    clear f360_0
    have f364_1 := f360_1.other W363 ne_b258_b261
    clear f360_1 f364_1
    have f364_3 := f360_3.other W363 (Ne.symm ne_b261_b264)
    clear f360_3
    have f364_4 := f360_4.other W363 (Ne.symm ne_b261_b267)
    clear f360_4 f364_4
    have K365 : Keep h0 h363 [] := K361.wr W363 (Or.inr sz_b261)
    clear K361 W363
    have N366 := Fr.snoc X363 N362 g_b261
    clear N362
    replace V363 : own_AV Z h363 b261 .int (own_is [(c0 + (1 : Int32)), (0 : Int32), (0 : Int32)]) := V363
    refine own_st st363 ?_
    clear st363
    show own_Fin p e below G (T363.setTop (mkF m 288 #[iv p1, iv p2, iv p3, iv (3 : Int32), rv b255, rv b258, rv b261, rv b264, rv b267, iv ((((c0 * u1) * u2) + (c1 * u2)) + c2), iv ((u0 * u1) * u2), iv (1 : Int32), iv (1 : Int32), .unset] []))
    refine own_st (fun _ k => XS.iload X363.here hx rfl (hb hby at_288) rfl  k) ?_
    show own_Fin p e below G (T363.setTop (mkF m 290 #[iv p1, iv p2, iv p3, iv (3 : Int32), rv b255, rv b258, rv b261, rv b264, rv b267, iv ((((c0 * u1) * u2) + (c1 * u2)) + c2), iv ((u0 * u1) * u2), iv (1 : Int32), iv (1 : Int32), .unset] [(.int (1 : Int32))]))
    refine own_st (fun _ k => XS.ifNo X363.here hx rfl (hb hby at_290) rfl ((if0 _ _).trans (feq (by decide : ¬ ((1 : Int32) = (0 : Int32)))).1) k) ?_
    show own_Fin p e below G (T363.setTop (mkF m 293 #[iv p1, iv p2, iv p3, iv (3 : Int32), rv b255, rv b258, rv b261, rv b264, rv b267, iv ((((c0 * u1) * u2) + (c1 * u2)) + c2), iv ((u0 * u1) * u2), iv (1 : Int32), iv (1 : Int32), .unset] []))
    refine own_st (fun _ k => XS.aload X363.here hx rfl (hb hby at_293) rfl rfl k) ?_
    show own_Fin p e below G (T363.setTop (mkF m 295 #[iv p1, iv p2, iv p3, iv (3 : Int32), rv b255, rv b258, rv b261, rv b264, rv b267, iv ((((c0 * u1) * u2) + (c1 * u2)) + c2), iv ((u0 * u1) * u2), iv (1 : Int32), iv (1 : Int32), .unset] [(.ref b264)]))
    refine own_st (fun _ k => XS.iconst X363.here hx rfl (hb hby at_295) k) ?_
    show own_Fin p e below G (T363.setTop (mkF m 296 #[iv p1, iv p2, iv p3, iv (3 : Int32), rv b255, rv b258, rv b261, rv b264, rv b267, iv ((((c0 * u1) * u2) + (c1 * u2)) + c2), iv ((u0 * u1) * u2), iv (1 : Int32), iv (1 : Int32), .unset] [(.int (2 : Int32)), (.ref b264)]))
    refine own_st (fun _ k => own_ldI X363 hx hZ e363 f364_3 (j := (2 : Int32)) (n := 3) rfl (by decide) (g := (mkF m 296 #[iv p1, iv p2, iv p3, iv (3 : Int32), rv b255, rv b258, rv b261, rv b264, rv b267, iv ((((c0 * u1) * u2) + (c1 * u2)) + c2), iv ((u0 * u1) * u2), iv (1 : Int32), iv (1 : Int32), .unset] [(.int (2 : Int32)), (.ref b264)])) rfl rfl (hb hby at_296) k) ?_
    clear f364_3
    show own_Fin p e below G (T363.setTop (mkF m 297 #[iv p1, iv p2, iv p3, iv (3 : Int32), rv b255, rv b258, rv b261, rv b264, rv b267, iv ((((c0 * u1) * u2) + (c1 * u2)) + c2), iv ((u0 * u1) * u2), iv (1 : Int32), iv (1 : Int32), .unset] [(.int u2)]))
    refine own_st (fun _ k => XS.aload X363.here hx rfl (hb hby at_297) rfl rfl k) ?_
    show own_Fin p e below G (T363.setTop (mkF m 299 #[iv p1, iv p2, iv p3, iv (3 : Int32), rv b255, rv b258, rv b261, rv b264, rv b267, iv ((((c0 * u1) * u2) + (c1 * u2)) + c2), iv ((u0 * u1) * u2), iv (1 : Int32), iv (1 : Int32), .unset] [(.ref b255), (.int u2)]))
    refine own_st (fun _ k => XS.iconst X363.here hx rfl (hb hby at_299) k) ?_
    show own_Fin p e below G (T363.setTop (mkF m 300 #[iv p1, iv p2, iv p3, iv (3 : Int32), rv b255, rv b258, rv b261, rv b264, rv b267, iv ((((c0 * u1) * u2) + (c1 * u2)) + c2), iv ((u0 * u1) * u2), iv (1 : Int32), iv (1 : Int32), .unset] [(.int (2 : Int32)), (.ref b255), (.int u2)]))
    refine own_st (fun _ k => own_ldI X363 hx hZ e363 f364_0 (j := (2 : Int32)) (n := 3) rfl (by decide) (g := (mkF m 300 #[iv p1, iv p2, iv p3, iv (3 : Int32), rv b255, rv b258, rv b261, rv b264, rv b267, iv ((((c0 * u1) * u2) + (c1 * u2)) + c2), iv ((u0 * u1) * u2), iv (1 : Int32), iv (1 : Int32), .unset] [(.int (2 : Int32)), (.ref b255), (.int u2)])) rfl rfl (hb hby at_300) k) ?_
    show own_Fin p e below G (T363.setTop (mkF m 301 #[iv p1, iv p2, iv p3, iv (3 : Int32), rv b255, rv b258, rv b261, rv b264, rv b267, iv ((((c0 * u1) * u2) + (c1 * u2)) + c2), iv ((u0 * u1) * u2), iv (1 : Int32), iv (1 : Int32), .unset] [(.int u2), (.int u2)]))
    refine own_st (fun _ k => XS.icmpNo X363.here hx rfl (hb hby at_301) rfl (teq (rfl : u2 = u2)).2 k) ?_
    show own_Fin p e below G (T363.setTop (mkF m 304 #[iv p1, iv p2, iv p3, iv (3 : Int32), rv b255, rv b258, rv b261, rv b264, rv b267, iv ((((c0 * u1) * u2) + (c1 * u2)) + c2), iv ((u0 * u1) * u2), iv (1 : Int32), iv (1 : Int32), .unset] []))
    refine own_st (fun _ k => XS.iconst X363.here hx rfl (hb hby at_304) k) ?_
    show own_Fin p e below G (T363.setTop (mkF m 305 #[iv p1, iv p2, iv p3, iv (3 : Int32), rv b255, rv b258, rv b261, rv b264, rv b267, iv ((((c0 * u1) * u2) + (c1 * u2)) + c2), iv ((u0 * u1) * u2), iv (1 : Int32), iv (1 : Int32), .unset] [(.int (1 : Int32))]))
    refine own_st (fun _ k => XS.goto X363.here hx rfl (pc0 := 305) (pc' := 309) rfl (hb hby at_305) (by decide) (by decide) k) ?_
    show own_Fin p e below G (T363.setTop (mkF m 309 #[iv p1, iv p2, iv p3, iv (3 : Int32), rv b255, rv b258, rv b261, rv b264, rv b267, iv ((((c0 * u1) * u2) + (c1 * u2)) + c2), iv ((u0 * u1) * u2), iv (1 : Int32), iv (1 : Int32), .unset] [(.int (1 : Int32))]))
    refine own_st (fun _ k => XS.istore X363.here hx rfl (hb hby at_309) rfl (l' := #[iv p1, iv p2, iv p3, iv (3 : Int32), rv b255, rv b258, rv b261, rv b264, rv b267, iv ((((c0 * u1) * u2) + (c1 * u2)) + c2), iv ((u0 * u1) * u2), iv (1 : Int32), iv (1 : Int32), .unset]) rfl k) ?_
    show own_Fin p e below G (T363.setTop (mkF m 311 #[iv p1, iv p2, iv p3, iv (3 : Int32), rv b255, rv b258, rv b261, rv b264, rv b267, iv ((((c0 * u1) * u2) + (c1 * u2)) + c2), iv ((u0 * u1) * u2), iv (1 : Int32), iv (1 : Int32), .unset] []))
    refine own_st (fun _ k => XS.iload X363.here hx rfl (hb hby at_311) rfl  k) ?_
    show own_Fin p e below G (T363.setTop (mkF m 313 #[iv p1, iv p2, iv p3, iv (3 : Int32), rv b255, rv b258, rv b261, rv b264, rv b267, iv ((((c0 * u1) * u2) + (c1 * u2)) + c2), iv ((u0 * u1) * u2), iv (1 : Int32), iv (1 : Int32), .unset] [(.int (1 : Int32))]))
    refine own_st (fun _ k => XS.ifYes X363.here hx rfl (pc0 := 313) (pc' := 318) rfl (hb hby at_313) rfl ((if0 _ _).trans (feq (by decide : ¬ ((1 : Int32) = (0 : Int32)))).2) (by decide) (by decide) k) ?_
    show own_Fin p e below G (T363.setTop (mkF m 318 #[iv p1, iv p2, iv p3, iv (3 : Int32), rv b255, rv b258, rv b261, rv b264, rv b267, iv ((((c0 * u1) * u2) + (c1 * u2)) + c2), iv ((u0 * u1) * u2), iv (1 : Int32), iv (1 : Int32), .unset] []))
    refine own_st (fun _ k => XS.iload X363.here hx rfl (hb hby at_318) rfl  k) ?_
    show own_Fin p e below G (T363.setTop (mkF m 320 #[iv p1, iv p2, iv p3, iv (3 : Int32), rv b255, rv b258, rv b261, rv b264, rv b267, iv ((((c0 * u1) * u2) + (c1 * u2)) + c2), iv ((u0 * u1) * u2), iv (1 : Int32), iv (1 : Int32), .unset] [(.int ((((c0 * u1) * u2) + (c1 * u2)) + c2))]))
    refine own_st (fun _ k => XS.iconst X363.here hx rfl (hb hby at_320) k) ?_
    show own_Fin p e below G (T363.setTop (mkF m 321 #[iv p1, iv p2, iv p3, iv (3 : Int32), rv b255, rv b258, rv b261, rv b264, rv b267, iv ((((c0 * u1) * u2) + (c1 * u2)) + c2), iv ((u0 * u1) * u2), iv (1 : Int32), iv (1 : Int32), .unset] [(.int (1 : Int32)), (.int ((((c0 * u1) * u2) + (c1 * u2)) + c2))]))
    refine own_st (fun _ k => XS.iadd X363.here hx rfl (hb hby at_321) rfl k) ?_
    show own_Fin p e below G (T363.setTop (mkF m 322 #[iv p1, iv p2, iv p3, iv (3 : Int32), rv b255, rv b258, rv b261, rv b264, rv b267, iv ((((c0 * u1) * u2) + (c1 * u2)) + c2), iv ((u0 * u1) * u2), iv (1 : Int32), iv (1 : Int32), .unset] [(.int (((((c0 * u1) * u2) + (c1 * u2)) + c2) + (1 : Int32)))]))
    refine own_st (fun _ k => XS.iload X363.here hx rfl (hb hby at_322) rfl  k) ?_
    show own_Fin p e below G (T363.setTop (mkF m 324 #[iv p1, iv p2, iv p3, iv (3 : Int32), rv b255, rv b258, rv b261, rv b264, rv b267, iv ((((c0 * u1) * u2) + (c1 * u2)) + c2), iv ((u0 * u1) * u2), iv (1 : Int32), iv (1 : Int32), .unset] [(.int ((u0 * u1) * u2)), (.int (((((c0 * u1) * u2) + (c1 * u2)) + c2) + (1 : Int32)))]))
    refine own_st (fun _ k => XS.icmpNo X363.here hx rfl (hb hby at_324) rfl (tlt (own_w3c r_c0 r_c1 r_c2 r_u0 r_u1 r_u2 d0 d1 d2).1).2.1 k) ?_
    show own_Fin p e below G (T363.setTop (mkF m 327 #[iv p1, iv p2, iv p3, iv (3 : Int32), rv b255, rv b258, rv b261, rv b264, rv b267, iv ((((c0 * u1) * u2) + (c1 * u2)) + c2), iv ((u0 * u1) * u2), iv (1 : Int32), iv (1 : Int32), .unset] []))
    refine own_st (fun _ k => XS.aload X363.here hx rfl (hb hby at_327) rfl rfl k) ?_
    show own_Fin p e below G (T363.setTop (mkF m 329 #[iv p1, iv p2, iv p3, iv (3 : Int32), rv b255, rv b258, rv b261, rv b264, rv b267, iv ((((c0 * u1) * u2) + (c1 * u2)) + c2), iv ((u0 * u1) * u2), iv (1 : Int32), iv (1 : Int32), .unset] [(.ref b261)]))
    refine own_st (fun _ k => XS.iconst X363.here hx rfl (hb hby at_329) k) ?_
    show own_Fin p e below G (T363.setTop (mkF m 330 #[iv p1, iv p2, iv p3, iv (3 : Int32), rv b255, rv b258, rv b261, rv b264, rv b267, iv ((((c0 * u1) * u2) + (c1 * u2)) + c2), iv ((u0 * u1) * u2), iv (1 : Int32), iv (1 : Int32), .unset] [(.int (0 : Int32)), (.ref b261)]))
    refine own_st (fun _ k => own_ldI X363 hx hZ e363 V363 (j := (0 : Int32)) (n := 3) rfl (by decide) (g := (mkF m 330 #[iv p1, iv p2, iv p3, iv (3 : Int32), rv b255, rv b258, rv b261, rv b264, rv b267, iv ((((c0 * u1) * u2) + (c1 * u2)) + c2), iv ((u0 * u1) * u2), iv (1 : Int32), iv (1 : Int32), .unset] [(.int (0 : Int32)), (.ref b261)])) rfl rfl (hb hby at_330) k) ?_
    show own_Fin p e below G (T363.setTop (mkF m 331 #[iv p1, iv p2, iv p3, iv (3 : Int32), rv b255, rv b258, rv b261, rv b264, rv b267, iv ((((c0 * u1) * u2) + (c1 * u2)) + c2), iv ((u0 * u1) * u2), iv (1 : Int32), iv (1 : Int32), .unset] [(.int (c0 + (1 : Int32)))]))
    refine own_st (fun _ k => XS.aload X363.here hx rfl (hb hby at_331) rfl rfl k) ?_
    show own_Fin p e below G (T363.setTop (mkF m 333 #[iv p1, iv p2, iv p3, iv (3 : Int32), rv b255, rv b258, rv b261, rv b264, rv b267, iv ((((c0 * u1) * u2) + (c1 * u2)) + c2), iv ((u0 * u1) * u2), iv (1 : Int32), iv (1 : Int32), .unset] [(.ref b255), (.int (c0 + (1 : Int32)))]))
    refine own_st (fun _ k => XS.iconst X363.here hx rfl (hb hby at_333) k) ?_
    show own_Fin p e below G (T363.setTop (mkF m 334 #[iv p1, iv p2, iv p3, iv (3 : Int32), rv b255, rv b258, rv b261, rv b264, rv b267, iv ((((c0 * u1) * u2) + (c1 * u2)) + c2), iv ((u0 * u1) * u2), iv (1 : Int32), iv (1 : Int32), .unset] [(.int (0 : Int32)), (.ref b255), (.int (c0 + (1 : Int32)))]))
    refine own_st (fun _ k => own_ldI X363 hx hZ e363 f364_0 (j := (0 : Int32)) (n := 3) rfl (by decide) (g := (mkF m 334 #[iv p1, iv p2, iv p3, iv (3 : Int32), rv b255, rv b258, rv b261, rv b264, rv b267, iv ((((c0 * u1) * u2) + (c1 * u2)) + c2), iv ((u0 * u1) * u2), iv (1 : Int32), iv (1 : Int32), .unset] [(.int (0 : Int32)), (.ref b255), (.int (c0 + (1 : Int32)))])) rfl rfl (hb hby at_334) k) ?_
    show own_Fin p e below G (T363.setTop (mkF m 335 #[iv p1, iv p2, iv p3, iv (3 : Int32), rv b255, rv b258, rv b261, rv b264, rv b267, iv ((((c0 * u1) * u2) + (c1 * u2)) + c2), iv ((u0 * u1) * u2), iv (1 : Int32), iv (1 : Int32), .unset] [(.int u0), (.int (c0 + (1 : Int32)))]))
    obtain ⟨_, _, ⟨T367, L367, k367, n367⟩, -, X367, ⟨Lc367, hQ367, l367, y367, z367⟩, st367⟩ := Jvm.LawKit.callS X363 hx (y := own_y2) hown (mvT hZ (own_w hw 12 rfl)) (mvT hZ (own_w hw 13 rfl)) (mvT hZ (own_w hw 3 rfl)) (mvT hZ (own_w hw 14 rfl)) (by decide) (backOf (W := 0) (rm_in l Z a0 hw [] (c0 + (1 : Int32)) u0 h363 n0 (Nat.le_trans Z0 K365.1) (own_g1 r_c0 r_u0) d2) hZ (own_w hw 14 rfl) (own_w hw 3 rfl) (by decide) (by decide)) (g := (mkF m 335 #[iv p1, iv p2, iv p3, iv (3 : Int32), rv b255, rv b258, rv b261, rv b264, rv b267, iv ((((c0 * u1) * u2) + (c1 * u2)) + c2), iv ((u0 * u1) * u2), iv (1 : Int32), iv (1 : Int32), .unset] [(.int u0), (.int (c0 + (1 : Int32)))])) rfl (by rw [hml]; rfl) (argsL := [(.int (c0 + (1 : Int32))), (.int u0)]) (rest := []) (lenOf pd__II_Z_317 rfl) rfl (by show 2 * 0 + _ ≤ _; exact Nat.le_of_eq rfl) (hb hby at_335) (fun _ _ => ⟨rfl, e363, (by decide : 5 + 0 ≤ _), (by decide : 15 + 0 ≤ _)⟩)
    clear X363 e363
    dsimp only [Pt.U, Pt.locs, Pt.cells, Pt.slots] at X367 l367 y367 z367 st367 hQ367
    obtain rfl : k367 = (5 : Nat) := y367
    obtain rfl : n367 = (15 : Nat) := z367
    obtain ⟨rfl, N367q, e367⟩ := hQ367
    skip
    have N367 : Fr n0 L367 := by rw [l367]; exact Fr.app N366 N367q
    clear N366 l367 N367q
    refine own_st st367 ?_
    clear st367
    show own_Fin p e below G (T367.setTop (mkF m 338 #[iv p1, iv p2, iv p3, iv (3 : Int32), rv b255, rv b258, rv b261, rv b264, rv b267, iv ((((c0 * u1) * u2) + (c1 * u2)) + c2), iv ((u0 * u1) * u2), iv (1 : Int32), iv (1 : Int32), .unset] [(.int (1 : Int32))]))
    refine own_st (fun _ k => XS.ifNo X367.here hx rfl (hb hby at_338) rfl ((if0 _ _).trans (feq (by decide : ¬ ((1 : Int32) = (0 : Int32)))).1) k) ?_
    show own_Fin p e below G (T367.setTop (mkF m 341 #[iv p1, iv p2, iv p3, iv (3 : Int32), rv b255, rv b258, rv b261, rv b264, rv b267, iv ((((c0 * u1) * u2) + (c1 * u2)) + c2), iv ((u0 * u1) * u2), iv (1 : Int32), iv (1 : Int32), .unset] []))
    refine own_st (fun _ k => XS.aload X367.here hx rfl (hb hby at_341) rfl rfl k) ?_
    show own_Fin p e below G (T367.setTop (mkF m 343 #[iv p1, iv p2, iv p3, iv (3 : Int32), rv b255, rv b258, rv b261, rv b264, rv b267, iv ((((c0 * u1) * u2) + (c1 * u2)) + c2), iv ((u0 * u1) * u2), iv (1 : Int32), iv (1 : Int32), .unset] [(.ref b261)]))
    refine own_st (fun _ k => XS.iconst X367.here hx rfl (hb hby at_343) k) ?_
    show own_Fin p e below G (T367.setTop (mkF m 344 #[iv p1, iv p2, iv p3, iv (3 : Int32), rv b255, rv b258, rv b261, rv b264, rv b267, iv ((((c0 * u1) * u2) + (c1 * u2)) + c2), iv ((u0 * u1) * u2), iv (1 : Int32), iv (1 : Int32), .unset] [(.int (1 : Int32)), (.ref b261)]))
    refine own_st (fun _ k => own_ldI X367 hx hZ e367 V363 (j := (1 : Int32)) (n := 3) rfl (by decide) (g := (mkF m 344 #[iv p1, iv p2, iv p3, iv (3 : Int32), rv b255, rv b258, rv b261, rv b264, rv b267, iv ((((c0 * u1) * u2) + (c1 * u2)) + c2), iv ((u0 * u1) * u2), iv (1 : Int32), iv (1 : Int32), .unset] [(.int (1 : Int32)), (.ref b261)])) rfl rfl (hb hby at_344) k) ?_
    show own_Fin p e below G (T367.setTop (mkF m 345 #[iv p1, iv p2, iv p3, iv (3 : Int32), rv b255, rv b258, rv b261, rv b264, rv b267, iv ((((c0 * u1) * u2) + (c1 * u2)) + c2), iv ((u0 * u1) * u2), iv (1 : Int32), iv (1 : Int32), .unset] [(.int (0 : Int32))]))
    refine own_st (fun _ k => XS.aload X367.here hx rfl (hb hby at_345) rfl rfl k) ?_
    show own_Fin p e below G (T367.setTop (mkF m 347 #[iv p1, iv p2, iv p3, iv (3 : Int32), rv b255, rv b258, rv b261, rv b264, rv b267, iv ((((c0 * u1) * u2) + (c1 * u2)) + c2), iv ((u0 * u1) * u2), iv (1 : Int32), iv (1 : Int32), .unset] [(.ref b255), (.int (0 : Int32))]))
    refine own_st (fun _ k => XS.iconst X367.here hx rfl (hb hby at_347) k) ?_
    show own_Fin p e below G (T367.setTop (mkF m 348 #[iv p1, iv p2, iv p3, iv (3 : Int32), rv b255, rv b258, rv b261, rv b264, rv b267, iv ((((c0 * u1) * u2) + (c1 * u2)) + c2), iv ((u0 * u1) * u2), iv (1 : Int32), iv (1 : Int32), .unset] [(.int (1 : Int32)), (.ref b255), (.int (0 : Int32))]))
    refine own_st (fun _ k => own_ldI X367 hx hZ e367 f364_0 (j := (1 : Int32)) (n := 3) rfl (by decide) (g := (mkF m 348 #[iv p1, iv p2, iv p3, iv (3 : Int32), rv b255, rv b258, rv b261, rv b264, rv b267, iv ((((c0 * u1) * u2) + (c1 * u2)) + c2), iv ((u0 * u1) * u2), iv (1 : Int32), iv (1 : Int32), .unset] [(.int (1 : Int32)), (.ref b255), (.int (0 : Int32))])) rfl rfl (hb hby at_348) k) ?_
    show own_Fin p e below G (T367.setTop (mkF m 349 #[iv p1, iv p2, iv p3, iv (3 : Int32), rv b255, rv b258, rv b261, rv b264, rv b267, iv ((((c0 * u1) * u2) + (c1 * u2)) + c2), iv ((u0 * u1) * u2), iv (1 : Int32), iv (1 : Int32), .unset] [(.int u1), (.int (0 : Int32))]))
    obtain ⟨_, _, ⟨T368, L368, k368, n368⟩, -, X368, ⟨Lc368, hQ368, l368, y368, z368⟩, st368⟩ := Jvm.LawKit.callS X367 hx (y := own_y2) hown (mvT hZ (own_w hw 12 rfl)) (mvT hZ (own_w hw 13 rfl)) (mvT hZ (own_w hw 3 rfl)) (mvT hZ (own_w hw 14 rfl)) (by decide) (backOf (W := 0) (rm_in l Z a0 hw [] (0 : Int32) u1 h363 n0 (Nat.le_trans Z0 K365.1) (by decide) (own_pos r_u1)) hZ (own_w hw 14 rfl) (own_w hw 3 rfl) (by decide) (by decide)) (g := (mkF m 349 #[iv p1, iv p2, iv p3, iv (3 : Int32), rv b255, rv b258, rv b261, rv b264, rv b267, iv ((((c0 * u1) * u2) + (c1 * u2)) + c2), iv ((u0 * u1) * u2), iv (1 : Int32), iv (1 : Int32), .unset] [(.int u1), (.int (0 : Int32))])) rfl (by rw [hml]; rfl) (argsL := [(.int (0 : Int32)), (.int u1)]) (rest := []) (lenOf pd__II_Z_317 rfl) rfl (by show 2 * 0 + _ ≤ _; exact Nat.le_of_eq rfl) (hb hby at_349) (fun _ _ => ⟨rfl, e367, (by decide : 5 + 0 ≤ _), (by decide : 15 + 0 ≤ _)⟩)
    clear X367 e367
    dsimp only [Pt.U, Pt.locs, Pt.cells, Pt.slots] at X368 l368 y368 z368 st368 hQ368
    obtain rfl : k368 = (5 : Nat) := y368
    obtain rfl : n368 = (15 : Nat) := z368
    obtain ⟨rfl, N368q, e368⟩ := hQ368
    skip
    have N368 : Fr n0 L368 := by rw [l368]; exact Fr.app N367 N368q
    clear N367 l368 N368q
    refine own_st st368 ?_
    clear st368
    show own_Fin p e below G (T368.setTop (mkF m 352 #[iv p1, iv p2, iv p3, iv (3 : Int32), rv b255, rv b258, rv b261, rv b264, rv b267, iv ((((c0 * u1) * u2) + (c1 * u2)) + c2), iv ((u0 * u1) * u2), iv (1 : Int32), iv (1 : Int32), .unset] [(.int (1 : Int32))]))
    refine own_st (fun _ k => XS.ifNo X368.here hx rfl (hb hby at_352) rfl ((if0 _ _).trans (feq (by decide : ¬ ((1 : Int32) = (0 : Int32)))).1) k) ?_
    show own_Fin p e below G (T368.setTop (mkF m 355 #[iv p1, iv p2, iv p3, iv (3 : Int32), rv b255, rv b258, rv b261, rv b264, rv b267, iv ((((c0 * u1) * u2) + (c1 * u2)) + c2), iv ((u0 * u1) * u2), iv (1 : Int32), iv (1 : Int32), .unset] []))
    refine own_st (fun _ k => XS.aload X368.here hx rfl (hb hby at_355) rfl rfl k) ?_
    show own_Fin p e below G (T368.setTop (mkF m 357 #[iv p1, iv p2, iv p3, iv (3 : Int32), rv b255, rv b258, rv b261, rv b264, rv b267, iv ((((c0 * u1) * u2) + (c1 * u2)) + c2), iv ((u0 * u1) * u2), iv (1 : Int32), iv (1 : Int32), .unset] [(.ref b261)]))
    refine own_st (fun _ k => XS.iconst X368.here hx rfl (hb hby at_357) k) ?_
    show own_Fin p e below G (T368.setTop (mkF m 358 #[iv p1, iv p2, iv p3, iv (3 : Int32), rv b255, rv b258, rv b261, rv b264, rv b267, iv ((((c0 * u1) * u2) + (c1 * u2)) + c2), iv ((u0 * u1) * u2), iv (1 : Int32), iv (1 : Int32), .unset] [(.int (2 : Int32)), (.ref b261)]))
    refine own_st (fun _ k => own_ldI X368 hx hZ e368 V363 (j := (2 : Int32)) (n := 3) rfl (by decide) (g := (mkF m 358 #[iv p1, iv p2, iv p3, iv (3 : Int32), rv b255, rv b258, rv b261, rv b264, rv b267, iv ((((c0 * u1) * u2) + (c1 * u2)) + c2), iv ((u0 * u1) * u2), iv (1 : Int32), iv (1 : Int32), .unset] [(.int (2 : Int32)), (.ref b261)])) rfl rfl (hb hby at_358) k) ?_
    show own_Fin p e below G (T368.setTop (mkF m 359 #[iv p1, iv p2, iv p3, iv (3 : Int32), rv b255, rv b258, rv b261, rv b264, rv b267, iv ((((c0 * u1) * u2) + (c1 * u2)) + c2), iv ((u0 * u1) * u2), iv (1 : Int32), iv (1 : Int32), .unset] [(.int (0 : Int32))]))
    refine own_st (fun _ k => XS.aload X368.here hx rfl (hb hby at_359) rfl rfl k) ?_
    show own_Fin p e below G (T368.setTop (mkF m 361 #[iv p1, iv p2, iv p3, iv (3 : Int32), rv b255, rv b258, rv b261, rv b264, rv b267, iv ((((c0 * u1) * u2) + (c1 * u2)) + c2), iv ((u0 * u1) * u2), iv (1 : Int32), iv (1 : Int32), .unset] [(.ref b255), (.int (0 : Int32))]))
    refine own_st (fun _ k => XS.iconst X368.here hx rfl (hb hby at_361) k) ?_
    show own_Fin p e below G (T368.setTop (mkF m 362 #[iv p1, iv p2, iv p3, iv (3 : Int32), rv b255, rv b258, rv b261, rv b264, rv b267, iv ((((c0 * u1) * u2) + (c1 * u2)) + c2), iv ((u0 * u1) * u2), iv (1 : Int32), iv (1 : Int32), .unset] [(.int (2 : Int32)), (.ref b255), (.int (0 : Int32))]))
    refine own_st (fun _ k => own_ldI X368 hx hZ e368 f364_0 (j := (2 : Int32)) (n := 3) rfl (by decide) (g := (mkF m 362 #[iv p1, iv p2, iv p3, iv (3 : Int32), rv b255, rv b258, rv b261, rv b264, rv b267, iv ((((c0 * u1) * u2) + (c1 * u2)) + c2), iv ((u0 * u1) * u2), iv (1 : Int32), iv (1 : Int32), .unset] [(.int (2 : Int32)), (.ref b255), (.int (0 : Int32))])) rfl rfl (hb hby at_362) k) ?_
    show own_Fin p e below G (T368.setTop (mkF m 363 #[iv p1, iv p2, iv p3, iv (3 : Int32), rv b255, rv b258, rv b261, rv b264, rv b267, iv ((((c0 * u1) * u2) + (c1 * u2)) + c2), iv ((u0 * u1) * u2), iv (1 : Int32), iv (1 : Int32), .unset] [(.int u2), (.int (0 : Int32))]))
    obtain ⟨_, _, ⟨T369, L369, k369, n369⟩, -, X369, ⟨Lc369, hQ369, l369, y369, z369⟩, st369⟩ := Jvm.LawKit.callS X368 hx (y := own_y2) hown (mvT hZ (own_w hw 12 rfl)) (mvT hZ (own_w hw 13 rfl)) (mvT hZ (own_w hw 3 rfl)) (mvT hZ (own_w hw 14 rfl)) (by decide) (backOf (W := 0) (rm_in l Z a0 hw [] (0 : Int32) u2 h363 n0 (Nat.le_trans Z0 K365.1) (by decide) (own_pos r_u2)) hZ (own_w hw 14 rfl) (own_w hw 3 rfl) (by decide) (by decide)) (g := (mkF m 363 #[iv p1, iv p2, iv p3, iv (3 : Int32), rv b255, rv b258, rv b261, rv b264, rv b267, iv ((((c0 * u1) * u2) + (c1 * u2)) + c2), iv ((u0 * u1) * u2), iv (1 : Int32), iv (1 : Int32), .unset] [(.int u2), (.int (0 : Int32))])) rfl (by rw [hml]; rfl) (argsL := [(.int (0 : Int32)), (.int u2)]) (rest := []) (lenOf pd__II_Z_317 rfl) rfl (by show 2 * 0 + _ ≤ _; exact Nat.le_of_eq rfl) (hb hby at_363) (fun _ _ => ⟨rfl, e368, (by decide : 5 + 0 ≤ _), (by decide : 15 + 0 ≤ _)⟩)
    clear X368 e368
    dsimp only [Pt.U, Pt.locs, Pt.cells, Pt.slots] at X369 l369 y369 z369 st369 hQ369
    obtain rfl : k369 = (5 : Nat) := y369
    obtain rfl : n369 = (15 : Nat) := z369
    obtain ⟨rfl, N369q, e369⟩ := hQ369
    skip
    have N369 : Fr n0 L369 := by rw [l369]; exact Fr.app N368 N369q
    clear N368 l369 N369q
    refine own_st st369 ?_
    clear st369
    show own_Fin p e below G (T369.setTop (mkF m 366 #[iv p1, iv p2, iv p3, iv (3 : Int32), rv b255, rv b258, rv b261, rv b264, rv b267, iv ((((c0 * u1) * u2) + (c1 * u2)) + c2), iv ((u0 * u1) * u2), iv (1 : Int32), iv (1 : Int32), .unset] [(.int (1 : Int32))]))
    refine own_st (fun _ k => XS.ifNo X369.here hx rfl (hb hby at_366) rfl ((if0 _ _).trans (feq (by decide : ¬ ((1 : Int32) = (0 : Int32)))).1) k) ?_
    show own_Fin p e below G (T369.setTop (mkF m 369 #[iv p1, iv p2, iv p3, iv (3 : Int32), rv b255, rv b258, rv b261, rv b264, rv b267, iv ((((c0 * u1) * u2) + (c1 * u2)) + c2), iv ((u0 * u1) * u2), iv (1 : Int32), iv (1 : Int32), .unset] []))
    refine own_st (fun _ k => XS.iconst X369.here hx rfl (hb hby at_369) k) ?_
    show own_Fin p e below G (T369.setTop (mkF m 370 #[iv p1, iv p2, iv p3, iv (3 : Int32), rv b255, rv b258, rv b261, rv b264, rv b267, iv ((((c0 * u1) * u2) + (c1 * u2)) + c2), iv ((u0 * u1) * u2), iv (1 : Int32), iv (1 : Int32), .unset] [(.int (1 : Int32))]))
    refine own_st (fun _ k => XS.goto X369.here hx rfl (pc0 := 370) (pc' := 374) rfl (hb hby at_370) (by decide) (by decide) k) ?_
    show own_Fin p e below G (T369.setTop (mkF m 374 #[iv p1, iv p2, iv p3, iv (3 : Int32), rv b255, rv b258, rv b261, rv b264, rv b267, iv ((((c0 * u1) * u2) + (c1 * u2)) + c2), iv ((u0 * u1) * u2), iv (1 : Int32), iv (1 : Int32), .unset] [(.int (1 : Int32))]))
    refine own_st (fun _ k => XS.istore X369.here hx rfl (hb hby at_374) rfl (l' := #[iv p1, iv p2, iv p3, iv (3 : Int32), rv b255, rv b258, rv b261, rv b264, rv b267, iv ((((c0 * u1) * u2) + (c1 * u2)) + c2), iv ((u0 * u1) * u2), iv (1 : Int32), iv (1 : Int32), iv (1 : Int32)]) rfl k) ?_
    show own_Fin p e below G (T369.setTop (mkF m 376 #[iv p1, iv p2, iv p3, iv (3 : Int32), rv b255, rv b258, rv b261, rv b264, rv b267, iv ((((c0 * u1) * u2) + (c1 * u2)) + c2), iv ((u0 * u1) * u2), iv (1 : Int32), iv (1 : Int32), iv (1 : Int32)] []))
    refine own_st (fun _ k => XS.iload X369.here hx rfl (hb hby at_376) rfl  k) ?_
    show own_Fin p e below G (T369.setTop (mkF m 378 #[iv p1, iv p2, iv p3, iv (3 : Int32), rv b255, rv b258, rv b261, rv b264, rv b267, iv ((((c0 * u1) * u2) + (c1 * u2)) + c2), iv ((u0 * u1) * u2), iv (1 : Int32), iv (1 : Int32), iv (1 : Int32)] [(.int (1 : Int32))]))
    refine own_st (fun _ k => XS.ifNo X369.here hx rfl (hb hby at_378) rfl ((if0 _ _).trans (feq (by decide : ¬ ((1 : Int32) = (0 : Int32)))).1) k) ?_
    show own_Fin p e below G (T369.setTop (mkF m 381 #[iv p1, iv p2, iv p3, iv (3 : Int32), rv b255, rv b258, rv b261, rv b264, rv b267, iv ((((c0 * u1) * u2) + (c1 * u2)) + c2), iv ((u0 * u1) * u2), iv (1 : Int32), iv (1 : Int32), iv (1 : Int32)] []))
    refine own_st (fun _ k => XS.iload X369.here hx rfl (hb hby at_381) rfl  k) ?_
    show own_Fin p e below G (T369.setTop (mkF m 383 #[iv p1, iv p2, iv p3, iv (3 : Int32), rv b255, rv b258, rv b261, rv b264, rv b267, iv ((((c0 * u1) * u2) + (c1 * u2)) + c2), iv ((u0 * u1) * u2), iv (1 : Int32), iv (1 : Int32), iv (1 : Int32)] [(.int (1 : Int32))]))
    refine own_st (fun _ k => XS.ifNo X369.here hx rfl (hb hby at_383) rfl ((if0 _ _).trans (feq (by decide : ¬ ((1 : Int32) = (0 : Int32)))).1) k) ?_
    show own_Fin p e below G (T369.setTop (mkF m 386 #[iv p1, iv p2, iv p3, iv (3 : Int32), rv b255, rv b258, rv b261, rv b264, rv b267, iv ((((c0 * u1) * u2) + (c1 * u2)) + c2), iv ((u0 * u1) * u2), iv (1 : Int32), iv (1 : Int32), iv (1 : Int32)] []))
    refine own_st (fun _ k => XS.iloadN X369.here hx rfl (hb hby at_386) rfl  k) ?_
    show own_Fin p e below G (T369.setTop (mkF m 387 #[iv p1, iv p2, iv p3, iv (3 : Int32), rv b255, rv b258, rv b261, rv b264, rv b267, iv ((((c0 * u1) * u2) + (c1 * u2)) + c2), iv ((u0 * u1) * u2), iv (1 : Int32), iv (1 : Int32), iv (1 : Int32)] [(.int (3 : Int32))]))
    refine own_st (fun _ k => XS.aload X369.here hx rfl (hb hby at_387) rfl rfl k) ?_
    show own_Fin p e below G (T369.setTop (mkF m 389 #[iv p1, iv p2, iv p3, iv (3 : Int32), rv b255, rv b258, rv b261, rv b264, rv b267, iv ((((c0 * u1) * u2) + (c1 * u2)) + c2), iv ((u0 * u1) * u2), iv (1 : Int32), iv (1 : Int32), iv (1 : Int32)] [(.ref b261), (.int (3 : Int32))]))
    refine own_st (fun _ k => XS.aload X369.here hx rfl (hb hby at_389) rfl rfl k) ?_
    show own_Fin p e below G (T369.setTop (mkF m 391 #[iv p1, iv p2, iv p3, iv (3 : Int32), rv b255, rv b258, rv b261, rv b264, rv b267, iv ((((c0 * u1) * u2) + (c1 * u2)) + c2), iv ((u0 * u1) * u2), iv (1 : Int32), iv (1 : Int32), iv (1 : Int32)] [(.ref b255), (.ref b261), (.int (3 : Int32))]))
    obtain ⟨_, _, ⟨T370, L370, k370, n370⟩, -, X370, ⟨Lc370, hQ370, l370, y370, z370⟩, st370⟩ := Jvm.LawKit.callS X369 hx (y := own_y0) hown (mvT hZ (own_w hw 1 rfl)) (mvT hZ (own_w hw 2 rfl)) (mvT hZ (own_w hw 3 rfl)) (mvT hZ (own_w hw 4 rfl)) (by decide) (backOf (W := 0) (rm_v3 l Z a0 hw [] b261 b255 (c0 + (1 : Int32)) (0 : Int32) (0 : Int32) u0 u1 u2 h363 n0 (Nat.le_trans Z0 K365.1) V363 f364_0) hZ (own_w hw 4 rfl) (own_w hw 3 rfl) (by decide) (by decide)) (g := (mkF m 391 #[iv p1, iv p2, iv p3, iv (3 : Int32), rv b255, rv b258, rv b261, rv b264, rv b267, iv ((((c0 * u1) * u2) + (c1 * u2)) + c2), iv ((u0 * u1) * u2), iv (1 : Int32), iv (1 : Int32), iv (1 : Int32)] [(.ref b255), (.ref b261), (.int (3 : Int32))])) rfl (by rw [hml]; rfl) (argsL := [(.int (3 : Int32)), (.ref b261), (.ref b255)]) (rest := []) (lenOf pd__I_I_I_I_555 rfl) rfl (by show 2 * 0 + _ ≤ _; exact Nat.le_of_eq rfl) (hb hby at_391) (fun _ _ => ⟨rfl, e369, (by decide : 5 + 0 ≤ _), (by decide : 15 + 0 ≤ _)⟩)
    clear V363 f364_0 K365 X369 e369
    dsimp only [Pt.U, Pt.locs, Pt.cells, Pt.slots] at X370 l370 y370 z370 st370 hQ370
    obtain rfl : k370 = (5 : Nat) := y370
    obtain rfl : n370 = (15 : Nat) := z370
    obtain ⟨rfl, N370q, e370⟩ := hQ370
    clear e370
    skip
    have N370 : Fr n0 L370 := by rw [l370]; exact Fr.app N369 N370q
    clear N369 l370 N370q
    refine own_st st370 ?_
    clear st370
    show own_Fin p e below G (T370.setTop (mkF m 394 #[iv p1, iv p2, iv p3, iv (3 : Int32), rv b255, rv b258, rv b261, rv b264, rv b267, iv ((((c0 * u1) * u2) + (c1 * u2)) + c2), iv ((u0 * u1) * u2), iv (1 : Int32), iv (1 : Int32), iv (1 : Int32)] [(.int (((((c0 + (1 : Int32)) * u1) * u2) + ((0 : Int32) * u2)) + (0 : Int32)))]))
    refine own_st (fun _ k => XS.iload X370.here hx rfl (hb hby at_394) rfl  k) ?_
    show own_Fin p e below G (T370.setTop (mkF m 396 #[iv p1, iv p2, iv p3, iv (3 : Int32), rv b255, rv b258, rv b261, rv b264, rv b267, iv ((((c0 * u1) * u2) + (c1 * u2)) + c2), iv ((u0 * u1) * u2), iv (1 : Int32), iv (1 : Int32), iv (1 : Int32)] [(.int ((((c0 * u1) * u2) + (c1 * u2)) + c2)), (.int (((((c0 + (1 : Int32)) * u1) * u2) + ((0 : Int32) * u2)) + (0 : Int32)))]))
    refine own_st (fun _ k => XS.iconst X370.here hx rfl (hb hby at_396) k) ?_
    show own_Fin p e below G (T370.setTop (mkF m 397 #[iv p1, iv p2, iv p3, iv (3 : Int32), rv b255, rv b258, rv b261, rv b264, rv b267, iv ((((c0 * u1) * u2) + (c1 * u2)) + c2), iv ((u0 * u1) * u2), iv (1 : Int32), iv (1 : Int32), iv (1 : Int32)] [(.int (1 : Int32)), (.int ((((c0 * u1) * u2) + (c1 * u2)) + c2)), (.int (((((c0 + (1 : Int32)) * u1) * u2) + ((0 : Int32) * u2)) + (0 : Int32)))]))
    refine own_st (fun _ k => XS.iadd X370.here hx rfl (hb hby at_397) rfl k) ?_
    show own_Fin p e below G (T370.setTop (mkF m 398 #[iv p1, iv p2, iv p3, iv (3 : Int32), rv b255, rv b258, rv b261, rv b264, rv b267, iv ((((c0 * u1) * u2) + (c1 * u2)) + c2), iv ((u0 * u1) * u2), iv (1 : Int32), iv (1 : Int32), iv (1 : Int32)] [(.int (((((c0 * u1) * u2) + (c1 * u2)) + c2) + (1 : Int32))), (.int (((((c0 + (1 : Int32)) * u1) * u2) + ((0 : Int32) * u2)) + (0 : Int32)))]))
    refine own_st (fun _ k => XS.icmpNo X370.here hx rfl (hb hby at_398) rfl (teq (own_w3c r_c0 r_c1 r_c2 r_u0 r_u1 r_u2 d0 d1 d2).2).2 k) ?_
    show own_Fin p e below G (T370.setTop (mkF m 401 #[iv p1, iv p2, iv p3, iv (3 : Int32), rv b255, rv b258, rv b261, rv b264, rv b267, iv ((((c0 * u1) * u2) + (c1 * u2)) + c2), iv ((u0 * u1) * u2), iv (1 : Int32), iv (1 : Int32), iv (1 : Int32)] []))
    refine own_st (fun _ k => XS.iconst X370.here hx rfl (hb hby at_401) k) ?_
    show own_Fin p e below G (T370.setTop (mkF m 402 #[iv p1, iv p2, iv p3, iv (3 : Int32), rv b255, rv b258, rv b261, rv b264, rv b267, iv ((((c0 * u1) * u2) + (c1 * u2)) + c2), iv ((u0 * u1) * u2), iv (1 : Int32), iv (1 : Int32), iv (1 : Int32)] [(.int (1 : Int32))]))
    refine own_st (fun _ k => XS.goto X370.here hx rfl (pc0 := 402) (pc' := 406) rfl (hb hby at_402) (by decide) (by decide) k) ?_
    show own_Fin p e below G (T370.setTop (mkF m 406 #[iv p1, iv p2, iv p3, iv (3 : Int32), rv b255, rv b258, rv b261, rv b264, rv b267, iv ((((c0 * u1) * u2) + (c1 * u2)) + c2), iv ((u0 * u1) * u2), iv (1 : Int32), iv (1 : Int32), iv (1 : Int32)] [(.int (1 : Int32))]))
    refine own_out X370 Bd.notSynchronized (v := (some (.int (1 : Int32)))) (fun h => by rw [Bd.returns] at h; cases h) hG (fun fs hr => retN X370 hx (t := .boolean) Bd.returns (by simp) (hb hby at_406) hr) (by decide) (by decide) ?_
    exact ⟨rfl, N370⟩
  · show own_Fin p e below G (T320.setTop (mkF m 199 #[iv p1, iv p2, iv p3, iv (3 : Int32), rv b255, rv b258, rv b261, rv b264, rv b267, iv ((((c0 * u1) * u2) + (c1 * u2)) + c2), iv ((u0 * u1) * u2), .unset, .unset, .unset] [(.int (0 : Int32))]))
    refine own_st (fun _ k => XS.istore X320.here hx rfl (hb hby at_199) rfl (l' := #[iv p1, iv p2, iv p3, iv (3 : Int32), rv b255, rv b258, rv b261, rv b264, rv b267, iv ((((c0 * u1) * u2) + (c1 * u2)) + c2), iv ((u0 * u1) * u2), iv (0 : Int32), .unset, .unset]) rfl k) ?_
    show own_Fin p e below G (T320.setTop (mkF m 201 #[iv p1, iv p2, iv p3, iv (3 : Int32), rv b255, rv b258, rv b261, rv b264, rv b267, iv ((((c0 * u1) * u2) + (c1 * u2)) + c2), iv ((u0 * u1) * u2), iv (0 : Int32), .unset, .unset] []))
    refine own_st (fun _ k => XS.iconst X320.here hx rfl (hb hby at_201) k) ?_
    show own_Fin p e below G (T320.setTop (mkF m 202 #[iv p1, iv p2, iv p3, iv (3 : Int32), rv b255, rv b258, rv b261, rv b264, rv b267, iv ((((c0 * u1) * u2) + (c1 * u2)) + c2), iv ((u0 * u1) * u2), iv (0 : Int32), .unset, .unset] [(.int (1 : Int32))]))
    refine own_st (fun _ k => XS.istore X320.here hx rfl (hb hby at_202) rfl (l' := #[iv p1, iv p2, iv p3, iv (3 : Int32), rv b255, rv b258, rv b261, rv b264, rv b267, iv ((((c0 * u1) * u2) + (c1 * u2)) + c2), iv ((u0 * u1) * u2), iv (0 : Int32), iv (1 : Int32), .unset]) rfl k) ?_
    show own_Fin p e below G (T320.setTop (mkF m 204 #[iv p1, iv p2, iv p3, iv (3 : Int32), rv b255, rv b258, rv b261, rv b264, rv b267, iv ((((c0 * u1) * u2) + (c1 * u2)) + c2), iv ((u0 * u1) * u2), iv (0 : Int32), iv (1 : Int32), .unset] []))
    refine own_st (fun _ k => XS.iloadN X320.here hx rfl (hb hby at_204) rfl  k) ?_
    show own_Fin p e below G (T320.setTop (mkF m 205 #[iv p1, iv p2, iv p3, iv (3 : Int32), rv b255, rv b258, rv b261, rv b264, rv b267, iv ((((c0 * u1) * u2) + (c1 * u2)) + c2), iv ((u0 * u1) * u2), iv (0 : Int32), iv (1 : Int32), .unset] [(.int (3 : Int32))]))
    refine own_st (fun _ k => XS.ifNo X320.here hx rfl (hb hby at_205) rfl ((if0 _ _).trans (tlt (by decide : ((0 : Int32) < (3 : Int32)))).2.2.2) k) ?_
    show own_Fin p e below G (T320.setTop (mkF m 208 #[iv p1, iv p2, iv p3, iv (3 : Int32), rv b255, rv b258, rv b261, rv b264, rv b267, iv ((((c0 * u1) * u2) + (c1 * u2)) + c2), iv ((u0 * u1) * u2), iv (0 : Int32), iv (1 : Int32), .unset] []))
    refine own_st (fun _ k => XS.aload X320.here hx rfl (hb hby at_208) rfl rfl k) ?_
    show own_Fin p e below G (T320.setTop (mkF m 210 #[iv p1, iv p2, iv p3, iv (3 : Int32), rv b255, rv b258, rv b261, rv b264, rv b267, iv ((((c0 * u1) * u2) + (c1 * u2)) + c2), iv ((u0 * u1) * u2), iv (0 : Int32), iv (1 : Int32), .unset] [(.ref b261)]))
    refine own_st (fun _ k => XS.iconst X320.here hx rfl (hb hby at_210) k) ?_
    show own_Fin p e below G (T320.setTop (mkF m 211 #[iv p1, iv p2, iv p3, iv (3 : Int32), rv b255, rv b258, rv b261, rv b264, rv b267, iv ((((c0 * u1) * u2) + (c1 * u2)) + c2), iv ((u0 * u1) * u2), iv (0 : Int32), iv (1 : Int32), .unset] [(.int (0 : Int32)), (.ref b261)]))
    refine own_st (fun _ k => XS.aload X320.here hx rfl (hb hby at_211) rfl rfl k) ?_
    show own_Fin p e below G (T320.setTop (mkF m 213 #[iv p1, iv p2, iv p3, iv (3 : Int32), rv b255, rv b258, rv b261, rv b264, rv b267, iv ((((c0 * u1) * u2) + (c1 * u2)) + c2), iv ((u0 * u1) * u2), iv (0 : Int32), iv (1 : Int32), .unset] [(.ref b267), (.int (0 : Int32)), (.ref b261)]))
    refine own_st (fun _ k => XS.iconst X320.here hx rfl (hb hby at_213) k) ?_
    show own_Fin p e below G (T320.setTop (mkF m 214 #[iv p1, iv p2, iv p3, iv (3 : Int32), rv b255, rv b258, rv b261, rv b264, rv b267, iv ((((c0 * u1) * u2) + (c1 * u2)) + c2), iv ((u0 * u1) * u2), iv (0 : Int32), iv (1 : Int32), .unset] [(.int (0 : Int32)), (.ref b267), (.int (0 : Int32)), (.ref b261)]))
    refine own_st (fun _ k => own_ldI X320 hx hZ rfl gA320 (j := (0 : Int32)) (n := 3) rfl (by decide) (g := (mkF m 214 #[iv p1, iv p2, iv p3, iv (3 : Int32), rv b255, rv b258, rv b261, rv b264, rv b267, iv ((((c0 * u1) * u2) + (c1 * u2)) + c2), iv ((u0 * u1) * u2), iv (0 : Int32), iv (1 : Int32), .unset] [(.int (0 : Int32)), (.ref b267), (.int (0 : Int32)), (.ref b261)])) rfl rfl (hb hby at_214) k) ?_
    show own_Fin p e below G (T320.setTop (mkF m 215 #[iv p1, iv p2, iv p3, iv (3 : Int32), rv b255, rv b258, rv b261, rv b264, rv b267, iv ((((c0 * u1) * u2) + (c1 * u2)) + c2), iv ((u0 * u1) * u2), iv (0 : Int32), iv (1 : Int32), .unset] [(.int (0 : Int32)), (.int (0 : Int32)), (.ref b261)]))
    obtain ⟨T371, h371, X371, e371, W371, V371, st371⟩ := own_stI X320 hx hZ rfl f321_2 (j := (0 : Int32)) (n := 3) rfl (by decide) (g := (mkF m 215 #[iv p1, iv p2, iv p3, iv (3 : Int32), rv b255, rv b258, rv b261, rv b264, rv b267, iv ((((c0 * u1) * u2) + (c1 * u2)) + c2), iv ((u0 * u1) * u2), iv (0 : Int32), iv (1 : Int32), .unset] [(.int (0 : Int32)), (.int (0 : Int32)), (.ref b261)])) rfl rfl (hb hby at_215)
    clear X320 f321_2
    have f372_0 := f321_0.other W371 ne_b255_b261
    clear f321_0
    have f372_1 := f321_1.other W371 ne_b258_b261
    clear f321_1
    have f372_3 := f321_3.other W371 (Ne.symm ne_b261_b264)
    clear f321_3
    have f372_4 := gA320.other W371 (Ne.symm ne_b261_b267)
    clear gA320
    have K373 : Keep h0 h371 [] := K322.wr W371 (Or.inr sz_b261)
    clear K322 W371
    have N374 := Fr.snoc X371 N320 g_b261
    clear N320
    replace V371 : own_AV Z h371 b261 .int (own_is [(0 : Int32), (0 : Int32), (0 : Int32)]) := V371
    refine own_st st371 ?_
    clear st371
    show own_Fin p e below G (T371.setTop (mkF m 216 #[iv p1, iv p2, iv p3, iv (3 : Int32), rv b255, rv b258, rv b261, rv b264, rv b267, iv ((((c0 * u1) * u2) + (c1 * u2)) + c2), iv ((u0 * u1) * u2), iv (0 : Int32), iv (1 : Int32), .unset] []))
    refine own_st (fun _ k => XS.iload X371.here hx rfl (hb hby at_216) rfl  k) ?_
    show own_Fin p e below G (T371.setTop (mkF m 218 #[iv p1, iv p2, iv p3, iv (3 : Int32), rv b255, rv b258, rv b261, rv b264, rv b267, iv ((((c0 * u1) * u2) + (c1 * u2)) + c2), iv ((u0 * u1) * u2), iv (0 : Int32), iv (1 : Int32), .unset] [(.int (1 : Int32))]))
    refine own_st (fun _ k => XS.ifNo X371.here hx rfl (hb hby at_218) rfl ((if0 _ _).trans (feq (by decide : ¬ ((1 : Int32) = (0 : Int32)))).1) k) ?_
    show own_Fin p e below G (T371.setTop (mkF m 221 #[iv p1, iv p2, iv p3, iv (3 : Int32), rv b255, rv b258, rv b261, rv b264, rv b267, iv ((((c0 * u1) * u2) + (c1 * u2)) + c2), iv ((u0 * u1) * u2), iv (0 : Int32), iv (1 : Int32), .unset] []))
    refine own_st (fun _ k => XS.aload X371.here hx rfl (hb hby at_221) rfl rfl k) ?_
    show own_Fin p e below G (T371.setTop (mkF m 223 #[iv p1, iv p2, iv p3, iv (3 : Int32), rv b255, rv b258, rv b261, rv b264, rv b267, iv ((((c0 * u1) * u2) + (c1 * u2)) + c2), iv ((u0 * u1) * u2), iv (0 : Int32), iv (1 : Int32), .unset] [(.ref b264)]))
    refine own_st (fun _ k => XS.iconst X371.here hx rfl (hb hby at_223) k) ?_
    show own_Fin p e below G (T371.setTop (mkF m 224 #[iv p1, iv p2, iv p3, iv (3 : Int32), rv b255, rv b258, rv b261, rv b264, rv b267, iv ((((c0 * u1) * u2) + (c1 * u2)) + c2), iv ((u0 * u1) * u2), iv (0 : Int32), iv (1 : Int32), .unset] [(.int (0 : Int32)), (.ref b264)]))
    refine own_st (fun _ k => own_ldI X371 hx hZ e371 f372_3 (j := (0 : Int32)) (n := 3) rfl (by decide) (g := (mkF m 224 #[iv p1, iv p2, iv p3, iv (3 : Int32), rv b255, rv b258, rv b261, rv b264, rv b267, iv ((((c0 * u1) * u2) + (c1 * u2)) + c2), iv ((u0 * u1) * u2), iv (0 : Int32), iv (1 : Int32), .unset] [(.int (0 : Int32)), (.ref b264)])) rfl rfl (hb hby at_224) k) ?_
    show own_Fin p e below G (T371.setTop (mkF m 225 #[iv p1, iv p2, iv p3, iv (3 : Int32), rv b255, rv b258, rv b261, rv b264, rv b267, iv ((((c0 * u1) * u2) + (c1 * u2)) + c2), iv ((u0 * u1) * u2), iv (0 : Int32), iv (1 : Int32), .unset] [(.int u0)]))
    refine own_st (fun _ k => XS.aload X371.here hx rfl (hb hby at_225) rfl rfl k) ?_
    show own_Fin p e below G (T371.setTop (mkF m 227 #[iv p1, iv p2, iv p3, iv (3 : Int32), rv b255, rv b258, rv b261, rv b264, rv b267, iv ((((c0 * u1) * u2) + (c1 * u2)) + c2), iv ((u0 * u1) * u2), iv (0 : Int32), iv (1 : Int32), .unset] [(.ref b255), (.int u0)]))
    refine own_st (fun _ k => XS.iconst X371.here hx rfl (hb hby at_227) k) ?_
    show own_Fin p e below G (T371.setTop (mkF m 228 #[iv p1, iv p2, iv p3, iv (3 : Int32), rv b255, rv b258, rv b261, rv b264, rv b267, iv ((((c0 * u1) * u2) + (c1 * u2)) + c2), iv ((u0 * u1) * u2), iv (0 : Int32), iv (1 : Int32), .unset] [(.int (0 : Int32)), (.ref b255), (.int u0)]))
    refine own_st (fun _ k => own_ldI X371 hx hZ e371 f372_0 (j := (0 : Int32)) (n := 3) rfl (by decide) (g := (mkF m 228 #[iv p1, iv p2, iv p3, iv (3 : Int32), rv b255, rv b258, rv b261, rv b264, rv b267, iv ((((c0 * u1) * u2) + (c1 * u2)) + c2), iv ((u0 * u1) * u2), iv (0 : Int32), iv (1 : Int32), .unset] [(.int (0 : Int32)), (.ref b255), (.int u0)])) rfl rfl (hb hby at_228) k) ?_
    show own_Fin p e below G (T371.setTop (mkF m 229 #[iv p1, iv p2, iv p3, iv (3 : Int32), rv b255, rv b258, rv b261, rv b264, rv b267, iv ((((c0 * u1) * u2) + (c1 * u2)) + c2), iv ((u0 * u1) * u2), iv (0 : Int32), iv (1 : Int32), .unset] [(.int u0), (.int u0)]))
    refine own_st (fun _ k => XS.icmpNo X371.here hx rfl (hb hby at_229) rfl (teq (rfl : u0 = u0)).2 k) ?_
    show own_Fin p e below G (T371.setTop (mkF m 232 #[iv p1, iv p2, iv p3, iv (3 : Int32), rv b255, rv b258, rv b261, rv b264, rv b267, iv ((((c0 * u1) * u2) + (c1 * u2)) + c2), iv ((u0 * u1) * u2), iv (0 : Int32), iv (1 : Int32), .unset] []))
    refine own_st (fun _ k => XS.iconst X371.here hx rfl (hb hby at_232) k) ?_
    show own_Fin p e below G (T371.setTop (mkF m 233 #[iv p1, iv p2, iv p3, iv (3 : Int32), rv b255, rv b258, rv b261, rv b264, rv b267, iv ((((c0 * u1) * u2) + (c1 * u2)) + c2), iv ((u0 * u1) * u2), iv (0 : Int32), iv (1 : Int32), .unset] [(.int (1 : Int32))]))
    refine own_st (fun _ k => XS.goto X371.here hx rfl (pc0 := 233) (pc' := 237) rfl (hb hby at_233) (by decide) (by decide) k) ?_
    show own_Fin p e below G (T371.setTop (mkF m 237 #[iv p1, iv p2, iv p3, iv (3 : Int32), rv b255, rv b258, rv b261, rv b264, rv b267, iv ((((c0 * u1) * u2) + (c1 * u2)) + c2), iv ((u0 * u1) * u2), iv (0 : Int32), iv (1 : Int32), .unset] [(.int (1 : Int32))]))
    refine own_st (fun _ k => XS.istore X371.here hx rfl (hb hby at_237) rfl (l' := #[iv p1, iv p2, iv p3, iv (3 : Int32), rv b255, rv b258, rv b261, rv b264, rv b267, iv ((((c0 * u1) * u2) + (c1 * u2)) + c2), iv ((u0 * u1) * u2), iv (0 : Int32), iv (1 : Int32), .unset]) rfl k) ?_
    show own_Fin p e below G (T371.setTop (mkF m 239 #[iv p1, iv p2, iv p3, iv (3 : Int32), rv b255, rv b258, rv b261, rv b264, rv b267, iv ((((c0 * u1) * u2) + (c1 * u2)) + c2), iv ((u0 * u1) * u2), iv (0 : Int32), iv (1 : Int32), .unset] []))
    refine own_st (fun _ k => XS.iloadN X371.here hx rfl (hb hby at_239) rfl  k) ?_
    show own_Fin p e below G (T371.setTop (mkF m 240 #[iv p1, iv p2, iv p3, iv (3 : Int32), rv b255, rv b258, rv b261, rv b264, rv b267, iv ((((c0 * u1) * u2) + (c1 * u2)) + c2), iv ((u0 * u1) * u2), iv (0 : Int32), iv (1 : Int32), .unset] [(.int (3 : Int32))]))
    refine own_st (fun _ k => XS.iconst X371.here hx rfl (hb hby at_240) k) ?_
    show own_Fin p e below G (T371.setTop (mkF m 241 #[iv p1, iv p2, iv p3, iv (3 : Int32), rv b255, rv b258, rv b261, rv b264, rv b267, iv ((((c0 * u1) * u2) + (c1 * u2)) + c2), iv ((u0 * u1) * u2), iv (0 : Int32), iv (1 : Int32), .unset] [(.int (1 : Int32)), (.int (3 : Int32))]))
    refine own_st (fun _ k => XS.icmpNo X371.here hx rfl (hb hby at_241) rfl (tlt (by decide : ((1 : Int32) < (3 : Int32)))).2.2.2 k) ?_
    show own_Fin p e below G (T371.setTop (mkF m 244 #[iv p1, iv p2, iv p3, iv (3 : Int32), rv b255, rv b258, rv b261, rv b264, rv b267, iv ((((c0 * u1) * u2) + (c1 * u2)) + c2), iv ((u0 * u1) * u2), iv (0 : Int32), iv (1 : Int32), .unset] []))
    refine own_st (fun _ k => XS.aload X371.here hx rfl (hb hby at_244) rfl rfl k) ?_
    show own_Fin p e below G (T371.setTop (mkF m 246 #[iv p1, iv p2, iv p3, iv (3 : Int32), rv b255, rv b258, rv b261, rv b264, rv b267, iv ((((c0 * u1) * u2) + (c1 * u2)) + c2), iv ((u0 * u1) * u2), iv (0 : Int32), iv (1 : Int32), .unset] [(.ref b261)]))
    refine own_st (fun _ k => XS.iconst X371.here hx rfl (hb hby at_246) k) ?_
    show own_Fin p e below G (T371.setTop (mkF m 247 #[iv p1, iv p2, iv p3, iv (3 : Int32), rv b255, rv b258, rv b261, rv b264, rv b267, iv ((((c0 * u1) * u2) + (c1 * u2)) + c2), iv ((u0 * u1) * u2), iv (0 : Int32), iv (1 : Int32), .unset] [(.int (1 : Int32)), (.ref b261)]))
    refine own_st (fun _ k => XS.aload X371.here hx rfl (hb hby at_247) rfl rfl k) ?_
    show own_Fin p e below G (T371.setTop (mkF m 249 #[iv p1, iv p2, iv p3, iv (3 : Int32), rv b255, rv b258, rv b261, rv b264, rv b267, iv ((((c0 * u1) * u2) + (c1 * u2)) + c2), iv ((u0 * u1) * u2), iv (0 : Int32), iv (1 : Int32), .unset] [(.ref b267), (.int (1 : Int32)), (.ref b261)]))
    refine own_st (fun _ k => XS.iconst X371.here hx rfl (hb hby at_249) k) ?_
    show own_Fin p e below G (T371.setTop (mkF m 250 #[iv p1, iv p2, iv p3, iv (3 : Int32), rv b255, rv b258, rv b261, rv b264, rv b267, iv ((((c0 * u1) * u2) + (c1 * u2)) + c2), iv ((u0 * u1) * u2), iv (0 : Int32), iv (1 : Int32), .unset] [(.int (1 : Int32)), (.ref b267), (.int (1 : Int32)), (.ref b261)]))
    refine own_st (fun _ k => own_ldI X371 hx hZ e371 f372_4 (j := (1 : Int32)) (n := 3) rfl (by decide) (g := (mkF m 250 #[iv p1, iv p2, iv p3, iv (3 : Int32), rv b255, rv b258, rv b261, rv b264, rv b267, iv ((((c0 * u1) * u2) + (c1 * u2)) + c2), iv ((u0 * u1) * u2), iv (0 : Int32), iv (1 : Int32), .unset] [(.int (1 : Int32)), (.ref b267), (.int (1 : Int32)), (.ref b261)])) rfl rfl (hb hby at_250) k) ?_
    show own_Fin p e below G (T371.setTop (mkF m 251 #[iv p1, iv p2, iv p3, iv (3 : Int32), rv b255, rv b258, rv b261, rv b264, rv b267, iv ((((c0 * u1) * u2) + (c1 * u2)) + c2), iv ((u0 * u1) * u2), iv (0 : Int32), iv (1 : Int32), .unset] [(.int (0 : Int32)), (.int (1 : Int32)), (.ref b261)]))
    obtain ⟨T375, h375, X375, e375, W375, V375, st375⟩ := own_stI X371 hx hZ e371 V371 (j := (1 : Int32)) (n := 3) rfl (by decide) (g := (mkF m 251 #[iv p1, iv p2, iv p3, iv (3 : Int32), rv b255, rv b258, rv b261, rv b264, rv b267, iv ((((c0 * u1) * u2) + (c1 * u2)) + c2), iv ((u0 * u1) * u2), iv (0 : Int32), iv (1 : Int32), .unset] [(.int (0 : Int32)), (.int (1 : Int32)), (.ref b261)])) rfl rfl (hb hby at_251)
    clear X371 e371 V371
    have f376_0 := f372_0.other W375 ne_b255_b261
    clear f372_0
    have f376_1 := f372_1.other W375 ne_b258_b261
    clear f372_1
    have f376_3 := f372_3.other W375 (Ne.symm ne_b261_b264)
    clear f372_3
    have f376_4 := f372_4.other W375 (Ne.symm ne_b261_b267)
    clear f372_4
    have K377 : Keep h0 h375 [] := K373.wr W375 (Or.inr sz_b261)
    clear K373 W375
    have N378 := Fr.snoc X375 N374 g_b261
    clear N374
    replace V375 : own_AV Z h375 b261 .int (own_is [(0 : Int32), (0 : Int32), (0 : Int32)]) := V375
    refine own_st st375 ?_
    clear st375
    show own_Fin p e below G (T375.setTop (mkF m 252 #[iv p1, iv p2, iv p3, iv (3 : Int32), rv b255, rv b258, rv b261, rv b264, rv b267, iv ((((c0 * u1) * u2) + (c1 * u2)) + c2), iv ((u0 * u1) * u2), iv (0 : Int32), iv (1 : Int32), .unset] []))
    refine own_st (fun _ k => XS.iload X375.here hx rfl (hb hby at_252) rfl  k) ?_
    show own_Fin p e below G (T375.setTop (mkF m 254 #[iv p1, iv p2, iv p3, iv (3 : Int32), rv b255, rv b258, rv b261, rv b264, rv b267, iv ((((c0 * u1) * u2) + (c1 * u2)) + c2), iv ((u0 * u1) * u2), iv (0 : Int32), iv (1 : Int32), .unset] [(.int (1 : Int32))]))
    refine own_st (fun _ k => XS.ifNo X375.here hx rfl (hb hby at_254) rfl ((if0 _ _).trans (feq (by decide : ¬ ((1 : Int32) = (0 : Int32)))).1) k) ?_
    show own_Fin p e below G (T375.setTop (mkF m 257 #[iv p1, iv p2, iv p3, iv (3 : Int32), rv b255, rv b258, rv b261, rv b264, rv b267, iv ((((c0 * u1) * u2) + (c1 * u2)) + c2), iv ((u0 * u1) * u2), iv (0 : Int32), iv (1 : Int32), .unset] []))
    refine own_st (fun _ k => XS.aload X375.here hx rfl (hb hby at_257) rfl rfl k) ?_
    show own_Fin p e below G (T375.setTop (mkF m 259 #[iv p1, iv p2, iv p3, iv (3 : Int32), rv b255, rv b258, rv b261, rv b264, rv b267, iv ((((c0 * u1) * u2) + (c1 * u2)) + c2), iv ((u0 * u1) * u2), iv (0 : Int32), iv (1 : Int32), .unset] [(.ref b264)]))
    refine own_st (fun _ k => XS.iconst X375.here hx rfl (hb hby at_259) k) ?_
    show own_Fin p e below G (T375.setTop (mkF m 260 #[iv p1, iv p2, iv p3, iv (3 : Int32), rv b255, rv b258, rv b261, rv b264, rv b267, iv ((((c0 * u1) * u2) + (c1 * u2)) + c2), iv ((u0 * u1) * u2), iv (0 : Int32), iv (1 : Int32), .unset] [(.int (1 : Int32)), (.ref b264)]))
    refine own_st (fun _ k => own_ldI X375 hx hZ e375 f376_3 (j := (1 : Int32)) (n := 3) rfl (by decide) (g := (mkF m 260 #[iv p1, iv p2, iv p3, iv (3 : Int32), rv b255, rv b258, rv b261, rv b264, rv b267, iv ((((c0 * u1) * u2) + (c1 * u2)) + c2), iv ((u0 * u1) * u2), iv (0 : Int32), iv (1 : Int32), .unset] [(.int (1 : Int32)), (.ref b264)])) rfl rfl (hb hby at_260) k) ?_
    show own_Fin p e below G (T375.setTop (mkF m 261 #[iv p1, iv p2, iv p3, iv (3 : Int32), rv b255, rv b258, rv b261, rv b264, rv b267, iv ((((c0 * u1) * u2) + (c1 * u2)) + c2), iv ((u0 * u1) * u2), iv (0 : Int32), iv (1 : Int32), .unset] [(.int u1)]))
    refine own_st (fun _ k => XS.aload X375.here hx rfl (hb hby at_261) rfl rfl k) ?_
    show own_Fin p e below G (T375.setTop (mkF m 263 #[iv p1, iv p2, iv p3, iv (3 : Int32), rv b255, rv b258, rv b261, rv b264, rv b267, iv ((((c0 * u1) * u2) + (c1 * u2)) + c2), iv ((u0 * u1) * u2), iv (0 : Int32), iv (1 : Int32), .unset] [(.ref b255), (.int u1)]))
    refine own_st (fun _ k => XS.iconst X375.here hx rfl (hb hby at_263) k) ?_
    show own_Fin p e below G (T375.setTop (mkF m 264 #[iv p1, iv p2, iv p3, iv (3 : Int32), rv b255, rv b258, rv b261, rv b264, rv b267, iv ((((c0 * u1) * u2) + (c1 * u2)) + c2), iv ((u0 * u1) * u2), iv (0 : Int32), iv (1 : Int32), .unset] [(.int (1 : Int32)), (.ref b255), (.int u1)]))
    refine own_st (fun _ k => own_ldI X375 hx hZ e375 f376_0 (j := (1 : Int32)) (n := 3) rfl (by decide) (g := (mkF m 264 #[iv p1, iv p2, iv p3, iv (3 : Int32), rv b255, rv b258, rv b261, rv b264, rv b267, iv ((((c0 * u1) * u2) + (c1 * u2)) + c2), iv ((u0 * u1) * u2), iv (0 : Int32), iv (1 : Int32), .unset] [(.int (1 : Int32)), (.ref b255), (.int u1)])) rfl rfl (hb hby at_264) k) ?_
    show own_Fin p e below G (T375.setTop (mkF m 265 #[iv p1, iv p2, iv p3, iv (3 : Int32), rv b255, rv b258, rv b261, rv b264, rv b267, iv ((((c0 * u1) * u2) + (c1 * u2)) + c2), iv ((u0 * u1) * u2), iv (0 : Int32), iv (1 : Int32), .unset] [(.int u1), (.int u1)]))
    refine own_st (fun _ k => XS.icmpNo X375.here hx rfl (hb hby at_265) rfl (teq (rfl : u1 = u1)).2 k) ?_
    show own_Fin p e below G (T375.setTop (mkF m 268 #[iv p1, iv p2, iv p3, iv (3 : Int32), rv b255, rv b258, rv b261, rv b264, rv b267, iv ((((c0 * u1) * u2) + (c1 * u2)) + c2), iv ((u0 * u1) * u2), iv (0 : Int32), iv (1 : Int32), .unset] []))
    refine own_st (fun _ k => XS.iconst X375.here hx rfl (hb hby at_268) k) ?_
    show own_Fin p e below G (T375.setTop (mkF m 269 #[iv p1, iv p2, iv p3, iv (3 : Int32), rv b255, rv b258, rv b261, rv b264, rv b267, iv ((((c0 * u1) * u2) + (c1 * u2)) + c2), iv ((u0 * u1) * u2), iv (0 : Int32), iv (1 : Int32), .unset] [(.int (1 : Int32))]))
    refine own_st (fun _ k => XS.goto X375.here hx rfl (pc0 := 269) (pc' := 273) rfl (hb hby at_269) (by decide) (by decide) k) ?_
    show own_Fin p e below G (T375.setTop (mkF m 273 #[iv p1, iv p2, iv p3, iv (3 : Int32), rv b255, rv b258, rv b261, rv b264, rv b267, iv ((((c0 * u1) * u2) + (c1 * u2)) + c2), iv ((u0 * u1) * u2), iv (0 : Int32), iv (1 : Int32), .unset] [(.int (1 : Int32))]))
    refine own_st (fun _ k => XS.istore X375.here hx rfl (hb hby at_273) rfl (l' := #[iv p1, iv p2, iv p3, iv (3 : Int32), rv b255, rv b258, rv b261, rv b264, rv b267, iv ((((c0 * u1) * u2) + (c1 * u2)) + c2), iv ((u0 * u1) * u2), iv (0 : Int32), iv (1 : Int32), .unset]) rfl k) ?_
    show own_Fin p e below G (T375.setTop (mkF m 275 #[iv p1, iv p2, iv p3, iv (3 : Int32), rv b255, rv b258, rv b261, rv b264, rv b267, iv ((((c0 * u1) * u2) + (c1 * u2)) + c2), iv ((u0 * u1) * u2), iv (0 : Int32), iv (1 : Int32), .unset] []))
    refine own_st (fun _ k => XS.iloadN X375.here hx rfl (hb hby at_275) rfl  k) ?_
    show own_Fin p e below G (T375.setTop (mkF m 276 #[iv p1, iv p2, iv p3, iv (3 : Int32), rv b255, rv b258, rv b261, rv b264, rv b267, iv ((((c0 * u1) * u2) + (c1 * u2)) + c2), iv ((u0 * u1) * u2), iv (0 : Int32), iv (1 : Int32), .unset] [(.int (3 : Int32))]))
    refine own_st (fun _ k => XS.iconst X375.here hx rfl (hb hby at_276) k) ?_
    show own_Fin p e below G (T375.setTop (mkF m 277 #[iv p1, iv p2, iv p3, iv (3 : Int32), rv b255, rv b258, rv b261, rv b264, rv b267, iv ((((c0 * u1) * u2) + (c1 * u2)) + c2), iv ((u0 * u1) * u2), iv (0 : Int32), iv (1 : Int32), .unset] [(.int (2 : Int32)), (.int (3 : Int32))]))
    refine own_st (fun _ k => XS.icmpNo X375.here hx rfl (hb hby at_277) rfl (tlt (by decide : ((2 : Int32) < (3 : Int32)))).2.2.2 k) ?_
    show own_Fin p e below G (T375.setTop (mkF m 280 #[iv p1, iv p2, iv p3, iv (3 : Int32), rv b255, rv b258, rv b261, rv b264, rv b267, iv ((((c0 * u1) * u2) + (c1 * u2)) + c2), iv ((u0 * u1) * u2), iv (0 : Int32), iv (1 : Int32), .unset] []))
    refine own_st (fun _ k => XS.aload X375.here hx rfl (hb hby at_280) rfl rfl k) ?_
    show own_Fin p e below G (T375.setTop (mkF m 282 #[iv p1, iv p2, iv p3, iv (3 : Int32), rv b255, rv b258, rv b261, rv b264, rv b267, iv ((((c0 * u1) * u2) + (c1 * u2)) + c2), iv ((u0 * u1) * u2), iv (0 : Int32), iv (1 : Int32), .unset] [(.ref b261)]))
    refine own_st (fun _ k => XS.iconst X375.here hx rfl (hb hby at_282) k) ?_
    show own_Fin p e below G (T375.setTop (mkF m 283 #[iv p1, iv p2, iv p3, iv (3 : Int32), rv b255, rv b258, rv b261, rv b264, rv b267, iv ((((c0 * u1) * u2) + (c1 * u2)) + c2), iv ((u0 * u1) * u2), iv (0 : Int32), iv (1 : Int32), .unset] [(.int (2 : Int32)), (.ref b261)]))
    refine own_st (fun _ k => XS.aload X375.here hx rfl (hb hby at_283) rfl rfl k) ?_
    show own_Fin p e below G (T375.setTop (mkF m 285 #[iv p1, iv p2, iv p3, iv (3 : Int32), rv b255, rv b258, rv b261, rv b264, rv b267, iv ((((c0 * u1) * u2) + (c1 * u2)) + c2), iv ((u0 * u1) * u2), iv (0 : Int32), iv (1 : Int32), .unset] [(.ref b267), (.int (2 : Int32)), (.ref b261)]))
    refine own_st (fun _ k => XS.iconst X375.here hx rfl (hb hby at_285) k) ?_
    show own_Fin p e below G (T375.setTop (mkF m 286 #[iv p1, iv p2, iv p3, iv (3 : Int32), rv b255, rv b258, rv b261, rv b264, rv b267, iv ((((c0 * u1) * u2) + (c1 * u2)) + c2), iv ((u0 * u1) * u2), iv (0 : Int32), iv (1 : Int32), .unset] [(.int (2 : Int32)), (.ref b267), (.int (2 : Int32)), (.ref b261)]))
    refine own_st (fun _ k => own_ldI X375 hx hZ e375 f376_4 (j := (2 : Int32)) (n := 3) rfl (by decide) (g := (mkF m 286 #[iv p1, iv p2, iv p3, iv (3 : Int32), rv b255, rv b258, rv b261, rv b264, rv b267, iv ((((c0 * u1) * u2) + (c1 * u2)) + c2), iv ((u0 * u1) * u2), iv (0 : Int32), iv (1 : Int32), .unset] [(.int (2 : Int32)), (.ref b267), (.int (2 : Int32)), (.ref b261)])) rfl rfl (hb hby at_286) k) ?_
    show own_Fin p e below G (T375.setTop (mkF m 287 #[iv p1, iv p2, iv p3, iv (3 : Int32), rv b255, rv b258, rv b261, rv b264, rv b267, iv ((((c0 * u1) * u2) + (c1 * u2)) + c2), iv ((u0 * u1) * u2), iv (0 : Int32), iv (1 : Int32), .unset] [(.int (0 : Int32)), (.int (2 : Int32)), (.ref b261)]))
    obtain ⟨T379, h379, X379, e379, W379, V379, st379⟩ := own_stI X375 hx hZ e375 V375 (j := (2 : Int32)) (n := 3) rfl (by decide) (g := (mkF m 287 #[iv p1, iv p2, iv p3, iv (3 : Int32), rv b255, rv b258, rv b261, rv b264, rv b267, iv ((((c0 * u1) * u2) + (c1 * u2)) + c2), iv ((u0 * u1) * u2), iv (0 : Int32), iv (1 : Int32), .unset] [(.int (0 : Int32)), (.int (2 : Int32)), (.ref b261)])) rfl rfl (hb hby at_287)
    clear X375 e375 V375
    have f380_0 := f376_0.other W379 ne_b255_b261
    clear f376_0
    have f380_1 := f376_1.other W379 ne_b258_b261
    clear f376_1 f380_1
    have f380_3 := f376_3.other W379 (Ne.symm ne_b261_b264)
    clear f376_3
    have f380_4 := f376_4.other W379 (Ne.symm ne_b261_b267)
    clear f376_4 f380_4
    have K381 : Keep h0 h379 [] := K377.wr W379 (Or.inr sz_b261)
    clear K377 W379 K381
    have N382 := Fr.snoc X379 N378 g_b261
    clear N378
    replace V379 : own_AV Z h379 b261 .int (own_is [(0 : Int32), (0 : Int32), (0 : Int32)]) := V379
    refine own_st st379 ?_
    clear st379
    show own_Fin p e below G (T379.setTop (mkF m 288 #[iv p1, iv p2, iv p3, iv (3 : Int32), rv b255, rv b258, rv b261, rv b264, rv b267, iv ((((c0 * u1) * u2) + (c1 * u2)) + c2), iv ((u0 * u1) * u2), iv (0 : Int32), iv (1 : Int32), .unset] []))
    refine own_st (fun _ k => XS.iload X379.here hx rfl (hb hby at_288) rfl  k) ?_
    show own_Fin p e below G (T379.setTop (mkF m 290 #[iv p1, iv p2, iv p3, iv (3 : Int32), rv b255, rv b258, rv b261, rv b264, rv b267, iv ((((c0 * u1) * u2) + (c1 * u2)) + c2), iv ((u0 * u1) * u2), iv (0 : Int32), iv (1 : Int32), .unset] [(.int (1 : Int32))]))
    refine own_st (fun _ k => XS.ifNo X379.here hx rfl (hb hby at_290) rfl ((if0 _ _).trans (feq (by decide : ¬ ((1 : Int32) = (0 : Int32)))).1) k) ?_
    show own_Fin p e below G (T379.setTop (mkF m 293 #[iv p1, iv p2, iv p3, iv (3 : Int32), rv b255, rv b258, rv b261, rv b264, rv b267, iv ((((c0 * u1) * u2) + (c1 * u2)) + c2), iv ((u0 * u1) * u2), iv (0 : Int32), iv (1 : Int32), .unset] []))
    refine own_st (fun _ k => XS.aload X379.here hx rfl (hb hby at_293) rfl rfl k) ?_
    show own_Fin p e below G (T379.setTop (mkF m 295 #[iv p1, iv p2, iv p3, iv (3 : Int32), rv b255, rv b258, rv b261, rv b264, rv b267, iv ((((c0 * u1) * u2) + (c1 * u2)) + c2), iv ((u0 * u1) * u2), iv (0 : Int32), iv (1 : Int32), .unset] [(.ref b264)]))
    refine own_st (fun _ k => XS.iconst X379.here hx rfl (hb hby at_295) k) ?_
    show own_Fin p e below G (T379.setTop (mkF m 296 #[iv p1, iv p2, iv p3, iv (3 : Int32), rv b255, rv b258, rv b261, rv b264, rv b267, iv ((((c0 * u1) * u2) + (c1 * u2)) + c2), iv ((u0 * u1) * u2), iv (0 : Int32), iv (1 : Int32), .unset] [(.int (2 : Int32)), (.ref b264)]))
    refine own_st (fun _ k => own_ldI X379 hx hZ e379 f380_3 (j := (2 : Int32)) (n := 3) rfl (by decide) (g := (mkF m 296 #[iv p1, iv p2, iv p3, iv (3 : Int32), rv b255, rv b258, rv b261, rv b264, rv b267, iv ((((c0 * u1) * u2) + (c1 * u2)) + c2), iv ((u0 * u1) * u2), iv (0 : Int32), iv (1 : Int32), .unset] [(.int (2 : Int32)), (.ref b264)])) rfl rfl (hb hby at_296) k) ?_
    clear f380_3
    show own_Fin p e below G (T379.setTop (mkF m 297 #[iv p1, iv p2, iv p3, iv (3 : Int32), rv b255, rv b258, rv b261, rv b264, rv b267, iv ((((c0 * u1) * u2) + (c1 * u2)) + c2), iv ((u0 * u1) * u2), iv (0 : Int32), iv (1 : Int32), .unset] [(.int u2)]))
    refine own_st (fun _ k => XS.aload X379.here hx rfl (hb hby at_297) rfl rfl k) ?_
    show own_Fin p e below G (T379.setTop (mkF m 299 #[iv p1, iv p2, iv p3, iv (3 : Int32), rv b255, rv b258, rv b261, rv b264, rv b267, iv ((((c0 * u1) * u2) + (c1 * u2)) + c2), iv ((u0 * u1) * u2), iv (0 : Int32), iv (1 : Int32), .unset] [(.ref b255), (.int u2)]))
    refine own_st (fun _ k => XS.iconst X379.here hx rfl (hb hby at_299) k) ?_
    show own_Fin p e below G (T379.setTop (mkF m 300 #[iv p1, iv p2, iv p3, iv (3 : Int32), rv b255, rv b258, rv b261, rv b264, rv b267, iv ((((c0 * u1) * u2) + (c1 * u2)) + c2), iv ((u0 * u1) * u2), iv (0 : Int32), iv (1 : Int32), .unset] [(.int (2 : Int32)), (.ref b255), (.int u2)]))
    refine own_st (fun _ k => own_ldI X379 hx hZ e379 f380_0 (j := (2 : Int32)) (n := 3) rfl (by decide) (g := (mkF m 300 #[iv p1, iv p2, iv p3, iv (3 : Int32), rv b255, rv b258, rv b261, rv b264, rv b267, iv ((((c0 * u1) * u2) + (c1 * u2)) + c2), iv ((u0 * u1) * u2), iv (0 : Int32), iv (1 : Int32), .unset] [(.int (2 : Int32)), (.ref b255), (.int u2)])) rfl rfl (hb hby at_300) k) ?_
    clear f380_0
    show own_Fin p e below G (T379.setTop (mkF m 301 #[iv p1, iv p2, iv p3, iv (3 : Int32), rv b255, rv b258, rv b261, rv b264, rv b267, iv ((((c0 * u1) * u2) + (c1 * u2)) + c2), iv ((u0 * u1) * u2), iv (0 : Int32), iv (1 : Int32), .unset] [(.int u2), (.int u2)]))
    refine own_st (fun _ k => XS.icmpNo X379.here hx rfl (hb hby at_301) rfl (teq (rfl : u2 = u2)).2 k) ?_
    show own_Fin p e below G (T379.setTop (mkF m 304 #[iv p1, iv p2, iv p3, iv (3 : Int32), rv b255, rv b258, rv b261, rv b264, rv b267, iv ((((c0 * u1) * u2) + (c1 * u2)) + c2), iv ((u0 * u1) * u2), iv (0 : Int32), iv (1 : Int32), .unset] []))
    refine own_st (fun _ k => XS.iconst X379.here hx rfl (hb hby at_304) k) ?_
    show own_Fin p e below G (T379.setTop (mkF m 305 #[iv p1, iv p2, iv p3, iv (3 : Int32), rv b255, rv b258, rv b261, rv b264, rv b267, iv ((((c0 * u1) * u2) + (c1 * u2)) + c2), iv ((u0 * u1) * u2), iv (0 : Int32), iv (1 : Int32), .unset] [(.int (1 : Int32))]))
    refine own_st (fun _ k => XS.goto X379.here hx rfl (pc0 := 305) (pc' := 309) rfl (hb hby at_305) (by decide) (by decide) k) ?_
    show own_Fin p e below G (T379.setTop (mkF m 309 #[iv p1, iv p2, iv p3, iv (3 : Int32), rv b255, rv b258, rv b261, rv b264, rv b267, iv ((((c0 * u1) * u2) + (c1 * u2)) + c2), iv ((u0 * u1) * u2), iv (0 : Int32), iv (1 : Int32), .unset] [(.int (1 : Int32))]))
    refine own_st (fun _ k => XS.istore X379.here hx rfl (hb hby at_309) rfl (l' := #[iv p1, iv p2, iv p3, iv (3 : Int32), rv b255, rv b258, rv b261, rv b264, rv b267, iv ((((c0 * u1) * u2) + (c1 * u2)) + c2), iv ((u0 * u1) * u2), iv (0 : Int32), iv (1 : Int32), .unset]) rfl k) ?_
    show own_Fin p e below G (T379.setTop (mkF m 311 #[iv p1, iv p2, iv p3, iv (3 : Int32), rv b255, rv b258, rv b261, rv b264, rv b267, iv ((((c0 * u1) * u2) + (c1 * u2)) + c2), iv ((u0 * u1) * u2), iv (0 : Int32), iv (1 : Int32), .unset] []))
    refine own_st (fun _ k => XS.iload X379.here hx rfl (hb hby at_311) rfl  k) ?_
    show own_Fin p e below G (T379.setTop (mkF m 313 #[iv p1, iv p2, iv p3, iv (3 : Int32), rv b255, rv b258, rv b261, rv b264, rv b267, iv ((((c0 * u1) * u2) + (c1 * u2)) + c2), iv ((u0 * u1) * u2), iv (0 : Int32), iv (1 : Int32), .unset] [(.int (1 : Int32))]))
    refine own_st (fun _ k => XS.ifYes X379.here hx rfl (pc0 := 313) (pc' := 318) rfl (hb hby at_313) rfl ((if0 _ _).trans (feq (by decide : ¬ ((1 : Int32) = (0 : Int32)))).2) (by decide) (by decide) k) ?_
    show own_Fin p e below G (T379.setTop (mkF m 318 #[iv p1, iv p2, iv p3, iv (3 : Int32), rv b255, rv b258, rv b261, rv b264, rv b267, iv ((((c0 * u1) * u2) + (c1 * u2)) + c2), iv ((u0 * u1) * u2), iv (0 : Int32), iv (1 : Int32), .unset] []))
    refine own_st (fun _ k => XS.iload X379.here hx rfl (hb hby at_318) rfl  k) ?_
    show own_Fin p e below G (T379.setTop (mkF m 320 #[iv p1, iv p2, iv p3, iv (3 : Int32), rv b255, rv b258, rv b261, rv b264, rv b267, iv ((((c0 * u1) * u2) + (c1 * u2)) + c2), iv ((u0 * u1) * u2), iv (0 : Int32), iv (1 : Int32), .unset] [(.int ((((c0 * u1) * u2) + (c1 * u2)) + c2))]))
    refine own_st (fun _ k => XS.iconst X379.here hx rfl (hb hby at_320) k) ?_
    show own_Fin p e below G (T379.setTop (mkF m 321 #[iv p1, iv p2, iv p3, iv (3 : Int32), rv b255, rv b258, rv b261, rv b264, rv b267, iv ((((c0 * u1) * u2) + (c1 * u2)) + c2), iv ((u0 * u1) * u2), iv (0 : Int32), iv (1 : Int32), .unset] [(.int (1 : Int32)), (.int ((((c0 * u1) * u2) + (c1 * u2)) + c2))]))
    refine own_st (fun _ k => XS.iadd X379.here hx rfl (hb hby at_321) rfl k) ?_
    show own_Fin p e below G (T379.setTop (mkF m 322 #[iv p1, iv p2, iv p3, iv (3 : Int32), rv b255, rv b258, rv b261, rv b264, rv b267, iv ((((c0 * u1) * u2) + (c1 * u2)) + c2), iv ((u0 * u1) * u2), iv (0 : Int32), iv (1 : Int32), .unset] [(.int (((((c0 * u1) * u2) + (c1 * u2)) + c2) + (1 : Int32)))]))
    refine own_st (fun _ k => XS.iload X379.here hx rfl (hb hby at_322) rfl  k) ?_
    show own_Fin p e below G (T379.setTop (mkF m 324 #[iv p1, iv p2, iv p3, iv (3 : Int32), rv b255, rv b258, rv b261, rv b264, rv b267, iv ((((c0 * u1) * u2) + (c1 * u2)) + c2), iv ((u0 * u1) * u2), iv (0 : Int32), iv (1 : Int32), .unset] [(.int ((u0 * u1) * u2)), (.int (((((c0 * u1) * u2) + (c1 * u2)) + c2) + (1 : Int32)))]))
    refine own_st (fun _ k => XS.icmpYes X379.here hx rfl (pc0 := 324) (pc' := 407) rfl (hb hby at_324) rfl (flt (own_w3d r_c0 r_c1 r_c2 r_u0 r_u1 r_u2 d0 d1 d2)).2.1 (by decide) (by decide) k) ?_
    show own_Fin p e below G (T379.setTop (mkF m 407 #[iv p1, iv p2, iv p3, iv (3 : Int32), rv b255, rv b258, rv b261, rv b264, rv b267, iv ((((c0 * u1) * u2) + (c1 * u2)) + c2), iv ((u0 * u1) * u2), iv (0 : Int32), iv (1 : Int32), .unset] []))
    refine own_st (fun _ k => XS.iload X379.here hx rfl (hb hby at_407) rfl  k) ?_
    show own_Fin p e below G (T379.setTop (mkF m 409 #[iv p1, iv p2, iv p3, iv (3 : Int32), rv b255, rv b258, rv b261, rv b264, rv b267, iv ((((c0 * u1) * u2) + (c1 * u2)) + c2), iv ((u0 * u1) * u2), iv (0 : Int32), iv (1 : Int32), .unset] [(.int (0 : Int32))]))
    refine own_st (fun _ k => XS.ifNo X379.here hx rfl (hb hby at_409) rfl ((if0 _ _).trans (teq (by decide : ((0 : Int32) = (0 : Int32)))).2) k) ?_
    show own_Fin p e below G (T379.setTop (mkF m 412 #[iv p1, iv p2, iv p3, iv (3 : Int32), rv b255, rv b258, rv b261, rv b264, rv b267, iv ((((c0 * u1) * u2) + (c1 * u2)) + c2), iv ((u0 * u1) * u2), iv (0 : Int32), iv (1 : Int32), .unset] []))
    refine own_st (fun _ k => XS.aload X379.here hx rfl (hb hby at_412) rfl rfl k) ?_
    show own_Fin p e below G (T379.setTop (mkF m 414 #[iv p1, iv p2, iv p3, iv (3 : Int32), rv b255, rv b258, rv b261, rv b264, rv b267, iv ((((c0 * u1) * u2) + (c1 * u2)) + c2), iv ((u0 * u1) * u2), iv (0 : Int32), iv (1 : Int32), .unset] [(.ref b261)]))
    refine own_st (fun _ k => XS.iconst X379.here hx rfl (hb hby at_414) k) ?_
    show own_Fin p e below G (T379.setTop (mkF m 415 #[iv p1, iv p2, iv p3, iv (3 : Int32), rv b255, rv b258, rv b261, rv b264, rv b267, iv ((((c0 * u1) * u2) + (c1 * u2)) + c2), iv ((u0 * u1) * u2), iv (0 : Int32), iv (1 : Int32), .unset] [(.int (0 : Int32)), (.ref b261)]))
    refine own_st (fun _ k => own_ldI X379 hx hZ e379 V379 (j := (0 : Int32)) (n := 3) rfl (by decide) (g := (mkF m 415 #[iv p1, iv p2, iv p3, iv (3 : Int32), rv b255, rv b258, rv b261, rv b264, rv b267, iv ((((c0 * u1) * u2) + (c1 * u2)) + c2), iv ((u0 * u1) * u2), iv (0 : Int32), iv (1 : Int32), .unset] [(.int (0 : Int32)), (.ref b261)])) rfl rfl (hb hby at_415) k) ?_
    show own_Fin p e below G (T379.setTop (mkF m 416 #[iv p1, iv p2, iv p3, iv (3 : Int32), rv b255, rv b258, rv b261, rv b264, rv b267, iv ((((c0 * u1) * u2) + (c1 * u2)) + c2), iv ((u0 * u1) * u2), iv (0 : Int32), iv (1 : Int32), .unset] [(.int (0 : Int32))]))
    refine own_st (fun _ k => XS.ifNo X379.here hx rfl (hb hby at_416) rfl ((if0 _ _).trans (teq (by decide : ((0 : Int32) = (0 : Int32)))).2) k) ?_
    show own_Fin p e below G (T379.setTop (mkF m 419 #[iv p1, iv p2, iv p3, iv (3 : Int32), rv b255, rv b258, rv b261, rv b264, rv b267, iv ((((c0 * u1) * u2) + (c1 * u2)) + c2), iv ((u0 * u1) * u2), iv (0 : Int32), iv (1 : Int32), .unset] []))
    refine own_st (fun _ k => XS.aload X379.here hx rfl (hb hby at_419) rfl rfl k) ?_
    show own_Fin p e below G (T379.setTop (mkF m 421 #[iv p1, iv p2, iv p3, iv (3 : Int32), rv b255, rv b258, rv b261, rv b264, rv b267, iv ((((c0 * u1) * u2) + (c1 * u2)) + c2), iv ((u0 * u1) * u2), iv (0 : Int32), iv (1 : Int32), .unset] [(.ref b261)]))
    refine own_st (fun _ k => XS.iconst X379.here hx rfl (hb hby at_421) k) ?_
    show own_Fin p e below G (T379.setTop (mkF m 422 #[iv p1, iv p2, iv p3, iv (3 : Int32), rv b255, rv b258, rv b261, rv b264, rv b267, iv ((((c0 * u1) * u2) + (c1 * u2)) + c2), iv ((u0 * u1) * u2), iv (0 : Int32), iv (1 : Int32), .unset] [(.int (1 : Int32)), (.ref b261)]))
    refine own_st (fun _ k => own_ldI X379 hx hZ e379 V379 (j := (1 : Int32)) (n := 3) rfl (by decide) (g := (mkF m 422 #[iv p1, iv p2, iv p3, iv (3 : Int32), rv b255, rv b258, rv b261, rv b264, rv b267, iv ((((c0 * u1) * u2) + (c1 * u2)) + c2), iv ((u0 * u1) * u2), iv (0 : Int32), iv (1 : Int32), .unset] [(.int (1 : Int32)), (.ref b261)])) rfl rfl (hb hby at_422) k) ?_
    show own_Fin p e below G (T379.setTop (mkF m 423 #[iv p1, iv p2, iv p3, iv (3 : Int32), rv b255, rv b258, rv b261, rv b264, rv b267, iv ((((c0 * u1) * u2) + (c1 * u2)) + c2), iv ((u0 * u1) * u2), iv (0 : Int32), iv (1 : Int32), .unset] [(.int (0 : Int32))]))
    refine own_st (fun _ k => XS.ifNo X379.here hx rfl (hb hby at_423) rfl ((if0 _ _).trans (teq (by decide : ((0 : Int32) = (0 : Int32)))).2) k) ?_
    show own_Fin p e below G (T379.setTop (mkF m 426 #[iv p1, iv p2, iv p3, iv (3 : Int32), rv b255, rv b258, rv b261, rv b264, rv b267, iv ((((c0 * u1) * u2) + (c1 * u2)) + c2), iv ((u0 * u1) * u2), iv (0 : Int32), iv (1 : Int32), .unset] []))
    refine own_st (fun _ k => XS.aload X379.here hx rfl (hb hby at_426) rfl rfl k) ?_
    show own_Fin p e below G (T379.setTop (mkF m 428 #[iv p1, iv p2, iv p3, iv (3 : Int32), rv b255, rv b258, rv b261, rv b264, rv b267, iv ((((c0 * u1) * u2) + (c1 * u2)) + c2), iv ((u0 * u1) * u2), iv (0 : Int32), iv (1 : Int32), .unset] [(.ref b261)]))
    refine own_st (fun _ k => XS.iconst X379.here hx rfl (hb hby at_428) k) ?_
    show own_Fin p e below G (T379.setTop (mkF m 429 #[iv p1, iv p2, iv p3, iv (3 : Int32), rv b255, rv b258, rv b261, rv b264, rv b267, iv ((((c0 * u1) * u2) + (c1 * u2)) + c2), iv ((u0 * u1) * u2), iv (0 : Int32), iv (1 : Int32), .unset] [(.int (2 : Int32)), (.ref b261)]))
    refine own_st (fun _ k => own_ldI X379 hx hZ e379 V379 (j := (2 : Int32)) (n := 3) rfl (by decide) (g := (mkF m 429 #[iv p1, iv p2, iv p3, iv (3 : Int32), rv b255, rv b258, rv b261, rv b264, rv b267, iv ((((c0 * u1) * u2) + (c1 * u2)) + c2), iv ((u0 * u1) * u2), iv (0 : Int32), iv (1 : Int32), .unset] [(.int (2 : Int32)), (.ref b261)])) rfl rfl (hb hby at_429) k) ?_
    clear e379 V379
    show own_Fin p e below G (T379.setTop (mkF m 430 #[iv p1, iv p2, iv p3, iv (3 : Int32), rv b255, rv b258, rv b261, rv b264, rv b267, iv ((((c0 * u1) * u2) + (c1 * u2)) + c2), iv ((u0 * u1) * u2), iv (0 : Int32), iv (1 : Int32), .unset] [(.int (0 : Int32))]))
    refine own_st (fun _ k => XS.ifNo X379.here hx rfl (hb hby at_430) rfl ((if0 _ _).trans (teq (by decide : ((0 : Int32) = (0 : Int32)))).2) k) ?_
    show own_Fin p e below G (T379.setTop (mkF m 433 #[iv p1, iv p2, iv p3, iv (3 : Int32), rv b255, rv b258, rv b261, rv b264, rv b267, iv ((((c0 * u1) * u2) + (c1 * u2)) + c2), iv ((u0 * u1) * u2), iv (0 : Int32), iv (1 : Int32), .unset] []))
    refine own_st (fun _ k => XS.iconst X379.here hx rfl (hb hby at_433) k) ?_
    show own_Fin p e below G (T379.setTop (mkF m 434 #[iv p1, iv p2, iv p3, iv (3 : Int32), rv b255, rv b258, rv b261, rv b264, rv b267, iv ((((c0 * u1) * u2) + (c1 * u2)) + c2), iv ((u0 * u1) * u2), iv (0 : Int32), iv (1 : Int32), .unset] [(.int (1 : Int32))]))
    refine own_st (fun _ k => XS.goto X379.here hx rfl (pc0 := 434) (pc' := 438) rfl (hb hby at_434) (by decide) (by decide) k) ?_
    show own_Fin p e below G (T379.setTop (mkF m 438 #[iv p1, iv p2, iv p3, iv (3 : Int32), rv b255, rv b258, rv b261, rv b264, rv b267, iv ((((c0 * u1) * u2) + (c1 * u2)) + c2), iv ((u0 * u1) * u2), iv (0 : Int32), iv (1 : Int32), .unset] [(.int (1 : Int32))]))
    refine own_out X379 Bd.notSynchronized (v := (some (.int (1 : Int32)))) (fun h => by rw [Bd.returns] at h; cases h) hG (fun fs hr => retN X379 hx (t := .boolean) Bd.returns (by simp) (hb hby at_438) hr) (by decide) (by decide) ?_
    exact ⟨rfl, N382⟩

theorem rm0 (l : Launch) (Z : State) (a0 : Array Value) (hw : ∀ d ∈ tables_1, d.before a0 Z = true) (ws : List Jvm.Cond) (p1 p2 p3 : Int32) (h0 : Heap) (n0 : Nat) (Z0 : n0 ≤ h0.size) :
    MetFree l x (head1 (Jvm.Cond.code x code maxLocals ret :: ws) room_1) (fun a U => a = #[(.int p1), (.int p2), (.int p3)] ∧ Z.Warmed39 U.vm ∧ U.heap = h0) (fun _ _ _ _ _ => True) (fun _ U o U' => ∃ v L, o = .returned v ∧ Qrm0_0 Z p1 p2 p3 h0 n0 v U'.heap L ∧ FrameEnd U o U' L room_1.cells room_1.slots) :=
  (own_c4 (own_a3 p1)).elim (rm0_0 l Z a0 hw ws p1 p2 p3 h0 n0 Z0) fun q => q.elim (rm0_1 l Z a0 hw ws p1 p2 p3 h0 n0 Z0) fun q => q.elim (rm0_2 l Z a0 hw ws p1 p2 p3 h0 n0 Z0) (rm0_3 l Z a0 hw ws p1 p2 p3 h0 n0 Z0)
set_option maxRecDepth 65536 in
set_option maxRecDepth 65536 in
set_option maxHeartbeats 40000000 in
theorem comes_1 {Post : Tables → Env → Array Value → State → Outcome → State → Prop} (hpost : ∀ tb e args s v u, (limb_1_1.after args s (.returned v) u = true ∧ limb_1_2.after args s (.returned v) u = true ∧ True) → FrameEnd s (.returned v) u (Jvm.fieldLocs frame_1_writes args s ++ Jvm.arrayLocs frame_1_arrays args s ++ Jvm.staticLocs frame_1_statics s) 24 128 → Post tb e args s (.returned v) u) :
    ArmFor flags0 classFile x code maxLocals ret World_1 tables_1 room_1 Calls_1 rest_1 Pre_1 Post := by
  intro l hfl _ _ p e ha hc hk s m args below hf hA hF happ hP
  obtain ⟨hcalls, hrest, hpre⟩ := hP
  obtain ⟨-, -, -, hnamed, -, -, -, hat⟩ := (Spec.applies_iff hf).mp happ
  obtain ⟨hg, hn⟩ := and_e (Cond.before_iff.mp (show (Jvm.Cond.and given_1 narrow_1).before args s = true from hpre))
  obtain ⟨hg0, hh0⟩ := and_e hg
  obtain ⟨hg1, hh1⟩ := and_e hh0
  obtain ⟨hg2, hh2⟩ := and_e hh1
  obtain ⟨w0, w1, w2, rfl⟩ : ∃ w0 w1 w2 : Value, args = #[w0, w1, w2] := by
    have hs : args.size = 3 := by simpa [Cond.value, given_1] using hg0
    obtain ⟨L⟩ := args
    match L, hs with
    | [w0, w1, w2], _ => exact ⟨w0, w1, w2, rfl⟩
  have hw := fun d (hd : d ∈ tables_1) => atoms_spec (ws := Jvm.Cond.code x code maxLocals ret :: tables_1) hat d (List.mem_cons_of_mem _ hd)
  have hfit : Fit s := fun {y c} hc i hi => by
    obtain ⟨ha, rfl⟩ := Array.getElem?_eq_some_iff.mp hc
    have q := List.all_eq_true.mp ((Array.all_eq_true_iff_forall_mem.mp hF) _ (Array.getElem_mem ha)) i (List.mem_range.mpr hi)
    simpa [Array.getElem?_eq_getElem hi] using q
  obtain ⟨i0, ei0⟩ := is_v hg1
  obtain rfl : w0 = (.int i0) := Option.some.inj ei0
  obtain ⟨i1, ei1⟩ := is_v hg2
  obtain rfl : w1 = (.int i1) := Option.some.inj ei1
  obtain ⟨i2, ei2⟩ := is_v hh2
  obtain rfl : w2 = (.int i2) := Option.some.inj ei2
  obtain ⟨n, o, h1, h2, h3, _, L, rfl, ⟨rfl, N⟩, hq⟩ := rm0 l s _ hw tables_1 i0 i1 i2 s.heap s.heap.size (Nat.le_refl _)  p e ha hc hk s m _ below hf ((Spec.applies_iff_loose hf).mp happ).1 ⟨rfl, State.Warmed39.refl s, rfl⟩ trivial
  refine ⟨n, _, h1, h2, h3, hpost _ _ _ _ _ _ ⟨Cond.after_iff.mpr rfl, Cond.after_iff.mpr (eq_i res_at (Term.int_eval (1)) rfl), trivial⟩ ⟨hq.1, hq.2.1, (hq.2.2.sift fun y hy => Or.inr (N y hy)).mono (by decide) (by decide)⟩⟩
theorem main_1_1 : Claimed_1_1 := comes_1 fun _ _ _ _ _ _ h hF => ⟨h.1, hF⟩
theorem main_1_2 : Claimed_1_2 := comes_1 fun _ _ _ _ _ _ h hF => ⟨h.2.1, hF⟩
end Jvm.Pilot.@@N@@
namespace Jvm.Pilot.@@N@@
open Jvm Jvm.ClassFile Sem Op Lib Jvm.Free Jvm.Stand Jvm.Pilot.@@N@@.Jvm.D
/-! MADE BY PROGRAM (witnessworld.py) out of the Statement's table words and the real class files: 9 classes; the members and pool entries that the words name. The judged class is class 1, her method 4. -/
namespace start1
open Jvm.ClassFile
def u (s : String) : CpInfo := .utf8 (stringToUtf16 s)
/-- a pool by its gaps: so many unusable entries, then the entry; so many at the end -/
def gap : Nat → List CpInfo → List CpInfo
  | 0, r => r
  | n + 1, r => .unusable :: gap n r
def poolList (es : List (Nat × CpInfo)) (last : Nat) : List CpInfo := es.foldr (fun e r => gap e.1 (e.2 :: r)) (gap last [])
def pool (es : List (Nat × CpInfo)) (last : Nat) : Array CpInfo := ⟨poolList es last⟩
def fileOf (pool : Array CpInfo) (this : Nat) (attrs : Array Attribute := #[]) (ms : Array MethodInfo := #[]) (fl : Nat := 33) (sup : Nat := 0) (ifs : Array Nat := #[]) (fds : Array FieldInfo := #[]) : ClassFile where
  minorVersion := 0
  majorVersion := 65
  constantPool := pool
  accessFlags := fl
  thisClass := this
  superClass := sup
  interfaces := ifs
  fields := fds
  methods := ms
  attributes := attrs
def plain (name : String) (sup : Option ClassId) : Class where
  name := name
  kind := .ordinary
  loader := none
  accessFlags := 33
  super := sup
  interfaces := #[]
  cf := none
  fields := #[]
  methods := #[]
  instanceTypes := #[]
  staticTypes := #[]
  resolved := #[]
  callSites := []
  init := .initialized
  statics := none
  mirror := none

def pool0 : Array CpInfo := pool [(5, u "<init>"), (0, u "()V"), (1, .class_ 10), (1, u "java/lang/Object")] 113

def k0m0 : Method := { name := "<init>", desc := "()V", sig := { parameters := [], returnType := none }, accessFlags := 1, code := none }
/-- java/lang/Object -/
def k0 : Class := { plain "java/lang/Object" none with
  accessFlags := 33
  interfaces := #[]
  cf := some (fileOf pool0 8 #[] #[{ accessFlags := 1, nameIndex := 5, descriptorIndex := 6, attributes := #[] }] 33 0 #[] #[])
  fields := #[]
  methods := #[k0m0]
  instanceTypes := #[]
  staticTypes := #[]
  resolved := Array.replicate 124 none
  statics := none }

def pool1 : Array CpInfo := pool [(2, .class_ 4), (1, u "java/lang/Object"), (0, u "<init>"), (0, u "()V"), (0, .methodref 8 9), (0, .class_ 10), (0, .nameAndType 11 12), (0, u "com/example/paired_paths/pairedpaths/gsos/ChoicesNextPinLaw"), (0, u "value"), (0, u "(I[I[I)I"), (0, .methodref 8 14), (0, .nameAndType 15 16), (0, u "total"), (0, u "(I[I)I"), (0, .methodref 18 19), (0, .class_ 20), (0, .nameAndType 21 22), (0, u "com/example/paired_paths/pairedpaths/gsos/Choices"), (0, u "next"), (0, u "([I[I)Z"), (0, .methodref 8 24), (0, .nameAndType 25 26), (0, u "inRange"), (0, u "(II)Z"), (3, u "law"), (0, u "(III)Z")] 4

def k1m0 : Method := { name := "<init>", desc := "()V", sig := { parameters := [], returnType := none }, accessFlags := 2, code := none }
def k1c1 : Code := { maxStack := 4, maxLocals := 3, code := method_2_code, exceptionTable := #[], attributes := #[] }
def k1m1 : Method := { name := "value", desc := "(I[I[I)I", sig := { parameters := [.int, (.array .int), (.array .int)], returnType := some .int }, accessFlags := 10, code := some k1c1 }
def k1c2 : Code := { maxStack := 3, maxLocals := 2, code := method_3_code, exceptionTable := #[], attributes := #[] }
def k1m2 : Method := { name := "total", desc := "(I[I)I", sig := { parameters := [.int, (.array .int)], returnType := some .int }, accessFlags := 10, code := some k1c2 }
def k1c3 : Code := { maxStack := 2, maxLocals := 2, code := method_4_code, exceptionTable := #[], attributes := #[] }
def k1m3 : Method := { name := "inRange", desc := "(II)Z", sig := { parameters := [.int, .int], returnType := some .boolean }, accessFlags := 10, code := some k1c3 }
def k1c4 : Code := { maxStack := 5, maxLocals := 14, code := code, exceptionTable := #[], attributes := #[] }
def k1m4 : Method := { name := "law", desc := "(III)Z", sig := { parameters := [.int, .int, .int], returnType := some .boolean }, accessFlags := 9, code := some k1c4 }
/-- com/example/paired_paths/pairedpaths/gsos/ChoicesNextPinLaw -/
def k1 : Class := { plain "com/example/paired_paths/pairedpaths/gsos/ChoicesNextPinLaw" (some 0) with
  accessFlags := 49
  interfaces := #[]
  cf := some (fileOf pool1 8 #[] #[{ accessFlags := 2, nameIndex := 5, descriptorIndex := 6, attributes := #[] }, { accessFlags := 10, nameIndex := 11, descriptorIndex := 12, attributes := #[] }, { accessFlags := 10, nameIndex := 15, descriptorIndex := 16, attributes := #[] }, { accessFlags := 10, nameIndex := 25, descriptorIndex := 26, attributes := #[] }, { accessFlags := 9, nameIndex := 30, descriptorIndex := 31, attributes := #[] }] 49 2 #[] #[])
  fields := #[]
  methods := #[k1m0, k1m1, k1m2, k1m3, k1m4]
  instanceTypes := #[]
  staticTypes := #[]
  resolved := Array.replicate 36 none
  statics := none }

def pool2 : Array CpInfo := pool [(2, .class_ 4), (1, u "java/lang/Object"), (0, u "<init>"), (0, u "()V"), (10, .class_ 18), (0, u "com/example/paired_paths/pairedpaths/gsos/Choices"), (7, u "next"), (0, u "([I[I)Z")] 2

def k2m0 : Method := { name := "<init>", desc := "()V", sig := { parameters := [], returnType := none }, accessFlags := 2, code := none }
def k2c1 : Code := { maxStack := 4, maxLocals := 3, code := prog_64_method_3_code, exceptionTable := #[], attributes := #[] }
def k2m1 : Method := { name := "next", desc := "([I[I)Z", sig := { parameters := [(.array .int), (.array .int)], returnType := some .boolean }, accessFlags := 8, code := some k2c1 }
/-- com/example/paired_paths/pairedpaths/gsos/Choices -/
def k2 : Class := { plain "com/example/paired_paths/pairedpaths/gsos/Choices" (some 0) with
  accessFlags := 32
  interfaces := #[]
  cf := some (fileOf pool2 17 #[] #[{ accessFlags := 2, nameIndex := 5, descriptorIndex := 6, attributes := #[] }, { accessFlags := 8, nameIndex := 26, descriptorIndex := 27, attributes := #[] }] 32 2 #[] #[])
  fields := #[]
  methods := #[k2m0, k2m1]
  instanceTypes := #[]
  staticTypes := #[]
  resolved := Array.replicate 30 none
  statics := none }

def pool3 : Array CpInfo := pool [(1, u "java/lang/Cloneable"), (0, .class_ 1), (0, u "java/lang/Object"), (0, .class_ 3)] 3

/-- java/lang/Cloneable -/
def k3 : Class := { plain "java/lang/Cloneable" (some 0) with
  accessFlags := 1537
  interfaces := #[]
  cf := some (fileOf pool3 2 #[] #[] 1537 4 #[] #[])
  fields := #[]
  methods := #[]
  instanceTypes := #[]
  staticTypes := #[]
  resolved := Array.replicate 8 none
  statics := none }

def pool4 : Array CpInfo := pool [(1, u "java/io/Serializable"), (0, .class_ 1), (0, u "java/lang/Object"), (0, .class_ 3)] 3

/-- java/io/Serializable -/
def k4 : Class := { plain "java/io/Serializable" (some 0) with
  accessFlags := 1537
  interfaces := #[]
  cf := some (fileOf pool4 2 #[] #[] 1537 4 #[] #[])
  fields := #[]
  methods := #[]
  instanceTypes := #[]
  staticTypes := #[]
  resolved := Array.replicate 8 none
  statics := none }

/-- the primitive byte -/
def k5 : Class := { plain "byte" none with kind := .primitive 'B', accessFlags := 0x411 }
/-- [B -/
def k6 : Class := { plain "[B" (some 0) with kind := .array 5 .byte, interfaces := #[3, 4], accessFlags := 1041 }

/-- the primitive int -/
def k7 : Class := { plain "int" none with kind := .primitive 'I', accessFlags := 0x411 }
/-- [I -/
def k8 : Class := { plain "[I" (some 0) with kind := .array 7 .int, interfaces := #[3, 4], accessFlags := 1041 }

def heap : Heap := #[]
def classes : Array Class := #[k0, k1, k2, k3, k4, k5, k6, k7, k8]
def interned : List (Array UInt16 × Addr) := []
def slotsUsed : Nat := 0
def theMethod : MethodId := ⟨1, 4⟩
def args0 : Array Value := #[.int 5, .int 8, .int 11]
def aboutOver (below : List Frame) : State where
  vm := { classes := classes, interned := interned.toArray }
  heap := heap
  slotsUsed := slotsUsed
  threads := #[{ frames := .invoking theMethod args0 :: below }]
def below0 : List Frame := [.native { method := ⟨0, 0⟩, args := #[] }]
def about1 : State := aboutOver below0
def p0 : Program := .bare "" "" ""
def e0 : Env := launch0.env 0 0 0
theorem w_frames : about1.frames = Frame.invoking theMethod args0 :: below0 := rfl
set_option maxRecDepth 65536 in
theorem w_args : argsFit about1.vm theMethod args0 = true := by decide +kernel
set_option maxRecDepth 65536 in
theorem w_heap : heapFits about1 = true := by decide +kernel
set_option maxRecDepth 65536 in
theorem w_runnable : about1.curStatus? = some .runnable := by decide +kernel
set_option maxRecDepth 65536 in
theorem w_alone : about1.alone = true := by decide +kernel
set_option maxRecDepth 65536 in
theorem w_named : about1.methodNamed? x = some theMethod := by decide +kernel
set_option maxRecDepth 65536 in
theorem w_hears : about1.hears theMethod below0 = true := by decide +kernel
set_option maxRecDepth 65536 in
theorem w_ripe : about1.ripe theMethod args0 below0 = true := by decide +kernel
theorem w_running : about1.status = .running := rfl
set_option maxRecDepth 65536 in
theorem w_room : about1.hasRoom e0.platform room_1 = true :=
  launch0.hasRoom_least _ room_1 (by decide +kernel) (by decide +kernel) (by decide +kernel) (by decide +kernel) (by decide +kernel) (by decide +kernel)
theorem allAtoms_all (ts : List Jvm.Cond) (a : Array Jvm.Value) (st : Jvm.State) : (allAtoms ts).before a st = ts.all (fun c => c.before a st) := by
  induction ts with
  | nil => rfl
  | cons c t ih =>
    show (Jvm.Cond.and c (allAtoms t)).before a st = _
    rw [Jvm.Cond.before_and, ih, List.all_cons]
def words1 : List Jvm.Cond := Jvm.Cond.code x code maxLocals ret :: tables_1
/-- a 'code' word, met by the world's own term for the bytes: nothing is compared byte by byte -/
theorem code_word {y : MethodName} {bytes : ByteArray} {mx : Nat} {rt : Option FieldType} {a : Array Value} {s : State} {m : MethodId} {meth : Method} {c : Code} (h1 : s.methodNamed? y = some m) (h2 : s.vm.method? m = some meth) (h3 : meth.code = some c) (h4 : c.code = bytes)
    (h5 : (c.maxLocals == mx && c.exceptionTable.isEmpty && decide (c.maxStack ≤ mostOperands) && decide (meth.sig.returnType = rt) && !meth.locks && decide (parseMethodDescriptor y.desc = some meth.sig)) = true) : (Jvm.Cond.code y bytes mx rt).before a s = true := by
  simp only [Bool.and_eq_true, beq_iff_eq, Bool.not_eq_true', decide_eq_true_eq] at h5
  obtain ⟨⟨⟨⟨⟨g1, g2⟩, g3⟩, g4⟩, g5⟩, g6⟩ := h5
  simp [Cond.before, Cond.holds, Cond.value, h1, h2, h3, h4, g1, g2, g3, g4, g5, g6]
def isCode : Jvm.Cond → Bool
  | .code _ _ _ _ => true
  | _ => false
theorem all_split {L : List Jvm.Cond} {P : Jvm.Cond → Bool} (h1 : L.all (fun c => isCode c || P c) = true) (h2 : ∀ c ∈ L.filter isCode, P c = true) : L.all P = true := by
  refine List.all_eq_true.mpr fun c hc => ?_
  have h := List.all_eq_true.mp h1 c hc
  rcases Bool.eq_false_or_eq_true (isCode c) with hi | hi
  · exact h2 c (List.mem_filter.mpr ⟨hc, hi⟩)
  · simpa [hi] using h
set_option maxRecDepth 65536 in
theorem w_c0 : (Jvm.Cond.code x code maxLocals ret).before args0 about1 = true := code_word (m := ⟨1, 4⟩) (meth := k1m4) (c := k1c4) (by decide +kernel) rfl rfl rfl (by decide +kernel)
set_option maxRecDepth 65536 in
theorem w_c1 : (Jvm.Cond.code ({ cls := "com/example/paired_paths/pairedpaths/gsos/ChoicesNextPinLaw", name := "value", desc := "(I[I[I)I" } : Jvm.MethodName) method_2_code (3 : Nat) (Option.some Jvm.ClassFile.FieldType.int)).before args0 about1 = true := code_word (m := ⟨1, 1⟩) (meth := k1m1) (c := k1c1) (by decide +kernel) rfl rfl rfl (by decide +kernel)
set_option maxRecDepth 65536 in
theorem w_c2 : (Jvm.Cond.code ({ cls := "com/example/paired_paths/pairedpaths/gsos/ChoicesNextPinLaw", name := "total", desc := "(I[I)I" } : Jvm.MethodName) method_3_code (2 : Nat) (Option.some Jvm.ClassFile.FieldType.int)).before args0 about1 = true := code_word (m := ⟨1, 2⟩) (meth := k1m2) (c := k1c2) (by decide +kernel) rfl rfl rfl (by decide +kernel)
set_option maxRecDepth 65536 in
theorem w_c3 : (Jvm.Cond.code ({ cls := "com/example/paired_paths/pairedpaths/gsos/Choices", name := "next", desc := "([I[I)Z" } : Jvm.MethodName) prog_64_method_3_code (3 : Nat) (Option.some Jvm.ClassFile.FieldType.boolean)).before args0 about1 = true := code_word (m := ⟨2, 1⟩) (meth := k2m1) (c := k2c1) (by decide +kernel) rfl rfl rfl (by decide +kernel)
set_option maxRecDepth 65536 in
theorem w_c4 : (Jvm.Cond.code ({ cls := "com/example/paired_paths/pairedpaths/gsos/ChoicesNextPinLaw", name := "inRange", desc := "(II)Z" } : Jvm.MethodName) method_4_code (2 : Nat) (Option.some Jvm.ClassFile.FieldType.boolean)).before args0 about1 = true := code_word (m := ⟨1, 3⟩) (meth := k1m3) (c := k1c3) (by decide +kernel) rfl rfl rfl (by decide +kernel)
def codes1 : List Jvm.Cond := [Jvm.Cond.code x code maxLocals ret, Jvm.Cond.code ({ cls := "com/example/paired_paths/pairedpaths/gsos/ChoicesNextPinLaw", name := "value", desc := "(I[I[I)I" } : Jvm.MethodName) method_2_code (3 : Nat) (Option.some Jvm.ClassFile.FieldType.int), Jvm.Cond.code ({ cls := "com/example/paired_paths/pairedpaths/gsos/ChoicesNextPinLaw", name := "total", desc := "(I[I)I" } : Jvm.MethodName) method_3_code (2 : Nat) (Option.some Jvm.ClassFile.FieldType.int), Jvm.Cond.code ({ cls := "com/example/paired_paths/pairedpaths/gsos/Choices", name := "next", desc := "([I[I)Z" } : Jvm.MethodName) prog_64_method_3_code (3 : Nat) (Option.some Jvm.ClassFile.FieldType.boolean), Jvm.Cond.code ({ cls := "com/example/paired_paths/pairedpaths/gsos/ChoicesNextPinLaw", name := "inRange", desc := "(II)Z" } : Jvm.MethodName) method_4_code (2 : Nat) (Option.some Jvm.ClassFile.FieldType.boolean)]
set_option maxRecDepth 65536 in
theorem codes_eq : words1.filter isCode = codes1 := rfl
theorem w_codes : ∀ c ∈ words1.filter isCode, c.before args0 about1 = true := by
  rw [codes_eq]
  intro c hc
  simp only [codes1, List.mem_cons, List.not_mem_nil, or_false] at hc
  rcases hc with rfl | rfl | rfl | rfl | rfl
  · exact w_c0
  · exact w_c1
  · exact w_c2
  · exact w_c3
  · exact w_c4
set_option maxRecDepth 65536 in
theorem w_t1 : words1.all (fun c => isCode c || c.before args0 about1) = true := by decide +kernel
theorem w_tables : (allAtoms (Jvm.Cond.code x code maxLocals ret :: tables_1)).before args0 about1 = true := by
  rw [allAtoms_all]
  show words1.all (fun c => c.before args0 about1) = true
  refine all_split ?_ w_codes
  rw [w_t1]
set_option maxRecDepth 65536 in
theorem w_case : (Jvm.Cond.and given_1 narrow_1).before args0 about1 = true := by decide +kernel
theorem w_applies : (headSpec (Jvm.Cond.code x code maxLocals ret :: tables_1) room_1).applies x e0.platform about1 = true :=
  (Spec.applies_iff w_frames).mpr ⟨w_running, w_runnable, w_alone, w_named, w_hears, w_ripe, w_room, w_tables⟩
theorem atStart : AtStart classFile x code maxLocals ret World_1 tables_1 room_1 Calls_1 rest_1 Pre_1 launch0 p0 e0 about1 theMethod args0 below0 :=
  ⟨lists_1, trivial, launch0.admits_env _ _ _, launch0.least_env, fairChoices_fair.cas, fairChoices_fair.clock, w_frames, w_args, w_heap, w_applies, trivial, trivial, w_case⟩
end start1
theorem witness_1 : WitnessClaimed_1 := ⟨start1.p0, start1.e0, start1.about1, start1.theMethod, start1.args0, start1.below0, start1.atStart⟩
end Jvm.Pilot.@@N@@
