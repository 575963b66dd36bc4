import JvmDerived
import JvmDerived.Pilot.@@N@@Statement
import JvmDerived.Pilot.@@N@@Code
set_option linter.unusedVariables false
set_option linter.unusedSimpArgs false
namespace Jvm.Pilot.@@N@@
open Jvm Jvm.ClassFile Sem Op Lib Jvm.Free Jvm.Stand Jvm.LawKit Jvm.RoadKit Bundle Jvm.Pilot.@@N@@.Jvm.D

theorem own_w {Z : State} {a0 : Array Value} (hw : ∀ d ∈ tables_1, d.before a0 Z = true) (i : Nat) {d : Jvm.Cond} (h : tables_1[i]? = some d) : d.before a0 Z = true := hw d (List.mem_of_getElem? h)
def own_Fin (p : Program) (e : Env) (below : List Frame) (G : Outcome → State → Prop) (st : State) : Prop := ∃ t o, Steps p.tables e below st t ∧ t.status = .running ∧ Ended t below o ∧ G o t
section OwnKit
variable {p : Program} {l : Launch} {e : Env} {R : Room} {s : State} {m : MethodId} {args : Array Value} {below : List Frame} {meth : Method} {c : Code} {T : State} {locs : List Loc} {cells slots : Nat} {Z : State} {a0 : Array Value} {h h' : Heap} {G : Outcome → State → Prop} {st st' : State} {Qk : Option Value → Heap → List Loc → Prop} {K N : Nat} {a b : Addr} {ty : FieldType} {vs : List Value} {ws : List Addr} {sl : Nat} {v : Value}
theorem own_st (k : ∀ target, Steps p.tables e below st' target → Steps p.tables e below st target) (q : own_Fin p e below G st') : own_Fin p e below G st := by
  obtain ⟨t, o, h1, h2⟩ := q; exact ⟨t, o, k t h1, h2⟩
theorem own_tr (k : Steps p.tables e below st st') (q : own_Fin p e below G st') : own_Fin p e below G st := by
  obtain ⟨t, o, h1, h2⟩ := q; exact ⟨t, o, k.trans h1, h2⟩
theorem own_start (q : ∀ G : Outcome → State → Prop, (∀ v L t, Qk v t.heap L → FrameEnd s (.returned v) t L K N → G (.returned v) t) → own_Fin p e below G st) : ∃ s₂ o, Steps p.tables e below st s₂ ∧ s₂.status = .running ∧ Ended s₂ below o ∧ ∃ v L, o = .returned v ∧ Qk v s₂.heap L ∧ FrameEnd s o s₂ L K N :=
  q _ (fun v L t q f => ⟨v, L, rfl, q, f⟩)
theorem own_out (X : Stand p l e R s m args below meth c T locs cells slots) (hlocks : meth.locks = false) {v : Option Value} (hv : meth.sig.returnType = none → v = none) (hG : ∀ v L t, Qk v t.heap L → FrameEnd s (.returned v) t L K N → G (.returned v) t)
    (hstep : ∀ fs, (∀ (f : JFrame) (acts : List Action), f.method = m → f.locked = none → f.entered = [] → (doReturn e (T.setTop f) acts v).1 = T.setFrames fs) → Steps p.tables e below st (T.setFrames fs)) (hc : cells ≤ K) (hn : slots ≤ N) (hQ : Qk v T.heap locs) : own_Fin p e below G st := by
  obtain ⟨fs, hr, hrun, hended, hW, hsame⟩ := X.leave hv hlocks
  exact ⟨_, _, hstep fs hr, hrun, hended, hG _ _ _ hQ ⟨⟨_, rfl⟩, hW, hsame.mono hc hn⟩⟩
theorem own_ldc (X : Stand p l e R s m args below meth c T locs cells slots) (hx : p.tables.exec = Jvm.exec) (hZ : Z.Warmed39 s.vm) {own : String} {index : Nat} {v : Int32} (hown : s.vm.findClass own = some m.cls) (w : (Cond.constant own index v).before a0 Z = true) {g : JFrame} (hg : g.method = m) (hd : decode c.code g.pc = .ok (.ldc index, 2)) {target : State}
    (kk : Steps p.tables e below (T.setTop { g with pc := g.pc + 2, stack := .int v :: g.stack }) target) : Steps p.tables e below (T.setTop g) target := X.ldcInt hx hown (mvT hZ w) hg hd target kk
theorem own_ldcJ (X : Stand p l e R s m args below meth c T locs cells slots) (hx : p.tables.exec = Jvm.exec) (hZ : Z.Warmed39 s.vm) {own : String} {index : Nat} {v : Int64} (hown : s.vm.findClass own = some m.cls) (w : (Cond.constantLong own index v).before a0 Z = true) {g : JFrame} (hg : g.method = m) (hd : decode c.code g.pc = .ok (.ldc2_w index, 3)) {target : State}
    (kk : Steps p.tables e below (T.setTop { g with pc := g.pc + 3, stack := .long v :: g.stack }) target) : Steps p.tables e below (T.setTop g) target := X.ldc2Long hx hown (mvT hZ w) hg hd target kk
theorem own_ldcF (X : Stand p l e R s m args below meth c T locs cells slots) (hx : p.tables.exec = Jvm.exec) (hZ : Z.Warmed39 s.vm) {own : String} {index : Nat} {v : UInt32} (hown : s.vm.findClass own = some m.cls) (w : (Cond.constantFloat own index v).before a0 Z = true) {g : JFrame} (hg : g.method = m) (hd : decode c.code g.pc = .ok (.ldc index, 2)) {target : State}
    (kk : Steps p.tables e below (T.setTop { g with pc := g.pc + 2, stack := .float v :: g.stack }) target) : Steps p.tables e below (T.setTop g) target := X.ldcFloatC hx hown (mvT hZ w) hg hd target kk
def own_AV (Z : State) (h : Heap) (a : Addr) (ty : FieldType) (vs : List Value) : Prop := ∃ c : Cell, Arr Z h a c ty ∧ c.slots.toList = vs
def own_is (xs : List Int32) : List Value := xs.map Value.int
def own_js (xs : List Int64) : List Value := xs.map Value.long
theorem own_AV.lt (A : own_AV Z h a ty vs) : a < h.size := by obtain ⟨c, A, -⟩ := A; exact A.lt
theorem own_AV.ext (A : own_AV Z h a ty vs) (E : Ext h h') : own_AV Z h' a ty vs := by obtain ⟨c, A, r⟩ := A; exact ⟨c, A.ext E, r⟩
theorem own_AV.other (A : own_AV Z h b ty vs) (W : Wr h h' a sl v) (q : b ≠ a) : own_AV Z h' b ty vs := by obtain ⟨c, A, r⟩ := A; exact ⟨c, A.other W q, r⟩
theorem own_AV.keep (A : own_AV Z h a ty vs) (K : Keep h h' ws) (q : a ∉ ws) : own_AV Z h' a ty vs := by obtain ⟨c, A, r⟩ := A; exact ⟨c, ⟨K.2.1 a c A.1 q, A.2⟩, r⟩
theorem own_AV_new {k : ClassId} {z : Int32} (A : Arr Z h a (newA k ty z) ty) : own_AV Z h a ty (List.replicate z.toNatClampNeg (defaultValue ty)) := ⟨_, A, by simp [newA]⟩
theorem own_AV_newI {k : ClassId} {z : Int32} (A : Arr Z h a (newA k .int z) .int) : own_AV Z h a .int (own_is (List.replicate z.toNatClampNeg 0)) := ⟨_, A, by simp [newA, own_is, defaultValue]⟩
theorem own_AV_newJ {k : ClassId} {z : Int32} (A : Arr Z h a (newA k .long z) .long) : own_AV Z h a .long (own_js (List.replicate z.toNatClampNeg 0)) := ⟨_, A, by simp [newA, own_js, defaultValue]⟩
theorem own_in {c : Cell} {n : Nat} {j : Int32} (r : c.slots.toList = vs) (hn : vs.length = n) (hj : ¬ (j < 0 ∨ n ≤ j.toNatClampNeg)) : ¬ (j < 0 ∨ c.slots.size ≤ j.toNatClampNeg) := by
  rw [← Array.length_toList, r, hn]; exact hj
theorem own_nat {n : Nat} {j : Int32} (hj : ¬ (j < 0 ∨ n ≤ j.toNatClampNeg)) : j.toNatClampNeg < n := Nat.lt_of_not_le fun q => hj (Or.inr q)
theorem own_ldI (X : Stand p l e R s m args below meth c T locs cells slots) (hx : p.tables.exec = Jvm.exec) (hZ : Z.Warmed39 s.vm) (eT : T.heap = h) {xs : List Int32} (A : own_AV Z h a .int (own_is xs)) {j : Int32} {n : Nat} (hn : xs.length = n) (hj : ¬ (j < 0 ∨ n ≤ j.toNatClampNeg))
    {g : JFrame} (hg : g.method = m) {rest : List Value} (hs : g.stack = .int j :: .ref a :: rest) (hd : decode c.code g.pc = .ok (.iaload, 1)) {target : State} (kk : Steps p.tables e below (T.setTop { g with pc := g.pc + 1, stack := .int (xs.getD j.toNatClampNeg 0) :: rest }) target) : Steps p.tables e below (T.setTop g) target := by
  obtain ⟨cl, A, r⟩ := A
  have hlt := own_nat hj
  refine X.iaload hx (by rw [eT]; exact A.1) (State.isArrayOf_alike hZ.alike A.2.1) A.2.2 (own_in r (by simp [own_is, hn]) hj) ?_ hg hs hd _ kk
  rw [← Array.getElem?_toList, r]
  simp [own_is, List.getD_eq_getElem?_getD, List.getElem?_eq_getElem (hn ▸ hlt)]
theorem own_ldJ (X : Stand p l e R s m args below meth c T locs cells slots) (hx : p.tables.exec = Jvm.exec) (hZ : Z.Warmed39 s.vm) (eT : T.heap = h) {xs : List Int64} (A : own_AV Z h a .long (own_js xs)) {j : Int32} {n : Nat} (hn : xs.length = n) (hj : ¬ (j < 0 ∨ n ≤ j.toNatClampNeg))
    {g : JFrame} (hg : g.method = m) {rest : List Value} (hs : g.stack = .int j :: .ref a :: rest) (hd : decode c.code g.pc = .ok (.laload, 1)) {target : State} (kk : Steps p.tables e below (T.setTop { g with pc := g.pc + 1, stack := .long (xs.getD j.toNatClampNeg 0) :: rest }) target) : Steps p.tables e below (T.setTop g) target := by
  obtain ⟨cl, A, r⟩ := A
  have hlt := own_nat hj
  refine X.laload hx (by rw [eT]; exact A.1) (State.isArrayOf_alike hZ.alike A.2.1) A.2.2 (own_in r (by simp [own_js, hn]) hj) ?_ hg hs hd _ kk
  rw [← Array.getElem?_toList, r]
  simp [own_js, List.getD_eq_getElem?_getD, List.getElem?_eq_getElem (hn ▸ hlt)]
theorem own_set {cl : Cell} {j : Nat} (A : Arr Z h a cl ty) (r : cl.slots.toList = vs) (W : Wr h h' a j v) : own_AV Z h' a ty (vs.set j v) := ⟨_, A.same W, by simp [Cell.setSlot, ← r]⟩
theorem own_stI (X : Stand p l e R s m args below meth c T locs cells slots) (hx : p.tables.exec = Jvm.exec) (hZ : Z.Warmed39 s.vm) (eT : T.heap = h) {xs : List Int32} (A : own_AV Z h a .int (own_is xs)) {j x : Int32} {n : Nat} (hn : xs.length = n) (hj : ¬ (j < 0 ∨ n ≤ j.toNatClampNeg))
    {g : JFrame} (hg : g.method = m) {rest : List Value} (hs : g.stack = .int x :: .int j :: .ref a :: rest) (hd : decode c.code g.pc = .ok (.iastore, 1)) :
    ∃ T' h', Stand p l e R s m args below meth c T' (locs ++ [⟨a, j.toNatClampNeg⟩]) cells slots ∧ T'.heap = h' ∧ Wr h h' a j.toNatClampNeg (.int x) ∧ own_AV Z h' a .int (own_is (xs.set j.toNatClampNeg x)) ∧ ∀ target, Steps p.tables e below (T'.setTop { g with pc := g.pc + 1, stack := rest }) target → Steps p.tables e below (T.setTop g) target := by
  obtain ⟨cl, A, r⟩ := A
  obtain ⟨T', h', X', e', W, st⟩ := stI X hx hZ eT A (own_in r (by simp [own_is, hn]) hj) hg hs hd
  exact ⟨T', h', X', e', W, by have q := own_set A r W; simpa [own_is, List.map_set] using q, st⟩
theorem own_stJ (X : Stand p l e R s m args below meth c T locs cells slots) (hx : p.tables.exec = Jvm.exec) (hZ : Z.Warmed39 s.vm) (eT : T.heap = h) {xs : List Int64} (A : own_AV Z h a .long (own_js xs)) {j : Int32} {x : Int64} {n : Nat} (hn : xs.length = n) (hj : ¬ (j < 0 ∨ n ≤ j.toNatClampNeg))
    {g : JFrame} (hg : g.method = m) {rest : List Value} (hs : g.stack = .long x :: .int j :: .ref a :: rest) (hd : decode c.code g.pc = .ok (.lastore, 1)) :
    ∃ T' h', Stand p l e R s m args below meth c T' (locs ++ [⟨a, j.toNatClampNeg⟩]) cells slots ∧ T'.heap = h' ∧ Wr h h' a j.toNatClampNeg (.long x) ∧ own_AV Z h' a .long (own_js (xs.set j.toNatClampNeg x)) ∧ ∀ target, Steps p.tables e below (T'.setTop { g with pc := g.pc + 1, stack := rest }) target → Steps p.tables e below (T.setTop g) target := by
  obtain ⟨cl, A, r⟩ := A
  obtain ⟨T', h', X', e', W, st⟩ := stJ X hx hZ eT A (own_in r (by simp [own_js, hn]) hj) hg hs hd
  exact ⟨T', h', X', e', W, by have q := own_set A r W; simpa [own_js, List.map_set] using q, st⟩
theorem own_len (X : Stand p l e R s m args below meth c T locs cells slots) (hx : p.tables.exec = Jvm.exec) (hZ : Z.Warmed39 s.vm) (eT : T.heap = h) (A : own_AV Z h a ty vs) {z : Int32} (hz : vs.length.toInt32 = z)
    {g : JFrame} (hg : g.method = m) {rest : List Value} (hs : g.stack = .ref a :: rest) (hd : decode c.code g.pc = .ok (.arraylength, 1)) {target : State} (kk : Steps p.tables e below (T.setTop { g with pc := g.pc + 1, stack := .int z :: rest }) target) : Steps p.tables e below (T.setTop g) target := by
  obtain ⟨cl, A, r⟩ := A
  refine X.arraylength hx (by rw [eT]; exact A.1) (State.isArrayOf_alike hZ.alike A.2.1) hg hs hd target ?_
  rw [← Array.length_toList, r, hz]; exact kk
def own_ds (xs : List UInt64) : List Value := xs.map Value.double
theorem own_AV_newD {k : ClassId} {z : Int32} (A : Arr Z h a (newA k .double z) .double) : own_AV Z h a .double (own_ds (List.replicate z.toNatClampNeg 0)) := ⟨_, A, by simp [newA, own_ds, defaultValue]⟩
theorem own_stD (X : Stand p l e R s m args below meth c T locs cells slots) (hx : p.tables.exec = Jvm.exec) (hZ : Z.Warmed39 s.vm) (eT : T.heap = h) {xs : List UInt64} (A : own_AV Z h a .double (own_ds xs)) {j : Int32} {x : UInt64} {n : Nat} (hn : xs.length = n) (hj : ¬ (j < 0 ∨ n ≤ j.toNatClampNeg))
    {g : JFrame} (hg : g.method = m) {rest : List Value} (hs : g.stack = .double x :: .int j :: .ref a :: rest) (hd : decode c.code g.pc = .ok (.dastore, 1)) :
    ∃ T' h', Stand p l e R s m args below meth c T' (locs ++ [⟨a, j.toNatClampNeg⟩]) cells slots ∧ T'.heap = h' ∧ Wr h h' a j.toNatClampNeg (.double x) ∧ own_AV Z h' a .double (own_ds (xs.set j.toNatClampNeg x)) ∧ ∀ target, Steps p.tables e below (T'.setTop { g with pc := g.pc + 1, stack := rest }) target → Steps p.tables e below (T.setTop g) target := by
  obtain ⟨cl, A, r⟩ := A
  obtain ⟨T', h', X', e', W, st⟩ := stD X hx hZ eT A (own_in r (by simp [own_ds, hn]) hj) hg hs hd
  exact ⟨T', h', X', e', W, by have q := own_set A r W; simpa [own_ds, List.map_set] using q, st⟩
theorem own_ldD (X : Stand p l e R s m args below meth c T locs cells slots) (hx : p.tables.exec = Jvm.exec) (hZ : Z.Warmed39 s.vm) (eT : T.heap = h) {xs : List UInt64} (A : own_AV Z h a .double (own_ds xs)) {j : Int32} {n : Nat} (hn : xs.length = n) (hj : ¬ (j < 0 ∨ n ≤ j.toNatClampNeg))
    {g : JFrame} (hg : g.method = m) {rest : List Value} (hs : g.stack = .int j :: .ref a :: rest) (hd : decode c.code g.pc = .ok (.daload, 1)) {target : State} (kk : Steps p.tables e below (T.setTop { g with pc := g.pc + 1, stack := .double (xs.getD j.toNatClampNeg 0) :: rest }) target) : Steps p.tables e below (T.setTop g) target := by
  obtain ⟨cl, A, r⟩ := A
  have hlt := own_nat hj
  refine X.daload hx (by rw [eT]; exact A.1) (State.isArrayOf_alike hZ.alike A.2.1) A.2.2 (own_in r (by simp [own_ds, hn]) hj) ?_ hg hs hd _ kk
  rw [← Array.getElem?_toList, r]
  simp [own_ds, List.getD_eq_getElem?_getD, List.getElem?_eq_getElem (hn ▸ hlt)]
def own_AVk (Z : State) (h : Heap) (a : Addr) (k : ClassId) (ty : FieldType) (vs : List Value) : Prop := ∃ c : Cell, Arr Z h a c ty ∧ c.cls = k ∧ c.slots.toList = vs
variable {k : ClassId}
theorem own_AVk.lt (A : own_AVk Z h a k ty vs) : a < h.size := by obtain ⟨c, A, -⟩ := A; exact A.lt
theorem own_AVk.ext (A : own_AVk Z h a k ty vs) (E : Ext h h') : own_AVk Z h' a k ty vs := by obtain ⟨c, A, r⟩ := A; exact ⟨c, A.ext E, r⟩
theorem own_AVk.other (A : own_AVk Z h b k ty vs) (W : Wr h h' a sl v) (q : b ≠ a) : own_AVk Z h' b k ty vs := by obtain ⟨c, A, r⟩ := A; exact ⟨c, A.other W q, r⟩
theorem own_AVk.keep (A : own_AVk Z h a k ty vs) (K : Keep h h' ws) (q : a ∉ ws) : own_AVk Z h' a k ty vs := by obtain ⟨c, A, r⟩ := A; exact ⟨c, ⟨K.2.1 a c A.1 q, A.2⟩, r⟩
theorem own_AVk.av (A : own_AVk Z h a k ty vs) : own_AV Z h a ty vs := by obtain ⟨c, A, -, r⟩ := A; exact ⟨c, A, r⟩
theorem own_AVk_new {z : Int32} (A : Arr Z h a (newA k ty z) ty) : own_AVk Z h a k ty (List.replicate z.toNatClampNeg (defaultValue ty)) := ⟨_, A, rfl, by simp [newA]⟩
theorem own_stR (X : Stand p l e R s m args below meth c T locs cells slots) (hx : p.tables.exec = Jvm.exec) (hZ : Z.Warmed39 s.vm) (eT : T.heap = h) (A : own_AVk Z h a k ty vs) {j : Int32} {n : Nat} (hn : vs.length = n) (hj : ¬ (j < 0 ∨ n ≤ j.toNatClampNeg)) (hty : ty.isReference = true)
    (F : ∀ {c : Cell}, Arr Z h a c ty → c.cls = k → Sto Z h a v) {g : JFrame} (hg : g.method = m) {rest : List Value} (hs : g.stack = v :: .int j :: .ref a :: rest) (hd : decode c.code g.pc = .ok (.aastore, 1)) :
    ∃ T' h', Stand p l e R s m args below meth c T' (locs ++ [⟨a, j.toNatClampNeg⟩]) cells slots ∧ T'.heap = h' ∧ Wr h h' a j.toNatClampNeg v ∧ own_AVk Z h' a k ty (vs.set j.toNatClampNeg v) ∧ ∀ target, Steps p.tables e below (T'.setTop { g with pc := g.pc + 1, stack := rest }) target → Steps p.tables e below (T.setTop g) target := by
  obtain ⟨cl, A, q, r⟩ := A
  obtain ⟨T', h', X', e', W, st⟩ := stR X hx hZ eT A (own_in r hn hj) hty (F A q) hg hs hd
  exact ⟨T', h', X', e', W, ⟨_, A.same W, q, by simp [Cell.setSlot, ← r]⟩, st⟩
theorem own_ldR (X : Stand p l e R s m args below meth c T locs cells slots) (hx : p.tables.exec = Jvm.exec) (hZ : Z.Warmed39 s.vm) (eT : T.heap = h) (A : own_AVk Z h a k ty vs) {j : Int32} {n : Nat} (hn : vs.length = n) (hj : ¬ (j < 0 ∨ n ≤ j.toNatClampNeg)) (hty : ty.isReference = true) (hv : vs[j.toNatClampNeg]? = some v)
    {g : JFrame} (hg : g.method = m) {rest : List Value} (hs : g.stack = .int j :: .ref a :: rest) (hd : decode c.code g.pc = .ok (.aaload, 1)) {target : State} (kk : Steps p.tables e below (T.setTop { g with pc := g.pc + 1, stack := v :: rest }) target) : Steps p.tables e below (T.setTop g) target := by
  obtain ⟨cl, A, -, r⟩ := A
  exact X.aaload hx (by rw [eT]; exact A.1) (State.isArrayOf_alike hZ.alike A.2.1) hty A.2.2 (own_in r hn hj) (by rw [← Array.getElem?_toList, r]; exact hv) hg hs hd _ kk
theorem own_ldB (X : Stand p l e R s m args below meth c T locs cells slots) (hx : p.tables.exec = Jvm.exec) (hZ : Z.Warmed39 s.vm) (eT : T.heap = h) {xs : List Int32} (A : own_AV Z h a .byte (own_is xs)) {j : Int32} {n : Nat} (hn : xs.length = n) (hj : ¬ (j < 0 ∨ n ≤ j.toNatClampNeg))
    {g : JFrame} (hg : g.method = m) {rest : List Value} (hs : g.stack = .int j :: .ref a :: rest) (hd : decode c.code g.pc = .ok (.baload, 1)) {target : State} (kk : Steps p.tables e below (T.setTop { g with pc := g.pc + 1, stack := .int (xs.getD j.toNatClampNeg 0) :: rest }) target) : Steps p.tables e below (T.setTop g) target := by
  obtain ⟨cl, A, r⟩ := A
  have hlt := own_nat hj
  refine X.baloadBytes hx (by rw [eT]; exact A.1) (State.isArrayOf_alike hZ.alike A.2.1) A.2.2 (own_in r (by simp [own_is, hn]) hj) ?_ hg hs hd _ kk
  rw [← Array.getElem?_toList, r]
  simp [own_is, List.getD_eq_getElem?_getD, List.getElem?_eq_getElem (hn ▸ hlt)]
theorem own_eqI {args : Array Value} {s : State} {t : Term} {n : Int32} (q : (Jvm.Cond.eq t (Term.int n)).value args s none s [] = some true) : t.eval args s none [] s = some (.int n) := by
  obtain ⟨x, y, h1, h2, h3, h4⟩ := cmp_v (Or.inl q)
  cases h2.symm.trans (Term.int_eval n)
  obtain ⟨z, rfl⟩ := h4
  simp only [Cond.value, h1, h2] at q
  simpa [h1] using q
theorem own_AV.cell (A : own_AV Z h a ty vs) : ∃ c : Cell, h[a]? = some c ∧ ∀ q, c.vm ≠ .statics q := by obtain ⟨c, A, -⟩ := A; exact ⟨c, A.1, A.2.1.1⟩
theorem own_AVk.cell (A : own_AVk Z h a k ty vs) : ∃ c : Cell, h[a]? = some c ∧ ∀ q, c.vm ≠ .statics q := A.av.cell
theorem own_Sta_keep {C n d : String} {v : Value} (F : Sta Z h C n d v) (K : Keep h h' ws) (q : ∀ x ∈ ws, ∃ c : Cell, h[x]? = some c ∧ ∀ q, c.vm ≠ .statics q) : Sta Z h' C n d v := by
  obtain ⟨cf, i, k, f, st, cell, h1, h2, h3, h4, h5, h6, h7⟩ := F
  refine ⟨cf, i, k, f, st, cell, h1, h2, h3, h4, K.2.1 st cell h5 fun m => ?_, h6, h7⟩
  obtain ⟨c', g1, g2⟩ := q st m
  cases h5.symm.trans g1
  cases hv : cell.vm <;> first | exact g2 _ hv | (rw [hv] at h6; cases h6)
end OwnKit
abbrev own_y0 : MethodName := ⟨"com/example/paired_paths/pairedpaths/verification/NameProcess$Kind", "bindsName", "()Z"⟩

def own_bn (a i r b : Addr) : Int32 := if a = i then 1 else if a = r then 1 else if a = b then 1 else 0
theorem own_r12 (x : Int32) : 0 ≤ ((x &&& 2147483647) % 12).toInt ∧ ((x &&& 2147483647) % 12).toInt < 12 := by
  have e1 := c_mask x 2147483647 31 (by decide) (by decide)
  have q1 : 0 ≤ (x &&& 2147483647).toInt := by rw [e1]; omega
  have e2 := (c_irem (x &&& 2147483647) 12 12 rfl).1 q1
  omega
theorem d1_0 : decode prog_137_method_4_code 0 = .ok (.aload_n 0, 1) := by decide +kernel
theorem d1_1 : decode prog_137_method_4_code 1 = .ok (.getstatic 13, 3) := by decide +kernel
theorem d1_4 : decode prog_137_method_4_code 4 = .ok (.if_acmp .eq 17, 3) := by decide +kernel
theorem d1_21 : decode prog_137_method_4_code 21 = .ok (.iconst 1, 1) := by decide +kernel
theorem d1_22 : decode prog_137_method_4_code 22 = .ok (.goto 4, 3) := by decide +kernel
theorem d1_26 : decode prog_137_method_4_code 26 = .ok (.ireturn, 1) := by decide +kernel
theorem d1_7 : decode prog_137_method_4_code 7 = .ok (.aload_n 0, 1) := by decide +kernel
theorem d1_8 : decode prog_137_method_4_code 8 = .ok (.getstatic 19, 3) := by decide +kernel
theorem d1_11 : decode prog_137_method_4_code 11 = .ok (.if_acmp .eq 10, 3) := by decide +kernel
theorem d1_14 : decode prog_137_method_4_code 14 = .ok (.aload_n 0, 1) := by decide +kernel
theorem d1_15 : decode prog_137_method_4_code 15 = .ok (.getstatic 31, 3) := by decide +kernel
theorem d1_18 : decode prog_137_method_4_code 18 = .ok (.if_acmp .ne 7, 3) := by decide +kernel
theorem d1_25 : decode prog_137_method_4_code 25 = .ok (.iconst 0, 1) := by decide +kernel
theorem pn_com_example_paired_paths_pairedpaths_verification_NameProcess_Kind : plainName "com/example/paired_paths/pairedpaths/verification/NameProcess$Kind" = true := by first | (simp [plainName, overriddenIn]; done) | decide +kernel
theorem ef_1_R (m : MethodId) (x0 : Addr) : entryFrame m #[(.ref x0)] 1 = mkF m 0 #[rv x0] [] := by first | (simp [entryFrame, mkF, argsToLocals, Value.category]; done) | rfl
def Qrm_bn (Z : State) (a1 : Addr) (a_INPUT : Addr) (a_RESTRICTION : Addr) (a_ABSTRACTION : Addr) (h0 : Heap) (n0 : Nat) (v : Option Value) (h : Heap) (L : List Loc) : Prop := v = some (.int (own_bn a1 a_INPUT a_RESTRICTION a_ABSTRACTION)) ∧ Fr n0 L ∧ h = h0
set_option maxRecDepth 65536 in
set_option maxHeartbeats 40000000 in
theorem rm_bn (l : Launch) (Z : State) (a0 : Array Value) (hw : ∀ d ∈ tables_1, d.before a0 Z = true) (ws : List Jvm.Cond) (a1 : Addr) (a_INPUT : Addr) (a_RESTRICTION : Addr) (a_ABSTRACTION : Addr) (h0 : Heap) (n0 : Nat) (Z0 : n0 ≤ h0.size) (Sa_INPUT : Sta Z h0 "com/example/paired_paths/pairedpaths/verification/NameProcess$Kind" "INPUT" "Lcom/example/paired_paths/pairedpaths/verification/NameProcess$Kind;" (.ref a_INPUT)) (Sa_RESTRICTION : Sta Z h0 "com/example/paired_paths/pairedpaths/verification/NameProcess$Kind" "RESTRICTION" "Lcom/example/paired_paths/pairedpaths/verification/NameProcess$Kind;" (.ref a_RESTRICTION)) (Sa_ABSTRACTION : Sta Z h0 "com/example/paired_paths/pairedpaths/verification/NameProcess$Kind" "ABSTRACTION" "Lcom/example/paired_paths/pairedpaths/verification/NameProcess$Kind;" (.ref a_ABSTRACTION)) :
    MetFree l own_y0 (head1 (Jvm.Cond.code own_y0 prog_137_method_4_code 1 (some .boolean) :: ws) ({ frames := 0, cells := 0, slots := 0, locals := 0 } : Room)) (fun a U => a = #[(.ref a1)] ∧ Z.Warmed39 U.vm ∧ U.heap = h0) (fun _ _ _ _ _ => True) (fun _ U o U' => ∃ v L, o = .returned v ∧ Qrm_bn Z a1 a_INPUT a_RESTRICTION a_ABSTRACTION h0 n0 v U'.heap L ∧ FrameEnd U o U' L ({ frames := 0, cells := 0, slots := 0, locals := 0 } : Room).cells ({ frames := 0, cells := 0, slots := 0, locals := 0 } : Room).slots) := by
  refine MetFree.of_bodySF (plainFor_of_name pn_com_example_paired_paths_pairedpaths_verification_NameProcess_Kind) hisR ?_
  intro p e s m args below meth c s₁ Bd hml0 hP hK
  obtain ⟨rfl, hZ, hh⟩ := hP
  have hx := Bd.exec
  have hby := Bd.bytes
  have hml : c.maxLocals = 1 := hml0
  have hown : s.vm.findClass "com/example/paired_paths/pairedpaths/verification/NameProcess$Kind" = some m.cls := findClass_of_methodNamed Bd.named
  have hnm := (name_of_methodNamed Bd.named Bd.method).1
  have X0 : Stand p l e ({ frames := 0, cells := 0, slots := 0, locals := 0 } : Room) s m #[(.ref a1)] below meth c s₁ [] 0 0 := Stand.of_body Bd
  have e0 : s₁.heap = h0 := by rw [← hh, Bd.state]; rfl
  have N0 := Fr.nil n0
  have K0 : Keep h0 h0 [] := Keep.refl _ _
  refine own_start (Qk := Qrm_bn Z a1 a_INPUT a_RESTRICTION a_ABSTRACTION h0 n0) (fun G hG => ?_)
  refine own_st (fun _ k => castTop (ef_1_R m a1) k) ?_
  show own_Fin p e below G (s₁.setTop (mkF m 0 #[rv a1] []))
  refine own_st (fun _ k => XS.aloadN X0.here hx rfl (hb hby d1_0) rfl rfl k) ?_
  show own_Fin p e below G (s₁.setTop (mkF m 1 #[rv a1] [(.ref a1)]))
  obtain ⟨T1, X1, e1, st1⟩ := getS2 X0 hx hZ hown (host := "") (Or.inl (own_w hw 9 rfl)) Via.refl e0 Sa_INPUT (g := (mkF m 1 #[rv a1] [(.ref a1)])) rfl (hb hby d1_1)
  refine own_st st1 ?_
  show own_Fin p e below G (T1.setTop (mkF m 4 #[rv a1] [(.ref a_INPUT), (.ref a1)]))
  by_cases ha4_2 : a1 = a_INPUT
  · refine own_st (fun _ k => Jvm.RoadKit.acmp (g := (mkF m 4 #[rv a1] [(.ref a_INPUT), (.ref a1)])) X1 hx rfl rfl rfl (pc0 := 4) (pc' := 21) (same := true) rfl (hb hby d1_4) rfl (decide_eq_true (congrArg Value.ref ha4_2)) (by decide) (by decide) k) ?_
    show own_Fin p e below G (T1.setTop (mkF m 21 #[rv a1] []))
    refine own_st (fun _ k => XS.iconst X1.here hx rfl (hb hby d1_21) k) ?_
    show own_Fin p e below G (T1.setTop (mkF m 22 #[rv a1] [(.int (1 : Int32))]))
    refine own_st (fun _ k => XS.goto X1.here hx rfl (pc0 := 22) (pc' := 26) rfl (hb hby d1_22) (by decide) (by decide) k) ?_
    show own_Fin p e below G (T1.setTop (mkF m 26 #[rv a1] [(.int (1 : Int32))]))
    refine own_out X1 Bd.notSynchronized (v := (some (.int (1 : Int32)))) (fun h => by rw [Bd.returns] at h; cases h) hG (fun fs hr => retN X1 hx (t := .boolean) Bd.returns (by simp) (hb hby d1_26) hr) (by decide) (by decide) ?_
    exact ⟨by unfold own_bn; rw [if_pos ha4_2], N0, e1⟩
  · refine own_st (fun _ k => Jvm.RoadKit.acmp (g := (mkF m 4 #[rv a1] [(.ref a_INPUT), (.ref a1)])) X1 hx rfl rfl rfl (pc0 := 4) (pc' := 7) (same := false) rfl (hb hby d1_4) rfl (decide_eq_false fun q => ha4_2 (Value.ref.inj q)) (by decide) (by decide) k) ?_
    show own_Fin p e below G (T1.setTop (mkF m 7 #[rv a1] []))
    refine own_st (fun _ k => XS.aloadN X1.here hx rfl (hb hby d1_7) rfl rfl k) ?_
    show own_Fin p e below G (T1.setTop (mkF m 8 #[rv a1] [(.ref a1)]))
    obtain ⟨T3, X3, e3, st3⟩ := getS2 X1 hx hZ hown (host := "") (Or.inl (own_w hw 11 rfl)) Via.refl e1 Sa_RESTRICTION (g := (mkF m 8 #[rv a1] [(.ref a1)])) rfl (hb hby d1_8)
    refine own_st st3 ?_
    show own_Fin p e below G (T3.setTop (mkF m 11 #[rv a1] [(.ref a_RESTRICTION), (.ref a1)]))
    by_cases ha11_4 : a1 = a_RESTRICTION
    · refine own_st (fun _ k => Jvm.RoadKit.acmp (g := (mkF m 11 #[rv a1] [(.ref a_RESTRICTION), (.ref a1)])) X3 hx rfl rfl rfl (pc0 := 11) (pc' := 21) (same := true) rfl (hb hby d1_11) rfl (decide_eq_true (congrArg Value.ref ha11_4)) (by decide) (by decide) k) ?_
      show own_Fin p e below G (T3.setTop (mkF m 21 #[rv a1] []))
      refine own_st (fun _ k => XS.iconst X3.here hx rfl (hb hby d1_21) k) ?_
      show own_Fin p e below G (T3.setTop (mkF m 22 #[rv a1] [(.int (1 : Int32))]))
      refine own_st (fun _ k => XS.goto X3.here hx rfl (pc0 := 22) (pc' := 26) rfl (hb hby d1_22) (by decide) (by decide) k) ?_
      show own_Fin p e below G (T3.setTop (mkF m 26 #[rv a1] [(.int (1 : Int32))]))
      refine own_out X3 Bd.notSynchronized (v := (some (.int (1 : Int32)))) (fun h => by rw [Bd.returns] at h; cases h) hG (fun fs hr => retN X3 hx (t := .boolean) Bd.returns (by simp) (hb hby d1_26) hr) (by decide) (by decide) ?_
      exact ⟨by unfold own_bn; rw [if_neg ha4_2, if_pos ha11_4], N0, e3⟩
    · refine own_st (fun _ k => Jvm.RoadKit.acmp (g := (mkF m 11 #[rv a1] [(.ref a_RESTRICTION), (.ref a1)])) X3 hx rfl rfl rfl (pc0 := 11) (pc' := 14) (same := false) rfl (hb hby d1_11) rfl (decide_eq_false fun q => ha11_4 (Value.ref.inj q)) (by decide) (by decide) k) ?_
      show own_Fin p e below G (T3.setTop (mkF m 14 #[rv a1] []))
      refine own_st (fun _ k => XS.aloadN X3.here hx rfl (hb hby d1_14) rfl rfl k) ?_
      show own_Fin p e below G (T3.setTop (mkF m 15 #[rv a1] [(.ref a1)]))
      obtain ⟨T5, X5, e5, st5⟩ := getS2 X3 hx hZ hown (host := "") (Or.inl (own_w hw 13 rfl)) Via.refl e3 Sa_ABSTRACTION (g := (mkF m 15 #[rv a1] [(.ref a1)])) rfl (hb hby d1_15)
      refine own_st st5 ?_
      show own_Fin p e below G (T5.setTop (mkF m 18 #[rv a1] [(.ref a_ABSTRACTION), (.ref a1)]))
      by_cases ha18_6 : a1 = a_ABSTRACTION
      · refine own_st (fun _ k => Jvm.RoadKit.acmp (g := (mkF m 18 #[rv a1] [(.ref a_ABSTRACTION), (.ref a1)])) X5 hx rfl rfl rfl (pc0 := 18) (pc' := 21) (same := true) rfl (hb hby d1_18) rfl (decide_eq_true (congrArg Value.ref ha18_6)) (by decide) (by decide) k) ?_
        show own_Fin p e below G (T5.setTop (mkF m 21 #[rv a1] []))
        refine own_st (fun _ k => XS.iconst X5.here hx rfl (hb hby d1_21) k) ?_
        show own_Fin p e below G (T5.setTop (mkF m 22 #[rv a1] [(.int (1 : Int32))]))
        refine own_st (fun _ k => XS.goto X5.here hx rfl (pc0 := 22) (pc' := 26) rfl (hb hby d1_22) (by decide) (by decide) k) ?_
        show own_Fin p e below G (T5.setTop (mkF m 26 #[rv a1] [(.int (1 : Int32))]))
        refine own_out X5 Bd.notSynchronized (v := (some (.int (1 : Int32)))) (fun h => by rw [Bd.returns] at h; cases h) hG (fun fs hr => retN X5 hx (t := .boolean) Bd.returns (by simp) (hb hby d1_26) hr) (by decide) (by decide) ?_
        exact ⟨by unfold own_bn; rw [if_neg ha4_2, if_neg ha11_4, if_pos ha18_6], N0, e5⟩
      · refine own_st (fun _ k => Jvm.RoadKit.acmp (g := (mkF m 18 #[rv a1] [(.ref a_ABSTRACTION), (.ref a1)])) X5 hx rfl rfl rfl (pc0 := 18) (pc' := 25) (same := false) rfl (hb hby d1_18) rfl (decide_eq_false fun q => ha18_6 (Value.ref.inj q)) (by decide) (by decide) k) ?_
        show own_Fin p e below G (T5.setTop (mkF m 25 #[rv a1] []))
        refine own_st (fun _ k => XS.iconst X5.here hx rfl (hb hby d1_25) k) ?_
        show own_Fin p e below G (T5.setTop (mkF m 26 #[rv a1] [(.int (0 : Int32))]))
        refine own_out X5 Bd.notSynchronized (v := (some (.int (0 : Int32)))) (fun h => by rw [Bd.returns] at h; cases h) hG (fun fs hr => retN X5 hx (t := .boolean) Bd.returns (by simp) (hb hby d1_26) hr) (by decide) (by decide) ?_
        exact ⟨by unfold own_bn; rw [if_neg ha4_2, if_neg ha11_4, if_neg ha18_6], N0, e5⟩

theorem pd___Z_171 : parseMethodDescriptor "()Z" = some ⟨[], some .boolean⟩ := by decide +kernel
theorem pn_com_example_paired_paths_pairedpaths_verification_KindBindsNamePinLaw : plainName "com/example/paired_paths/pairedpaths/verification/KindBindsNamePinLaw" = true := by first | (simp [plainName, overriddenIn]; done) | decide +kernel
theorem ef_0_I (m : MethodId) (x0 : Int32) : entryFrame m #[(.int x0)] maxLocals = mkF m 0 #[iv x0, .unset, .unset, .unset] [] := by first | (simp [entryFrame, mkF, argsToLocals, Value.category, maxLocals]; done) | rfl
def Qrm0 (Z : State) (p1 : Int32) (a_NIL : Addr) (a_INPUT : Addr) (a_RESTRICTION : Addr) (a_ABSTRACTION : Addr) (a_OUTPUT : Addr) (a_REPLICATION : Addr) (a_PARALLEL : Addr) (a_SILENT : Addr) (a_RECURSION : Addr) (a_VARIABLE : Addr) (a_SUM : Addr) (a_MATCH : Addr) (h0 : Heap) (n0 : Nat) (v : Option Value) (h : Heap) (L : List Loc) : Prop := v = some (.int 1) ∧ Fr n0 L
set_option maxRecDepth 65536 in
set_option maxHeartbeats 40000000 in
theorem rm0 (l : Launch) (Z : State) (a0 : Array Value) (hw : ∀ d ∈ tables_1, d.before a0 Z = true) (ws : List Jvm.Cond) (p1 : Int32) (a_NIL : Addr) (a_INPUT : Addr) (a_RESTRICTION : Addr) (a_ABSTRACTION : Addr) (a_OUTPUT : Addr) (a_REPLICATION : Addr) (a_PARALLEL : Addr) (a_SILENT : Addr) (a_RECURSION : Addr) (a_VARIABLE : Addr) (a_SUM : Addr) (a_MATCH : Addr) (h0 : Heap) (n0 : Nat) (Z0 : n0 ≤ h0.size) (Ea_NIL : Exa Z h0 a_NIL "com/example/paired_paths/pairedpaths/verification/NameProcess$Kind") (Sa_NIL : Sta Z h0 "com/example/paired_paths/pairedpaths/verification/NameProcess$Kind" "NIL" "Lcom/example/paired_paths/pairedpaths/verification/NameProcess$Kind;" (.ref a_NIL)) (Ea_INPUT : Exa Z h0 a_INPUT "com/example/paired_paths/pairedpaths/verification/NameProcess$Kind") (Sa_INPUT : Sta Z h0 "com/example/paired_paths/pairedpaths/verification/NameProcess$Kind" "INPUT" "Lcom/example/paired_paths/pairedpaths/verification/NameProcess$Kind;" (.ref a_INPUT)) (Ea_RESTRICTION : Exa Z h0 a_RESTRICTION "com/example/paired_paths/pairedpaths/verification/NameProcess$Kind") (Sa_RESTRICTION : Sta Z h0 "com/example/paired_paths/pairedpaths/verification/NameProcess$Kind" "RESTRICTION" "Lcom/example/paired_paths/pairedpaths/verification/NameProcess$Kind;" (.ref a_RESTRICTION)) (Ea_ABSTRACTION : Exa Z h0 a_ABSTRACTION "com/example/paired_paths/pairedpaths/verification/NameProcess$Kind") (Sa_ABSTRACTION : Sta Z h0 "com/example/paired_paths/pairedpaths/verification/NameProcess$Kind" "ABSTRACTION" "Lcom/example/paired_paths/pairedpaths/verification/NameProcess$Kind;" (.ref a_ABSTRACTION)) (Ea_OUTPUT : Exa Z h0 a_OUTPUT "com/example/paired_paths/pairedpaths/verification/NameProcess$Kind") (Sa_OUTPUT : Sta Z h0 "com/example/paired_paths/pairedpaths/verification/NameProcess$Kind" "OUTPUT" "Lcom/example/paired_paths/pairedpaths/verification/NameProcess$Kind;" (.ref a_OUTPUT)) (Ea_REPLICATION : Exa Z h0 a_REPLICATION "com/example/paired_paths/pairedpaths/verification/NameProcess$Kind") (Sa_REPLICATION : Sta Z h0 "com/example/paired_paths/pairedpaths/verification/NameProcess$Kind" "REPLICATION" "Lcom/example/paired_paths/pairedpaths/verification/NameProcess$Kind;" (.ref a_REPLICATION)) (Ea_PARALLEL : Exa Z h0 a_PARALLEL "com/example/paired_paths/pairedpaths/verification/NameProcess$Kind") (Sa_PARALLEL : Sta Z h0 "com/example/paired_paths/pairedpaths/verification/NameProcess$Kind" "PARALLEL" "Lcom/example/paired_paths/pairedpaths/verification/NameProcess$Kind;" (.ref a_PARALLEL)) (Ea_SILENT : Exa Z h0 a_SILENT "com/example/paired_paths/pairedpaths/verification/NameProcess$Kind") (Sa_SILENT : Sta Z h0 "com/example/paired_paths/pairedpaths/verification/NameProcess$Kind" "SILENT" "Lcom/example/paired_paths/pairedpaths/verification/NameProcess$Kind;" (.ref a_SILENT)) (Ea_RECURSION : Exa Z h0 a_RECURSION "com/example/paired_paths/pairedpaths/verification/NameProcess$Kind") (Sa_RECURSION : Sta Z h0 "com/example/paired_paths/pairedpaths/verification/NameProcess$Kind" "RECURSION" "Lcom/example/paired_paths/pairedpaths/verification/NameProcess$Kind;" (.ref a_RECURSION)) (Ea_VARIABLE : Exa Z h0 a_VARIABLE "com/example/paired_paths/pairedpaths/verification/NameProcess$Kind") (Sa_VARIABLE : Sta Z h0 "com/example/paired_paths/pairedpaths/verification/NameProcess$Kind" "VARIABLE" "Lcom/example/paired_paths/pairedpaths/verification/NameProcess$Kind;" (.ref a_VARIABLE)) (Ea_SUM : Exa Z h0 a_SUM "com/example/paired_paths/pairedpaths/verification/NameProcess$Kind") (Sa_SUM : Sta Z h0 "com/example/paired_paths/pairedpaths/verification/NameProcess$Kind" "SUM" "Lcom/example/paired_paths/pairedpaths/verification/NameProcess$Kind;" (.ref a_SUM)) (Ea_MATCH : Exa Z h0 a_MATCH "com/example/paired_paths/pairedpaths/verification/NameProcess$Kind") (Sa_MATCH : Sta Z h0 "com/example/paired_paths/pairedpaths/verification/NameProcess$Kind" "MATCH" "Lcom/example/paired_paths/pairedpaths/verification/NameProcess$Kind;" (.ref a_MATCH)) (Fa_NIL_ordinal : Fld Z h0 a_NIL "java/lang/Enum" "ordinal" "I" (.int (0 : Int32))) (Fa_INPUT_ordinal : Fld Z h0 a_INPUT "java/lang/Enum" "ordinal" "I" (.int (3 : Int32))) (Fa_RESTRICTION_ordinal : Fld Z h0 a_RESTRICTION "java/lang/Enum" "ordinal" "I" (.int (5 : Int32))) (Fa_ABSTRACTION_ordinal : Fld Z h0 a_ABSTRACTION "java/lang/Enum" "ordinal" "I" (.int (9 : Int32))) (Fa_OUTPUT_ordinal : Fld Z h0 a_OUTPUT "java/lang/Enum" "ordinal" "I" (.int (2 : Int32))) (Fa_REPLICATION_ordinal : Fld Z h0 a_REPLICATION "java/lang/Enum" "ordinal" "I" (.int (7 : Int32))) (Fa_PARALLEL_ordinal : Fld Z h0 a_PARALLEL "java/lang/Enum" "ordinal" "I" (.int (11 : Int32))) (Fa_SILENT_ordinal : Fld Z h0 a_SILENT "java/lang/Enum" "ordinal" "I" (.int (4 : Int32))) (Fa_RECURSION_ordinal : Fld Z h0 a_RECURSION "java/lang/Enum" "ordinal" "I" (.int (8 : Int32))) (Fa_VARIABLE_ordinal : Fld Z h0 a_VARIABLE "java/lang/Enum" "ordinal" "I" (.int (1 : Int32))) (Fa_SUM_ordinal : Fld Z h0 a_SUM "java/lang/Enum" "ordinal" "I" (.int (10 : Int32))) (Fa_MATCH_ordinal : Fld Z h0 a_MATCH "java/lang/Enum" "ordinal" "I" (.int (6 : Int32))) :
    MetFree l x (head1 (Jvm.Cond.code x code maxLocals ret :: ws) room_1) (fun a U => a = #[(.int p1)] ∧ Z.Warmed39 U.vm ∧ U.heap = h0) (fun _ _ _ _ _ => True) (fun _ U o U' => ∃ v L, o = .returned v ∧ Qrm0 Z p1 a_NIL a_INPUT a_RESTRICTION a_ABSTRACTION a_OUTPUT a_REPLICATION a_PARALLEL a_SILENT a_RECURSION a_VARIABLE a_SUM a_MATCH h0 n0 v U'.heap L ∧ FrameEnd U o U' L room_1.cells room_1.slots) := by
  refine MetFree.of_bodySF (plainFor_of_name pn_com_example_paired_paths_pairedpaths_verification_KindBindsNamePinLaw) hisR ?_
  intro p e s m args below meth c s₁ Bd hml0 hP hK
  obtain ⟨rfl, hZ, hh⟩ := hP
  have hx := Bd.exec
  have hby := Bd.bytes
  have hml : c.maxLocals = 4 := hml0
  have hown : s.vm.findClass "com/example/paired_paths/pairedpaths/verification/KindBindsNamePinLaw" = some m.cls := findClass_of_methodNamed Bd.named
  have hnm := (name_of_methodNamed Bd.named Bd.method).1
  have X0 : Stand p l e room_1 s m #[(.int p1)] below meth c s₁ [] 0 0 := Stand.of_body Bd
  have e0 : s₁.heap = h0 := by rw [← hh, Bd.state]; rfl
  have N0 := Fr.nil n0
  have K0 : Keep h0 h0 [] := Keep.refl _ _
  have ne_a_NIL_a_INPUT : a_NIL ≠ a_INPUT := Fld.ne Fa_NIL_ordinal Fa_INPUT_ordinal (by decide)
  have ne_a_NIL_a_RESTRICTION : a_NIL ≠ a_RESTRICTION := Fld.ne Fa_NIL_ordinal Fa_RESTRICTION_ordinal (by decide)
  have ne_a_NIL_a_ABSTRACTION : a_NIL ≠ a_ABSTRACTION := Fld.ne Fa_NIL_ordinal Fa_ABSTRACTION_ordinal (by decide)
  have ne_a_INPUT_a_RESTRICTION : a_INPUT ≠ a_RESTRICTION := Fld.ne Fa_INPUT_ordinal Fa_RESTRICTION_ordinal (by decide)
  have ne_a_INPUT_a_ABSTRACTION : a_INPUT ≠ a_ABSTRACTION := Fld.ne Fa_INPUT_ordinal Fa_ABSTRACTION_ordinal (by decide)
  have ne_a_RESTRICTION_a_ABSTRACTION : a_RESTRICTION ≠ a_ABSTRACTION := Fld.ne Fa_RESTRICTION_ordinal Fa_ABSTRACTION_ordinal (by decide)
  have ne_a_OUTPUT_a_INPUT : a_OUTPUT ≠ a_INPUT := Fld.ne Fa_OUTPUT_ordinal Fa_INPUT_ordinal (by decide)
  have ne_a_OUTPUT_a_RESTRICTION : a_OUTPUT ≠ a_RESTRICTION := Fld.ne Fa_OUTPUT_ordinal Fa_RESTRICTION_ordinal (by decide)
  have ne_a_OUTPUT_a_ABSTRACTION : a_OUTPUT ≠ a_ABSTRACTION := Fld.ne Fa_OUTPUT_ordinal Fa_ABSTRACTION_ordinal (by decide)
  have ne_a_REPLICATION_a_INPUT : a_REPLICATION ≠ a_INPUT := Fld.ne Fa_REPLICATION_ordinal Fa_INPUT_ordinal (by decide)
  have ne_a_REPLICATION_a_RESTRICTION : a_REPLICATION ≠ a_RESTRICTION := Fld.ne Fa_REPLICATION_ordinal Fa_RESTRICTION_ordinal (by decide)
  have ne_a_REPLICATION_a_ABSTRACTION : a_REPLICATION ≠ a_ABSTRACTION := Fld.ne Fa_REPLICATION_ordinal Fa_ABSTRACTION_ordinal (by decide)
  have ne_a_PARALLEL_a_INPUT : a_PARALLEL ≠ a_INPUT := Fld.ne Fa_PARALLEL_ordinal Fa_INPUT_ordinal (by decide)
  have ne_a_PARALLEL_a_RESTRICTION : a_PARALLEL ≠ a_RESTRICTION := Fld.ne Fa_PARALLEL_ordinal Fa_RESTRICTION_ordinal (by decide)
  have ne_a_PARALLEL_a_ABSTRACTION : a_PARALLEL ≠ a_ABSTRACTION := Fld.ne Fa_PARALLEL_ordinal Fa_ABSTRACTION_ordinal (by decide)
  have ne_a_SILENT_a_INPUT : a_SILENT ≠ a_INPUT := Fld.ne Fa_SILENT_ordinal Fa_INPUT_ordinal (by decide)
  have ne_a_SILENT_a_RESTRICTION : a_SILENT ≠ a_RESTRICTION := Fld.ne Fa_SILENT_ordinal Fa_RESTRICTION_ordinal (by decide)
  have ne_a_SILENT_a_ABSTRACTION : a_SILENT ≠ a_ABSTRACTION := Fld.ne Fa_SILENT_ordinal Fa_ABSTRACTION_ordinal (by decide)
  have ne_a_RECURSION_a_INPUT : a_RECURSION ≠ a_INPUT := Fld.ne Fa_RECURSION_ordinal Fa_INPUT_ordinal (by decide)
  have ne_a_RECURSION_a_RESTRICTION : a_RECURSION ≠ a_RESTRICTION := Fld.ne Fa_RECURSION_ordinal Fa_RESTRICTION_ordinal (by decide)
  have ne_a_RECURSION_a_ABSTRACTION : a_RECURSION ≠ a_ABSTRACTION := Fld.ne Fa_RECURSION_ordinal Fa_ABSTRACTION_ordinal (by decide)
  have ne_a_VARIABLE_a_INPUT : a_VARIABLE ≠ a_INPUT := Fld.ne Fa_VARIABLE_ordinal Fa_INPUT_ordinal (by decide)
  have ne_a_VARIABLE_a_RESTRICTION : a_VARIABLE ≠ a_RESTRICTION := Fld.ne Fa_VARIABLE_ordinal Fa_RESTRICTION_ordinal (by decide)
  have ne_a_VARIABLE_a_ABSTRACTION : a_VARIABLE ≠ a_ABSTRACTION := Fld.ne Fa_VARIABLE_ordinal Fa_ABSTRACTION_ordinal (by decide)
  have ne_a_SUM_a_INPUT : a_SUM ≠ a_INPUT := Fld.ne Fa_SUM_ordinal Fa_INPUT_ordinal (by decide)
  have ne_a_SUM_a_RESTRICTION : a_SUM ≠ a_RESTRICTION := Fld.ne Fa_SUM_ordinal Fa_RESTRICTION_ordinal (by decide)
  have ne_a_SUM_a_ABSTRACTION : a_SUM ≠ a_ABSTRACTION := Fld.ne Fa_SUM_ordinal Fa_ABSTRACTION_ordinal (by decide)
  have ne_a_MATCH_a_INPUT : a_MATCH ≠ a_INPUT := Fld.ne Fa_MATCH_ordinal Fa_INPUT_ordinal (by decide)
  have ne_a_MATCH_a_RESTRICTION : a_MATCH ≠ a_RESTRICTION := Fld.ne Fa_MATCH_ordinal Fa_RESTRICTION_ordinal (by decide)
  have ne_a_MATCH_a_ABSTRACTION : a_MATCH ≠ a_ABSTRACTION := Fld.ne Fa_MATCH_ordinal Fa_ABSTRACTION_ordinal (by decide)
  refine own_start (Qk := Qrm0 Z p1 a_NIL a_INPUT a_RESTRICTION a_ABSTRACTION a_OUTPUT a_REPLICATION a_PARALLEL a_SILENT a_RECURSION a_VARIABLE a_SUM a_MATCH h0 n0) (fun G hG => ?_)
  refine own_st (fun _ k => castTop (ef_0_I m p1) k) ?_
  show own_Fin p e below G (s₁.setTop (mkF m 0 #[iv p1, .unset, .unset, .unset] []))
  refine own_st (fun _ k => XS.iloadN X0.here hx rfl (hb hby at_0) rfl  k) ?_
  show own_Fin p e below G (s₁.setTop (mkF m 1 #[iv p1, .unset, .unset, .unset] [(.int p1)]))
  refine own_st (fun _ k => own_ldc X0 hx hZ hown (own_w hw 0 rfl) (g := (mkF m 1 #[iv p1, .unset, .unset, .unset] [(.int p1)])) rfl (hb hby at_1) k) ?_
  show own_Fin p e below G (s₁.setTop (mkF m 3 #[iv p1, .unset, .unset, .unset] [(.int (2147483647 : Int32)), (.int p1)]))
  refine own_st (fun _ k => XS.iand X0.here hx rfl (hb hby at_3) rfl k) ?_
  show own_Fin p e below G (s₁.setTop (mkF m 4 #[iv p1, .unset, .unset, .unset] [(.int (p1 &&& (2147483647 : Int32)))]))
  refine own_st (fun _ k => XS.bipush X0.here hx rfl (hb hby at_4) k) ?_
  show own_Fin p e below G (s₁.setTop (mkF m 6 #[iv p1, .unset, .unset, .unset] [(.int (12 : Int32)), (.int (p1 &&& (2147483647 : Int32)))]))
  refine own_st (fun _ k => iremM (g := (mkF m 6 #[iv p1, .unset, .unset, .unset] [(.int (12 : Int32)), (.int (p1 &&& (2147483647 : Int32)))])) X0 hx rfl (hb hby at_6) rfl (by decide) k) ?_
  show own_Fin p e below G (s₁.setTop (mkF m 7 #[iv p1, .unset, .unset, .unset] [(.int ((p1 &&& (2147483647 : Int32)) % (12 : Int32)))]))
  generalize e_v7 : ((p1 &&& (2147483647 : Int32)) % (12 : Int32)) = v7
  show own_Fin p e below G (s₁.setTop (mkF m 7 #[iv p1, .unset, .unset, .unset] [(.int v7)]))
  have r12 := own_r12 p1
  rw [e_v7] at r12
  refine own_st (fun _ k => XS.istoreN X0.here hx rfl (hb hby at_7) rfl (l' := #[iv p1, iv v7, .unset, .unset]) rfl k) ?_
  show own_Fin p e below G (s₁.setTop (mkF m 8 #[iv p1, iv v7, .unset, .unset] []))
  refine own_st (fun _ k => XS.iloadN X0.here hx rfl (hb hby at_8) rfl  k) ?_
  show own_Fin p e below G (s₁.setTop (mkF m 9 #[iv p1, iv v7, .unset, .unset] [(.int v7)]))
  by_cases hc9_8 : v7 = (0 : Int32)
  · refine own_st (fun _ k => XS.ifNo X0.here hx rfl (hb hby at_9) rfl ((if0 _ _).trans (teq hc9_8).2) k) ?_
    show own_Fin p e below G (s₁.setTop (mkF m 12 #[iv p1, iv v7, .unset, .unset] []))
    obtain ⟨T9, X9, e9, st9⟩ := getS2 X0 hx hZ hown (host := "") (Or.inl (own_w hw 1 rfl)) Via.refl e0 Sa_NIL (g := (mkF m 12 #[iv p1, iv v7, .unset, .unset] [])) rfl (hb hby at_12)
    refine own_st st9 ?_
    show own_Fin p e below G (T9.setTop (mkF m 15 #[iv p1, iv v7, .unset, .unset] [(.ref a_NIL)]))
    refine own_st (fun _ k => XS.astoreN X9.here hx rfl (hb hby at_15) rfl rfl (l' := #[iv p1, iv v7, rv a_NIL, .unset]) rfl k) ?_
    show own_Fin p e below G (T9.setTop (mkF m 16 #[iv p1, iv v7, rv a_NIL, .unset] []))
    refine own_st (fun _ k => XS.iconst X9.here hx rfl (hb hby at_16) k) ?_
    show own_Fin p e below G (T9.setTop (mkF m 17 #[iv p1, iv v7, rv a_NIL, .unset] [(.int (0 : Int32))]))
    refine own_st (fun _ k => XS.istoreN X9.here hx rfl (hb hby at_17) rfl (l' := #[iv p1, iv v7, rv a_NIL, iv (0 : Int32)]) rfl k) ?_
    show own_Fin p e below G (T9.setTop (mkF m 18 #[iv p1, iv v7, rv a_NIL, iv (0 : Int32)] []))
    refine own_st (fun _ k => XS.goto X9.here hx rfl (pc0 := 18) (pc' := 172) rfl (hb hby at_18) (by decide) (by decide) k) ?_
    show own_Fin p e below G (T9.setTop (mkF m 172 #[iv p1, iv v7, rv a_NIL, iv (0 : Int32)] []))
    refine own_st (fun _ k => XS.aloadN X9.here hx rfl (hb hby at_172) rfl rfl k) ?_
    show own_Fin p e below G (T9.setTop (mkF m 173 #[iv p1, iv v7, rv a_NIL, iv (0 : Int32)] [(.ref a_NIL)]))
    obtain ⟨cq10, kq10, q10a, q10b, q10c⟩ := isOf hZ e9 Ea_NIL
    obtain ⟨_, _, ⟨T10, L10, k10, n10⟩, -, X10, ⟨Lc10, hQ10, l10, y10, z10⟩, st10⟩ := X9.virtualBack hx (y := own_y0) (z := own_y0) hown (mvT hZ (own_w hw 4 rfl)) (mvT hZ (own_w hw 5 rfl)) (notFace_of_selects (args := #[]) (mvT hZ (own_w hw 7 rfl))) (mvT hZ (own_w hw 7 rfl)) (mvT hZ (own_w hw 6 rfl)) (by decide) (backOf (W := 0) (rm_bn l Z a0 hw [] a_NIL a_INPUT a_RESTRICTION a_ABSTRACTION h0 n0 (Nat.le_trans Z0 K0.1) Sa_INPUT Sa_RESTRICTION Sa_ABSTRACTION) hZ (own_w hw 8 rfl) (own_w hw 2 rfl) (by decide) (by decide)) q10a q10c (g := (mkF m 173 #[iv p1, iv v7, rv a_NIL, iv (0 : Int32)] [(.ref a_NIL)])) rfl (by rw [hml]; rfl) (Steps.refl _) (argsL := []) (rest := []) (lenOf pd___Z_171 rfl) rfl (by show 2 * 0 + _ ≤ _; exact Nat.le_of_eq rfl) (hb hby at_173) (fun _ _ => ⟨rfl, e9, (by decide : 0 + 0 ≤ _), (by decide : 0 + 0 ≤ _)⟩)
    dsimp only [Pt.U, Pt.locs, Pt.cells, Pt.slots] at X10 l10 y10 z10 st10 hQ10
    subst l10 y10 z10
    obtain ⟨rfl, N10q, e10⟩ := hQ10
    skip
    have N10 := Fr.app N0 N10q
    refine own_tr st10 ?_
    show own_Fin p e below G (T10.setTop (mkF m 176 #[iv p1, iv v7, rv a_NIL, iv (0 : Int32)] [(.int (own_bn a_NIL a_INPUT a_RESTRICTION a_ABSTRACTION))]))
    refine own_st (fun _ k => XS.iloadN X10.here hx rfl (hb hby at_176) rfl  k) ?_
    show own_Fin p e below G (T10.setTop (mkF m 177 #[iv p1, iv v7, rv a_NIL, iv (0 : Int32)] [(.int (0 : Int32)), (.int (own_bn a_NIL a_INPUT a_RESTRICTION a_ABSTRACTION))]))
    refine own_st (fun _ k => XS.icmpNo X10.here hx rfl (hb hby at_177) rfl (teq (by unfold own_bn; rw [if_neg ne_a_NIL_a_INPUT, if_neg ne_a_NIL_a_RESTRICTION, if_neg ne_a_NIL_a_ABSTRACTION])).2 k) ?_
    show own_Fin p e below G (T10.setTop (mkF m 180 #[iv p1, iv v7, rv a_NIL, iv (0 : Int32)] []))
    refine own_st (fun _ k => XS.iconst X10.here hx rfl (hb hby at_180) k) ?_
    show own_Fin p e below G (T10.setTop (mkF m 181 #[iv p1, iv v7, rv a_NIL, iv (0 : Int32)] [(.int (1 : Int32))]))
    refine own_st (fun _ k => XS.goto X10.here hx rfl (pc0 := 181) (pc' := 185) rfl (hb hby at_181) (by decide) (by decide) k) ?_
    show own_Fin p e below G (T10.setTop (mkF m 185 #[iv p1, iv v7, rv a_NIL, iv (0 : Int32)] [(.int (1 : Int32))]))
    refine own_out X10 Bd.notSynchronized (v := (some (.int (1 : Int32)))) (fun h => by rw [Bd.returns] at h; cases h) hG (fun fs hr => retN X10 hx (t := .boolean) Bd.returns (by simp) (hb hby at_185) hr) (by decide) (by decide) ?_
    exact ⟨rfl, N10⟩
  · refine own_st (fun _ k => XS.ifYes X0.here hx rfl (pc0 := 9) (pc' := 21) rfl (hb hby at_9) rfl ((if0 _ _).trans (feq hc9_8).2) (by decide) (by decide) k) ?_
    show own_Fin p e below G (s₁.setTop (mkF m 21 #[iv p1, iv v7, .unset, .unset] []))
    refine own_st (fun _ k => XS.iloadN X0.here hx rfl (hb hby at_21) rfl  k) ?_
    show own_Fin p e below G (s₁.setTop (mkF m 22 #[iv p1, iv v7, .unset, .unset] [(.int v7)]))
    refine own_st (fun _ k => XS.iconst X0.here hx rfl (hb hby at_22) k) ?_
    show own_Fin p e below G (s₁.setTop (mkF m 23 #[iv p1, iv v7, .unset, .unset] [(.int (1 : Int32)), (.int v7)]))
    by_cases hc23_11 : v7 = (1 : Int32)
    · refine own_st (fun _ k => XS.icmpNo X0.here hx rfl (hb hby at_23) rfl (teq hc23_11).2 k) ?_
      show own_Fin p e below G (s₁.setTop (mkF m 26 #[iv p1, iv v7, .unset, .unset] []))
      obtain ⟨T12, X12, e12, st12⟩ := getS2 X0 hx hZ hown (host := "") (Or.inl (own_w hw 26 rfl)) Via.refl e0 Sa_VARIABLE (g := (mkF m 26 #[iv p1, iv v7, .unset, .unset] [])) rfl (hb hby at_26)
      refine own_st st12 ?_
      show own_Fin p e below G (T12.setTop (mkF m 29 #[iv p1, iv v7, .unset, .unset] [(.ref a_VARIABLE)]))
      refine own_st (fun _ k => XS.astoreN X12.here hx rfl (hb hby at_29) rfl rfl (l' := #[iv p1, iv v7, rv a_VARIABLE, .unset]) rfl k) ?_
      show own_Fin p e below G (T12.setTop (mkF m 30 #[iv p1, iv v7, rv a_VARIABLE, .unset] []))
      refine own_st (fun _ k => XS.iconst X12.here hx rfl (hb hby at_30) k) ?_
      show own_Fin p e below G (T12.setTop (mkF m 31 #[iv p1, iv v7, rv a_VARIABLE, .unset] [(.int (0 : Int32))]))
      refine own_st (fun _ k => XS.istoreN X12.here hx rfl (hb hby at_31) rfl (l' := #[iv p1, iv v7, rv a_VARIABLE, iv (0 : Int32)]) rfl k) ?_
      show own_Fin p e below G (T12.setTop (mkF m 32 #[iv p1, iv v7, rv a_VARIABLE, iv (0 : Int32)] []))
      refine own_st (fun _ k => XS.goto X12.here hx rfl (pc0 := 32) (pc' := 172) rfl (hb hby at_32) (by decide) (by decide) k) ?_
      show own_Fin p e below G (T12.setTop (mkF m 172 #[iv p1, iv v7, rv a_VARIABLE, iv (0 : Int32)] []))
      refine own_st (fun _ k => XS.aloadN X12.here hx rfl (hb hby at_172) rfl rfl k) ?_
      show own_Fin p e below G (T12.setTop (mkF m 173 #[iv p1, iv v7, rv a_VARIABLE, iv (0 : Int32)] [(.ref a_VARIABLE)]))
      obtain ⟨cq13, kq13, q13a, q13b, q13c⟩ := isOf hZ e12 Ea_VARIABLE
      obtain ⟨_, _, ⟨T13, L13, k13, n13⟩, -, X13, ⟨Lc13, hQ13, l13, y13, z13⟩, st13⟩ := X12.virtualBack hx (y := own_y0) (z := own_y0) hown (mvT hZ (own_w hw 4 rfl)) (mvT hZ (own_w hw 5 rfl)) (notFace_of_selects (args := #[]) (mvT hZ (own_w hw 7 rfl))) (mvT hZ (own_w hw 7 rfl)) (mvT hZ (own_w hw 6 rfl)) (by decide) (backOf (W := 0) (rm_bn l Z a0 hw [] a_VARIABLE a_INPUT a_RESTRICTION a_ABSTRACTION h0 n0 (Nat.le_trans Z0 K0.1) Sa_INPUT Sa_RESTRICTION Sa_ABSTRACTION) hZ (own_w hw 8 rfl) (own_w hw 2 rfl) (by decide) (by decide)) q13a q13c (g := (mkF m 173 #[iv p1, iv v7, rv a_VARIABLE, iv (0 : Int32)] [(.ref a_VARIABLE)])) rfl (by rw [hml]; rfl) (Steps.refl _) (argsL := []) (rest := []) (lenOf pd___Z_171 rfl) rfl (by show 2 * 0 + _ ≤ _; exact Nat.le_of_eq rfl) (hb hby at_173) (fun _ _ => ⟨rfl, e12, (by decide : 0 + 0 ≤ _), (by decide : 0 + 0 ≤ _)⟩)
      dsimp only [Pt.U, Pt.locs, Pt.cells, Pt.slots] at X13 l13 y13 z13 st13 hQ13
      subst l13 y13 z13
      obtain ⟨rfl, N13q, e13⟩ := hQ13
      skip
      have N13 := Fr.app N0 N13q
      refine own_tr st13 ?_
      show own_Fin p e below G (T13.setTop (mkF m 176 #[iv p1, iv v7, rv a_VARIABLE, iv (0 : Int32)] [(.int (own_bn a_VARIABLE a_INPUT a_RESTRICTION a_ABSTRACTION))]))
      refine own_st (fun _ k => XS.iloadN X13.here hx rfl (hb hby at_176) rfl  k) ?_
      show own_Fin p e below G (T13.setTop (mkF m 177 #[iv p1, iv v7, rv a_VARIABLE, iv (0 : Int32)] [(.int (0 : Int32)), (.int (own_bn a_VARIABLE a_INPUT a_RESTRICTION a_ABSTRACTION))]))
      refine own_st (fun _ k => XS.icmpNo X13.here hx rfl (hb hby at_177) rfl (teq (by unfold own_bn; rw [if_neg ne_a_VARIABLE_a_INPUT, if_neg ne_a_VARIABLE_a_RESTRICTION, if_neg ne_a_VARIABLE_a_ABSTRACTION])).2 k) ?_
      show own_Fin p e below G (T13.setTop (mkF m 180 #[iv p1, iv v7, rv a_VARIABLE, iv (0 : Int32)] []))
      refine own_st (fun _ k => XS.iconst X13.here hx rfl (hb hby at_180) k) ?_
      show own_Fin p e below G (T13.setTop (mkF m 181 #[iv p1, iv v7, rv a_VARIABLE, iv (0 : Int32)] [(.int (1 : Int32))]))
      refine own_st (fun _ k => XS.goto X13.here hx rfl (pc0 := 181) (pc' := 185) rfl (hb hby at_181) (by decide) (by decide) k) ?_
      show own_Fin p e below G (T13.setTop (mkF m 185 #[iv p1, iv v7, rv a_VARIABLE, iv (0 : Int32)] [(.int (1 : Int32))]))
      refine own_out X13 Bd.notSynchronized (v := (some (.int (1 : Int32)))) (fun h => by rw [Bd.returns] at h; cases h) hG (fun fs hr => retN X13 hx (t := .boolean) Bd.returns (by simp) (hb hby at_185) hr) (by decide) (by decide) ?_
      exact ⟨rfl, N13⟩
    · refine own_st (fun _ k => XS.icmpYes X0.here hx rfl (pc0 := 23) (pc' := 35) rfl (hb hby at_23) rfl (feq hc23_11).2 (by decide) (by decide) k) ?_
      show own_Fin p e below G (s₁.setTop (mkF m 35 #[iv p1, iv v7, .unset, .unset] []))
      refine own_st (fun _ k => XS.iloadN X0.here hx rfl (hb hby at_35) rfl  k) ?_
      show own_Fin p e below G (s₁.setTop (mkF m 36 #[iv p1, iv v7, .unset, .unset] [(.int v7)]))
      refine own_st (fun _ k => XS.iconst X0.here hx rfl (hb hby at_36) k) ?_
      show own_Fin p e below G (s₁.setTop (mkF m 37 #[iv p1, iv v7, .unset, .unset] [(.int (2 : Int32)), (.int v7)]))
      by_cases hc37_14 : v7 = (2 : Int32)
      · refine own_st (fun _ k => XS.icmpNo X0.here hx rfl (hb hby at_37) rfl (teq hc37_14).2 k) ?_
        show own_Fin p e below G (s₁.setTop (mkF m 40 #[iv p1, iv v7, .unset, .unset] []))
        obtain ⟨T15, X15, e15, st15⟩ := getS2 X0 hx hZ hown (host := "") (Or.inl (own_w hw 16 rfl)) Via.refl e0 Sa_OUTPUT (g := (mkF m 40 #[iv p1, iv v7, .unset, .unset] [])) rfl (hb hby at_40)
        refine own_st st15 ?_
        show own_Fin p e below G (T15.setTop (mkF m 43 #[iv p1, iv v7, .unset, .unset] [(.ref a_OUTPUT)]))
        refine own_st (fun _ k => XS.astoreN X15.here hx rfl (hb hby at_43) rfl rfl (l' := #[iv p1, iv v7, rv a_OUTPUT, .unset]) rfl k) ?_
        show own_Fin p e below G (T15.setTop (mkF m 44 #[iv p1, iv v7, rv a_OUTPUT, .unset] []))
        refine own_st (fun _ k => XS.iconst X15.here hx rfl (hb hby at_44) k) ?_
        show own_Fin p e below G (T15.setTop (mkF m 45 #[iv p1, iv v7, rv a_OUTPUT, .unset] [(.int (0 : Int32))]))
        refine own_st (fun _ k => XS.istoreN X15.here hx rfl (hb hby at_45) rfl (l' := #[iv p1, iv v7, rv a_OUTPUT, iv (0 : Int32)]) rfl k) ?_
        show own_Fin p e below G (T15.setTop (mkF m 46 #[iv p1, iv v7, rv a_OUTPUT, iv (0 : Int32)] []))
        refine own_st (fun _ k => XS.goto X15.here hx rfl (pc0 := 46) (pc' := 172) rfl (hb hby at_46) (by decide) (by decide) k) ?_
        show own_Fin p e below G (T15.setTop (mkF m 172 #[iv p1, iv v7, rv a_OUTPUT, iv (0 : Int32)] []))
        refine own_st (fun _ k => XS.aloadN X15.here hx rfl (hb hby at_172) rfl rfl k) ?_
        show own_Fin p e below G (T15.setTop (mkF m 173 #[iv p1, iv v7, rv a_OUTPUT, iv (0 : Int32)] [(.ref a_OUTPUT)]))
        obtain ⟨cq16, kq16, q16a, q16b, q16c⟩ := isOf hZ e15 Ea_OUTPUT
        obtain ⟨_, _, ⟨T16, L16, k16, n16⟩, -, X16, ⟨Lc16, hQ16, l16, y16, z16⟩, st16⟩ := X15.virtualBack hx (y := own_y0) (z := own_y0) hown (mvT hZ (own_w hw 4 rfl)) (mvT hZ (own_w hw 5 rfl)) (notFace_of_selects (args := #[]) (mvT hZ (own_w hw 7 rfl))) (mvT hZ (own_w hw 7 rfl)) (mvT hZ (own_w hw 6 rfl)) (by decide) (backOf (W := 0) (rm_bn l Z a0 hw [] a_OUTPUT a_INPUT a_RESTRICTION a_ABSTRACTION h0 n0 (Nat.le_trans Z0 K0.1) Sa_INPUT Sa_RESTRICTION Sa_ABSTRACTION) hZ (own_w hw 8 rfl) (own_w hw 2 rfl) (by decide) (by decide)) q16a q16c (g := (mkF m 173 #[iv p1, iv v7, rv a_OUTPUT, iv (0 : Int32)] [(.ref a_OUTPUT)])) rfl (by rw [hml]; rfl) (Steps.refl _) (argsL := []) (rest := []) (lenOf pd___Z_171 rfl) rfl (by show 2 * 0 + _ ≤ _; exact Nat.le_of_eq rfl) (hb hby at_173) (fun _ _ => ⟨rfl, e15, (by decide : 0 + 0 ≤ _), (by decide : 0 + 0 ≤ _)⟩)
        dsimp only [Pt.U, Pt.locs, Pt.cells, Pt.slots] at X16 l16 y16 z16 st16 hQ16
        subst l16 y16 z16
        obtain ⟨rfl, N16q, e16⟩ := hQ16
        skip
        have N16 := Fr.app N0 N16q
        refine own_tr st16 ?_
        show own_Fin p e below G (T16.setTop (mkF m 176 #[iv p1, iv v7, rv a_OUTPUT, iv (0 : Int32)] [(.int (own_bn a_OUTPUT a_INPUT a_RESTRICTION a_ABSTRACTION))]))
        refine own_st (fun _ k => XS.iloadN X16.here hx rfl (hb hby at_176) rfl  k) ?_
        show own_Fin p e below G (T16.setTop (mkF m 177 #[iv p1, iv v7, rv a_OUTPUT, iv (0 : Int32)] [(.int (0 : Int32)), (.int (own_bn a_OUTPUT a_INPUT a_RESTRICTION a_ABSTRACTION))]))
        refine own_st (fun _ k => XS.icmpNo X16.here hx rfl (hb hby at_177) rfl (teq (by unfold own_bn; rw [if_neg ne_a_OUTPUT_a_INPUT, if_neg ne_a_OUTPUT_a_RESTRICTION, if_neg ne_a_OUTPUT_a_ABSTRACTION])).2 k) ?_
        show own_Fin p e below G (T16.setTop (mkF m 180 #[iv p1, iv v7, rv a_OUTPUT, iv (0 : Int32)] []))
        refine own_st (fun _ k => XS.iconst X16.here hx rfl (hb hby at_180) k) ?_
        show own_Fin p e below G (T16.setTop (mkF m 181 #[iv p1, iv v7, rv a_OUTPUT, iv (0 : Int32)] [(.int (1 : Int32))]))
        refine own_st (fun _ k => XS.goto X16.here hx rfl (pc0 := 181) (pc' := 185) rfl (hb hby at_181) (by decide) (by decide) k) ?_
        show own_Fin p e below G (T16.setTop (mkF m 185 #[iv p1, iv v7, rv a_OUTPUT, iv (0 : Int32)] [(.int (1 : Int32))]))
        refine own_out X16 Bd.notSynchronized (v := (some (.int (1 : Int32)))) (fun h => by rw [Bd.returns] at h; cases h) hG (fun fs hr => retN X16 hx (t := .boolean) Bd.returns (by simp) (hb hby at_185) hr) (by decide) (by decide) ?_
        exact ⟨rfl, N16⟩
      · refine own_st (fun _ k => XS.icmpYes X0.here hx rfl (pc0 := 37) (pc' := 49) rfl (hb hby at_37) rfl (feq hc37_14).2 (by decide) (by decide) k) ?_
        show own_Fin p e below G (s₁.setTop (mkF m 49 #[iv p1, iv v7, .unset, .unset] []))
        refine own_st (fun _ k => XS.iloadN X0.here hx rfl (hb hby at_49) rfl  k) ?_
        show own_Fin p e below G (s₁.setTop (mkF m 50 #[iv p1, iv v7, .unset, .unset] [(.int v7)]))
        refine own_st (fun _ k => XS.iconst X0.here hx rfl (hb hby at_50) k) ?_
        show own_Fin p e below G (s₁.setTop (mkF m 51 #[iv p1, iv v7, .unset, .unset] [(.int (3 : Int32)), (.int v7)]))
        by_cases hc51_17 : v7 = (3 : Int32)
        · refine own_st (fun _ k => XS.icmpNo X0.here hx rfl (hb hby at_51) rfl (teq hc51_17).2 k) ?_
          show own_Fin p e below G (s₁.setTop (mkF m 54 #[iv p1, iv v7, .unset, .unset] []))
          obtain ⟨T18, X18, e18, st18⟩ := getS2 X0 hx hZ hown (host := "") (Or.inl (own_w hw 15 rfl)) Via.refl e0 Sa_INPUT (g := (mkF m 54 #[iv p1, iv v7, .unset, .unset] [])) rfl (hb hby at_54)
          refine own_st st18 ?_
          show own_Fin p e below G (T18.setTop (mkF m 57 #[iv p1, iv v7, .unset, .unset] [(.ref a_INPUT)]))
          refine own_st (fun _ k => XS.astoreN X18.here hx rfl (hb hby at_57) rfl rfl (l' := #[iv p1, iv v7, rv a_INPUT, .unset]) rfl k) ?_
          show own_Fin p e below G (T18.setTop (mkF m 58 #[iv p1, iv v7, rv a_INPUT, .unset] []))
          refine own_st (fun _ k => XS.iconst X18.here hx rfl (hb hby at_58) k) ?_
          show own_Fin p e below G (T18.setTop (mkF m 59 #[iv p1, iv v7, rv a_INPUT, .unset] [(.int (1 : Int32))]))
          refine own_st (fun _ k => XS.istoreN X18.here hx rfl (hb hby at_59) rfl (l' := #[iv p1, iv v7, rv a_INPUT, iv (1 : Int32)]) rfl k) ?_
          show own_Fin p e below G (T18.setTop (mkF m 60 #[iv p1, iv v7, rv a_INPUT, iv (1 : Int32)] []))
          refine own_st (fun _ k => XS.goto X18.here hx rfl (pc0 := 60) (pc' := 172) rfl (hb hby at_60) (by decide) (by decide) k) ?_
          show own_Fin p e below G (T18.setTop (mkF m 172 #[iv p1, iv v7, rv a_INPUT, iv (1 : Int32)] []))
          refine own_st (fun _ k => XS.aloadN X18.here hx rfl (hb hby at_172) rfl rfl k) ?_
          show own_Fin p e below G (T18.setTop (mkF m 173 #[iv p1, iv v7, rv a_INPUT, iv (1 : Int32)] [(.ref a_INPUT)]))
          obtain ⟨cq19, kq19, q19a, q19b, q19c⟩ := isOf hZ e18 Ea_INPUT
          obtain ⟨_, _, ⟨T19, L19, k19, n19⟩, -, X19, ⟨Lc19, hQ19, l19, y19, z19⟩, st19⟩ := X18.virtualBack hx (y := own_y0) (z := own_y0) hown (mvT hZ (own_w hw 4 rfl)) (mvT hZ (own_w hw 5 rfl)) (notFace_of_selects (args := #[]) (mvT hZ (own_w hw 7 rfl))) (mvT hZ (own_w hw 7 rfl)) (mvT hZ (own_w hw 6 rfl)) (by decide) (backOf (W := 0) (rm_bn l Z a0 hw [] a_INPUT a_INPUT a_RESTRICTION a_ABSTRACTION h0 n0 (Nat.le_trans Z0 K0.1) Sa_INPUT Sa_RESTRICTION Sa_ABSTRACTION) hZ (own_w hw 8 rfl) (own_w hw 2 rfl) (by decide) (by decide)) q19a q19c (g := (mkF m 173 #[iv p1, iv v7, rv a_INPUT, iv (1 : Int32)] [(.ref a_INPUT)])) rfl (by rw [hml]; rfl) (Steps.refl _) (argsL := []) (rest := []) (lenOf pd___Z_171 rfl) rfl (by show 2 * 0 + _ ≤ _; exact Nat.le_of_eq rfl) (hb hby at_173) (fun _ _ => ⟨rfl, e18, (by decide : 0 + 0 ≤ _), (by decide : 0 + 0 ≤ _)⟩)
          dsimp only [Pt.U, Pt.locs, Pt.cells, Pt.slots] at X19 l19 y19 z19 st19 hQ19
          subst l19 y19 z19
          obtain ⟨rfl, N19q, e19⟩ := hQ19
          skip
          have N19 := Fr.app N0 N19q
          refine own_tr st19 ?_
          show own_Fin p e below G (T19.setTop (mkF m 176 #[iv p1, iv v7, rv a_INPUT, iv (1 : Int32)] [(.int (own_bn a_INPUT a_INPUT a_RESTRICTION a_ABSTRACTION))]))
          refine own_st (fun _ k => XS.iloadN X19.here hx rfl (hb hby at_176) rfl  k) ?_
          show own_Fin p e below G (T19.setTop (mkF m 177 #[iv p1, iv v7, rv a_INPUT, iv (1 : Int32)] [(.int (1 : Int32)), (.int (own_bn a_INPUT a_INPUT a_RESTRICTION a_ABSTRACTION))]))
          refine own_st (fun _ k => XS.icmpNo X19.here hx rfl (hb hby at_177) rfl (teq (by unfold own_bn; rw [if_pos rfl])).2 k) ?_
          show own_Fin p e below G (T19.setTop (mkF m 180 #[iv p1, iv v7, rv a_INPUT, iv (1 : Int32)] []))
          refine own_st (fun _ k => XS.iconst X19.here hx rfl (hb hby at_180) k) ?_
          show own_Fin p e below G (T19.setTop (mkF m 181 #[iv p1, iv v7, rv a_INPUT, iv (1 : Int32)] [(.int (1 : Int32))]))
          refine own_st (fun _ k => XS.goto X19.here hx rfl (pc0 := 181) (pc' := 185) rfl (hb hby at_181) (by decide) (by decide) k) ?_
          show own_Fin p e below G (T19.setTop (mkF m 185 #[iv p1, iv v7, rv a_INPUT, iv (1 : Int32)] [(.int (1 : Int32))]))
          refine own_out X19 Bd.notSynchronized (v := (some (.int (1 : Int32)))) (fun h => by rw [Bd.returns] at h; cases h) hG (fun fs hr => retN X19 hx (t := .boolean) Bd.returns (by simp) (hb hby at_185) hr) (by decide) (by decide) ?_
          exact ⟨rfl, N19⟩
        · refine own_st (fun _ k => XS.icmpYes X0.here hx rfl (pc0 := 51) (pc' := 63) rfl (hb hby at_51) rfl (feq hc51_17).2 (by decide) (by decide) k) ?_
          show own_Fin p e below G (s₁.setTop (mkF m 63 #[iv p1, iv v7, .unset, .unset] []))
          refine own_st (fun _ k => XS.iloadN X0.here hx rfl (hb hby at_63) rfl  k) ?_
          show own_Fin p e below G (s₁.setTop (mkF m 64 #[iv p1, iv v7, .unset, .unset] [(.int v7)]))
          refine own_st (fun _ k => XS.iconst X0.here hx rfl (hb hby at_64) k) ?_
          show own_Fin p e below G (s₁.setTop (mkF m 65 #[iv p1, iv v7, .unset, .unset] [(.int (4 : Int32)), (.int v7)]))
          by_cases hc65_20 : v7 = (4 : Int32)
          · refine own_st (fun _ k => XS.icmpNo X0.here hx rfl (hb hby at_65) rfl (teq hc65_20).2 k) ?_
            show own_Fin p e below G (s₁.setTop (mkF m 68 #[iv p1, iv v7, .unset, .unset] []))
            obtain ⟨T21, X21, e21, st21⟩ := getS2 X0 hx hZ hown (host := "") (Or.inl (own_w hw 22 rfl)) Via.refl e0 Sa_SILENT (g := (mkF m 68 #[iv p1, iv v7, .unset, .unset] [])) rfl (hb hby at_68)
            refine own_st st21 ?_
            show own_Fin p e below G (T21.setTop (mkF m 71 #[iv p1, iv v7, .unset, .unset] [(.ref a_SILENT)]))
            refine own_st (fun _ k => XS.astoreN X21.here hx rfl (hb hby at_71) rfl rfl (l' := #[iv p1, iv v7, rv a_SILENT, .unset]) rfl k) ?_
            show own_Fin p e below G (T21.setTop (mkF m 72 #[iv p1, iv v7, rv a_SILENT, .unset] []))
            refine own_st (fun _ k => XS.iconst X21.here hx rfl (hb hby at_72) k) ?_
            show own_Fin p e below G (T21.setTop (mkF m 73 #[iv p1, iv v7, rv a_SILENT, .unset] [(.int (0 : Int32))]))
            refine own_st (fun _ k => XS.istoreN X21.here hx rfl (hb hby at_73) rfl (l' := #[iv p1, iv v7, rv a_SILENT, iv (0 : Int32)]) rfl k) ?_
            show own_Fin p e below G (T21.setTop (mkF m 74 #[iv p1, iv v7, rv a_SILENT, iv (0 : Int32)] []))
            refine own_st (fun _ k => XS.goto X21.here hx rfl (pc0 := 74) (pc' := 172) rfl (hb hby at_74) (by decide) (by decide) k) ?_
            show own_Fin p e below G (T21.setTop (mkF m 172 #[iv p1, iv v7, rv a_SILENT, iv (0 : Int32)] []))
            refine own_st (fun _ k => XS.aloadN X21.here hx rfl (hb hby at_172) rfl rfl k) ?_
            show own_Fin p e below G (T21.setTop (mkF m 173 #[iv p1, iv v7, rv a_SILENT, iv (0 : Int32)] [(.ref a_SILENT)]))
            obtain ⟨cq22, kq22, q22a, q22b, q22c⟩ := isOf hZ e21 Ea_SILENT
            obtain ⟨_, _, ⟨T22, L22, k22, n22⟩, -, X22, ⟨Lc22, hQ22, l22, y22, z22⟩, st22⟩ := X21.virtualBack hx (y := own_y0) (z := own_y0) hown (mvT hZ (own_w hw 4 rfl)) (mvT hZ (own_w hw 5 rfl)) (notFace_of_selects (args := #[]) (mvT hZ (own_w hw 7 rfl))) (mvT hZ (own_w hw 7 rfl)) (mvT hZ (own_w hw 6 rfl)) (by decide) (backOf (W := 0) (rm_bn l Z a0 hw [] a_SILENT a_INPUT a_RESTRICTION a_ABSTRACTION h0 n0 (Nat.le_trans Z0 K0.1) Sa_INPUT Sa_RESTRICTION Sa_ABSTRACTION) hZ (own_w hw 8 rfl) (own_w hw 2 rfl) (by decide) (by decide)) q22a q22c (g := (mkF m 173 #[iv p1, iv v7, rv a_SILENT, iv (0 : Int32)] [(.ref a_SILENT)])) rfl (by rw [hml]; rfl) (Steps.refl _) (argsL := []) (rest := []) (lenOf pd___Z_171 rfl) rfl (by show 2 * 0 + _ ≤ _; exact Nat.le_of_eq rfl) (hb hby at_173) (fun _ _ => ⟨rfl, e21, (by decide : 0 + 0 ≤ _), (by decide : 0 + 0 ≤ _)⟩)
            dsimp only [Pt.U, Pt.locs, Pt.cells, Pt.slots] at X22 l22 y22 z22 st22 hQ22
            subst l22 y22 z22
            obtain ⟨rfl, N22q, e22⟩ := hQ22
            skip
            have N22 := Fr.app N0 N22q
            refine own_tr st22 ?_
            show own_Fin p e below G (T22.setTop (mkF m 176 #[iv p1, iv v7, rv a_SILENT, iv (0 : Int32)] [(.int (own_bn a_SILENT a_INPUT a_RESTRICTION a_ABSTRACTION))]))
            refine own_st (fun _ k => XS.iloadN X22.here hx rfl (hb hby at_176) rfl  k) ?_
            show own_Fin p e below G (T22.setTop (mkF m 177 #[iv p1, iv v7, rv a_SILENT, iv (0 : Int32)] [(.int (0 : Int32)), (.int (own_bn a_SILENT a_INPUT a_RESTRICTION a_ABSTRACTION))]))
            refine own_st (fun _ k => XS.icmpNo X22.here hx rfl (hb hby at_177) rfl (teq (by unfold own_bn; rw [if_neg ne_a_SILENT_a_INPUT, if_neg ne_a_SILENT_a_RESTRICTION, if_neg ne_a_SILENT_a_ABSTRACTION])).2 k) ?_
            show own_Fin p e below G (T22.setTop (mkF m 180 #[iv p1, iv v7, rv a_SILENT, iv (0 : Int32)] []))
            refine own_st (fun _ k => XS.iconst X22.here hx rfl (hb hby at_180) k) ?_
            show own_Fin p e below G (T22.setTop (mkF m 181 #[iv p1, iv v7, rv a_SILENT, iv (0 : Int32)] [(.int (1 : Int32))]))
            refine own_st (fun _ k => XS.goto X22.here hx rfl (pc0 := 181) (pc' := 185) rfl (hb hby at_181) (by decide) (by decide) k) ?_
            show own_Fin p e below G (T22.setTop (mkF m 185 #[iv p1, iv v7, rv a_SILENT, iv (0 : Int32)] [(.int (1 : Int32))]))
            refine own_out X22 Bd.notSynchronized (v := (some (.int (1 : Int32)))) (fun h => by rw [Bd.returns] at h; cases h) hG (fun fs hr => retN X22 hx (t := .boolean) Bd.returns (by simp) (hb hby at_185) hr) (by decide) (by decide) ?_
            exact ⟨rfl, N22⟩
          · refine own_st (fun _ k => XS.icmpYes X0.here hx rfl (pc0 := 65) (pc' := 77) rfl (hb hby at_65) rfl (feq hc65_20).2 (by decide) (by decide) k) ?_
            show own_Fin p e below G (s₁.setTop (mkF m 77 #[iv p1, iv v7, .unset, .unset] []))
            refine own_st (fun _ k => XS.iloadN X0.here hx rfl (hb hby at_77) rfl  k) ?_
            show own_Fin p e below G (s₁.setTop (mkF m 78 #[iv p1, iv v7, .unset, .unset] [(.int v7)]))
            refine own_st (fun _ k => XS.iconst X0.here hx rfl (hb hby at_78) k) ?_
            show own_Fin p e below G (s₁.setTop (mkF m 79 #[iv p1, iv v7, .unset, .unset] [(.int (5 : Int32)), (.int v7)]))
            by_cases hc79_23 : v7 = (5 : Int32)
            · refine own_st (fun _ k => XS.icmpNo X0.here hx rfl (hb hby at_79) rfl (teq hc79_23).2 k) ?_
              show own_Fin p e below G (s₁.setTop (mkF m 82 #[iv p1, iv v7, .unset, .unset] []))
              obtain ⟨T24, X24, e24, st24⟩ := getS2 X0 hx hZ hown (host := "") (Or.inl (own_w hw 33 rfl)) Via.refl e0 Sa_RESTRICTION (g := (mkF m 82 #[iv p1, iv v7, .unset, .unset] [])) rfl (hb hby at_82)
              refine own_st st24 ?_
              show own_Fin p e below G (T24.setTop (mkF m 85 #[iv p1, iv v7, .unset, .unset] [(.ref a_RESTRICTION)]))
              refine own_st (fun _ k => XS.astoreN X24.here hx rfl (hb hby at_85) rfl rfl (l' := #[iv p1, iv v7, rv a_RESTRICTION, .unset]) rfl k) ?_
              show own_Fin p e below G (T24.setTop (mkF m 86 #[iv p1, iv v7, rv a_RESTRICTION, .unset] []))
              refine own_st (fun _ k => XS.iconst X24.here hx rfl (hb hby at_86) k) ?_
              show own_Fin p e below G (T24.setTop (mkF m 87 #[iv p1, iv v7, rv a_RESTRICTION, .unset] [(.int (1 : Int32))]))
              refine own_st (fun _ k => XS.istoreN X24.here hx rfl (hb hby at_87) rfl (l' := #[iv p1, iv v7, rv a_RESTRICTION, iv (1 : Int32)]) rfl k) ?_
              show own_Fin p e below G (T24.setTop (mkF m 88 #[iv p1, iv v7, rv a_RESTRICTION, iv (1 : Int32)] []))
              refine own_st (fun _ k => XS.goto X24.here hx rfl (pc0 := 88) (pc' := 172) rfl (hb hby at_88) (by decide) (by decide) k) ?_
              show own_Fin p e below G (T24.setTop (mkF m 172 #[iv p1, iv v7, rv a_RESTRICTION, iv (1 : Int32)] []))
              refine own_st (fun _ k => XS.aloadN X24.here hx rfl (hb hby at_172) rfl rfl k) ?_
              show own_Fin p e below G (T24.setTop (mkF m 173 #[iv p1, iv v7, rv a_RESTRICTION, iv (1 : Int32)] [(.ref a_RESTRICTION)]))
              obtain ⟨cq25, kq25, q25a, q25b, q25c⟩ := isOf hZ e24 Ea_RESTRICTION
              obtain ⟨_, _, ⟨T25, L25, k25, n25⟩, -, X25, ⟨Lc25, hQ25, l25, y25, z25⟩, st25⟩ := X24.virtualBack hx (y := own_y0) (z := own_y0) hown (mvT hZ (own_w hw 4 rfl)) (mvT hZ (own_w hw 5 rfl)) (notFace_of_selects (args := #[]) (mvT hZ (own_w hw 7 rfl))) (mvT hZ (own_w hw 7 rfl)) (mvT hZ (own_w hw 6 rfl)) (by decide) (backOf (W := 0) (rm_bn l Z a0 hw [] a_RESTRICTION a_INPUT a_RESTRICTION a_ABSTRACTION h0 n0 (Nat.le_trans Z0 K0.1) Sa_INPUT Sa_RESTRICTION Sa_ABSTRACTION) hZ (own_w hw 8 rfl) (own_w hw 2 rfl) (by decide) (by decide)) q25a q25c (g := (mkF m 173 #[iv p1, iv v7, rv a_RESTRICTION, iv (1 : Int32)] [(.ref a_RESTRICTION)])) rfl (by rw [hml]; rfl) (Steps.refl _) (argsL := []) (rest := []) (lenOf pd___Z_171 rfl) rfl (by show 2 * 0 + _ ≤ _; exact Nat.le_of_eq rfl) (hb hby at_173) (fun _ _ => ⟨rfl, e24, (by decide : 0 + 0 ≤ _), (by decide : 0 + 0 ≤ _)⟩)
              dsimp only [Pt.U, Pt.locs, Pt.cells, Pt.slots] at X25 l25 y25 z25 st25 hQ25
              subst l25 y25 z25
              obtain ⟨rfl, N25q, e25⟩ := hQ25
              skip
              have N25 := Fr.app N0 N25q
              refine own_tr st25 ?_
              show own_Fin p e below G (T25.setTop (mkF m 176 #[iv p1, iv v7, rv a_RESTRICTION, iv (1 : Int32)] [(.int (own_bn a_RESTRICTION a_INPUT a_RESTRICTION a_ABSTRACTION))]))
              refine own_st (fun _ k => XS.iloadN X25.here hx rfl (hb hby at_176) rfl  k) ?_
              show own_Fin p e below G (T25.setTop (mkF m 177 #[iv p1, iv v7, rv a_RESTRICTION, iv (1 : Int32)] [(.int (1 : Int32)), (.int (own_bn a_RESTRICTION a_INPUT a_RESTRICTION a_ABSTRACTION))]))
              refine own_st (fun _ k => XS.icmpNo X25.here hx rfl (hb hby at_177) rfl (teq (by unfold own_bn; rw [if_neg (Ne.symm ne_a_INPUT_a_RESTRICTION), if_pos rfl])).2 k) ?_
              show own_Fin p e below G (T25.setTop (mkF m 180 #[iv p1, iv v7, rv a_RESTRICTION, iv (1 : Int32)] []))
              refine own_st (fun _ k => XS.iconst X25.here hx rfl (hb hby at_180) k) ?_
              show own_Fin p e below G (T25.setTop (mkF m 181 #[iv p1, iv v7, rv a_RESTRICTION, iv (1 : Int32)] [(.int (1 : Int32))]))
              refine own_st (fun _ k => XS.goto X25.here hx rfl (pc0 := 181) (pc' := 185) rfl (hb hby at_181) (by decide) (by decide) k) ?_
              show own_Fin p e below G (T25.setTop (mkF m 185 #[iv p1, iv v7, rv a_RESTRICTION, iv (1 : Int32)] [(.int (1 : Int32))]))
              refine own_out X25 Bd.notSynchronized (v := (some (.int (1 : Int32)))) (fun h => by rw [Bd.returns] at h; cases h) hG (fun fs hr => retN X25 hx (t := .boolean) Bd.returns (by simp) (hb hby at_185) hr) (by decide) (by decide) ?_
              exact ⟨rfl, N25⟩
            · refine own_st (fun _ k => XS.icmpYes X0.here hx rfl (pc0 := 79) (pc' := 91) rfl (hb hby at_79) rfl (feq hc79_23).2 (by decide) (by decide) k) ?_
              show own_Fin p e below G (s₁.setTop (mkF m 91 #[iv p1, iv v7, .unset, .unset] []))
              refine own_st (fun _ k => XS.iloadN X0.here hx rfl (hb hby at_91) rfl  k) ?_
              show own_Fin p e below G (s₁.setTop (mkF m 92 #[iv p1, iv v7, .unset, .unset] [(.int v7)]))
              refine own_st (fun _ k => XS.bipush X0.here hx rfl (hb hby at_92) k) ?_
              show own_Fin p e below G (s₁.setTop (mkF m 94 #[iv p1, iv v7, .unset, .unset] [(.int (6 : Int32)), (.int v7)]))
              by_cases hc94_26 : v7 = (6 : Int32)
              · refine own_st (fun _ k => XS.icmpNo X0.here hx rfl (hb hby at_94) rfl (teq hc94_26).2 k) ?_
                show own_Fin p e below G (s₁.setTop (mkF m 97 #[iv p1, iv v7, .unset, .unset] []))
                obtain ⟨T27, X27, e27, st27⟩ := getS2 X0 hx hZ hown (host := "") (Or.inl (own_w hw 31 rfl)) Via.refl e0 Sa_MATCH (g := (mkF m 97 #[iv p1, iv v7, .unset, .unset] [])) rfl (hb hby at_97)
                refine own_st st27 ?_
                show own_Fin p e below G (T27.setTop (mkF m 100 #[iv p1, iv v7, .unset, .unset] [(.ref a_MATCH)]))
                refine own_st (fun _ k => XS.astoreN X27.here hx rfl (hb hby at_100) rfl rfl (l' := #[iv p1, iv v7, rv a_MATCH, .unset]) rfl k) ?_
                show own_Fin p e below G (T27.setTop (mkF m 101 #[iv p1, iv v7, rv a_MATCH, .unset] []))
                refine own_st (fun _ k => XS.iconst X27.here hx rfl (hb hby at_101) k) ?_
                show own_Fin p e below G (T27.setTop (mkF m 102 #[iv p1, iv v7, rv a_MATCH, .unset] [(.int (0 : Int32))]))
                refine own_st (fun _ k => XS.istoreN X27.here hx rfl (hb hby at_102) rfl (l' := #[iv p1, iv v7, rv a_MATCH, iv (0 : Int32)]) rfl k) ?_
                show own_Fin p e below G (T27.setTop (mkF m 103 #[iv p1, iv v7, rv a_MATCH, iv (0 : Int32)] []))
                refine own_st (fun _ k => XS.goto X27.here hx rfl (pc0 := 103) (pc' := 172) rfl (hb hby at_103) (by decide) (by decide) k) ?_
                show own_Fin p e below G (T27.setTop (mkF m 172 #[iv p1, iv v7, rv a_MATCH, iv (0 : Int32)] []))
                refine own_st (fun _ k => XS.aloadN X27.here hx rfl (hb hby at_172) rfl rfl k) ?_
                show own_Fin p e below G (T27.setTop (mkF m 173 #[iv p1, iv v7, rv a_MATCH, iv (0 : Int32)] [(.ref a_MATCH)]))
                obtain ⟨cq28, kq28, q28a, q28b, q28c⟩ := isOf hZ e27 Ea_MATCH
                obtain ⟨_, _, ⟨T28, L28, k28, n28⟩, -, X28, ⟨Lc28, hQ28, l28, y28, z28⟩, st28⟩ := X27.virtualBack hx (y := own_y0) (z := own_y0) hown (mvT hZ (own_w hw 4 rfl)) (mvT hZ (own_w hw 5 rfl)) (notFace_of_selects (args := #[]) (mvT hZ (own_w hw 7 rfl))) (mvT hZ (own_w hw 7 rfl)) (mvT hZ (own_w hw 6 rfl)) (by decide) (backOf (W := 0) (rm_bn l Z a0 hw [] a_MATCH a_INPUT a_RESTRICTION a_ABSTRACTION h0 n0 (Nat.le_trans Z0 K0.1) Sa_INPUT Sa_RESTRICTION Sa_ABSTRACTION) hZ (own_w hw 8 rfl) (own_w hw 2 rfl) (by decide) (by decide)) q28a q28c (g := (mkF m 173 #[iv p1, iv v7, rv a_MATCH, iv (0 : Int32)] [(.ref a_MATCH)])) rfl (by rw [hml]; rfl) (Steps.refl _) (argsL := []) (rest := []) (lenOf pd___Z_171 rfl) rfl (by show 2 * 0 + _ ≤ _; exact Nat.le_of_eq rfl) (hb hby at_173) (fun _ _ => ⟨rfl, e27, (by decide : 0 + 0 ≤ _), (by decide : 0 + 0 ≤ _)⟩)
                dsimp only [Pt.U, Pt.locs, Pt.cells, Pt.slots] at X28 l28 y28 z28 st28 hQ28
                subst l28 y28 z28
                obtain ⟨rfl, N28q, e28⟩ := hQ28
                skip
                have N28 := Fr.app N0 N28q
                refine own_tr st28 ?_
                show own_Fin p e below G (T28.setTop (mkF m 176 #[iv p1, iv v7, rv a_MATCH, iv (0 : Int32)] [(.int (own_bn a_MATCH a_INPUT a_RESTRICTION a_ABSTRACTION))]))
                refine own_st (fun _ k => XS.iloadN X28.here hx rfl (hb hby at_176) rfl  k) ?_
                show own_Fin p e below G (T28.setTop (mkF m 177 #[iv p1, iv v7, rv a_MATCH, iv (0 : Int32)] [(.int (0 : Int32)), (.int (own_bn a_MATCH a_INPUT a_RESTRICTION a_ABSTRACTION))]))
                refine own_st (fun _ k => XS.icmpNo X28.here hx rfl (hb hby at_177) rfl (teq (by unfold own_bn; rw [if_neg ne_a_MATCH_a_INPUT, if_neg ne_a_MATCH_a_RESTRICTION, if_neg ne_a_MATCH_a_ABSTRACTION])).2 k) ?_
                show own_Fin p e below G (T28.setTop (mkF m 180 #[iv p1, iv v7, rv a_MATCH, iv (0 : Int32)] []))
                refine own_st (fun _ k => XS.iconst X28.here hx rfl (hb hby at_180) k) ?_
                show own_Fin p e below G (T28.setTop (mkF m 181 #[iv p1, iv v7, rv a_MATCH, iv (0 : Int32)] [(.int (1 : Int32))]))
                refine own_st (fun _ k => XS.goto X28.here hx rfl (pc0 := 181) (pc' := 185) rfl (hb hby at_181) (by decide) (by decide) k) ?_
                show own_Fin p e below G (T28.setTop (mkF m 185 #[iv p1, iv v7, rv a_MATCH, iv (0 : Int32)] [(.int (1 : Int32))]))
                refine own_out X28 Bd.notSynchronized (v := (some (.int (1 : Int32)))) (fun h => by rw [Bd.returns] at h; cases h) hG (fun fs hr => retN X28 hx (t := .boolean) Bd.returns (by simp) (hb hby at_185) hr) (by decide) (by decide) ?_
                exact ⟨rfl, N28⟩
              · refine own_st (fun _ k => XS.icmpYes X0.here hx rfl (pc0 := 94) (pc' := 106) rfl (hb hby at_94) rfl (feq hc94_26).2 (by decide) (by decide) k) ?_
                show own_Fin p e below G (s₁.setTop (mkF m 106 #[iv p1, iv v7, .unset, .unset] []))
                refine own_st (fun _ k => XS.iloadN X0.here hx rfl (hb hby at_106) rfl  k) ?_
                show own_Fin p e below G (s₁.setTop (mkF m 107 #[iv p1, iv v7, .unset, .unset] [(.int v7)]))
                refine own_st (fun _ k => XS.bipush X0.here hx rfl (hb hby at_107) k) ?_
                show own_Fin p e below G (s₁.setTop (mkF m 109 #[iv p1, iv v7, .unset, .unset] [(.int (7 : Int32)), (.int v7)]))
                by_cases hc109_29 : v7 = (7 : Int32)
                · refine own_st (fun _ k => XS.icmpNo X0.here hx rfl (hb hby at_109) rfl (teq hc109_29).2 k) ?_
                  show own_Fin p e below G (s₁.setTop (mkF m 112 #[iv p1, iv v7, .unset, .unset] []))
                  obtain ⟨T30, X30, e30, st30⟩ := getS2 X0 hx hZ hown (host := "") (Or.inl (own_w hw 18 rfl)) Via.refl e0 Sa_REPLICATION (g := (mkF m 112 #[iv p1, iv v7, .unset, .unset] [])) rfl (hb hby at_112)
                  refine own_st st30 ?_
                  show own_Fin p e below G (T30.setTop (mkF m 115 #[iv p1, iv v7, .unset, .unset] [(.ref a_REPLICATION)]))
                  refine own_st (fun _ k => XS.astoreN X30.here hx rfl (hb hby at_115) rfl rfl (l' := #[iv p1, iv v7, rv a_REPLICATION, .unset]) rfl k) ?_
                  show own_Fin p e below G (T30.setTop (mkF m 116 #[iv p1, iv v7, rv a_REPLICATION, .unset] []))
                  refine own_st (fun _ k => XS.iconst X30.here hx rfl (hb hby at_116) k) ?_
                  show own_Fin p e below G (T30.setTop (mkF m 117 #[iv p1, iv v7, rv a_REPLICATION, .unset] [(.int (0 : Int32))]))
                  refine own_st (fun _ k => XS.istoreN X30.here hx rfl (hb hby at_117) rfl (l' := #[iv p1, iv v7, rv a_REPLICATION, iv (0 : Int32)]) rfl k) ?_
                  show own_Fin p e below G (T30.setTop (mkF m 118 #[iv p1, iv v7, rv a_REPLICATION, iv (0 : Int32)] []))
                  refine own_st (fun _ k => XS.goto X30.here hx rfl (pc0 := 118) (pc' := 172) rfl (hb hby at_118) (by decide) (by decide) k) ?_
                  show own_Fin p e below G (T30.setTop (mkF m 172 #[iv p1, iv v7, rv a_REPLICATION, iv (0 : Int32)] []))
                  refine own_st (fun _ k => XS.aloadN X30.here hx rfl (hb hby at_172) rfl rfl k) ?_
                  show own_Fin p e below G (T30.setTop (mkF m 173 #[iv p1, iv v7, rv a_REPLICATION, iv (0 : Int32)] [(.ref a_REPLICATION)]))
                  obtain ⟨cq31, kq31, q31a, q31b, q31c⟩ := isOf hZ e30 Ea_REPLICATION
                  obtain ⟨_, _, ⟨T31, L31, k31, n31⟩, -, X31, ⟨Lc31, hQ31, l31, y31, z31⟩, st31⟩ := X30.virtualBack hx (y := own_y0) (z := own_y0) hown (mvT hZ (own_w hw 4 rfl)) (mvT hZ (own_w hw 5 rfl)) (notFace_of_selects (args := #[]) (mvT hZ (own_w hw 7 rfl))) (mvT hZ (own_w hw 7 rfl)) (mvT hZ (own_w hw 6 rfl)) (by decide) (backOf (W := 0) (rm_bn l Z a0 hw [] a_REPLICATION a_INPUT a_RESTRICTION a_ABSTRACTION h0 n0 (Nat.le_trans Z0 K0.1) Sa_INPUT Sa_RESTRICTION Sa_ABSTRACTION) hZ (own_w hw 8 rfl) (own_w hw 2 rfl) (by decide) (by decide)) q31a q31c (g := (mkF m 173 #[iv p1, iv v7, rv a_REPLICATION, iv (0 : Int32)] [(.ref a_REPLICATION)])) rfl (by rw [hml]; rfl) (Steps.refl _) (argsL := []) (rest := []) (lenOf pd___Z_171 rfl) rfl (by show 2 * 0 + _ ≤ _; exact Nat.le_of_eq rfl) (hb hby at_173) (fun _ _ => ⟨rfl, e30, (by decide : 0 + 0 ≤ _), (by decide : 0 + 0 ≤ _)⟩)
                  dsimp only [Pt.U, Pt.locs, Pt.cells, Pt.slots] at X31 l31 y31 z31 st31 hQ31
                  subst l31 y31 z31
                  obtain ⟨rfl, N31q, e31⟩ := hQ31
                  skip
                  have N31 := Fr.app N0 N31q
                  refine own_tr st31 ?_
                  show own_Fin p e below G (T31.setTop (mkF m 176 #[iv p1, iv v7, rv a_REPLICATION, iv (0 : Int32)] [(.int (own_bn a_REPLICATION a_INPUT a_RESTRICTION a_ABSTRACTION))]))
                  refine own_st (fun _ k => XS.iloadN X31.here hx rfl (hb hby at_176) rfl  k) ?_
                  show own_Fin p e below G (T31.setTop (mkF m 177 #[iv p1, iv v7, rv a_REPLICATION, iv (0 : Int32)] [(.int (0 : Int32)), (.int (own_bn a_REPLICATION a_INPUT a_RESTRICTION a_ABSTRACTION))]))
                  refine own_st (fun _ k => XS.icmpNo X31.here hx rfl (hb hby at_177) rfl (teq (by unfold own_bn; rw [if_neg ne_a_REPLICATION_a_INPUT, if_neg ne_a_REPLICATION_a_RESTRICTION, if_neg ne_a_REPLICATION_a_ABSTRACTION])).2 k) ?_
                  show own_Fin p e below G (T31.setTop (mkF m 180 #[iv p1, iv v7, rv a_REPLICATION, iv (0 : Int32)] []))
                  refine own_st (fun _ k => XS.iconst X31.here hx rfl (hb hby at_180) k) ?_
                  show own_Fin p e below G (T31.setTop (mkF m 181 #[iv p1, iv v7, rv a_REPLICATION, iv (0 : Int32)] [(.int (1 : Int32))]))
                  refine own_st (fun _ k => XS.goto X31.here hx rfl (pc0 := 181) (pc' := 185) rfl (hb hby at_181) (by decide) (by decide) k) ?_
                  show own_Fin p e below G (T31.setTop (mkF m 185 #[iv p1, iv v7, rv a_REPLICATION, iv (0 : Int32)] [(.int (1 : Int32))]))
                  refine own_out X31 Bd.notSynchronized (v := (some (.int (1 : Int32)))) (fun h => by rw [Bd.returns] at h; cases h) hG (fun fs hr => retN X31 hx (t := .boolean) Bd.returns (by simp) (hb hby at_185) hr) (by decide) (by decide) ?_
                  exact ⟨rfl, N31⟩
                · refine own_st (fun _ k => XS.icmpYes X0.here hx rfl (pc0 := 109) (pc' := 121) rfl (hb hby at_109) rfl (feq hc109_29).2 (by decide) (by decide) k) ?_
                  show own_Fin p e below G (s₁.setTop (mkF m 121 #[iv p1, iv v7, .unset, .unset] []))
                  refine own_st (fun _ k => XS.iloadN X0.here hx rfl (hb hby at_121) rfl  k) ?_
                  show own_Fin p e below G (s₁.setTop (mkF m 122 #[iv p1, iv v7, .unset, .unset] [(.int v7)]))
                  refine own_st (fun _ k => XS.bipush X0.here hx rfl (hb hby at_122) k) ?_
                  show own_Fin p e below G (s₁.setTop (mkF m 124 #[iv p1, iv v7, .unset, .unset] [(.int (8 : Int32)), (.int v7)]))
                  by_cases hc124_32 : v7 = (8 : Int32)
                  · refine own_st (fun _ k => XS.icmpNo X0.here hx rfl (hb hby at_124) rfl (teq hc124_32).2 k) ?_
                    show own_Fin p e below G (s₁.setTop (mkF m 127 #[iv p1, iv v7, .unset, .unset] []))
                    obtain ⟨T33, X33, e33, st33⟩ := getS2 X0 hx hZ hown (host := "") (Or.inl (own_w hw 24 rfl)) Via.refl e0 Sa_RECURSION (g := (mkF m 127 #[iv p1, iv v7, .unset, .unset] [])) rfl (hb hby at_127)
                    refine own_st st33 ?_
                    show own_Fin p e below G (T33.setTop (mkF m 130 #[iv p1, iv v7, .unset, .unset] [(.ref a_RECURSION)]))
                    refine own_st (fun _ k => XS.astoreN X33.here hx rfl (hb hby at_130) rfl rfl (l' := #[iv p1, iv v7, rv a_RECURSION, .unset]) rfl k) ?_
                    show own_Fin p e below G (T33.setTop (mkF m 131 #[iv p1, iv v7, rv a_RECURSION, .unset] []))
                    refine own_st (fun _ k => XS.iconst X33.here hx rfl (hb hby at_131) k) ?_
                    show own_Fin p e below G (T33.setTop (mkF m 132 #[iv p1, iv v7, rv a_RECURSION, .unset] [(.int (0 : Int32))]))
                    refine own_st (fun _ k => XS.istoreN X33.here hx rfl (hb hby at_132) rfl (l' := #[iv p1, iv v7, rv a_RECURSION, iv (0 : Int32)]) rfl k) ?_
                    show own_Fin p e below G (T33.setTop (mkF m 133 #[iv p1, iv v7, rv a_RECURSION, iv (0 : Int32)] []))
                    refine own_st (fun _ k => XS.goto X33.here hx rfl (pc0 := 133) (pc' := 172) rfl (hb hby at_133) (by decide) (by decide) k) ?_
                    show own_Fin p e below G (T33.setTop (mkF m 172 #[iv p1, iv v7, rv a_RECURSION, iv (0 : Int32)] []))
                    refine own_st (fun _ k => XS.aloadN X33.here hx rfl (hb hby at_172) rfl rfl k) ?_
                    show own_Fin p e below G (T33.setTop (mkF m 173 #[iv p1, iv v7, rv a_RECURSION, iv (0 : Int32)] [(.ref a_RECURSION)]))
                    obtain ⟨cq34, kq34, q34a, q34b, q34c⟩ := isOf hZ e33 Ea_RECURSION
                    obtain ⟨_, _, ⟨T34, L34, k34, n34⟩, -, X34, ⟨Lc34, hQ34, l34, y34, z34⟩, st34⟩ := X33.virtualBack hx (y := own_y0) (z := own_y0) hown (mvT hZ (own_w hw 4 rfl)) (mvT hZ (own_w hw 5 rfl)) (notFace_of_selects (args := #[]) (mvT hZ (own_w hw 7 rfl))) (mvT hZ (own_w hw 7 rfl)) (mvT hZ (own_w hw 6 rfl)) (by decide) (backOf (W := 0) (rm_bn l Z a0 hw [] a_RECURSION a_INPUT a_RESTRICTION a_ABSTRACTION h0 n0 (Nat.le_trans Z0 K0.1) Sa_INPUT Sa_RESTRICTION Sa_ABSTRACTION) hZ (own_w hw 8 rfl) (own_w hw 2 rfl) (by decide) (by decide)) q34a q34c (g := (mkF m 173 #[iv p1, iv v7, rv a_RECURSION, iv (0 : Int32)] [(.ref a_RECURSION)])) rfl (by rw [hml]; rfl) (Steps.refl _) (argsL := []) (rest := []) (lenOf pd___Z_171 rfl) rfl (by show 2 * 0 + _ ≤ _; exact Nat.le_of_eq rfl) (hb hby at_173) (fun _ _ => ⟨rfl, e33, (by decide : 0 + 0 ≤ _), (by decide : 0 + 0 ≤ _)⟩)
                    dsimp only [Pt.U, Pt.locs, Pt.cells, Pt.slots] at X34 l34 y34 z34 st34 hQ34
                    subst l34 y34 z34
                    obtain ⟨rfl, N34q, e34⟩ := hQ34
                    skip
                    have N34 := Fr.app N0 N34q
                    refine own_tr st34 ?_
                    show own_Fin p e below G (T34.setTop (mkF m 176 #[iv p1, iv v7, rv a_RECURSION, iv (0 : Int32)] [(.int (own_bn a_RECURSION a_INPUT a_RESTRICTION a_ABSTRACTION))]))
                    refine own_st (fun _ k => XS.iloadN X34.here hx rfl (hb hby at_176) rfl  k) ?_
                    show own_Fin p e below G (T34.setTop (mkF m 177 #[iv p1, iv v7, rv a_RECURSION, iv (0 : Int32)] [(.int (0 : Int32)), (.int (own_bn a_RECURSION a_INPUT a_RESTRICTION a_ABSTRACTION))]))
                    refine own_st (fun _ k => XS.icmpNo X34.here hx rfl (hb hby at_177) rfl (teq (by unfold own_bn; rw [if_neg ne_a_RECURSION_a_INPUT, if_neg ne_a_RECURSION_a_RESTRICTION, if_neg ne_a_RECURSION_a_ABSTRACTION])).2 k) ?_
                    show own_Fin p e below G (T34.setTop (mkF m 180 #[iv p1, iv v7, rv a_RECURSION, iv (0 : Int32)] []))
                    refine own_st (fun _ k => XS.iconst X34.here hx rfl (hb hby at_180) k) ?_
                    show own_Fin p e below G (T34.setTop (mkF m 181 #[iv p1, iv v7, rv a_RECURSION, iv (0 : Int32)] [(.int (1 : Int32))]))
                    refine own_st (fun _ k => XS.goto X34.here hx rfl (pc0 := 181) (pc' := 185) rfl (hb hby at_181) (by decide) (by decide) k) ?_
                    show own_Fin p e below G (T34.setTop (mkF m 185 #[iv p1, iv v7, rv a_RECURSION, iv (0 : Int32)] [(.int (1 : Int32))]))
                    refine own_out X34 Bd.notSynchronized (v := (some (.int (1 : Int32)))) (fun h => by rw [Bd.returns] at h; cases h) hG (fun fs hr => retN X34 hx (t := .boolean) Bd.returns (by simp) (hb hby at_185) hr) (by decide) (by decide) ?_
                    exact ⟨rfl, N34⟩
                  · refine own_st (fun _ k => XS.icmpYes X0.here hx rfl (pc0 := 124) (pc' := 136) rfl (hb hby at_124) rfl (feq hc124_32).2 (by decide) (by decide) k) ?_
                    show own_Fin p e below G (s₁.setTop (mkF m 136 #[iv p1, iv v7, .unset, .unset] []))
                    refine own_st (fun _ k => XS.iloadN X0.here hx rfl (hb hby at_136) rfl  k) ?_
                    show own_Fin p e below G (s₁.setTop (mkF m 137 #[iv p1, iv v7, .unset, .unset] [(.int v7)]))
                    refine own_st (fun _ k => XS.bipush X0.here hx rfl (hb hby at_137) k) ?_
                    show own_Fin p e below G (s₁.setTop (mkF m 139 #[iv p1, iv v7, .unset, .unset] [(.int (9 : Int32)), (.int v7)]))
                    by_cases hc139_35 : v7 = (9 : Int32)
                    · refine own_st (fun _ k => XS.icmpNo X0.here hx rfl (hb hby at_139) rfl (teq hc139_35).2 k) ?_
                      show own_Fin p e below G (s₁.setTop (mkF m 142 #[iv p1, iv v7, .unset, .unset] []))
                      obtain ⟨T36, X36, e36, st36⟩ := getS2 X0 hx hZ hown (host := "") (Or.inl (own_w hw 30 rfl)) Via.refl e0 Sa_ABSTRACTION (g := (mkF m 142 #[iv p1, iv v7, .unset, .unset] [])) rfl (hb hby at_142)
                      refine own_st st36 ?_
                      show own_Fin p e below G (T36.setTop (mkF m 145 #[iv p1, iv v7, .unset, .unset] [(.ref a_ABSTRACTION)]))
                      refine own_st (fun _ k => XS.astoreN X36.here hx rfl (hb hby at_145) rfl rfl (l' := #[iv p1, iv v7, rv a_ABSTRACTION, .unset]) rfl k) ?_
                      show own_Fin p e below G (T36.setTop (mkF m 146 #[iv p1, iv v7, rv a_ABSTRACTION, .unset] []))
                      refine own_st (fun _ k => XS.iconst X36.here hx rfl (hb hby at_146) k) ?_
                      show own_Fin p e below G (T36.setTop (mkF m 147 #[iv p1, iv v7, rv a_ABSTRACTION, .unset] [(.int (1 : Int32))]))
                      refine own_st (fun _ k => XS.istoreN X36.here hx rfl (hb hby at_147) rfl (l' := #[iv p1, iv v7, rv a_ABSTRACTION, iv (1 : Int32)]) rfl k) ?_
                      show own_Fin p e below G (T36.setTop (mkF m 148 #[iv p1, iv v7, rv a_ABSTRACTION, iv (1 : Int32)] []))
                      refine own_st (fun _ k => XS.goto X36.here hx rfl (pc0 := 148) (pc' := 172) rfl (hb hby at_148) (by decide) (by decide) k) ?_
                      show own_Fin p e below G (T36.setTop (mkF m 172 #[iv p1, iv v7, rv a_ABSTRACTION, iv (1 : Int32)] []))
                      refine own_st (fun _ k => XS.aloadN X36.here hx rfl (hb hby at_172) rfl rfl k) ?_
                      show own_Fin p e below G (T36.setTop (mkF m 173 #[iv p1, iv v7, rv a_ABSTRACTION, iv (1 : Int32)] [(.ref a_ABSTRACTION)]))
                      obtain ⟨cq37, kq37, q37a, q37b, q37c⟩ := isOf hZ e36 Ea_ABSTRACTION
                      obtain ⟨_, _, ⟨T37, L37, k37, n37⟩, -, X37, ⟨Lc37, hQ37, l37, y37, z37⟩, st37⟩ := X36.virtualBack hx (y := own_y0) (z := own_y0) hown (mvT hZ (own_w hw 4 rfl)) (mvT hZ (own_w hw 5 rfl)) (notFace_of_selects (args := #[]) (mvT hZ (own_w hw 7 rfl))) (mvT hZ (own_w hw 7 rfl)) (mvT hZ (own_w hw 6 rfl)) (by decide) (backOf (W := 0) (rm_bn l Z a0 hw [] a_ABSTRACTION a_INPUT a_RESTRICTION a_ABSTRACTION h0 n0 (Nat.le_trans Z0 K0.1) Sa_INPUT Sa_RESTRICTION Sa_ABSTRACTION) hZ (own_w hw 8 rfl) (own_w hw 2 rfl) (by decide) (by decide)) q37a q37c (g := (mkF m 173 #[iv p1, iv v7, rv a_ABSTRACTION, iv (1 : Int32)] [(.ref a_ABSTRACTION)])) rfl (by rw [hml]; rfl) (Steps.refl _) (argsL := []) (rest := []) (lenOf pd___Z_171 rfl) rfl (by show 2 * 0 + _ ≤ _; exact Nat.le_of_eq rfl) (hb hby at_173) (fun _ _ => ⟨rfl, e36, (by decide : 0 + 0 ≤ _), (by decide : 0 + 0 ≤ _)⟩)
                      dsimp only [Pt.U, Pt.locs, Pt.cells, Pt.slots] at X37 l37 y37 z37 st37 hQ37
                      subst l37 y37 z37
                      obtain ⟨rfl, N37q, e37⟩ := hQ37
                      skip
                      have N37 := Fr.app N0 N37q
                      refine own_tr st37 ?_
                      show own_Fin p e below G (T37.setTop (mkF m 176 #[iv p1, iv v7, rv a_ABSTRACTION, iv (1 : Int32)] [(.int (own_bn a_ABSTRACTION a_INPUT a_RESTRICTION a_ABSTRACTION))]))
                      refine own_st (fun _ k => XS.iloadN X37.here hx rfl (hb hby at_176) rfl  k) ?_
                      show own_Fin p e below G (T37.setTop (mkF m 177 #[iv p1, iv v7, rv a_ABSTRACTION, iv (1 : Int32)] [(.int (1 : Int32)), (.int (own_bn a_ABSTRACTION a_INPUT a_RESTRICTION a_ABSTRACTION))]))
                      refine own_st (fun _ k => XS.icmpNo X37.here hx rfl (hb hby at_177) rfl (teq (by unfold own_bn; rw [if_neg (Ne.symm ne_a_INPUT_a_ABSTRACTION), if_neg (Ne.symm ne_a_RESTRICTION_a_ABSTRACTION), if_pos rfl])).2 k) ?_
                      show own_Fin p e below G (T37.setTop (mkF m 180 #[iv p1, iv v7, rv a_ABSTRACTION, iv (1 : Int32)] []))
                      refine own_st (fun _ k => XS.iconst X37.here hx rfl (hb hby at_180) k) ?_
                      show own_Fin p e below G (T37.setTop (mkF m 181 #[iv p1, iv v7, rv a_ABSTRACTION, iv (1 : Int32)] [(.int (1 : Int32))]))
                      refine own_st (fun _ k => XS.goto X37.here hx rfl (pc0 := 181) (pc' := 185) rfl (hb hby at_181) (by decide) (by decide) k) ?_
                      show own_Fin p e below G (T37.setTop (mkF m 185 #[iv p1, iv v7, rv a_ABSTRACTION, iv (1 : Int32)] [(.int (1 : Int32))]))
                      refine own_out X37 Bd.notSynchronized (v := (some (.int (1 : Int32)))) (fun h => by rw [Bd.returns] at h; cases h) hG (fun fs hr => retN X37 hx (t := .boolean) Bd.returns (by simp) (hb hby at_185) hr) (by decide) (by decide) ?_
                      exact ⟨rfl, N37⟩
                    · refine own_st (fun _ k => XS.icmpYes X0.here hx rfl (pc0 := 139) (pc' := 151) rfl (hb hby at_139) rfl (feq hc139_35).2 (by decide) (by decide) k) ?_
                      show own_Fin p e below G (s₁.setTop (mkF m 151 #[iv p1, iv v7, .unset, .unset] []))
                      refine own_st (fun _ k => XS.iloadN X0.here hx rfl (hb hby at_151) rfl  k) ?_
                      show own_Fin p e below G (s₁.setTop (mkF m 152 #[iv p1, iv v7, .unset, .unset] [(.int v7)]))
                      refine own_st (fun _ k => XS.bipush X0.here hx rfl (hb hby at_152) k) ?_
                      show own_Fin p e below G (s₁.setTop (mkF m 154 #[iv p1, iv v7, .unset, .unset] [(.int (10 : Int32)), (.int v7)]))
                      by_cases hc154_38 : v7 = (10 : Int32)
                      · refine own_st (fun _ k => XS.icmpNo X0.here hx rfl (hb hby at_154) rfl (teq hc154_38).2 k) ?_
                        show own_Fin p e below G (s₁.setTop (mkF m 157 #[iv p1, iv v7, .unset, .unset] []))
                        obtain ⟨T39, X39, e39, st39⟩ := getS2 X0 hx hZ hown (host := "") (Or.inl (own_w hw 28 rfl)) Via.refl e0 Sa_SUM (g := (mkF m 157 #[iv p1, iv v7, .unset, .unset] [])) rfl (hb hby at_157)
                        refine own_st st39 ?_
                        show own_Fin p e below G (T39.setTop (mkF m 160 #[iv p1, iv v7, .unset, .unset] [(.ref a_SUM)]))
                        refine own_st (fun _ k => XS.astoreN X39.here hx rfl (hb hby at_160) rfl rfl (l' := #[iv p1, iv v7, rv a_SUM, .unset]) rfl k) ?_
                        show own_Fin p e below G (T39.setTop (mkF m 161 #[iv p1, iv v7, rv a_SUM, .unset] []))
                        refine own_st (fun _ k => XS.iconst X39.here hx rfl (hb hby at_161) k) ?_
                        show own_Fin p e below G (T39.setTop (mkF m 162 #[iv p1, iv v7, rv a_SUM, .unset] [(.int (0 : Int32))]))
                        refine own_st (fun _ k => XS.istoreN X39.here hx rfl (hb hby at_162) rfl (l' := #[iv p1, iv v7, rv a_SUM, iv (0 : Int32)]) rfl k) ?_
                        show own_Fin p e below G (T39.setTop (mkF m 163 #[iv p1, iv v7, rv a_SUM, iv (0 : Int32)] []))
                        refine own_st (fun _ k => XS.goto X39.here hx rfl (pc0 := 163) (pc' := 172) rfl (hb hby at_163) (by decide) (by decide) k) ?_
                        show own_Fin p e below G (T39.setTop (mkF m 172 #[iv p1, iv v7, rv a_SUM, iv (0 : Int32)] []))
                        refine own_st (fun _ k => XS.aloadN X39.here hx rfl (hb hby at_172) rfl rfl k) ?_
                        show own_Fin p e below G (T39.setTop (mkF m 173 #[iv p1, iv v7, rv a_SUM, iv (0 : Int32)] [(.ref a_SUM)]))
                        obtain ⟨cq40, kq40, q40a, q40b, q40c⟩ := isOf hZ e39 Ea_SUM
                        obtain ⟨_, _, ⟨T40, L40, k40, n40⟩, -, X40, ⟨Lc40, hQ40, l40, y40, z40⟩, st40⟩ := X39.virtualBack hx (y := own_y0) (z := own_y0) hown (mvT hZ (own_w hw 4 rfl)) (mvT hZ (own_w hw 5 rfl)) (notFace_of_selects (args := #[]) (mvT hZ (own_w hw 7 rfl))) (mvT hZ (own_w hw 7 rfl)) (mvT hZ (own_w hw 6 rfl)) (by decide) (backOf (W := 0) (rm_bn l Z a0 hw [] a_SUM a_INPUT a_RESTRICTION a_ABSTRACTION h0 n0 (Nat.le_trans Z0 K0.1) Sa_INPUT Sa_RESTRICTION Sa_ABSTRACTION) hZ (own_w hw 8 rfl) (own_w hw 2 rfl) (by decide) (by decide)) q40a q40c (g := (mkF m 173 #[iv p1, iv v7, rv a_SUM, iv (0 : Int32)] [(.ref a_SUM)])) rfl (by rw [hml]; rfl) (Steps.refl _) (argsL := []) (rest := []) (lenOf pd___Z_171 rfl) rfl (by show 2 * 0 + _ ≤ _; exact Nat.le_of_eq rfl) (hb hby at_173) (fun _ _ => ⟨rfl, e39, (by decide : 0 + 0 ≤ _), (by decide : 0 + 0 ≤ _)⟩)
                        dsimp only [Pt.U, Pt.locs, Pt.cells, Pt.slots] at X40 l40 y40 z40 st40 hQ40
                        subst l40 y40 z40
                        obtain ⟨rfl, N40q, e40⟩ := hQ40
                        skip
                        have N40 := Fr.app N0 N40q
                        refine own_tr st40 ?_
                        show own_Fin p e below G (T40.setTop (mkF m 176 #[iv p1, iv v7, rv a_SUM, iv (0 : Int32)] [(.int (own_bn a_SUM a_INPUT a_RESTRICTION a_ABSTRACTION))]))
                        refine own_st (fun _ k => XS.iloadN X40.here hx rfl (hb hby at_176) rfl  k) ?_
                        show own_Fin p e below G (T40.setTop (mkF m 177 #[iv p1, iv v7, rv a_SUM, iv (0 : Int32)] [(.int (0 : Int32)), (.int (own_bn a_SUM a_INPUT a_RESTRICTION a_ABSTRACTION))]))
                        refine own_st (fun _ k => XS.icmpNo X40.here hx rfl (hb hby at_177) rfl (teq (by unfold own_bn; rw [if_neg ne_a_SUM_a_INPUT, if_neg ne_a_SUM_a_RESTRICTION, if_neg ne_a_SUM_a_ABSTRACTION])).2 k) ?_
                        show own_Fin p e below G (T40.setTop (mkF m 180 #[iv p1, iv v7, rv a_SUM, iv (0 : Int32)] []))
                        refine own_st (fun _ k => XS.iconst X40.here hx rfl (hb hby at_180) k) ?_
                        show own_Fin p e below G (T40.setTop (mkF m 181 #[iv p1, iv v7, rv a_SUM, iv (0 : Int32)] [(.int (1 : Int32))]))
                        refine own_st (fun _ k => XS.goto X40.here hx rfl (pc0 := 181) (pc' := 185) rfl (hb hby at_181) (by decide) (by decide) k) ?_
                        show own_Fin p e below G (T40.setTop (mkF m 185 #[iv p1, iv v7, rv a_SUM, iv (0 : Int32)] [(.int (1 : Int32))]))
                        refine own_out X40 Bd.notSynchronized (v := (some (.int (1 : Int32)))) (fun h => by rw [Bd.returns] at h; cases h) hG (fun fs hr => retN X40 hx (t := .boolean) Bd.returns (by simp) (hb hby at_185) hr) (by decide) (by decide) ?_
                        exact ⟨rfl, N40⟩
                      · refine own_st (fun _ k => XS.icmpYes X0.here hx rfl (pc0 := 154) (pc' := 166) rfl (hb hby at_154) rfl (feq hc154_38).2 (by decide) (by decide) k) ?_
                        show own_Fin p e below G (s₁.setTop (mkF m 166 #[iv p1, iv v7, .unset, .unset] []))
                        obtain ⟨T41, X41, e41, st41⟩ := getS2 X0 hx hZ hown (host := "") (Or.inl (own_w hw 20 rfl)) Via.refl e0 Sa_PARALLEL (g := (mkF m 166 #[iv p1, iv v7, .unset, .unset] [])) rfl (hb hby at_166)
                        refine own_st st41 ?_
                        show own_Fin p e below G (T41.setTop (mkF m 169 #[iv p1, iv v7, .unset, .unset] [(.ref a_PARALLEL)]))
                        refine own_st (fun _ k => XS.astoreN X41.here hx rfl (hb hby at_169) rfl rfl (l' := #[iv p1, iv v7, rv a_PARALLEL, .unset]) rfl k) ?_
                        show own_Fin p e below G (T41.setTop (mkF m 170 #[iv p1, iv v7, rv a_PARALLEL, .unset] []))
                        refine own_st (fun _ k => XS.iconst X41.here hx rfl (hb hby at_170) k) ?_
                        show own_Fin p e below G (T41.setTop (mkF m 171 #[iv p1, iv v7, rv a_PARALLEL, .unset] [(.int (0 : Int32))]))
                        refine own_st (fun _ k => XS.istoreN X41.here hx rfl (hb hby at_171) rfl (l' := #[iv p1, iv v7, rv a_PARALLEL, iv (0 : Int32)]) rfl k) ?_
                        show own_Fin p e below G (T41.setTop (mkF m 172 #[iv p1, iv v7, rv a_PARALLEL, iv (0 : Int32)] []))
                        refine own_st (fun _ k => XS.aloadN X41.here hx rfl (hb hby at_172) rfl rfl k) ?_
                        show own_Fin p e below G (T41.setTop (mkF m 173 #[iv p1, iv v7, rv a_PARALLEL, iv (0 : Int32)] [(.ref a_PARALLEL)]))
                        obtain ⟨cq42, kq42, q42a, q42b, q42c⟩ := isOf hZ e41 Ea_PARALLEL
                        obtain ⟨_, _, ⟨T42, L42, k42, n42⟩, -, X42, ⟨Lc42, hQ42, l42, y42, z42⟩, st42⟩ := X41.virtualBack hx (y := own_y0) (z := own_y0) hown (mvT hZ (own_w hw 4 rfl)) (mvT hZ (own_w hw 5 rfl)) (notFace_of_selects (args := #[]) (mvT hZ (own_w hw 7 rfl))) (mvT hZ (own_w hw 7 rfl)) (mvT hZ (own_w hw 6 rfl)) (by decide) (backOf (W := 0) (rm_bn l Z a0 hw [] a_PARALLEL a_INPUT a_RESTRICTION a_ABSTRACTION h0 n0 (Nat.le_trans Z0 K0.1) Sa_INPUT Sa_RESTRICTION Sa_ABSTRACTION) hZ (own_w hw 8 rfl) (own_w hw 2 rfl) (by decide) (by decide)) q42a q42c (g := (mkF m 173 #[iv p1, iv v7, rv a_PARALLEL, iv (0 : Int32)] [(.ref a_PARALLEL)])) rfl (by rw [hml]; rfl) (Steps.refl _) (argsL := []) (rest := []) (lenOf pd___Z_171 rfl) rfl (by show 2 * 0 + _ ≤ _; exact Nat.le_of_eq rfl) (hb hby at_173) (fun _ _ => ⟨rfl, e41, (by decide : 0 + 0 ≤ _), (by decide : 0 + 0 ≤ _)⟩)
                        dsimp only [Pt.U, Pt.locs, Pt.cells, Pt.slots] at X42 l42 y42 z42 st42 hQ42
                        subst l42 y42 z42
                        obtain ⟨rfl, N42q, e42⟩ := hQ42
                        skip
                        have N42 := Fr.app N0 N42q
                        refine own_tr st42 ?_
                        show own_Fin p e below G (T42.setTop (mkF m 176 #[iv p1, iv v7, rv a_PARALLEL, iv (0 : Int32)] [(.int (own_bn a_PARALLEL a_INPUT a_RESTRICTION a_ABSTRACTION))]))
                        refine own_st (fun _ k => XS.iloadN X42.here hx rfl (hb hby at_176) rfl  k) ?_
                        show own_Fin p e below G (T42.setTop (mkF m 177 #[iv p1, iv v7, rv a_PARALLEL, iv (0 : Int32)] [(.int (0 : Int32)), (.int (own_bn a_PARALLEL a_INPUT a_RESTRICTION a_ABSTRACTION))]))
                        refine own_st (fun _ k => XS.icmpNo X42.here hx rfl (hb hby at_177) rfl (teq (by unfold own_bn; rw [if_neg ne_a_PARALLEL_a_INPUT, if_neg ne_a_PARALLEL_a_RESTRICTION, if_neg ne_a_PARALLEL_a_ABSTRACTION])).2 k) ?_
                        show own_Fin p e below G (T42.setTop (mkF m 180 #[iv p1, iv v7, rv a_PARALLEL, iv (0 : Int32)] []))
                        refine own_st (fun _ k => XS.iconst X42.here hx rfl (hb hby at_180) k) ?_
                        show own_Fin p e below G (T42.setTop (mkF m 181 #[iv p1, iv v7, rv a_PARALLEL, iv (0 : Int32)] [(.int (1 : Int32))]))
                        refine own_st (fun _ k => XS.goto X42.here hx rfl (pc0 := 181) (pc' := 185) rfl (hb hby at_181) (by decide) (by decide) k) ?_
                        show own_Fin p e below G (T42.setTop (mkF m 185 #[iv p1, iv v7, rv a_PARALLEL, iv (0 : Int32)] [(.int (1 : Int32))]))
                        refine own_out X42 Bd.notSynchronized (v := (some (.int (1 : Int32)))) (fun h => by rw [Bd.returns] at h; cases h) hG (fun fs hr => retN X42 hx (t := .boolean) Bd.returns (by simp) (hb hby at_185) hr) (by decide) (by decide) ?_
                        exact ⟨rfl, N42⟩

set_option maxRecDepth 65536 in
set_option maxHeartbeats 40000000 in
theorem comes_1 {Post : Tables → Env → Array Value → State → Outcome → State → Prop} (hpost : ∀ tb e args s v u, (limb_1_1.after args s (.returned v) u = true ∧ limb_1_2.after args s (.returned v) u = true ∧ True) → FrameEnd s (.returned v) u (Jvm.fieldLocs frame_1_writes args s ++ Jvm.arrayLocs frame_1_arrays args s ++ Jvm.staticLocs frame_1_statics s) 0 0 → Post tb e args s (.returned v) u) :
    ArmFor flags0 classFile x code maxLocals ret World_1 tables_1 room_1 Calls_1 rest_1 Pre_1 Post := by
  intro l hfl _ _ p e ha hc hk s m args below hf hA hF happ hP
  obtain ⟨hcalls, hrest, hpre⟩ := hP
  obtain ⟨-, -, -, hnamed, -, -, -, hat⟩ := (Spec.applies_iff hf).mp happ
  obtain ⟨hg, hn⟩ := and_e (Cond.before_iff.mp (show (Jvm.Cond.and given_1 narrow_1).before args s = true from hpre))
  obtain ⟨hg0, hh0⟩ := and_e hg
  obtain ⟨w0, rfl⟩ : ∃ w0 : Value, args = #[w0] := by
    have hs : args.size = 1 := by simpa [Cond.value, given_1] using hg0
    obtain ⟨L⟩ := args
    match L, hs with
    | [w0], _ => exact ⟨w0, rfl⟩
  have hw := fun d (hd : d ∈ tables_1) => atoms_spec (ws := Jvm.Cond.code x code maxLocals ret :: tables_1) hat d (List.mem_cons_of_mem _ hd)
  have hfit : Fit s := fun {y c} hc i hi => by
    obtain ⟨ha, rfl⟩ := Array.getElem?_eq_some_iff.mp hc
    have q := List.all_eq_true.mp ((Array.all_eq_true_iff_forall_mem.mp hF) _ (Array.getElem_mem ha)) i (List.mem_range.mpr hi)
    simpa [Array.getElem?_eq_getElem hi] using q
  obtain ⟨i0, ei0⟩ := is_v hh0
  obtain rfl : w0 = (.int i0) := Option.some.inj ei0
  obtain ⟨hn0, hm0⟩ := and_e hn
  obtain ⟨hn1, hm1⟩ := and_e hm0
  obtain ⟨hn2, hm2⟩ := and_e hm1
  obtain ⟨hn3, hm3⟩ := and_e hm2
  obtain ⟨hn4, hm4⟩ := and_e hm3
  obtain ⟨hn5, hm5⟩ := and_e hm4
  obtain ⟨hn6, hm6⟩ := and_e hm5
  obtain ⟨hn7, hm7⟩ := and_e hm6
  obtain ⟨hn8, hm8⟩ := and_e hm7
  obtain ⟨hn9, hm9⟩ := and_e hm8
  obtain ⟨hn10, hm10⟩ := and_e hm9
  obtain ⟨hn11, hm11⟩ := and_e hm10
  obtain ⟨hn12, hm12⟩ := and_e hm11
  obtain ⟨hn13, hm13⟩ := and_e hm12
  obtain ⟨hn14, hm14⟩ := and_e hm13
  obtain ⟨hn15, hm15⟩ := and_e hm14
  obtain ⟨hn16, hm16⟩ := and_e hm15
  obtain ⟨hn17, hm17⟩ := and_e hm16
  obtain ⟨hn18, hm18⟩ := and_e hm17
  obtain ⟨hn19, hm19⟩ := and_e hm18
  obtain ⟨hn20, hm20⟩ := and_e hm19
  obtain ⟨hn21, hm21⟩ := and_e hm20
  obtain ⟨hn22, hm22⟩ := and_e hm21
  obtain ⟨a_NIL, ea_NIL⟩ := exa_v hn0
  have Ea_NIL := Exa.start ea_NIL hn0
  have Sa_NIL := Sta.start ea_NIL (Or.inr ⟨(own_w hw 2 rfl), (own_w hw 3 rfl)⟩)
  obtain ⟨a_INPUT, ea_INPUT⟩ := exa_v hn1
  have Ea_INPUT := Exa.start ea_INPUT hn1
  have Sa_INPUT := Sta.start ea_INPUT (Or.inr ⟨(own_w hw 2 rfl), (own_w hw 10 rfl)⟩)
  obtain ⟨a_RESTRICTION, ea_RESTRICTION⟩ := exa_v hn4
  have Ea_RESTRICTION := Exa.start ea_RESTRICTION hn4
  have Sa_RESTRICTION := Sta.start ea_RESTRICTION (Or.inr ⟨(own_w hw 2 rfl), (own_w hw 12 rfl)⟩)
  obtain ⟨a_ABSTRACTION, ea_ABSTRACTION⟩ := exa_v hn6
  have Ea_ABSTRACTION := Exa.start ea_ABSTRACTION hn6
  have Sa_ABSTRACTION := Sta.start ea_ABSTRACTION (Or.inr ⟨(own_w hw 2 rfl), (own_w hw 14 rfl)⟩)
  obtain ⟨a_OUTPUT, ea_OUTPUT⟩ := exa_v hn8
  have Ea_OUTPUT := Exa.start ea_OUTPUT hn8
  have Sa_OUTPUT := Sta.start ea_OUTPUT (Or.inr ⟨(own_w hw 2 rfl), (own_w hw 17 rfl)⟩)
  obtain ⟨a_REPLICATION, ea_REPLICATION⟩ := exa_v hn10
  have Ea_REPLICATION := Exa.start ea_REPLICATION hn10
  have Sa_REPLICATION := Sta.start ea_REPLICATION (Or.inr ⟨(own_w hw 2 rfl), (own_w hw 19 rfl)⟩)
  obtain ⟨a_PARALLEL, ea_PARALLEL⟩ := exa_v hn12
  have Ea_PARALLEL := Exa.start ea_PARALLEL hn12
  have Sa_PARALLEL := Sta.start ea_PARALLEL (Or.inr ⟨(own_w hw 2 rfl), (own_w hw 21 rfl)⟩)
  obtain ⟨a_SILENT, ea_SILENT⟩ := exa_v hn14
  have Ea_SILENT := Exa.start ea_SILENT hn14
  have Sa_SILENT := Sta.start ea_SILENT (Or.inr ⟨(own_w hw 2 rfl), (own_w hw 23 rfl)⟩)
  obtain ⟨a_RECURSION, ea_RECURSION⟩ := exa_v hn16
  have Ea_RECURSION := Exa.start ea_RECURSION hn16
  have Sa_RECURSION := Sta.start ea_RECURSION (Or.inr ⟨(own_w hw 2 rfl), (own_w hw 25 rfl)⟩)
  obtain ⟨a_VARIABLE, ea_VARIABLE⟩ := exa_v hn18
  have Ea_VARIABLE := Exa.start ea_VARIABLE hn18
  have Sa_VARIABLE := Sta.start ea_VARIABLE (Or.inr ⟨(own_w hw 2 rfl), (own_w hw 27 rfl)⟩)
  obtain ⟨a_SUM, ea_SUM⟩ := exa_v hn20
  have Ea_SUM := Exa.start ea_SUM hn20
  have Sa_SUM := Sta.start ea_SUM (Or.inr ⟨(own_w hw 2 rfl), (own_w hw 29 rfl)⟩)
  obtain ⟨a_MATCH, ea_MATCH⟩ := exa_v hn22
  have Ea_MATCH := Exa.start ea_MATCH hn22
  have Sa_MATCH := Sta.start ea_MATCH (Or.inr ⟨(own_w hw 2 rfl), (own_w hw 32 rfl)⟩)
  have Fa_NIL_ordinal := Fld.start ((fld_at ea_NIL).symm.trans (own_eqI hn2))
  have Fa_INPUT_ordinal := Fld.start ((fld_at ea_INPUT).symm.trans (own_eqI hn3))
  have Fa_RESTRICTION_ordinal := Fld.start ((fld_at ea_RESTRICTION).symm.trans (own_eqI hn5))
  have Fa_ABSTRACTION_ordinal := Fld.start ((fld_at ea_ABSTRACTION).symm.trans (own_eqI hn7))
  have Fa_OUTPUT_ordinal := Fld.start ((fld_at ea_OUTPUT).symm.trans (own_eqI hn9))
  have Fa_REPLICATION_ordinal := Fld.start ((fld_at ea_REPLICATION).symm.trans (own_eqI hn11))
  have Fa_PARALLEL_ordinal := Fld.start ((fld_at ea_PARALLEL).symm.trans (own_eqI hn13))
  have Fa_SILENT_ordinal := Fld.start ((fld_at ea_SILENT).symm.trans (own_eqI hn15))
  have Fa_RECURSION_ordinal := Fld.start ((fld_at ea_RECURSION).symm.trans (own_eqI hn17))
  have Fa_VARIABLE_ordinal := Fld.start ((fld_at ea_VARIABLE).symm.trans (own_eqI hn19))
  have Fa_SUM_ordinal := Fld.start ((fld_at ea_SUM).symm.trans (own_eqI hn21))
  have Fa_MATCH_ordinal := Fld.start ((fld_at ea_MATCH).symm.trans (own_eqI hm22))
  obtain ⟨n, o, h1, h2, h3, _, L, rfl, ⟨rfl, N⟩, hq⟩ := rm0 l s _ hw tables_1 i0 a_NIL a_INPUT a_RESTRICTION a_ABSTRACTION a_OUTPUT a_REPLICATION a_PARALLEL a_SILENT a_RECURSION a_VARIABLE a_SUM a_MATCH s.heap s.heap.size (Nat.le_refl _) Ea_NIL Sa_NIL Ea_INPUT Sa_INPUT Ea_RESTRICTION Sa_RESTRICTION Ea_ABSTRACTION Sa_ABSTRACTION Ea_OUTPUT Sa_OUTPUT Ea_REPLICATION Sa_REPLICATION Ea_PARALLEL Sa_PARALLEL Ea_SILENT Sa_SILENT Ea_RECURSION Sa_RECURSION Ea_VARIABLE Sa_VARIABLE Ea_SUM Sa_SUM Ea_MATCH Sa_MATCH Fa_NIL_ordinal Fa_INPUT_ordinal Fa_RESTRICTION_ordinal Fa_ABSTRACTION_ordinal Fa_OUTPUT_ordinal Fa_REPLICATION_ordinal Fa_PARALLEL_ordinal Fa_SILENT_ordinal Fa_RECURSION_ordinal Fa_VARIABLE_ordinal Fa_SUM_ordinal Fa_MATCH_ordinal p e ha hc hk s m _ below hf ((Spec.applies_iff_loose hf).mp happ).1 ⟨rfl, State.Warmed39.refl s, rfl⟩ trivial
  refine ⟨n, _, h1, h2, h3, hpost _ _ _ _ _ _ ⟨Cond.after_iff.mpr rfl, Cond.after_iff.mpr (eq_i res_at (Term.int_eval (1)) rfl), trivial⟩ ⟨hq.1, hq.2.1, (hq.2.2.sift fun y hy => Or.inr (N y hy)).mono (by decide) (by decide)⟩⟩
theorem main_1_1 : Claimed_1_1 := comes_1 fun _ _ _ _ _ _ h hF => ⟨h.1, hF⟩
theorem main_1_2 : Claimed_1_2 := comes_1 fun _ _ _ _ _ _ h hF => ⟨h.2.1, hF⟩
end Jvm.Pilot.@@N@@
namespace Jvm.Pilot.@@N@@
open Jvm Jvm.ClassFile Sem Op Lib Jvm.Free Jvm.Stand Jvm.Pilot.@@N@@.Jvm.D
/-! MADE BY PROGRAM (witnessworld.py) out of the Statement's table words and the real class files: 12 classes; the members and pool entries that the words name. The judged class is class 1, her method 1. -/
namespace start1
open Jvm.ClassFile
def u (s : String) : CpInfo := .utf8 (stringToUtf16 s)
/-- a pool by its gaps: so many unusable entries, then the entry; so many at the end -/
def gap : Nat → List CpInfo → List CpInfo
  | 0, r => r
  | n + 1, r => .unusable :: gap n r
def poolList (es : List (Nat × CpInfo)) (last : Nat) : List CpInfo := es.foldr (fun e r => gap e.1 (e.2 :: r)) (gap last [])
def pool (es : List (Nat × CpInfo)) (last : Nat) : Array CpInfo := ⟨poolList es last⟩
def fileOf (pool : Array CpInfo) (this : Nat) (attrs : Array Attribute := #[]) (ms : Array MethodInfo := #[]) (fl : Nat := 33) (sup : Nat := 0) (ifs : Array Nat := #[]) (fds : Array FieldInfo := #[]) : ClassFile where
  minorVersion := 0
  majorVersion := 65
  constantPool := pool
  accessFlags := fl
  thisClass := this
  superClass := sup
  interfaces := ifs
  fields := fds
  methods := ms
  attributes := attrs
def plain (name : String) (sup : Option ClassId) : Class where
  name := name
  kind := .ordinary
  loader := none
  accessFlags := 33
  super := sup
  interfaces := #[]
  cf := none
  fields := #[]
  methods := #[]
  instanceTypes := #[]
  staticTypes := #[]
  resolved := #[]
  callSites := []
  init := .initialized
  statics := none
  mirror := none

def pool0 : Array CpInfo := pool [(5, u "<init>"), (0, u "()V"), (1, .class_ 10), (1, u "java/lang/Object")] 113

def k0m0 : Method := { name := "<init>", desc := "()V", sig := { parameters := [], returnType := none }, accessFlags := 1, code := none }
/-- java/lang/Object -/
def k0 : Class := { plain "java/lang/Object" none with
  accessFlags := 33
  interfaces := #[]
  cf := some (fileOf pool0 8 #[] #[{ accessFlags := 1, nameIndex := 5, descriptorIndex := 6, attributes := #[] }] 33 0 #[] #[])
  fields := #[]
  methods := #[k0m0]
  instanceTypes := #[]
  staticTypes := #[]
  resolved := Array.replicate 124 none
  statics := none }

def pool1 : Array CpInfo := pool [(2, .class_ 4), (1, u "java/lang/Object"), (0, u "<init>"), (0, u "()V"), (0, .integer 2147483647), (0, .fieldref 9 10), (0, .class_ 11), (0, .nameAndType 12 13), (0, u "com/example/paired_paths/pairedpaths/verification/NameProcess$Kind"), (0, u "NIL"), (0, u "Lcom/example/paired_paths/pairedpaths/verification/NameProcess$Kind;"), (0, .fieldref 9 15), (0, .nameAndType 16 13), (0, u "VARIABLE"), (0, .fieldref 9 18), (0, .nameAndType 19 13), (0, u "OUTPUT"), (0, .fieldref 9 21), (0, .nameAndType 22 13), (0, u "INPUT"), (0, .fieldref 9 24), (0, .nameAndType 25 13), (0, u "SILENT"), (0, .fieldref 9 27), (0, .nameAndType 28 13), (0, u "RESTRICTION"), (0, .fieldref 9 30), (0, .nameAndType 31 13), (0, u "MATCH"), (0, .fieldref 9 33), (0, .nameAndType 34 13), (0, u "REPLICATION"), (0, .fieldref 9 36), (0, .nameAndType 37 13), (0, u "RECURSION"), (0, .fieldref 9 39), (0, .nameAndType 40 13), (0, u "ABSTRACTION"), (0, .fieldref 9 42), (0, .nameAndType 43 13), (0, u "SUM"), (0, .fieldref 9 45), (0, .nameAndType 46 13), (0, u "PARALLEL"), (0, .methodref 9 48), (0, .nameAndType 49 50), (0, u "bindsName"), (0, u "()Z"), (0, .class_ 52), (0, u "com/example/paired_paths/pairedpaths/verification/KindBindsNamePinLaw"), (2, u "law"), (0, u "(I)Z")] 7

def k1m0 : Method := { name := "<init>", desc := "()V", sig := { parameters := [], returnType := none }, accessFlags := 1, code := none }
def k1c1 : Code := { maxStack := 2, maxLocals := 4, code := code, exceptionTable := #[], attributes := #[] }
def k1m1 : Method := { name := "law", desc := "(I)Z", sig := { parameters := [.int], returnType := some .boolean }, accessFlags := 9, code := some k1c1 }
/-- com/example/paired_paths/pairedpaths/verification/KindBindsNamePinLaw -/
def k1 : Class := { plain "com/example/paired_paths/pairedpaths/verification/KindBindsNamePinLaw" (some 0) with
  accessFlags := 49
  interfaces := #[]
  cf := some (fileOf pool1 51 #[] #[{ accessFlags := 1, nameIndex := 5, descriptorIndex := 6, attributes := #[] }, { accessFlags := 9, nameIndex := 55, descriptorIndex := 56, attributes := #[] }] 49 2 #[] #[])
  fields := #[]
  methods := #[k1m0, k1m1]
  instanceTypes := #[]
  staticTypes := #[]
  resolved := Array.replicate 64 none
  statics := none }

def pool2 : Array CpInfo := pool [(1, .class_ 2), (0, u "java/lang/constant/Constable"), (0, .class_ 4), (0, u "java/lang/Object")] 6

/-- java/lang/constant/Constable -/
def k2 : Class := { plain "java/lang/constant/Constable" (some 0) with
  accessFlags := 1537
  interfaces := #[]
  cf := some (fileOf pool2 1 #[] #[] 1537 3 #[] #[])
  fields := #[]
  methods := #[]
  instanceTypes := #[]
  staticTypes := #[]
  resolved := Array.replicate 11 none
  statics := none }

def pool3 : Array CpInfo := pool [(1, .class_ 2), (0, u "java/lang/Comparable"), (0, .class_ 4), (0, u "java/lang/Object")] 7

/-- java/lang/Comparable -/
def k3 : Class := { plain "java/lang/Comparable" (some 0) with
  accessFlags := 1537
  interfaces := #[]
  cf := some (fileOf pool3 1 #[] #[] 1537 3 #[] #[])
  fields := #[]
  methods := #[]
  instanceTypes := #[]
  staticTypes := #[]
  resolved := Array.replicate 12 none
  statics := none }

def pool4 : Array CpInfo := pool [(1, .class_ 2), (0, u "java/io/Serializable"), (0, .class_ 4), (0, u "java/lang/Object")] 2

/-- java/io/Serializable -/
def k4 : Class := { plain "java/io/Serializable" (some 0) with
  accessFlags := 1537
  interfaces := #[]
  cf := some (fileOf pool4 1 #[] #[] 1537 3 #[] #[])
  fields := #[]
  methods := #[]
  instanceTypes := #[]
  staticTypes := #[]
  resolved := Array.replicate 7 none
  statics := none }

def pool5 : Array CpInfo := pool [(2, .class_ 4), (1, u "java/lang/Enum"), (0, u "name"), (0, u "Ljava/lang/String;"), (2, u "ordinal"), (0, u "I"), (1, .class_ 14), (1, u "java/lang/Object"), (4, u "hash"), (86, .class_ 108), (1, u "java/lang/Enum$EnumDesc"), (2, .class_ 112), (0, u "java/lang/constant/Constable"), (0, .class_ 114), (0, u "java/lang/Comparable"), (0, .class_ 116), (0, u "java/io/Serializable")] 87

/-- java/lang/Enum -/
def k5 : Class := { plain "java/lang/Enum" (some 0) with
  accessFlags := 1057
  interfaces := #[2, 3, 4]
  cf := some (fileOf pool5 2 #[.nestMembers #[106]] #[] 1057 12 #[111, 113, 115] #[{ accessFlags := 18, nameIndex := 5, descriptorIndex := 6, attributes := #[] }, { accessFlags := 18, nameIndex := 9, descriptorIndex := 10, attributes := #[] }, { accessFlags := 2, nameIndex := 19, descriptorIndex := 10, attributes := #[] }])
  fields := #[{ name := "name", type := (.object "java/lang/String"), accessFlags := 18, slot := 0, constantValue := 0 }, { name := "ordinal", type := .int, accessFlags := 18, slot := 1, constantValue := 0 }, { name := "hash", type := .int, accessFlags := 2, slot := 2, constantValue := 0 }]
  methods := #[]
  instanceTypes := #[(.object "java/lang/String"), .int, .int]
  staticTypes := #[]
  resolved := Array.replicate 204 none
  statics := none }

def pool6 : Array CpInfo := pool [(1, .class_ 2), (0, u "com/example/paired_paths/pairedpaths/verification/NameProcess$Kind"), (2, u "NIL"), (0, u "Lcom/example/paired_paths/pairedpaths/verification/NameProcess$Kind;"), (2, u "VARIABLE"), (2, u "OUTPUT"), (0, .fieldref 1 14), (0, .nameAndType 15 6), (0, u "INPUT"), (2, u "SILENT"), (0, .fieldref 1 20), (0, .nameAndType 21 6), (0, u "RESTRICTION"), (2, u "MATCH"), (2, u "REPLICATION"), (2, u "RECURSION"), (0, .fieldref 1 32), (0, .nameAndType 33 6), (0, u "ABSTRACTION"), (2, u "SUM"), (2, u "PARALLEL"), (2, u "$VALUES"), (0, u "[Lcom/example/paired_paths/pairedpaths/verification/NameProcess$Kind;"), (6, .class_ 52), (1, u "java/lang/Enum"), (30, u "bindsName"), (0, u "()Z"), (7, .class_ 93), (0, u "com/example/paired_paths/pairedpaths/verification/NameProcess")] 2

def k6c0 : Code := { maxStack := 2, maxLocals := 1, code := prog_137_method_4_code, exceptionTable := #[], attributes := #[] }
def k6m0 : Method := { name := "bindsName", desc := "()Z", sig := { parameters := [], returnType := some .boolean }, accessFlags := 0, code := some k6c0 }
/-- com/example/paired_paths/pairedpaths/verification/NameProcess$Kind -/
def k6 : Class := { plain "com/example/paired_paths/pairedpaths/verification/NameProcess$Kind" (some 5) with
  accessFlags := 16432
  interfaces := #[]
  cf := some (fileOf pool6 1 #[.nestHost 92] #[{ accessFlags := 0, nameIndex := 83, descriptorIndex := 84, attributes := #[] }] 16432 50 #[] #[{ accessFlags := 16409, nameIndex := 5, descriptorIndex := 6, attributes := #[] }, { accessFlags := 16409, nameIndex := 9, descriptorIndex := 6, attributes := #[] }, { accessFlags := 16409, nameIndex := 12, descriptorIndex := 6, attributes := #[] }, { accessFlags := 16409, nameIndex := 15, descriptorIndex := 6, attributes := #[] }, { accessFlags := 16409, nameIndex := 18, descriptorIndex := 6, attributes := #[] }, { accessFlags := 16409, nameIndex := 21, descriptorIndex := 6, attributes := #[] }, { accessFlags := 16409, nameIndex := 24, descriptorIndex := 6, attributes := #[] }, { accessFlags := 16409, nameIndex := 27, descriptorIndex := 6, attributes := #[] }, { accessFlags := 16409, nameIndex := 30, descriptorIndex := 6, attributes := #[] }, { accessFlags := 16409, nameIndex := 33, descriptorIndex := 6, attributes := #[] }, { accessFlags := 16409, nameIndex := 36, descriptorIndex := 6, attributes := #[] }, { accessFlags := 16409, nameIndex := 39, descriptorIndex := 6, attributes := #[] }, { accessFlags := 4122, nameIndex := 42, descriptorIndex := 43, attributes := #[] }])
  fields := #[{ name := "NIL", type := (.object "com/example/paired_paths/pairedpaths/verification/NameProcess$Kind"), accessFlags := 16409, slot := 0, constantValue := 0 }, { name := "VARIABLE", type := (.object "com/example/paired_paths/pairedpaths/verification/NameProcess$Kind"), accessFlags := 16409, slot := 1, constantValue := 0 }, { name := "OUTPUT", type := (.object "com/example/paired_paths/pairedpaths/verification/NameProcess$Kind"), accessFlags := 16409, slot := 2, constantValue := 0 }, { name := "INPUT", type := (.object "com/example/paired_paths/pairedpaths/verification/NameProcess$Kind"), accessFlags := 16409, slot := 3, constantValue := 0 }, { name := "SILENT", type := (.object "com/example/paired_paths/pairedpaths/verification/NameProcess$Kind"), accessFlags := 16409, slot := 4, constantValue := 0 }, { name := "RESTRICTION", type := (.object "com/example/paired_paths/pairedpaths/verification/NameProcess$Kind"), accessFlags := 16409, slot := 5, constantValue := 0 }, { name := "MATCH", type := (.object "com/example/paired_paths/pairedpaths/verification/NameProcess$Kind"), accessFlags := 16409, slot := 6, constantValue := 0 }, { name := "REPLICATION", type := (.object "com/example/paired_paths/pairedpaths/verification/NameProcess$Kind"), accessFlags := 16409, slot := 7, constantValue := 0 }, { name := "RECURSION", type := (.object "com/example/paired_paths/pairedpaths/verification/NameProcess$Kind"), accessFlags := 16409, slot := 8, constantValue := 0 }, { name := "ABSTRACTION", type := (.object "com/example/paired_paths/pairedpaths/verification/NameProcess$Kind"), accessFlags := 16409, slot := 9, constantValue := 0 }, { name := "SUM", type := (.object "com/example/paired_paths/pairedpaths/verification/NameProcess$Kind"), accessFlags := 16409, slot := 10, constantValue := 0 }, { name := "PARALLEL", type := (.object "com/example/paired_paths/pairedpaths/verification/NameProcess$Kind"), accessFlags := 16409, slot := 11, constantValue := 0 }, { name := "$VALUES", type := (.array (.object "com/example/paired_paths/pairedpaths/verification/NameProcess$Kind")), accessFlags := 4122, slot := 12, constantValue := 0 }]
  methods := #[k6m0]
  instanceTypes := #[(.object "java/lang/String"), .int, .int]
  staticTypes := #[(.object "com/example/paired_paths/pairedpaths/verification/NameProcess$Kind"), (.object "com/example/paired_paths/pairedpaths/verification/NameProcess$Kind"), (.object "com/example/paired_paths/pairedpaths/verification/NameProcess$Kind"), (.object "com/example/paired_paths/pairedpaths/verification/NameProcess$Kind"), (.object "com/example/paired_paths/pairedpaths/verification/NameProcess$Kind"), (.object "com/example/paired_paths/pairedpaths/verification/NameProcess$Kind"), (.object "com/example/paired_paths/pairedpaths/verification/NameProcess$Kind"), (.object "com/example/paired_paths/pairedpaths/verification/NameProcess$Kind"), (.object "com/example/paired_paths/pairedpaths/verification/NameProcess$Kind"), (.object "com/example/paired_paths/pairedpaths/verification/NameProcess$Kind"), (.object "com/example/paired_paths/pairedpaths/verification/NameProcess$Kind"), (.object "com/example/paired_paths/pairedpaths/verification/NameProcess$Kind"), (.array (.object "com/example/paired_paths/pairedpaths/verification/NameProcess$Kind"))]
  resolved := Array.replicate 96 none
  statics := some 0 }

def pool7 : Array CpInfo := pool [(1, u "java/lang/Cloneable"), (0, .class_ 1), (0, u "java/lang/Object"), (0, .class_ 3)] 3

/-- java/lang/Cloneable -/
def k7 : Class := { plain "java/lang/Cloneable" (some 0) with
  accessFlags := 1537
  interfaces := #[]
  cf := some (fileOf pool7 2 #[] #[] 1537 4 #[] #[])
  fields := #[]
  methods := #[]
  instanceTypes := #[]
  staticTypes := #[]
  resolved := Array.replicate 8 none
  statics := none }

/-- the primitive byte -/
def k8 : Class := { plain "byte" none with kind := .primitive 'B', accessFlags := 0x411 }
/-- [B -/
def k9 : Class := { plain "[B" (some 0) with kind := .array 8 .byte, interfaces := #[7, 4], accessFlags := 1041 }

/-- the primitive int -/
def k10 : Class := { plain "int" none with kind := .primitive 'I', accessFlags := 0x411 }
/-- [I -/
def k11 : Class := { plain "[I" (some 0) with kind := .array 10 .int, interfaces := #[7, 4], accessFlags := 1041 }

def heap : Heap := #[{ cls := 6, slots := #[.ref 1, .ref 10, .ref 5, .ref 2, .ref 8, .ref 3, .ref 12, .ref 6, .ref 9, .ref 4, .ref 11, .ref 7, .null], vm := .statics 6 },
  { cls := 6, slots := #[.null, .int 0, .int 0], vm := .none },
  { cls := 6, slots := #[.null, .int 3, .int 0], vm := .none },
  { cls := 6, slots := #[.null, .int 5, .int 0], vm := .none },
  { cls := 6, slots := #[.null, .int 9, .int 0], vm := .none },
  { cls := 6, slots := #[.null, .int 2, .int 0], vm := .none },
  { cls := 6, slots := #[.null, .int 7, .int 0], vm := .none },
  { cls := 6, slots := #[.null, .int 11, .int 0], vm := .none },
  { cls := 6, slots := #[.null, .int 4, .int 0], vm := .none },
  { cls := 6, slots := #[.null, .int 8, .int 0], vm := .none },
  { cls := 6, slots := #[.null, .int 1, .int 0], vm := .none },
  { cls := 6, slots := #[.null, .int 10, .int 0], vm := .none },
  { cls := 6, slots := #[.null, .int 6, .int 0], vm := .none }]
def classes : Array Class := #[k0, k1, k2, k3, k4, k5, k6, k7, k8, k9, k10, k11]
def interned : List (Array UInt16 × Addr) := []
def slotsUsed : Nat := 49
def theMethod : MethodId := ⟨1, 1⟩
def args0 : Array Value := #[.int 5]
def aboutOver (below : List Frame) : State where
  vm := { classes := classes, interned := interned.toArray }
  heap := heap
  slotsUsed := slotsUsed
  threads := #[{ frames := .invoking theMethod args0 :: below }]
def below0 : List Frame := [.native { method := ⟨0, 0⟩, args := #[] }]
def about1 : State := aboutOver below0
def p0 : Program := .bare "" "" ""
def e0 : Env := launch0.env 0 0 0
theorem w_frames : about1.frames = Frame.invoking theMethod args0 :: below0 := rfl
set_option maxRecDepth 65536 in
theorem w_args : argsFit about1.vm theMethod args0 = true := by decide +kernel
set_option maxRecDepth 65536 in
theorem w_heap : heapFits about1 = true := by decide +kernel
set_option maxRecDepth 65536 in
theorem w_runnable : about1.curStatus? = some .runnable := by decide +kernel
set_option maxRecDepth 65536 in
theorem w_alone : about1.alone = true := by decide +kernel
set_option maxRecDepth 65536 in
theorem w_named : about1.methodNamed? x = some theMethod := by decide +kernel
set_option maxRecDepth 65536 in
theorem w_hears : about1.hears theMethod below0 = true := by decide +kernel
set_option maxRecDepth 65536 in
theorem w_ripe : about1.ripe theMethod args0 below0 = true := by decide +kernel
theorem w_running : about1.status = .running := rfl
set_option maxRecDepth 65536 in
theorem w_room : about1.hasRoom e0.platform room_1 = true :=
  launch0.hasRoom_least _ room_1 (by decide +kernel) (by decide +kernel) (by decide +kernel) (by decide +kernel) (by decide +kernel) (by decide +kernel)
theorem allAtoms_all (ts : List Jvm.Cond) (a : Array Jvm.Value) (st : Jvm.State) : (allAtoms ts).before a st = ts.all (fun c => c.before a st) := by
  induction ts with
  | nil => rfl
  | cons c t ih =>
    show (Jvm.Cond.and c (allAtoms t)).before a st = _
    rw [Jvm.Cond.before_and, ih, List.all_cons]
def words1 : List Jvm.Cond := Jvm.Cond.code x code maxLocals ret :: tables_1
/-- a 'code' word, met by the world's own term for the bytes: nothing is compared byte by byte -/
theorem code_word {y : MethodName} {bytes : ByteArray} {mx : Nat} {rt : Option FieldType} {a : Array Value} {s : State} {m : MethodId} {meth : Method} {c : Code} (h1 : s.methodNamed? y = some m) (h2 : s.vm.method? m = some meth) (h3 : meth.code = some c) (h4 : c.code = bytes)
    (h5 : (c.maxLocals == mx && c.exceptionTable.isEmpty && decide (c.maxStack ≤ mostOperands) && decide (meth.sig.returnType = rt) && !meth.locks && decide (parseMethodDescriptor y.desc = some meth.sig)) = true) : (Jvm.Cond.code y bytes mx rt).before a s = true := by
  simp only [Bool.and_eq_true, beq_iff_eq, Bool.not_eq_true', decide_eq_true_eq] at h5
  obtain ⟨⟨⟨⟨⟨g1, g2⟩, g3⟩, g4⟩, g5⟩, g6⟩ := h5
  simp [Cond.before, Cond.holds, Cond.value, h1, h2, h3, h4, g1, g2, g3, g4, g5, g6]
def isCode : Jvm.Cond → Bool
  | .code _ _ _ _ => true
  | _ => false
theorem all_split {L : List Jvm.Cond} {P : Jvm.Cond → Bool} (h1 : L.all (fun c => isCode c || P c) = true) (h2 : ∀ c ∈ L.filter isCode, P c = true) : L.all P = true := by
  refine List.all_eq_true.mpr fun c hc => ?_
  have h := List.all_eq_true.mp h1 c hc
  rcases Bool.eq_false_or_eq_true (isCode c) with hi | hi
  · exact h2 c (List.mem_filter.mpr ⟨hc, hi⟩)
  · simpa [hi] using h
set_option maxRecDepth 65536 in
theorem w_c0 : (Jvm.Cond.code x code maxLocals ret).before args0 about1 = true := code_word (m := ⟨1, 1⟩) (meth := k1m1) (c := k1c1) (by decide +kernel) rfl rfl rfl (by decide +kernel)
set_option maxRecDepth 65536 in
theorem w_c1 : (Jvm.Cond.code ({ cls := "com/example/paired_paths/pairedpaths/verification/NameProcess$Kind", name := "bindsName", desc := "()Z" } : Jvm.MethodName) prog_137_method_4_code (1 : Nat) (Option.some Jvm.ClassFile.FieldType.boolean)).before args0 about1 = true := code_word (m := ⟨6, 0⟩) (meth := k6m0) (c := k6c0) (by decide +kernel) rfl rfl rfl (by decide +kernel)
def codes1 : List Jvm.Cond := [Jvm.Cond.code x code maxLocals ret, Jvm.Cond.code ({ cls := "com/example/paired_paths/pairedpaths/verification/NameProcess$Kind", name := "bindsName", desc := "()Z" } : Jvm.MethodName) prog_137_method_4_code (1 : Nat) (Option.some Jvm.ClassFile.FieldType.boolean)]
set_option maxRecDepth 65536 in
theorem codes_eq : words1.filter isCode = codes1 := rfl
theorem w_codes : ∀ c ∈ words1.filter isCode, c.before args0 about1 = true := by
  rw [codes_eq]
  intro c hc
  simp only [codes1, List.mem_cons, List.not_mem_nil, or_false] at hc
  rcases hc with rfl | rfl
  · exact w_c0
  · exact w_c1
set_option maxRecDepth 65536 in
theorem w_t1 : (words1.take 24).all (fun c => isCode c || c.before args0 about1) = true := by decide +kernel
set_option maxRecDepth 65536 in
theorem w_t2 : (words1.drop 24).all (fun c => isCode c || c.before args0 about1) = true := by decide +kernel
theorem w_tables : (allAtoms (Jvm.Cond.code x code maxLocals ret :: tables_1)).before args0 about1 = true := by
  rw [allAtoms_all]
  show words1.all (fun c => c.before args0 about1) = true
  refine all_split ?_ w_codes
  rw [← List.take_append_drop 24 words1, List.all_append, w_t1, w_t2]
  rfl
set_option maxRecDepth 65536 in
theorem w_case : (Jvm.Cond.and given_1 narrow_1).before args0 about1 = true := by decide +kernel
theorem w_applies : (headSpec (Jvm.Cond.code x code maxLocals ret :: tables_1) room_1).applies x e0.platform about1 = true :=
  (Spec.applies_iff w_frames).mpr ⟨w_running, w_runnable, w_alone, w_named, w_hears, w_ripe, w_room, w_tables⟩
theorem atStart : AtStart classFile x code maxLocals ret World_1 tables_1 room_1 Calls_1 rest_1 Pre_1 launch0 p0 e0 about1 theMethod args0 below0 :=
  ⟨lists_1, trivial, launch0.admits_env _ _ _, launch0.least_env, fairChoices_fair.cas, fairChoices_fair.clock, w_frames, w_args, w_heap, w_applies, trivial, trivial, w_case⟩
end start1
theorem witness_1 : WitnessClaimed_1 := ⟨start1.p0, start1.e0, start1.about1, start1.theMethod, start1.args0, start1.below0, start1.atStart⟩
end Jvm.Pilot.@@N@@
