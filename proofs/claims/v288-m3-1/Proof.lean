import JvmDerived
import JvmDerived.Pilot.@@N@@Statement
import JvmDerived.Pilot.@@N@@Code
set_option linter.unusedVariables false
set_option linter.unusedSimpArgs false
namespace Jvm.Pilot.@@N@@
open Jvm Jvm.ClassFile Sem Op Lib Jvm.Free Jvm.Stand Jvm.LawKit Jvm.RoadKit Bundle Jvm.Pilot.@@N@@.Jvm.D

theorem own_w {Z : State} {a0 : Array Value} (hw : ∀ d ∈ tables_1, d.before a0 Z = true) (i : Nat) {d : Jvm.Cond} (h : tables_1[i]? = some d) : d.before a0 Z = true := hw d (List.mem_of_getElem? h)
def own_Fin (p : Program) (e : Env) (below : List Frame) (G : Outcome → State → Prop) (st : State) : Prop := ∃ t o, Steps p.tables e below st t ∧ t.status = .running ∧ Ended t below o ∧ G o t
section OwnKit
variable {p : Program} {l : Launch} {e : Env} {R : Room} {s : State} {m : MethodId} {args : Array Value} {below : List Frame} {meth : Method} {c : Code} {T : State} {locs : List Loc} {cells slots : Nat} {Z : State} {a0 : Array Value} {h h' : Heap} {G : Outcome → State → Prop} {st st' : State} {Qk : Option Value → Heap → List Loc → Prop} {K N : Nat} {a b : Addr} {ty : FieldType} {vs : List Value} {ws : List Addr} {sl : Nat} {v : Value}
theorem own_st (k : ∀ target, Steps p.tables e below st' target → Steps p.tables e below st target) (q : own_Fin p e below G st') : own_Fin p e below G st := by
  obtain ⟨t, o, h1, h2⟩ := q; exact ⟨t, o, k t h1, h2⟩
theorem own_tr (k : Steps p.tables e below st st') (q : own_Fin p e below G st') : own_Fin p e below G st := by
  obtain ⟨t, o, h1, h2⟩ := q; exact ⟨t, o, k.trans h1, h2⟩
theorem own_start (q : ∀ G : Outcome → State → Prop, (∀ v L t, Qk v t.heap L → FrameEnd s (.returned v) t L K N → G (.returned v) t) → own_Fin p e below G st) : ∃ s₂ o, Steps p.tables e below st s₂ ∧ s₂.status = .running ∧ Ended s₂ below o ∧ ∃ v L, o = .returned v ∧ Qk v s₂.heap L ∧ FrameEnd s o s₂ L K N :=
  q _ (fun v L t q f => ⟨v, L, rfl, q, f⟩)
theorem own_out (X : Stand p l e R s m args below meth c T locs cells slots) (hlocks : meth.locks = false) {v : Option Value} (hv : meth.sig.returnType = none → v = none) (hG : ∀ v L t, Qk v t.heap L → FrameEnd s (.returned v) t L K N → G (.returned v) t)
    (hstep : ∀ fs, (∀ (f : JFrame) (acts : List Action), f.method = m → f.locked = none → f.entered = [] → (doReturn e (T.setTop f) acts v).1 = T.setFrames fs) → Steps p.tables e below st (T.setFrames fs)) (hc : cells ≤ K) (hn : slots ≤ N) (hQ : Qk v T.heap locs) : own_Fin p e below G st := by
  obtain ⟨fs, hr, hrun, hended, hW, hsame⟩ := X.leave hv hlocks
  exact ⟨_, _, hstep fs hr, hrun, hended, hG _ _ _ hQ ⟨⟨_, rfl⟩, hW, hsame.mono hc hn⟩⟩
theorem own_ldc (X : Stand p l e R s m args below meth c T locs cells slots) (hx : p.tables.exec = Jvm.exec) (hZ : Z.Warmed39 s.vm) {own : String} {index : Nat} {v : Int32} (hown : s.vm.findClass own = some m.cls) (w : (Cond.constant own index v).before a0 Z = true) {g : JFrame} (hg : g.method = m) (hd : decode c.code g.pc = .ok (.ldc index, 2)) {target : State}
    (kk : Steps p.tables e below (T.setTop { g with pc := g.pc + 2, stack := .int v :: g.stack }) target) : Steps p.tables e below (T.setTop g) target := X.ldcInt hx hown (mvT hZ w) hg hd target kk
theorem own_ldcJ (X : Stand p l e R s m args below meth c T locs cells slots) (hx : p.tables.exec = Jvm.exec) (hZ : Z.Warmed39 s.vm) {own : String} {index : Nat} {v : Int64} (hown : s.vm.findClass own = some m.cls) (w : (Cond.constantLong own index v).before a0 Z = true) {g : JFrame} (hg : g.method = m) (hd : decode c.code g.pc = .ok (.ldc2_w index, 3)) {target : State}
    (kk : Steps p.tables e below (T.setTop { g with pc := g.pc + 3, stack := .long v :: g.stack }) target) : Steps p.tables e below (T.setTop g) target := X.ldc2Long hx hown (mvT hZ w) hg hd target kk
theorem own_ldcF (X : Stand p l e R s m args below meth c T locs cells slots) (hx : p.tables.exec = Jvm.exec) (hZ : Z.Warmed39 s.vm) {own : String} {index : Nat} {v : UInt32} (hown : s.vm.findClass own = some m.cls) (w : (Cond.constantFloat own index v).before a0 Z = true) {g : JFrame} (hg : g.method = m) (hd : decode c.code g.pc = .ok (.ldc index, 2)) {target : State}
    (kk : Steps p.tables e below (T.setTop { g with pc := g.pc + 2, stack := .float v :: g.stack }) target) : Steps p.tables e below (T.setTop g) target := X.ldcFloatC hx hown (mvT hZ w) hg hd target kk
def own_AV (Z : State) (h : Heap) (a : Addr) (ty : FieldType) (vs : List Value) : Prop := ∃ c : Cell, Arr Z h a c ty ∧ c.slots.toList = vs
def own_is (xs : List Int32) : List Value := xs.map Value.int
def own_js (xs : List Int64) : List Value := xs.map Value.long
theorem own_AV.lt (A : own_AV Z h a ty vs) : a < h.size := by obtain ⟨c, A, -⟩ := A; exact A.lt
theorem own_AV.ext (A : own_AV Z h a ty vs) (E : Ext h h') : own_AV Z h' a ty vs := by obtain ⟨c, A, r⟩ := A; exact ⟨c, A.ext E, r⟩
theorem own_AV.other (A : own_AV Z h b ty vs) (W : Wr h h' a sl v) (q : b ≠ a) : own_AV Z h' b ty vs := by obtain ⟨c, A, r⟩ := A; exact ⟨c, A.other W q, r⟩
theorem own_AV.keep (A : own_AV Z h a ty vs) (K : Keep h h' ws) (q : a ∉ ws) : own_AV Z h' a ty vs := by obtain ⟨c, A, r⟩ := A; exact ⟨c, ⟨K.2.1 a c A.1 q, A.2⟩, r⟩
theorem own_AV_new {k : ClassId} {z : Int32} (A : Arr Z h a (newA k ty z) ty) : own_AV Z h a ty (List.replicate z.toNatClampNeg (defaultValue ty)) := ⟨_, A, by simp [newA]⟩
theorem own_AV_newI {k : ClassId} {z : Int32} (A : Arr Z h a (newA k .int z) .int) : own_AV Z h a .int (own_is (List.replicate z.toNatClampNeg 0)) := ⟨_, A, by simp [newA, own_is, defaultValue]⟩
theorem own_AV_newJ {k : ClassId} {z : Int32} (A : Arr Z h a (newA k .long z) .long) : own_AV Z h a .long (own_js (List.replicate z.toNatClampNeg 0)) := ⟨_, A, by simp [newA, own_js, defaultValue]⟩
theorem own_in {c : Cell} {n : Nat} {j : Int32} (r : c.slots.toList = vs) (hn : vs.length = n) (hj : ¬ (j < 0 ∨ n ≤ j.toNatClampNeg)) : ¬ (j < 0 ∨ c.slots.size ≤ j.toNatClampNeg) := by
  rw [← Array.length_toList, r, hn]; exact hj
theorem own_nat {n : Nat} {j : Int32} (hj : ¬ (j < 0 ∨ n ≤ j.toNatClampNeg)) : j.toNatClampNeg < n := Nat.lt_of_not_le fun q => hj (Or.inr q)
theorem own_ldI (X : Stand p l e R s m args below meth c T locs cells slots) (hx : p.tables.exec = Jvm.exec) (hZ : Z.Warmed39 s.vm) (eT : T.heap = h) {xs : List Int32} (A : own_AV Z h a .int (own_is xs)) {j : Int32} {n : Nat} (hn : xs.length = n) (hj : ¬ (j < 0 ∨ n ≤ j.toNatClampNeg))
    {g : JFrame} (hg : g.method = m) {rest : List Value} (hs : g.stack = .int j :: .ref a :: rest) (hd : decode c.code g.pc = .ok (.iaload, 1)) {target : State} (kk : Steps p.tables e below (T.setTop { g with pc := g.pc + 1, stack := .int (xs.getD j.toNatClampNeg 0) :: rest }) target) : Steps p.tables e below (T.setTop g) target := by
  obtain ⟨cl, A, r⟩ := A
  have hlt := own_nat hj
  refine X.iaload hx (by rw [eT]; exact A.1) (State.isArrayOf_alike hZ.alike A.2.1) A.2.2 (own_in r (by simp [own_is, hn]) hj) ?_ hg hs hd _ kk
  rw [← Array.getElem?_toList, r]
  simp [own_is, List.getD_eq_getElem?_getD, List.getElem?_eq_getElem (hn ▸ hlt)]
theorem own_ldJ (X : Stand p l e R s m args below meth c T locs cells slots) (hx : p.tables.exec = Jvm.exec) (hZ : Z.Warmed39 s.vm) (eT : T.heap = h) {xs : List Int64} (A : own_AV Z h a .long (own_js xs)) {j : Int32} {n : Nat} (hn : xs.length = n) (hj : ¬ (j < 0 ∨ n ≤ j.toNatClampNeg))
    {g : JFrame} (hg : g.method = m) {rest : List Value} (hs : g.stack = .int j :: .ref a :: rest) (hd : decode c.code g.pc = .ok (.laload, 1)) {target : State} (kk : Steps p.tables e below (T.setTop { g with pc := g.pc + 1, stack := .long (xs.getD j.toNatClampNeg 0) :: rest }) target) : Steps p.tables e below (T.setTop g) target := by
  obtain ⟨cl, A, r⟩ := A
  have hlt := own_nat hj
  refine X.laload hx (by rw [eT]; exact A.1) (State.isArrayOf_alike hZ.alike A.2.1) A.2.2 (own_in r (by simp [own_js, hn]) hj) ?_ hg hs hd _ kk
  rw [← Array.getElem?_toList, r]
  simp [own_js, List.getD_eq_getElem?_getD, List.getElem?_eq_getElem (hn ▸ hlt)]
theorem own_set {cl : Cell} {j : Nat} (A : Arr Z h a cl ty) (r : cl.slots.toList = vs) (W : Wr h h' a j v) : own_AV Z h' a ty (vs.set j v) := ⟨_, A.same W, by simp [Cell.setSlot, ← r]⟩
theorem own_stI (X : Stand p l e R s m args below meth c T locs cells slots) (hx : p.tables.exec = Jvm.exec) (hZ : Z.Warmed39 s.vm) (eT : T.heap = h) {xs : List Int32} (A : own_AV Z h a .int (own_is xs)) {j x : Int32} {n : Nat} (hn : xs.length = n) (hj : ¬ (j < 0 ∨ n ≤ j.toNatClampNeg))
    {g : JFrame} (hg : g.method = m) {rest : List Value} (hs : g.stack = .int x :: .int j :: .ref a :: rest) (hd : decode c.code g.pc = .ok (.iastore, 1)) :
    ∃ T' h', Stand p l e R s m args below meth c T' (locs ++ [⟨a, j.toNatClampNeg⟩]) cells slots ∧ T'.heap = h' ∧ Wr h h' a j.toNatClampNeg (.int x) ∧ own_AV Z h' a .int (own_is (xs.set j.toNatClampNeg x)) ∧ ∀ target, Steps p.tables e below (T'.setTop { g with pc := g.pc + 1, stack := rest }) target → Steps p.tables e below (T.setTop g) target := by
  obtain ⟨cl, A, r⟩ := A
  obtain ⟨T', h', X', e', W, st⟩ := stI X hx hZ eT A (own_in r (by simp [own_is, hn]) hj) hg hs hd
  exact ⟨T', h', X', e', W, by have q := own_set A r W; simpa [own_is, List.map_set] using q, st⟩
theorem own_stJ (X : Stand p l e R s m args below meth c T locs cells slots) (hx : p.tables.exec = Jvm.exec) (hZ : Z.Warmed39 s.vm) (eT : T.heap = h) {xs : List Int64} (A : own_AV Z h a .long (own_js xs)) {j : Int32} {x : Int64} {n : Nat} (hn : xs.length = n) (hj : ¬ (j < 0 ∨ n ≤ j.toNatClampNeg))
    {g : JFrame} (hg : g.method = m) {rest : List Value} (hs : g.stack = .long x :: .int j :: .ref a :: rest) (hd : decode c.code g.pc = .ok (.lastore, 1)) :
    ∃ T' h', Stand p l e R s m args below meth c T' (locs ++ [⟨a, j.toNatClampNeg⟩]) cells slots ∧ T'.heap = h' ∧ Wr h h' a j.toNatClampNeg (.long x) ∧ own_AV Z h' a .long (own_js (xs.set j.toNatClampNeg x)) ∧ ∀ target, Steps p.tables e below (T'.setTop { g with pc := g.pc + 1, stack := rest }) target → Steps p.tables e below (T.setTop g) target := by
  obtain ⟨cl, A, r⟩ := A
  obtain ⟨T', h', X', e', W, st⟩ := stJ X hx hZ eT A (own_in r (by simp [own_js, hn]) hj) hg hs hd
  exact ⟨T', h', X', e', W, by have q := own_set A r W; simpa [own_js, List.map_set] using q, st⟩
theorem own_len (X : Stand p l e R s m args below meth c T locs cells slots) (hx : p.tables.exec = Jvm.exec) (hZ : Z.Warmed39 s.vm) (eT : T.heap = h) (A : own_AV Z h a ty vs) {z : Int32} (hz : vs.length.toInt32 = z)
    {g : JFrame} (hg : g.method = m) {rest : List Value} (hs : g.stack = .ref a :: rest) (hd : decode c.code g.pc = .ok (.arraylength, 1)) {target : State} (kk : Steps p.tables e below (T.setTop { g with pc := g.pc + 1, stack := .int z :: rest }) target) : Steps p.tables e below (T.setTop g) target := by
  obtain ⟨cl, A, r⟩ := A
  refine X.arraylength hx (by rw [eT]; exact A.1) (State.isArrayOf_alike hZ.alike A.2.1) hg hs hd target ?_
  rw [← Array.length_toList, r, hz]; exact kk
def own_ds (xs : List UInt64) : List Value := xs.map Value.double
theorem own_AV_newD {k : ClassId} {z : Int32} (A : Arr Z h a (newA k .double z) .double) : own_AV Z h a .double (own_ds (List.replicate z.toNatClampNeg 0)) := ⟨_, A, by simp [newA, own_ds, defaultValue]⟩
theorem own_stD (X : Stand p l e R s m args below meth c T locs cells slots) (hx : p.tables.exec = Jvm.exec) (hZ : Z.Warmed39 s.vm) (eT : T.heap = h) {xs : List UInt64} (A : own_AV Z h a .double (own_ds xs)) {j : Int32} {x : UInt64} {n : Nat} (hn : xs.length = n) (hj : ¬ (j < 0 ∨ n ≤ j.toNatClampNeg))
    {g : JFrame} (hg : g.method = m) {rest : List Value} (hs : g.stack = .double x :: .int j :: .ref a :: rest) (hd : decode c.code g.pc = .ok (.dastore, 1)) :
    ∃ T' h', Stand p l e R s m args below meth c T' (locs ++ [⟨a, j.toNatClampNeg⟩]) cells slots ∧ T'.heap = h' ∧ Wr h h' a j.toNatClampNeg (.double x) ∧ own_AV Z h' a .double (own_ds (xs.set j.toNatClampNeg x)) ∧ ∀ target, Steps p.tables e below (T'.setTop { g with pc := g.pc + 1, stack := rest }) target → Steps p.tables e below (T.setTop g) target := by
  obtain ⟨cl, A, r⟩ := A
  obtain ⟨T', h', X', e', W, st⟩ := stD X hx hZ eT A (own_in r (by simp [own_ds, hn]) hj) hg hs hd
  exact ⟨T', h', X', e', W, by have q := own_set A r W; simpa [own_ds, List.map_set] using q, st⟩
theorem own_ldD (X : Stand p l e R s m args below meth c T locs cells slots) (hx : p.tables.exec = Jvm.exec) (hZ : Z.Warmed39 s.vm) (eT : T.heap = h) {xs : List UInt64} (A : own_AV Z h a .double (own_ds xs)) {j : Int32} {n : Nat} (hn : xs.length = n) (hj : ¬ (j < 0 ∨ n ≤ j.toNatClampNeg))
    {g : JFrame} (hg : g.method = m) {rest : List Value} (hs : g.stack = .int j :: .ref a :: rest) (hd : decode c.code g.pc = .ok (.daload, 1)) {target : State} (kk : Steps p.tables e below (T.setTop { g with pc := g.pc + 1, stack := .double (xs.getD j.toNatClampNeg 0) :: rest }) target) : Steps p.tables e below (T.setTop g) target := by
  obtain ⟨cl, A, r⟩ := A
  have hlt := own_nat hj
  refine X.daload hx (by rw [eT]; exact A.1) (State.isArrayOf_alike hZ.alike A.2.1) A.2.2 (own_in r (by simp [own_ds, hn]) hj) ?_ hg hs hd _ kk
  rw [← Array.getElem?_toList, r]
  simp [own_ds, List.getD_eq_getElem?_getD, List.getElem?_eq_getElem (hn ▸ hlt)]
def own_AVk (Z : State) (h : Heap) (a : Addr) (k : ClassId) (ty : FieldType) (vs : List Value) : Prop := ∃ c : Cell, Arr Z h a c ty ∧ c.cls = k ∧ c.slots.toList = vs
variable {k : ClassId}
theorem own_AVk.lt (A : own_AVk Z h a k ty vs) : a < h.size := by obtain ⟨c, A, -⟩ := A; exact A.lt
theorem own_AVk.ext (A : own_AVk Z h a k ty vs) (E : Ext h h') : own_AVk Z h' a k ty vs := by obtain ⟨c, A, r⟩ := A; exact ⟨c, A.ext E, r⟩
theorem own_AVk.other (A : own_AVk Z h b k ty vs) (W : Wr h h' a sl v) (q : b ≠ a) : own_AVk Z h' b k ty vs := by obtain ⟨c, A, r⟩ := A; exact ⟨c, A.other W q, r⟩
theorem own_AVk.keep (A : own_AVk Z h a k ty vs) (K : Keep h h' ws) (q : a ∉ ws) : own_AVk Z h' a k ty vs := by obtain ⟨c, A, r⟩ := A; exact ⟨c, ⟨K.2.1 a c A.1 q, A.2⟩, r⟩
theorem own_AVk.av (A : own_AVk Z h a k ty vs) : own_AV Z h a ty vs := by obtain ⟨c, A, -, r⟩ := A; exact ⟨c, A, r⟩
theorem own_AVk_new {z : Int32} (A : Arr Z h a (newA k ty z) ty) : own_AVk Z h a k ty (List.replicate z.toNatClampNeg (defaultValue ty)) := ⟨_, A, rfl, by simp [newA]⟩
theorem own_stR (X : Stand p l e R s m args below meth c T locs cells slots) (hx : p.tables.exec = Jvm.exec) (hZ : Z.Warmed39 s.vm) (eT : T.heap = h) (A : own_AVk Z h a k ty vs) {j : Int32} {n : Nat} (hn : vs.length = n) (hj : ¬ (j < 0 ∨ n ≤ j.toNatClampNeg)) (hty : ty.isReference = true)
    (F : ∀ {c : Cell}, Arr Z h a c ty → c.cls = k → Sto Z h a v) {g : JFrame} (hg : g.method = m) {rest : List Value} (hs : g.stack = v :: .int j :: .ref a :: rest) (hd : decode c.code g.pc = .ok (.aastore, 1)) :
    ∃ T' h', Stand p l e R s m args below meth c T' (locs ++ [⟨a, j.toNatClampNeg⟩]) cells slots ∧ T'.heap = h' ∧ Wr h h' a j.toNatClampNeg v ∧ own_AVk Z h' a k ty (vs.set j.toNatClampNeg v) ∧ ∀ target, Steps p.tables e below (T'.setTop { g with pc := g.pc + 1, stack := rest }) target → Steps p.tables e below (T.setTop g) target := by
  obtain ⟨cl, A, q, r⟩ := A
  obtain ⟨T', h', X', e', W, st⟩ := stR X hx hZ eT A (own_in r hn hj) hty (F A q) hg hs hd
  exact ⟨T', h', X', e', W, ⟨_, A.same W, q, by simp [Cell.setSlot, ← r]⟩, st⟩
theorem own_ldR (X : Stand p l e R s m args below meth c T locs cells slots) (hx : p.tables.exec = Jvm.exec) (hZ : Z.Warmed39 s.vm) (eT : T.heap = h) (A : own_AVk Z h a k ty vs) {j : Int32} {n : Nat} (hn : vs.length = n) (hj : ¬ (j < 0 ∨ n ≤ j.toNatClampNeg)) (hty : ty.isReference = true) (hv : vs[j.toNatClampNeg]? = some v)
    {g : JFrame} (hg : g.method = m) {rest : List Value} (hs : g.stack = .int j :: .ref a :: rest) (hd : decode c.code g.pc = .ok (.aaload, 1)) {target : State} (kk : Steps p.tables e below (T.setTop { g with pc := g.pc + 1, stack := v :: rest }) target) : Steps p.tables e below (T.setTop g) target := by
  obtain ⟨cl, A, -, r⟩ := A
  exact X.aaload hx (by rw [eT]; exact A.1) (State.isArrayOf_alike hZ.alike A.2.1) hty A.2.2 (own_in r hn hj) (by rw [← Array.getElem?_toList, r]; exact hv) hg hs hd _ kk
theorem own_ldB (X : Stand p l e R s m args below meth c T locs cells slots) (hx : p.tables.exec = Jvm.exec) (hZ : Z.Warmed39 s.vm) (eT : T.heap = h) {xs : List Int32} (A : own_AV Z h a .byte (own_is xs)) {j : Int32} {n : Nat} (hn : xs.length = n) (hj : ¬ (j < 0 ∨ n ≤ j.toNatClampNeg))
    {g : JFrame} (hg : g.method = m) {rest : List Value} (hs : g.stack = .int j :: .ref a :: rest) (hd : decode c.code g.pc = .ok (.baload, 1)) {target : State} (kk : Steps p.tables e below (T.setTop { g with pc := g.pc + 1, stack := .int (xs.getD j.toNatClampNeg 0) :: rest }) target) : Steps p.tables e below (T.setTop g) target := by
  obtain ⟨cl, A, r⟩ := A
  have hlt := own_nat hj
  refine X.baloadBytes hx (by rw [eT]; exact A.1) (State.isArrayOf_alike hZ.alike A.2.1) A.2.2 (own_in r (by simp [own_is, hn]) hj) ?_ hg hs hd _ kk
  rw [← Array.getElem?_toList, r]
  simp [own_is, List.getD_eq_getElem?_getD, List.getElem?_eq_getElem (hn ▸ hlt)]
theorem own_eqI {args : Array Value} {s : State} {t : Term} {n : Int32} (q : (Jvm.Cond.eq t (Term.int n)).value args s none s [] = some true) : t.eval args s none [] s = some (.int n) := by
  obtain ⟨x, y, h1, h2, h3, h4⟩ := cmp_v (Or.inl q)
  cases h2.symm.trans (Term.int_eval n)
  obtain ⟨z, rfl⟩ := h4
  simp only [Cond.value, h1, h2] at q
  simpa [h1] using q
theorem own_AV.cell (A : own_AV Z h a ty vs) : ∃ c : Cell, h[a]? = some c ∧ ∀ q, c.vm ≠ .statics q := by obtain ⟨c, A, -⟩ := A; exact ⟨c, A.1, A.2.1.1⟩
theorem own_AVk.cell (A : own_AVk Z h a k ty vs) : ∃ c : Cell, h[a]? = some c ∧ ∀ q, c.vm ≠ .statics q := A.av.cell
theorem own_Sta_keep {C n d : String} {v : Value} (F : Sta Z h C n d v) (K : Keep h h' ws) (q : ∀ x ∈ ws, ∃ c : Cell, h[x]? = some c ∧ ∀ q, c.vm ≠ .statics q) : Sta Z h' C n d v := by
  obtain ⟨cf, i, k, f, st, cell, h1, h2, h3, h4, h5, h6, h7⟩ := F
  refine ⟨cf, i, k, f, st, cell, h1, h2, h3, h4, K.2.1 st cell h5 fun m => ?_, h6, h7⟩
  obtain ⟨c', g1, g2⟩ := q st m
  cases h5.symm.trans g1
  cases hv : cell.vm <;> first | exact g2 _ hv | (rw [hv] at h6; cases h6)
end OwnKit
abbrev own_y0 : MethodName := ⟨"java/lang/Integer", "numberOfLeadingZeros", "(I)I"⟩
abbrev own_y1 : MethodName := ⟨"java/lang/Math", "max", "(II)I"⟩
abbrev own_y2 : MethodName := ⟨"java/util/AbstractMap", "<init>", "()V"⟩
abbrev own_y3 : MethodName := ⟨"java/util/HashMap", "<init>", "()V"⟩
abbrev own_y4 : MethodName := ⟨"com/example/paired_paths/pairedpaths/lts/PackedInts", "<init>", "(II)V"⟩
abbrev own_y5 : MethodName := ⟨"com/example/paired_paths/pairedpaths/lts/TransitionSystem", "<init>", "([Ljava/lang/String;Lcom/example/paired_paths/pairedpaths/lts/PackedInts;Lcom/example/paired_paths/pairedpaths/lts/PackedInts;Lcom/example/paired_paths/pairedpaths/lts/PackedInts;I[I[ILcom/example/paired_paths/pairedpaths/lts/PackedInts;)V"⟩
abbrev own_y6 : MethodName := ⟨"com/example/paired_paths/pairedpaths/lts/TransitionSystem", "waitingEnd", "(I)I"⟩
abbrev own_y7 : MethodName := ⟨"com/example/paired_paths/pairedpaths/lts/TransitionSystem", "waitingStart", "(I)I"⟩

theorem own_r3 (x : Int32) : 0 ≤ ((x &&& 2147483647) % 3).toInt ∧ ((x &&& 2147483647) % 3).toInt < 3 := by
  have e1 := c_mask x 2147483647 31 (by decide) (by decide)
  have q1 : 0 ≤ (x &&& 2147483647).toInt := by rw [e1]; omega
  have e2 := (c_irem (x &&& 2147483647) 3 3 rfl).1 q1
  omega
theorem own_c3 {v : Int32} (h : 0 ≤ v.toInt ∧ v.toInt < 3) : v = 0 ∨ v = 1 ∨ v = 2 := by
  simp only [← Int32.toInt_inj]
  have a0 : (0 : Int32).toInt = 0 := rfl
  have a1 : (1 : Int32).toInt = 1 := rfl
  have a2 : (2 : Int32).toInt = 2 := rfl
  omega
theorem own_sub {a b c : Int32} (e : a + b = c) : c - a = b := by
  subst e
  rw [← Int32.toInt_inj]
  have e1 := c_iadd a b
  have e2 := c_isub (a + b) a
  have r1 := rng32 (a + b - a)
  have r2 := rng32 b
  omega
theorem d3_0 : decode jdk_33_method_47_code 0 = .ok (.iload_n 0, 1) := by decide +kernel
theorem d3_1 : decode jdk_33_method_47_code 1 = .ok (.ifCond .gt 14, 3) := by decide +kernel
theorem d3_4 : decode jdk_33_method_47_code 4 = .ok (.iload_n 0, 1) := by decide +kernel
theorem d3_5 : decode jdk_33_method_47_code 5 = .ok (.ifCond .ne 8, 3) := by decide +kernel
theorem d3_8 : decode jdk_33_method_47_code 8 = .ok (.bipush 32, 2) := by decide +kernel
theorem d3_10 : decode jdk_33_method_47_code 10 = .ok (.goto 4, 3) := by decide +kernel
theorem d3_14 : decode jdk_33_method_47_code 14 = .ok (.ireturn, 1) := by decide +kernel
theorem pn_java_lang_Integer : plainName "java/lang/Integer" = true := by first | (simp [plainName, overriddenIn]; done) | decide +kernel
theorem ef_3_I (m : MethodId) (x0 : Int32) : entryFrame m #[(.int x0)] 2 = mkF m 0 #[iv x0, .unset] [] := by first | (simp [entryFrame, mkF, argsToLocals, Value.category]; done) | rfl
def Qrm_nlz (Z : State)  (h0 : Heap) (n0 : Nat) (v : Option Value) (h : Heap) (L : List Loc) : Prop := v = some (.int 32) ∧ Fr n0 L ∧ h = h0
set_option maxRecDepth 65536 in
set_option maxHeartbeats 40000000 in
theorem rm_nlz (l : Launch) (Z : State) (a0 : Array Value) (hw : ∀ d ∈ tables_1, d.before a0 Z = true) (ws : List Jvm.Cond)  (h0 : Heap) (n0 : Nat) (Z0 : n0 ≤ h0.size) :
    MetFree l own_y0 (head1 (Jvm.Cond.code own_y0 jdk_33_method_47_code 2 (some .int) :: ws) ({ frames := 0, cells := 0, slots := 0, locals := 0 } : Room)) (fun a U => a = #[(.int (0 : Int32))] ∧ Z.Warmed39 U.vm ∧ U.heap = h0) (fun _ _ _ _ _ => True) (fun _ U o U' => ∃ v L, o = .returned v ∧ Qrm_nlz Z  h0 n0 v U'.heap L ∧ FrameEnd U o U' L ({ frames := 0, cells := 0, slots := 0, locals := 0 } : Room).cells ({ frames := 0, cells := 0, slots := 0, locals := 0 } : Room).slots) := by
  refine MetFree.of_bodySF (plainFor_of_name pn_java_lang_Integer) hisR ?_
  intro p e s m args below meth c s₁ Bd hml0 hP hK
  obtain ⟨rfl, hZ, hh⟩ := hP
  have hx := Bd.exec
  have hby := Bd.bytes
  have hml : c.maxLocals = 2 := hml0
  have hown : s.vm.findClass "java/lang/Integer" = some m.cls := findClass_of_methodNamed Bd.named
  have hnm := (name_of_methodNamed Bd.named Bd.method).1
  have X0 : Stand p l e ({ frames := 0, cells := 0, slots := 0, locals := 0 } : Room) s m #[(.int (0 : Int32))] below meth c s₁ [] 0 0 := Stand.of_body Bd
  have e0 : s₁.heap = h0 := by rw [← hh, Bd.state]; rfl
  have N0 := Fr.nil n0
  have K0 : Keep h0 h0 [] := Keep.refl _ _
  refine own_start (Qk := Qrm_nlz Z  h0 n0) (fun G hG => ?_)
  refine own_st (fun _ k => castTop (ef_3_I m (0 : Int32)) k) ?_
  show own_Fin p e below G (s₁.setTop (mkF m 0 #[iv (0 : Int32), .unset] []))
  refine own_st (fun _ k => XS.iloadN X0.here hx rfl (hb hby d3_0) rfl  k) ?_
  show own_Fin p e below G (s₁.setTop (mkF m 1 #[iv (0 : Int32), .unset] [(.int (0 : Int32))]))
  refine own_st (fun _ k => XS.ifNo X0.here hx rfl (hb hby d3_1) rfl ((if0 _ _).trans (flt (by decide : ¬ ((0 : Int32) < (0 : Int32)))).2.2.1) k) ?_
  show own_Fin p e below G (s₁.setTop (mkF m 4 #[iv (0 : Int32), .unset] []))
  refine own_st (fun _ k => XS.iloadN X0.here hx rfl (hb hby d3_4) rfl  k) ?_
  show own_Fin p e below G (s₁.setTop (mkF m 5 #[iv (0 : Int32), .unset] [(.int (0 : Int32))]))
  refine own_st (fun _ k => XS.ifNo X0.here hx rfl (hb hby d3_5) rfl ((if0 _ _).trans (teq (by decide : ((0 : Int32) = (0 : Int32)))).2) k) ?_
  show own_Fin p e below G (s₁.setTop (mkF m 8 #[iv (0 : Int32), .unset] []))
  refine own_st (fun _ k => XS.bipush X0.here hx rfl (hb hby d3_8) k) ?_
  show own_Fin p e below G (s₁.setTop (mkF m 10 #[iv (0 : Int32), .unset] [(.int (32 : Int32))]))
  refine own_st (fun _ k => XS.goto X0.here hx rfl (pc0 := 10) (pc' := 14) rfl (hb hby d3_10) (by decide) (by decide) k) ?_
  show own_Fin p e below G (s₁.setTop (mkF m 14 #[iv (0 : Int32), .unset] [(.int (32 : Int32))]))
  refine own_out X0 Bd.notSynchronized (v := (some (.int (32 : Int32)))) (fun h => by rw [Bd.returns] at h; cases h) hG (fun fs hr => retOut X0 hx Bd.returns rfl (Or.inl ⟨rfl, Or.inl rfl, _, rfl⟩) (hb hby d3_14) hr) (by decide) (by decide) ?_
  exact ⟨rfl, N0, e0⟩

theorem d4_0 : decode jdk_29_method_65_code 0 = .ok (.iload_n 0, 1) := by decide +kernel
theorem d4_1 : decode jdk_29_method_65_code 1 = .ok (.iload_n 1, 1) := by decide +kernel
theorem d4_2 : decode jdk_29_method_65_code 2 = .ok (.if_icmp .lt 7, 3) := by decide +kernel
theorem d4_9 : decode jdk_29_method_65_code 9 = .ok (.iload_n 1, 1) := by decide +kernel
theorem d4_10 : decode jdk_29_method_65_code 10 = .ok (.ireturn, 1) := by decide +kernel
theorem ef_4_II (m : MethodId) (x0 : Int32) (x1 : Int32) : entryFrame m #[(.int x0), (.int x1)] 2 = mkF m 0 #[iv x0, iv x1] [] := by first | (simp [entryFrame, mkF, argsToLocals, Value.category]; done) | rfl
def Qrm_max (Z : State)  (h0 : Heap) (n0 : Nat) (v : Option Value) (h : Heap) (L : List Loc) : Prop := v = some (.int 1) ∧ Fr n0 L ∧ h = h0
set_option maxRecDepth 65536 in
set_option maxHeartbeats 40000000 in
theorem rm_max (l : Launch) (Z : State) (a0 : Array Value) (hw : ∀ d ∈ tables_1, d.before a0 Z = true) (ws : List Jvm.Cond)  (h0 : Heap) (n0 : Nat) (Z0 : n0 ≤ h0.size) :
    MetFree l own_y1 (head1 (Jvm.Cond.code own_y1 jdk_29_method_65_code 2 (some .int) :: ws) ({ frames := 0, cells := 0, slots := 0, locals := 0 } : Room)) (fun a U => a = #[(.int (0 : Int32)), (.int (1 : Int32))] ∧ Z.Warmed39 U.vm ∧ U.heap = h0) (fun _ _ _ _ _ => True) (fun _ U o U' => ∃ v L, o = .returned v ∧ Qrm_max Z  h0 n0 v U'.heap L ∧ FrameEnd U o U' L ({ frames := 0, cells := 0, slots := 0, locals := 0 } : Room).cells ({ frames := 0, cells := 0, slots := 0, locals := 0 } : Room).slots) := by
  refine MetFree.of_bodySF (Jvm.Free.JP.mathPlain rfl (by decide +kernel)) hisR ?_
  intro p e s m args below meth c s₁ Bd hml0 hP hK
  obtain ⟨rfl, hZ, hh⟩ := hP
  have hx := Bd.exec
  have hby := Bd.bytes
  have hml : c.maxLocals = 2 := hml0
  have hown : s.vm.findClass "java/lang/Math" = some m.cls := findClass_of_methodNamed Bd.named
  have hnm := (name_of_methodNamed Bd.named Bd.method).1
  have X0 : Stand p l e ({ frames := 0, cells := 0, slots := 0, locals := 0 } : Room) s m #[(.int (0 : Int32)), (.int (1 : Int32))] below meth c s₁ [] 0 0 := Stand.of_body Bd
  have e0 : s₁.heap = h0 := by rw [← hh, Bd.state]; rfl
  have N0 := Fr.nil n0
  have K0 : Keep h0 h0 [] := Keep.refl _ _
  refine own_start (Qk := Qrm_max Z  h0 n0) (fun G hG => ?_)
  refine own_st (fun _ k => castTop (ef_4_II m (0 : Int32) (1 : Int32)) k) ?_
  show own_Fin p e below G (s₁.setTop (mkF m 0 #[iv (0 : Int32), iv (1 : Int32)] []))
  refine own_st (fun _ k => XS.iloadN X0.here hx rfl (hb hby d4_0) rfl  k) ?_
  show own_Fin p e below G (s₁.setTop (mkF m 1 #[iv (0 : Int32), iv (1 : Int32)] [(.int (0 : Int32))]))
  refine own_st (fun _ k => XS.iloadN X0.here hx rfl (hb hby d4_1) rfl  k) ?_
  show own_Fin p e below G (s₁.setTop (mkF m 2 #[iv (0 : Int32), iv (1 : Int32)] [(.int (1 : Int32)), (.int (0 : Int32))]))
  refine own_st (fun _ k => XS.icmpYes X0.here hx rfl (pc0 := 2) (pc' := 9) rfl (hb hby d4_2) rfl (tlt (by decide : ((0 : Int32) < (1 : Int32)))).1 (by decide) (by decide) k) ?_
  show own_Fin p e below G (s₁.setTop (mkF m 9 #[iv (0 : Int32), iv (1 : Int32)] []))
  refine own_st (fun _ k => XS.iloadN X0.here hx rfl (hb hby d4_9) rfl  k) ?_
  show own_Fin p e below G (s₁.setTop (mkF m 10 #[iv (0 : Int32), iv (1 : Int32)] [(.int (1 : Int32))]))
  refine own_out X0 Bd.notSynchronized (v := (some (.int (1 : Int32)))) (fun h => by rw [Bd.returns] at h; cases h) hG (fun fs hr => retOut X0 hx Bd.returns rfl (Or.inl ⟨rfl, Or.inl rfl, _, rfl⟩) (hb hby d4_10) hr) (by decide) (by decide) ?_
  exact ⟨rfl, N0, e0⟩

theorem d7_0 : decode jdk_71_method_1_code 0 = .ok (.aload_n 0, 1) := by decide +kernel
theorem d7_1 : decode jdk_71_method_1_code 1 = .ok (.invokespecial 1, 3) := by decide +kernel
theorem d7_4 : decode jdk_71_method_1_code 4 = .ok (.return_, 1) := by decide +kernel
theorem pn_java_util_AbstractMap : plainName "java/util/AbstractMap" = true := by first | (simp [plainName, overriddenIn]; done) | decide +kernel
theorem ef_7_R (m : MethodId) (x0 : Addr) : entryFrame m #[(.ref x0)] 1 = mkF m 0 #[rv x0] [] := by first | (simp [entryFrame, mkF, argsToLocals, Value.category]; done) | rfl
def Qrm_am (Z : State) (a1 : Addr) (h0 : Heap) (n0 : Nat) (v : Option Value) (h : Heap) (L : List Loc) : Prop := v = none ∧ Fr n0 L ∧ h = h0
set_option maxRecDepth 65536 in
set_option maxHeartbeats 40000000 in
theorem rm_am (l : Launch) (Z : State) (a0 : Array Value) (hw : ∀ d ∈ tables_1, d.before a0 Z = true) (ws : List Jvm.Cond) (a1 : Addr) (h0 : Heap) (n0 : Nat) (Z0 : n0 ≤ h0.size) :
    MetFree l own_y2 (head1 (Jvm.Cond.code own_y2 jdk_71_method_1_code 1 none :: ws) ({ frames := 1, cells := 0, slots := 0, locals := 12 } : Room)) (fun a U => a = #[(.ref a1)] ∧ Z.Warmed39 U.vm ∧ U.heap = h0) (fun _ _ _ _ _ => True) (fun _ U o U' => ∃ v L, o = .returned v ∧ Qrm_am Z a1 h0 n0 v U'.heap L ∧ FrameEnd U o U' L ({ frames := 1, cells := 0, slots := 0, locals := 12 } : Room).cells ({ frames := 1, cells := 0, slots := 0, locals := 12 } : Room).slots) := by
  refine MetFree.of_bodySF (plainFor_of_name pn_java_util_AbstractMap) hisR ?_
  intro p e s m args below meth c s₁ Bd hml0 hP hK
  obtain ⟨rfl, hZ, hh⟩ := hP
  have hx := Bd.exec
  have hby := Bd.bytes
  have hml : c.maxLocals = 1 := hml0
  have hown : s.vm.findClass "java/util/AbstractMap" = some m.cls := findClass_of_methodNamed Bd.named
  have hnm := (name_of_methodNamed Bd.named Bd.method).1
  have X0 : Stand p l e ({ frames := 1, cells := 0, slots := 0, locals := 12 } : Room) s m #[(.ref a1)] below meth c s₁ [] 0 0 := Stand.of_body Bd
  have e0 : s₁.heap = h0 := by rw [← hh, Bd.state]; rfl
  have N0 := Fr.nil n0
  have K0 : Keep h0 h0 [] := Keep.refl _ _
  refine own_start (Qk := Qrm_am Z a1 h0 n0) (fun G hG => ?_)
  refine own_st (fun _ k => castTop (ef_7_R m a1) k) ?_
  show own_Fin p e below G (s₁.setTop (mkF m 0 #[rv a1] []))
  refine own_st (fun _ k => XS.aloadN X0.here hx rfl (hb hby d7_0) rfl rfl k) ?_
  show own_Fin p e below G (s₁.setTop (mkF m 1 #[rv a1] [(.ref a1)]))
  obtain ⟨T1, X1, e1, st1⟩ := initO X0 hx hZ hown (own_w hw 51 rfl) (own_w hw 8 rfl) (own_w hw 9 rfl) e0 (g := (mkF m 1 #[rv a1] [(.ref a1)])) rfl (by rw [hml]; rfl) rfl (hb hby d7_1) (by decide) (W := 0) (by show 2 * 0 + _ ≤ _; exact Nat.le_of_eq rfl) (by decide)
  refine own_st st1 ?_
  show own_Fin p e below G (T1.setTop (mkF m 4 #[rv a1] []))
  refine own_out X1 Bd.notSynchronized (v := none) (fun _ => rfl) hG (fun fs hr => X1.returnOut hx Bd.returns (hb hby d7_4) hr) (by decide) (by decide) ?_
  exact ⟨rfl, N0, e1⟩

theorem d6_0 : decode jdk_69_method_7_code 0 = .ok (.aload_n 0, 1) := by decide +kernel
theorem d6_1 : decode jdk_69_method_7_code 1 = .ok (.invokespecial 43, 3) := by decide +kernel
theorem pd___V_167 : parseMethodDescriptor "()V" = some ⟨[], none⟩ := by decide +kernel
theorem d6_4 : decode jdk_69_method_7_code 4 = .ok (.aload_n 0, 1) := by decide +kernel
theorem d6_5 : decode jdk_69_method_7_code 5 = .ok (.ldc 92, 2) := by decide +kernel
theorem d6_7 : decode jdk_69_method_7_code 7 = .ok (.putfield 81, 3) := by decide +kernel
theorem d6_10 : decode jdk_69_method_7_code 10 = .ok (.return_, 1) := by decide +kernel
theorem pn_java_util_HashMap : plainName "java/util/HashMap" = true := by first | (simp [plainName, overriddenIn]; done) | decide +kernel
theorem ef_6_R (m : MethodId) (x0 : Addr) : entryFrame m #[(.ref x0)] 1 = mkF m 0 #[rv x0] [] := by first | (simp [entryFrame, mkF, argsToLocals, Value.category]; done) | rfl
def Qrm_hm (Z : State) (a1 : Addr) (h0 : Heap) (n0 : Nat) (v : Option Value) (h : Heap) (L : List Loc) : Prop := v = none ∧ Fr n0 L ∧ Keep h0 h [a1]
set_option maxRecDepth 65536 in
set_option maxHeartbeats 40000000 in
theorem rm_hm (l : Launch) (Z : State) (a0 : Array Value) (hw : ∀ d ∈ tables_1, d.before a0 Z = true) (ws : List Jvm.Cond) (a1 : Addr) (h0 : Heap) (n0 : Nat) (Z0 : n0 ≤ h0.size) (E1 : Exa Z h0 a1 "java/util/HashMap") (F1 : Fld Z h0 a1 "java/util/HashMap" "loadFactor" "F" (.float (0 : UInt32))) (g1 : n0 ≤ a1) :
    MetFree l own_y3 (head1 (Jvm.Cond.code own_y3 jdk_69_method_7_code 1 none :: ws) ({ frames := 2, cells := 0, slots := 0, locals := 24 } : Room)) (fun a U => a = #[(.ref a1)] ∧ Z.Warmed39 U.vm ∧ U.heap = h0) (fun _ _ _ _ _ => True) (fun _ U o U' => ∃ v L, o = .returned v ∧ Qrm_hm Z a1 h0 n0 v U'.heap L ∧ FrameEnd U o U' L ({ frames := 2, cells := 0, slots := 0, locals := 24 } : Room).cells ({ frames := 2, cells := 0, slots := 0, locals := 24 } : Room).slots) := by
  refine MetFree.of_bodySF (plainFor_of_name pn_java_util_HashMap) hisR ?_
  intro p e s m args below meth c s₁ Bd hml0 hP hK
  obtain ⟨rfl, hZ, hh⟩ := hP
  have hx := Bd.exec
  have hby := Bd.bytes
  have hml : c.maxLocals = 1 := hml0
  have hown : s.vm.findClass "java/util/HashMap" = some m.cls := findClass_of_methodNamed Bd.named
  have hnm := (name_of_methodNamed Bd.named Bd.method).1
  have X0 : Stand p l e ({ frames := 2, cells := 0, slots := 0, locals := 24 } : Room) s m #[(.ref a1)] below meth c s₁ [] 0 0 := Stand.of_body Bd
  have e0 : s₁.heap = h0 := by rw [← hh, Bd.state]; rfl
  have N0 := Fr.nil n0
  have K0 : Keep h0 h0 [a1] := Keep.refl _ _
  refine own_start (Qk := Qrm_hm Z a1 h0 n0) (fun G hG => ?_)
  refine own_st (fun _ k => castTop (ef_6_R m a1) k) ?_
  show own_Fin p e below G (s₁.setTop (mkF m 0 #[rv a1] []))
  refine own_st (fun _ k => XS.aloadN X0.here hx rfl (hb hby d6_0) rfl rfl k) ?_
  show own_Fin p e below G (s₁.setTop (mkF m 1 #[rv a1] [(.ref a1)]))
  obtain ⟨_, _, ⟨T2, L2, k2, n2⟩, -, X2, ⟨Lc2, hQ2, l2, y2, z2⟩, st2⟩ := X0.specialBack hx (y := own_y2) rfl hown (mvT hZ (own_w hw 45 rfl)) (mvT hZ (own_w hw 46 rfl)) (mvT hZ (own_w hw 50 rfl)) (by decide) (backOf (W := 0) (rm_am l Z a0 hw [] a1 h0 n0 (Nat.le_trans Z0 K0.1) ) hZ (own_w hw 50 rfl) (own_w hw 49 rfl) (by decide) (by decide)) (g := (mkF m 1 #[rv a1] [(.ref a1)])) rfl (by rw [hml]; rfl) (Steps.refl _) (a := a1) (argsL := []) (rest := []) (lenOf pd___V_167 rfl) rfl (by show 2 * 0 + _ ≤ _; exact Nat.le_of_eq rfl) (hb hby d6_1) (fun _ _ => ⟨rfl, e0, (by decide : 0 + 0 ≤ _), (by decide : 0 + 0 ≤ _)⟩)
  dsimp only [Pt.U, Pt.locs, Pt.cells, Pt.slots] at X2 l2 y2 z2 st2 hQ2
  subst l2 y2 z2
  obtain ⟨rfl, N2q, e2⟩ := hQ2
  skip
  have N2 := Fr.app N0 N2q
  refine own_tr st2 ?_
  show own_Fin p e below G (T2.setTop (mkF m 4 #[rv a1] []))
  refine own_st (fun _ k => XS.aloadN X2.here hx rfl (hb hby d6_4) rfl rfl k) ?_
  show own_Fin p e below G (T2.setTop (mkF m 5 #[rv a1] [(.ref a1)]))
  refine own_st (fun _ k => own_ldcF X2 hx hZ hown (own_w hw 52 rfl) (g := (mkF m 5 #[rv a1] [(.ref a1)])) rfl (hb hby d6_5) k) ?_
  show own_Fin p e below G (T2.setTop (mkF m 7 #[rv a1] [(.float (1061158912 : UInt32)), (.ref a1)]))
  obtain ⟨T3, h3, X3, e3, W3, st3⟩ := putF X2 hx hZ hown (host := "") (Or.inl (own_w hw 53 rfl)) Via.refl e2 F1 E1 (Or.inr ⟨(own_w hw 54 rfl), rfl, hnm⟩) (own_w hw 40 rfl) (ty := .float) (by decide) rfl rfl (g := (mkF m 7 #[rv a1] [(.float (1061158912 : UInt32)), (.ref a1)])) rfl rfl (hb hby d6_7)
  have f4_0 := E1.wr W3
  have K5 : Keep h0 h3 [a1] := K0.wr W3 (Or.inl (List.mem_of_getElem? (i := 0) rfl))
  have N6 := Fr.snoc X3 N2 g1
  have Fw3 : Fld Z h3 a1 "java/util/HashMap" "loadFactor" "F" (.float (1061158912 : UInt32)) := F1.same W3
  refine own_st st3 ?_
  show own_Fin p e below G (T3.setTop (mkF m 10 #[rv a1] []))
  refine own_out X3 Bd.notSynchronized (v := none) (fun _ => rfl) hG (fun fs hr => X3.returnOut hx Bd.returns (hb hby d6_10) hr) (by decide) (by decide) ?_
  exact ⟨rfl, N6, e3.symm ▸ K5⟩

theorem d1_0 : decode prog_76_method_1_code 0 = .ok (.aload_n 0, 1) := by decide +kernel
theorem d1_1 : decode prog_76_method_1_code 1 = .ok (.invokespecial 1, 3) := by decide +kernel
theorem d1_4 : decode prog_76_method_1_code 4 = .ok (.iload_n 1, 1) := by decide +kernel
theorem d1_5 : decode prog_76_method_1_code 5 = .ok (.ifCond .lt 7, 3) := by decide +kernel
theorem d1_8 : decode prog_76_method_1_code 8 = .ok (.iload_n 2, 1) := by decide +kernel
theorem d1_9 : decode prog_76_method_1_code 9 = .ok (.ifCond .ge 18, 3) := by decide +kernel
theorem d1_27 : decode prog_76_method_1_code 27 = .ok (.aload_n 0, 1) := by decide +kernel
theorem d1_28 : decode prog_76_method_1_code 28 = .ok (.iload_n 1, 1) := by decide +kernel
theorem d1_29 : decode prog_76_method_1_code 29 = .ok (.putfield 16, 3) := by decide +kernel
theorem d1_32 : decode prog_76_method_1_code 32 = .ok (.aload_n 0, 1) := by decide +kernel
theorem d1_33 : decode prog_76_method_1_code 33 = .ok (.iload_n 2, 1) := by decide +kernel
theorem d1_34 : decode prog_76_method_1_code 34 = .ok (.putfield 22, 3) := by decide +kernel
theorem d1_37 : decode prog_76_method_1_code 37 = .ok (.aload_n 0, 1) := by decide +kernel
theorem d1_38 : decode prog_76_method_1_code 38 = .ok (.bipush 32, 2) := by decide +kernel
theorem d1_40 : decode prog_76_method_1_code 40 = .ok (.iload_n 2, 1) := by decide +kernel
theorem d1_41 : decode prog_76_method_1_code 41 = .ok (.invokestatic 25, 3) := by decide +kernel
theorem pd__I_I_227 : parseMethodDescriptor "(I)I" = some ⟨[.int], some .int⟩ := by decide +kernel
theorem d1_44 : decode prog_76_method_1_code 44 = .ok (.isub, 1) := by decide +kernel
theorem d1_45 : decode prog_76_method_1_code 45 = .ok (.putfield 31, 3) := by decide +kernel
theorem d1_48 : decode prog_76_method_1_code 48 = .ok (.aload_n 0, 1) := by decide +kernel
theorem d1_49 : decode prog_76_method_1_code 49 = .ok (.lconst 1, 1) := by decide +kernel
theorem d1_50 : decode prog_76_method_1_code 50 = .ok (.aload_n 0, 1) := by decide +kernel
theorem d1_51 : decode prog_76_method_1_code 51 = .ok (.getfield 31, 3) := by decide +kernel
theorem d1_54 : decode prog_76_method_1_code 54 = .ok (.lshl, 1) := by decide +kernel
theorem d1_55 : decode prog_76_method_1_code 55 = .ok (.lconst 1, 1) := by decide +kernel
theorem d1_56 : decode prog_76_method_1_code 56 = .ok (.lsub, 1) := by decide +kernel
theorem d1_57 : decode prog_76_method_1_code 57 = .ok (.putfield 34, 3) := by decide +kernel
theorem d1_60 : decode prog_76_method_1_code 60 = .ok (.aload_n 0, 1) := by decide +kernel
theorem d1_61 : decode prog_76_method_1_code 61 = .ok (.iload_n 1, 1) := by decide +kernel
theorem d1_62 : decode prog_76_method_1_code 62 = .ok (.i2l, 1) := by decide +kernel
theorem d1_63 : decode prog_76_method_1_code 63 = .ok (.aload_n 0, 1) := by decide +kernel
theorem d1_64 : decode prog_76_method_1_code 64 = .ok (.getfield 31, 3) := by decide +kernel
theorem d1_67 : decode prog_76_method_1_code 67 = .ok (.i2l, 1) := by decide +kernel
theorem d1_68 : decode prog_76_method_1_code 68 = .ok (.lmul, 1) := by decide +kernel
theorem d1_69 : decode prog_76_method_1_code 69 = .ok (.ldc2_w 38, 3) := by decide +kernel
theorem d1_72 : decode prog_76_method_1_code 72 = .ok (.ladd, 1) := by decide +kernel
theorem d1_73 : decode prog_76_method_1_code 73 = .ok (.bipush 6, 2) := by decide +kernel
theorem d1_75 : decode prog_76_method_1_code 75 = .ok (.lushr, 1) := by decide +kernel
theorem d1_76 : decode prog_76_method_1_code 76 = .ok (.l2i, 1) := by decide +kernel
theorem d1_77 : decode prog_76_method_1_code 77 = .ok (.iconst 1, 1) := by decide +kernel
theorem d1_78 : decode prog_76_method_1_code 78 = .ok (.invokestatic 40, 3) := by decide +kernel
theorem pd__II_I_300 : parseMethodDescriptor "(II)I" = some ⟨[.int, .int], some .int⟩ := by decide +kernel
theorem d1_81 : decode prog_76_method_1_code 81 = .ok (.iconst 1, 1) := by decide +kernel
theorem d1_82 : decode prog_76_method_1_code 82 = .ok (.iadd, 1) := by decide +kernel
theorem d1_83 : decode prog_76_method_1_code 83 = .ok (.newarray .long, 2) := by decide +kernel
theorem d1_85 : decode prog_76_method_1_code 85 = .ok (.putfield 46, 3) := by decide +kernel
theorem d1_88 : decode prog_76_method_1_code 88 = .ok (.return_, 1) := by decide +kernel
theorem pn_com_example_paired_paths_pairedpaths_lts_PackedInts : plainName "com/example/paired_paths/pairedpaths/lts/PackedInts" = true := by first | (simp [plainName, overriddenIn]; done) | decide +kernel
theorem ef_1_RII (m : MethodId) (x0 : Addr) (x1 : Int32) (x2 : Int32) : entryFrame m #[(.ref x0), (.int x1), (.int x2)] 3 = mkF m 0 #[rv x0, iv x1, iv x2] [] := by first | (simp [entryFrame, mkF, argsToLocals, Value.category]; done) | rfl
def Qrm_pi4 (Z : State) (a1 : Addr) (h0 : Heap) (n0 : Nat) (v : Option Value) (h : Heap) (L : List Loc) : Prop := v = none ∧ Fr n0 L ∧ Keep h0 h [a1]
set_option maxRecDepth 65536 in
set_option maxHeartbeats 40000000 in
theorem rm_pi4 (l : Launch) (Z : State) (a0 : Array Value) (hw : ∀ d ∈ tables_1, d.before a0 Z = true) (ws : List Jvm.Cond) (a1 : Addr) (h0 : Heap) (n0 : Nat) (Z0 : n0 ≤ h0.size) (E1 : Exa Z h0 a1 "com/example/paired_paths/pairedpaths/lts/PackedInts") (F_length : Fld Z h0 a1 "com/example/paired_paths/pairedpaths/lts/PackedInts" "length" "I" (.int (0 : Int32))) (F_largest : Fld Z h0 a1 "com/example/paired_paths/pairedpaths/lts/PackedInts" "largest" "I" (.int (0 : Int32))) (F_width : Fld Z h0 a1 "com/example/paired_paths/pairedpaths/lts/PackedInts" "width" "I" (.int (0 : Int32))) (F_mask : Fld Z h0 a1 "com/example/paired_paths/pairedpaths/lts/PackedInts" "mask" "J" (.long (0 : Int64))) (F_words : Fld Z h0 a1 "com/example/paired_paths/pairedpaths/lts/PackedInts" "words" "[J" .null) (g1 : n0 ≤ a1) :
    MetFree l own_y4 (head1 (Jvm.Cond.code own_y4 prog_76_method_1_code 3 none :: ws) ({ frames := 1, cells := 1, slots := 2, locals := 15 } : Room)) (fun a U => a = #[(.ref a1), (.int (4 : Int32)), (.int (0 : Int32))] ∧ Z.Warmed39 U.vm ∧ U.heap = h0) (fun _ _ _ _ _ => True) (fun _ U o U' => ∃ v L, o = .returned v ∧ Qrm_pi4 Z a1 h0 n0 v U'.heap L ∧ FrameEnd U o U' L ({ frames := 1, cells := 1, slots := 2, locals := 15 } : Room).cells ({ frames := 1, cells := 1, slots := 2, locals := 15 } : Room).slots) := by
  refine MetFree.of_bodySF (plainFor_of_name pn_com_example_paired_paths_pairedpaths_lts_PackedInts) hisR ?_
  intro p e s m args below meth c s₁ Bd hml0 hP hK
  obtain ⟨rfl, hZ, hh⟩ := hP
  have hx := Bd.exec
  have hby := Bd.bytes
  have hml : c.maxLocals = 3 := hml0
  have hown : s.vm.findClass "com/example/paired_paths/pairedpaths/lts/PackedInts" = some m.cls := findClass_of_methodNamed Bd.named
  have hnm := (name_of_methodNamed Bd.named Bd.method).1
  have X0 : Stand p l e ({ frames := 1, cells := 1, slots := 2, locals := 15 } : Room) s m #[(.ref a1), (.int (4 : Int32)), (.int (0 : Int32))] below meth c s₁ [] 0 0 := Stand.of_body Bd
  have e0 : s₁.heap = h0 := by rw [← hh, Bd.state]; rfl
  have N0 := Fr.nil n0
  have K0 : Keep h0 h0 [a1] := Keep.refl _ _
  refine own_start (Qk := Qrm_pi4 Z a1 h0 n0) (fun G hG => ?_)
  refine own_st (fun _ k => castTop (ef_1_RII m a1 (4 : Int32) (0 : Int32)) k) ?_
  show own_Fin p e below G (s₁.setTop (mkF m 0 #[rv a1, iv (4 : Int32), iv (0 : Int32)] []))
  refine own_st (fun _ k => XS.aloadN X0.here hx rfl (hb hby d1_0) rfl rfl k) ?_
  show own_Fin p e below G (s₁.setTop (mkF m 1 #[rv a1, iv (4 : Int32), iv (0 : Int32)] [(.ref a1)]))
  obtain ⟨T7, X7, e7, st7⟩ := initO X0 hx hZ hown (own_w hw 7 rfl) (own_w hw 8 rfl) (own_w hw 9 rfl) e0 (g := (mkF m 1 #[rv a1, iv (4 : Int32), iv (0 : Int32)] [(.ref a1)])) rfl (by rw [hml]; rfl) rfl (hb hby d1_1) (by decide) (W := 0) (by show 2 * 0 + _ ≤ _; exact Nat.le_of_eq rfl) (by decide)
  refine own_st st7 ?_
  show own_Fin p e below G (T7.setTop (mkF m 4 #[rv a1, iv (4 : Int32), iv (0 : Int32)] []))
  refine own_st (fun _ k => XS.iloadN X7.here hx rfl (hb hby d1_4) rfl  k) ?_
  show own_Fin p e below G (T7.setTop (mkF m 5 #[rv a1, iv (4 : Int32), iv (0 : Int32)] [(.int (4 : Int32))]))
  refine own_st (fun _ k => XS.ifNo X7.here hx rfl (hb hby d1_5) rfl ((if0 _ _).trans (flt (by decide : ¬ ((4 : Int32) < (0 : Int32)))).1) k) ?_
  show own_Fin p e below G (T7.setTop (mkF m 8 #[rv a1, iv (4 : Int32), iv (0 : Int32)] []))
  refine own_st (fun _ k => XS.iloadN X7.here hx rfl (hb hby d1_8) rfl  k) ?_
  show own_Fin p e below G (T7.setTop (mkF m 9 #[rv a1, iv (4 : Int32), iv (0 : Int32)] [(.int (0 : Int32))]))
  refine own_st (fun _ k => XS.ifYes X7.here hx rfl (pc0 := 9) (pc' := 27) rfl (hb hby d1_9) rfl ((if0 _ _).trans (flt (by decide : ¬ ((0 : Int32) < (0 : Int32)))).2.1) (by decide) (by decide) k) ?_
  show own_Fin p e below G (T7.setTop (mkF m 27 #[rv a1, iv (4 : Int32), iv (0 : Int32)] []))
  refine own_st (fun _ k => XS.aloadN X7.here hx rfl (hb hby d1_27) rfl rfl k) ?_
  show own_Fin p e below G (T7.setTop (mkF m 28 #[rv a1, iv (4 : Int32), iv (0 : Int32)] [(.ref a1)]))
  refine own_st (fun _ k => XS.iloadN X7.here hx rfl (hb hby d1_28) rfl  k) ?_
  show own_Fin p e below G (T7.setTop (mkF m 29 #[rv a1, iv (4 : Int32), iv (0 : Int32)] [(.int (4 : Int32)), (.ref a1)]))
  obtain ⟨T8, h8, X8, e8, W8, st8⟩ := putF X7 hx hZ hown (host := "") (Or.inl (own_w hw 10 rfl)) Via.refl e7 F_length E1 (Or.inr ⟨(own_w hw 11 rfl), rfl, hnm⟩) (own_w hw 2 rfl) (ty := .int) (by decide) rfl rfl (g := (mkF m 29 #[rv a1, iv (4 : Int32), iv (0 : Int32)] [(.int (4 : Int32)), (.ref a1)])) rfl rfl (hb hby d1_29)
  have f9_0 := E1.wr W8
  have sl10 := slot_ne (Z := Z) (a0 := a0) (Or.inr (own_w hw 13 rfl)) (Or.inr (own_w hw 11 rfl)) (by decide) (t := .int) (t' := .int) (by decide) (by decide)
  have f9_2 := F_largest.other W8 (Or.inr sl10)
  have sl11 := slot_ne (Z := Z) (a0 := a0) (Or.inr (own_w hw 19 rfl)) (Or.inr (own_w hw 11 rfl)) (by decide) (t := .int) (t' := .int) (by decide) (by decide)
  have f9_3 := F_width.other W8 (Or.inr sl11)
  have sl12 := slot_ne (Z := Z) (a0 := a0) (Or.inr (own_w hw 21 rfl)) (Or.inr (own_w hw 11 rfl)) (by decide) (t := .long) (t' := .int) (by decide) (by decide)
  have f9_4 := F_mask.other W8 (Or.inr sl12)
  have sl13 := slot_ne (Z := Z) (a0 := a0) (Or.inr (own_w hw 29 rfl)) (Or.inr (own_w hw 11 rfl)) (by decide) (t := (.array .long)) (t' := .int) (by decide) (by decide)
  have f9_5 := F_words.other W8 (Or.inr sl13)
  have K14 : Keep h0 h8 [a1] := K0.wr W8 (Or.inl (List.mem_of_getElem? (i := 0) rfl))
  have N15 := Fr.snoc X8 N0 g1
  have Fw8 : Fld Z h8 a1 "com/example/paired_paths/pairedpaths/lts/PackedInts" "length" "I" (.int (4 : Int32)) := F_length.same W8
  refine own_st st8 ?_
  show own_Fin p e below G (T8.setTop (mkF m 32 #[rv a1, iv (4 : Int32), iv (0 : Int32)] []))
  refine own_st (fun _ k => XS.aloadN X8.here hx rfl (hb hby d1_32) rfl rfl k) ?_
  show own_Fin p e below G (T8.setTop (mkF m 33 #[rv a1, iv (4 : Int32), iv (0 : Int32)] [(.ref a1)]))
  refine own_st (fun _ k => XS.iloadN X8.here hx rfl (hb hby d1_33) rfl  k) ?_
  show own_Fin p e below G (T8.setTop (mkF m 34 #[rv a1, iv (4 : Int32), iv (0 : Int32)] [(.int (0 : Int32)), (.ref a1)]))
  obtain ⟨T16, h16, X16, e16, W16, st16⟩ := putF X8 hx hZ hown (host := "") (Or.inl (own_w hw 12 rfl)) Via.refl e8 f9_2 f9_0 (Or.inr ⟨(own_w hw 13 rfl), rfl, hnm⟩) (own_w hw 2 rfl) (ty := .int) (by decide) rfl rfl (g := (mkF m 34 #[rv a1, iv (4 : Int32), iv (0 : Int32)] [(.int (0 : Int32)), (.ref a1)])) rfl rfl (hb hby d1_34)
  have f17_0 := f9_0.wr W16
  have sl18 := slot_ne (Z := Z) (a0 := a0) (Or.inr (own_w hw 11 rfl)) (Or.inr (own_w hw 13 rfl)) (by decide) (t := .int) (t' := .int) (by decide) (by decide)
  have f17_1 := Fw8.other W16 (Or.inr sl18)
  have sl19 := slot_ne (Z := Z) (a0 := a0) (Or.inr (own_w hw 19 rfl)) (Or.inr (own_w hw 13 rfl)) (by decide) (t := .int) (t' := .int) (by decide) (by decide)
  have f17_3 := f9_3.other W16 (Or.inr sl19)
  have sl20 := slot_ne (Z := Z) (a0 := a0) (Or.inr (own_w hw 21 rfl)) (Or.inr (own_w hw 13 rfl)) (by decide) (t := .long) (t' := .int) (by decide) (by decide)
  have f17_4 := f9_4.other W16 (Or.inr sl20)
  have sl21 := slot_ne (Z := Z) (a0 := a0) (Or.inr (own_w hw 29 rfl)) (Or.inr (own_w hw 13 rfl)) (by decide) (t := (.array .long)) (t' := .int) (by decide) (by decide)
  have f17_5 := f9_5.other W16 (Or.inr sl21)
  have K22 : Keep h0 h16 [a1] := K14.wr W16 (Or.inl (List.mem_of_getElem? (i := 0) rfl))
  have N23 := Fr.snoc X16 N15 g1
  have Fw16 : Fld Z h16 a1 "com/example/paired_paths/pairedpaths/lts/PackedInts" "largest" "I" (.int (0 : Int32)) := f9_2.same W16
  refine own_st st16 ?_
  show own_Fin p e below G (T16.setTop (mkF m 37 #[rv a1, iv (4 : Int32), iv (0 : Int32)] []))
  refine own_st (fun _ k => XS.aloadN X16.here hx rfl (hb hby d1_37) rfl rfl k) ?_
  show own_Fin p e below G (T16.setTop (mkF m 38 #[rv a1, iv (4 : Int32), iv (0 : Int32)] [(.ref a1)]))
  refine own_st (fun _ k => XS.bipush X16.here hx rfl (hb hby d1_38) k) ?_
  show own_Fin p e below G (T16.setTop (mkF m 40 #[rv a1, iv (4 : Int32), iv (0 : Int32)] [(.int (32 : Int32)), (.ref a1)]))
  refine own_st (fun _ k => XS.iloadN X16.here hx rfl (hb hby d1_40) rfl  k) ?_
  show own_Fin p e below G (T16.setTop (mkF m 41 #[rv a1, iv (4 : Int32), iv (0 : Int32)] [(.int (0 : Int32)), (.int (32 : Int32)), (.ref a1)]))
  obtain ⟨_, _, ⟨T24, L24, k24, n24⟩, -, X24, ⟨Lc24, hQ24, l24, y24, z24⟩, st24⟩ := Jvm.LawKit.callS X16 hx (y := own_y0) hown (mvT hZ (own_w hw 14 rfl)) (mvT hZ (own_w hw 15 rfl)) (mvT hZ (own_w hw 16 rfl)) (mvT hZ (own_w hw 17 rfl)) (by decide) (backOf (W := 2) (rm_nlz l Z a0 hw []  h16 n0 (Nat.le_trans Z0 K22.1) ) hZ (own_w hw 17 rfl) (own_w hw 16 rfl) (by decide) (by decide)) (g := (mkF m 41 #[rv a1, iv (4 : Int32), iv (0 : Int32)] [(.int (0 : Int32)), (.int (32 : Int32)), (.ref a1)])) rfl (by rw [hml]; rfl) (argsL := [(.int (0 : Int32))]) (rest := [(.int (32 : Int32)), (.ref a1)]) (lenOf pd__I_I_227 rfl) rfl (by show 2 * 0 + _ ≤ _; exact Nat.le_of_eq rfl) (hb hby d1_41) (fun _ _ => ⟨rfl, e16, (by decide : 0 + 0 ≤ _), (by decide : 0 + 0 ≤ _)⟩)
  dsimp only [Pt.U, Pt.locs, Pt.cells, Pt.slots] at X24 l24 y24 z24 st24 hQ24
  subst l24 y24 z24
  obtain ⟨rfl, N24q, e24⟩ := hQ24
  skip
  have N24 := Fr.app N23 N24q
  refine own_st st24 ?_
  show own_Fin p e below G (T24.setTop (mkF m 44 #[rv a1, iv (4 : Int32), iv (0 : Int32)] [(.int (32 : Int32)), (.int (32 : Int32)), (.ref a1)]))
  refine own_st (fun _ k => XS.isub X24.here hx rfl (hb hby d1_44) rfl k) ?_
  show own_Fin p e below G (T24.setTop (mkF m 45 #[rv a1, iv (4 : Int32), iv (0 : Int32)] [(.int (0 : Int32)), (.ref a1)]))
  obtain ⟨T25, h25, X25, e25, W25, st25⟩ := putF X24 hx hZ hown (host := "") (Or.inl (own_w hw 18 rfl)) Via.refl e24 f17_3 f17_0 (Or.inr ⟨(own_w hw 19 rfl), rfl, hnm⟩) (own_w hw 2 rfl) (ty := .int) (by decide) rfl rfl (g := (mkF m 45 #[rv a1, iv (4 : Int32), iv (0 : Int32)] [(.int (0 : Int32)), (.ref a1)])) rfl rfl (hb hby d1_45)
  have f26_0 := f17_0.wr W25
  have sl27 := slot_ne (Z := Z) (a0 := a0) (Or.inr (own_w hw 11 rfl)) (Or.inr (own_w hw 19 rfl)) (by decide) (t := .int) (t' := .int) (by decide) (by decide)
  have f26_1 := f17_1.other W25 (Or.inr sl27)
  have sl28 := slot_ne (Z := Z) (a0 := a0) (Or.inr (own_w hw 13 rfl)) (Or.inr (own_w hw 19 rfl)) (by decide) (t := .int) (t' := .int) (by decide) (by decide)
  have f26_2 := Fw16.other W25 (Or.inr sl28)
  have sl29 := slot_ne (Z := Z) (a0 := a0) (Or.inr (own_w hw 21 rfl)) (Or.inr (own_w hw 19 rfl)) (by decide) (t := .long) (t' := .int) (by decide) (by decide)
  have f26_4 := f17_4.other W25 (Or.inr sl29)
  have sl30 := slot_ne (Z := Z) (a0 := a0) (Or.inr (own_w hw 29 rfl)) (Or.inr (own_w hw 19 rfl)) (by decide) (t := (.array .long)) (t' := .int) (by decide) (by decide)
  have f26_5 := f17_5.other W25 (Or.inr sl30)
  have K31 : Keep h0 h25 [a1] := K22.wr W25 (Or.inl (List.mem_of_getElem? (i := 0) rfl))
  have N32 := Fr.snoc X25 N24 g1
  have Fw25 : Fld Z h25 a1 "com/example/paired_paths/pairedpaths/lts/PackedInts" "width" "I" (.int (0 : Int32)) := f17_3.same W25
  refine own_st st25 ?_
  show own_Fin p e below G (T25.setTop (mkF m 48 #[rv a1, iv (4 : Int32), iv (0 : Int32)] []))
  refine own_st (fun _ k => XS.aloadN X25.here hx rfl (hb hby d1_48) rfl rfl k) ?_
  show own_Fin p e below G (T25.setTop (mkF m 49 #[rv a1, iv (4 : Int32), iv (0 : Int32)] [(.ref a1)]))
  refine own_st (fun _ k => XS.lconst X25.here hx rfl (hb hby d1_49) k) ?_
  show own_Fin p e below G (T25.setTop (mkF m 50 #[rv a1, iv (4 : Int32), iv (0 : Int32)] [(.long (1 : Int64)), (.ref a1)]))
  refine own_st (fun _ k => XS.aloadN X25.here hx rfl (hb hby d1_50) rfl rfl k) ?_
  show own_Fin p e below G (T25.setTop (mkF m 51 #[rv a1, iv (4 : Int32), iv (0 : Int32)] [(.ref a1), (.long (1 : Int64)), (.ref a1)]))
  obtain ⟨T33, X33, e33, st33⟩ := getF X25 hx hZ hown (host := "") (Or.inl (own_w hw 18 rfl)) Via.refl e25 Fw25 (g := (mkF m 51 #[rv a1, iv (4 : Int32), iv (0 : Int32)] [(.ref a1), (.long (1 : Int64)), (.ref a1)])) rfl rfl (hb hby d1_51)
  refine own_st st33 ?_
  show own_Fin p e below G (T33.setTop (mkF m 54 #[rv a1, iv (4 : Int32), iv (0 : Int32)] [(.int (0 : Int32)), (.long (1 : Int64)), (.ref a1)]))
  refine own_st (fun _ k => XS.lshl X33.here hx rfl (hb hby d1_54) rfl k) ?_
  show own_Fin p e below G (T33.setTop (mkF m 55 #[rv a1, iv (4 : Int32), iv (0 : Int32)] [(.long (1 : Int64)), (.ref a1)]))
  refine own_st (fun _ k => XS.lconst X33.here hx rfl (hb hby d1_55) k) ?_
  show own_Fin p e below G (T33.setTop (mkF m 56 #[rv a1, iv (4 : Int32), iv (0 : Int32)] [(.long (1 : Int64)), (.long (1 : Int64)), (.ref a1)]))
  refine own_st (fun _ k => XS.lsub X33.here hx rfl (hb hby d1_56) rfl k) ?_
  show own_Fin p e below G (T33.setTop (mkF m 57 #[rv a1, iv (4 : Int32), iv (0 : Int32)] [(.long (0 : Int64)), (.ref a1)]))
  obtain ⟨T34, h34, X34, e34, W34, st34⟩ := putF X33 hx hZ hown (host := "") (Or.inl (own_w hw 20 rfl)) Via.refl e33 f26_4 f26_0 (Or.inr ⟨(own_w hw 21 rfl), rfl, hnm⟩) (own_w hw 2 rfl) (ty := .long) (by decide) rfl rfl (g := (mkF m 57 #[rv a1, iv (4 : Int32), iv (0 : Int32)] [(.long (0 : Int64)), (.ref a1)])) rfl rfl (hb hby d1_57)
  have f35_0 := f26_0.wr W34
  have sl36 := slot_ne (Z := Z) (a0 := a0) (Or.inr (own_w hw 11 rfl)) (Or.inr (own_w hw 21 rfl)) (by decide) (t := .int) (t' := .long) (by decide) (by decide)
  have f35_1 := f26_1.other W34 (Or.inr sl36)
  have sl37 := slot_ne (Z := Z) (a0 := a0) (Or.inr (own_w hw 13 rfl)) (Or.inr (own_w hw 21 rfl)) (by decide) (t := .int) (t' := .long) (by decide) (by decide)
  have f35_2 := f26_2.other W34 (Or.inr sl37)
  have sl38 := slot_ne (Z := Z) (a0 := a0) (Or.inr (own_w hw 19 rfl)) (Or.inr (own_w hw 21 rfl)) (by decide) (t := .int) (t' := .long) (by decide) (by decide)
  have f35_3 := Fw25.other W34 (Or.inr sl38)
  have sl39 := slot_ne (Z := Z) (a0 := a0) (Or.inr (own_w hw 29 rfl)) (Or.inr (own_w hw 21 rfl)) (by decide) (t := (.array .long)) (t' := .long) (by decide) (by decide)
  have f35_5 := f26_5.other W34 (Or.inr sl39)
  have K40 : Keep h0 h34 [a1] := K31.wr W34 (Or.inl (List.mem_of_getElem? (i := 0) rfl))
  have N41 := Fr.snoc X34 N32 g1
  have Fw34 : Fld Z h34 a1 "com/example/paired_paths/pairedpaths/lts/PackedInts" "mask" "J" (.long (0 : Int64)) := f26_4.same W34
  refine own_st st34 ?_
  show own_Fin p e below G (T34.setTop (mkF m 60 #[rv a1, iv (4 : Int32), iv (0 : Int32)] []))
  refine own_st (fun _ k => XS.aloadN X34.here hx rfl (hb hby d1_60) rfl rfl k) ?_
  show own_Fin p e below G (T34.setTop (mkF m 61 #[rv a1, iv (4 : Int32), iv (0 : Int32)] [(.ref a1)]))
  refine own_st (fun _ k => XS.iloadN X34.here hx rfl (hb hby d1_61) rfl  k) ?_
  show own_Fin p e below G (T34.setTop (mkF m 62 #[rv a1, iv (4 : Int32), iv (0 : Int32)] [(.int (4 : Int32)), (.ref a1)]))
  refine own_st (fun _ k => XS.i2l X34.here hx rfl (hb hby d1_62) rfl k) ?_
  show own_Fin p e below G (T34.setTop (mkF m 63 #[rv a1, iv (4 : Int32), iv (0 : Int32)] [(.long (4 : Int64)), (.ref a1)]))
  refine own_st (fun _ k => XS.aloadN X34.here hx rfl (hb hby d1_63) rfl rfl k) ?_
  show own_Fin p e below G (T34.setTop (mkF m 64 #[rv a1, iv (4 : Int32), iv (0 : Int32)] [(.ref a1), (.long (4 : Int64)), (.ref a1)]))
  obtain ⟨T42, X42, e42, st42⟩ := getF X34 hx hZ hown (host := "") (Or.inl (own_w hw 18 rfl)) Via.refl e34 f35_3 (g := (mkF m 64 #[rv a1, iv (4 : Int32), iv (0 : Int32)] [(.ref a1), (.long (4 : Int64)), (.ref a1)])) rfl rfl (hb hby d1_64)
  refine own_st st42 ?_
  show own_Fin p e below G (T42.setTop (mkF m 67 #[rv a1, iv (4 : Int32), iv (0 : Int32)] [(.int (0 : Int32)), (.long (4 : Int64)), (.ref a1)]))
  refine own_st (fun _ k => XS.i2l X42.here hx rfl (hb hby d1_67) rfl k) ?_
  show own_Fin p e below G (T42.setTop (mkF m 68 #[rv a1, iv (4 : Int32), iv (0 : Int32)] [(.long (0 : Int64)), (.long (4 : Int64)), (.ref a1)]))
  refine own_st (fun _ k => XS.lmul X42.here hx rfl (hb hby d1_68) rfl k) ?_
  show own_Fin p e below G (T42.setTop (mkF m 69 #[rv a1, iv (4 : Int32), iv (0 : Int32)] [(.long (0 : Int64)), (.ref a1)]))
  refine own_st (fun _ k => own_ldcJ X42 hx hZ hown (own_w hw 22 rfl) (g := (mkF m 69 #[rv a1, iv (4 : Int32), iv (0 : Int32)] [(.long (0 : Int64)), (.ref a1)])) rfl (hb hby d1_69) k) ?_
  show own_Fin p e below G (T42.setTop (mkF m 72 #[rv a1, iv (4 : Int32), iv (0 : Int32)] [(.long (63 : Int64)), (.long (0 : Int64)), (.ref a1)]))
  refine own_st (fun _ k => XS.ladd X42.here hx rfl (hb hby d1_72) rfl k) ?_
  show own_Fin p e below G (T42.setTop (mkF m 73 #[rv a1, iv (4 : Int32), iv (0 : Int32)] [(.long (63 : Int64)), (.ref a1)]))
  refine own_st (fun _ k => XS.bipush X42.here hx rfl (hb hby d1_73) k) ?_
  show own_Fin p e below G (T42.setTop (mkF m 75 #[rv a1, iv (4 : Int32), iv (0 : Int32)] [(.int (6 : Int32)), (.long (63 : Int64)), (.ref a1)]))
  refine own_st (fun _ k => XS.lushr X42.here hx rfl (hb hby d1_75) rfl k) ?_
  show own_Fin p e below G (T42.setTop (mkF m 76 #[rv a1, iv (4 : Int32), iv (0 : Int32)] [(.long (0 : Int64)), (.ref a1)]))
  refine own_st (fun _ k => XS.l2i X42.here hx rfl (hb hby d1_76) rfl k) ?_
  show own_Fin p e below G (T42.setTop (mkF m 77 #[rv a1, iv (4 : Int32), iv (0 : Int32)] [(.int (0 : Int32)), (.ref a1)]))
  refine own_st (fun _ k => XS.iconst X42.here hx rfl (hb hby d1_77) k) ?_
  show own_Fin p e below G (T42.setTop (mkF m 78 #[rv a1, iv (4 : Int32), iv (0 : Int32)] [(.int (1 : Int32)), (.int (0 : Int32)), (.ref a1)]))
  obtain ⟨_, _, ⟨T43, L43, k43, n43⟩, -, X43, ⟨Lc43, hQ43, l43, y43, z43⟩, st43⟩ := Jvm.LawKit.callS X42 hx (y := own_y1) hown (mvT hZ (own_w hw 23 rfl)) (mvT hZ (own_w hw 24 rfl)) (mvT hZ (own_w hw 25 rfl)) (mvT hZ (own_w hw 26 rfl)) (by decide) (backOf (W := 1) (rm_max l Z a0 hw []  h34 n0 (Nat.le_trans Z0 K40.1) ) hZ (own_w hw 26 rfl) (own_w hw 25 rfl) (by decide) (by decide)) (g := (mkF m 78 #[rv a1, iv (4 : Int32), iv (0 : Int32)] [(.int (1 : Int32)), (.int (0 : Int32)), (.ref a1)])) rfl (by rw [hml]; rfl) (argsL := [(.int (0 : Int32)), (.int (1 : Int32))]) (rest := [(.ref a1)]) (lenOf pd__II_I_300 rfl) rfl (by show 2 * 0 + _ ≤ _; exact Nat.le_of_eq rfl) (hb hby d1_78) (fun _ _ => ⟨rfl, e42, (by decide : 0 + 0 ≤ _), (by decide : 0 + 0 ≤ _)⟩)
  dsimp only [Pt.U, Pt.locs, Pt.cells, Pt.slots] at X43 l43 y43 z43 st43 hQ43
  subst l43 y43 z43
  obtain ⟨rfl, N43q, e43⟩ := hQ43
  skip
  have N43 := Fr.app N41 N43q
  refine own_st st43 ?_
  show own_Fin p e below G (T43.setTop (mkF m 81 #[rv a1, iv (4 : Int32), iv (0 : Int32)] [(.int (1 : Int32)), (.ref a1)]))
  refine own_st (fun _ k => XS.iconst X43.here hx rfl (hb hby d1_81) k) ?_
  show own_Fin p e below G (T43.setTop (mkF m 82 #[rv a1, iv (4 : Int32), iv (0 : Int32)] [(.int (1 : Int32)), (.int (1 : Int32)), (.ref a1)]))
  refine own_st (fun _ k => XS.iadd X43.here hx rfl (hb hby d1_82) rfl k) ?_
  show own_Fin p e below G (T43.setTop (mkF m 83 #[rv a1, iv (4 : Int32), iv (0 : Int32)] [(.int (2 : Int32)), (.ref a1)]))
  obtain ⟨T44, h44, k44, X44, e44, E44, A44, st44⟩ := newP X43 hx hZ (own_w hw 27 rfl) e43 (g := (mkF m 83 #[rv a1, iv (4 : Int32), iv (0 : Int32)] [(.int (2 : Int32)), (.ref a1)])) rfl (hb hby d1_83) rfl (by decide) (cap := 2) (by decide) (by decide) (by decide) (by decide)
  obtain ⟨b44, g44⟩ : ∃ z, z = h34.size := ⟨_, rfl⟩
  rw [← g44] at A44 st44
  have ne_a1_b44 : a1 ≠ b44 := Nat.ne_of_lt (Nat.lt_of_lt_of_le f35_0.lt (Nat.le_of_eq g44.symm))
  have sz_b44 : h0.size ≤ b44 := Nat.le_trans K40.1 (Nat.le_of_eq g44.symm)
  have g_b44 : n0 ≤ b44 := Nat.le_trans Z0 sz_b44
  have f45_0 := f35_0.ext E44
  have f45_1 := f35_1.ext E44
  have f45_2 := f35_2.ext E44
  have f45_3 := f35_3.ext E44
  have f45_4 := Fw34.ext E44
  have f45_5 := f35_5.ext E44
  have K46 : Keep h0 h44 [a1] := K40.ext E44
  have V44 : own_AV Z h44 b44 .long (own_js [(0 : Int64), (0 : Int64)]) := own_AV_newJ A44
  refine own_st st44 ?_
  show own_Fin p e below G (T44.setTop (mkF m 85 #[rv a1, iv (4 : Int32), iv (0 : Int32)] [(.ref b44), (.ref a1)]))
  obtain ⟨T47, h47, X47, e47, W47, st47⟩ := putF X44 hx hZ hown (host := "") (Or.inl (own_w hw 28 rfl)) Via.refl e44 f45_5 f45_0 (Or.inr ⟨(own_w hw 29 rfl), rfl, hnm⟩) (own_w hw 2 rfl) (ty := (.array .long)) (by decide) rfl rfl (g := (mkF m 85 #[rv a1, iv (4 : Int32), iv (0 : Int32)] [(.ref b44), (.ref a1)])) rfl rfl (hb hby d1_85)
  have f48_0 := f45_0.wr W47
  have sl49 := slot_ne (Z := Z) (a0 := a0) (Or.inr (own_w hw 11 rfl)) (Or.inr (own_w hw 29 rfl)) (by decide) (t := .int) (t' := (.array .long)) (by decide) (by decide)
  have f48_1 := f45_1.other W47 (Or.inr sl49)
  have sl50 := slot_ne (Z := Z) (a0 := a0) (Or.inr (own_w hw 13 rfl)) (Or.inr (own_w hw 29 rfl)) (by decide) (t := .int) (t' := (.array .long)) (by decide) (by decide)
  have f48_2 := f45_2.other W47 (Or.inr sl50)
  have sl51 := slot_ne (Z := Z) (a0 := a0) (Or.inr (own_w hw 19 rfl)) (Or.inr (own_w hw 29 rfl)) (by decide) (t := .int) (t' := (.array .long)) (by decide) (by decide)
  have f48_3 := f45_3.other W47 (Or.inr sl51)
  have sl52 := slot_ne (Z := Z) (a0 := a0) (Or.inr (own_w hw 21 rfl)) (Or.inr (own_w hw 29 rfl)) (by decide) (t := .long) (t' := (.array .long)) (by decide) (by decide)
  have f48_4 := f45_4.other W47 (Or.inr sl52)
  have f48_6 := V44.other W47 (Ne.symm ne_a1_b44)
  have K53 : Keep h0 h47 [a1] := K46.wr W47 (Or.inl (List.mem_of_getElem? (i := 0) rfl))
  have N54 := Fr.snoc X47 N43 g1
  have Fw47 : Fld Z h47 a1 "com/example/paired_paths/pairedpaths/lts/PackedInts" "words" "[J" (.ref b44) := f45_5.same W47
  refine own_st st47 ?_
  show own_Fin p e below G (T47.setTop (mkF m 88 #[rv a1, iv (4 : Int32), iv (0 : Int32)] []))
  refine own_out X47 Bd.notSynchronized (v := none) (fun _ => rfl) hG (fun fs hr => X47.returnOut hx Bd.returns (hb hby d1_88) hr) (by decide) (by decide) ?_
  exact ⟨rfl, N54, e47.symm ▸ K53⟩

def Qrm_pi0 (Z : State) (a1 : Addr) (h0 : Heap) (n0 : Nat) (v : Option Value) (h : Heap) (L : List Loc) : Prop := v = none ∧ Fr n0 L ∧ Keep h0 h [a1]
set_option maxRecDepth 65536 in
set_option maxHeartbeats 40000000 in
theorem rm_pi0 (l : Launch) (Z : State) (a0 : Array Value) (hw : ∀ d ∈ tables_1, d.before a0 Z = true) (ws : List Jvm.Cond) (a1 : Addr) (h0 : Heap) (n0 : Nat) (Z0 : n0 ≤ h0.size) (E1 : Exa Z h0 a1 "com/example/paired_paths/pairedpaths/lts/PackedInts") (F_length : Fld Z h0 a1 "com/example/paired_paths/pairedpaths/lts/PackedInts" "length" "I" (.int (0 : Int32))) (F_largest : Fld Z h0 a1 "com/example/paired_paths/pairedpaths/lts/PackedInts" "largest" "I" (.int (0 : Int32))) (F_width : Fld Z h0 a1 "com/example/paired_paths/pairedpaths/lts/PackedInts" "width" "I" (.int (0 : Int32))) (F_mask : Fld Z h0 a1 "com/example/paired_paths/pairedpaths/lts/PackedInts" "mask" "J" (.long (0 : Int64))) (F_words : Fld Z h0 a1 "com/example/paired_paths/pairedpaths/lts/PackedInts" "words" "[J" .null) (g1 : n0 ≤ a1) :
    MetFree l own_y4 (head1 (Jvm.Cond.code own_y4 prog_76_method_1_code 3 none :: ws) ({ frames := 1, cells := 1, slots := 2, locals := 15 } : Room)) (fun a U => a = #[(.ref a1), (.int (0 : Int32)), (.int (0 : Int32))] ∧ Z.Warmed39 U.vm ∧ U.heap = h0) (fun _ _ _ _ _ => True) (fun _ U o U' => ∃ v L, o = .returned v ∧ Qrm_pi0 Z a1 h0 n0 v U'.heap L ∧ FrameEnd U o U' L ({ frames := 1, cells := 1, slots := 2, locals := 15 } : Room).cells ({ frames := 1, cells := 1, slots := 2, locals := 15 } : Room).slots) := by
  refine MetFree.of_bodySF (plainFor_of_name pn_com_example_paired_paths_pairedpaths_lts_PackedInts) hisR ?_
  intro p e s m args below meth c s₁ Bd hml0 hP hK
  obtain ⟨rfl, hZ, hh⟩ := hP
  have hx := Bd.exec
  have hby := Bd.bytes
  have hml : c.maxLocals = 3 := hml0
  have hown : s.vm.findClass "com/example/paired_paths/pairedpaths/lts/PackedInts" = some m.cls := findClass_of_methodNamed Bd.named
  have hnm := (name_of_methodNamed Bd.named Bd.method).1
  have X0 : Stand p l e ({ frames := 1, cells := 1, slots := 2, locals := 15 } : Room) s m #[(.ref a1), (.int (0 : Int32)), (.int (0 : Int32))] below meth c s₁ [] 0 0 := Stand.of_body Bd
  have e0 : s₁.heap = h0 := by rw [← hh, Bd.state]; rfl
  have N0 := Fr.nil n0
  have K0 : Keep h0 h0 [a1] := Keep.refl _ _
  refine own_start (Qk := Qrm_pi0 Z a1 h0 n0) (fun G hG => ?_)
  refine own_st (fun _ k => castTop (ef_1_RII m a1 (0 : Int32) (0 : Int32)) k) ?_
  show own_Fin p e below G (s₁.setTop (mkF m 0 #[rv a1, iv (0 : Int32), iv (0 : Int32)] []))
  refine own_st (fun _ k => XS.aloadN X0.here hx rfl (hb hby d1_0) rfl rfl k) ?_
  show own_Fin p e below G (s₁.setTop (mkF m 1 #[rv a1, iv (0 : Int32), iv (0 : Int32)] [(.ref a1)]))
  obtain ⟨T55, X55, e55, st55⟩ := initO X0 hx hZ hown (own_w hw 7 rfl) (own_w hw 8 rfl) (own_w hw 9 rfl) e0 (g := (mkF m 1 #[rv a1, iv (0 : Int32), iv (0 : Int32)] [(.ref a1)])) rfl (by rw [hml]; rfl) rfl (hb hby d1_1) (by decide) (W := 0) (by show 2 * 0 + _ ≤ _; exact Nat.le_of_eq rfl) (by decide)
  refine own_st st55 ?_
  show own_Fin p e below G (T55.setTop (mkF m 4 #[rv a1, iv (0 : Int32), iv (0 : Int32)] []))
  refine own_st (fun _ k => XS.iloadN X55.here hx rfl (hb hby d1_4) rfl  k) ?_
  show own_Fin p e below G (T55.setTop (mkF m 5 #[rv a1, iv (0 : Int32), iv (0 : Int32)] [(.int (0 : Int32))]))
  refine own_st (fun _ k => XS.ifNo X55.here hx rfl (hb hby d1_5) rfl ((if0 _ _).trans (flt (by decide : ¬ ((0 : Int32) < (0 : Int32)))).1) k) ?_
  show own_Fin p e below G (T55.setTop (mkF m 8 #[rv a1, iv (0 : Int32), iv (0 : Int32)] []))
  refine own_st (fun _ k => XS.iloadN X55.here hx rfl (hb hby d1_8) rfl  k) ?_
  show own_Fin p e below G (T55.setTop (mkF m 9 #[rv a1, iv (0 : Int32), iv (0 : Int32)] [(.int (0 : Int32))]))
  refine own_st (fun _ k => XS.ifYes X55.here hx rfl (pc0 := 9) (pc' := 27) rfl (hb hby d1_9) rfl ((if0 _ _).trans (flt (by decide : ¬ ((0 : Int32) < (0 : Int32)))).2.1) (by decide) (by decide) k) ?_
  show own_Fin p e below G (T55.setTop (mkF m 27 #[rv a1, iv (0 : Int32), iv (0 : Int32)] []))
  refine own_st (fun _ k => XS.aloadN X55.here hx rfl (hb hby d1_27) rfl rfl k) ?_
  show own_Fin p e below G (T55.setTop (mkF m 28 #[rv a1, iv (0 : Int32), iv (0 : Int32)] [(.ref a1)]))
  refine own_st (fun _ k => XS.iloadN X55.here hx rfl (hb hby d1_28) rfl  k) ?_
  show own_Fin p e below G (T55.setTop (mkF m 29 #[rv a1, iv (0 : Int32), iv (0 : Int32)] [(.int (0 : Int32)), (.ref a1)]))
  obtain ⟨T56, h56, X56, e56, W56, st56⟩ := putF X55 hx hZ hown (host := "") (Or.inl (own_w hw 10 rfl)) Via.refl e55 F_length E1 (Or.inr ⟨(own_w hw 11 rfl), rfl, hnm⟩) (own_w hw 2 rfl) (ty := .int) (by decide) rfl rfl (g := (mkF m 29 #[rv a1, iv (0 : Int32), iv (0 : Int32)] [(.int (0 : Int32)), (.ref a1)])) rfl rfl (hb hby d1_29)
  have f57_0 := E1.wr W56
  have sl58 := slot_ne (Z := Z) (a0 := a0) (Or.inr (own_w hw 13 rfl)) (Or.inr (own_w hw 11 rfl)) (by decide) (t := .int) (t' := .int) (by decide) (by decide)
  have f57_2 := F_largest.other W56 (Or.inr sl58)
  have sl59 := slot_ne (Z := Z) (a0 := a0) (Or.inr (own_w hw 19 rfl)) (Or.inr (own_w hw 11 rfl)) (by decide) (t := .int) (t' := .int) (by decide) (by decide)
  have f57_3 := F_width.other W56 (Or.inr sl59)
  have sl60 := slot_ne (Z := Z) (a0 := a0) (Or.inr (own_w hw 21 rfl)) (Or.inr (own_w hw 11 rfl)) (by decide) (t := .long) (t' := .int) (by decide) (by decide)
  have f57_4 := F_mask.other W56 (Or.inr sl60)
  have sl61 := slot_ne (Z := Z) (a0 := a0) (Or.inr (own_w hw 29 rfl)) (Or.inr (own_w hw 11 rfl)) (by decide) (t := (.array .long)) (t' := .int) (by decide) (by decide)
  have f57_5 := F_words.other W56 (Or.inr sl61)
  have K62 : Keep h0 h56 [a1] := K0.wr W56 (Or.inl (List.mem_of_getElem? (i := 0) rfl))
  have N63 := Fr.snoc X56 N0 g1
  have Fw56 : Fld Z h56 a1 "com/example/paired_paths/pairedpaths/lts/PackedInts" "length" "I" (.int (0 : Int32)) := F_length.same W56
  refine own_st st56 ?_
  show own_Fin p e below G (T56.setTop (mkF m 32 #[rv a1, iv (0 : Int32), iv (0 : Int32)] []))
  refine own_st (fun _ k => XS.aloadN X56.here hx rfl (hb hby d1_32) rfl rfl k) ?_
  show own_Fin p e below G (T56.setTop (mkF m 33 #[rv a1, iv (0 : Int32), iv (0 : Int32)] [(.ref a1)]))
  refine own_st (fun _ k => XS.iloadN X56.here hx rfl (hb hby d1_33) rfl  k) ?_
  show own_Fin p e below G (T56.setTop (mkF m 34 #[rv a1, iv (0 : Int32), iv (0 : Int32)] [(.int (0 : Int32)), (.ref a1)]))
  obtain ⟨T64, h64, X64, e64, W64, st64⟩ := putF X56 hx hZ hown (host := "") (Or.inl (own_w hw 12 rfl)) Via.refl e56 f57_2 f57_0 (Or.inr ⟨(own_w hw 13 rfl), rfl, hnm⟩) (own_w hw 2 rfl) (ty := .int) (by decide) rfl rfl (g := (mkF m 34 #[rv a1, iv (0 : Int32), iv (0 : Int32)] [(.int (0 : Int32)), (.ref a1)])) rfl rfl (hb hby d1_34)
  have f65_0 := f57_0.wr W64
  have sl66 := slot_ne (Z := Z) (a0 := a0) (Or.inr (own_w hw 11 rfl)) (Or.inr (own_w hw 13 rfl)) (by decide) (t := .int) (t' := .int) (by decide) (by decide)
  have f65_1 := Fw56.other W64 (Or.inr sl66)
  have sl67 := slot_ne (Z := Z) (a0 := a0) (Or.inr (own_w hw 19 rfl)) (Or.inr (own_w hw 13 rfl)) (by decide) (t := .int) (t' := .int) (by decide) (by decide)
  have f65_3 := f57_3.other W64 (Or.inr sl67)
  have sl68 := slot_ne (Z := Z) (a0 := a0) (Or.inr (own_w hw 21 rfl)) (Or.inr (own_w hw 13 rfl)) (by decide) (t := .long) (t' := .int) (by decide) (by decide)
  have f65_4 := f57_4.other W64 (Or.inr sl68)
  have sl69 := slot_ne (Z := Z) (a0 := a0) (Or.inr (own_w hw 29 rfl)) (Or.inr (own_w hw 13 rfl)) (by decide) (t := (.array .long)) (t' := .int) (by decide) (by decide)
  have f65_5 := f57_5.other W64 (Or.inr sl69)
  have K70 : Keep h0 h64 [a1] := K62.wr W64 (Or.inl (List.mem_of_getElem? (i := 0) rfl))
  have N71 := Fr.snoc X64 N63 g1
  have Fw64 : Fld Z h64 a1 "com/example/paired_paths/pairedpaths/lts/PackedInts" "largest" "I" (.int (0 : Int32)) := f57_2.same W64
  refine own_st st64 ?_
  show own_Fin p e below G (T64.setTop (mkF m 37 #[rv a1, iv (0 : Int32), iv (0 : Int32)] []))
  refine own_st (fun _ k => XS.aloadN X64.here hx rfl (hb hby d1_37) rfl rfl k) ?_
  show own_Fin p e below G (T64.setTop (mkF m 38 #[rv a1, iv (0 : Int32), iv (0 : Int32)] [(.ref a1)]))
  refine own_st (fun _ k => XS.bipush X64.here hx rfl (hb hby d1_38) k) ?_
  show own_Fin p e below G (T64.setTop (mkF m 40 #[rv a1, iv (0 : Int32), iv (0 : Int32)] [(.int (32 : Int32)), (.ref a1)]))
  refine own_st (fun _ k => XS.iloadN X64.here hx rfl (hb hby d1_40) rfl  k) ?_
  show own_Fin p e below G (T64.setTop (mkF m 41 #[rv a1, iv (0 : Int32), iv (0 : Int32)] [(.int (0 : Int32)), (.int (32 : Int32)), (.ref a1)]))
  obtain ⟨_, _, ⟨T72, L72, k72, n72⟩, -, X72, ⟨Lc72, hQ72, l72, y72, z72⟩, st72⟩ := Jvm.LawKit.callS X64 hx (y := own_y0) hown (mvT hZ (own_w hw 14 rfl)) (mvT hZ (own_w hw 15 rfl)) (mvT hZ (own_w hw 16 rfl)) (mvT hZ (own_w hw 17 rfl)) (by decide) (backOf (W := 2) (rm_nlz l Z a0 hw []  h64 n0 (Nat.le_trans Z0 K70.1) ) hZ (own_w hw 17 rfl) (own_w hw 16 rfl) (by decide) (by decide)) (g := (mkF m 41 #[rv a1, iv (0 : Int32), iv (0 : Int32)] [(.int (0 : Int32)), (.int (32 : Int32)), (.ref a1)])) rfl (by rw [hml]; rfl) (argsL := [(.int (0 : Int32))]) (rest := [(.int (32 : Int32)), (.ref a1)]) (lenOf pd__I_I_227 rfl) rfl (by show 2 * 0 + _ ≤ _; exact Nat.le_of_eq rfl) (hb hby d1_41) (fun _ _ => ⟨rfl, e64, (by decide : 0 + 0 ≤ _), (by decide : 0 + 0 ≤ _)⟩)
  dsimp only [Pt.U, Pt.locs, Pt.cells, Pt.slots] at X72 l72 y72 z72 st72 hQ72
  subst l72 y72 z72
  obtain ⟨rfl, N72q, e72⟩ := hQ72
  skip
  have N72 := Fr.app N71 N72q
  refine own_st st72 ?_
  show own_Fin p e below G (T72.setTop (mkF m 44 #[rv a1, iv (0 : Int32), iv (0 : Int32)] [(.int (32 : Int32)), (.int (32 : Int32)), (.ref a1)]))
  refine own_st (fun _ k => XS.isub X72.here hx rfl (hb hby d1_44) rfl k) ?_
  show own_Fin p e below G (T72.setTop (mkF m 45 #[rv a1, iv (0 : Int32), iv (0 : Int32)] [(.int (0 : Int32)), (.ref a1)]))
  obtain ⟨T73, h73, X73, e73, W73, st73⟩ := putF X72 hx hZ hown (host := "") (Or.inl (own_w hw 18 rfl)) Via.refl e72 f65_3 f65_0 (Or.inr ⟨(own_w hw 19 rfl), rfl, hnm⟩) (own_w hw 2 rfl) (ty := .int) (by decide) rfl rfl (g := (mkF m 45 #[rv a1, iv (0 : Int32), iv (0 : Int32)] [(.int (0 : Int32)), (.ref a1)])) rfl rfl (hb hby d1_45)
  have f74_0 := f65_0.wr W73
  have sl75 := slot_ne (Z := Z) (a0 := a0) (Or.inr (own_w hw 11 rfl)) (Or.inr (own_w hw 19 rfl)) (by decide) (t := .int) (t' := .int) (by decide) (by decide)
  have f74_1 := f65_1.other W73 (Or.inr sl75)
  have sl76 := slot_ne (Z := Z) (a0 := a0) (Or.inr (own_w hw 13 rfl)) (Or.inr (own_w hw 19 rfl)) (by decide) (t := .int) (t' := .int) (by decide) (by decide)
  have f74_2 := Fw64.other W73 (Or.inr sl76)
  have sl77 := slot_ne (Z := Z) (a0 := a0) (Or.inr (own_w hw 21 rfl)) (Or.inr (own_w hw 19 rfl)) (by decide) (t := .long) (t' := .int) (by decide) (by decide)
  have f74_4 := f65_4.other W73 (Or.inr sl77)
  have sl78 := slot_ne (Z := Z) (a0 := a0) (Or.inr (own_w hw 29 rfl)) (Or.inr (own_w hw 19 rfl)) (by decide) (t := (.array .long)) (t' := .int) (by decide) (by decide)
  have f74_5 := f65_5.other W73 (Or.inr sl78)
  have K79 : Keep h0 h73 [a1] := K70.wr W73 (Or.inl (List.mem_of_getElem? (i := 0) rfl))
  have N80 := Fr.snoc X73 N72 g1
  have Fw73 : Fld Z h73 a1 "com/example/paired_paths/pairedpaths/lts/PackedInts" "width" "I" (.int (0 : Int32)) := f65_3.same W73
  refine own_st st73 ?_
  show own_Fin p e below G (T73.setTop (mkF m 48 #[rv a1, iv (0 : Int32), iv (0 : Int32)] []))
  refine own_st (fun _ k => XS.aloadN X73.here hx rfl (hb hby d1_48) rfl rfl k) ?_
  show own_Fin p e below G (T73.setTop (mkF m 49 #[rv a1, iv (0 : Int32), iv (0 : Int32)] [(.ref a1)]))
  refine own_st (fun _ k => XS.lconst X73.here hx rfl (hb hby d1_49) k) ?_
  show own_Fin p e below G (T73.setTop (mkF m 50 #[rv a1, iv (0 : Int32), iv (0 : Int32)] [(.long (1 : Int64)), (.ref a1)]))
  refine own_st (fun _ k => XS.aloadN X73.here hx rfl (hb hby d1_50) rfl rfl k) ?_
  show own_Fin p e below G (T73.setTop (mkF m 51 #[rv a1, iv (0 : Int32), iv (0 : Int32)] [(.ref a1), (.long (1 : Int64)), (.ref a1)]))
  obtain ⟨T81, X81, e81, st81⟩ := getF X73 hx hZ hown (host := "") (Or.inl (own_w hw 18 rfl)) Via.refl e73 Fw73 (g := (mkF m 51 #[rv a1, iv (0 : Int32), iv (0 : Int32)] [(.ref a1), (.long (1 : Int64)), (.ref a1)])) rfl rfl (hb hby d1_51)
  refine own_st st81 ?_
  show own_Fin p e below G (T81.setTop (mkF m 54 #[rv a1, iv (0 : Int32), iv (0 : Int32)] [(.int (0 : Int32)), (.long (1 : Int64)), (.ref a1)]))
  refine own_st (fun _ k => XS.lshl X81.here hx rfl (hb hby d1_54) rfl k) ?_
  show own_Fin p e below G (T81.setTop (mkF m 55 #[rv a1, iv (0 : Int32), iv (0 : Int32)] [(.long (1 : Int64)), (.ref a1)]))
  refine own_st (fun _ k => XS.lconst X81.here hx rfl (hb hby d1_55) k) ?_
  show own_Fin p e below G (T81.setTop (mkF m 56 #[rv a1, iv (0 : Int32), iv (0 : Int32)] [(.long (1 : Int64)), (.long (1 : Int64)), (.ref a1)]))
  refine own_st (fun _ k => XS.lsub X81.here hx rfl (hb hby d1_56) rfl k) ?_
  show own_Fin p e below G (T81.setTop (mkF m 57 #[rv a1, iv (0 : Int32), iv (0 : Int32)] [(.long (0 : Int64)), (.ref a1)]))
  obtain ⟨T82, h82, X82, e82, W82, st82⟩ := putF X81 hx hZ hown (host := "") (Or.inl (own_w hw 20 rfl)) Via.refl e81 f74_4 f74_0 (Or.inr ⟨(own_w hw 21 rfl), rfl, hnm⟩) (own_w hw 2 rfl) (ty := .long) (by decide) rfl rfl (g := (mkF m 57 #[rv a1, iv (0 : Int32), iv (0 : Int32)] [(.long (0 : Int64)), (.ref a1)])) rfl rfl (hb hby d1_57)
  have f83_0 := f74_0.wr W82
  have sl84 := slot_ne (Z := Z) (a0 := a0) (Or.inr (own_w hw 11 rfl)) (Or.inr (own_w hw 21 rfl)) (by decide) (t := .int) (t' := .long) (by decide) (by decide)
  have f83_1 := f74_1.other W82 (Or.inr sl84)
  have sl85 := slot_ne (Z := Z) (a0 := a0) (Or.inr (own_w hw 13 rfl)) (Or.inr (own_w hw 21 rfl)) (by decide) (t := .int) (t' := .long) (by decide) (by decide)
  have f83_2 := f74_2.other W82 (Or.inr sl85)
  have sl86 := slot_ne (Z := Z) (a0 := a0) (Or.inr (own_w hw 19 rfl)) (Or.inr (own_w hw 21 rfl)) (by decide) (t := .int) (t' := .long) (by decide) (by decide)
  have f83_3 := Fw73.other W82 (Or.inr sl86)
  have sl87 := slot_ne (Z := Z) (a0 := a0) (Or.inr (own_w hw 29 rfl)) (Or.inr (own_w hw 21 rfl)) (by decide) (t := (.array .long)) (t' := .long) (by decide) (by decide)
  have f83_5 := f74_5.other W82 (Or.inr sl87)
  have K88 : Keep h0 h82 [a1] := K79.wr W82 (Or.inl (List.mem_of_getElem? (i := 0) rfl))
  have N89 := Fr.snoc X82 N80 g1
  have Fw82 : Fld Z h82 a1 "com/example/paired_paths/pairedpaths/lts/PackedInts" "mask" "J" (.long (0 : Int64)) := f74_4.same W82
  refine own_st st82 ?_
  show own_Fin p e below G (T82.setTop (mkF m 60 #[rv a1, iv (0 : Int32), iv (0 : Int32)] []))
  refine own_st (fun _ k => XS.aloadN X82.here hx rfl (hb hby d1_60) rfl rfl k) ?_
  show own_Fin p e below G (T82.setTop (mkF m 61 #[rv a1, iv (0 : Int32), iv (0 : Int32)] [(.ref a1)]))
  refine own_st (fun _ k => XS.iloadN X82.here hx rfl (hb hby d1_61) rfl  k) ?_
  show own_Fin p e below G (T82.setTop (mkF m 62 #[rv a1, iv (0 : Int32), iv (0 : Int32)] [(.int (0 : Int32)), (.ref a1)]))
  refine own_st (fun _ k => XS.i2l X82.here hx rfl (hb hby d1_62) rfl k) ?_
  show own_Fin p e below G (T82.setTop (mkF m 63 #[rv a1, iv (0 : Int32), iv (0 : Int32)] [(.long (0 : Int64)), (.ref a1)]))
  refine own_st (fun _ k => XS.aloadN X82.here hx rfl (hb hby d1_63) rfl rfl k) ?_
  show own_Fin p e below G (T82.setTop (mkF m 64 #[rv a1, iv (0 : Int32), iv (0 : Int32)] [(.ref a1), (.long (0 : Int64)), (.ref a1)]))
  obtain ⟨T90, X90, e90, st90⟩ := getF X82 hx hZ hown (host := "") (Or.inl (own_w hw 18 rfl)) Via.refl e82 f83_3 (g := (mkF m 64 #[rv a1, iv (0 : Int32), iv (0 : Int32)] [(.ref a1), (.long (0 : Int64)), (.ref a1)])) rfl rfl (hb hby d1_64)
  refine own_st st90 ?_
  show own_Fin p e below G (T90.setTop (mkF m 67 #[rv a1, iv (0 : Int32), iv (0 : Int32)] [(.int (0 : Int32)), (.long (0 : Int64)), (.ref a1)]))
  refine own_st (fun _ k => XS.i2l X90.here hx rfl (hb hby d1_67) rfl k) ?_
  show own_Fin p e below G (T90.setTop (mkF m 68 #[rv a1, iv (0 : Int32), iv (0 : Int32)] [(.long (0 : Int64)), (.long (0 : Int64)), (.ref a1)]))
  refine own_st (fun _ k => XS.lmul X90.here hx rfl (hb hby d1_68) rfl k) ?_
  show own_Fin p e below G (T90.setTop (mkF m 69 #[rv a1, iv (0 : Int32), iv (0 : Int32)] [(.long (0 : Int64)), (.ref a1)]))
  refine own_st (fun _ k => own_ldcJ X90 hx hZ hown (own_w hw 22 rfl) (g := (mkF m 69 #[rv a1, iv (0 : Int32), iv (0 : Int32)] [(.long (0 : Int64)), (.ref a1)])) rfl (hb hby d1_69) k) ?_
  show own_Fin p e below G (T90.setTop (mkF m 72 #[rv a1, iv (0 : Int32), iv (0 : Int32)] [(.long (63 : Int64)), (.long (0 : Int64)), (.ref a1)]))
  refine own_st (fun _ k => XS.ladd X90.here hx rfl (hb hby d1_72) rfl k) ?_
  show own_Fin p e below G (T90.setTop (mkF m 73 #[rv a1, iv (0 : Int32), iv (0 : Int32)] [(.long (63 : Int64)), (.ref a1)]))
  refine own_st (fun _ k => XS.bipush X90.here hx rfl (hb hby d1_73) k) ?_
  show own_Fin p e below G (T90.setTop (mkF m 75 #[rv a1, iv (0 : Int32), iv (0 : Int32)] [(.int (6 : Int32)), (.long (63 : Int64)), (.ref a1)]))
  refine own_st (fun _ k => XS.lushr X90.here hx rfl (hb hby d1_75) rfl k) ?_
  show own_Fin p e below G (T90.setTop (mkF m 76 #[rv a1, iv (0 : Int32), iv (0 : Int32)] [(.long (0 : Int64)), (.ref a1)]))
  refine own_st (fun _ k => XS.l2i X90.here hx rfl (hb hby d1_76) rfl k) ?_
  show own_Fin p e below G (T90.setTop (mkF m 77 #[rv a1, iv (0 : Int32), iv (0 : Int32)] [(.int (0 : Int32)), (.ref a1)]))
  refine own_st (fun _ k => XS.iconst X90.here hx rfl (hb hby d1_77) k) ?_
  show own_Fin p e below G (T90.setTop (mkF m 78 #[rv a1, iv (0 : Int32), iv (0 : Int32)] [(.int (1 : Int32)), (.int (0 : Int32)), (.ref a1)]))
  obtain ⟨_, _, ⟨T91, L91, k91, n91⟩, -, X91, ⟨Lc91, hQ91, l91, y91, z91⟩, st91⟩ := Jvm.LawKit.callS X90 hx (y := own_y1) hown (mvT hZ (own_w hw 23 rfl)) (mvT hZ (own_w hw 24 rfl)) (mvT hZ (own_w hw 25 rfl)) (mvT hZ (own_w hw 26 rfl)) (by decide) (backOf (W := 1) (rm_max l Z a0 hw []  h82 n0 (Nat.le_trans Z0 K88.1) ) hZ (own_w hw 26 rfl) (own_w hw 25 rfl) (by decide) (by decide)) (g := (mkF m 78 #[rv a1, iv (0 : Int32), iv (0 : Int32)] [(.int (1 : Int32)), (.int (0 : Int32)), (.ref a1)])) rfl (by rw [hml]; rfl) (argsL := [(.int (0 : Int32)), (.int (1 : Int32))]) (rest := [(.ref a1)]) (lenOf pd__II_I_300 rfl) rfl (by show 2 * 0 + _ ≤ _; exact Nat.le_of_eq rfl) (hb hby d1_78) (fun _ _ => ⟨rfl, e90, (by decide : 0 + 0 ≤ _), (by decide : 0 + 0 ≤ _)⟩)
  dsimp only [Pt.U, Pt.locs, Pt.cells, Pt.slots] at X91 l91 y91 z91 st91 hQ91
  subst l91 y91 z91
  obtain ⟨rfl, N91q, e91⟩ := hQ91
  skip
  have N91 := Fr.app N89 N91q
  refine own_st st91 ?_
  show own_Fin p e below G (T91.setTop (mkF m 81 #[rv a1, iv (0 : Int32), iv (0 : Int32)] [(.int (1 : Int32)), (.ref a1)]))
  refine own_st (fun _ k => XS.iconst X91.here hx rfl (hb hby d1_81) k) ?_
  show own_Fin p e below G (T91.setTop (mkF m 82 #[rv a1, iv (0 : Int32), iv (0 : Int32)] [(.int (1 : Int32)), (.int (1 : Int32)), (.ref a1)]))
  refine own_st (fun _ k => XS.iadd X91.here hx rfl (hb hby d1_82) rfl k) ?_
  show own_Fin p e below G (T91.setTop (mkF m 83 #[rv a1, iv (0 : Int32), iv (0 : Int32)] [(.int (2 : Int32)), (.ref a1)]))
  obtain ⟨T92, h92, k92, X92, e92, E92, A92, st92⟩ := newP X91 hx hZ (own_w hw 27 rfl) e91 (g := (mkF m 83 #[rv a1, iv (0 : Int32), iv (0 : Int32)] [(.int (2 : Int32)), (.ref a1)])) rfl (hb hby d1_83) rfl (by decide) (cap := 2) (by decide) (by decide) (by decide) (by decide)
  obtain ⟨b92, g92⟩ : ∃ z, z = h82.size := ⟨_, rfl⟩
  rw [← g92] at A92 st92
  have ne_a1_b92 : a1 ≠ b92 := Nat.ne_of_lt (Nat.lt_of_lt_of_le f83_0.lt (Nat.le_of_eq g92.symm))
  have sz_b92 : h0.size ≤ b92 := Nat.le_trans K88.1 (Nat.le_of_eq g92.symm)
  have g_b92 : n0 ≤ b92 := Nat.le_trans Z0 sz_b92
  have f93_0 := f83_0.ext E92
  have f93_1 := f83_1.ext E92
  have f93_2 := f83_2.ext E92
  have f93_3 := f83_3.ext E92
  have f93_4 := Fw82.ext E92
  have f93_5 := f83_5.ext E92
  have K94 : Keep h0 h92 [a1] := K88.ext E92
  have V92 : own_AV Z h92 b92 .long (own_js [(0 : Int64), (0 : Int64)]) := own_AV_newJ A92
  refine own_st st92 ?_
  show own_Fin p e below G (T92.setTop (mkF m 85 #[rv a1, iv (0 : Int32), iv (0 : Int32)] [(.ref b92), (.ref a1)]))
  obtain ⟨T95, h95, X95, e95, W95, st95⟩ := putF X92 hx hZ hown (host := "") (Or.inl (own_w hw 28 rfl)) Via.refl e92 f93_5 f93_0 (Or.inr ⟨(own_w hw 29 rfl), rfl, hnm⟩) (own_w hw 2 rfl) (ty := (.array .long)) (by decide) rfl rfl (g := (mkF m 85 #[rv a1, iv (0 : Int32), iv (0 : Int32)] [(.ref b92), (.ref a1)])) rfl rfl (hb hby d1_85)
  have f96_0 := f93_0.wr W95
  have sl97 := slot_ne (Z := Z) (a0 := a0) (Or.inr (own_w hw 11 rfl)) (Or.inr (own_w hw 29 rfl)) (by decide) (t := .int) (t' := (.array .long)) (by decide) (by decide)
  have f96_1 := f93_1.other W95 (Or.inr sl97)
  have sl98 := slot_ne (Z := Z) (a0 := a0) (Or.inr (own_w hw 13 rfl)) (Or.inr (own_w hw 29 rfl)) (by decide) (t := .int) (t' := (.array .long)) (by decide) (by decide)
  have f96_2 := f93_2.other W95 (Or.inr sl98)
  have sl99 := slot_ne (Z := Z) (a0 := a0) (Or.inr (own_w hw 19 rfl)) (Or.inr (own_w hw 29 rfl)) (by decide) (t := .int) (t' := (.array .long)) (by decide) (by decide)
  have f96_3 := f93_3.other W95 (Or.inr sl99)
  have sl100 := slot_ne (Z := Z) (a0 := a0) (Or.inr (own_w hw 21 rfl)) (Or.inr (own_w hw 29 rfl)) (by decide) (t := .long) (t' := (.array .long)) (by decide) (by decide)
  have f96_4 := f93_4.other W95 (Or.inr sl100)
  have f96_6 := V92.other W95 (Ne.symm ne_a1_b92)
  have K101 : Keep h0 h95 [a1] := K94.wr W95 (Or.inl (List.mem_of_getElem? (i := 0) rfl))
  have N102 := Fr.snoc X95 N91 g1
  have Fw95 : Fld Z h95 a1 "com/example/paired_paths/pairedpaths/lts/PackedInts" "words" "[J" (.ref b92) := f93_5.same W95
  refine own_st st95 ?_
  show own_Fin p e below G (T95.setTop (mkF m 88 #[rv a1, iv (0 : Int32), iv (0 : Int32)] []))
  refine own_out X95 Bd.notSynchronized (v := none) (fun _ => rfl) hG (fun fs hr => X95.returnOut hx Bd.returns (hb hby d1_88) hr) (by decide) (by decide) ?_
  exact ⟨rfl, N102, e95.symm ▸ K101⟩

theorem d5_0 : decode prog_83_method_1_code 0 = .ok (.aload_n 0, 1) := by decide +kernel
theorem d5_1 : decode prog_83_method_1_code 1 = .ok (.invokespecial 1, 3) := by decide +kernel
theorem d5_4 : decode prog_83_method_1_code 4 = .ok (.aload_n 0, 1) := by decide +kernel
theorem d5_5 : decode prog_83_method_1_code 5 = .ok (.new 7, 3) := by decide +kernel
theorem d5_8 : decode prog_83_method_1_code 8 = .ok (.dup, 1) := by decide +kernel
theorem d5_9 : decode prog_83_method_1_code 9 = .ok (.invokespecial 9, 3) := by decide +kernel
theorem d5_12 : decode prog_83_method_1_code 12 = .ok (.putfield 10, 3) := by decide +kernel
theorem d5_15 : decode prog_83_method_1_code 15 = .ok (.aload_n 0, 1) := by decide +kernel
theorem d5_16 : decode prog_83_method_1_code 16 = .ok (.aload_n 1, 1) := by decide +kernel
theorem d5_17 : decode prog_83_method_1_code 17 = .ok (.putfield 16, 3) := by decide +kernel
theorem d5_20 : decode prog_83_method_1_code 20 = .ok (.iconst 0, 1) := by decide +kernel
theorem d5_21 : decode prog_83_method_1_code 21 = .ok (.istore 9, 2) := by decide +kernel
theorem d5_23 : decode prog_83_method_1_code 23 = .ok (.iload 9, 2) := by decide +kernel
theorem d5_25 : decode prog_83_method_1_code 25 = .ok (.aload_n 1, 1) := by decide +kernel
theorem d5_26 : decode prog_83_method_1_code 26 = .ok (.arraylength, 1) := by decide +kernel
theorem d5_27 : decode prog_83_method_1_code 27 = .ok (.if_icmp .ge 28, 3) := by decide +kernel
theorem d5_55 : decode prog_83_method_1_code 55 = .ok (.aload_n 0, 1) := by decide +kernel
theorem d5_56 : decode prog_83_method_1_code 56 = .ok (.aload_n 2, 1) := by decide +kernel
theorem d5_57 : decode prog_83_method_1_code 57 = .ok (.putfield 32, 3) := by decide +kernel
theorem d5_60 : decode prog_83_method_1_code 60 = .ok (.aload_n 0, 1) := by decide +kernel
theorem d5_61 : decode prog_83_method_1_code 61 = .ok (.aload_n 3, 1) := by decide +kernel
theorem d5_62 : decode prog_83_method_1_code 62 = .ok (.putfield 36, 3) := by decide +kernel
theorem d5_65 : decode prog_83_method_1_code 65 = .ok (.aload_n 0, 1) := by decide +kernel
theorem d5_66 : decode prog_83_method_1_code 66 = .ok (.aload 4, 2) := by decide +kernel
theorem d5_68 : decode prog_83_method_1_code 68 = .ok (.putfield 39, 3) := by decide +kernel
theorem d5_71 : decode prog_83_method_1_code 71 = .ok (.aload_n 0, 1) := by decide +kernel
theorem d5_72 : decode prog_83_method_1_code 72 = .ok (.iload 5, 2) := by decide +kernel
theorem d5_74 : decode prog_83_method_1_code 74 = .ok (.putfield 42, 3) := by decide +kernel
theorem d5_77 : decode prog_83_method_1_code 77 = .ok (.aload_n 0, 1) := by decide +kernel
theorem d5_78 : decode prog_83_method_1_code 78 = .ok (.aload 6, 2) := by decide +kernel
theorem d5_80 : decode prog_83_method_1_code 80 = .ok (.putfield 46, 3) := by decide +kernel
theorem d5_83 : decode prog_83_method_1_code 83 = .ok (.aload_n 0, 1) := by decide +kernel
theorem d5_84 : decode prog_83_method_1_code 84 = .ok (.aload 7, 2) := by decide +kernel
theorem d5_86 : decode prog_83_method_1_code 86 = .ok (.putfield 50, 3) := by decide +kernel
theorem d5_89 : decode prog_83_method_1_code 89 = .ok (.aload_n 0, 1) := by decide +kernel
theorem d5_90 : decode prog_83_method_1_code 90 = .ok (.aload 8, 2) := by decide +kernel
theorem d5_92 : decode prog_83_method_1_code 92 = .ok (.putfield 53, 3) := by decide +kernel
theorem d5_95 : decode prog_83_method_1_code 95 = .ok (.return_, 1) := by decide +kernel
theorem pn_com_example_paired_paths_pairedpaths_lts_TransitionSystem : plainName "com/example/paired_paths/pairedpaths/lts/TransitionSystem" = true := by first | (simp [plainName, overriddenIn]; done) | decide +kernel
theorem ef_5_RRRRRINNN (m : MethodId) (x0 : Addr) (x1 : Addr) (x2 : Addr) (x3 : Addr) (x4 : Addr) (x5 : Int32) : entryFrame m #[(.ref x0), (.ref x1), (.ref x2), (.ref x3), (.ref x4), (.int x5), .null, .null, .null] 10 = mkF m 0 #[rv x0, rv x1, rv x2, rv x3, rv x4, iv x5, .val .null, .val .null, .val .null, .unset] [] := by first | (simp [entryFrame, mkF, argsToLocals, Value.category]; done) | rfl
def Qrm_tsn (Z : State) (a1 : Addr) (a2 : Addr) (a3 : Addr) (a4 : Addr) (p6 : Int32) (kk : ClassId) (h0 : Heap) (n0 : Nat) (v : Option Value) (h : Heap) (L : List Loc) : Prop := v = none ∧ Fr n0 L ∧ Keep h0 h [a1] ∧ Fld Z h a1 "com/example/paired_paths/pairedpaths/lts/TransitionSystem" "firstWaiting" "[I" .null
set_option maxRecDepth 65536 in
set_option maxHeartbeats 40000000 in
theorem rm_tsn (l : Launch) (Z : State) (a0 : Array Value) (hw : ∀ d ∈ tables_1, d.before a0 Z = true) (ws : List Jvm.Cond) (a1 : Addr) (a2 : Addr) (a3 : Addr) (a4 : Addr) (p6 : Int32) (kk : ClassId) (h0 : Heap) (n0 : Nat) (Z0 : n0 ≤ h0.size) (E1 : Exa Z h0 a1 "com/example/paired_paths/pairedpaths/lts/TransitionSystem") (F_labelNumbers : Fld Z h0 a1 "com/example/paired_paths/pairedpaths/lts/TransitionSystem" "labelNumbers" "Ljava/util/Map;" .null) (F_labelTexts : Fld Z h0 a1 "com/example/paired_paths/pairedpaths/lts/TransitionSystem" "labelTexts" "[Ljava/lang/String;" .null) (F_firstMove : Fld Z h0 a1 "com/example/paired_paths/pairedpaths/lts/TransitionSystem" "firstMove" "Lcom/example/paired_paths/pairedpaths/lts/PackedInts;" .null) (F_moveLabels : Fld Z h0 a1 "com/example/paired_paths/pairedpaths/lts/TransitionSystem" "moveLabels" "Lcom/example/paired_paths/pairedpaths/lts/PackedInts;" .null) (F_moveTargets : Fld Z h0 a1 "com/example/paired_paths/pairedpaths/lts/TransitionSystem" "moveTargets" "Lcom/example/paired_paths/pairedpaths/lts/PackedInts;" .null) (F_positionCount : Fld Z h0 a1 "com/example/paired_paths/pairedpaths/lts/TransitionSystem" "positionCount" "I" (.int (0 : Int32))) (F_firstWaiting : Fld Z h0 a1 "com/example/paired_paths/pairedpaths/lts/TransitionSystem" "firstWaiting" "[I" .null) (F_waitingPositions : Fld Z h0 a1 "com/example/paired_paths/pairedpaths/lts/TransitionSystem" "waitingPositions" "[I" .null) (F_sourceStates : Fld Z h0 a1 "com/example/paired_paths/pairedpaths/lts/TransitionSystem" "sourceStates" "Lcom/example/paired_paths/pairedpaths/lts/PackedInts;" .null) (g1 : n0 ≤ a1) (B2 : own_AVk Z h0 a2 kk (.object "java/lang/String") []) (ne21 : a2 ≠ a1) :
    MetFree l own_y5 (head1 (Jvm.Cond.code own_y5 prog_83_method_1_code 10 none :: ws) ({ frames := 3, cells := 1, slots := 8, locals := 38 } : Room)) (fun a U => a = #[(.ref a1), (.ref a2), (.ref a3), (.ref a4), (.ref a4), (.int p6), .null, .null, .null] ∧ Z.Warmed39 U.vm ∧ U.heap = h0) (fun _ _ _ _ _ => True) (fun _ U o U' => ∃ v L, o = .returned v ∧ Qrm_tsn Z a1 a2 a3 a4 p6 kk h0 n0 v U'.heap L ∧ FrameEnd U o U' L ({ frames := 3, cells := 1, slots := 8, locals := 38 } : Room).cells ({ frames := 3, cells := 1, slots := 8, locals := 38 } : Room).slots) := by
  refine MetFree.of_bodySF (plainFor_of_name pn_com_example_paired_paths_pairedpaths_lts_TransitionSystem) hisR ?_
  intro p e s m args below meth c s₁ Bd hml0 hP hK
  obtain ⟨rfl, hZ, hh⟩ := hP
  have hx := Bd.exec
  have hby := Bd.bytes
  have hml : c.maxLocals = 10 := hml0
  have hown : s.vm.findClass "com/example/paired_paths/pairedpaths/lts/TransitionSystem" = some m.cls := findClass_of_methodNamed Bd.named
  have hnm := (name_of_methodNamed Bd.named Bd.method).1
  have X0 : Stand p l e ({ frames := 3, cells := 1, slots := 8, locals := 38 } : Room) s m #[(.ref a1), (.ref a2), (.ref a3), (.ref a4), (.ref a4), (.int p6), .null, .null, .null] below meth c s₁ [] 0 0 := Stand.of_body Bd
  have e0 : s₁.heap = h0 := by rw [← hh, Bd.state]; rfl
  have N0 := Fr.nil n0
  have K0 : Keep h0 h0 [a1] := Keep.refl _ _
  refine own_start (Qk := Qrm_tsn Z a1 a2 a3 a4 p6 kk h0 n0) (fun G hG => ?_)
  refine own_st (fun _ k => castTop (ef_5_RRRRRINNN m a1 a2 a3 a4 a4 p6) k) ?_
  show own_Fin p e below G (s₁.setTop (mkF m 0 #[rv a1, rv a2, rv a3, rv a4, rv a4, iv p6, .val .null, .val .null, .val .null, .unset] []))
  refine own_st (fun _ k => XS.aloadN X0.here hx rfl (hb hby d5_0) rfl rfl k) ?_
  show own_Fin p e below G (s₁.setTop (mkF m 1 #[rv a1, rv a2, rv a3, rv a4, rv a4, iv p6, .val .null, .val .null, .val .null, .unset] [(.ref a1)]))
  obtain ⟨T103, X103, e103, st103⟩ := initO X0 hx hZ hown (own_w hw 38 rfl) (own_w hw 8 rfl) (own_w hw 9 rfl) e0 (g := (mkF m 1 #[rv a1, rv a2, rv a3, rv a4, rv a4, iv p6, .val .null, .val .null, .val .null, .unset] [(.ref a1)])) rfl (by rw [hml]; rfl) rfl (hb hby d5_1) (by decide) (W := 0) (by show 2 * 0 + _ ≤ _; exact Nat.le_of_eq rfl) (by decide)
  refine own_st st103 ?_
  show own_Fin p e below G (T103.setTop (mkF m 4 #[rv a1, rv a2, rv a3, rv a4, rv a4, iv p6, .val .null, .val .null, .val .null, .unset] []))
  refine own_st (fun _ k => XS.aloadN X103.here hx rfl (hb hby d5_4) rfl rfl k) ?_
  show own_Fin p e below G (T103.setTop (mkF m 5 #[rv a1, rv a2, rv a3, rv a4, rv a4, iv p6, .val .null, .val .null, .val .null, .unset] [(.ref a1)]))
  obtain ⟨T104, h104, X104, e104, E104, A104, D104, M104, st104⟩ := newO X103 hx hZ hown (own_w hw 39 rfl) (own_w hw 40 rfl) (own_w hw 41 rfl) e103 (g := (mkF m 5 #[rv a1, rv a2, rv a3, rv a4, rv a4, iv p6, .val .null, .val .null, .val .null, .unset] [(.ref a1)])) rfl (hb hby d5_5) (by decide) (by decide)
  obtain ⟨b104, g104⟩ : ∃ z, z = h0.size := ⟨_, rfl⟩
  rw [← g104] at A104 D104 st104
  have ne_a1_b104 : a1 ≠ b104 := Nat.ne_of_lt (Nat.lt_of_lt_of_le E1.lt (Nat.le_of_eq g104.symm))
  have ne_a2_b104 : a2 ≠ b104 := Nat.ne_of_lt (Nat.lt_of_lt_of_le B2.lt (Nat.le_of_eq g104.symm))
  have sz_b104 : h0.size ≤ b104 := Nat.le_trans K0.1 (Nat.le_of_eq g104.symm)
  have g_b104 : n0 ≤ b104 := Nat.le_trans Z0 sz_b104
  have f105_0 := E1.ext E104
  have f105_1 := F_labelNumbers.ext E104
  have f105_2 := F_labelTexts.ext E104
  have f105_3 := F_firstMove.ext E104
  have f105_4 := F_moveLabels.ext E104
  have f105_5 := F_moveTargets.ext E104
  have f105_6 := F_positionCount.ext E104
  have f105_7 := F_firstWaiting.ext E104
  have f105_8 := F_waitingPositions.ext E104
  have f105_9 := F_sourceStates.ext E104
  have f105_10 := B2.ext E104
  have K106 : Keep h0 h104 [a1] := K0.ext E104
  have f107 : Fld Z h104 b104 "java/util/HashMap" "loadFactor" "F" (.float (0 : UInt32)) := D104 (Or.inr (own_w hw 54 rfl)) (ty := .float) (by decide)
  refine own_st st104 ?_
  show own_Fin p e below G (T104.setTop (mkF m 8 #[rv a1, rv a2, rv a3, rv a4, rv a4, iv p6, .val .null, .val .null, .val .null, .unset] [(.ref b104), (.ref a1)]))
  refine own_st (fun _ k => XS.dup X104.here hx rfl (hb hby d5_8) rfl rfl k) ?_
  show own_Fin p e below G (T104.setTop (mkF m 9 #[rv a1, rv a2, rv a3, rv a4, rv a4, iv p6, .val .null, .val .null, .val .null, .unset] [(.ref b104), (.ref b104), (.ref a1)]))
  obtain ⟨_, _, ⟨T108, L108, k108, n108⟩, -, X108, ⟨Lc108, hQ108, l108, y108, z108⟩, st108⟩ := X104.specialBack hx (y := own_y3) rfl hown (mvT hZ (own_w hw 42 rfl)) (mvT hZ (own_w hw 43 rfl)) (mvT hZ (own_w hw 44 rfl)) (by decide) (backOf (W := 2) (rm_hm l Z a0 hw [] b104 h104 n0 (Nat.le_trans Z0 K106.1) A104 f107 g_b104) hZ (own_w hw 44 rfl) (own_w hw 41 rfl) (by decide) (by decide)) (g := (mkF m 9 #[rv a1, rv a2, rv a3, rv a4, rv a4, iv p6, .val .null, .val .null, .val .null, .unset] [(.ref b104), (.ref b104), (.ref a1)])) rfl (by rw [hml]; rfl) (Steps.refl _) (a := b104) (argsL := []) (rest := [(.ref b104), (.ref a1)]) (lenOf pd___V_167 rfl) rfl (by show 2 * 0 + _ ≤ _; exact Nat.le_of_eq rfl) (hb hby d5_9) (fun _ _ => ⟨rfl, e104, (by decide : 1 + 0 ≤ _), (by decide : 8 + 0 ≤ _)⟩)
  dsimp only [Pt.U, Pt.locs, Pt.cells, Pt.slots] at X108 l108 y108 z108 st108 hQ108
  subst l108 y108 z108
  obtain ⟨rfl, N108q, Kc108⟩ := hQ108
  have N108 := Fr.app N0 N108q
  have f109_0 := f105_0.keep Kc108
  have f109_1 := f105_1.keep Kc108 (ninS ne_a1_b104 nin0)
  have f109_2 := f105_2.keep Kc108 (ninS ne_a1_b104 nin0)
  have f109_3 := f105_3.keep Kc108 (ninS ne_a1_b104 nin0)
  have f109_4 := f105_4.keep Kc108 (ninS ne_a1_b104 nin0)
  have f109_5 := f105_5.keep Kc108 (ninS ne_a1_b104 nin0)
  have f109_6 := f105_6.keep Kc108 (ninS ne_a1_b104 nin0)
  have f109_7 := f105_7.keep Kc108 (ninS ne_a1_b104 nin0)
  have f109_8 := f105_8.keep Kc108 (ninS ne_a1_b104 nin0)
  have f109_9 := f105_9.keep Kc108 (ninS ne_a1_b104 nin0)
  have f109_10 := f105_10.keep Kc108 (ninS ne_a2_b104 nin0)
  have f109_11 := A104.keep Kc108
  have K110 : Keep h0 T108.heap [a1] := K106.trans Kc108 (allS (Or.inr sz_b104) all0)
  refine own_tr st108 ?_
  show own_Fin p e below G (T108.setTop (mkF m 12 #[rv a1, rv a2, rv a3, rv a4, rv a4, iv p6, .val .null, .val .null, .val .null, .unset] [(.ref b104), (.ref a1)]))
  obtain ⟨T111, h111, X111, e111, W111, st111⟩ := putF X108 hx hZ hown (host := "") (Or.inl (own_w hw 55 rfl)) Via.refl rfl f109_1 f109_0 (Or.inr ⟨(own_w hw 56 rfl), rfl, hnm⟩) (own_w hw 31 rfl) (ty := (.object "java/util/Map")) (by decide) rfl rfl (g := (mkF m 12 #[rv a1, rv a2, rv a3, rv a4, rv a4, iv p6, .val .null, .val .null, .val .null, .unset] [(.ref b104), (.ref a1)])) rfl rfl (hb hby d5_12)
  have f112_0 := f109_0.wr W111
  have sl113 := slot_ne (Z := Z) (a0 := a0) (Or.inr (own_w hw 58 rfl)) (Or.inr (own_w hw 56 rfl)) (by decide) (t := (.array (.object "java/lang/String"))) (t' := (.object "java/util/Map")) (by decide) (by decide)
  have f112_2 := f109_2.other W111 (Or.inr sl113)
  have sl114 := slot_ne (Z := Z) (a0 := a0) (Or.inr (own_w hw 60 rfl)) (Or.inr (own_w hw 56 rfl)) (by decide) (t := (.object "com/example/paired_paths/pairedpaths/lts/PackedInts")) (t' := (.object "java/util/Map")) (by decide) (by decide)
  have f112_3 := f109_3.other W111 (Or.inr sl114)
  have sl115 := slot_ne (Z := Z) (a0 := a0) (Or.inr (own_w hw 62 rfl)) (Or.inr (own_w hw 56 rfl)) (by decide) (t := (.object "com/example/paired_paths/pairedpaths/lts/PackedInts")) (t' := (.object "java/util/Map")) (by decide) (by decide)
  have f112_4 := f109_4.other W111 (Or.inr sl115)
  have sl116 := slot_ne (Z := Z) (a0 := a0) (Or.inr (own_w hw 64 rfl)) (Or.inr (own_w hw 56 rfl)) (by decide) (t := (.object "com/example/paired_paths/pairedpaths/lts/PackedInts")) (t' := (.object "java/util/Map")) (by decide) (by decide)
  have f112_5 := f109_5.other W111 (Or.inr sl116)
  have sl117 := slot_ne (Z := Z) (a0 := a0) (Or.inr (own_w hw 66 rfl)) (Or.inr (own_w hw 56 rfl)) (by decide) (t := .int) (t' := (.object "java/util/Map")) (by decide) (by decide)
  have f112_6 := f109_6.other W111 (Or.inr sl117)
  have sl118 := slot_ne (Z := Z) (a0 := a0) (Or.inr (own_w hw 68 rfl)) (Or.inr (own_w hw 56 rfl)) (by decide) (t := (.array .int)) (t' := (.object "java/util/Map")) (by decide) (by decide)
  have f112_7 := f109_7.other W111 (Or.inr sl118)
  have sl119 := slot_ne (Z := Z) (a0 := a0) (Or.inr (own_w hw 70 rfl)) (Or.inr (own_w hw 56 rfl)) (by decide) (t := (.array .int)) (t' := (.object "java/util/Map")) (by decide) (by decide)
  have f112_8 := f109_8.other W111 (Or.inr sl119)
  have sl120 := slot_ne (Z := Z) (a0 := a0) (Or.inr (own_w hw 72 rfl)) (Or.inr (own_w hw 56 rfl)) (by decide) (t := (.object "com/example/paired_paths/pairedpaths/lts/PackedInts")) (t' := (.object "java/util/Map")) (by decide) (by decide)
  have f112_9 := f109_9.other W111 (Or.inr sl120)
  have f112_10 := f109_10.other W111 ne21
  have f112_11 := f109_11.wr W111
  have K121 : Keep h0 h111 [a1] := K110.wr W111 (Or.inl (List.mem_of_getElem? (i := 0) rfl))
  have N122 := Fr.snoc X111 N108 g1
  have Fw111 : Fld Z h111 a1 "com/example/paired_paths/pairedpaths/lts/TransitionSystem" "labelNumbers" "Ljava/util/Map;" (.ref b104) := f109_1.same W111
  refine own_st st111 ?_
  show own_Fin p e below G (T111.setTop (mkF m 15 #[rv a1, rv a2, rv a3, rv a4, rv a4, iv p6, .val .null, .val .null, .val .null, .unset] []))
  refine own_st (fun _ k => XS.aloadN X111.here hx rfl (hb hby d5_15) rfl rfl k) ?_
  show own_Fin p e below G (T111.setTop (mkF m 16 #[rv a1, rv a2, rv a3, rv a4, rv a4, iv p6, .val .null, .val .null, .val .null, .unset] [(.ref a1)]))
  refine own_st (fun _ k => XS.aloadN X111.here hx rfl (hb hby d5_16) rfl rfl k) ?_
  show own_Fin p e below G (T111.setTop (mkF m 17 #[rv a1, rv a2, rv a3, rv a4, rv a4, iv p6, .val .null, .val .null, .val .null, .unset] [(.ref a2), (.ref a1)]))
  obtain ⟨T123, h123, X123, e123, W123, st123⟩ := putF X111 hx hZ hown (host := "") (Or.inl (own_w hw 57 rfl)) Via.refl e111 f112_2 f112_0 (Or.inr ⟨(own_w hw 58 rfl), rfl, hnm⟩) (own_w hw 31 rfl) (ty := (.array (.object "java/lang/String"))) (by decide) rfl rfl (g := (mkF m 17 #[rv a1, rv a2, rv a3, rv a4, rv a4, iv p6, .val .null, .val .null, .val .null, .unset] [(.ref a2), (.ref a1)])) rfl rfl (hb hby d5_17)
  have f124_0 := f112_0.wr W123
  have sl125 := slot_ne (Z := Z) (a0 := a0) (Or.inr (own_w hw 56 rfl)) (Or.inr (own_w hw 58 rfl)) (by decide) (t := (.object "java/util/Map")) (t' := (.array (.object "java/lang/String"))) (by decide) (by decide)
  have f124_1 := Fw111.other W123 (Or.inr sl125)
  have sl126 := slot_ne (Z := Z) (a0 := a0) (Or.inr (own_w hw 60 rfl)) (Or.inr (own_w hw 58 rfl)) (by decide) (t := (.object "com/example/paired_paths/pairedpaths/lts/PackedInts")) (t' := (.array (.object "java/lang/String"))) (by decide) (by decide)
  have f124_3 := f112_3.other W123 (Or.inr sl126)
  have sl127 := slot_ne (Z := Z) (a0 := a0) (Or.inr (own_w hw 62 rfl)) (Or.inr (own_w hw 58 rfl)) (by decide) (t := (.object "com/example/paired_paths/pairedpaths/lts/PackedInts")) (t' := (.array (.object "java/lang/String"))) (by decide) (by decide)
  have f124_4 := f112_4.other W123 (Or.inr sl127)
  have sl128 := slot_ne (Z := Z) (a0 := a0) (Or.inr (own_w hw 64 rfl)) (Or.inr (own_w hw 58 rfl)) (by decide) (t := (.object "com/example/paired_paths/pairedpaths/lts/PackedInts")) (t' := (.array (.object "java/lang/String"))) (by decide) (by decide)
  have f124_5 := f112_5.other W123 (Or.inr sl128)
  have sl129 := slot_ne (Z := Z) (a0 := a0) (Or.inr (own_w hw 66 rfl)) (Or.inr (own_w hw 58 rfl)) (by decide) (t := .int) (t' := (.array (.object "java/lang/String"))) (by decide) (by decide)
  have f124_6 := f112_6.other W123 (Or.inr sl129)
  have sl130 := slot_ne (Z := Z) (a0 := a0) (Or.inr (own_w hw 68 rfl)) (Or.inr (own_w hw 58 rfl)) (by decide) (t := (.array .int)) (t' := (.array (.object "java/lang/String"))) (by decide) (by decide)
  have f124_7 := f112_7.other W123 (Or.inr sl130)
  have sl131 := slot_ne (Z := Z) (a0 := a0) (Or.inr (own_w hw 70 rfl)) (Or.inr (own_w hw 58 rfl)) (by decide) (t := (.array .int)) (t' := (.array (.object "java/lang/String"))) (by decide) (by decide)
  have f124_8 := f112_8.other W123 (Or.inr sl131)
  have sl132 := slot_ne (Z := Z) (a0 := a0) (Or.inr (own_w hw 72 rfl)) (Or.inr (own_w hw 58 rfl)) (by decide) (t := (.object "com/example/paired_paths/pairedpaths/lts/PackedInts")) (t' := (.array (.object "java/lang/String"))) (by decide) (by decide)
  have f124_9 := f112_9.other W123 (Or.inr sl132)
  have f124_10 := f112_10.other W123 ne21
  have f124_11 := f112_11.wr W123
  have K133 : Keep h0 h123 [a1] := K121.wr W123 (Or.inl (List.mem_of_getElem? (i := 0) rfl))
  have N134 := Fr.snoc X123 N122 g1
  have Fw123 : Fld Z h123 a1 "com/example/paired_paths/pairedpaths/lts/TransitionSystem" "labelTexts" "[Ljava/lang/String;" (.ref a2) := f112_2.same W123
  refine own_st st123 ?_
  show own_Fin p e below G (T123.setTop (mkF m 20 #[rv a1, rv a2, rv a3, rv a4, rv a4, iv p6, .val .null, .val .null, .val .null, .unset] []))
  refine own_st (fun _ k => XS.iconst X123.here hx rfl (hb hby d5_20) k) ?_
  show own_Fin p e below G (T123.setTop (mkF m 21 #[rv a1, rv a2, rv a3, rv a4, rv a4, iv p6, .val .null, .val .null, .val .null, .unset] [(.int (0 : Int32))]))
  refine own_st (fun _ k => XS.istore X123.here hx rfl (hb hby d5_21) rfl (l' := #[rv a1, rv a2, rv a3, rv a4, rv a4, iv p6, .val .null, .val .null, .val .null, iv (0 : Int32)]) rfl k) ?_
  show own_Fin p e below G (T123.setTop (mkF m 23 #[rv a1, rv a2, rv a3, rv a4, rv a4, iv p6, .val .null, .val .null, .val .null, iv (0 : Int32)] []))
  refine own_st (fun _ k => XS.iload X123.here hx rfl (hb hby d5_23) rfl  k) ?_
  show own_Fin p e below G (T123.setTop (mkF m 25 #[rv a1, rv a2, rv a3, rv a4, rv a4, iv p6, .val .null, .val .null, .val .null, iv (0 : Int32)] [(.int (0 : Int32))]))
  refine own_st (fun _ k => XS.aloadN X123.here hx rfl (hb hby d5_25) rfl rfl k) ?_
  show own_Fin p e below G (T123.setTop (mkF m 26 #[rv a1, rv a2, rv a3, rv a4, rv a4, iv p6, .val .null, .val .null, .val .null, iv (0 : Int32)] [(.ref a2), (.int (0 : Int32))]))
  refine own_st (fun _ k => own_len X123 hx hZ e123 f124_10.av (z := (0 : Int32)) rfl (g := (mkF m 26 #[rv a1, rv a2, rv a3, rv a4, rv a4, iv p6, .val .null, .val .null, .val .null, iv (0 : Int32)] [(.ref a2), (.int (0 : Int32))])) rfl rfl (hb hby d5_26) k) ?_
  show own_Fin p e below G (T123.setTop (mkF m 27 #[rv a1, rv a2, rv a3, rv a4, rv a4, iv p6, .val .null, .val .null, .val .null, iv (0 : Int32)] [(.int (0 : Int32)), (.int (0 : Int32))]))
  refine own_st (fun _ k => XS.icmpYes X123.here hx rfl (pc0 := 27) (pc' := 55) rfl (hb hby d5_27) rfl (flt (by decide : ¬ ((0 : Int32) < (0 : Int32)))).2.1 (by decide) (by decide) k) ?_
  show own_Fin p e below G (T123.setTop (mkF m 55 #[rv a1, rv a2, rv a3, rv a4, rv a4, iv p6, .val .null, .val .null, .val .null, iv (0 : Int32)] []))
  refine own_st (fun _ k => XS.aloadN X123.here hx rfl (hb hby d5_55) rfl rfl k) ?_
  show own_Fin p e below G (T123.setTop (mkF m 56 #[rv a1, rv a2, rv a3, rv a4, rv a4, iv p6, .val .null, .val .null, .val .null, iv (0 : Int32)] [(.ref a1)]))
  refine own_st (fun _ k => XS.aloadN X123.here hx rfl (hb hby d5_56) rfl rfl k) ?_
  show own_Fin p e below G (T123.setTop (mkF m 57 #[rv a1, rv a2, rv a3, rv a4, rv a4, iv p6, .val .null, .val .null, .val .null, iv (0 : Int32)] [(.ref a3), (.ref a1)]))
  obtain ⟨T135, h135, X135, e135, W135, st135⟩ := putF X123 hx hZ hown (host := "") (Or.inl (own_w hw 59 rfl)) Via.refl e123 f124_3 f124_0 (Or.inr ⟨(own_w hw 60 rfl), rfl, hnm⟩) (own_w hw 31 rfl) (ty := (.object "com/example/paired_paths/pairedpaths/lts/PackedInts")) (by decide) rfl rfl (g := (mkF m 57 #[rv a1, rv a2, rv a3, rv a4, rv a4, iv p6, .val .null, .val .null, .val .null, iv (0 : Int32)] [(.ref a3), (.ref a1)])) rfl rfl (hb hby d5_57)
  have f136_0 := f124_0.wr W135
  have sl137 := slot_ne (Z := Z) (a0 := a0) (Or.inr (own_w hw 56 rfl)) (Or.inr (own_w hw 60 rfl)) (by decide) (t := (.object "java/util/Map")) (t' := (.object "com/example/paired_paths/pairedpaths/lts/PackedInts")) (by decide) (by decide)
  have f136_1 := f124_1.other W135 (Or.inr sl137)
  have sl138 := slot_ne (Z := Z) (a0 := a0) (Or.inr (own_w hw 58 rfl)) (Or.inr (own_w hw 60 rfl)) (by decide) (t := (.array (.object "java/lang/String"))) (t' := (.object "com/example/paired_paths/pairedpaths/lts/PackedInts")) (by decide) (by decide)
  have f136_2 := Fw123.other W135 (Or.inr sl138)
  have sl139 := slot_ne (Z := Z) (a0 := a0) (Or.inr (own_w hw 62 rfl)) (Or.inr (own_w hw 60 rfl)) (by decide) (t := (.object "com/example/paired_paths/pairedpaths/lts/PackedInts")) (t' := (.object "com/example/paired_paths/pairedpaths/lts/PackedInts")) (by decide) (by decide)
  have f136_4 := f124_4.other W135 (Or.inr sl139)
  have sl140 := slot_ne (Z := Z) (a0 := a0) (Or.inr (own_w hw 64 rfl)) (Or.inr (own_w hw 60 rfl)) (by decide) (t := (.object "com/example/paired_paths/pairedpaths/lts/PackedInts")) (t' := (.object "com/example/paired_paths/pairedpaths/lts/PackedInts")) (by decide) (by decide)
  have f136_5 := f124_5.other W135 (Or.inr sl140)
  have sl141 := slot_ne (Z := Z) (a0 := a0) (Or.inr (own_w hw 66 rfl)) (Or.inr (own_w hw 60 rfl)) (by decide) (t := .int) (t' := (.object "com/example/paired_paths/pairedpaths/lts/PackedInts")) (by decide) (by decide)
  have f136_6 := f124_6.other W135 (Or.inr sl141)
  have sl142 := slot_ne (Z := Z) (a0 := a0) (Or.inr (own_w hw 68 rfl)) (Or.inr (own_w hw 60 rfl)) (by decide) (t := (.array .int)) (t' := (.object "com/example/paired_paths/pairedpaths/lts/PackedInts")) (by decide) (by decide)
  have f136_7 := f124_7.other W135 (Or.inr sl142)
  have sl143 := slot_ne (Z := Z) (a0 := a0) (Or.inr (own_w hw 70 rfl)) (Or.inr (own_w hw 60 rfl)) (by decide) (t := (.array .int)) (t' := (.object "com/example/paired_paths/pairedpaths/lts/PackedInts")) (by decide) (by decide)
  have f136_8 := f124_8.other W135 (Or.inr sl143)
  have sl144 := slot_ne (Z := Z) (a0 := a0) (Or.inr (own_w hw 72 rfl)) (Or.inr (own_w hw 60 rfl)) (by decide) (t := (.object "com/example/paired_paths/pairedpaths/lts/PackedInts")) (t' := (.object "com/example/paired_paths/pairedpaths/lts/PackedInts")) (by decide) (by decide)
  have f136_9 := f124_9.other W135 (Or.inr sl144)
  have f136_10 := f124_10.other W135 ne21
  have f136_11 := f124_11.wr W135
  have K145 : Keep h0 h135 [a1] := K133.wr W135 (Or.inl (List.mem_of_getElem? (i := 0) rfl))
  have N146 := Fr.snoc X135 N134 g1
  have Fw135 : Fld Z h135 a1 "com/example/paired_paths/pairedpaths/lts/TransitionSystem" "firstMove" "Lcom/example/paired_paths/pairedpaths/lts/PackedInts;" (.ref a3) := f124_3.same W135
  refine own_st st135 ?_
  show own_Fin p e below G (T135.setTop (mkF m 60 #[rv a1, rv a2, rv a3, rv a4, rv a4, iv p6, .val .null, .val .null, .val .null, iv (0 : Int32)] []))
  refine own_st (fun _ k => XS.aloadN X135.here hx rfl (hb hby d5_60) rfl rfl k) ?_
  show own_Fin p e below G (T135.setTop (mkF m 61 #[rv a1, rv a2, rv a3, rv a4, rv a4, iv p6, .val .null, .val .null, .val .null, iv (0 : Int32)] [(.ref a1)]))
  refine own_st (fun _ k => XS.aloadN X135.here hx rfl (hb hby d5_61) rfl rfl k) ?_
  show own_Fin p e below G (T135.setTop (mkF m 62 #[rv a1, rv a2, rv a3, rv a4, rv a4, iv p6, .val .null, .val .null, .val .null, iv (0 : Int32)] [(.ref a4), (.ref a1)]))
  obtain ⟨T147, h147, X147, e147, W147, st147⟩ := putF X135 hx hZ hown (host := "") (Or.inl (own_w hw 61 rfl)) Via.refl e135 f136_4 f136_0 (Or.inr ⟨(own_w hw 62 rfl), rfl, hnm⟩) (own_w hw 31 rfl) (ty := (.object "com/example/paired_paths/pairedpaths/lts/PackedInts")) (by decide) rfl rfl (g := (mkF m 62 #[rv a1, rv a2, rv a3, rv a4, rv a4, iv p6, .val .null, .val .null, .val .null, iv (0 : Int32)] [(.ref a4), (.ref a1)])) rfl rfl (hb hby d5_62)
  have f148_0 := f136_0.wr W147
  have sl149 := slot_ne (Z := Z) (a0 := a0) (Or.inr (own_w hw 56 rfl)) (Or.inr (own_w hw 62 rfl)) (by decide) (t := (.object "java/util/Map")) (t' := (.object "com/example/paired_paths/pairedpaths/lts/PackedInts")) (by decide) (by decide)
  have f148_1 := f136_1.other W147 (Or.inr sl149)
  have sl150 := slot_ne (Z := Z) (a0 := a0) (Or.inr (own_w hw 58 rfl)) (Or.inr (own_w hw 62 rfl)) (by decide) (t := (.array (.object "java/lang/String"))) (t' := (.object "com/example/paired_paths/pairedpaths/lts/PackedInts")) (by decide) (by decide)
  have f148_2 := f136_2.other W147 (Or.inr sl150)
  have sl151 := slot_ne (Z := Z) (a0 := a0) (Or.inr (own_w hw 60 rfl)) (Or.inr (own_w hw 62 rfl)) (by decide) (t := (.object "com/example/paired_paths/pairedpaths/lts/PackedInts")) (t' := (.object "com/example/paired_paths/pairedpaths/lts/PackedInts")) (by decide) (by decide)
  have f148_3 := Fw135.other W147 (Or.inr sl151)
  have sl152 := slot_ne (Z := Z) (a0 := a0) (Or.inr (own_w hw 64 rfl)) (Or.inr (own_w hw 62 rfl)) (by decide) (t := (.object "com/example/paired_paths/pairedpaths/lts/PackedInts")) (t' := (.object "com/example/paired_paths/pairedpaths/lts/PackedInts")) (by decide) (by decide)
  have f148_5 := f136_5.other W147 (Or.inr sl152)
  have sl153 := slot_ne (Z := Z) (a0 := a0) (Or.inr (own_w hw 66 rfl)) (Or.inr (own_w hw 62 rfl)) (by decide) (t := .int) (t' := (.object "com/example/paired_paths/pairedpaths/lts/PackedInts")) (by decide) (by decide)
  have f148_6 := f136_6.other W147 (Or.inr sl153)
  have sl154 := slot_ne (Z := Z) (a0 := a0) (Or.inr (own_w hw 68 rfl)) (Or.inr (own_w hw 62 rfl)) (by decide) (t := (.array .int)) (t' := (.object "com/example/paired_paths/pairedpaths/lts/PackedInts")) (by decide) (by decide)
  have f148_7 := f136_7.other W147 (Or.inr sl154)
  have sl155 := slot_ne (Z := Z) (a0 := a0) (Or.inr (own_w hw 70 rfl)) (Or.inr (own_w hw 62 rfl)) (by decide) (t := (.array .int)) (t' := (.object "com/example/paired_paths/pairedpaths/lts/PackedInts")) (by decide) (by decide)
  have f148_8 := f136_8.other W147 (Or.inr sl155)
  have sl156 := slot_ne (Z := Z) (a0 := a0) (Or.inr (own_w hw 72 rfl)) (Or.inr (own_w hw 62 rfl)) (by decide) (t := (.object "com/example/paired_paths/pairedpaths/lts/PackedInts")) (t' := (.object "com/example/paired_paths/pairedpaths/lts/PackedInts")) (by decide) (by decide)
  have f148_9 := f136_9.other W147 (Or.inr sl156)
  have f148_10 := f136_10.other W147 ne21
  have f148_11 := f136_11.wr W147
  have K157 : Keep h0 h147 [a1] := K145.wr W147 (Or.inl (List.mem_of_getElem? (i := 0) rfl))
  have N158 := Fr.snoc X147 N146 g1
  have Fw147 : Fld Z h147 a1 "com/example/paired_paths/pairedpaths/lts/TransitionSystem" "moveLabels" "Lcom/example/paired_paths/pairedpaths/lts/PackedInts;" (.ref a4) := f136_4.same W147
  refine own_st st147 ?_
  show own_Fin p e below G (T147.setTop (mkF m 65 #[rv a1, rv a2, rv a3, rv a4, rv a4, iv p6, .val .null, .val .null, .val .null, iv (0 : Int32)] []))
  refine own_st (fun _ k => XS.aloadN X147.here hx rfl (hb hby d5_65) rfl rfl k) ?_
  show own_Fin p e below G (T147.setTop (mkF m 66 #[rv a1, rv a2, rv a3, rv a4, rv a4, iv p6, .val .null, .val .null, .val .null, iv (0 : Int32)] [(.ref a1)]))
  refine own_st (fun _ k => XS.aload X147.here hx rfl (hb hby d5_66) rfl rfl k) ?_
  show own_Fin p e below G (T147.setTop (mkF m 68 #[rv a1, rv a2, rv a3, rv a4, rv a4, iv p6, .val .null, .val .null, .val .null, iv (0 : Int32)] [(.ref a4), (.ref a1)]))
  obtain ⟨T159, h159, X159, e159, W159, st159⟩ := putF X147 hx hZ hown (host := "") (Or.inl (own_w hw 63 rfl)) Via.refl e147 f148_5 f148_0 (Or.inr ⟨(own_w hw 64 rfl), rfl, hnm⟩) (own_w hw 31 rfl) (ty := (.object "com/example/paired_paths/pairedpaths/lts/PackedInts")) (by decide) rfl rfl (g := (mkF m 68 #[rv a1, rv a2, rv a3, rv a4, rv a4, iv p6, .val .null, .val .null, .val .null, iv (0 : Int32)] [(.ref a4), (.ref a1)])) rfl rfl (hb hby d5_68)
  have f160_0 := f148_0.wr W159
  have sl161 := slot_ne (Z := Z) (a0 := a0) (Or.inr (own_w hw 56 rfl)) (Or.inr (own_w hw 64 rfl)) (by decide) (t := (.object "java/util/Map")) (t' := (.object "com/example/paired_paths/pairedpaths/lts/PackedInts")) (by decide) (by decide)
  have f160_1 := f148_1.other W159 (Or.inr sl161)
  have sl162 := slot_ne (Z := Z) (a0 := a0) (Or.inr (own_w hw 58 rfl)) (Or.inr (own_w hw 64 rfl)) (by decide) (t := (.array (.object "java/lang/String"))) (t' := (.object "com/example/paired_paths/pairedpaths/lts/PackedInts")) (by decide) (by decide)
  have f160_2 := f148_2.other W159 (Or.inr sl162)
  have sl163 := slot_ne (Z := Z) (a0 := a0) (Or.inr (own_w hw 60 rfl)) (Or.inr (own_w hw 64 rfl)) (by decide) (t := (.object "com/example/paired_paths/pairedpaths/lts/PackedInts")) (t' := (.object "com/example/paired_paths/pairedpaths/lts/PackedInts")) (by decide) (by decide)
  have f160_3 := f148_3.other W159 (Or.inr sl163)
  have sl164 := slot_ne (Z := Z) (a0 := a0) (Or.inr (own_w hw 62 rfl)) (Or.inr (own_w hw 64 rfl)) (by decide) (t := (.object "com/example/paired_paths/pairedpaths/lts/PackedInts")) (t' := (.object "com/example/paired_paths/pairedpaths/lts/PackedInts")) (by decide) (by decide)
  have f160_4 := Fw147.other W159 (Or.inr sl164)
  have sl165 := slot_ne (Z := Z) (a0 := a0) (Or.inr (own_w hw 66 rfl)) (Or.inr (own_w hw 64 rfl)) (by decide) (t := .int) (t' := (.object "com/example/paired_paths/pairedpaths/lts/PackedInts")) (by decide) (by decide)
  have f160_6 := f148_6.other W159 (Or.inr sl165)
  have sl166 := slot_ne (Z := Z) (a0 := a0) (Or.inr (own_w hw 68 rfl)) (Or.inr (own_w hw 64 rfl)) (by decide) (t := (.array .int)) (t' := (.object "com/example/paired_paths/pairedpaths/lts/PackedInts")) (by decide) (by decide)
  have f160_7 := f148_7.other W159 (Or.inr sl166)
  have sl167 := slot_ne (Z := Z) (a0 := a0) (Or.inr (own_w hw 70 rfl)) (Or.inr (own_w hw 64 rfl)) (by decide) (t := (.array .int)) (t' := (.object "com/example/paired_paths/pairedpaths/lts/PackedInts")) (by decide) (by decide)
  have f160_8 := f148_8.other W159 (Or.inr sl167)
  have sl168 := slot_ne (Z := Z) (a0 := a0) (Or.inr (own_w hw 72 rfl)) (Or.inr (own_w hw 64 rfl)) (by decide) (t := (.object "com/example/paired_paths/pairedpaths/lts/PackedInts")) (t' := (.object "com/example/paired_paths/pairedpaths/lts/PackedInts")) (by decide) (by decide)
  have f160_9 := f148_9.other W159 (Or.inr sl168)
  have f160_10 := f148_10.other W159 ne21
  have f160_11 := f148_11.wr W159
  have K169 : Keep h0 h159 [a1] := K157.wr W159 (Or.inl (List.mem_of_getElem? (i := 0) rfl))
  have N170 := Fr.snoc X159 N158 g1
  have Fw159 : Fld Z h159 a1 "com/example/paired_paths/pairedpaths/lts/TransitionSystem" "moveTargets" "Lcom/example/paired_paths/pairedpaths/lts/PackedInts;" (.ref a4) := f148_5.same W159
  refine own_st st159 ?_
  show own_Fin p e below G (T159.setTop (mkF m 71 #[rv a1, rv a2, rv a3, rv a4, rv a4, iv p6, .val .null, .val .null, .val .null, iv (0 : Int32)] []))
  refine own_st (fun _ k => XS.aloadN X159.here hx rfl (hb hby d5_71) rfl rfl k) ?_
  show own_Fin p e below G (T159.setTop (mkF m 72 #[rv a1, rv a2, rv a3, rv a4, rv a4, iv p6, .val .null, .val .null, .val .null, iv (0 : Int32)] [(.ref a1)]))
  refine own_st (fun _ k => XS.iload X159.here hx rfl (hb hby d5_72) rfl  k) ?_
  show own_Fin p e below G (T159.setTop (mkF m 74 #[rv a1, rv a2, rv a3, rv a4, rv a4, iv p6, .val .null, .val .null, .val .null, iv (0 : Int32)] [(.int p6), (.ref a1)]))
  obtain ⟨T171, h171, X171, e171, W171, st171⟩ := putF X159 hx hZ hown (host := "") (Or.inl (own_w hw 65 rfl)) Via.refl e159 f160_6 f160_0 (Or.inr ⟨(own_w hw 66 rfl), rfl, hnm⟩) (own_w hw 31 rfl) (ty := .int) (by decide) rfl rfl (g := (mkF m 74 #[rv a1, rv a2, rv a3, rv a4, rv a4, iv p6, .val .null, .val .null, .val .null, iv (0 : Int32)] [(.int p6), (.ref a1)])) rfl rfl (hb hby d5_74)
  have f172_0 := f160_0.wr W171
  have sl173 := slot_ne (Z := Z) (a0 := a0) (Or.inr (own_w hw 56 rfl)) (Or.inr (own_w hw 66 rfl)) (by decide) (t := (.object "java/util/Map")) (t' := .int) (by decide) (by decide)
  have f172_1 := f160_1.other W171 (Or.inr sl173)
  have sl174 := slot_ne (Z := Z) (a0 := a0) (Or.inr (own_w hw 58 rfl)) (Or.inr (own_w hw 66 rfl)) (by decide) (t := (.array (.object "java/lang/String"))) (t' := .int) (by decide) (by decide)
  have f172_2 := f160_2.other W171 (Or.inr sl174)
  have sl175 := slot_ne (Z := Z) (a0 := a0) (Or.inr (own_w hw 60 rfl)) (Or.inr (own_w hw 66 rfl)) (by decide) (t := (.object "com/example/paired_paths/pairedpaths/lts/PackedInts")) (t' := .int) (by decide) (by decide)
  have f172_3 := f160_3.other W171 (Or.inr sl175)
  have sl176 := slot_ne (Z := Z) (a0 := a0) (Or.inr (own_w hw 62 rfl)) (Or.inr (own_w hw 66 rfl)) (by decide) (t := (.object "com/example/paired_paths/pairedpaths/lts/PackedInts")) (t' := .int) (by decide) (by decide)
  have f172_4 := f160_4.other W171 (Or.inr sl176)
  have sl177 := slot_ne (Z := Z) (a0 := a0) (Or.inr (own_w hw 64 rfl)) (Or.inr (own_w hw 66 rfl)) (by decide) (t := (.object "com/example/paired_paths/pairedpaths/lts/PackedInts")) (t' := .int) (by decide) (by decide)
  have f172_5 := Fw159.other W171 (Or.inr sl177)
  have sl178 := slot_ne (Z := Z) (a0 := a0) (Or.inr (own_w hw 68 rfl)) (Or.inr (own_w hw 66 rfl)) (by decide) (t := (.array .int)) (t' := .int) (by decide) (by decide)
  have f172_7 := f160_7.other W171 (Or.inr sl178)
  have sl179 := slot_ne (Z := Z) (a0 := a0) (Or.inr (own_w hw 70 rfl)) (Or.inr (own_w hw 66 rfl)) (by decide) (t := (.array .int)) (t' := .int) (by decide) (by decide)
  have f172_8 := f160_8.other W171 (Or.inr sl179)
  have sl180 := slot_ne (Z := Z) (a0 := a0) (Or.inr (own_w hw 72 rfl)) (Or.inr (own_w hw 66 rfl)) (by decide) (t := (.object "com/example/paired_paths/pairedpaths/lts/PackedInts")) (t' := .int) (by decide) (by decide)
  have f172_9 := f160_9.other W171 (Or.inr sl180)
  have f172_10 := f160_10.other W171 ne21
  have f172_11 := f160_11.wr W171
  have K181 : Keep h0 h171 [a1] := K169.wr W171 (Or.inl (List.mem_of_getElem? (i := 0) rfl))
  have N182 := Fr.snoc X171 N170 g1
  have Fw171 : Fld Z h171 a1 "com/example/paired_paths/pairedpaths/lts/TransitionSystem" "positionCount" "I" (.int p6) := f160_6.same W171
  refine own_st st171 ?_
  show own_Fin p e below G (T171.setTop (mkF m 77 #[rv a1, rv a2, rv a3, rv a4, rv a4, iv p6, .val .null, .val .null, .val .null, iv (0 : Int32)] []))
  refine own_st (fun _ k => XS.aloadN X171.here hx rfl (hb hby d5_77) rfl rfl k) ?_
  show own_Fin p e below G (T171.setTop (mkF m 78 #[rv a1, rv a2, rv a3, rv a4, rv a4, iv p6, .val .null, .val .null, .val .null, iv (0 : Int32)] [(.ref a1)]))
  refine own_st (fun _ k => XS.aload X171.here hx rfl (hb hby d5_78) rfl rfl k) ?_
  show own_Fin p e below G (T171.setTop (mkF m 80 #[rv a1, rv a2, rv a3, rv a4, rv a4, iv p6, .val .null, .val .null, .val .null, iv (0 : Int32)] [.null, (.ref a1)]))
  obtain ⟨T183, h183, X183, e183, W183, st183⟩ := putF X171 hx hZ hown (host := "") (Or.inl (own_w hw 67 rfl)) Via.refl e171 f172_7 f172_0 (Or.inr ⟨(own_w hw 68 rfl), rfl, hnm⟩) (own_w hw 31 rfl) (ty := (.array .int)) (by decide) rfl rfl (g := (mkF m 80 #[rv a1, rv a2, rv a3, rv a4, rv a4, iv p6, .val .null, .val .null, .val .null, iv (0 : Int32)] [.null, (.ref a1)])) rfl rfl (hb hby d5_80)
  have f184_0 := f172_0.wr W183
  have sl185 := slot_ne (Z := Z) (a0 := a0) (Or.inr (own_w hw 56 rfl)) (Or.inr (own_w hw 68 rfl)) (by decide) (t := (.object "java/util/Map")) (t' := (.array .int)) (by decide) (by decide)
  have f184_1 := f172_1.other W183 (Or.inr sl185)
  have sl186 := slot_ne (Z := Z) (a0 := a0) (Or.inr (own_w hw 58 rfl)) (Or.inr (own_w hw 68 rfl)) (by decide) (t := (.array (.object "java/lang/String"))) (t' := (.array .int)) (by decide) (by decide)
  have f184_2 := f172_2.other W183 (Or.inr sl186)
  have sl187 := slot_ne (Z := Z) (a0 := a0) (Or.inr (own_w hw 60 rfl)) (Or.inr (own_w hw 68 rfl)) (by decide) (t := (.object "com/example/paired_paths/pairedpaths/lts/PackedInts")) (t' := (.array .int)) (by decide) (by decide)
  have f184_3 := f172_3.other W183 (Or.inr sl187)
  have sl188 := slot_ne (Z := Z) (a0 := a0) (Or.inr (own_w hw 62 rfl)) (Or.inr (own_w hw 68 rfl)) (by decide) (t := (.object "com/example/paired_paths/pairedpaths/lts/PackedInts")) (t' := (.array .int)) (by decide) (by decide)
  have f184_4 := f172_4.other W183 (Or.inr sl188)
  have sl189 := slot_ne (Z := Z) (a0 := a0) (Or.inr (own_w hw 64 rfl)) (Or.inr (own_w hw 68 rfl)) (by decide) (t := (.object "com/example/paired_paths/pairedpaths/lts/PackedInts")) (t' := (.array .int)) (by decide) (by decide)
  have f184_5 := f172_5.other W183 (Or.inr sl189)
  have sl190 := slot_ne (Z := Z) (a0 := a0) (Or.inr (own_w hw 66 rfl)) (Or.inr (own_w hw 68 rfl)) (by decide) (t := .int) (t' := (.array .int)) (by decide) (by decide)
  have f184_6 := Fw171.other W183 (Or.inr sl190)
  have sl191 := slot_ne (Z := Z) (a0 := a0) (Or.inr (own_w hw 70 rfl)) (Or.inr (own_w hw 68 rfl)) (by decide) (t := (.array .int)) (t' := (.array .int)) (by decide) (by decide)
  have f184_8 := f172_8.other W183 (Or.inr sl191)
  have sl192 := slot_ne (Z := Z) (a0 := a0) (Or.inr (own_w hw 72 rfl)) (Or.inr (own_w hw 68 rfl)) (by decide) (t := (.object "com/example/paired_paths/pairedpaths/lts/PackedInts")) (t' := (.array .int)) (by decide) (by decide)
  have f184_9 := f172_9.other W183 (Or.inr sl192)
  have f184_10 := f172_10.other W183 ne21
  have f184_11 := f172_11.wr W183
  have K193 : Keep h0 h183 [a1] := K181.wr W183 (Or.inl (List.mem_of_getElem? (i := 0) rfl))
  have N194 := Fr.snoc X183 N182 g1
  have Fw183 : Fld Z h183 a1 "com/example/paired_paths/pairedpaths/lts/TransitionSystem" "firstWaiting" "[I" .null := f172_7.same W183
  refine own_st st183 ?_
  show own_Fin p e below G (T183.setTop (mkF m 83 #[rv a1, rv a2, rv a3, rv a4, rv a4, iv p6, .val .null, .val .null, .val .null, iv (0 : Int32)] []))
  refine own_st (fun _ k => XS.aloadN X183.here hx rfl (hb hby d5_83) rfl rfl k) ?_
  show own_Fin p e below G (T183.setTop (mkF m 84 #[rv a1, rv a2, rv a3, rv a4, rv a4, iv p6, .val .null, .val .null, .val .null, iv (0 : Int32)] [(.ref a1)]))
  refine own_st (fun _ k => XS.aload X183.here hx rfl (hb hby d5_84) rfl rfl k) ?_
  show own_Fin p e below G (T183.setTop (mkF m 86 #[rv a1, rv a2, rv a3, rv a4, rv a4, iv p6, .val .null, .val .null, .val .null, iv (0 : Int32)] [.null, (.ref a1)]))
  obtain ⟨T195, h195, X195, e195, W195, st195⟩ := putF X183 hx hZ hown (host := "") (Or.inl (own_w hw 69 rfl)) Via.refl e183 f184_8 f184_0 (Or.inr ⟨(own_w hw 70 rfl), rfl, hnm⟩) (own_w hw 31 rfl) (ty := (.array .int)) (by decide) rfl rfl (g := (mkF m 86 #[rv a1, rv a2, rv a3, rv a4, rv a4, iv p6, .val .null, .val .null, .val .null, iv (0 : Int32)] [.null, (.ref a1)])) rfl rfl (hb hby d5_86)
  have f196_0 := f184_0.wr W195
  have sl197 := slot_ne (Z := Z) (a0 := a0) (Or.inr (own_w hw 56 rfl)) (Or.inr (own_w hw 70 rfl)) (by decide) (t := (.object "java/util/Map")) (t' := (.array .int)) (by decide) (by decide)
  have f196_1 := f184_1.other W195 (Or.inr sl197)
  have sl198 := slot_ne (Z := Z) (a0 := a0) (Or.inr (own_w hw 58 rfl)) (Or.inr (own_w hw 70 rfl)) (by decide) (t := (.array (.object "java/lang/String"))) (t' := (.array .int)) (by decide) (by decide)
  have f196_2 := f184_2.other W195 (Or.inr sl198)
  have sl199 := slot_ne (Z := Z) (a0 := a0) (Or.inr (own_w hw 60 rfl)) (Or.inr (own_w hw 70 rfl)) (by decide) (t := (.object "com/example/paired_paths/pairedpaths/lts/PackedInts")) (t' := (.array .int)) (by decide) (by decide)
  have f196_3 := f184_3.other W195 (Or.inr sl199)
  have sl200 := slot_ne (Z := Z) (a0 := a0) (Or.inr (own_w hw 62 rfl)) (Or.inr (own_w hw 70 rfl)) (by decide) (t := (.object "com/example/paired_paths/pairedpaths/lts/PackedInts")) (t' := (.array .int)) (by decide) (by decide)
  have f196_4 := f184_4.other W195 (Or.inr sl200)
  have sl201 := slot_ne (Z := Z) (a0 := a0) (Or.inr (own_w hw 64 rfl)) (Or.inr (own_w hw 70 rfl)) (by decide) (t := (.object "com/example/paired_paths/pairedpaths/lts/PackedInts")) (t' := (.array .int)) (by decide) (by decide)
  have f196_5 := f184_5.other W195 (Or.inr sl201)
  have sl202 := slot_ne (Z := Z) (a0 := a0) (Or.inr (own_w hw 66 rfl)) (Or.inr (own_w hw 70 rfl)) (by decide) (t := .int) (t' := (.array .int)) (by decide) (by decide)
  have f196_6 := f184_6.other W195 (Or.inr sl202)
  have sl203 := slot_ne (Z := Z) (a0 := a0) (Or.inr (own_w hw 68 rfl)) (Or.inr (own_w hw 70 rfl)) (by decide) (t := (.array .int)) (t' := (.array .int)) (by decide) (by decide)
  have f196_7 := Fw183.other W195 (Or.inr sl203)
  have sl204 := slot_ne (Z := Z) (a0 := a0) (Or.inr (own_w hw 72 rfl)) (Or.inr (own_w hw 70 rfl)) (by decide) (t := (.object "com/example/paired_paths/pairedpaths/lts/PackedInts")) (t' := (.array .int)) (by decide) (by decide)
  have f196_9 := f184_9.other W195 (Or.inr sl204)
  have f196_10 := f184_10.other W195 ne21
  have f196_11 := f184_11.wr W195
  have K205 : Keep h0 h195 [a1] := K193.wr W195 (Or.inl (List.mem_of_getElem? (i := 0) rfl))
  have N206 := Fr.snoc X195 N194 g1
  have Fw195 : Fld Z h195 a1 "com/example/paired_paths/pairedpaths/lts/TransitionSystem" "waitingPositions" "[I" .null := f184_8.same W195
  refine own_st st195 ?_
  show own_Fin p e below G (T195.setTop (mkF m 89 #[rv a1, rv a2, rv a3, rv a4, rv a4, iv p6, .val .null, .val .null, .val .null, iv (0 : Int32)] []))
  refine own_st (fun _ k => XS.aloadN X195.here hx rfl (hb hby d5_89) rfl rfl k) ?_
  show own_Fin p e below G (T195.setTop (mkF m 90 #[rv a1, rv a2, rv a3, rv a4, rv a4, iv p6, .val .null, .val .null, .val .null, iv (0 : Int32)] [(.ref a1)]))
  refine own_st (fun _ k => XS.aload X195.here hx rfl (hb hby d5_90) rfl rfl k) ?_
  show own_Fin p e below G (T195.setTop (mkF m 92 #[rv a1, rv a2, rv a3, rv a4, rv a4, iv p6, .val .null, .val .null, .val .null, iv (0 : Int32)] [.null, (.ref a1)]))
  obtain ⟨T207, h207, X207, e207, W207, st207⟩ := putF X195 hx hZ hown (host := "") (Or.inl (own_w hw 71 rfl)) Via.refl e195 f196_9 f196_0 (Or.inr ⟨(own_w hw 72 rfl), rfl, hnm⟩) (own_w hw 31 rfl) (ty := (.object "com/example/paired_paths/pairedpaths/lts/PackedInts")) (by decide) rfl rfl (g := (mkF m 92 #[rv a1, rv a2, rv a3, rv a4, rv a4, iv p6, .val .null, .val .null, .val .null, iv (0 : Int32)] [.null, (.ref a1)])) rfl rfl (hb hby d5_92)
  have f208_0 := f196_0.wr W207
  have sl209 := slot_ne (Z := Z) (a0 := a0) (Or.inr (own_w hw 56 rfl)) (Or.inr (own_w hw 72 rfl)) (by decide) (t := (.object "java/util/Map")) (t' := (.object "com/example/paired_paths/pairedpaths/lts/PackedInts")) (by decide) (by decide)
  have f208_1 := f196_1.other W207 (Or.inr sl209)
  have sl210 := slot_ne (Z := Z) (a0 := a0) (Or.inr (own_w hw 58 rfl)) (Or.inr (own_w hw 72 rfl)) (by decide) (t := (.array (.object "java/lang/String"))) (t' := (.object "com/example/paired_paths/pairedpaths/lts/PackedInts")) (by decide) (by decide)
  have f208_2 := f196_2.other W207 (Or.inr sl210)
  have sl211 := slot_ne (Z := Z) (a0 := a0) (Or.inr (own_w hw 60 rfl)) (Or.inr (own_w hw 72 rfl)) (by decide) (t := (.object "com/example/paired_paths/pairedpaths/lts/PackedInts")) (t' := (.object "com/example/paired_paths/pairedpaths/lts/PackedInts")) (by decide) (by decide)
  have f208_3 := f196_3.other W207 (Or.inr sl211)
  have sl212 := slot_ne (Z := Z) (a0 := a0) (Or.inr (own_w hw 62 rfl)) (Or.inr (own_w hw 72 rfl)) (by decide) (t := (.object "com/example/paired_paths/pairedpaths/lts/PackedInts")) (t' := (.object "com/example/paired_paths/pairedpaths/lts/PackedInts")) (by decide) (by decide)
  have f208_4 := f196_4.other W207 (Or.inr sl212)
  have sl213 := slot_ne (Z := Z) (a0 := a0) (Or.inr (own_w hw 64 rfl)) (Or.inr (own_w hw 72 rfl)) (by decide) (t := (.object "com/example/paired_paths/pairedpaths/lts/PackedInts")) (t' := (.object "com/example/paired_paths/pairedpaths/lts/PackedInts")) (by decide) (by decide)
  have f208_5 := f196_5.other W207 (Or.inr sl213)
  have sl214 := slot_ne (Z := Z) (a0 := a0) (Or.inr (own_w hw 66 rfl)) (Or.inr (own_w hw 72 rfl)) (by decide) (t := .int) (t' := (.object "com/example/paired_paths/pairedpaths/lts/PackedInts")) (by decide) (by decide)
  have f208_6 := f196_6.other W207 (Or.inr sl214)
  have sl215 := slot_ne (Z := Z) (a0 := a0) (Or.inr (own_w hw 68 rfl)) (Or.inr (own_w hw 72 rfl)) (by decide) (t := (.array .int)) (t' := (.object "com/example/paired_paths/pairedpaths/lts/PackedInts")) (by decide) (by decide)
  have f208_7 := f196_7.other W207 (Or.inr sl215)
  have sl216 := slot_ne (Z := Z) (a0 := a0) (Or.inr (own_w hw 70 rfl)) (Or.inr (own_w hw 72 rfl)) (by decide) (t := (.array .int)) (t' := (.object "com/example/paired_paths/pairedpaths/lts/PackedInts")) (by decide) (by decide)
  have f208_8 := Fw195.other W207 (Or.inr sl216)
  have f208_10 := f196_10.other W207 ne21
  have f208_11 := f196_11.wr W207
  have K217 : Keep h0 h207 [a1] := K205.wr W207 (Or.inl (List.mem_of_getElem? (i := 0) rfl))
  have N218 := Fr.snoc X207 N206 g1
  have Fw207 : Fld Z h207 a1 "com/example/paired_paths/pairedpaths/lts/TransitionSystem" "sourceStates" "Lcom/example/paired_paths/pairedpaths/lts/PackedInts;" .null := f196_9.same W207
  refine own_st st207 ?_
  show own_Fin p e below G (T207.setTop (mkF m 95 #[rv a1, rv a2, rv a3, rv a4, rv a4, iv p6, .val .null, .val .null, .val .null, iv (0 : Int32)] []))
  refine own_out X207 Bd.notSynchronized (v := none) (fun _ => rfl) hG (fun fs hr => X207.returnOut hx Bd.returns (hb hby d5_95) hr) (by decide) (by decide) ?_
  exact ⟨rfl, N218, e207.symm ▸ K217, e207.symm ▸ f208_7⟩

theorem ef_5_RRRRRIRRN (m : MethodId) (x0 : Addr) (x1 : Addr) (x2 : Addr) (x3 : Addr) (x4 : Addr) (x5 : Int32) (x6 : Addr) (x7 : Addr) : entryFrame m #[(.ref x0), (.ref x1), (.ref x2), (.ref x3), (.ref x4), (.int x5), (.ref x6), (.ref x7), .null] 10 = mkF m 0 #[rv x0, rv x1, rv x2, rv x3, rv x4, iv x5, rv x6, rv x7, .val .null, .unset] [] := by first | (simp [entryFrame, mkF, argsToLocals, Value.category]; done) | rfl
def Qrm_tsy (Z : State) (a1 : Addr) (a2 : Addr) (a3 : Addr) (a4 : Addr) (p6 : Int32) (a7 : Addr) (a8 : Addr) (kk : ClassId) (h0 : Heap) (n0 : Nat) (v : Option Value) (h : Heap) (L : List Loc) : Prop := v = none ∧ Fr n0 L ∧ Keep h0 h [a1] ∧ Fld Z h a1 "com/example/paired_paths/pairedpaths/lts/TransitionSystem" "firstWaiting" "[I" (.ref a7)
set_option maxRecDepth 65536 in
set_option maxHeartbeats 40000000 in
theorem rm_tsy (l : Launch) (Z : State) (a0 : Array Value) (hw : ∀ d ∈ tables_1, d.before a0 Z = true) (ws : List Jvm.Cond) (a1 : Addr) (a2 : Addr) (a3 : Addr) (a4 : Addr) (p6 : Int32) (a7 : Addr) (a8 : Addr) (kk : ClassId) (h0 : Heap) (n0 : Nat) (Z0 : n0 ≤ h0.size) (E1 : Exa Z h0 a1 "com/example/paired_paths/pairedpaths/lts/TransitionSystem") (F_labelNumbers : Fld Z h0 a1 "com/example/paired_paths/pairedpaths/lts/TransitionSystem" "labelNumbers" "Ljava/util/Map;" .null) (F_labelTexts : Fld Z h0 a1 "com/example/paired_paths/pairedpaths/lts/TransitionSystem" "labelTexts" "[Ljava/lang/String;" .null) (F_firstMove : Fld Z h0 a1 "com/example/paired_paths/pairedpaths/lts/TransitionSystem" "firstMove" "Lcom/example/paired_paths/pairedpaths/lts/PackedInts;" .null) (F_moveLabels : Fld Z h0 a1 "com/example/paired_paths/pairedpaths/lts/TransitionSystem" "moveLabels" "Lcom/example/paired_paths/pairedpaths/lts/PackedInts;" .null) (F_moveTargets : Fld Z h0 a1 "com/example/paired_paths/pairedpaths/lts/TransitionSystem" "moveTargets" "Lcom/example/paired_paths/pairedpaths/lts/PackedInts;" .null) (F_positionCount : Fld Z h0 a1 "com/example/paired_paths/pairedpaths/lts/TransitionSystem" "positionCount" "I" (.int (0 : Int32))) (F_firstWaiting : Fld Z h0 a1 "com/example/paired_paths/pairedpaths/lts/TransitionSystem" "firstWaiting" "[I" .null) (F_waitingPositions : Fld Z h0 a1 "com/example/paired_paths/pairedpaths/lts/TransitionSystem" "waitingPositions" "[I" .null) (F_sourceStates : Fld Z h0 a1 "com/example/paired_paths/pairedpaths/lts/TransitionSystem" "sourceStates" "Lcom/example/paired_paths/pairedpaths/lts/PackedInts;" .null) (g1 : n0 ≤ a1) (B2 : own_AVk Z h0 a2 kk (.object "java/lang/String") []) (ne21 : a2 ≠ a1) :
    MetFree l own_y5 (head1 (Jvm.Cond.code own_y5 prog_83_method_1_code 10 none :: ws) ({ frames := 3, cells := 1, slots := 8, locals := 38 } : Room)) (fun a U => a = #[(.ref a1), (.ref a2), (.ref a3), (.ref a4), (.ref a4), (.int p6), (.ref a7), (.ref a8), .null] ∧ Z.Warmed39 U.vm ∧ U.heap = h0) (fun _ _ _ _ _ => True) (fun _ U o U' => ∃ v L, o = .returned v ∧ Qrm_tsy Z a1 a2 a3 a4 p6 a7 a8 kk h0 n0 v U'.heap L ∧ FrameEnd U o U' L ({ frames := 3, cells := 1, slots := 8, locals := 38 } : Room).cells ({ frames := 3, cells := 1, slots := 8, locals := 38 } : Room).slots) := by
  refine MetFree.of_bodySF (plainFor_of_name pn_com_example_paired_paths_pairedpaths_lts_TransitionSystem) hisR ?_
  intro p e s m args below meth c s₁ Bd hml0 hP hK
  obtain ⟨rfl, hZ, hh⟩ := hP
  have hx := Bd.exec
  have hby := Bd.bytes
  have hml : c.maxLocals = 10 := hml0
  have hown : s.vm.findClass "com/example/paired_paths/pairedpaths/lts/TransitionSystem" = some m.cls := findClass_of_methodNamed Bd.named
  have hnm := (name_of_methodNamed Bd.named Bd.method).1
  have X0 : Stand p l e ({ frames := 3, cells := 1, slots := 8, locals := 38 } : Room) s m #[(.ref a1), (.ref a2), (.ref a3), (.ref a4), (.ref a4), (.int p6), (.ref a7), (.ref a8), .null] below meth c s₁ [] 0 0 := Stand.of_body Bd
  have e0 : s₁.heap = h0 := by rw [← hh, Bd.state]; rfl
  have N0 := Fr.nil n0
  have K0 : Keep h0 h0 [a1] := Keep.refl _ _
  refine own_start (Qk := Qrm_tsy Z a1 a2 a3 a4 p6 a7 a8 kk h0 n0) (fun G hG => ?_)
  refine own_st (fun _ k => castTop (ef_5_RRRRRIRRN m a1 a2 a3 a4 a4 p6 a7 a8) k) ?_
  show own_Fin p e below G (s₁.setTop (mkF m 0 #[rv a1, rv a2, rv a3, rv a4, rv a4, iv p6, rv a7, rv a8, .val .null, .unset] []))
  refine own_st (fun _ k => XS.aloadN X0.here hx rfl (hb hby d5_0) rfl rfl k) ?_
  show own_Fin p e below G (s₁.setTop (mkF m 1 #[rv a1, rv a2, rv a3, rv a4, rv a4, iv p6, rv a7, rv a8, .val .null, .unset] [(.ref a1)]))
  obtain ⟨T219, X219, e219, st219⟩ := initO X0 hx hZ hown (own_w hw 38 rfl) (own_w hw 8 rfl) (own_w hw 9 rfl) e0 (g := (mkF m 1 #[rv a1, rv a2, rv a3, rv a4, rv a4, iv p6, rv a7, rv a8, .val .null, .unset] [(.ref a1)])) rfl (by rw [hml]; rfl) rfl (hb hby d5_1) (by decide) (W := 0) (by show 2 * 0 + _ ≤ _; exact Nat.le_of_eq rfl) (by decide)
  refine own_st st219 ?_
  show own_Fin p e below G (T219.setTop (mkF m 4 #[rv a1, rv a2, rv a3, rv a4, rv a4, iv p6, rv a7, rv a8, .val .null, .unset] []))
  refine own_st (fun _ k => XS.aloadN X219.here hx rfl (hb hby d5_4) rfl rfl k) ?_
  show own_Fin p e below G (T219.setTop (mkF m 5 #[rv a1, rv a2, rv a3, rv a4, rv a4, iv p6, rv a7, rv a8, .val .null, .unset] [(.ref a1)]))
  obtain ⟨T220, h220, X220, e220, E220, A220, D220, M220, st220⟩ := newO X219 hx hZ hown (own_w hw 39 rfl) (own_w hw 40 rfl) (own_w hw 41 rfl) e219 (g := (mkF m 5 #[rv a1, rv a2, rv a3, rv a4, rv a4, iv p6, rv a7, rv a8, .val .null, .unset] [(.ref a1)])) rfl (hb hby d5_5) (by decide) (by decide)
  obtain ⟨b220, g220⟩ : ∃ z, z = h0.size := ⟨_, rfl⟩
  rw [← g220] at A220 D220 st220
  have ne_a1_b220 : a1 ≠ b220 := Nat.ne_of_lt (Nat.lt_of_lt_of_le E1.lt (Nat.le_of_eq g220.symm))
  have ne_a2_b220 : a2 ≠ b220 := Nat.ne_of_lt (Nat.lt_of_lt_of_le B2.lt (Nat.le_of_eq g220.symm))
  have sz_b220 : h0.size ≤ b220 := Nat.le_trans K0.1 (Nat.le_of_eq g220.symm)
  have g_b220 : n0 ≤ b220 := Nat.le_trans Z0 sz_b220
  have f221_0 := E1.ext E220
  have f221_1 := F_labelNumbers.ext E220
  have f221_2 := F_labelTexts.ext E220
  have f221_3 := F_firstMove.ext E220
  have f221_4 := F_moveLabels.ext E220
  have f221_5 := F_moveTargets.ext E220
  have f221_6 := F_positionCount.ext E220
  have f221_7 := F_firstWaiting.ext E220
  have f221_8 := F_waitingPositions.ext E220
  have f221_9 := F_sourceStates.ext E220
  have f221_10 := B2.ext E220
  have K222 : Keep h0 h220 [a1] := K0.ext E220
  have f223 : Fld Z h220 b220 "java/util/HashMap" "loadFactor" "F" (.float (0 : UInt32)) := D220 (Or.inr (own_w hw 54 rfl)) (ty := .float) (by decide)
  refine own_st st220 ?_
  show own_Fin p e below G (T220.setTop (mkF m 8 #[rv a1, rv a2, rv a3, rv a4, rv a4, iv p6, rv a7, rv a8, .val .null, .unset] [(.ref b220), (.ref a1)]))
  refine own_st (fun _ k => XS.dup X220.here hx rfl (hb hby d5_8) rfl rfl k) ?_
  show own_Fin p e below G (T220.setTop (mkF m 9 #[rv a1, rv a2, rv a3, rv a4, rv a4, iv p6, rv a7, rv a8, .val .null, .unset] [(.ref b220), (.ref b220), (.ref a1)]))
  obtain ⟨_, _, ⟨T224, L224, k224, n224⟩, -, X224, ⟨Lc224, hQ224, l224, y224, z224⟩, st224⟩ := X220.specialBack hx (y := own_y3) rfl hown (mvT hZ (own_w hw 42 rfl)) (mvT hZ (own_w hw 43 rfl)) (mvT hZ (own_w hw 44 rfl)) (by decide) (backOf (W := 2) (rm_hm l Z a0 hw [] b220 h220 n0 (Nat.le_trans Z0 K222.1) A220 f223 g_b220) hZ (own_w hw 44 rfl) (own_w hw 41 rfl) (by decide) (by decide)) (g := (mkF m 9 #[rv a1, rv a2, rv a3, rv a4, rv a4, iv p6, rv a7, rv a8, .val .null, .unset] [(.ref b220), (.ref b220), (.ref a1)])) rfl (by rw [hml]; rfl) (Steps.refl _) (a := b220) (argsL := []) (rest := [(.ref b220), (.ref a1)]) (lenOf pd___V_167 rfl) rfl (by show 2 * 0 + _ ≤ _; exact Nat.le_of_eq rfl) (hb hby d5_9) (fun _ _ => ⟨rfl, e220, (by decide : 1 + 0 ≤ _), (by decide : 8 + 0 ≤ _)⟩)
  dsimp only [Pt.U, Pt.locs, Pt.cells, Pt.slots] at X224 l224 y224 z224 st224 hQ224
  subst l224 y224 z224
  obtain ⟨rfl, N224q, Kc224⟩ := hQ224
  have N224 := Fr.app N0 N224q
  have f225_0 := f221_0.keep Kc224
  have f225_1 := f221_1.keep Kc224 (ninS ne_a1_b220 nin0)
  have f225_2 := f221_2.keep Kc224 (ninS ne_a1_b220 nin0)
  have f225_3 := f221_3.keep Kc224 (ninS ne_a1_b220 nin0)
  have f225_4 := f221_4.keep Kc224 (ninS ne_a1_b220 nin0)
  have f225_5 := f221_5.keep Kc224 (ninS ne_a1_b220 nin0)
  have f225_6 := f221_6.keep Kc224 (ninS ne_a1_b220 nin0)
  have f225_7 := f221_7.keep Kc224 (ninS ne_a1_b220 nin0)
  have f225_8 := f221_8.keep Kc224 (ninS ne_a1_b220 nin0)
  have f225_9 := f221_9.keep Kc224 (ninS ne_a1_b220 nin0)
  have f225_10 := f221_10.keep Kc224 (ninS ne_a2_b220 nin0)
  have f225_11 := A220.keep Kc224
  have K226 : Keep h0 T224.heap [a1] := K222.trans Kc224 (allS (Or.inr sz_b220) all0)
  refine own_tr st224 ?_
  show own_Fin p e below G (T224.setTop (mkF m 12 #[rv a1, rv a2, rv a3, rv a4, rv a4, iv p6, rv a7, rv a8, .val .null, .unset] [(.ref b220), (.ref a1)]))
  obtain ⟨T227, h227, X227, e227, W227, st227⟩ := putF X224 hx hZ hown (host := "") (Or.inl (own_w hw 55 rfl)) Via.refl rfl f225_1 f225_0 (Or.inr ⟨(own_w hw 56 rfl), rfl, hnm⟩) (own_w hw 31 rfl) (ty := (.object "java/util/Map")) (by decide) rfl rfl (g := (mkF m 12 #[rv a1, rv a2, rv a3, rv a4, rv a4, iv p6, rv a7, rv a8, .val .null, .unset] [(.ref b220), (.ref a1)])) rfl rfl (hb hby d5_12)
  have f228_0 := f225_0.wr W227
  have sl229 := slot_ne (Z := Z) (a0 := a0) (Or.inr (own_w hw 58 rfl)) (Or.inr (own_w hw 56 rfl)) (by decide) (t := (.array (.object "java/lang/String"))) (t' := (.object "java/util/Map")) (by decide) (by decide)
  have f228_2 := f225_2.other W227 (Or.inr sl229)
  have sl230 := slot_ne (Z := Z) (a0 := a0) (Or.inr (own_w hw 60 rfl)) (Or.inr (own_w hw 56 rfl)) (by decide) (t := (.object "com/example/paired_paths/pairedpaths/lts/PackedInts")) (t' := (.object "java/util/Map")) (by decide) (by decide)
  have f228_3 := f225_3.other W227 (Or.inr sl230)
  have sl231 := slot_ne (Z := Z) (a0 := a0) (Or.inr (own_w hw 62 rfl)) (Or.inr (own_w hw 56 rfl)) (by decide) (t := (.object "com/example/paired_paths/pairedpaths/lts/PackedInts")) (t' := (.object "java/util/Map")) (by decide) (by decide)
  have f228_4 := f225_4.other W227 (Or.inr sl231)
  have sl232 := slot_ne (Z := Z) (a0 := a0) (Or.inr (own_w hw 64 rfl)) (Or.inr (own_w hw 56 rfl)) (by decide) (t := (.object "com/example/paired_paths/pairedpaths/lts/PackedInts")) (t' := (.object "java/util/Map")) (by decide) (by decide)
  have f228_5 := f225_5.other W227 (Or.inr sl232)
  have sl233 := slot_ne (Z := Z) (a0 := a0) (Or.inr (own_w hw 66 rfl)) (Or.inr (own_w hw 56 rfl)) (by decide) (t := .int) (t' := (.object "java/util/Map")) (by decide) (by decide)
  have f228_6 := f225_6.other W227 (Or.inr sl233)
  have sl234 := slot_ne (Z := Z) (a0 := a0) (Or.inr (own_w hw 68 rfl)) (Or.inr (own_w hw 56 rfl)) (by decide) (t := (.array .int)) (t' := (.object "java/util/Map")) (by decide) (by decide)
  have f228_7 := f225_7.other W227 (Or.inr sl234)
  have sl235 := slot_ne (Z := Z) (a0 := a0) (Or.inr (own_w hw 70 rfl)) (Or.inr (own_w hw 56 rfl)) (by decide) (t := (.array .int)) (t' := (.object "java/util/Map")) (by decide) (by decide)
  have f228_8 := f225_8.other W227 (Or.inr sl235)
  have sl236 := slot_ne (Z := Z) (a0 := a0) (Or.inr (own_w hw 72 rfl)) (Or.inr (own_w hw 56 rfl)) (by decide) (t := (.object "com/example/paired_paths/pairedpaths/lts/PackedInts")) (t' := (.object "java/util/Map")) (by decide) (by decide)
  have f228_9 := f225_9.other W227 (Or.inr sl236)
  have f228_10 := f225_10.other W227 ne21
  have f228_11 := f225_11.wr W227
  have K237 : Keep h0 h227 [a1] := K226.wr W227 (Or.inl (List.mem_of_getElem? (i := 0) rfl))
  have N238 := Fr.snoc X227 N224 g1
  have Fw227 : Fld Z h227 a1 "com/example/paired_paths/pairedpaths/lts/TransitionSystem" "labelNumbers" "Ljava/util/Map;" (.ref b220) := f225_1.same W227
  refine own_st st227 ?_
  show own_Fin p e below G (T227.setTop (mkF m 15 #[rv a1, rv a2, rv a3, rv a4, rv a4, iv p6, rv a7, rv a8, .val .null, .unset] []))
  refine own_st (fun _ k => XS.aloadN X227.here hx rfl (hb hby d5_15) rfl rfl k) ?_
  show own_Fin p e below G (T227.setTop (mkF m 16 #[rv a1, rv a2, rv a3, rv a4, rv a4, iv p6, rv a7, rv a8, .val .null, .unset] [(.ref a1)]))
  refine own_st (fun _ k => XS.aloadN X227.here hx rfl (hb hby d5_16) rfl rfl k) ?_
  show own_Fin p e below G (T227.setTop (mkF m 17 #[rv a1, rv a2, rv a3, rv a4, rv a4, iv p6, rv a7, rv a8, .val .null, .unset] [(.ref a2), (.ref a1)]))
  obtain ⟨T239, h239, X239, e239, W239, st239⟩ := putF X227 hx hZ hown (host := "") (Or.inl (own_w hw 57 rfl)) Via.refl e227 f228_2 f228_0 (Or.inr ⟨(own_w hw 58 rfl), rfl, hnm⟩) (own_w hw 31 rfl) (ty := (.array (.object "java/lang/String"))) (by decide) rfl rfl (g := (mkF m 17 #[rv a1, rv a2, rv a3, rv a4, rv a4, iv p6, rv a7, rv a8, .val .null, .unset] [(.ref a2), (.ref a1)])) rfl rfl (hb hby d5_17)
  have f240_0 := f228_0.wr W239
  have sl241 := slot_ne (Z := Z) (a0 := a0) (Or.inr (own_w hw 56 rfl)) (Or.inr (own_w hw 58 rfl)) (by decide) (t := (.object "java/util/Map")) (t' := (.array (.object "java/lang/String"))) (by decide) (by decide)
  have f240_1 := Fw227.other W239 (Or.inr sl241)
  have sl242 := slot_ne (Z := Z) (a0 := a0) (Or.inr (own_w hw 60 rfl)) (Or.inr (own_w hw 58 rfl)) (by decide) (t := (.object "com/example/paired_paths/pairedpaths/lts/PackedInts")) (t' := (.array (.object "java/lang/String"))) (by decide) (by decide)
  have f240_3 := f228_3.other W239 (Or.inr sl242)
  have sl243 := slot_ne (Z := Z) (a0 := a0) (Or.inr (own_w hw 62 rfl)) (Or.inr (own_w hw 58 rfl)) (by decide) (t := (.object "com/example/paired_paths/pairedpaths/lts/PackedInts")) (t' := (.array (.object "java/lang/String"))) (by decide) (by decide)
  have f240_4 := f228_4.other W239 (Or.inr sl243)
  have sl244 := slot_ne (Z := Z) (a0 := a0) (Or.inr (own_w hw 64 rfl)) (Or.inr (own_w hw 58 rfl)) (by decide) (t := (.object "com/example/paired_paths/pairedpaths/lts/PackedInts")) (t' := (.array (.object "java/lang/String"))) (by decide) (by decide)
  have f240_5 := f228_5.other W239 (Or.inr sl244)
  have sl245 := slot_ne (Z := Z) (a0 := a0) (Or.inr (own_w hw 66 rfl)) (Or.inr (own_w hw 58 rfl)) (by decide) (t := .int) (t' := (.array (.object "java/lang/String"))) (by decide) (by decide)
  have f240_6 := f228_6.other W239 (Or.inr sl245)
  have sl246 := slot_ne (Z := Z) (a0 := a0) (Or.inr (own_w hw 68 rfl)) (Or.inr (own_w hw 58 rfl)) (by decide) (t := (.array .int)) (t' := (.array (.object "java/lang/String"))) (by decide) (by decide)
  have f240_7 := f228_7.other W239 (Or.inr sl246)
  have sl247 := slot_ne (Z := Z) (a0 := a0) (Or.inr (own_w hw 70 rfl)) (Or.inr (own_w hw 58 rfl)) (by decide) (t := (.array .int)) (t' := (.array (.object "java/lang/String"))) (by decide) (by decide)
  have f240_8 := f228_8.other W239 (Or.inr sl247)
  have sl248 := slot_ne (Z := Z) (a0 := a0) (Or.inr (own_w hw 72 rfl)) (Or.inr (own_w hw 58 rfl)) (by decide) (t := (.object "com/example/paired_paths/pairedpaths/lts/PackedInts")) (t' := (.array (.object "java/lang/String"))) (by decide) (by decide)
  have f240_9 := f228_9.other W239 (Or.inr sl248)
  have f240_10 := f228_10.other W239 ne21
  have f240_11 := f228_11.wr W239
  have K249 : Keep h0 h239 [a1] := K237.wr W239 (Or.inl (List.mem_of_getElem? (i := 0) rfl))
  have N250 := Fr.snoc X239 N238 g1
  have Fw239 : Fld Z h239 a1 "com/example/paired_paths/pairedpaths/lts/TransitionSystem" "labelTexts" "[Ljava/lang/String;" (.ref a2) := f228_2.same W239
  refine own_st st239 ?_
  show own_Fin p e below G (T239.setTop (mkF m 20 #[rv a1, rv a2, rv a3, rv a4, rv a4, iv p6, rv a7, rv a8, .val .null, .unset] []))
  refine own_st (fun _ k => XS.iconst X239.here hx rfl (hb hby d5_20) k) ?_
  show own_Fin p e below G (T239.setTop (mkF m 21 #[rv a1, rv a2, rv a3, rv a4, rv a4, iv p6, rv a7, rv a8, .val .null, .unset] [(.int (0 : Int32))]))
  refine own_st (fun _ k => XS.istore X239.here hx rfl (hb hby d5_21) rfl (l' := #[rv a1, rv a2, rv a3, rv a4, rv a4, iv p6, rv a7, rv a8, .val .null, iv (0 : Int32)]) rfl k) ?_
  show own_Fin p e below G (T239.setTop (mkF m 23 #[rv a1, rv a2, rv a3, rv a4, rv a4, iv p6, rv a7, rv a8, .val .null, iv (0 : Int32)] []))
  refine own_st (fun _ k => XS.iload X239.here hx rfl (hb hby d5_23) rfl  k) ?_
  show own_Fin p e below G (T239.setTop (mkF m 25 #[rv a1, rv a2, rv a3, rv a4, rv a4, iv p6, rv a7, rv a8, .val .null, iv (0 : Int32)] [(.int (0 : Int32))]))
  refine own_st (fun _ k => XS.aloadN X239.here hx rfl (hb hby d5_25) rfl rfl k) ?_
  show own_Fin p e below G (T239.setTop (mkF m 26 #[rv a1, rv a2, rv a3, rv a4, rv a4, iv p6, rv a7, rv a8, .val .null, iv (0 : Int32)] [(.ref a2), (.int (0 : Int32))]))
  refine own_st (fun _ k => own_len X239 hx hZ e239 f240_10.av (z := (0 : Int32)) rfl (g := (mkF m 26 #[rv a1, rv a2, rv a3, rv a4, rv a4, iv p6, rv a7, rv a8, .val .null, iv (0 : Int32)] [(.ref a2), (.int (0 : Int32))])) rfl rfl (hb hby d5_26) k) ?_
  show own_Fin p e below G (T239.setTop (mkF m 27 #[rv a1, rv a2, rv a3, rv a4, rv a4, iv p6, rv a7, rv a8, .val .null, iv (0 : Int32)] [(.int (0 : Int32)), (.int (0 : Int32))]))
  refine own_st (fun _ k => XS.icmpYes X239.here hx rfl (pc0 := 27) (pc' := 55) rfl (hb hby d5_27) rfl (flt (by decide : ¬ ((0 : Int32) < (0 : Int32)))).2.1 (by decide) (by decide) k) ?_
  show own_Fin p e below G (T239.setTop (mkF m 55 #[rv a1, rv a2, rv a3, rv a4, rv a4, iv p6, rv a7, rv a8, .val .null, iv (0 : Int32)] []))
  refine own_st (fun _ k => XS.aloadN X239.here hx rfl (hb hby d5_55) rfl rfl k) ?_
  show own_Fin p e below G (T239.setTop (mkF m 56 #[rv a1, rv a2, rv a3, rv a4, rv a4, iv p6, rv a7, rv a8, .val .null, iv (0 : Int32)] [(.ref a1)]))
  refine own_st (fun _ k => XS.aloadN X239.here hx rfl (hb hby d5_56) rfl rfl k) ?_
  show own_Fin p e below G (T239.setTop (mkF m 57 #[rv a1, rv a2, rv a3, rv a4, rv a4, iv p6, rv a7, rv a8, .val .null, iv (0 : Int32)] [(.ref a3), (.ref a1)]))
  obtain ⟨T251, h251, X251, e251, W251, st251⟩ := putF X239 hx hZ hown (host := "") (Or.inl (own_w hw 59 rfl)) Via.refl e239 f240_3 f240_0 (Or.inr ⟨(own_w hw 60 rfl), rfl, hnm⟩) (own_w hw 31 rfl) (ty := (.object "com/example/paired_paths/pairedpaths/lts/PackedInts")) (by decide) rfl rfl (g := (mkF m 57 #[rv a1, rv a2, rv a3, rv a4, rv a4, iv p6, rv a7, rv a8, .val .null, iv (0 : Int32)] [(.ref a3), (.ref a1)])) rfl rfl (hb hby d5_57)
  have f252_0 := f240_0.wr W251
  have sl253 := slot_ne (Z := Z) (a0 := a0) (Or.inr (own_w hw 56 rfl)) (Or.inr (own_w hw 60 rfl)) (by decide) (t := (.object "java/util/Map")) (t' := (.object "com/example/paired_paths/pairedpaths/lts/PackedInts")) (by decide) (by decide)
  have f252_1 := f240_1.other W251 (Or.inr sl253)
  have sl254 := slot_ne (Z := Z) (a0 := a0) (Or.inr (own_w hw 58 rfl)) (Or.inr (own_w hw 60 rfl)) (by decide) (t := (.array (.object "java/lang/String"))) (t' := (.object "com/example/paired_paths/pairedpaths/lts/PackedInts")) (by decide) (by decide)
  have f252_2 := Fw239.other W251 (Or.inr sl254)
  have sl255 := slot_ne (Z := Z) (a0 := a0) (Or.inr (own_w hw 62 rfl)) (Or.inr (own_w hw 60 rfl)) (by decide) (t := (.object "com/example/paired_paths/pairedpaths/lts/PackedInts")) (t' := (.object "com/example/paired_paths/pairedpaths/lts/PackedInts")) (by decide) (by decide)
  have f252_4 := f240_4.other W251 (Or.inr sl255)
  have sl256 := slot_ne (Z := Z) (a0 := a0) (Or.inr (own_w hw 64 rfl)) (Or.inr (own_w hw 60 rfl)) (by decide) (t := (.object "com/example/paired_paths/pairedpaths/lts/PackedInts")) (t' := (.object "com/example/paired_paths/pairedpaths/lts/PackedInts")) (by decide) (by decide)
  have f252_5 := f240_5.other W251 (Or.inr sl256)
  have sl257 := slot_ne (Z := Z) (a0 := a0) (Or.inr (own_w hw 66 rfl)) (Or.inr (own_w hw 60 rfl)) (by decide) (t := .int) (t' := (.object "com/example/paired_paths/pairedpaths/lts/PackedInts")) (by decide) (by decide)
  have f252_6 := f240_6.other W251 (Or.inr sl257)
  have sl258 := slot_ne (Z := Z) (a0 := a0) (Or.inr (own_w hw 68 rfl)) (Or.inr (own_w hw 60 rfl)) (by decide) (t := (.array .int)) (t' := (.object "com/example/paired_paths/pairedpaths/lts/PackedInts")) (by decide) (by decide)
  have f252_7 := f240_7.other W251 (Or.inr sl258)
  have sl259 := slot_ne (Z := Z) (a0 := a0) (Or.inr (own_w hw 70 rfl)) (Or.inr (own_w hw 60 rfl)) (by decide) (t := (.array .int)) (t' := (.object "com/example/paired_paths/pairedpaths/lts/PackedInts")) (by decide) (by decide)
  have f252_8 := f240_8.other W251 (Or.inr sl259)
  have sl260 := slot_ne (Z := Z) (a0 := a0) (Or.inr (own_w hw 72 rfl)) (Or.inr (own_w hw 60 rfl)) (by decide) (t := (.object "com/example/paired_paths/pairedpaths/lts/PackedInts")) (t' := (.object "com/example/paired_paths/pairedpaths/lts/PackedInts")) (by decide) (by decide)
  have f252_9 := f240_9.other W251 (Or.inr sl260)
  have f252_10 := f240_10.other W251 ne21
  have f252_11 := f240_11.wr W251
  have K261 : Keep h0 h251 [a1] := K249.wr W251 (Or.inl (List.mem_of_getElem? (i := 0) rfl))
  have N262 := Fr.snoc X251 N250 g1
  have Fw251 : Fld Z h251 a1 "com/example/paired_paths/pairedpaths/lts/TransitionSystem" "firstMove" "Lcom/example/paired_paths/pairedpaths/lts/PackedInts;" (.ref a3) := f240_3.same W251
  refine own_st st251 ?_
  show own_Fin p e below G (T251.setTop (mkF m 60 #[rv a1, rv a2, rv a3, rv a4, rv a4, iv p6, rv a7, rv a8, .val .null, iv (0 : Int32)] []))
  refine own_st (fun _ k => XS.aloadN X251.here hx rfl (hb hby d5_60) rfl rfl k) ?_
  show own_Fin p e below G (T251.setTop (mkF m 61 #[rv a1, rv a2, rv a3, rv a4, rv a4, iv p6, rv a7, rv a8, .val .null, iv (0 : Int32)] [(.ref a1)]))
  refine own_st (fun _ k => XS.aloadN X251.here hx rfl (hb hby d5_61) rfl rfl k) ?_
  show own_Fin p e below G (T251.setTop (mkF m 62 #[rv a1, rv a2, rv a3, rv a4, rv a4, iv p6, rv a7, rv a8, .val .null, iv (0 : Int32)] [(.ref a4), (.ref a1)]))
  obtain ⟨T263, h263, X263, e263, W263, st263⟩ := putF X251 hx hZ hown (host := "") (Or.inl (own_w hw 61 rfl)) Via.refl e251 f252_4 f252_0 (Or.inr ⟨(own_w hw 62 rfl), rfl, hnm⟩) (own_w hw 31 rfl) (ty := (.object "com/example/paired_paths/pairedpaths/lts/PackedInts")) (by decide) rfl rfl (g := (mkF m 62 #[rv a1, rv a2, rv a3, rv a4, rv a4, iv p6, rv a7, rv a8, .val .null, iv (0 : Int32)] [(.ref a4), (.ref a1)])) rfl rfl (hb hby d5_62)
  have f264_0 := f252_0.wr W263
  have sl265 := slot_ne (Z := Z) (a0 := a0) (Or.inr (own_w hw 56 rfl)) (Or.inr (own_w hw 62 rfl)) (by decide) (t := (.object "java/util/Map")) (t' := (.object "com/example/paired_paths/pairedpaths/lts/PackedInts")) (by decide) (by decide)
  have f264_1 := f252_1.other W263 (Or.inr sl265)
  have sl266 := slot_ne (Z := Z) (a0 := a0) (Or.inr (own_w hw 58 rfl)) (Or.inr (own_w hw 62 rfl)) (by decide) (t := (.array (.object "java/lang/String"))) (t' := (.object "com/example/paired_paths/pairedpaths/lts/PackedInts")) (by decide) (by decide)
  have f264_2 := f252_2.other W263 (Or.inr sl266)
  have sl267 := slot_ne (Z := Z) (a0 := a0) (Or.inr (own_w hw 60 rfl)) (Or.inr (own_w hw 62 rfl)) (by decide) (t := (.object "com/example/paired_paths/pairedpaths/lts/PackedInts")) (t' := (.object "com/example/paired_paths/pairedpaths/lts/PackedInts")) (by decide) (by decide)
  have f264_3 := Fw251.other W263 (Or.inr sl267)
  have sl268 := slot_ne (Z := Z) (a0 := a0) (Or.inr (own_w hw 64 rfl)) (Or.inr (own_w hw 62 rfl)) (by decide) (t := (.object "com/example/paired_paths/pairedpaths/lts/PackedInts")) (t' := (.object "com/example/paired_paths/pairedpaths/lts/PackedInts")) (by decide) (by decide)
  have f264_5 := f252_5.other W263 (Or.inr sl268)
  have sl269 := slot_ne (Z := Z) (a0 := a0) (Or.inr (own_w hw 66 rfl)) (Or.inr (own_w hw 62 rfl)) (by decide) (t := .int) (t' := (.object "com/example/paired_paths/pairedpaths/lts/PackedInts")) (by decide) (by decide)
  have f264_6 := f252_6.other W263 (Or.inr sl269)
  have sl270 := slot_ne (Z := Z) (a0 := a0) (Or.inr (own_w hw 68 rfl)) (Or.inr (own_w hw 62 rfl)) (by decide) (t := (.array .int)) (t' := (.object "com/example/paired_paths/pairedpaths/lts/PackedInts")) (by decide) (by decide)
  have f264_7 := f252_7.other W263 (Or.inr sl270)
  have sl271 := slot_ne (Z := Z) (a0 := a0) (Or.inr (own_w hw 70 rfl)) (Or.inr (own_w hw 62 rfl)) (by decide) (t := (.array .int)) (t' := (.object "com/example/paired_paths/pairedpaths/lts/PackedInts")) (by decide) (by decide)
  have f264_8 := f252_8.other W263 (Or.inr sl271)
  have sl272 := slot_ne (Z := Z) (a0 := a0) (Or.inr (own_w hw 72 rfl)) (Or.inr (own_w hw 62 rfl)) (by decide) (t := (.object "com/example/paired_paths/pairedpaths/lts/PackedInts")) (t' := (.object "com/example/paired_paths/pairedpaths/lts/PackedInts")) (by decide) (by decide)
  have f264_9 := f252_9.other W263 (Or.inr sl272)
  have f264_10 := f252_10.other W263 ne21
  have f264_11 := f252_11.wr W263
  have K273 : Keep h0 h263 [a1] := K261.wr W263 (Or.inl (List.mem_of_getElem? (i := 0) rfl))
  have N274 := Fr.snoc X263 N262 g1
  have Fw263 : Fld Z h263 a1 "com/example/paired_paths/pairedpaths/lts/TransitionSystem" "moveLabels" "Lcom/example/paired_paths/pairedpaths/lts/PackedInts;" (.ref a4) := f252_4.same W263
  refine own_st st263 ?_
  show own_Fin p e below G (T263.setTop (mkF m 65 #[rv a1, rv a2, rv a3, rv a4, rv a4, iv p6, rv a7, rv a8, .val .null, iv (0 : Int32)] []))
  refine own_st (fun _ k => XS.aloadN X263.here hx rfl (hb hby d5_65) rfl rfl k) ?_
  show own_Fin p e below G (T263.setTop (mkF m 66 #[rv a1, rv a2, rv a3, rv a4, rv a4, iv p6, rv a7, rv a8, .val .null, iv (0 : Int32)] [(.ref a1)]))
  refine own_st (fun _ k => XS.aload X263.here hx rfl (hb hby d5_66) rfl rfl k) ?_
  show own_Fin p e below G (T263.setTop (mkF m 68 #[rv a1, rv a2, rv a3, rv a4, rv a4, iv p6, rv a7, rv a8, .val .null, iv (0 : Int32)] [(.ref a4), (.ref a1)]))
  obtain ⟨T275, h275, X275, e275, W275, st275⟩ := putF X263 hx hZ hown (host := "") (Or.inl (own_w hw 63 rfl)) Via.refl e263 f264_5 f264_0 (Or.inr ⟨(own_w hw 64 rfl), rfl, hnm⟩) (own_w hw 31 rfl) (ty := (.object "com/example/paired_paths/pairedpaths/lts/PackedInts")) (by decide) rfl rfl (g := (mkF m 68 #[rv a1, rv a2, rv a3, rv a4, rv a4, iv p6, rv a7, rv a8, .val .null, iv (0 : Int32)] [(.ref a4), (.ref a1)])) rfl rfl (hb hby d5_68)
  have f276_0 := f264_0.wr W275
  have sl277 := slot_ne (Z := Z) (a0 := a0) (Or.inr (own_w hw 56 rfl)) (Or.inr (own_w hw 64 rfl)) (by decide) (t := (.object "java/util/Map")) (t' := (.object "com/example/paired_paths/pairedpaths/lts/PackedInts")) (by decide) (by decide)
  have f276_1 := f264_1.other W275 (Or.inr sl277)
  have sl278 := slot_ne (Z := Z) (a0 := a0) (Or.inr (own_w hw 58 rfl)) (Or.inr (own_w hw 64 rfl)) (by decide) (t := (.array (.object "java/lang/String"))) (t' := (.object "com/example/paired_paths/pairedpaths/lts/PackedInts")) (by decide) (by decide)
  have f276_2 := f264_2.other W275 (Or.inr sl278)
  have sl279 := slot_ne (Z := Z) (a0 := a0) (Or.inr (own_w hw 60 rfl)) (Or.inr (own_w hw 64 rfl)) (by decide) (t := (.object "com/example/paired_paths/pairedpaths/lts/PackedInts")) (t' := (.object "com/example/paired_paths/pairedpaths/lts/PackedInts")) (by decide) (by decide)
  have f276_3 := f264_3.other W275 (Or.inr sl279)
  have sl280 := slot_ne (Z := Z) (a0 := a0) (Or.inr (own_w hw 62 rfl)) (Or.inr (own_w hw 64 rfl)) (by decide) (t := (.object "com/example/paired_paths/pairedpaths/lts/PackedInts")) (t' := (.object "com/example/paired_paths/pairedpaths/lts/PackedInts")) (by decide) (by decide)
  have f276_4 := Fw263.other W275 (Or.inr sl280)
  have sl281 := slot_ne (Z := Z) (a0 := a0) (Or.inr (own_w hw 66 rfl)) (Or.inr (own_w hw 64 rfl)) (by decide) (t := .int) (t' := (.object "com/example/paired_paths/pairedpaths/lts/PackedInts")) (by decide) (by decide)
  have f276_6 := f264_6.other W275 (Or.inr sl281)
  have sl282 := slot_ne (Z := Z) (a0 := a0) (Or.inr (own_w hw 68 rfl)) (Or.inr (own_w hw 64 rfl)) (by decide) (t := (.array .int)) (t' := (.object "com/example/paired_paths/pairedpaths/lts/PackedInts")) (by decide) (by decide)
  have f276_7 := f264_7.other W275 (Or.inr sl282)
  have sl283 := slot_ne (Z := Z) (a0 := a0) (Or.inr (own_w hw 70 rfl)) (Or.inr (own_w hw 64 rfl)) (by decide) (t := (.array .int)) (t' := (.object "com/example/paired_paths/pairedpaths/lts/PackedInts")) (by decide) (by decide)
  have f276_8 := f264_8.other W275 (Or.inr sl283)
  have sl284 := slot_ne (Z := Z) (a0 := a0) (Or.inr (own_w hw 72 rfl)) (Or.inr (own_w hw 64 rfl)) (by decide) (t := (.object "com/example/paired_paths/pairedpaths/lts/PackedInts")) (t' := (.object "com/example/paired_paths/pairedpaths/lts/PackedInts")) (by decide) (by decide)
  have f276_9 := f264_9.other W275 (Or.inr sl284)
  have f276_10 := f264_10.other W275 ne21
  have f276_11 := f264_11.wr W275
  have K285 : Keep h0 h275 [a1] := K273.wr W275 (Or.inl (List.mem_of_getElem? (i := 0) rfl))
  have N286 := Fr.snoc X275 N274 g1
  have Fw275 : Fld Z h275 a1 "com/example/paired_paths/pairedpaths/lts/TransitionSystem" "moveTargets" "Lcom/example/paired_paths/pairedpaths/lts/PackedInts;" (.ref a4) := f264_5.same W275
  refine own_st st275 ?_
  show own_Fin p e below G (T275.setTop (mkF m 71 #[rv a1, rv a2, rv a3, rv a4, rv a4, iv p6, rv a7, rv a8, .val .null, iv (0 : Int32)] []))
  refine own_st (fun _ k => XS.aloadN X275.here hx rfl (hb hby d5_71) rfl rfl k) ?_
  show own_Fin p e below G (T275.setTop (mkF m 72 #[rv a1, rv a2, rv a3, rv a4, rv a4, iv p6, rv a7, rv a8, .val .null, iv (0 : Int32)] [(.ref a1)]))
  refine own_st (fun _ k => XS.iload X275.here hx rfl (hb hby d5_72) rfl  k) ?_
  show own_Fin p e below G (T275.setTop (mkF m 74 #[rv a1, rv a2, rv a3, rv a4, rv a4, iv p6, rv a7, rv a8, .val .null, iv (0 : Int32)] [(.int p6), (.ref a1)]))
  obtain ⟨T287, h287, X287, e287, W287, st287⟩ := putF X275 hx hZ hown (host := "") (Or.inl (own_w hw 65 rfl)) Via.refl e275 f276_6 f276_0 (Or.inr ⟨(own_w hw 66 rfl), rfl, hnm⟩) (own_w hw 31 rfl) (ty := .int) (by decide) rfl rfl (g := (mkF m 74 #[rv a1, rv a2, rv a3, rv a4, rv a4, iv p6, rv a7, rv a8, .val .null, iv (0 : Int32)] [(.int p6), (.ref a1)])) rfl rfl (hb hby d5_74)
  have f288_0 := f276_0.wr W287
  have sl289 := slot_ne (Z := Z) (a0 := a0) (Or.inr (own_w hw 56 rfl)) (Or.inr (own_w hw 66 rfl)) (by decide) (t := (.object "java/util/Map")) (t' := .int) (by decide) (by decide)
  have f288_1 := f276_1.other W287 (Or.inr sl289)
  have sl290 := slot_ne (Z := Z) (a0 := a0) (Or.inr (own_w hw 58 rfl)) (Or.inr (own_w hw 66 rfl)) (by decide) (t := (.array (.object "java/lang/String"))) (t' := .int) (by decide) (by decide)
  have f288_2 := f276_2.other W287 (Or.inr sl290)
  have sl291 := slot_ne (Z := Z) (a0 := a0) (Or.inr (own_w hw 60 rfl)) (Or.inr (own_w hw 66 rfl)) (by decide) (t := (.object "com/example/paired_paths/pairedpaths/lts/PackedInts")) (t' := .int) (by decide) (by decide)
  have f288_3 := f276_3.other W287 (Or.inr sl291)
  have sl292 := slot_ne (Z := Z) (a0 := a0) (Or.inr (own_w hw 62 rfl)) (Or.inr (own_w hw 66 rfl)) (by decide) (t := (.object "com/example/paired_paths/pairedpaths/lts/PackedInts")) (t' := .int) (by decide) (by decide)
  have f288_4 := f276_4.other W287 (Or.inr sl292)
  have sl293 := slot_ne (Z := Z) (a0 := a0) (Or.inr (own_w hw 64 rfl)) (Or.inr (own_w hw 66 rfl)) (by decide) (t := (.object "com/example/paired_paths/pairedpaths/lts/PackedInts")) (t' := .int) (by decide) (by decide)
  have f288_5 := Fw275.other W287 (Or.inr sl293)
  have sl294 := slot_ne (Z := Z) (a0 := a0) (Or.inr (own_w hw 68 rfl)) (Or.inr (own_w hw 66 rfl)) (by decide) (t := (.array .int)) (t' := .int) (by decide) (by decide)
  have f288_7 := f276_7.other W287 (Or.inr sl294)
  have sl295 := slot_ne (Z := Z) (a0 := a0) (Or.inr (own_w hw 70 rfl)) (Or.inr (own_w hw 66 rfl)) (by decide) (t := (.array .int)) (t' := .int) (by decide) (by decide)
  have f288_8 := f276_8.other W287 (Or.inr sl295)
  have sl296 := slot_ne (Z := Z) (a0 := a0) (Or.inr (own_w hw 72 rfl)) (Or.inr (own_w hw 66 rfl)) (by decide) (t := (.object "com/example/paired_paths/pairedpaths/lts/PackedInts")) (t' := .int) (by decide) (by decide)
  have f288_9 := f276_9.other W287 (Or.inr sl296)
  have f288_10 := f276_10.other W287 ne21
  have f288_11 := f276_11.wr W287
  have K297 : Keep h0 h287 [a1] := K285.wr W287 (Or.inl (List.mem_of_getElem? (i := 0) rfl))
  have N298 := Fr.snoc X287 N286 g1
  have Fw287 : Fld Z h287 a1 "com/example/paired_paths/pairedpaths/lts/TransitionSystem" "positionCount" "I" (.int p6) := f276_6.same W287
  refine own_st st287 ?_
  show own_Fin p e below G (T287.setTop (mkF m 77 #[rv a1, rv a2, rv a3, rv a4, rv a4, iv p6, rv a7, rv a8, .val .null, iv (0 : Int32)] []))
  refine own_st (fun _ k => XS.aloadN X287.here hx rfl (hb hby d5_77) rfl rfl k) ?_
  show own_Fin p e below G (T287.setTop (mkF m 78 #[rv a1, rv a2, rv a3, rv a4, rv a4, iv p6, rv a7, rv a8, .val .null, iv (0 : Int32)] [(.ref a1)]))
  refine own_st (fun _ k => XS.aload X287.here hx rfl (hb hby d5_78) rfl rfl k) ?_
  show own_Fin p e below G (T287.setTop (mkF m 80 #[rv a1, rv a2, rv a3, rv a4, rv a4, iv p6, rv a7, rv a8, .val .null, iv (0 : Int32)] [(.ref a7), (.ref a1)]))
  obtain ⟨T299, h299, X299, e299, W299, st299⟩ := putF X287 hx hZ hown (host := "") (Or.inl (own_w hw 67 rfl)) Via.refl e287 f288_7 f288_0 (Or.inr ⟨(own_w hw 68 rfl), rfl, hnm⟩) (own_w hw 31 rfl) (ty := (.array .int)) (by decide) rfl rfl (g := (mkF m 80 #[rv a1, rv a2, rv a3, rv a4, rv a4, iv p6, rv a7, rv a8, .val .null, iv (0 : Int32)] [(.ref a7), (.ref a1)])) rfl rfl (hb hby d5_80)
  have f300_0 := f288_0.wr W299
  have sl301 := slot_ne (Z := Z) (a0 := a0) (Or.inr (own_w hw 56 rfl)) (Or.inr (own_w hw 68 rfl)) (by decide) (t := (.object "java/util/Map")) (t' := (.array .int)) (by decide) (by decide)
  have f300_1 := f288_1.other W299 (Or.inr sl301)
  have sl302 := slot_ne (Z := Z) (a0 := a0) (Or.inr (own_w hw 58 rfl)) (Or.inr (own_w hw 68 rfl)) (by decide) (t := (.array (.object "java/lang/String"))) (t' := (.array .int)) (by decide) (by decide)
  have f300_2 := f288_2.other W299 (Or.inr sl302)
  have sl303 := slot_ne (Z := Z) (a0 := a0) (Or.inr (own_w hw 60 rfl)) (Or.inr (own_w hw 68 rfl)) (by decide) (t := (.object "com/example/paired_paths/pairedpaths/lts/PackedInts")) (t' := (.array .int)) (by decide) (by decide)
  have f300_3 := f288_3.other W299 (Or.inr sl303)
  have sl304 := slot_ne (Z := Z) (a0 := a0) (Or.inr (own_w hw 62 rfl)) (Or.inr (own_w hw 68 rfl)) (by decide) (t := (.object "com/example/paired_paths/pairedpaths/lts/PackedInts")) (t' := (.array .int)) (by decide) (by decide)
  have f300_4 := f288_4.other W299 (Or.inr sl304)
  have sl305 := slot_ne (Z := Z) (a0 := a0) (Or.inr (own_w hw 64 rfl)) (Or.inr (own_w hw 68 rfl)) (by decide) (t := (.object "com/example/paired_paths/pairedpaths/lts/PackedInts")) (t' := (.array .int)) (by decide) (by decide)
  have f300_5 := f288_5.other W299 (Or.inr sl305)
  have sl306 := slot_ne (Z := Z) (a0 := a0) (Or.inr (own_w hw 66 rfl)) (Or.inr (own_w hw 68 rfl)) (by decide) (t := .int) (t' := (.array .int)) (by decide) (by decide)
  have f300_6 := Fw287.other W299 (Or.inr sl306)
  have sl307 := slot_ne (Z := Z) (a0 := a0) (Or.inr (own_w hw 70 rfl)) (Or.inr (own_w hw 68 rfl)) (by decide) (t := (.array .int)) (t' := (.array .int)) (by decide) (by decide)
  have f300_8 := f288_8.other W299 (Or.inr sl307)
  have sl308 := slot_ne (Z := Z) (a0 := a0) (Or.inr (own_w hw 72 rfl)) (Or.inr (own_w hw 68 rfl)) (by decide) (t := (.object "com/example/paired_paths/pairedpaths/lts/PackedInts")) (t' := (.array .int)) (by decide) (by decide)
  have f300_9 := f288_9.other W299 (Or.inr sl308)
  have f300_10 := f288_10.other W299 ne21
  have f300_11 := f288_11.wr W299
  have K309 : Keep h0 h299 [a1] := K297.wr W299 (Or.inl (List.mem_of_getElem? (i := 0) rfl))
  have N310 := Fr.snoc X299 N298 g1
  have Fw299 : Fld Z h299 a1 "com/example/paired_paths/pairedpaths/lts/TransitionSystem" "firstWaiting" "[I" (.ref a7) := f288_7.same W299
  refine own_st st299 ?_
  show own_Fin p e below G (T299.setTop (mkF m 83 #[rv a1, rv a2, rv a3, rv a4, rv a4, iv p6, rv a7, rv a8, .val .null, iv (0 : Int32)] []))
  refine own_st (fun _ k => XS.aloadN X299.here hx rfl (hb hby d5_83) rfl rfl k) ?_
  show own_Fin p e below G (T299.setTop (mkF m 84 #[rv a1, rv a2, rv a3, rv a4, rv a4, iv p6, rv a7, rv a8, .val .null, iv (0 : Int32)] [(.ref a1)]))
  refine own_st (fun _ k => XS.aload X299.here hx rfl (hb hby d5_84) rfl rfl k) ?_
  show own_Fin p e below G (T299.setTop (mkF m 86 #[rv a1, rv a2, rv a3, rv a4, rv a4, iv p6, rv a7, rv a8, .val .null, iv (0 : Int32)] [(.ref a8), (.ref a1)]))
  obtain ⟨T311, h311, X311, e311, W311, st311⟩ := putF X299 hx hZ hown (host := "") (Or.inl (own_w hw 69 rfl)) Via.refl e299 f300_8 f300_0 (Or.inr ⟨(own_w hw 70 rfl), rfl, hnm⟩) (own_w hw 31 rfl) (ty := (.array .int)) (by decide) rfl rfl (g := (mkF m 86 #[rv a1, rv a2, rv a3, rv a4, rv a4, iv p6, rv a7, rv a8, .val .null, iv (0 : Int32)] [(.ref a8), (.ref a1)])) rfl rfl (hb hby d5_86)
  have f312_0 := f300_0.wr W311
  have sl313 := slot_ne (Z := Z) (a0 := a0) (Or.inr (own_w hw 56 rfl)) (Or.inr (own_w hw 70 rfl)) (by decide) (t := (.object "java/util/Map")) (t' := (.array .int)) (by decide) (by decide)
  have f312_1 := f300_1.other W311 (Or.inr sl313)
  have sl314 := slot_ne (Z := Z) (a0 := a0) (Or.inr (own_w hw 58 rfl)) (Or.inr (own_w hw 70 rfl)) (by decide) (t := (.array (.object "java/lang/String"))) (t' := (.array .int)) (by decide) (by decide)
  have f312_2 := f300_2.other W311 (Or.inr sl314)
  have sl315 := slot_ne (Z := Z) (a0 := a0) (Or.inr (own_w hw 60 rfl)) (Or.inr (own_w hw 70 rfl)) (by decide) (t := (.object "com/example/paired_paths/pairedpaths/lts/PackedInts")) (t' := (.array .int)) (by decide) (by decide)
  have f312_3 := f300_3.other W311 (Or.inr sl315)
  have sl316 := slot_ne (Z := Z) (a0 := a0) (Or.inr (own_w hw 62 rfl)) (Or.inr (own_w hw 70 rfl)) (by decide) (t := (.object "com/example/paired_paths/pairedpaths/lts/PackedInts")) (t' := (.array .int)) (by decide) (by decide)
  have f312_4 := f300_4.other W311 (Or.inr sl316)
  have sl317 := slot_ne (Z := Z) (a0 := a0) (Or.inr (own_w hw 64 rfl)) (Or.inr (own_w hw 70 rfl)) (by decide) (t := (.object "com/example/paired_paths/pairedpaths/lts/PackedInts")) (t' := (.array .int)) (by decide) (by decide)
  have f312_5 := f300_5.other W311 (Or.inr sl317)
  have sl318 := slot_ne (Z := Z) (a0 := a0) (Or.inr (own_w hw 66 rfl)) (Or.inr (own_w hw 70 rfl)) (by decide) (t := .int) (t' := (.array .int)) (by decide) (by decide)
  have f312_6 := f300_6.other W311 (Or.inr sl318)
  have sl319 := slot_ne (Z := Z) (a0 := a0) (Or.inr (own_w hw 68 rfl)) (Or.inr (own_w hw 70 rfl)) (by decide) (t := (.array .int)) (t' := (.array .int)) (by decide) (by decide)
  have f312_7 := Fw299.other W311 (Or.inr sl319)
  have sl320 := slot_ne (Z := Z) (a0 := a0) (Or.inr (own_w hw 72 rfl)) (Or.inr (own_w hw 70 rfl)) (by decide) (t := (.object "com/example/paired_paths/pairedpaths/lts/PackedInts")) (t' := (.array .int)) (by decide) (by decide)
  have f312_9 := f300_9.other W311 (Or.inr sl320)
  have f312_10 := f300_10.other W311 ne21
  have f312_11 := f300_11.wr W311
  have K321 : Keep h0 h311 [a1] := K309.wr W311 (Or.inl (List.mem_of_getElem? (i := 0) rfl))
  have N322 := Fr.snoc X311 N310 g1
  have Fw311 : Fld Z h311 a1 "com/example/paired_paths/pairedpaths/lts/TransitionSystem" "waitingPositions" "[I" (.ref a8) := f300_8.same W311
  refine own_st st311 ?_
  show own_Fin p e below G (T311.setTop (mkF m 89 #[rv a1, rv a2, rv a3, rv a4, rv a4, iv p6, rv a7, rv a8, .val .null, iv (0 : Int32)] []))
  refine own_st (fun _ k => XS.aloadN X311.here hx rfl (hb hby d5_89) rfl rfl k) ?_
  show own_Fin p e below G (T311.setTop (mkF m 90 #[rv a1, rv a2, rv a3, rv a4, rv a4, iv p6, rv a7, rv a8, .val .null, iv (0 : Int32)] [(.ref a1)]))
  refine own_st (fun _ k => XS.aload X311.here hx rfl (hb hby d5_90) rfl rfl k) ?_
  show own_Fin p e below G (T311.setTop (mkF m 92 #[rv a1, rv a2, rv a3, rv a4, rv a4, iv p6, rv a7, rv a8, .val .null, iv (0 : Int32)] [.null, (.ref a1)]))
  obtain ⟨T323, h323, X323, e323, W323, st323⟩ := putF X311 hx hZ hown (host := "") (Or.inl (own_w hw 71 rfl)) Via.refl e311 f312_9 f312_0 (Or.inr ⟨(own_w hw 72 rfl), rfl, hnm⟩) (own_w hw 31 rfl) (ty := (.object "com/example/paired_paths/pairedpaths/lts/PackedInts")) (by decide) rfl rfl (g := (mkF m 92 #[rv a1, rv a2, rv a3, rv a4, rv a4, iv p6, rv a7, rv a8, .val .null, iv (0 : Int32)] [.null, (.ref a1)])) rfl rfl (hb hby d5_92)
  have f324_0 := f312_0.wr W323
  have sl325 := slot_ne (Z := Z) (a0 := a0) (Or.inr (own_w hw 56 rfl)) (Or.inr (own_w hw 72 rfl)) (by decide) (t := (.object "java/util/Map")) (t' := (.object "com/example/paired_paths/pairedpaths/lts/PackedInts")) (by decide) (by decide)
  have f324_1 := f312_1.other W323 (Or.inr sl325)
  have sl326 := slot_ne (Z := Z) (a0 := a0) (Or.inr (own_w hw 58 rfl)) (Or.inr (own_w hw 72 rfl)) (by decide) (t := (.array (.object "java/lang/String"))) (t' := (.object "com/example/paired_paths/pairedpaths/lts/PackedInts")) (by decide) (by decide)
  have f324_2 := f312_2.other W323 (Or.inr sl326)
  have sl327 := slot_ne (Z := Z) (a0 := a0) (Or.inr (own_w hw 60 rfl)) (Or.inr (own_w hw 72 rfl)) (by decide) (t := (.object "com/example/paired_paths/pairedpaths/lts/PackedInts")) (t' := (.object "com/example/paired_paths/pairedpaths/lts/PackedInts")) (by decide) (by decide)
  have f324_3 := f312_3.other W323 (Or.inr sl327)
  have sl328 := slot_ne (Z := Z) (a0 := a0) (Or.inr (own_w hw 62 rfl)) (Or.inr (own_w hw 72 rfl)) (by decide) (t := (.object "com/example/paired_paths/pairedpaths/lts/PackedInts")) (t' := (.object "com/example/paired_paths/pairedpaths/lts/PackedInts")) (by decide) (by decide)
  have f324_4 := f312_4.other W323 (Or.inr sl328)
  have sl329 := slot_ne (Z := Z) (a0 := a0) (Or.inr (own_w hw 64 rfl)) (Or.inr (own_w hw 72 rfl)) (by decide) (t := (.object "com/example/paired_paths/pairedpaths/lts/PackedInts")) (t' := (.object "com/example/paired_paths/pairedpaths/lts/PackedInts")) (by decide) (by decide)
  have f324_5 := f312_5.other W323 (Or.inr sl329)
  have sl330 := slot_ne (Z := Z) (a0 := a0) (Or.inr (own_w hw 66 rfl)) (Or.inr (own_w hw 72 rfl)) (by decide) (t := .int) (t' := (.object "com/example/paired_paths/pairedpaths/lts/PackedInts")) (by decide) (by decide)
  have f324_6 := f312_6.other W323 (Or.inr sl330)
  have sl331 := slot_ne (Z := Z) (a0 := a0) (Or.inr (own_w hw 68 rfl)) (Or.inr (own_w hw 72 rfl)) (by decide) (t := (.array .int)) (t' := (.object "com/example/paired_paths/pairedpaths/lts/PackedInts")) (by decide) (by decide)
  have f324_7 := f312_7.other W323 (Or.inr sl331)
  have sl332 := slot_ne (Z := Z) (a0 := a0) (Or.inr (own_w hw 70 rfl)) (Or.inr (own_w hw 72 rfl)) (by decide) (t := (.array .int)) (t' := (.object "com/example/paired_paths/pairedpaths/lts/PackedInts")) (by decide) (by decide)
  have f324_8 := Fw311.other W323 (Or.inr sl332)
  have f324_10 := f312_10.other W323 ne21
  have f324_11 := f312_11.wr W323
  have K333 : Keep h0 h323 [a1] := K321.wr W323 (Or.inl (List.mem_of_getElem? (i := 0) rfl))
  have N334 := Fr.snoc X323 N322 g1
  have Fw323 : Fld Z h323 a1 "com/example/paired_paths/pairedpaths/lts/TransitionSystem" "sourceStates" "Lcom/example/paired_paths/pairedpaths/lts/PackedInts;" .null := f312_9.same W323
  refine own_st st323 ?_
  show own_Fin p e below G (T323.setTop (mkF m 95 #[rv a1, rv a2, rv a3, rv a4, rv a4, iv p6, rv a7, rv a8, .val .null, iv (0 : Int32)] []))
  refine own_out X323 Bd.notSynchronized (v := none) (fun _ => rfl) hG (fun fs hr => X323.returnOut hx Bd.returns (hb hby d5_95) hr) (by decide) (by decide) ?_
  exact ⟨rfl, N334, e323.symm ▸ K333, e323.symm ▸ f324_7⟩

theorem d8_0 : decode prog_83_method_19_code 0 = .ok (.aload_n 0, 1) := by decide +kernel
theorem d8_1 : decode prog_83_method_19_code 1 = .ok (.getfield 46, 3) := by decide +kernel
theorem d8_4 : decode prog_83_method_19_code 4 = .ok (.ifnonnull 7, 3) := by decide +kernel
theorem d8_7 : decode prog_83_method_19_code 7 = .ok (.iconst 0, 1) := by decide +kernel
theorem d8_8 : decode prog_83_method_19_code 8 = .ok (.goto 11, 3) := by decide +kernel
theorem d8_19 : decode prog_83_method_19_code 19 = .ok (.ireturn, 1) := by decide +kernel
theorem ef_8_RI (m : MethodId) (x0 : Addr) (x1 : Int32) : entryFrame m #[(.ref x0), (.int x1)] 2 = mkF m 0 #[rv x0, iv x1] [] := by first | (simp [entryFrame, mkF, argsToLocals, Value.category]; done) | rfl
def Qrm_waitingEndn (Z : State) (a1 : Addr) (p1 : Int32) (h0 : Heap) (n0 : Nat) (v : Option Value) (h : Heap) (L : List Loc) : Prop := v = some (.int 0) ∧ Fr n0 L ∧ h = h0
set_option maxRecDepth 65536 in
set_option maxHeartbeats 40000000 in
theorem rm_waitingEndn (l : Launch) (Z : State) (a0 : Array Value) (hw : ∀ d ∈ tables_1, d.before a0 Z = true) (ws : List Jvm.Cond) (a1 : Addr) (p1 : Int32) (h0 : Heap) (n0 : Nat) (Z0 : n0 ≤ h0.size) (F1 : Fld Z h0 a1 "com/example/paired_paths/pairedpaths/lts/TransitionSystem" "firstWaiting" "[I" .null) :
    MetFree l own_y6 (head1 (Jvm.Cond.code own_y6 prog_83_method_19_code 2 (some .int) :: ws) ({ frames := 0, cells := 0, slots := 0, locals := 0 } : Room)) (fun a U => a = #[(.ref a1), (.int p1)] ∧ Z.Warmed39 U.vm ∧ U.heap = h0) (fun _ _ _ _ _ => True) (fun _ U o U' => ∃ v L, o = .returned v ∧ Qrm_waitingEndn Z a1 p1 h0 n0 v U'.heap L ∧ FrameEnd U o U' L ({ frames := 0, cells := 0, slots := 0, locals := 0 } : Room).cells ({ frames := 0, cells := 0, slots := 0, locals := 0 } : Room).slots) := by
  refine MetFree.of_bodySF (plainFor_of_name pn_com_example_paired_paths_pairedpaths_lts_TransitionSystem) hisR ?_
  intro p e s m args below meth c s₁ Bd hml0 hP hK
  obtain ⟨rfl, hZ, hh⟩ := hP
  have hx := Bd.exec
  have hby := Bd.bytes
  have hml : c.maxLocals = 2 := hml0
  have hown : s.vm.findClass "com/example/paired_paths/pairedpaths/lts/TransitionSystem" = some m.cls := findClass_of_methodNamed Bd.named
  have hnm := (name_of_methodNamed Bd.named Bd.method).1
  have X0 : Stand p l e ({ frames := 0, cells := 0, slots := 0, locals := 0 } : Room) s m #[(.ref a1), (.int p1)] below meth c s₁ [] 0 0 := Stand.of_body Bd
  have e0 : s₁.heap = h0 := by rw [← hh, Bd.state]; rfl
  have N0 := Fr.nil n0
  have K0 : Keep h0 h0 [] := Keep.refl _ _
  refine own_start (Qk := Qrm_waitingEndn Z a1 p1 h0 n0) (fun G hG => ?_)
  refine own_st (fun _ k => castTop (ef_8_RI m a1 p1) k) ?_
  show own_Fin p e below G (s₁.setTop (mkF m 0 #[rv a1, iv p1] []))
  refine own_st (fun _ k => XS.aloadN X0.here hx rfl (hb hby d8_0) rfl rfl k) ?_
  show own_Fin p e below G (s₁.setTop (mkF m 1 #[rv a1, iv p1] [(.ref a1)]))
  obtain ⟨T335, X335, e335, st335⟩ := getF X0 hx hZ hown (host := "") (Or.inl (own_w hw 67 rfl)) Via.refl e0 F1 (g := (mkF m 1 #[rv a1, iv p1] [(.ref a1)])) rfl rfl (hb hby d8_1)
  refine own_st st335 ?_
  show own_Fin p e below G (T335.setTop (mkF m 4 #[rv a1, iv p1] [.null]))
  refine own_st (fun _ k => XS.ifnonnullNo X335.here hx rfl (hb hby d8_4) rfl k) ?_
  show own_Fin p e below G (T335.setTop (mkF m 7 #[rv a1, iv p1] []))
  refine own_st (fun _ k => XS.iconst X335.here hx rfl (hb hby d8_7) k) ?_
  show own_Fin p e below G (T335.setTop (mkF m 8 #[rv a1, iv p1] [(.int (0 : Int32))]))
  refine own_st (fun _ k => XS.goto X335.here hx rfl (pc0 := 8) (pc' := 19) rfl (hb hby d8_8) (by decide) (by decide) k) ?_
  show own_Fin p e below G (T335.setTop (mkF m 19 #[rv a1, iv p1] [(.int (0 : Int32))]))
  refine own_out X335 Bd.notSynchronized (v := (some (.int (0 : Int32)))) (fun h => by rw [Bd.returns] at h; cases h) hG (fun fs hr => retOut X335 hx Bd.returns rfl (Or.inl ⟨rfl, Or.inl rfl, _, rfl⟩) (hb hby d8_19) hr) (by decide) (by decide) ?_
  exact ⟨rfl, N0, e335⟩

theorem d8_11 : decode prog_83_method_19_code 11 = .ok (.aload_n 0, 1) := by decide +kernel
theorem d8_12 : decode prog_83_method_19_code 12 = .ok (.getfield 46, 3) := by decide +kernel
theorem d8_15 : decode prog_83_method_19_code 15 = .ok (.iload_n 1, 1) := by decide +kernel
theorem d8_16 : decode prog_83_method_19_code 16 = .ok (.iconst 1, 1) := by decide +kernel
theorem d8_17 : decode prog_83_method_19_code 17 = .ok (.iadd, 1) := by decide +kernel
theorem d8_18 : decode prog_83_method_19_code 18 = .ok (.iaload, 1) := by decide +kernel
def Qrm_waitingEnd0 (Z : State) (a1 : Addr) (a2 : Addr) (x0 : Int32) (x1 : Int32) (x2 : Int32) (x3 : Int32) (h0 : Heap) (n0 : Nat) (v : Option Value) (h : Heap) (L : List Loc) : Prop := v = some (.int x1) ∧ Fr n0 L ∧ h = h0
set_option maxRecDepth 65536 in
set_option maxHeartbeats 40000000 in
theorem rm_waitingEnd0 (l : Launch) (Z : State) (a0 : Array Value) (hw : ∀ d ∈ tables_1, d.before a0 Z = true) (ws : List Jvm.Cond) (a1 : Addr) (a2 : Addr) (x0 : Int32) (x1 : Int32) (x2 : Int32) (x3 : Int32) (h0 : Heap) (n0 : Nat) (Z0 : n0 ≤ h0.size) (F1 : Fld Z h0 a1 "com/example/paired_paths/pairedpaths/lts/TransitionSystem" "firstWaiting" "[I" (.ref a2)) (A2 : own_AV Z h0 a2 .int (own_is [x0, x1, x2, x3])) :
    MetFree l own_y6 (head1 (Jvm.Cond.code own_y6 prog_83_method_19_code 2 (some .int) :: ws) ({ frames := 0, cells := 0, slots := 0, locals := 0 } : Room)) (fun a U => a = #[(.ref a1), (.int (0 : Int32))] ∧ Z.Warmed39 U.vm ∧ U.heap = h0) (fun _ _ _ _ _ => True) (fun _ U o U' => ∃ v L, o = .returned v ∧ Qrm_waitingEnd0 Z a1 a2 x0 x1 x2 x3 h0 n0 v U'.heap L ∧ FrameEnd U o U' L ({ frames := 0, cells := 0, slots := 0, locals := 0 } : Room).cells ({ frames := 0, cells := 0, slots := 0, locals := 0 } : Room).slots) := by
  refine MetFree.of_bodySF (plainFor_of_name pn_com_example_paired_paths_pairedpaths_lts_TransitionSystem) hisR ?_
  intro p e s m args below meth c s₁ Bd hml0 hP hK
  obtain ⟨rfl, hZ, hh⟩ := hP
  have hx := Bd.exec
  have hby := Bd.bytes
  have hml : c.maxLocals = 2 := hml0
  have hown : s.vm.findClass "com/example/paired_paths/pairedpaths/lts/TransitionSystem" = some m.cls := findClass_of_methodNamed Bd.named
  have hnm := (name_of_methodNamed Bd.named Bd.method).1
  have X0 : Stand p l e ({ frames := 0, cells := 0, slots := 0, locals := 0 } : Room) s m #[(.ref a1), (.int (0 : Int32))] below meth c s₁ [] 0 0 := Stand.of_body Bd
  have e0 : s₁.heap = h0 := by rw [← hh, Bd.state]; rfl
  have N0 := Fr.nil n0
  have K0 : Keep h0 h0 [] := Keep.refl _ _
  refine own_start (Qk := Qrm_waitingEnd0 Z a1 a2 x0 x1 x2 x3 h0 n0) (fun G hG => ?_)
  refine own_st (fun _ k => castTop (ef_8_RI m a1 (0 : Int32)) k) ?_
  show own_Fin p e below G (s₁.setTop (mkF m 0 #[rv a1, iv (0 : Int32)] []))
  refine own_st (fun _ k => XS.aloadN X0.here hx rfl (hb hby d8_0) rfl rfl k) ?_
  show own_Fin p e below G (s₁.setTop (mkF m 1 #[rv a1, iv (0 : Int32)] [(.ref a1)]))
  obtain ⟨T336, X336, e336, st336⟩ := getF X0 hx hZ hown (host := "") (Or.inl (own_w hw 67 rfl)) Via.refl e0 F1 (g := (mkF m 1 #[rv a1, iv (0 : Int32)] [(.ref a1)])) rfl rfl (hb hby d8_1)
  refine own_st st336 ?_
  show own_Fin p e below G (T336.setTop (mkF m 4 #[rv a1, iv (0 : Int32)] [(.ref a2)]))
  refine own_st (fun _ k => XS.ifnonnullYes X336.here hx rfl (pc0 := 4) (pc' := 11) rfl (hb hby d8_4) rfl (by decide) (by decide) k) ?_
  show own_Fin p e below G (T336.setTop (mkF m 11 #[rv a1, iv (0 : Int32)] []))
  refine own_st (fun _ k => XS.aloadN X336.here hx rfl (hb hby d8_11) rfl rfl k) ?_
  show own_Fin p e below G (T336.setTop (mkF m 12 #[rv a1, iv (0 : Int32)] [(.ref a1)]))
  obtain ⟨T337, X337, e337, st337⟩ := getF X336 hx hZ hown (host := "") (Or.inl (own_w hw 67 rfl)) Via.refl e336 F1 (g := (mkF m 12 #[rv a1, iv (0 : Int32)] [(.ref a1)])) rfl rfl (hb hby d8_12)
  refine own_st st337 ?_
  show own_Fin p e below G (T337.setTop (mkF m 15 #[rv a1, iv (0 : Int32)] [(.ref a2)]))
  refine own_st (fun _ k => XS.iloadN X337.here hx rfl (hb hby d8_15) rfl  k) ?_
  show own_Fin p e below G (T337.setTop (mkF m 16 #[rv a1, iv (0 : Int32)] [(.int (0 : Int32)), (.ref a2)]))
  refine own_st (fun _ k => XS.iconst X337.here hx rfl (hb hby d8_16) k) ?_
  show own_Fin p e below G (T337.setTop (mkF m 17 #[rv a1, iv (0 : Int32)] [(.int (1 : Int32)), (.int (0 : Int32)), (.ref a2)]))
  refine own_st (fun _ k => XS.iadd X337.here hx rfl (hb hby d8_17) rfl k) ?_
  show own_Fin p e below G (T337.setTop (mkF m 18 #[rv a1, iv (0 : Int32)] [(.int (1 : Int32)), (.ref a2)]))
  refine own_st (fun _ k => own_ldI X337 hx hZ e337 A2 (j := (1 : Int32)) (n := 4) rfl (by decide) (g := (mkF m 18 #[rv a1, iv (0 : Int32)] [(.int (1 : Int32)), (.ref a2)])) rfl rfl (hb hby d8_18) k) ?_
  show own_Fin p e below G (T337.setTop (mkF m 19 #[rv a1, iv (0 : Int32)] [(.int x1)]))
  refine own_out X337 Bd.notSynchronized (v := (some (.int x1))) (fun h => by rw [Bd.returns] at h; cases h) hG (fun fs hr => retOut X337 hx Bd.returns rfl (Or.inl ⟨rfl, Or.inl rfl, _, rfl⟩) (hb hby d8_19) hr) (by decide) (by decide) ?_
  exact ⟨rfl, N0, e337⟩

def Qrm_waitingEnd1 (Z : State) (a1 : Addr) (a2 : Addr) (x0 : Int32) (x1 : Int32) (x2 : Int32) (x3 : Int32) (h0 : Heap) (n0 : Nat) (v : Option Value) (h : Heap) (L : List Loc) : Prop := v = some (.int x2) ∧ Fr n0 L ∧ h = h0
set_option maxRecDepth 65536 in
set_option maxHeartbeats 40000000 in
theorem rm_waitingEnd1 (l : Launch) (Z : State) (a0 : Array Value) (hw : ∀ d ∈ tables_1, d.before a0 Z = true) (ws : List Jvm.Cond) (a1 : Addr) (a2 : Addr) (x0 : Int32) (x1 : Int32) (x2 : Int32) (x3 : Int32) (h0 : Heap) (n0 : Nat) (Z0 : n0 ≤ h0.size) (F1 : Fld Z h0 a1 "com/example/paired_paths/pairedpaths/lts/TransitionSystem" "firstWaiting" "[I" (.ref a2)) (A2 : own_AV Z h0 a2 .int (own_is [x0, x1, x2, x3])) :
    MetFree l own_y6 (head1 (Jvm.Cond.code own_y6 prog_83_method_19_code 2 (some .int) :: ws) ({ frames := 0, cells := 0, slots := 0, locals := 0 } : Room)) (fun a U => a = #[(.ref a1), (.int (1 : Int32))] ∧ Z.Warmed39 U.vm ∧ U.heap = h0) (fun _ _ _ _ _ => True) (fun _ U o U' => ∃ v L, o = .returned v ∧ Qrm_waitingEnd1 Z a1 a2 x0 x1 x2 x3 h0 n0 v U'.heap L ∧ FrameEnd U o U' L ({ frames := 0, cells := 0, slots := 0, locals := 0 } : Room).cells ({ frames := 0, cells := 0, slots := 0, locals := 0 } : Room).slots) := by
  refine MetFree.of_bodySF (plainFor_of_name pn_com_example_paired_paths_pairedpaths_lts_TransitionSystem) hisR ?_
  intro p e s m args below meth c s₁ Bd hml0 hP hK
  obtain ⟨rfl, hZ, hh⟩ := hP
  have hx := Bd.exec
  have hby := Bd.bytes
  have hml : c.maxLocals = 2 := hml0
  have hown : s.vm.findClass "com/example/paired_paths/pairedpaths/lts/TransitionSystem" = some m.cls := findClass_of_methodNamed Bd.named
  have hnm := (name_of_methodNamed Bd.named Bd.method).1
  have X0 : Stand p l e ({ frames := 0, cells := 0, slots := 0, locals := 0 } : Room) s m #[(.ref a1), (.int (1 : Int32))] below meth c s₁ [] 0 0 := Stand.of_body Bd
  have e0 : s₁.heap = h0 := by rw [← hh, Bd.state]; rfl
  have N0 := Fr.nil n0
  have K0 : Keep h0 h0 [] := Keep.refl _ _
  refine own_start (Qk := Qrm_waitingEnd1 Z a1 a2 x0 x1 x2 x3 h0 n0) (fun G hG => ?_)
  refine own_st (fun _ k => castTop (ef_8_RI m a1 (1 : Int32)) k) ?_
  show own_Fin p e below G (s₁.setTop (mkF m 0 #[rv a1, iv (1 : Int32)] []))
  refine own_st (fun _ k => XS.aloadN X0.here hx rfl (hb hby d8_0) rfl rfl k) ?_
  show own_Fin p e below G (s₁.setTop (mkF m 1 #[rv a1, iv (1 : Int32)] [(.ref a1)]))
  obtain ⟨T338, X338, e338, st338⟩ := getF X0 hx hZ hown (host := "") (Or.inl (own_w hw 67 rfl)) Via.refl e0 F1 (g := (mkF m 1 #[rv a1, iv (1 : Int32)] [(.ref a1)])) rfl rfl (hb hby d8_1)
  refine own_st st338 ?_
  show own_Fin p e below G (T338.setTop (mkF m 4 #[rv a1, iv (1 : Int32)] [(.ref a2)]))
  refine own_st (fun _ k => XS.ifnonnullYes X338.here hx rfl (pc0 := 4) (pc' := 11) rfl (hb hby d8_4) rfl (by decide) (by decide) k) ?_
  show own_Fin p e below G (T338.setTop (mkF m 11 #[rv a1, iv (1 : Int32)] []))
  refine own_st (fun _ k => XS.aloadN X338.here hx rfl (hb hby d8_11) rfl rfl k) ?_
  show own_Fin p e below G (T338.setTop (mkF m 12 #[rv a1, iv (1 : Int32)] [(.ref a1)]))
  obtain ⟨T339, X339, e339, st339⟩ := getF X338 hx hZ hown (host := "") (Or.inl (own_w hw 67 rfl)) Via.refl e338 F1 (g := (mkF m 12 #[rv a1, iv (1 : Int32)] [(.ref a1)])) rfl rfl (hb hby d8_12)
  refine own_st st339 ?_
  show own_Fin p e below G (T339.setTop (mkF m 15 #[rv a1, iv (1 : Int32)] [(.ref a2)]))
  refine own_st (fun _ k => XS.iloadN X339.here hx rfl (hb hby d8_15) rfl  k) ?_
  show own_Fin p e below G (T339.setTop (mkF m 16 #[rv a1, iv (1 : Int32)] [(.int (1 : Int32)), (.ref a2)]))
  refine own_st (fun _ k => XS.iconst X339.here hx rfl (hb hby d8_16) k) ?_
  show own_Fin p e below G (T339.setTop (mkF m 17 #[rv a1, iv (1 : Int32)] [(.int (1 : Int32)), (.int (1 : Int32)), (.ref a2)]))
  refine own_st (fun _ k => XS.iadd X339.here hx rfl (hb hby d8_17) rfl k) ?_
  show own_Fin p e below G (T339.setTop (mkF m 18 #[rv a1, iv (1 : Int32)] [(.int (2 : Int32)), (.ref a2)]))
  refine own_st (fun _ k => own_ldI X339 hx hZ e339 A2 (j := (2 : Int32)) (n := 4) rfl (by decide) (g := (mkF m 18 #[rv a1, iv (1 : Int32)] [(.int (2 : Int32)), (.ref a2)])) rfl rfl (hb hby d8_18) k) ?_
  show own_Fin p e below G (T339.setTop (mkF m 19 #[rv a1, iv (1 : Int32)] [(.int x2)]))
  refine own_out X339 Bd.notSynchronized (v := (some (.int x2))) (fun h => by rw [Bd.returns] at h; cases h) hG (fun fs hr => retOut X339 hx Bd.returns rfl (Or.inl ⟨rfl, Or.inl rfl, _, rfl⟩) (hb hby d8_19) hr) (by decide) (by decide) ?_
  exact ⟨rfl, N0, e339⟩

def Qrm_waitingEnd2 (Z : State) (a1 : Addr) (a2 : Addr) (x0 : Int32) (x1 : Int32) (x2 : Int32) (x3 : Int32) (h0 : Heap) (n0 : Nat) (v : Option Value) (h : Heap) (L : List Loc) : Prop := v = some (.int x3) ∧ Fr n0 L ∧ h = h0
set_option maxRecDepth 65536 in
set_option maxHeartbeats 40000000 in
theorem rm_waitingEnd2 (l : Launch) (Z : State) (a0 : Array Value) (hw : ∀ d ∈ tables_1, d.before a0 Z = true) (ws : List Jvm.Cond) (a1 : Addr) (a2 : Addr) (x0 : Int32) (x1 : Int32) (x2 : Int32) (x3 : Int32) (h0 : Heap) (n0 : Nat) (Z0 : n0 ≤ h0.size) (F1 : Fld Z h0 a1 "com/example/paired_paths/pairedpaths/lts/TransitionSystem" "firstWaiting" "[I" (.ref a2)) (A2 : own_AV Z h0 a2 .int (own_is [x0, x1, x2, x3])) :
    MetFree l own_y6 (head1 (Jvm.Cond.code own_y6 prog_83_method_19_code 2 (some .int) :: ws) ({ frames := 0, cells := 0, slots := 0, locals := 0 } : Room)) (fun a U => a = #[(.ref a1), (.int (2 : Int32))] ∧ Z.Warmed39 U.vm ∧ U.heap = h0) (fun _ _ _ _ _ => True) (fun _ U o U' => ∃ v L, o = .returned v ∧ Qrm_waitingEnd2 Z a1 a2 x0 x1 x2 x3 h0 n0 v U'.heap L ∧ FrameEnd U o U' L ({ frames := 0, cells := 0, slots := 0, locals := 0 } : Room).cells ({ frames := 0, cells := 0, slots := 0, locals := 0 } : Room).slots) := by
  refine MetFree.of_bodySF (plainFor_of_name pn_com_example_paired_paths_pairedpaths_lts_TransitionSystem) hisR ?_
  intro p e s m args below meth c s₁ Bd hml0 hP hK
  obtain ⟨rfl, hZ, hh⟩ := hP
  have hx := Bd.exec
  have hby := Bd.bytes
  have hml : c.maxLocals = 2 := hml0
  have hown : s.vm.findClass "com/example/paired_paths/pairedpaths/lts/TransitionSystem" = some m.cls := findClass_of_methodNamed Bd.named
  have hnm := (name_of_methodNamed Bd.named Bd.method).1
  have X0 : Stand p l e ({ frames := 0, cells := 0, slots := 0, locals := 0 } : Room) s m #[(.ref a1), (.int (2 : Int32))] below meth c s₁ [] 0 0 := Stand.of_body Bd
  have e0 : s₁.heap = h0 := by rw [← hh, Bd.state]; rfl
  have N0 := Fr.nil n0
  have K0 : Keep h0 h0 [] := Keep.refl _ _
  refine own_start (Qk := Qrm_waitingEnd2 Z a1 a2 x0 x1 x2 x3 h0 n0) (fun G hG => ?_)
  refine own_st (fun _ k => castTop (ef_8_RI m a1 (2 : Int32)) k) ?_
  show own_Fin p e below G (s₁.setTop (mkF m 0 #[rv a1, iv (2 : Int32)] []))
  refine own_st (fun _ k => XS.aloadN X0.here hx rfl (hb hby d8_0) rfl rfl k) ?_
  show own_Fin p e below G (s₁.setTop (mkF m 1 #[rv a1, iv (2 : Int32)] [(.ref a1)]))
  obtain ⟨T340, X340, e340, st340⟩ := getF X0 hx hZ hown (host := "") (Or.inl (own_w hw 67 rfl)) Via.refl e0 F1 (g := (mkF m 1 #[rv a1, iv (2 : Int32)] [(.ref a1)])) rfl rfl (hb hby d8_1)
  refine own_st st340 ?_
  show own_Fin p e below G (T340.setTop (mkF m 4 #[rv a1, iv (2 : Int32)] [(.ref a2)]))
  refine own_st (fun _ k => XS.ifnonnullYes X340.here hx rfl (pc0 := 4) (pc' := 11) rfl (hb hby d8_4) rfl (by decide) (by decide) k) ?_
  show own_Fin p e below G (T340.setTop (mkF m 11 #[rv a1, iv (2 : Int32)] []))
  refine own_st (fun _ k => XS.aloadN X340.here hx rfl (hb hby d8_11) rfl rfl k) ?_
  show own_Fin p e below G (T340.setTop (mkF m 12 #[rv a1, iv (2 : Int32)] [(.ref a1)]))
  obtain ⟨T341, X341, e341, st341⟩ := getF X340 hx hZ hown (host := "") (Or.inl (own_w hw 67 rfl)) Via.refl e340 F1 (g := (mkF m 12 #[rv a1, iv (2 : Int32)] [(.ref a1)])) rfl rfl (hb hby d8_12)
  refine own_st st341 ?_
  show own_Fin p e below G (T341.setTop (mkF m 15 #[rv a1, iv (2 : Int32)] [(.ref a2)]))
  refine own_st (fun _ k => XS.iloadN X341.here hx rfl (hb hby d8_15) rfl  k) ?_
  show own_Fin p e below G (T341.setTop (mkF m 16 #[rv a1, iv (2 : Int32)] [(.int (2 : Int32)), (.ref a2)]))
  refine own_st (fun _ k => XS.iconst X341.here hx rfl (hb hby d8_16) k) ?_
  show own_Fin p e below G (T341.setTop (mkF m 17 #[rv a1, iv (2 : Int32)] [(.int (1 : Int32)), (.int (2 : Int32)), (.ref a2)]))
  refine own_st (fun _ k => XS.iadd X341.here hx rfl (hb hby d8_17) rfl k) ?_
  show own_Fin p e below G (T341.setTop (mkF m 18 #[rv a1, iv (2 : Int32)] [(.int (3 : Int32)), (.ref a2)]))
  refine own_st (fun _ k => own_ldI X341 hx hZ e341 A2 (j := (3 : Int32)) (n := 4) rfl (by decide) (g := (mkF m 18 #[rv a1, iv (2 : Int32)] [(.int (3 : Int32)), (.ref a2)])) rfl rfl (hb hby d8_18) k) ?_
  show own_Fin p e below G (T341.setTop (mkF m 19 #[rv a1, iv (2 : Int32)] [(.int x3)]))
  refine own_out X341 Bd.notSynchronized (v := (some (.int x3))) (fun h => by rw [Bd.returns] at h; cases h) hG (fun fs hr => retOut X341 hx Bd.returns rfl (Or.inl ⟨rfl, Or.inl rfl, _, rfl⟩) (hb hby d8_19) hr) (by decide) (by decide) ?_
  exact ⟨rfl, N0, e341⟩

theorem d9_0 : decode prog_83_method_18_code 0 = .ok (.aload_n 0, 1) := by decide +kernel
theorem d9_1 : decode prog_83_method_18_code 1 = .ok (.getfield 46, 3) := by decide +kernel
theorem d9_4 : decode prog_83_method_18_code 4 = .ok (.ifnonnull 7, 3) := by decide +kernel
theorem d9_7 : decode prog_83_method_18_code 7 = .ok (.iconst 0, 1) := by decide +kernel
theorem d9_8 : decode prog_83_method_18_code 8 = .ok (.goto 9, 3) := by decide +kernel
theorem d9_17 : decode prog_83_method_18_code 17 = .ok (.ireturn, 1) := by decide +kernel
theorem ef_9_RI (m : MethodId) (x0 : Addr) (x1 : Int32) : entryFrame m #[(.ref x0), (.int x1)] 2 = mkF m 0 #[rv x0, iv x1] [] := by first | (simp [entryFrame, mkF, argsToLocals, Value.category]; done) | rfl
def Qrm_waitingStartn (Z : State) (a1 : Addr) (p1 : Int32) (h0 : Heap) (n0 : Nat) (v : Option Value) (h : Heap) (L : List Loc) : Prop := v = some (.int 0) ∧ Fr n0 L ∧ h = h0
set_option maxRecDepth 65536 in
set_option maxHeartbeats 40000000 in
theorem rm_waitingStartn (l : Launch) (Z : State) (a0 : Array Value) (hw : ∀ d ∈ tables_1, d.before a0 Z = true) (ws : List Jvm.Cond) (a1 : Addr) (p1 : Int32) (h0 : Heap) (n0 : Nat) (Z0 : n0 ≤ h0.size) (F1 : Fld Z h0 a1 "com/example/paired_paths/pairedpaths/lts/TransitionSystem" "firstWaiting" "[I" .null) :
    MetFree l own_y7 (head1 (Jvm.Cond.code own_y7 prog_83_method_18_code 2 (some .int) :: ws) ({ frames := 0, cells := 0, slots := 0, locals := 0 } : Room)) (fun a U => a = #[(.ref a1), (.int p1)] ∧ Z.Warmed39 U.vm ∧ U.heap = h0) (fun _ _ _ _ _ => True) (fun _ U o U' => ∃ v L, o = .returned v ∧ Qrm_waitingStartn Z a1 p1 h0 n0 v U'.heap L ∧ FrameEnd U o U' L ({ frames := 0, cells := 0, slots := 0, locals := 0 } : Room).cells ({ frames := 0, cells := 0, slots := 0, locals := 0 } : Room).slots) := by
  refine MetFree.of_bodySF (plainFor_of_name pn_com_example_paired_paths_pairedpaths_lts_TransitionSystem) hisR ?_
  intro p e s m args below meth c s₁ Bd hml0 hP hK
  obtain ⟨rfl, hZ, hh⟩ := hP
  have hx := Bd.exec
  have hby := Bd.bytes
  have hml : c.maxLocals = 2 := hml0
  have hown : s.vm.findClass "com/example/paired_paths/pairedpaths/lts/TransitionSystem" = some m.cls := findClass_of_methodNamed Bd.named
  have hnm := (name_of_methodNamed Bd.named Bd.method).1
  have X0 : Stand p l e ({ frames := 0, cells := 0, slots := 0, locals := 0 } : Room) s m #[(.ref a1), (.int p1)] below meth c s₁ [] 0 0 := Stand.of_body Bd
  have e0 : s₁.heap = h0 := by rw [← hh, Bd.state]; rfl
  have N0 := Fr.nil n0
  have K0 : Keep h0 h0 [] := Keep.refl _ _
  refine own_start (Qk := Qrm_waitingStartn Z a1 p1 h0 n0) (fun G hG => ?_)
  refine own_st (fun _ k => castTop (ef_9_RI m a1 p1) k) ?_
  show own_Fin p e below G (s₁.setTop (mkF m 0 #[rv a1, iv p1] []))
  refine own_st (fun _ k => XS.aloadN X0.here hx rfl (hb hby d9_0) rfl rfl k) ?_
  show own_Fin p e below G (s₁.setTop (mkF m 1 #[rv a1, iv p1] [(.ref a1)]))
  obtain ⟨T342, X342, e342, st342⟩ := getF X0 hx hZ hown (host := "") (Or.inl (own_w hw 67 rfl)) Via.refl e0 F1 (g := (mkF m 1 #[rv a1, iv p1] [(.ref a1)])) rfl rfl (hb hby d9_1)
  refine own_st st342 ?_
  show own_Fin p e below G (T342.setTop (mkF m 4 #[rv a1, iv p1] [.null]))
  refine own_st (fun _ k => XS.ifnonnullNo X342.here hx rfl (hb hby d9_4) rfl k) ?_
  show own_Fin p e below G (T342.setTop (mkF m 7 #[rv a1, iv p1] []))
  refine own_st (fun _ k => XS.iconst X342.here hx rfl (hb hby d9_7) k) ?_
  show own_Fin p e below G (T342.setTop (mkF m 8 #[rv a1, iv p1] [(.int (0 : Int32))]))
  refine own_st (fun _ k => XS.goto X342.here hx rfl (pc0 := 8) (pc' := 17) rfl (hb hby d9_8) (by decide) (by decide) k) ?_
  show own_Fin p e below G (T342.setTop (mkF m 17 #[rv a1, iv p1] [(.int (0 : Int32))]))
  refine own_out X342 Bd.notSynchronized (v := (some (.int (0 : Int32)))) (fun h => by rw [Bd.returns] at h; cases h) hG (fun fs hr => retOut X342 hx Bd.returns rfl (Or.inl ⟨rfl, Or.inl rfl, _, rfl⟩) (hb hby d9_17) hr) (by decide) (by decide) ?_
  exact ⟨rfl, N0, e342⟩

theorem d9_11 : decode prog_83_method_18_code 11 = .ok (.aload_n 0, 1) := by decide +kernel
theorem d9_12 : decode prog_83_method_18_code 12 = .ok (.getfield 46, 3) := by decide +kernel
theorem d9_15 : decode prog_83_method_18_code 15 = .ok (.iload_n 1, 1) := by decide +kernel
theorem d9_16 : decode prog_83_method_18_code 16 = .ok (.iaload, 1) := by decide +kernel
def Qrm_waitingStart0 (Z : State) (a1 : Addr) (a2 : Addr) (x0 : Int32) (x1 : Int32) (x2 : Int32) (x3 : Int32) (h0 : Heap) (n0 : Nat) (v : Option Value) (h : Heap) (L : List Loc) : Prop := v = some (.int x0) ∧ Fr n0 L ∧ h = h0
set_option maxRecDepth 65536 in
set_option maxHeartbeats 40000000 in
theorem rm_waitingStart0 (l : Launch) (Z : State) (a0 : Array Value) (hw : ∀ d ∈ tables_1, d.before a0 Z = true) (ws : List Jvm.Cond) (a1 : Addr) (a2 : Addr) (x0 : Int32) (x1 : Int32) (x2 : Int32) (x3 : Int32) (h0 : Heap) (n0 : Nat) (Z0 : n0 ≤ h0.size) (F1 : Fld Z h0 a1 "com/example/paired_paths/pairedpaths/lts/TransitionSystem" "firstWaiting" "[I" (.ref a2)) (A2 : own_AV Z h0 a2 .int (own_is [x0, x1, x2, x3])) :
    MetFree l own_y7 (head1 (Jvm.Cond.code own_y7 prog_83_method_18_code 2 (some .int) :: ws) ({ frames := 0, cells := 0, slots := 0, locals := 0 } : Room)) (fun a U => a = #[(.ref a1), (.int (0 : Int32))] ∧ Z.Warmed39 U.vm ∧ U.heap = h0) (fun _ _ _ _ _ => True) (fun _ U o U' => ∃ v L, o = .returned v ∧ Qrm_waitingStart0 Z a1 a2 x0 x1 x2 x3 h0 n0 v U'.heap L ∧ FrameEnd U o U' L ({ frames := 0, cells := 0, slots := 0, locals := 0 } : Room).cells ({ frames := 0, cells := 0, slots := 0, locals := 0 } : Room).slots) := by
  refine MetFree.of_bodySF (plainFor_of_name pn_com_example_paired_paths_pairedpaths_lts_TransitionSystem) hisR ?_
  intro p e s m args below meth c s₁ Bd hml0 hP hK
  obtain ⟨rfl, hZ, hh⟩ := hP
  have hx := Bd.exec
  have hby := Bd.bytes
  have hml : c.maxLocals = 2 := hml0
  have hown : s.vm.findClass "com/example/paired_paths/pairedpaths/lts/TransitionSystem" = some m.cls := findClass_of_methodNamed Bd.named
  have hnm := (name_of_methodNamed Bd.named Bd.method).1
  have X0 : Stand p l e ({ frames := 0, cells := 0, slots := 0, locals := 0 } : Room) s m #[(.ref a1), (.int (0 : Int32))] below meth c s₁ [] 0 0 := Stand.of_body Bd
  have e0 : s₁.heap = h0 := by rw [← hh, Bd.state]; rfl
  have N0 := Fr.nil n0
  have K0 : Keep h0 h0 [] := Keep.refl _ _
  refine own_start (Qk := Qrm_waitingStart0 Z a1 a2 x0 x1 x2 x3 h0 n0) (fun G hG => ?_)
  refine own_st (fun _ k => castTop (ef_9_RI m a1 (0 : Int32)) k) ?_
  show own_Fin p e below G (s₁.setTop (mkF m 0 #[rv a1, iv (0 : Int32)] []))
  refine own_st (fun _ k => XS.aloadN X0.here hx rfl (hb hby d9_0) rfl rfl k) ?_
  show own_Fin p e below G (s₁.setTop (mkF m 1 #[rv a1, iv (0 : Int32)] [(.ref a1)]))
  obtain ⟨T343, X343, e343, st343⟩ := getF X0 hx hZ hown (host := "") (Or.inl (own_w hw 67 rfl)) Via.refl e0 F1 (g := (mkF m 1 #[rv a1, iv (0 : Int32)] [(.ref a1)])) rfl rfl (hb hby d9_1)
  refine own_st st343 ?_
  show own_Fin p e below G (T343.setTop (mkF m 4 #[rv a1, iv (0 : Int32)] [(.ref a2)]))
  refine own_st (fun _ k => XS.ifnonnullYes X343.here hx rfl (pc0 := 4) (pc' := 11) rfl (hb hby d9_4) rfl (by decide) (by decide) k) ?_
  show own_Fin p e below G (T343.setTop (mkF m 11 #[rv a1, iv (0 : Int32)] []))
  refine own_st (fun _ k => XS.aloadN X343.here hx rfl (hb hby d9_11) rfl rfl k) ?_
  show own_Fin p e below G (T343.setTop (mkF m 12 #[rv a1, iv (0 : Int32)] [(.ref a1)]))
  obtain ⟨T344, X344, e344, st344⟩ := getF X343 hx hZ hown (host := "") (Or.inl (own_w hw 67 rfl)) Via.refl e343 F1 (g := (mkF m 12 #[rv a1, iv (0 : Int32)] [(.ref a1)])) rfl rfl (hb hby d9_12)
  refine own_st st344 ?_
  show own_Fin p e below G (T344.setTop (mkF m 15 #[rv a1, iv (0 : Int32)] [(.ref a2)]))
  refine own_st (fun _ k => XS.iloadN X344.here hx rfl (hb hby d9_15) rfl  k) ?_
  show own_Fin p e below G (T344.setTop (mkF m 16 #[rv a1, iv (0 : Int32)] [(.int (0 : Int32)), (.ref a2)]))
  refine own_st (fun _ k => own_ldI X344 hx hZ e344 A2 (j := (0 : Int32)) (n := 4) rfl (by decide) (g := (mkF m 16 #[rv a1, iv (0 : Int32)] [(.int (0 : Int32)), (.ref a2)])) rfl rfl (hb hby d9_16) k) ?_
  show own_Fin p e below G (T344.setTop (mkF m 17 #[rv a1, iv (0 : Int32)] [(.int x0)]))
  refine own_out X344 Bd.notSynchronized (v := (some (.int x0))) (fun h => by rw [Bd.returns] at h; cases h) hG (fun fs hr => retOut X344 hx Bd.returns rfl (Or.inl ⟨rfl, Or.inl rfl, _, rfl⟩) (hb hby d9_17) hr) (by decide) (by decide) ?_
  exact ⟨rfl, N0, e344⟩

def Qrm_waitingStart1 (Z : State) (a1 : Addr) (a2 : Addr) (x0 : Int32) (x1 : Int32) (x2 : Int32) (x3 : Int32) (h0 : Heap) (n0 : Nat) (v : Option Value) (h : Heap) (L : List Loc) : Prop := v = some (.int x1) ∧ Fr n0 L ∧ h = h0
set_option maxRecDepth 65536 in
set_option maxHeartbeats 40000000 in
theorem rm_waitingStart1 (l : Launch) (Z : State) (a0 : Array Value) (hw : ∀ d ∈ tables_1, d.before a0 Z = true) (ws : List Jvm.Cond) (a1 : Addr) (a2 : Addr) (x0 : Int32) (x1 : Int32) (x2 : Int32) (x3 : Int32) (h0 : Heap) (n0 : Nat) (Z0 : n0 ≤ h0.size) (F1 : Fld Z h0 a1 "com/example/paired_paths/pairedpaths/lts/TransitionSystem" "firstWaiting" "[I" (.ref a2)) (A2 : own_AV Z h0 a2 .int (own_is [x0, x1, x2, x3])) :
    MetFree l own_y7 (head1 (Jvm.Cond.code own_y7 prog_83_method_18_code 2 (some .int) :: ws) ({ frames := 0, cells := 0, slots := 0, locals := 0 } : Room)) (fun a U => a = #[(.ref a1), (.int (1 : Int32))] ∧ Z.Warmed39 U.vm ∧ U.heap = h0) (fun _ _ _ _ _ => True) (fun _ U o U' => ∃ v L, o = .returned v ∧ Qrm_waitingStart1 Z a1 a2 x0 x1 x2 x3 h0 n0 v U'.heap L ∧ FrameEnd U o U' L ({ frames := 0, cells := 0, slots := 0, locals := 0 } : Room).cells ({ frames := 0, cells := 0, slots := 0, locals := 0 } : Room).slots) := by
  refine MetFree.of_bodySF (plainFor_of_name pn_com_example_paired_paths_pairedpaths_lts_TransitionSystem) hisR ?_
  intro p e s m args below meth c s₁ Bd hml0 hP hK
  obtain ⟨rfl, hZ, hh⟩ := hP
  have hx := Bd.exec
  have hby := Bd.bytes
  have hml : c.maxLocals = 2 := hml0
  have hown : s.vm.findClass "com/example/paired_paths/pairedpaths/lts/TransitionSystem" = some m.cls := findClass_of_methodNamed Bd.named
  have hnm := (name_of_methodNamed Bd.named Bd.method).1
  have X0 : Stand p l e ({ frames := 0, cells := 0, slots := 0, locals := 0 } : Room) s m #[(.ref a1), (.int (1 : Int32))] below meth c s₁ [] 0 0 := Stand.of_body Bd
  have e0 : s₁.heap = h0 := by rw [← hh, Bd.state]; rfl
  have N0 := Fr.nil n0
  have K0 : Keep h0 h0 [] := Keep.refl _ _
  refine own_start (Qk := Qrm_waitingStart1 Z a1 a2 x0 x1 x2 x3 h0 n0) (fun G hG => ?_)
  refine own_st (fun _ k => castTop (ef_9_RI m a1 (1 : Int32)) k) ?_
  show own_Fin p e below G (s₁.setTop (mkF m 0 #[rv a1, iv (1 : Int32)] []))
  refine own_st (fun _ k => XS.aloadN X0.here hx rfl (hb hby d9_0) rfl rfl k) ?_
  show own_Fin p e below G (s₁.setTop (mkF m 1 #[rv a1, iv (1 : Int32)] [(.ref a1)]))
  obtain ⟨T345, X345, e345, st345⟩ := getF X0 hx hZ hown (host := "") (Or.inl (own_w hw 67 rfl)) Via.refl e0 F1 (g := (mkF m 1 #[rv a1, iv (1 : Int32)] [(.ref a1)])) rfl rfl (hb hby d9_1)
  refine own_st st345 ?_
  show own_Fin p e below G (T345.setTop (mkF m 4 #[rv a1, iv (1 : Int32)] [(.ref a2)]))
  refine own_st (fun _ k => XS.ifnonnullYes X345.here hx rfl (pc0 := 4) (pc' := 11) rfl (hb hby d9_4) rfl (by decide) (by decide) k) ?_
  show own_Fin p e below G (T345.setTop (mkF m 11 #[rv a1, iv (1 : Int32)] []))
  refine own_st (fun _ k => XS.aloadN X345.here hx rfl (hb hby d9_11) rfl rfl k) ?_
  show own_Fin p e below G (T345.setTop (mkF m 12 #[rv a1, iv (1 : Int32)] [(.ref a1)]))
  obtain ⟨T346, X346, e346, st346⟩ := getF X345 hx hZ hown (host := "") (Or.inl (own_w hw 67 rfl)) Via.refl e345 F1 (g := (mkF m 12 #[rv a1, iv (1 : Int32)] [(.ref a1)])) rfl rfl (hb hby d9_12)
  refine own_st st346 ?_
  show own_Fin p e below G (T346.setTop (mkF m 15 #[rv a1, iv (1 : Int32)] [(.ref a2)]))
  refine own_st (fun _ k => XS.iloadN X346.here hx rfl (hb hby d9_15) rfl  k) ?_
  show own_Fin p e below G (T346.setTop (mkF m 16 #[rv a1, iv (1 : Int32)] [(.int (1 : Int32)), (.ref a2)]))
  refine own_st (fun _ k => own_ldI X346 hx hZ e346 A2 (j := (1 : Int32)) (n := 4) rfl (by decide) (g := (mkF m 16 #[rv a1, iv (1 : Int32)] [(.int (1 : Int32)), (.ref a2)])) rfl rfl (hb hby d9_16) k) ?_
  show own_Fin p e below G (T346.setTop (mkF m 17 #[rv a1, iv (1 : Int32)] [(.int x1)]))
  refine own_out X346 Bd.notSynchronized (v := (some (.int x1))) (fun h => by rw [Bd.returns] at h; cases h) hG (fun fs hr => retOut X346 hx Bd.returns rfl (Or.inl ⟨rfl, Or.inl rfl, _, rfl⟩) (hb hby d9_17) hr) (by decide) (by decide) ?_
  exact ⟨rfl, N0, e346⟩

def Qrm_waitingStart2 (Z : State) (a1 : Addr) (a2 : Addr) (x0 : Int32) (x1 : Int32) (x2 : Int32) (x3 : Int32) (h0 : Heap) (n0 : Nat) (v : Option Value) (h : Heap) (L : List Loc) : Prop := v = some (.int x2) ∧ Fr n0 L ∧ h = h0
set_option maxRecDepth 65536 in
set_option maxHeartbeats 40000000 in
theorem rm_waitingStart2 (l : Launch) (Z : State) (a0 : Array Value) (hw : ∀ d ∈ tables_1, d.before a0 Z = true) (ws : List Jvm.Cond) (a1 : Addr) (a2 : Addr) (x0 : Int32) (x1 : Int32) (x2 : Int32) (x3 : Int32) (h0 : Heap) (n0 : Nat) (Z0 : n0 ≤ h0.size) (F1 : Fld Z h0 a1 "com/example/paired_paths/pairedpaths/lts/TransitionSystem" "firstWaiting" "[I" (.ref a2)) (A2 : own_AV Z h0 a2 .int (own_is [x0, x1, x2, x3])) :
    MetFree l own_y7 (head1 (Jvm.Cond.code own_y7 prog_83_method_18_code 2 (some .int) :: ws) ({ frames := 0, cells := 0, slots := 0, locals := 0 } : Room)) (fun a U => a = #[(.ref a1), (.int (2 : Int32))] ∧ Z.Warmed39 U.vm ∧ U.heap = h0) (fun _ _ _ _ _ => True) (fun _ U o U' => ∃ v L, o = .returned v ∧ Qrm_waitingStart2 Z a1 a2 x0 x1 x2 x3 h0 n0 v U'.heap L ∧ FrameEnd U o U' L ({ frames := 0, cells := 0, slots := 0, locals := 0 } : Room).cells ({ frames := 0, cells := 0, slots := 0, locals := 0 } : Room).slots) := by
  refine MetFree.of_bodySF (plainFor_of_name pn_com_example_paired_paths_pairedpaths_lts_TransitionSystem) hisR ?_
  intro p e s m args below meth c s₁ Bd hml0 hP hK
  obtain ⟨rfl, hZ, hh⟩ := hP
  have hx := Bd.exec
  have hby := Bd.bytes
  have hml : c.maxLocals = 2 := hml0
  have hown : s.vm.findClass "com/example/paired_paths/pairedpaths/lts/TransitionSystem" = some m.cls := findClass_of_methodNamed Bd.named
  have hnm := (name_of_methodNamed Bd.named Bd.method).1
  have X0 : Stand p l e ({ frames := 0, cells := 0, slots := 0, locals := 0 } : Room) s m #[(.ref a1), (.int (2 : Int32))] below meth c s₁ [] 0 0 := Stand.of_body Bd
  have e0 : s₁.heap = h0 := by rw [← hh, Bd.state]; rfl
  have N0 := Fr.nil n0
  have K0 : Keep h0 h0 [] := Keep.refl _ _
  refine own_start (Qk := Qrm_waitingStart2 Z a1 a2 x0 x1 x2 x3 h0 n0) (fun G hG => ?_)
  refine own_st (fun _ k => castTop (ef_9_RI m a1 (2 : Int32)) k) ?_
  show own_Fin p e below G (s₁.setTop (mkF m 0 #[rv a1, iv (2 : Int32)] []))
  refine own_st (fun _ k => XS.aloadN X0.here hx rfl (hb hby d9_0) rfl rfl k) ?_
  show own_Fin p e below G (s₁.setTop (mkF m 1 #[rv a1, iv (2 : Int32)] [(.ref a1)]))
  obtain ⟨T347, X347, e347, st347⟩ := getF X0 hx hZ hown (host := "") (Or.inl (own_w hw 67 rfl)) Via.refl e0 F1 (g := (mkF m 1 #[rv a1, iv (2 : Int32)] [(.ref a1)])) rfl rfl (hb hby d9_1)
  refine own_st st347 ?_
  show own_Fin p e below G (T347.setTop (mkF m 4 #[rv a1, iv (2 : Int32)] [(.ref a2)]))
  refine own_st (fun _ k => XS.ifnonnullYes X347.here hx rfl (pc0 := 4) (pc' := 11) rfl (hb hby d9_4) rfl (by decide) (by decide) k) ?_
  show own_Fin p e below G (T347.setTop (mkF m 11 #[rv a1, iv (2 : Int32)] []))
  refine own_st (fun _ k => XS.aloadN X347.here hx rfl (hb hby d9_11) rfl rfl k) ?_
  show own_Fin p e below G (T347.setTop (mkF m 12 #[rv a1, iv (2 : Int32)] [(.ref a1)]))
  obtain ⟨T348, X348, e348, st348⟩ := getF X347 hx hZ hown (host := "") (Or.inl (own_w hw 67 rfl)) Via.refl e347 F1 (g := (mkF m 12 #[rv a1, iv (2 : Int32)] [(.ref a1)])) rfl rfl (hb hby d9_12)
  refine own_st st348 ?_
  show own_Fin p e below G (T348.setTop (mkF m 15 #[rv a1, iv (2 : Int32)] [(.ref a2)]))
  refine own_st (fun _ k => XS.iloadN X348.here hx rfl (hb hby d9_15) rfl  k) ?_
  show own_Fin p e below G (T348.setTop (mkF m 16 #[rv a1, iv (2 : Int32)] [(.int (2 : Int32)), (.ref a2)]))
  refine own_st (fun _ k => own_ldI X348 hx hZ e348 A2 (j := (2 : Int32)) (n := 4) rfl (by decide) (g := (mkF m 16 #[rv a1, iv (2 : Int32)] [(.int (2 : Int32)), (.ref a2)])) rfl rfl (hb hby d9_16) k) ?_
  show own_Fin p e below G (T348.setTop (mkF m 17 #[rv a1, iv (2 : Int32)] [(.int x2)]))
  refine own_out X348 Bd.notSynchronized (v := (some (.int x2))) (fun h => by rw [Bd.returns] at h; cases h) hG (fun fs hr => retOut X348 hx Bd.returns rfl (Or.inl ⟨rfl, Or.inl rfl, _, rfl⟩) (hb hby d9_17) hr) (by decide) (by decide) ?_
  exact ⟨rfl, N0, e348⟩

def Qrm_waitingStart3 (Z : State) (a1 : Addr) (a2 : Addr) (x0 : Int32) (x1 : Int32) (x2 : Int32) (x3 : Int32) (h0 : Heap) (n0 : Nat) (v : Option Value) (h : Heap) (L : List Loc) : Prop := v = some (.int x3) ∧ Fr n0 L ∧ h = h0
set_option maxRecDepth 65536 in
set_option maxHeartbeats 40000000 in
theorem rm_waitingStart3 (l : Launch) (Z : State) (a0 : Array Value) (hw : ∀ d ∈ tables_1, d.before a0 Z = true) (ws : List Jvm.Cond) (a1 : Addr) (a2 : Addr) (x0 : Int32) (x1 : Int32) (x2 : Int32) (x3 : Int32) (h0 : Heap) (n0 : Nat) (Z0 : n0 ≤ h0.size) (F1 : Fld Z h0 a1 "com/example/paired_paths/pairedpaths/lts/TransitionSystem" "firstWaiting" "[I" (.ref a2)) (A2 : own_AV Z h0 a2 .int (own_is [x0, x1, x2, x3])) :
    MetFree l own_y7 (head1 (Jvm.Cond.code own_y7 prog_83_method_18_code 2 (some .int) :: ws) ({ frames := 0, cells := 0, slots := 0, locals := 0 } : Room)) (fun a U => a = #[(.ref a1), (.int (3 : Int32))] ∧ Z.Warmed39 U.vm ∧ U.heap = h0) (fun _ _ _ _ _ => True) (fun _ U o U' => ∃ v L, o = .returned v ∧ Qrm_waitingStart3 Z a1 a2 x0 x1 x2 x3 h0 n0 v U'.heap L ∧ FrameEnd U o U' L ({ frames := 0, cells := 0, slots := 0, locals := 0 } : Room).cells ({ frames := 0, cells := 0, slots := 0, locals := 0 } : Room).slots) := by
  refine MetFree.of_bodySF (plainFor_of_name pn_com_example_paired_paths_pairedpaths_lts_TransitionSystem) hisR ?_
  intro p e s m args below meth c s₁ Bd hml0 hP hK
  obtain ⟨rfl, hZ, hh⟩ := hP
  have hx := Bd.exec
  have hby := Bd.bytes
  have hml : c.maxLocals = 2 := hml0
  have hown : s.vm.findClass "com/example/paired_paths/pairedpaths/lts/TransitionSystem" = some m.cls := findClass_of_methodNamed Bd.named
  have hnm := (name_of_methodNamed Bd.named Bd.method).1
  have X0 : Stand p l e ({ frames := 0, cells := 0, slots := 0, locals := 0 } : Room) s m #[(.ref a1), (.int (3 : Int32))] below meth c s₁ [] 0 0 := Stand.of_body Bd
  have e0 : s₁.heap = h0 := by rw [← hh, Bd.state]; rfl
  have N0 := Fr.nil n0
  have K0 : Keep h0 h0 [] := Keep.refl _ _
  refine own_start (Qk := Qrm_waitingStart3 Z a1 a2 x0 x1 x2 x3 h0 n0) (fun G hG => ?_)
  refine own_st (fun _ k => castTop (ef_9_RI m a1 (3 : Int32)) k) ?_
  show own_Fin p e below G (s₁.setTop (mkF m 0 #[rv a1, iv (3 : Int32)] []))
  refine own_st (fun _ k => XS.aloadN X0.here hx rfl (hb hby d9_0) rfl rfl k) ?_
  show own_Fin p e below G (s₁.setTop (mkF m 1 #[rv a1, iv (3 : Int32)] [(.ref a1)]))
  obtain ⟨T349, X349, e349, st349⟩ := getF X0 hx hZ hown (host := "") (Or.inl (own_w hw 67 rfl)) Via.refl e0 F1 (g := (mkF m 1 #[rv a1, iv (3 : Int32)] [(.ref a1)])) rfl rfl (hb hby d9_1)
  refine own_st st349 ?_
  show own_Fin p e below G (T349.setTop (mkF m 4 #[rv a1, iv (3 : Int32)] [(.ref a2)]))
  refine own_st (fun _ k => XS.ifnonnullYes X349.here hx rfl (pc0 := 4) (pc' := 11) rfl (hb hby d9_4) rfl (by decide) (by decide) k) ?_
  show own_Fin p e below G (T349.setTop (mkF m 11 #[rv a1, iv (3 : Int32)] []))
  refine own_st (fun _ k => XS.aloadN X349.here hx rfl (hb hby d9_11) rfl rfl k) ?_
  show own_Fin p e below G (T349.setTop (mkF m 12 #[rv a1, iv (3 : Int32)] [(.ref a1)]))
  obtain ⟨T350, X350, e350, st350⟩ := getF X349 hx hZ hown (host := "") (Or.inl (own_w hw 67 rfl)) Via.refl e349 F1 (g := (mkF m 12 #[rv a1, iv (3 : Int32)] [(.ref a1)])) rfl rfl (hb hby d9_12)
  refine own_st st350 ?_
  show own_Fin p e below G (T350.setTop (mkF m 15 #[rv a1, iv (3 : Int32)] [(.ref a2)]))
  refine own_st (fun _ k => XS.iloadN X350.here hx rfl (hb hby d9_15) rfl  k) ?_
  show own_Fin p e below G (T350.setTop (mkF m 16 #[rv a1, iv (3 : Int32)] [(.int (3 : Int32)), (.ref a2)]))
  refine own_st (fun _ k => own_ldI X350 hx hZ e350 A2 (j := (3 : Int32)) (n := 4) rfl (by decide) (g := (mkF m 16 #[rv a1, iv (3 : Int32)] [(.int (3 : Int32)), (.ref a2)])) rfl rfl (hb hby d9_16) k) ?_
  show own_Fin p e below G (T350.setTop (mkF m 17 #[rv a1, iv (3 : Int32)] [(.int x3)]))
  refine own_out X350 Bd.notSynchronized (v := (some (.int x3))) (fun h => by rw [Bd.returns] at h; cases h) hG (fun fs hr => retOut X350 hx Bd.returns rfl (Or.inl ⟨rfl, Or.inl rfl, _, rfl⟩) (hb hby d9_17) hr) (by decide) (by decide) ?_
  exact ⟨rfl, N0, e350⟩

theorem pd__II_V_313 : parseMethodDescriptor "(II)V" = some ⟨[.int, .int], none⟩ := by decide +kernel
theorem pd___Ljava_lang_String_Lcom_example_paired_paths_pairedpaths_lts_PackedInts_Lcom_example_paired_paths_pairedpaths_lts_PackedInts_Lcom_example_paired_paths_pairedpaths_lts_PackedInts_I_I_ILcom_example_paired_paths_pairedpaths_lts_PackedInts__V_284 : parseMethodDescriptor "([Ljava/lang/String;Lcom/example/paired_paths/pairedpaths/lts/PackedInts;Lcom/example/paired_paths/pairedpaths/lts/PackedInts;Lcom/example/paired_paths/pairedpaths/lts/PackedInts;I[I[ILcom/example/paired_paths/pairedpaths/lts/PackedInts;)V" = some ⟨[(.array (.object "java/lang/String")), (.object "com/example/paired_paths/pairedpaths/lts/PackedInts"), (.object "com/example/paired_paths/pairedpaths/lts/PackedInts"), (.object "com/example/paired_paths/pairedpaths/lts/PackedInts"), .int, (.array .int), (.array .int), (.object "com/example/paired_paths/pairedpaths/lts/PackedInts")], none⟩ := by decide +kernel
theorem pn_com_example_paired_paths_pairedpaths_lts_TransitionSystemWaitingEndPinLaw : plainName "com/example/paired_paths/pairedpaths/lts/TransitionSystemWaitingEndPinLaw" = true := by first | (simp [plainName, overriddenIn]; done) | decide +kernel
theorem ef_0_IIIIII (m : MethodId) (x0 : Int32) (x1 : Int32) (x2 : Int32) (x3 : Int32) (x4 : Int32) (x5 : Int32) : entryFrame m #[(.int x0), (.int x1), (.int x2), (.int x3), (.int x4), (.int x5)] maxLocals = mkF m 0 #[iv x0, iv x1, iv x2, iv x3, iv x4, iv x5, .unset, .unset, .unset, .unset, .unset, .unset, .unset, .unset, .unset, .unset, .unset, .unset, .unset, .unset, .unset] [] := by first | (simp [entryFrame, mkF, argsToLocals, Value.category, maxLocals]; done) | rfl
def Qrm0 (Z : State) (p1 : Int32) (p2 : Int32) (p3 : Int32) (p4 : Int32) (p5 : Int32) (p6 : Int32) (h0 : Heap) (n0 : Nat) (v : Option Value) (h : Heap) (L : List Loc) : Prop := v = some (.int 1) ∧ Fr n0 L
set_option maxRecDepth 65536 in
set_option maxHeartbeats 40000000 in
theorem rm0 (l : Launch) (Z : State) (a0 : Array Value) (hw : ∀ d ∈ tables_1, d.before a0 Z = true) (ws : List Jvm.Cond) (p1 : Int32) (p2 : Int32) (p3 : Int32) (p4 : Int32) (p5 : Int32) (p6 : Int32) (h0 : Heap) (n0 : Nat) (Z0 : n0 ≤ h0.size) :
    MetFree l x (head1 (Jvm.Cond.code x code maxLocals ret :: ws) room_1) (fun a U => a = #[(.int p1), (.int p2), (.int p3), (.int p4), (.int p5), (.int p6)] ∧ Z.Warmed39 U.vm ∧ U.heap = h0) (fun _ _ _ _ _ => True) (fun _ U o U' => ∃ v L, o = .returned v ∧ Qrm0 Z p1 p2 p3 p4 p5 p6 h0 n0 v U'.heap L ∧ FrameEnd U o U' L room_1.cells room_1.slots) := by
  refine MetFree.of_bodySF (plainFor_of_name pn_com_example_paired_paths_pairedpaths_lts_TransitionSystemWaitingEndPinLaw) hisR ?_
  intro p e s m args below meth c s₁ Bd hml0 hP hK
  obtain ⟨rfl, hZ, hh⟩ := hP
  have hx := Bd.exec
  have hby := Bd.bytes
  have hml : c.maxLocals = 21 := hml0
  have hown : s.vm.findClass "com/example/paired_paths/pairedpaths/lts/TransitionSystemWaitingEndPinLaw" = some m.cls := findClass_of_methodNamed Bd.named
  have hnm := (name_of_methodNamed Bd.named Bd.method).1
  have X0 : Stand p l e room_1 s m #[(.int p1), (.int p2), (.int p3), (.int p4), (.int p5), (.int p6)] below meth c s₁ [] 0 0 := Stand.of_body Bd
  have e0 : s₁.heap = h0 := by rw [← hh, Bd.state]; rfl
  have N0 := Fr.nil n0
  have K0 : Keep h0 h0 [] := Keep.refl _ _
  refine own_start (Qk := Qrm0 Z p1 p2 p3 p4 p5 p6 h0 n0) (fun G hG => ?_)
  refine own_st (fun _ k => castTop (ef_0_IIIIII m p1 p2 p3 p4 p5 p6) k) ?_
  show own_Fin p e below G (s₁.setTop (mkF m 0 #[iv p1, iv p2, iv p3, iv p4, iv p5, iv p6, .unset, .unset, .unset, .unset, .unset, .unset, .unset, .unset, .unset, .unset, .unset, .unset, .unset, .unset, .unset] []))
  refine own_st (fun _ k => XS.iload X0.here hx rfl (hb hby at_0) rfl  k) ?_
  show own_Fin p e below G (s₁.setTop (mkF m 2 #[iv p1, iv p2, iv p3, iv p4, iv p5, iv p6, .unset, .unset, .unset, .unset, .unset, .unset, .unset, .unset, .unset, .unset, .unset, .unset, .unset, .unset, .unset] [(.int p5)]))
  refine own_st (fun _ k => own_ldc X0 hx hZ hown (own_w hw 0 rfl) (g := (mkF m 2 #[iv p1, iv p2, iv p3, iv p4, iv p5, iv p6, .unset, .unset, .unset, .unset, .unset, .unset, .unset, .unset, .unset, .unset, .unset, .unset, .unset, .unset, .unset] [(.int p5)])) rfl (hb hby at_2) k) ?_
  show own_Fin p e below G (s₁.setTop (mkF m 4 #[iv p1, iv p2, iv p3, iv p4, iv p5, iv p6, .unset, .unset, .unset, .unset, .unset, .unset, .unset, .unset, .unset, .unset, .unset, .unset, .unset, .unset, .unset] [(.int (2147483647 : Int32)), (.int p5)]))
  refine own_st (fun _ k => XS.iand X0.here hx rfl (hb hby at_4) rfl k) ?_
  show own_Fin p e below G (s₁.setTop (mkF m 5 #[iv p1, iv p2, iv p3, iv p4, iv p5, iv p6, .unset, .unset, .unset, .unset, .unset, .unset, .unset, .unset, .unset, .unset, .unset, .unset, .unset, .unset, .unset] [(.int (p5 &&& (2147483647 : Int32)))]))
  refine own_st (fun _ k => XS.iconst X0.here hx rfl (hb hby at_5) k) ?_
  show own_Fin p e below G (s₁.setTop (mkF m 6 #[iv p1, iv p2, iv p3, iv p4, iv p5, iv p6, .unset, .unset, .unset, .unset, .unset, .unset, .unset, .unset, .unset, .unset, .unset, .unset, .unset, .unset, .unset] [(.int (3 : Int32)), (.int (p5 &&& (2147483647 : Int32)))]))
  refine own_st (fun _ k => iremM (g := (mkF m 6 #[iv p1, iv p2, iv p3, iv p4, iv p5, iv p6, .unset, .unset, .unset, .unset, .unset, .unset, .unset, .unset, .unset, .unset, .unset, .unset, .unset, .unset, .unset] [(.int (3 : Int32)), (.int (p5 &&& (2147483647 : Int32)))])) X0 hx rfl (hb hby at_6) rfl (by decide) k) ?_
  show own_Fin p e below G (s₁.setTop (mkF m 7 #[iv p1, iv p2, iv p3, iv p4, iv p5, iv p6, .unset, .unset, .unset, .unset, .unset, .unset, .unset, .unset, .unset, .unset, .unset, .unset, .unset, .unset, .unset] [(.int ((p5 &&& (2147483647 : Int32)) % (3 : Int32)))]))
  have r3 := own_r3 p5
  generalize e_st : ((p5 &&& (2147483647 : Int32)) % (3 : Int32)) = st at *
  show own_Fin p e below G (s₁.setTop (mkF m 7 #[iv p1, iv p2, iv p3, iv p4, iv p5, iv p6, .unset, .unset, .unset, .unset, .unset, .unset, .unset, .unset, .unset, .unset, .unset, .unset, .unset, .unset, .unset] [(.int st)]))
  refine own_st (fun _ k => XS.istore X0.here hx rfl (hb hby at_7) rfl (l' := #[iv p1, iv p2, iv p3, iv p4, iv p5, iv p6, iv st, .unset, .unset, .unset, .unset, .unset, .unset, .unset, .unset, .unset, .unset, .unset, .unset, .unset, .unset]) rfl k) ?_
  show own_Fin p e below G (s₁.setTop (mkF m 9 #[iv p1, iv p2, iv p3, iv p4, iv p5, iv p6, iv st, .unset, .unset, .unset, .unset, .unset, .unset, .unset, .unset, .unset, .unset, .unset, .unset, .unset, .unset] []))
  refine own_st (fun _ k => XS.iload X0.here hx rfl (hb hby at_9) rfl  k) ?_
  show own_Fin p e below G (s₁.setTop (mkF m 11 #[iv p1, iv p2, iv p3, iv p4, iv p5, iv p6, iv st, .unset, .unset, .unset, .unset, .unset, .unset, .unset, .unset, .unset, .unset, .unset, .unset, .unset, .unset] [(.int p6)]))
  refine own_st (fun _ k => XS.iconst X0.here hx rfl (hb hby at_11) k) ?_
  show own_Fin p e below G (s₁.setTop (mkF m 12 #[iv p1, iv p2, iv p3, iv p4, iv p5, iv p6, iv st, .unset, .unset, .unset, .unset, .unset, .unset, .unset, .unset, .unset, .unset, .unset, .unset, .unset, .unset] [(.int (1 : Int32)), (.int p6)]))
  refine own_st (fun _ k => XS.iand X0.here hx rfl (hb hby at_12) rfl k) ?_
  show own_Fin p e below G (s₁.setTop (mkF m 13 #[iv p1, iv p2, iv p3, iv p4, iv p5, iv p6, iv st, .unset, .unset, .unset, .unset, .unset, .unset, .unset, .unset, .unset, .unset, .unset, .unset, .unset, .unset] [(.int (p6 &&& (1 : Int32)))]))
  by_cases hc13_351 : (p6 &&& (1 : Int32)) = (0 : Int32)
  · refine own_st (fun _ k => XS.ifYes X0.here hx rfl (pc0 := 13) (pc' := 20) rfl (hb hby at_13) rfl ((if0 _ _).trans (teq hc13_351).1) (by decide) (by decide) k) ?_
    show own_Fin p e below G (s₁.setTop (mkF m 20 #[iv p1, iv p2, iv p3, iv p4, iv p5, iv p6, iv st, .unset, .unset, .unset, .unset, .unset, .unset, .unset, .unset, .unset, .unset, .unset, .unset, .unset, .unset] []))
    refine own_st (fun _ k => XS.iconst X0.here hx rfl (hb hby at_20) k) ?_
    show own_Fin p e below G (s₁.setTop (mkF m 21 #[iv p1, iv p2, iv p3, iv p4, iv p5, iv p6, iv st, .unset, .unset, .unset, .unset, .unset, .unset, .unset, .unset, .unset, .unset, .unset, .unset, .unset, .unset] [(.int (0 : Int32))]))
    refine own_st (fun _ k => XS.istore X0.here hx rfl (hb hby at_21) rfl (l' := #[iv p1, iv p2, iv p3, iv p4, iv p5, iv p6, iv st, iv (0 : Int32), .unset, .unset, .unset, .unset, .unset, .unset, .unset, .unset, .unset, .unset, .unset, .unset, .unset]) rfl k) ?_
    show own_Fin p e below G (s₁.setTop (mkF m 23 #[iv p1, iv p2, iv p3, iv p4, iv p5, iv p6, iv st, iv (0 : Int32), .unset, .unset, .unset, .unset, .unset, .unset, .unset, .unset, .unset, .unset, .unset, .unset, .unset] []))
    refine own_st (fun _ k => XS.iloadN X0.here hx rfl (hb hby at_23) rfl  k) ?_
    show own_Fin p e below G (s₁.setTop (mkF m 24 #[iv p1, iv p2, iv p3, iv p4, iv p5, iv p6, iv st, iv (0 : Int32), .unset, .unset, .unset, .unset, .unset, .unset, .unset, .unset, .unset, .unset, .unset, .unset, .unset] [(.int p1)]))
    refine own_st (fun _ k => XS.iloadN X0.here hx rfl (hb hby at_24) rfl  k) ?_
    show own_Fin p e below G (s₁.setTop (mkF m 25 #[iv p1, iv p2, iv p3, iv p4, iv p5, iv p6, iv st, iv (0 : Int32), .unset, .unset, .unset, .unset, .unset, .unset, .unset, .unset, .unset, .unset, .unset, .unset, .unset] [(.int p2), (.int p1)]))
    refine own_st (fun _ k => XS.iadd X0.here hx rfl (hb hby at_25) rfl k) ?_
    show own_Fin p e below G (s₁.setTop (mkF m 26 #[iv p1, iv p2, iv p3, iv p4, iv p5, iv p6, iv st, iv (0 : Int32), .unset, .unset, .unset, .unset, .unset, .unset, .unset, .unset, .unset, .unset, .unset, .unset, .unset] [(.int (p1 + p2))]))
    generalize e_e0' : (p1 + p2) = e0' at *
    show own_Fin p e below G (s₁.setTop (mkF m 26 #[iv p1, iv p2, iv p3, iv p4, iv p5, iv p6, iv st, iv (0 : Int32), .unset, .unset, .unset, .unset, .unset, .unset, .unset, .unset, .unset, .unset, .unset, .unset, .unset] [(.int e0')]))
    refine own_st (fun _ k => XS.istore X0.here hx rfl (hb hby at_26) rfl (l' := #[iv p1, iv p2, iv p3, iv p4, iv p5, iv p6, iv st, iv (0 : Int32), iv e0', .unset, .unset, .unset, .unset, .unset, .unset, .unset, .unset, .unset, .unset, .unset, .unset]) rfl k) ?_
    show own_Fin p e below G (s₁.setTop (mkF m 28 #[iv p1, iv p2, iv p3, iv p4, iv p5, iv p6, iv st, iv (0 : Int32), iv e0', .unset, .unset, .unset, .unset, .unset, .unset, .unset, .unset, .unset, .unset, .unset, .unset] []))
    refine own_st (fun _ k => XS.iload X0.here hx rfl (hb hby at_28) rfl  k) ?_
    show own_Fin p e below G (s₁.setTop (mkF m 30 #[iv p1, iv p2, iv p3, iv p4, iv p5, iv p6, iv st, iv (0 : Int32), iv e0', .unset, .unset, .unset, .unset, .unset, .unset, .unset, .unset, .unset, .unset, .unset, .unset] [(.int e0')]))
    refine own_st (fun _ k => XS.iloadN X0.here hx rfl (hb hby at_30) rfl  k) ?_
    show own_Fin p e below G (s₁.setTop (mkF m 31 #[iv p1, iv p2, iv p3, iv p4, iv p5, iv p6, iv st, iv (0 : Int32), iv e0', .unset, .unset, .unset, .unset, .unset, .unset, .unset, .unset, .unset, .unset, .unset, .unset] [(.int p3), (.int e0')]))
    refine own_st (fun _ k => XS.iadd X0.here hx rfl (hb hby at_31) rfl k) ?_
    show own_Fin p e below G (s₁.setTop (mkF m 32 #[iv p1, iv p2, iv p3, iv p4, iv p5, iv p6, iv st, iv (0 : Int32), iv e0', .unset, .unset, .unset, .unset, .unset, .unset, .unset, .unset, .unset, .unset, .unset, .unset] [(.int (e0' + p3))]))
    generalize e_e1' : (e0' + p3) = e1' at *
    show own_Fin p e below G (s₁.setTop (mkF m 32 #[iv p1, iv p2, iv p3, iv p4, iv p5, iv p6, iv st, iv (0 : Int32), iv e0', .unset, .unset, .unset, .unset, .unset, .unset, .unset, .unset, .unset, .unset, .unset, .unset] [(.int e1')]))
    refine own_st (fun _ k => XS.istore X0.here hx rfl (hb hby at_32) rfl (l' := #[iv p1, iv p2, iv p3, iv p4, iv p5, iv p6, iv st, iv (0 : Int32), iv e0', iv e1', .unset, .unset, .unset, .unset, .unset, .unset, .unset, .unset, .unset, .unset, .unset]) rfl k) ?_
    show own_Fin p e below G (s₁.setTop (mkF m 34 #[iv p1, iv p2, iv p3, iv p4, iv p5, iv p6, iv st, iv (0 : Int32), iv e0', iv e1', .unset, .unset, .unset, .unset, .unset, .unset, .unset, .unset, .unset, .unset, .unset] []))
    refine own_st (fun _ k => XS.iload X0.here hx rfl (hb hby at_34) rfl  k) ?_
    show own_Fin p e below G (s₁.setTop (mkF m 36 #[iv p1, iv p2, iv p3, iv p4, iv p5, iv p6, iv st, iv (0 : Int32), iv e0', iv e1', .unset, .unset, .unset, .unset, .unset, .unset, .unset, .unset, .unset, .unset, .unset] [(.int e1')]))
    refine own_st (fun _ k => XS.iloadN X0.here hx rfl (hb hby at_36) rfl  k) ?_
    show own_Fin p e below G (s₁.setTop (mkF m 37 #[iv p1, iv p2, iv p3, iv p4, iv p5, iv p6, iv st, iv (0 : Int32), iv e0', iv e1', .unset, .unset, .unset, .unset, .unset, .unset, .unset, .unset, .unset, .unset, .unset] [(.int p4), (.int e1')]))
    refine own_st (fun _ k => XS.iadd X0.here hx rfl (hb hby at_37) rfl k) ?_
    show own_Fin p e below G (s₁.setTop (mkF m 38 #[iv p1, iv p2, iv p3, iv p4, iv p5, iv p6, iv st, iv (0 : Int32), iv e0', iv e1', .unset, .unset, .unset, .unset, .unset, .unset, .unset, .unset, .unset, .unset, .unset] [(.int (e1' + p4))]))
    generalize e_e2' : (e1' + p4) = e2' at *
    show own_Fin p e below G (s₁.setTop (mkF m 38 #[iv p1, iv p2, iv p3, iv p4, iv p5, iv p6, iv st, iv (0 : Int32), iv e0', iv e1', .unset, .unset, .unset, .unset, .unset, .unset, .unset, .unset, .unset, .unset, .unset] [(.int e2')]))
    refine own_st (fun _ k => XS.istore X0.here hx rfl (hb hby at_38) rfl (l' := #[iv p1, iv p2, iv p3, iv p4, iv p5, iv p6, iv st, iv (0 : Int32), iv e0', iv e1', iv e2', .unset, .unset, .unset, .unset, .unset, .unset, .unset, .unset, .unset, .unset]) rfl k) ?_
    show own_Fin p e below G (s₁.setTop (mkF m 40 #[iv p1, iv p2, iv p3, iv p4, iv p5, iv p6, iv st, iv (0 : Int32), iv e0', iv e1', iv e2', .unset, .unset, .unset, .unset, .unset, .unset, .unset, .unset, .unset, .unset] []))
    obtain ⟨T352, h352, X352, e352, E352, A352, D352, M352, st352⟩ := newO X0 hx hZ hown (own_w hw 1 rfl) (own_w hw 2 rfl) (own_w hw 3 rfl) e0 (g := (mkF m 40 #[iv p1, iv p2, iv p3, iv p4, iv p5, iv p6, iv st, iv (0 : Int32), iv e0', iv e1', iv e2', .unset, .unset, .unset, .unset, .unset, .unset, .unset, .unset, .unset, .unset] [])) rfl (hb hby at_40) (by decide) (by decide)
    obtain ⟨b352, g352⟩ : ∃ z, z = h0.size := ⟨_, rfl⟩
    rw [← g352] at A352 D352 st352
    have sz_b352 : h0.size ≤ b352 := Nat.le_trans K0.1 (Nat.le_of_eq g352.symm)
    have g_b352 : n0 ≤ b352 := Nat.le_trans Z0 sz_b352
    have K354 : Keep h0 h352 [] := K0.ext E352
    have f355 : Fld Z h352 b352 "com/example/paired_paths/pairedpaths/lts/PackedInts" "length" "I" (.int (0 : Int32)) := D352 (Or.inr (own_w hw 11 rfl)) (ty := .int) (by decide)
    have f356 : Fld Z h352 b352 "com/example/paired_paths/pairedpaths/lts/PackedInts" "largest" "I" (.int (0 : Int32)) := D352 (Or.inr (own_w hw 13 rfl)) (ty := .int) (by decide)
    have f357 : Fld Z h352 b352 "com/example/paired_paths/pairedpaths/lts/PackedInts" "width" "I" (.int (0 : Int32)) := D352 (Or.inr (own_w hw 19 rfl)) (ty := .int) (by decide)
    have f358 : Fld Z h352 b352 "com/example/paired_paths/pairedpaths/lts/PackedInts" "mask" "J" (.long (0 : Int64)) := D352 (Or.inr (own_w hw 21 rfl)) (ty := .long) (by decide)
    have f359 : Fld Z h352 b352 "com/example/paired_paths/pairedpaths/lts/PackedInts" "words" "[J" .null := D352 (Or.inr (own_w hw 29 rfl)) (ty := (.array .long)) (by decide)
    refine own_st st352 ?_
    show own_Fin p e below G (T352.setTop (mkF m 43 #[iv p1, iv p2, iv p3, iv p4, iv p5, iv p6, iv st, iv (0 : Int32), iv e0', iv e1', iv e2', .unset, .unset, .unset, .unset, .unset, .unset, .unset, .unset, .unset, .unset] [(.ref b352)]))
    refine own_st (fun _ k => XS.dup X352.here hx rfl (hb hby at_43) rfl rfl k) ?_
    show own_Fin p e below G (T352.setTop (mkF m 44 #[iv p1, iv p2, iv p3, iv p4, iv p5, iv p6, iv st, iv (0 : Int32), iv e0', iv e1', iv e2', .unset, .unset, .unset, .unset, .unset, .unset, .unset, .unset, .unset, .unset] [(.ref b352), (.ref b352)]))
    refine own_st (fun _ k => XS.iconst X352.here hx rfl (hb hby at_44) k) ?_
    show own_Fin p e below G (T352.setTop (mkF m 45 #[iv p1, iv p2, iv p3, iv p4, iv p5, iv p6, iv st, iv (0 : Int32), iv e0', iv e1', iv e2', .unset, .unset, .unset, .unset, .unset, .unset, .unset, .unset, .unset, .unset] [(.int (4 : Int32)), (.ref b352), (.ref b352)]))
    refine own_st (fun _ k => XS.iconst X352.here hx rfl (hb hby at_45) k) ?_
    show own_Fin p e below G (T352.setTop (mkF m 46 #[iv p1, iv p2, iv p3, iv p4, iv p5, iv p6, iv st, iv (0 : Int32), iv e0', iv e1', iv e2', .unset, .unset, .unset, .unset, .unset, .unset, .unset, .unset, .unset, .unset] [(.int (0 : Int32)), (.int (4 : Int32)), (.ref b352), (.ref b352)]))
    obtain ⟨_, _, ⟨T360, L360, k360, n360⟩, -, X360, ⟨Lc360, hQ360, l360, y360, z360⟩, st360⟩ := X352.specialBack hx (y := own_y4) rfl hown (mvT hZ (own_w hw 4 rfl)) (mvT hZ (own_w hw 5 rfl)) (mvT hZ (own_w hw 6 rfl)) (by decide) (backOf (W := 1) (rm_pi4 l Z a0 hw [] b352 h352 n0 (Nat.le_trans Z0 K354.1) A352 f355 f356 f357 f358 f359 g_b352) hZ (own_w hw 6 rfl) (own_w hw 3 rfl) (by decide) (by decide)) (g := (mkF m 46 #[iv p1, iv p2, iv p3, iv p4, iv p5, iv p6, iv st, iv (0 : Int32), iv e0', iv e1', iv e2', .unset, .unset, .unset, .unset, .unset, .unset, .unset, .unset, .unset, .unset] [(.int (0 : Int32)), (.int (4 : Int32)), (.ref b352), (.ref b352)])) rfl (by rw [hml]; rfl) (Steps.refl _) (a := b352) (argsL := [(.int (4 : Int32)), (.int (0 : Int32))]) (rest := [(.ref b352)]) (lenOf pd__II_V_313 rfl) rfl (by show 2 * 0 + _ ≤ _; exact Nat.le_of_eq rfl) (hb hby at_46) (fun _ _ => ⟨rfl, e352, (by decide : 1 + 1 ≤ _), (by decide : 5 + 2 ≤ _)⟩)
    dsimp only [Pt.U, Pt.locs, Pt.cells, Pt.slots] at X360 l360 y360 z360 st360 hQ360
    subst l360 y360 z360
    obtain ⟨rfl, N360q, Kc360⟩ := hQ360
    have N360 := Fr.app N0 N360q
    have f361_0 := A352.keep Kc360
    have K362 : Keep h0 T360.heap [] := K354.trans Kc360 (allS (Or.inr sz_b352) all0)
    refine own_tr st360 ?_
    show own_Fin p e below G (T360.setTop (mkF m 49 #[iv p1, iv p2, iv p3, iv p4, iv p5, iv p6, iv st, iv (0 : Int32), iv e0', iv e1', iv e2', .unset, .unset, .unset, .unset, .unset, .unset, .unset, .unset, .unset, .unset] [(.ref b352)]))
    refine own_st (fun _ k => XS.astore X360.here hx rfl (hb hby at_49) rfl rfl (l' := #[iv p1, iv p2, iv p3, iv p4, iv p5, iv p6, iv st, iv (0 : Int32), iv e0', iv e1', iv e2', rv b352, .unset, .unset, .unset, .unset, .unset, .unset, .unset, .unset, .unset]) rfl k) ?_
    show own_Fin p e below G (T360.setTop (mkF m 51 #[iv p1, iv p2, iv p3, iv p4, iv p5, iv p6, iv st, iv (0 : Int32), iv e0', iv e1', iv e2', rv b352, .unset, .unset, .unset, .unset, .unset, .unset, .unset, .unset, .unset] []))
    obtain ⟨T363, h363, X363, e363, E363, A363, D363, M363, st363⟩ := newO X360 hx hZ hown (own_w hw 1 rfl) (own_w hw 2 rfl) (own_w hw 3 rfl) rfl (g := (mkF m 51 #[iv p1, iv p2, iv p3, iv p4, iv p5, iv p6, iv st, iv (0 : Int32), iv e0', iv e1', iv e2', rv b352, .unset, .unset, .unset, .unset, .unset, .unset, .unset, .unset, .unset] [])) rfl (hb hby at_51) (by decide) (by decide)
    obtain ⟨b363, g363⟩ : ∃ z, z = T360.heap.size := ⟨_, rfl⟩
    rw [← g363] at A363 D363 st363
    have ne_b352_b363 : b352 ≠ b363 := Nat.ne_of_lt (Nat.lt_of_lt_of_le f361_0.lt (Nat.le_of_eq g363.symm))
    have sz_b363 : h0.size ≤ b363 := Nat.le_trans K362.1 (Nat.le_of_eq g363.symm)
    have g_b363 : n0 ≤ b363 := Nat.le_trans Z0 sz_b363
    have f364_0 := f361_0.ext E363
    have K365 : Keep h0 h363 [] := K362.ext E363
    have f366 : Fld Z h363 b363 "com/example/paired_paths/pairedpaths/lts/PackedInts" "length" "I" (.int (0 : Int32)) := D363 (Or.inr (own_w hw 11 rfl)) (ty := .int) (by decide)
    have f367 : Fld Z h363 b363 "com/example/paired_paths/pairedpaths/lts/PackedInts" "largest" "I" (.int (0 : Int32)) := D363 (Or.inr (own_w hw 13 rfl)) (ty := .int) (by decide)
    have f368 : Fld Z h363 b363 "com/example/paired_paths/pairedpaths/lts/PackedInts" "width" "I" (.int (0 : Int32)) := D363 (Or.inr (own_w hw 19 rfl)) (ty := .int) (by decide)
    have f369 : Fld Z h363 b363 "com/example/paired_paths/pairedpaths/lts/PackedInts" "mask" "J" (.long (0 : Int64)) := D363 (Or.inr (own_w hw 21 rfl)) (ty := .long) (by decide)
    have f370 : Fld Z h363 b363 "com/example/paired_paths/pairedpaths/lts/PackedInts" "words" "[J" .null := D363 (Or.inr (own_w hw 29 rfl)) (ty := (.array .long)) (by decide)
    refine own_st st363 ?_
    show own_Fin p e below G (T363.setTop (mkF m 54 #[iv p1, iv p2, iv p3, iv p4, iv p5, iv p6, iv st, iv (0 : Int32), iv e0', iv e1', iv e2', rv b352, .unset, .unset, .unset, .unset, .unset, .unset, .unset, .unset, .unset] [(.ref b363)]))
    refine own_st (fun _ k => XS.dup X363.here hx rfl (hb hby at_54) rfl rfl k) ?_
    show own_Fin p e below G (T363.setTop (mkF m 55 #[iv p1, iv p2, iv p3, iv p4, iv p5, iv p6, iv st, iv (0 : Int32), iv e0', iv e1', iv e2', rv b352, .unset, .unset, .unset, .unset, .unset, .unset, .unset, .unset, .unset] [(.ref b363), (.ref b363)]))
    refine own_st (fun _ k => XS.iconst X363.here hx rfl (hb hby at_55) k) ?_
    show own_Fin p e below G (T363.setTop (mkF m 56 #[iv p1, iv p2, iv p3, iv p4, iv p5, iv p6, iv st, iv (0 : Int32), iv e0', iv e1', iv e2', rv b352, .unset, .unset, .unset, .unset, .unset, .unset, .unset, .unset, .unset] [(.int (0 : Int32)), (.ref b363), (.ref b363)]))
    refine own_st (fun _ k => XS.iconst X363.here hx rfl (hb hby at_56) k) ?_
    show own_Fin p e below G (T363.setTop (mkF m 57 #[iv p1, iv p2, iv p3, iv p4, iv p5, iv p6, iv st, iv (0 : Int32), iv e0', iv e1', iv e2', rv b352, .unset, .unset, .unset, .unset, .unset, .unset, .unset, .unset, .unset] [(.int (0 : Int32)), (.int (0 : Int32)), (.ref b363), (.ref b363)]))
    obtain ⟨_, _, ⟨T371, L371, k371, n371⟩, -, X371, ⟨Lc371, hQ371, l371, y371, z371⟩, st371⟩ := X363.specialBack hx (y := own_y4) rfl hown (mvT hZ (own_w hw 4 rfl)) (mvT hZ (own_w hw 5 rfl)) (mvT hZ (own_w hw 6 rfl)) (by decide) (backOf (W := 1) (rm_pi0 l Z a0 hw [] b363 h363 n0 (Nat.le_trans Z0 K365.1) A363 f366 f367 f368 f369 f370 g_b363) hZ (own_w hw 6 rfl) (own_w hw 3 rfl) (by decide) (by decide)) (g := (mkF m 57 #[iv p1, iv p2, iv p3, iv p4, iv p5, iv p6, iv st, iv (0 : Int32), iv e0', iv e1', iv e2', rv b352, .unset, .unset, .unset, .unset, .unset, .unset, .unset, .unset, .unset] [(.int (0 : Int32)), (.int (0 : Int32)), (.ref b363), (.ref b363)])) rfl (by rw [hml]; rfl) (Steps.refl _) (a := b363) (argsL := [(.int (0 : Int32)), (.int (0 : Int32))]) (rest := [(.ref b363)]) (lenOf pd__II_V_313 rfl) rfl (by show 2 * 0 + _ ≤ _; exact Nat.le_of_eq rfl) (hb hby at_57) (fun _ _ => ⟨rfl, e363, (by decide : 3 + 1 ≤ _), (by decide : 12 + 2 ≤ _)⟩)
    dsimp only [Pt.U, Pt.locs, Pt.cells, Pt.slots] at X371 l371 y371 z371 st371 hQ371
    subst l371 y371 z371
    obtain ⟨rfl, N371q, Kc371⟩ := hQ371
    have N371 := Fr.app N360 N371q
    have f372_0 := f364_0.keep Kc371
    have f372_1 := A363.keep Kc371
    have K373 : Keep h0 T371.heap [] := K365.trans Kc371 (allS (Or.inr sz_b363) all0)
    refine own_tr st371 ?_
    show own_Fin p e below G (T371.setTop (mkF m 60 #[iv p1, iv p2, iv p3, iv p4, iv p5, iv p6, iv st, iv (0 : Int32), iv e0', iv e1', iv e2', rv b352, .unset, .unset, .unset, .unset, .unset, .unset, .unset, .unset, .unset] [(.ref b363)]))
    refine own_st (fun _ k => XS.astore X371.here hx rfl (hb hby at_60) rfl rfl (l' := #[iv p1, iv p2, iv p3, iv p4, iv p5, iv p6, iv st, iv (0 : Int32), iv e0', iv e1', iv e2', rv b352, rv b363, .unset, .unset, .unset, .unset, .unset, .unset, .unset, .unset]) rfl k) ?_
    show own_Fin p e below G (T371.setTop (mkF m 62 #[iv p1, iv p2, iv p3, iv p4, iv p5, iv p6, iv st, iv (0 : Int32), iv e0', iv e1', iv e2', rv b352, rv b363, .unset, .unset, .unset, .unset, .unset, .unset, .unset, .unset] []))
    refine own_st (fun _ k => XS.iload X371.here hx rfl (hb hby at_62) rfl  k) ?_
    show own_Fin p e below G (T371.setTop (mkF m 64 #[iv p1, iv p2, iv p3, iv p4, iv p5, iv p6, iv st, iv (0 : Int32), iv e0', iv e1', iv e2', rv b352, rv b363, .unset, .unset, .unset, .unset, .unset, .unset, .unset, .unset] [(.int (0 : Int32))]))
    refine own_st (fun _ k => XS.ifYes X371.here hx rfl (pc0 := 64) (pc' := 71) rfl (hb hby at_64) rfl ((if0 _ _).trans (teq (by decide : ((0 : Int32) = (0 : Int32)))).1) (by decide) (by decide) k) ?_
    show own_Fin p e below G (T371.setTop (mkF m 71 #[iv p1, iv p2, iv p3, iv p4, iv p5, iv p6, iv st, iv (0 : Int32), iv e0', iv e1', iv e2', rv b352, rv b363, .unset, .unset, .unset, .unset, .unset, .unset, .unset, .unset] []))
    refine own_st (fun _ k => XS.iconst X371.here hx rfl (hb hby at_71) k) ?_
    show own_Fin p e below G (T371.setTop (mkF m 72 #[iv p1, iv p2, iv p3, iv p4, iv p5, iv p6, iv st, iv (0 : Int32), iv e0', iv e1', iv e2', rv b352, rv b363, .unset, .unset, .unset, .unset, .unset, .unset, .unset, .unset] [(.int (4 : Int32))]))
    obtain ⟨T374, h374, k374, X374, e374, E374, A374, st374⟩ := newP X371 hx hZ (own_w hw 83 rfl) rfl (g := (mkF m 72 #[iv p1, iv p2, iv p3, iv p4, iv p5, iv p6, iv st, iv (0 : Int32), iv e0', iv e1', iv e2', rv b352, rv b363, .unset, .unset, .unset, .unset, .unset, .unset, .unset, .unset] [(.int (4 : Int32))])) rfl (hb hby at_72) rfl (by decide) (cap := 4) (by decide) (by decide) (by decide) (by decide)
    obtain ⟨b374, g374⟩ : ∃ z, z = T371.heap.size := ⟨_, rfl⟩
    rw [← g374] at A374 st374
    have ne_b352_b374 : b352 ≠ b374 := Nat.ne_of_lt (Nat.lt_of_lt_of_le f372_0.lt (Nat.le_of_eq g374.symm))
    have ne_b363_b374 : b363 ≠ b374 := Nat.ne_of_lt (Nat.lt_of_lt_of_le f372_1.lt (Nat.le_of_eq g374.symm))
    have sz_b374 : h0.size ≤ b374 := Nat.le_trans K373.1 (Nat.le_of_eq g374.symm)
    have g_b374 : n0 ≤ b374 := Nat.le_trans Z0 sz_b374
    have f375_0 := f372_0.ext E374
    have f375_1 := f372_1.ext E374
    have K376 : Keep h0 h374 [] := K373.ext E374
    have V374 : own_AV Z h374 b374 .int (own_is [(0 : Int32), (0 : Int32), (0 : Int32), (0 : Int32)]) := own_AV_newI A374
    refine own_st st374 ?_
    show own_Fin p e below G (T374.setTop (mkF m 74 #[iv p1, iv p2, iv p3, iv p4, iv p5, iv p6, iv st, iv (0 : Int32), iv e0', iv e1', iv e2', rv b352, rv b363, .unset, .unset, .unset, .unset, .unset, .unset, .unset, .unset] [(.ref b374)]))
    refine own_st (fun _ k => XS.dup X374.here hx rfl (hb hby at_74) rfl rfl k) ?_
    show own_Fin p e below G (T374.setTop (mkF m 75 #[iv p1, iv p2, iv p3, iv p4, iv p5, iv p6, iv st, iv (0 : Int32), iv e0', iv e1', iv e2', rv b352, rv b363, .unset, .unset, .unset, .unset, .unset, .unset, .unset, .unset] [(.ref b374), (.ref b374)]))
    refine own_st (fun _ k => XS.iconst X374.here hx rfl (hb hby at_75) k) ?_
    show own_Fin p e below G (T374.setTop (mkF m 76 #[iv p1, iv p2, iv p3, iv p4, iv p5, iv p6, iv st, iv (0 : Int32), iv e0', iv e1', iv e2', rv b352, rv b363, .unset, .unset, .unset, .unset, .unset, .unset, .unset, .unset] [(.int (0 : Int32)), (.ref b374), (.ref b374)]))
    refine own_st (fun _ k => XS.iloadN X374.here hx rfl (hb hby at_76) rfl  k) ?_
    show own_Fin p e below G (T374.setTop (mkF m 77 #[iv p1, iv p2, iv p3, iv p4, iv p5, iv p6, iv st, iv (0 : Int32), iv e0', iv e1', iv e2', rv b352, rv b363, .unset, .unset, .unset, .unset, .unset, .unset, .unset, .unset] [(.int p1), (.int (0 : Int32)), (.ref b374), (.ref b374)]))
    obtain ⟨T377, h377, X377, e377, W377, V377, st377⟩ := own_stI X374 hx hZ e374 V374 (j := (0 : Int32)) (n := 4) rfl (by decide) (g := (mkF m 77 #[iv p1, iv p2, iv p3, iv p4, iv p5, iv p6, iv st, iv (0 : Int32), iv e0', iv e1', iv e2', rv b352, rv b363, .unset, .unset, .unset, .unset, .unset, .unset, .unset, .unset] [(.int p1), (.int (0 : Int32)), (.ref b374), (.ref b374)])) rfl rfl (hb hby at_77)
    have f378_0 := f375_0.wr W377
    have f378_1 := f375_1.wr W377
    have K379 : Keep h0 h377 [] := K376.wr W377 (Or.inr sz_b374)
    have N380 := Fr.snoc X377 N371 g_b374
    replace V377 : own_AV Z h377 b374 .int (own_is [p1, (0 : Int32), (0 : Int32), (0 : Int32)]) := V377
    refine own_st st377 ?_
    show own_Fin p e below G (T377.setTop (mkF m 78 #[iv p1, iv p2, iv p3, iv p4, iv p5, iv p6, iv st, iv (0 : Int32), iv e0', iv e1', iv e2', rv b352, rv b363, .unset, .unset, .unset, .unset, .unset, .unset, .unset, .unset] [(.ref b374)]))
    refine own_st (fun _ k => XS.dup X377.here hx rfl (hb hby at_78) rfl rfl k) ?_
    show own_Fin p e below G (T377.setTop (mkF m 79 #[iv p1, iv p2, iv p3, iv p4, iv p5, iv p6, iv st, iv (0 : Int32), iv e0', iv e1', iv e2', rv b352, rv b363, .unset, .unset, .unset, .unset, .unset, .unset, .unset, .unset] [(.ref b374), (.ref b374)]))
    refine own_st (fun _ k => XS.iconst X377.here hx rfl (hb hby at_79) k) ?_
    show own_Fin p e below G (T377.setTop (mkF m 80 #[iv p1, iv p2, iv p3, iv p4, iv p5, iv p6, iv st, iv (0 : Int32), iv e0', iv e1', iv e2', rv b352, rv b363, .unset, .unset, .unset, .unset, .unset, .unset, .unset, .unset] [(.int (1 : Int32)), (.ref b374), (.ref b374)]))
    refine own_st (fun _ k => XS.iload X377.here hx rfl (hb hby at_80) rfl  k) ?_
    show own_Fin p e below G (T377.setTop (mkF m 82 #[iv p1, iv p2, iv p3, iv p4, iv p5, iv p6, iv st, iv (0 : Int32), iv e0', iv e1', iv e2', rv b352, rv b363, .unset, .unset, .unset, .unset, .unset, .unset, .unset, .unset] [(.int e0'), (.int (1 : Int32)), (.ref b374), (.ref b374)]))
    obtain ⟨T381, h381, X381, e381, W381, V381, st381⟩ := own_stI X377 hx hZ e377 V377 (j := (1 : Int32)) (n := 4) rfl (by decide) (g := (mkF m 82 #[iv p1, iv p2, iv p3, iv p4, iv p5, iv p6, iv st, iv (0 : Int32), iv e0', iv e1', iv e2', rv b352, rv b363, .unset, .unset, .unset, .unset, .unset, .unset, .unset, .unset] [(.int e0'), (.int (1 : Int32)), (.ref b374), (.ref b374)])) rfl rfl (hb hby at_82)
    have f382_0 := f378_0.wr W381
    have f382_1 := f378_1.wr W381
    have K383 : Keep h0 h381 [] := K379.wr W381 (Or.inr sz_b374)
    have N384 := Fr.snoc X381 N380 g_b374
    replace V381 : own_AV Z h381 b374 .int (own_is [p1, e0', (0 : Int32), (0 : Int32)]) := V381
    refine own_st st381 ?_
    show own_Fin p e below G (T381.setTop (mkF m 83 #[iv p1, iv p2, iv p3, iv p4, iv p5, iv p6, iv st, iv (0 : Int32), iv e0', iv e1', iv e2', rv b352, rv b363, .unset, .unset, .unset, .unset, .unset, .unset, .unset, .unset] [(.ref b374)]))
    refine own_st (fun _ k => XS.dup X381.here hx rfl (hb hby at_83) rfl rfl k) ?_
    show own_Fin p e below G (T381.setTop (mkF m 84 #[iv p1, iv p2, iv p3, iv p4, iv p5, iv p6, iv st, iv (0 : Int32), iv e0', iv e1', iv e2', rv b352, rv b363, .unset, .unset, .unset, .unset, .unset, .unset, .unset, .unset] [(.ref b374), (.ref b374)]))
    refine own_st (fun _ k => XS.iconst X381.here hx rfl (hb hby at_84) k) ?_
    show own_Fin p e below G (T381.setTop (mkF m 85 #[iv p1, iv p2, iv p3, iv p4, iv p5, iv p6, iv st, iv (0 : Int32), iv e0', iv e1', iv e2', rv b352, rv b363, .unset, .unset, .unset, .unset, .unset, .unset, .unset, .unset] [(.int (2 : Int32)), (.ref b374), (.ref b374)]))
    refine own_st (fun _ k => XS.iload X381.here hx rfl (hb hby at_85) rfl  k) ?_
    show own_Fin p e below G (T381.setTop (mkF m 87 #[iv p1, iv p2, iv p3, iv p4, iv p5, iv p6, iv st, iv (0 : Int32), iv e0', iv e1', iv e2', rv b352, rv b363, .unset, .unset, .unset, .unset, .unset, .unset, .unset, .unset] [(.int e1'), (.int (2 : Int32)), (.ref b374), (.ref b374)]))
    obtain ⟨T385, h385, X385, e385, W385, V385, st385⟩ := own_stI X381 hx hZ e381 V381 (j := (2 : Int32)) (n := 4) rfl (by decide) (g := (mkF m 87 #[iv p1, iv p2, iv p3, iv p4, iv p5, iv p6, iv st, iv (0 : Int32), iv e0', iv e1', iv e2', rv b352, rv b363, .unset, .unset, .unset, .unset, .unset, .unset, .unset, .unset] [(.int e1'), (.int (2 : Int32)), (.ref b374), (.ref b374)])) rfl rfl (hb hby at_87)
    have f386_0 := f382_0.wr W385
    have f386_1 := f382_1.wr W385
    have K387 : Keep h0 h385 [] := K383.wr W385 (Or.inr sz_b374)
    have N388 := Fr.snoc X385 N384 g_b374
    replace V385 : own_AV Z h385 b374 .int (own_is [p1, e0', e1', (0 : Int32)]) := V385
    refine own_st st385 ?_
    show own_Fin p e below G (T385.setTop (mkF m 88 #[iv p1, iv p2, iv p3, iv p4, iv p5, iv p6, iv st, iv (0 : Int32), iv e0', iv e1', iv e2', rv b352, rv b363, .unset, .unset, .unset, .unset, .unset, .unset, .unset, .unset] [(.ref b374)]))
    refine own_st (fun _ k => XS.dup X385.here hx rfl (hb hby at_88) rfl rfl k) ?_
    show own_Fin p e below G (T385.setTop (mkF m 89 #[iv p1, iv p2, iv p3, iv p4, iv p5, iv p6, iv st, iv (0 : Int32), iv e0', iv e1', iv e2', rv b352, rv b363, .unset, .unset, .unset, .unset, .unset, .unset, .unset, .unset] [(.ref b374), (.ref b374)]))
    refine own_st (fun _ k => XS.iconst X385.here hx rfl (hb hby at_89) k) ?_
    show own_Fin p e below G (T385.setTop (mkF m 90 #[iv p1, iv p2, iv p3, iv p4, iv p5, iv p6, iv st, iv (0 : Int32), iv e0', iv e1', iv e2', rv b352, rv b363, .unset, .unset, .unset, .unset, .unset, .unset, .unset, .unset] [(.int (3 : Int32)), (.ref b374), (.ref b374)]))
    refine own_st (fun _ k => XS.iload X385.here hx rfl (hb hby at_90) rfl  k) ?_
    show own_Fin p e below G (T385.setTop (mkF m 92 #[iv p1, iv p2, iv p3, iv p4, iv p5, iv p6, iv st, iv (0 : Int32), iv e0', iv e1', iv e2', rv b352, rv b363, .unset, .unset, .unset, .unset, .unset, .unset, .unset, .unset] [(.int e2'), (.int (3 : Int32)), (.ref b374), (.ref b374)]))
    obtain ⟨T389, h389, X389, e389, W389, V389, st389⟩ := own_stI X385 hx hZ e385 V385 (j := (3 : Int32)) (n := 4) rfl (by decide) (g := (mkF m 92 #[iv p1, iv p2, iv p3, iv p4, iv p5, iv p6, iv st, iv (0 : Int32), iv e0', iv e1', iv e2', rv b352, rv b363, .unset, .unset, .unset, .unset, .unset, .unset, .unset, .unset] [(.int e2'), (.int (3 : Int32)), (.ref b374), (.ref b374)])) rfl rfl (hb hby at_92)
    have f390_0 := f386_0.wr W389
    have f390_1 := f386_1.wr W389
    have K391 : Keep h0 h389 [] := K387.wr W389 (Or.inr sz_b374)
    have N392 := Fr.snoc X389 N388 g_b374
    replace V389 : own_AV Z h389 b374 .int (own_is [p1, e0', e1', e2']) := V389
    refine own_st st389 ?_
    show own_Fin p e below G (T389.setTop (mkF m 93 #[iv p1, iv p2, iv p3, iv p4, iv p5, iv p6, iv st, iv (0 : Int32), iv e0', iv e1', iv e2', rv b352, rv b363, .unset, .unset, .unset, .unset, .unset, .unset, .unset, .unset] [(.ref b374)]))
    refine own_st (fun _ k => XS.astore X389.here hx rfl (hb hby at_93) rfl rfl (l' := #[iv p1, iv p2, iv p3, iv p4, iv p5, iv p6, iv st, iv (0 : Int32), iv e0', iv e1', iv e2', rv b352, rv b363, rv b374, .unset, .unset, .unset, .unset, .unset, .unset, .unset]) rfl k) ?_
    show own_Fin p e below G (T389.setTop (mkF m 95 #[iv p1, iv p2, iv p3, iv p4, iv p5, iv p6, iv st, iv (0 : Int32), iv e0', iv e1', iv e2', rv b352, rv b363, rv b374, .unset, .unset, .unset, .unset, .unset, .unset, .unset] []))
    refine own_st (fun _ k => XS.iload X389.here hx rfl (hb hby at_95) rfl  k) ?_
    show own_Fin p e below G (T389.setTop (mkF m 97 #[iv p1, iv p2, iv p3, iv p4, iv p5, iv p6, iv st, iv (0 : Int32), iv e0', iv e1', iv e2', rv b352, rv b363, rv b374, .unset, .unset, .unset, .unset, .unset, .unset, .unset] [(.int (0 : Int32))]))
    refine own_st (fun _ k => XS.ifYes X389.here hx rfl (pc0 := 97) (pc' := 104) rfl (hb hby at_97) rfl ((if0 _ _).trans (teq (by decide : ((0 : Int32) = (0 : Int32)))).1) (by decide) (by decide) k) ?_
    show own_Fin p e below G (T389.setTop (mkF m 104 #[iv p1, iv p2, iv p3, iv p4, iv p5, iv p6, iv st, iv (0 : Int32), iv e0', iv e1', iv e2', rv b352, rv b363, rv b374, .unset, .unset, .unset, .unset, .unset, .unset, .unset] []))
    refine own_st (fun _ k => XS.iconst X389.here hx rfl (hb hby at_104) k) ?_
    show own_Fin p e below G (T389.setTop (mkF m 105 #[iv p1, iv p2, iv p3, iv p4, iv p5, iv p6, iv st, iv (0 : Int32), iv e0', iv e1', iv e2', rv b352, rv b363, rv b374, .unset, .unset, .unset, .unset, .unset, .unset, .unset] [(.int (0 : Int32))]))
    obtain ⟨T393, h393, k393, X393, e393, E393, A393, st393⟩ := newP X389 hx hZ (own_w hw 83 rfl) e389 (g := (mkF m 105 #[iv p1, iv p2, iv p3, iv p4, iv p5, iv p6, iv st, iv (0 : Int32), iv e0', iv e1', iv e2', rv b352, rv b363, rv b374, .unset, .unset, .unset, .unset, .unset, .unset, .unset] [(.int (0 : Int32))])) rfl (hb hby at_105) rfl (by decide) (cap := 0) (by decide) (by decide) (by decide) (by decide)
    obtain ⟨b393, g393⟩ : ∃ z, z = h389.size := ⟨_, rfl⟩
    rw [← g393] at A393 st393
    have ne_b352_b393 : b352 ≠ b393 := Nat.ne_of_lt (Nat.lt_of_lt_of_le f390_0.lt (Nat.le_of_eq g393.symm))
    have ne_b363_b393 : b363 ≠ b393 := Nat.ne_of_lt (Nat.lt_of_lt_of_le f390_1.lt (Nat.le_of_eq g393.symm))
    have ne_b374_b393 : b374 ≠ b393 := Nat.ne_of_lt (Nat.lt_of_lt_of_le V389.lt (Nat.le_of_eq g393.symm))
    have sz_b393 : h0.size ≤ b393 := Nat.le_trans K391.1 (Nat.le_of_eq g393.symm)
    have g_b393 : n0 ≤ b393 := Nat.le_trans Z0 sz_b393
    have f394_0 := f390_0.ext E393
    have f394_1 := f390_1.ext E393
    have f394_2 := V389.ext E393
    have K395 : Keep h0 h393 [] := K391.ext E393
    have V393 : own_AV Z h393 b393 .int (own_is []) := own_AV_newI A393
    refine own_st st393 ?_
    show own_Fin p e below G (T393.setTop (mkF m 107 #[iv p1, iv p2, iv p3, iv p4, iv p5, iv p6, iv st, iv (0 : Int32), iv e0', iv e1', iv e2', rv b352, rv b363, rv b374, .unset, .unset, .unset, .unset, .unset, .unset, .unset] [(.ref b393)]))
    refine own_st (fun _ k => XS.astore X393.here hx rfl (hb hby at_107) rfl rfl (l' := #[iv p1, iv p2, iv p3, iv p4, iv p5, iv p6, iv st, iv (0 : Int32), iv e0', iv e1', iv e2', rv b352, rv b363, rv b374, rv b393, .unset, .unset, .unset, .unset, .unset, .unset]) rfl k) ?_
    show own_Fin p e below G (T393.setTop (mkF m 109 #[iv p1, iv p2, iv p3, iv p4, iv p5, iv p6, iv st, iv (0 : Int32), iv e0', iv e1', iv e2', rv b352, rv b363, rv b374, rv b393, .unset, .unset, .unset, .unset, .unset, .unset] []))
    obtain ⟨T396, h396, X396, e396, E396, A396, D396, M396, st396⟩ := newO X393 hx hZ hown (own_w hw 30 rfl) (own_w hw 31 rfl) (own_w hw 32 rfl) e393 (g := (mkF m 109 #[iv p1, iv p2, iv p3, iv p4, iv p5, iv p6, iv st, iv (0 : Int32), iv e0', iv e1', iv e2', rv b352, rv b363, rv b374, rv b393, .unset, .unset, .unset, .unset, .unset, .unset] [])) rfl (hb hby at_109) (by decide) (by decide)
    obtain ⟨b396, g396⟩ : ∃ z, z = h393.size := ⟨_, rfl⟩
    rw [← g396] at A396 D396 st396
    have ne_b352_b396 : b352 ≠ b396 := Nat.ne_of_lt (Nat.lt_of_lt_of_le f394_0.lt (Nat.le_of_eq g396.symm))
    have ne_b363_b396 : b363 ≠ b396 := Nat.ne_of_lt (Nat.lt_of_lt_of_le f394_1.lt (Nat.le_of_eq g396.symm))
    have ne_b374_b396 : b374 ≠ b396 := Nat.ne_of_lt (Nat.lt_of_lt_of_le f394_2.lt (Nat.le_of_eq g396.symm))
    have ne_b393_b396 : b393 ≠ b396 := Nat.ne_of_lt (Nat.lt_of_lt_of_le V393.lt (Nat.le_of_eq g396.symm))
    have sz_b396 : h0.size ≤ b396 := Nat.le_trans K395.1 (Nat.le_of_eq g396.symm)
    have g_b396 : n0 ≤ b396 := Nat.le_trans Z0 sz_b396
    have f397_0 := f394_0.ext E396
    have f397_1 := f394_1.ext E396
    have f397_2 := f394_2.ext E396
    have f397_3 := V393.ext E396
    have K398 : Keep h0 h396 [] := K395.ext E396
    have f399 : Fld Z h396 b396 "com/example/paired_paths/pairedpaths/lts/TransitionSystem" "labelNumbers" "Ljava/util/Map;" .null := D396 (Or.inr (own_w hw 56 rfl)) (ty := (.object "java/util/Map")) (by decide)
    have f400 : Fld Z h396 b396 "com/example/paired_paths/pairedpaths/lts/TransitionSystem" "labelTexts" "[Ljava/lang/String;" .null := D396 (Or.inr (own_w hw 58 rfl)) (ty := (.array (.object "java/lang/String"))) (by decide)
    have f401 : Fld Z h396 b396 "com/example/paired_paths/pairedpaths/lts/TransitionSystem" "firstMove" "Lcom/example/paired_paths/pairedpaths/lts/PackedInts;" .null := D396 (Or.inr (own_w hw 60 rfl)) (ty := (.object "com/example/paired_paths/pairedpaths/lts/PackedInts")) (by decide)
    have f402 : Fld Z h396 b396 "com/example/paired_paths/pairedpaths/lts/TransitionSystem" "moveLabels" "Lcom/example/paired_paths/pairedpaths/lts/PackedInts;" .null := D396 (Or.inr (own_w hw 62 rfl)) (ty := (.object "com/example/paired_paths/pairedpaths/lts/PackedInts")) (by decide)
    have f403 : Fld Z h396 b396 "com/example/paired_paths/pairedpaths/lts/TransitionSystem" "moveTargets" "Lcom/example/paired_paths/pairedpaths/lts/PackedInts;" .null := D396 (Or.inr (own_w hw 64 rfl)) (ty := (.object "com/example/paired_paths/pairedpaths/lts/PackedInts")) (by decide)
    have f404 : Fld Z h396 b396 "com/example/paired_paths/pairedpaths/lts/TransitionSystem" "positionCount" "I" (.int (0 : Int32)) := D396 (Or.inr (own_w hw 66 rfl)) (ty := .int) (by decide)
    have f405 : Fld Z h396 b396 "com/example/paired_paths/pairedpaths/lts/TransitionSystem" "firstWaiting" "[I" .null := D396 (Or.inr (own_w hw 68 rfl)) (ty := (.array .int)) (by decide)
    have f406 : Fld Z h396 b396 "com/example/paired_paths/pairedpaths/lts/TransitionSystem" "waitingPositions" "[I" .null := D396 (Or.inr (own_w hw 70 rfl)) (ty := (.array .int)) (by decide)
    have f407 : Fld Z h396 b396 "com/example/paired_paths/pairedpaths/lts/TransitionSystem" "sourceStates" "Lcom/example/paired_paths/pairedpaths/lts/PackedInts;" .null := D396 (Or.inr (own_w hw 72 rfl)) (ty := (.object "com/example/paired_paths/pairedpaths/lts/PackedInts")) (by decide)
    refine own_st st396 ?_
    show own_Fin p e below G (T396.setTop (mkF m 112 #[iv p1, iv p2, iv p3, iv p4, iv p5, iv p6, iv st, iv (0 : Int32), iv e0', iv e1', iv e2', rv b352, rv b363, rv b374, rv b393, .unset, .unset, .unset, .unset, .unset, .unset] [(.ref b396)]))
    refine own_st (fun _ k => XS.dup X396.here hx rfl (hb hby at_112) rfl rfl k) ?_
    show own_Fin p e below G (T396.setTop (mkF m 113 #[iv p1, iv p2, iv p3, iv p4, iv p5, iv p6, iv st, iv (0 : Int32), iv e0', iv e1', iv e2', rv b352, rv b363, rv b374, rv b393, .unset, .unset, .unset, .unset, .unset, .unset] [(.ref b396), (.ref b396)]))
    refine own_st (fun _ k => XS.iconst X396.here hx rfl (hb hby at_113) k) ?_
    show own_Fin p e below G (T396.setTop (mkF m 114 #[iv p1, iv p2, iv p3, iv p4, iv p5, iv p6, iv st, iv (0 : Int32), iv e0', iv e1', iv e2', rv b352, rv b363, rv b374, rv b393, .unset, .unset, .unset, .unset, .unset, .unset] [(.int (0 : Int32)), (.ref b396), (.ref b396)]))
    obtain ⟨T408, h408, k408, X408, e408, E408, A408, O408, st408⟩ := newR X396 hx hZ hown (own_w hw 33 rfl) (own_w hw 34 rfl) e396 (g := (mkF m 114 #[iv p1, iv p2, iv p3, iv p4, iv p5, iv p6, iv st, iv (0 : Int32), iv e0', iv e1', iv e2', rv b352, rv b363, rv b374, rv b393, .unset, .unset, .unset, .unset, .unset, .unset] [(.int (0 : Int32)), (.ref b396), (.ref b396)])) rfl (hb hby at_114) rfl (by decide) (cap := 0) (by decide) (by decide) (by decide) (by decide)
    obtain ⟨b408, g408⟩ : ∃ z, z = h396.size := ⟨_, rfl⟩
    rw [← g408] at A408 st408
    have ne_b352_b408 : b352 ≠ b408 := Nat.ne_of_lt (Nat.lt_of_lt_of_le f397_0.lt (Nat.le_of_eq g408.symm))
    have ne_b363_b408 : b363 ≠ b408 := Nat.ne_of_lt (Nat.lt_of_lt_of_le f397_1.lt (Nat.le_of_eq g408.symm))
    have ne_b374_b408 : b374 ≠ b408 := Nat.ne_of_lt (Nat.lt_of_lt_of_le f397_2.lt (Nat.le_of_eq g408.symm))
    have ne_b393_b408 : b393 ≠ b408 := Nat.ne_of_lt (Nat.lt_of_lt_of_le f397_3.lt (Nat.le_of_eq g408.symm))
    have ne_b396_b408 : b396 ≠ b408 := Nat.ne_of_lt (Nat.lt_of_lt_of_le A396.lt (Nat.le_of_eq g408.symm))
    have sz_b408 : h0.size ≤ b408 := Nat.le_trans K398.1 (Nat.le_of_eq g408.symm)
    have g_b408 : n0 ≤ b408 := Nat.le_trans Z0 sz_b408
    have f409_0 := f397_0.ext E408
    have f409_1 := f397_1.ext E408
    have f409_2 := f397_2.ext E408
    have f409_3 := f397_3.ext E408
    have f409_4 := A396.ext E408
    have f409_5 := f399.ext E408
    have f409_6 := f400.ext E408
    have f409_7 := f401.ext E408
    have f409_8 := f402.ext E408
    have f409_9 := f403.ext E408
    have f409_10 := f404.ext E408
    have f409_11 := f405.ext E408
    have f409_12 := f406.ext E408
    have f409_13 := f407.ext E408
    have K410 : Keep h0 h408 [] := K398.ext E408
    have V408 : own_AVk Z h408 b408 k408 (.object "java/lang/String") [] := own_AVk_new A408
    refine own_st st408 ?_
    show own_Fin p e below G (T408.setTop (mkF m 117 #[iv p1, iv p2, iv p3, iv p4, iv p5, iv p6, iv st, iv (0 : Int32), iv e0', iv e1', iv e2', rv b352, rv b363, rv b374, rv b393, .unset, .unset, .unset, .unset, .unset, .unset] [(.ref b408), (.ref b396), (.ref b396)]))
    refine own_st (fun _ k => XS.aload X408.here hx rfl (hb hby at_117) rfl rfl k) ?_
    show own_Fin p e below G (T408.setTop (mkF m 119 #[iv p1, iv p2, iv p3, iv p4, iv p5, iv p6, iv st, iv (0 : Int32), iv e0', iv e1', iv e2', rv b352, rv b363, rv b374, rv b393, .unset, .unset, .unset, .unset, .unset, .unset] [(.ref b352), (.ref b408), (.ref b396), (.ref b396)]))
    refine own_st (fun _ k => XS.aload X408.here hx rfl (hb hby at_119) rfl rfl k) ?_
    show own_Fin p e below G (T408.setTop (mkF m 121 #[iv p1, iv p2, iv p3, iv p4, iv p5, iv p6, iv st, iv (0 : Int32), iv e0', iv e1', iv e2', rv b352, rv b363, rv b374, rv b393, .unset, .unset, .unset, .unset, .unset, .unset] [(.ref b363), (.ref b352), (.ref b408), (.ref b396), (.ref b396)]))
    refine own_st (fun _ k => XS.aload X408.here hx rfl (hb hby at_121) rfl rfl k) ?_
    show own_Fin p e below G (T408.setTop (mkF m 123 #[iv p1, iv p2, iv p3, iv p4, iv p5, iv p6, iv st, iv (0 : Int32), iv e0', iv e1', iv e2', rv b352, rv b363, rv b374, rv b393, .unset, .unset, .unset, .unset, .unset, .unset] [(.ref b363), (.ref b363), (.ref b352), (.ref b408), (.ref b396), (.ref b396)]))
    refine own_st (fun _ k => XS.iload X408.here hx rfl (hb hby at_123) rfl  k) ?_
    show own_Fin p e below G (T408.setTop (mkF m 125 #[iv p1, iv p2, iv p3, iv p4, iv p5, iv p6, iv st, iv (0 : Int32), iv e0', iv e1', iv e2', rv b352, rv b363, rv b374, rv b393, .unset, .unset, .unset, .unset, .unset, .unset] [(.int (0 : Int32)), (.ref b363), (.ref b363), (.ref b352), (.ref b408), (.ref b396), (.ref b396)]))
    refine own_st (fun _ k => XS.ifYes X408.here hx rfl (pc0 := 125) (pc' := 132) rfl (hb hby at_125) rfl ((if0 _ _).trans (teq (by decide : ((0 : Int32) = (0 : Int32)))).1) (by decide) (by decide) k) ?_
    show own_Fin p e below G (T408.setTop (mkF m 132 #[iv p1, iv p2, iv p3, iv p4, iv p5, iv p6, iv st, iv (0 : Int32), iv e0', iv e1', iv e2', rv b352, rv b363, rv b374, rv b393, .unset, .unset, .unset, .unset, .unset, .unset] [(.ref b363), (.ref b363), (.ref b352), (.ref b408), (.ref b396), (.ref b396)]))
    refine own_st (fun _ k => XS.iload X408.here hx rfl (hb hby at_132) rfl  k) ?_
    show own_Fin p e below G (T408.setTop (mkF m 134 #[iv p1, iv p2, iv p3, iv p4, iv p5, iv p6, iv st, iv (0 : Int32), iv e0', iv e1', iv e2', rv b352, rv b363, rv b374, rv b393, .unset, .unset, .unset, .unset, .unset, .unset] [(.int p6), (.ref b363), (.ref b363), (.ref b352), (.ref b408), (.ref b396), (.ref b396)]))
    refine own_st (fun _ k => XS.iconst X408.here hx rfl (hb hby at_134) k) ?_
    show own_Fin p e below G (T408.setTop (mkF m 135 #[iv p1, iv p2, iv p3, iv p4, iv p5, iv p6, iv st, iv (0 : Int32), iv e0', iv e1', iv e2', rv b352, rv b363, rv b374, rv b393, .unset, .unset, .unset, .unset, .unset, .unset] [(.int (1 : Int32)), (.int p6), (.ref b363), (.ref b363), (.ref b352), (.ref b408), (.ref b396), (.ref b396)]))
    refine own_st (fun _ k => XS.iushr X408.here hx rfl (hb hby at_135) rfl k) ?_
    show own_Fin p e below G (T408.setTop (mkF m 136 #[iv p1, iv p2, iv p3, iv p4, iv p5, iv p6, iv st, iv (0 : Int32), iv e0', iv e1', iv e2', rv b352, rv b363, rv b374, rv b393, .unset, .unset, .unset, .unset, .unset, .unset] [(.int ((p6.toUInt32 >>> ((1 : Int32) &&& 31).toUInt32).toInt32)), (.ref b363), (.ref b363), (.ref b352), (.ref b408), (.ref b396), (.ref b396)]))
    refine own_st (fun _ k => XS.aload X408.here hx rfl (hb hby at_136) rfl rfl k) ?_
    show own_Fin p e below G (T408.setTop (mkF m 138 #[iv p1, iv p2, iv p3, iv p4, iv p5, iv p6, iv st, iv (0 : Int32), iv e0', iv e1', iv e2', rv b352, rv b363, rv b374, rv b393, .unset, .unset, .unset, .unset, .unset, .unset] [(.ref b374), (.int ((p6.toUInt32 >>> ((1 : Int32) &&& 31).toUInt32).toInt32)), (.ref b363), (.ref b363), (.ref b352), (.ref b408), (.ref b396), (.ref b396)]))
    refine own_st (fun _ k => XS.aload X408.here hx rfl (hb hby at_138) rfl rfl k) ?_
    show own_Fin p e below G (T408.setTop (mkF m 140 #[iv p1, iv p2, iv p3, iv p4, iv p5, iv p6, iv st, iv (0 : Int32), iv e0', iv e1', iv e2', rv b352, rv b363, rv b374, rv b393, .unset, .unset, .unset, .unset, .unset, .unset] [(.ref b393), (.ref b374), (.int ((p6.toUInt32 >>> ((1 : Int32) &&& 31).toUInt32).toInt32)), (.ref b363), (.ref b363), (.ref b352), (.ref b408), (.ref b396), (.ref b396)]))
    refine own_st (fun _ k => XS.aconstNull X408.here hx rfl (hb hby at_140) k) ?_
    show own_Fin p e below G (T408.setTop (mkF m 141 #[iv p1, iv p2, iv p3, iv p4, iv p5, iv p6, iv st, iv (0 : Int32), iv e0', iv e1', iv e2', rv b352, rv b363, rv b374, rv b393, .unset, .unset, .unset, .unset, .unset, .unset] [.null, (.ref b393), (.ref b374), (.int ((p6.toUInt32 >>> ((1 : Int32) &&& 31).toUInt32).toInt32)), (.ref b363), (.ref b363), (.ref b352), (.ref b408), (.ref b396), (.ref b396)]))
    obtain ⟨_, _, ⟨T411, L411, k411, n411⟩, -, X411, ⟨Lc411, hQ411, l411, y411, z411⟩, st411⟩ := X408.specialBack hx (y := own_y5) rfl hown (mvT hZ (own_w hw 35 rfl)) (mvT hZ (own_w hw 36 rfl)) (mvT hZ (own_w hw 37 rfl)) (by decide) (backOf (W := 1) (rm_tsy l Z a0 hw [] b396 b408 b352 b363 ((p6.toUInt32 >>> ((1 : Int32) &&& 31).toUInt32).toInt32) b374 b393 k408 h408 n0 (Nat.le_trans Z0 K410.1) f409_4 f409_5 f409_6 f409_7 f409_8 f409_9 f409_10 f409_11 f409_12 f409_13 g_b396 V408 (Ne.symm ne_b396_b408)) hZ (own_w hw 37 rfl) (own_w hw 32 rfl) (by decide) (by decide)) (g := (mkF m 141 #[iv p1, iv p2, iv p3, iv p4, iv p5, iv p6, iv st, iv (0 : Int32), iv e0', iv e1', iv e2', rv b352, rv b363, rv b374, rv b393, .unset, .unset, .unset, .unset, .unset, .unset] [.null, (.ref b393), (.ref b374), (.int ((p6.toUInt32 >>> ((1 : Int32) &&& 31).toUInt32).toInt32)), (.ref b363), (.ref b363), (.ref b352), (.ref b408), (.ref b396), (.ref b396)])) rfl (by rw [hml]; rfl) (Steps.refl _) (a := b396) (argsL := [(.ref b408), (.ref b352), (.ref b363), (.ref b363), (.int ((p6.toUInt32 >>> ((1 : Int32) &&& 31).toUInt32).toInt32)), (.ref b374), (.ref b393), .null]) (rest := [(.ref b396)]) (lenOf pd___Ljava_lang_String_Lcom_example_paired_paths_pairedpaths_lts_PackedInts_Lcom_example_paired_paths_pairedpaths_lts_PackedInts_Lcom_example_paired_paths_pairedpaths_lts_PackedInts_I_I_ILcom_example_paired_paths_pairedpaths_lts_PackedInts__V_284 rfl) rfl (by show 2 * 0 + _ ≤ _; exact Nat.le_of_eq rfl) (hb hby at_141) (fun _ _ => ⟨rfl, e408, (by decide : 8 + 1 ≤ _), (by decide : 27 + 8 ≤ _)⟩)
    dsimp only [Pt.U, Pt.locs, Pt.cells, Pt.slots] at X411 l411 y411 z411 st411 hQ411
    subst l411 y411 z411
    obtain ⟨rfl, N411q, Kc411, gF411⟩ := hQ411
    have N411 := Fr.app N392 N411q
    have f412_0 := f409_0.keep Kc411
    have f412_1 := f409_1.keep Kc411
    have f412_2 := f409_2.keep Kc411 (ninS ne_b374_b396 nin0)
    have f412_3 := f409_3.keep Kc411 (ninS ne_b393_b396 nin0)
    have f412_4 := f409_4.keep Kc411
    have f412_14 := V408.keep Kc411 (ninS (Ne.symm ne_b396_b408) nin0)
    have K413 : Keep h0 T411.heap [] := K410.trans Kc411 (allS (Or.inr sz_b396) all0)
    refine own_tr st411 ?_
    show own_Fin p e below G (T411.setTop (mkF m 144 #[iv p1, iv p2, iv p3, iv p4, iv p5, iv p6, iv st, iv (0 : Int32), iv e0', iv e1', iv e2', rv b352, rv b363, rv b374, rv b393, .unset, .unset, .unset, .unset, .unset, .unset] [(.ref b396)]))
    refine own_st (fun _ k => XS.astore X411.here hx rfl (hb hby at_144) rfl rfl (l' := #[iv p1, iv p2, iv p3, iv p4, iv p5, iv p6, iv st, iv (0 : Int32), iv e0', iv e1', iv e2', rv b352, rv b363, rv b374, rv b393, rv b396, .unset, .unset, .unset, .unset, .unset]) rfl k) ?_
    show own_Fin p e below G (T411.setTop (mkF m 146 #[iv p1, iv p2, iv p3, iv p4, iv p5, iv p6, iv st, iv (0 : Int32), iv e0', iv e1', iv e2', rv b352, rv b363, rv b374, rv b393, rv b396, .unset, .unset, .unset, .unset, .unset] []))
    rcases own_c3 r3 with rfl | rfl | rfl
    · show own_Fin p e below G (T411.setTop (mkF m 146 #[iv p1, iv p2, iv p3, iv p4, iv p5, iv p6, iv (0 : Int32), iv (0 : Int32), iv e0', iv e1', iv e2', rv b352, rv b363, rv b374, rv b393, rv b396, .unset, .unset, .unset, .unset, .unset] []))
      refine own_st (fun _ k => XS.aload X411.here hx rfl (hb hby at_146) rfl rfl k) ?_
      show own_Fin p e below G (T411.setTop (mkF m 148 #[iv p1, iv p2, iv p3, iv p4, iv p5, iv p6, iv (0 : Int32), iv (0 : Int32), iv e0', iv e1', iv e2', rv b352, rv b363, rv b374, rv b393, rv b396, .unset, .unset, .unset, .unset, .unset] [(.ref b396)]))
      refine own_st (fun _ k => XS.iload X411.here hx rfl (hb hby at_148) rfl  k) ?_
      show own_Fin p e below G (T411.setTop (mkF m 150 #[iv p1, iv p2, iv p3, iv p4, iv p5, iv p6, iv (0 : Int32), iv (0 : Int32), iv e0', iv e1', iv e2', rv b352, rv b363, rv b374, rv b393, rv b396, .unset, .unset, .unset, .unset, .unset] [(.int (0 : Int32)), (.ref b396)]))
      obtain ⟨cq414, kq414, q414a, q414b, q414c⟩ := isOf hZ rfl f412_4
      obtain ⟨_, _, ⟨T414, L414, k414, n414⟩, -, X414, ⟨Lc414, hQ414, l414, y414, z414⟩, st414⟩ := X411.virtualBack hx (y := own_y6) (z := own_y6) hown (mvT hZ (own_w hw 73 rfl)) (mvT hZ (own_w hw 74 rfl)) (notFace_of_selects (args := #[]) (mvT hZ (own_w hw 76 rfl))) (mvT hZ (own_w hw 76 rfl)) (mvT hZ (own_w hw 75 rfl)) (by decide) (backOf (W := 0) (rm_waitingEnd0 l Z a0 hw [] b396 b374 p1 e0' e1' e2' T411.heap n0 (Nat.le_trans Z0 K413.1) gF411 f412_2) hZ (own_w hw 77 rfl) (own_w hw 32 rfl) (by decide) (by decide)) q414a q414c (g := (mkF m 150 #[iv p1, iv p2, iv p3, iv p4, iv p5, iv p6, iv (0 : Int32), iv (0 : Int32), iv e0', iv e1', iv e2', rv b352, rv b363, rv b374, rv b393, rv b396, .unset, .unset, .unset, .unset, .unset] [(.int (0 : Int32)), (.ref b396)])) rfl (by rw [hml]; rfl) (Steps.refl _) (argsL := [(.int (0 : Int32))]) (rest := []) (lenOf pd__I_I_227 rfl) rfl (by show 2 * 0 + _ ≤ _; exact Nat.le_of_eq rfl) (hb hby at_150) (fun _ _ => ⟨rfl, rfl, (by decide : 9 + 0 ≤ _), (by decide : 35 + 0 ≤ _)⟩)
      dsimp only [Pt.U, Pt.locs, Pt.cells, Pt.slots] at X414 l414 y414 z414 st414 hQ414
      subst l414 y414 z414
      obtain ⟨rfl, N414q, e414⟩ := hQ414
      skip
      have N414 := Fr.app N411 N414q
      refine own_tr st414 ?_
      show own_Fin p e below G (T414.setTop (mkF m 153 #[iv p1, iv p2, iv p3, iv p4, iv p5, iv p6, iv (0 : Int32), iv (0 : Int32), iv e0', iv e1', iv e2', rv b352, rv b363, rv b374, rv b393, rv b396, .unset, .unset, .unset, .unset, .unset] [(.int e0')]))
      refine own_st (fun _ k => XS.istore X414.here hx rfl (hb hby at_153) rfl (l' := #[iv p1, iv p2, iv p3, iv p4, iv p5, iv p6, iv (0 : Int32), iv (0 : Int32), iv e0', iv e1', iv e2', rv b352, rv b363, rv b374, rv b393, rv b396, iv e0', .unset, .unset, .unset, .unset]) rfl k) ?_
      show own_Fin p e below G (T414.setTop (mkF m 155 #[iv p1, iv p2, iv p3, iv p4, iv p5, iv p6, iv (0 : Int32), iv (0 : Int32), iv e0', iv e1', iv e2', rv b352, rv b363, rv b374, rv b393, rv b396, iv e0', .unset, .unset, .unset, .unset] []))
      refine own_st (fun _ k => XS.aload X414.here hx rfl (hb hby at_155) rfl rfl k) ?_
      show own_Fin p e below G (T414.setTop (mkF m 157 #[iv p1, iv p2, iv p3, iv p4, iv p5, iv p6, iv (0 : Int32), iv (0 : Int32), iv e0', iv e1', iv e2', rv b352, rv b363, rv b374, rv b393, rv b396, iv e0', .unset, .unset, .unset, .unset] [(.ref b396)]))
      refine own_st (fun _ k => XS.iload X414.here hx rfl (hb hby at_157) rfl  k) ?_
      show own_Fin p e below G (T414.setTop (mkF m 159 #[iv p1, iv p2, iv p3, iv p4, iv p5, iv p6, iv (0 : Int32), iv (0 : Int32), iv e0', iv e1', iv e2', rv b352, rv b363, rv b374, rv b393, rv b396, iv e0', .unset, .unset, .unset, .unset] [(.int (0 : Int32)), (.ref b396)]))
      obtain ⟨cq415, kq415, q415a, q415b, q415c⟩ := isOf hZ e414 f412_4
      obtain ⟨_, _, ⟨T415, L415, k415, n415⟩, -, X415, ⟨Lc415, hQ415, l415, y415, z415⟩, st415⟩ := X414.virtualBack hx (y := own_y7) (z := own_y7) hown (mvT hZ (own_w hw 78 rfl)) (mvT hZ (own_w hw 79 rfl)) (notFace_of_selects (args := #[]) (mvT hZ (own_w hw 81 rfl))) (mvT hZ (own_w hw 81 rfl)) (mvT hZ (own_w hw 80 rfl)) (by decide) (backOf (W := 0) (rm_waitingStart0 l Z a0 hw [] b396 b374 p1 e0' e1' e2' T411.heap n0 (Nat.le_trans Z0 K413.1) gF411 f412_2) hZ (own_w hw 82 rfl) (own_w hw 32 rfl) (by decide) (by decide)) q415a q415c (g := (mkF m 159 #[iv p1, iv p2, iv p3, iv p4, iv p5, iv p6, iv (0 : Int32), iv (0 : Int32), iv e0', iv e1', iv e2', rv b352, rv b363, rv b374, rv b393, rv b396, iv e0', .unset, .unset, .unset, .unset] [(.int (0 : Int32)), (.ref b396)])) rfl (by rw [hml]; rfl) (Steps.refl _) (argsL := [(.int (0 : Int32))]) (rest := []) (lenOf pd__I_I_227 rfl) rfl (by show 2 * 0 + _ ≤ _; exact Nat.le_of_eq rfl) (hb hby at_159) (fun _ _ => ⟨rfl, e414, (by decide : 9 + 0 ≤ _), (by decide : 35 + 0 ≤ _)⟩)
      dsimp only [Pt.U, Pt.locs, Pt.cells, Pt.slots] at X415 l415 y415 z415 st415 hQ415
      subst l415 y415 z415
      obtain ⟨rfl, N415q, e415⟩ := hQ415
      skip
      have N415 := Fr.app N414 N415q
      refine own_tr st415 ?_
      show own_Fin p e below G (T415.setTop (mkF m 162 #[iv p1, iv p2, iv p3, iv p4, iv p5, iv p6, iv (0 : Int32), iv (0 : Int32), iv e0', iv e1', iv e2', rv b352, rv b363, rv b374, rv b393, rv b396, iv e0', .unset, .unset, .unset, .unset] [(.int p1)]))
      refine own_st (fun _ k => XS.istore X415.here hx rfl (hb hby at_162) rfl (l' := #[iv p1, iv p2, iv p3, iv p4, iv p5, iv p6, iv (0 : Int32), iv (0 : Int32), iv e0', iv e1', iv e2', rv b352, rv b363, rv b374, rv b393, rv b396, iv e0', iv p1, .unset, .unset, .unset]) rfl k) ?_
      show own_Fin p e below G (T415.setTop (mkF m 164 #[iv p1, iv p2, iv p3, iv p4, iv p5, iv p6, iv (0 : Int32), iv (0 : Int32), iv e0', iv e1', iv e2', rv b352, rv b363, rv b374, rv b393, rv b396, iv e0', iv p1, .unset, .unset, .unset] []))
      refine own_st (fun _ k => XS.iload X415.here hx rfl (hb hby at_164) rfl  k) ?_
      show own_Fin p e below G (T415.setTop (mkF m 166 #[iv p1, iv p2, iv p3, iv p4, iv p5, iv p6, iv (0 : Int32), iv (0 : Int32), iv e0', iv e1', iv e2', rv b352, rv b363, rv b374, rv b393, rv b396, iv e0', iv p1, .unset, .unset, .unset] [(.int (0 : Int32))]))
      refine own_st (fun _ k => XS.ifYes X415.here hx rfl (pc0 := 166) (pc' := 185) rfl (hb hby at_166) rfl ((if0 _ _).trans (teq (by decide : ((0 : Int32) = (0 : Int32)))).1) (by decide) (by decide) k) ?_
      show own_Fin p e below G (T415.setTop (mkF m 185 #[iv p1, iv p2, iv p3, iv p4, iv p5, iv p6, iv (0 : Int32), iv (0 : Int32), iv e0', iv e1', iv e2', rv b352, rv b363, rv b374, rv b393, rv b396, iv e0', iv p1, .unset, .unset, .unset] []))
      refine own_st (fun _ k => XS.iload X415.here hx rfl (hb hby at_185) rfl  k) ?_
      show own_Fin p e below G (T415.setTop (mkF m 187 #[iv p1, iv p2, iv p3, iv p4, iv p5, iv p6, iv (0 : Int32), iv (0 : Int32), iv e0', iv e1', iv e2', rv b352, rv b363, rv b374, rv b393, rv b396, iv e0', iv p1, .unset, .unset, .unset] [(.int (0 : Int32))]))
      refine own_st (fun _ k => XS.ifNo X415.here hx rfl (hb hby at_187) rfl ((if0 _ _).trans (teq (by decide : ((0 : Int32) = (0 : Int32)))).2) k) ?_
      show own_Fin p e below G (T415.setTop (mkF m 190 #[iv p1, iv p2, iv p3, iv p4, iv p5, iv p6, iv (0 : Int32), iv (0 : Int32), iv e0', iv e1', iv e2', rv b352, rv b363, rv b374, rv b393, rv b396, iv e0', iv p1, .unset, .unset, .unset] []))
      refine own_st (fun _ k => XS.iload X415.here hx rfl (hb hby at_190) rfl  k) ?_
      show own_Fin p e below G (T415.setTop (mkF m 192 #[iv p1, iv p2, iv p3, iv p4, iv p5, iv p6, iv (0 : Int32), iv (0 : Int32), iv e0', iv e1', iv e2', rv b352, rv b363, rv b374, rv b393, rv b396, iv e0', iv p1, .unset, .unset, .unset] [(.int e0')]))
      refine own_st (fun _ k => XS.istore X415.here hx rfl (hb hby at_192) rfl (l' := #[iv p1, iv p2, iv p3, iv p4, iv p5, iv p6, iv (0 : Int32), iv (0 : Int32), iv e0', iv e1', iv e2', rv b352, rv b363, rv b374, rv b393, rv b396, iv e0', iv p1, iv e0', .unset, .unset]) rfl k) ?_
      show own_Fin p e below G (T415.setTop (mkF m 194 #[iv p1, iv p2, iv p3, iv p4, iv p5, iv p6, iv (0 : Int32), iv (0 : Int32), iv e0', iv e1', iv e2', rv b352, rv b363, rv b374, rv b393, rv b396, iv e0', iv p1, iv e0', .unset, .unset] []))
      refine own_st (fun _ k => XS.iloadN X415.here hx rfl (hb hby at_194) rfl  k) ?_
      show own_Fin p e below G (T415.setTop (mkF m 195 #[iv p1, iv p2, iv p3, iv p4, iv p5, iv p6, iv (0 : Int32), iv (0 : Int32), iv e0', iv e1', iv e2', rv b352, rv b363, rv b374, rv b393, rv b396, iv e0', iv p1, iv e0', .unset, .unset] [(.int p2)]))
      refine own_st (fun _ k => XS.istore X415.here hx rfl (hb hby at_195) rfl (l' := #[iv p1, iv p2, iv p3, iv p4, iv p5, iv p6, iv (0 : Int32), iv (0 : Int32), iv e0', iv e1', iv e2', rv b352, rv b363, rv b374, rv b393, rv b396, iv e0', iv p1, iv e0', iv p2, .unset]) rfl k) ?_
      show own_Fin p e below G (T415.setTop (mkF m 197 #[iv p1, iv p2, iv p3, iv p4, iv p5, iv p6, iv (0 : Int32), iv (0 : Int32), iv e0', iv e1', iv e2', rv b352, rv b363, rv b374, rv b393, rv b396, iv e0', iv p1, iv e0', iv p2, .unset] []))
      refine own_st (fun _ k => XS.goto X415.here hx rfl (pc0 := 197) (pc' := 223) rfl (hb hby at_197) (by decide) (by decide) k) ?_
      show own_Fin p e below G (T415.setTop (mkF m 223 #[iv p1, iv p2, iv p3, iv p4, iv p5, iv p6, iv (0 : Int32), iv (0 : Int32), iv e0', iv e1', iv e2', rv b352, rv b363, rv b374, rv b393, rv b396, iv e0', iv p1, iv e0', iv p2, .unset] []))
      refine own_st (fun _ k => XS.iload X415.here hx rfl (hb hby at_223) rfl  k) ?_
      show own_Fin p e below G (T415.setTop (mkF m 225 #[iv p1, iv p2, iv p3, iv p4, iv p5, iv p6, iv (0 : Int32), iv (0 : Int32), iv e0', iv e1', iv e2', rv b352, rv b363, rv b374, rv b393, rv b396, iv e0', iv p1, iv e0', iv p2, .unset] [(.int (0 : Int32))]))
      refine own_st (fun _ k => XS.iconst X415.here hx rfl (hb hby at_225) k) ?_
      show own_Fin p e below G (T415.setTop (mkF m 226 #[iv p1, iv p2, iv p3, iv p4, iv p5, iv p6, iv (0 : Int32), iv (0 : Int32), iv e0', iv e1', iv e2', rv b352, rv b363, rv b374, rv b393, rv b396, iv e0', iv p1, iv e0', iv p2, .unset] [(.int (2 : Int32)), (.int (0 : Int32))]))
      refine own_st (fun _ k => XS.icmpNo X415.here hx rfl (hb hby at_226) rfl (feq (by decide : ¬ ((0 : Int32) = (2 : Int32)))).1 k) ?_
      show own_Fin p e below G (T415.setTop (mkF m 229 #[iv p1, iv p2, iv p3, iv p4, iv p5, iv p6, iv (0 : Int32), iv (0 : Int32), iv e0', iv e1', iv e2', rv b352, rv b363, rv b374, rv b393, rv b396, iv e0', iv p1, iv e0', iv p2, .unset] []))
      refine own_st (fun _ k => XS.iload X415.here hx rfl (hb hby at_229) rfl  k) ?_
      show own_Fin p e below G (T415.setTop (mkF m 231 #[iv p1, iv p2, iv p3, iv p4, iv p5, iv p6, iv (0 : Int32), iv (0 : Int32), iv e0', iv e1', iv e2', rv b352, rv b363, rv b374, rv b393, rv b396, iv e0', iv p1, iv e0', iv p2, .unset] [(.int e0')]))
      refine own_st (fun _ k => XS.aload X415.here hx rfl (hb hby at_231) rfl rfl k) ?_
      show own_Fin p e below G (T415.setTop (mkF m 233 #[iv p1, iv p2, iv p3, iv p4, iv p5, iv p6, iv (0 : Int32), iv (0 : Int32), iv e0', iv e1', iv e2', rv b352, rv b363, rv b374, rv b393, rv b396, iv e0', iv p1, iv e0', iv p2, .unset] [(.ref b396), (.int e0')]))
      refine own_st (fun _ k => XS.iload X415.here hx rfl (hb hby at_233) rfl  k) ?_
      show own_Fin p e below G (T415.setTop (mkF m 235 #[iv p1, iv p2, iv p3, iv p4, iv p5, iv p6, iv (0 : Int32), iv (0 : Int32), iv e0', iv e1', iv e2', rv b352, rv b363, rv b374, rv b393, rv b396, iv e0', iv p1, iv e0', iv p2, .unset] [(.int (0 : Int32)), (.ref b396), (.int e0')]))
      refine own_st (fun _ k => XS.iconst X415.here hx rfl (hb hby at_235) k) ?_
      show own_Fin p e below G (T415.setTop (mkF m 236 #[iv p1, iv p2, iv p3, iv p4, iv p5, iv p6, iv (0 : Int32), iv (0 : Int32), iv e0', iv e1', iv e2', rv b352, rv b363, rv b374, rv b393, rv b396, iv e0', iv p1, iv e0', iv p2, .unset] [(.int (1 : Int32)), (.int (0 : Int32)), (.ref b396), (.int e0')]))
      refine own_st (fun _ k => XS.iadd X415.here hx rfl (hb hby at_236) rfl k) ?_
      show own_Fin p e below G (T415.setTop (mkF m 237 #[iv p1, iv p2, iv p3, iv p4, iv p5, iv p6, iv (0 : Int32), iv (0 : Int32), iv e0', iv e1', iv e2', rv b352, rv b363, rv b374, rv b393, rv b396, iv e0', iv p1, iv e0', iv p2, .unset] [(.int (1 : Int32)), (.ref b396), (.int e0')]))
      obtain ⟨cq416, kq416, q416a, q416b, q416c⟩ := isOf hZ e415 f412_4
      obtain ⟨_, _, ⟨T416, L416, k416, n416⟩, -, X416, ⟨Lc416, hQ416, l416, y416, z416⟩, st416⟩ := X415.virtualBack hx (y := own_y7) (z := own_y7) hown (mvT hZ (own_w hw 78 rfl)) (mvT hZ (own_w hw 79 rfl)) (notFace_of_selects (args := #[]) (mvT hZ (own_w hw 81 rfl))) (mvT hZ (own_w hw 81 rfl)) (mvT hZ (own_w hw 80 rfl)) (by decide) (backOf (W := 1) (rm_waitingStart1 l Z a0 hw [] b396 b374 p1 e0' e1' e2' T411.heap n0 (Nat.le_trans Z0 K413.1) gF411 f412_2) hZ (own_w hw 82 rfl) (own_w hw 32 rfl) (by decide) (by decide)) q416a q416c (g := (mkF m 237 #[iv p1, iv p2, iv p3, iv p4, iv p5, iv p6, iv (0 : Int32), iv (0 : Int32), iv e0', iv e1', iv e2', rv b352, rv b363, rv b374, rv b393, rv b396, iv e0', iv p1, iv e0', iv p2, .unset] [(.int (1 : Int32)), (.ref b396), (.int e0')])) rfl (by rw [hml]; rfl) (Steps.refl _) (argsL := [(.int (1 : Int32))]) (rest := [(.int e0')]) (lenOf pd__I_I_227 rfl) rfl (by show 2 * 0 + _ ≤ _; exact Nat.le_of_eq rfl) (hb hby at_237) (fun _ _ => ⟨rfl, e415, (by decide : 9 + 0 ≤ _), (by decide : 35 + 0 ≤ _)⟩)
      dsimp only [Pt.U, Pt.locs, Pt.cells, Pt.slots] at X416 l416 y416 z416 st416 hQ416
      subst l416 y416 z416
      obtain ⟨rfl, N416q, e416⟩ := hQ416
      skip
      have N416 := Fr.app N415 N416q
      refine own_tr st416 ?_
      show own_Fin p e below G (T416.setTop (mkF m 240 #[iv p1, iv p2, iv p3, iv p4, iv p5, iv p6, iv (0 : Int32), iv (0 : Int32), iv e0', iv e1', iv e2', rv b352, rv b363, rv b374, rv b393, rv b396, iv e0', iv p1, iv e0', iv p2, .unset] [(.int e0'), (.int e0')]))
      refine own_st (fun _ k => XS.icmpNo X416.here hx rfl (hb hby at_240) rfl (teq (rfl : e0' = e0')).2 k) ?_
      show own_Fin p e below G (T416.setTop (mkF m 243 #[iv p1, iv p2, iv p3, iv p4, iv p5, iv p6, iv (0 : Int32), iv (0 : Int32), iv e0', iv e1', iv e2', rv b352, rv b363, rv b374, rv b393, rv b396, iv e0', iv p1, iv e0', iv p2, .unset] []))
      refine own_st (fun _ k => XS.iconst X416.here hx rfl (hb hby at_243) k) ?_
      show own_Fin p e below G (T416.setTop (mkF m 244 #[iv p1, iv p2, iv p3, iv p4, iv p5, iv p6, iv (0 : Int32), iv (0 : Int32), iv e0', iv e1', iv e2', rv b352, rv b363, rv b374, rv b393, rv b396, iv e0', iv p1, iv e0', iv p2, .unset] [(.int (1 : Int32))]))
      refine own_st (fun _ k => XS.goto X416.here hx rfl (pc0 := 244) (pc' := 248) rfl (hb hby at_244) (by decide) (by decide) k) ?_
      show own_Fin p e below G (T416.setTop (mkF m 248 #[iv p1, iv p2, iv p3, iv p4, iv p5, iv p6, iv (0 : Int32), iv (0 : Int32), iv e0', iv e1', iv e2', rv b352, rv b363, rv b374, rv b393, rv b396, iv e0', iv p1, iv e0', iv p2, .unset] [(.int (1 : Int32))]))
      refine own_st (fun _ k => XS.istore X416.here hx rfl (hb hby at_248) rfl (l' := #[iv p1, iv p2, iv p3, iv p4, iv p5, iv p6, iv (0 : Int32), iv (0 : Int32), iv e0', iv e1', iv e2', rv b352, rv b363, rv b374, rv b393, rv b396, iv e0', iv p1, iv e0', iv p2, iv (1 : Int32)]) rfl k) ?_
      show own_Fin p e below G (T416.setTop (mkF m 250 #[iv p1, iv p2, iv p3, iv p4, iv p5, iv p6, iv (0 : Int32), iv (0 : Int32), iv e0', iv e1', iv e2', rv b352, rv b363, rv b374, rv b393, rv b396, iv e0', iv p1, iv e0', iv p2, iv (1 : Int32)] []))
      refine own_st (fun _ k => XS.iload X416.here hx rfl (hb hby at_250) rfl  k) ?_
      show own_Fin p e below G (T416.setTop (mkF m 252 #[iv p1, iv p2, iv p3, iv p4, iv p5, iv p6, iv (0 : Int32), iv (0 : Int32), iv e0', iv e1', iv e2', rv b352, rv b363, rv b374, rv b393, rv b396, iv e0', iv p1, iv e0', iv p2, iv (1 : Int32)] [(.int e0')]))
      refine own_st (fun _ k => XS.iload X416.here hx rfl (hb hby at_252) rfl  k) ?_
      show own_Fin p e below G (T416.setTop (mkF m 254 #[iv p1, iv p2, iv p3, iv p4, iv p5, iv p6, iv (0 : Int32), iv (0 : Int32), iv e0', iv e1', iv e2', rv b352, rv b363, rv b374, rv b393, rv b396, iv e0', iv p1, iv e0', iv p2, iv (1 : Int32)] [(.int e0'), (.int e0')]))
      refine own_st (fun _ k => XS.icmpNo X416.here hx rfl (hb hby at_254) rfl (teq (rfl : e0' = e0')).2 k) ?_
      show own_Fin p e below G (T416.setTop (mkF m 257 #[iv p1, iv p2, iv p3, iv p4, iv p5, iv p6, iv (0 : Int32), iv (0 : Int32), iv e0', iv e1', iv e2', rv b352, rv b363, rv b374, rv b393, rv b396, iv e0', iv p1, iv e0', iv p2, iv (1 : Int32)] []))
      refine own_st (fun _ k => XS.iload X416.here hx rfl (hb hby at_257) rfl  k) ?_
      show own_Fin p e below G (T416.setTop (mkF m 259 #[iv p1, iv p2, iv p3, iv p4, iv p5, iv p6, iv (0 : Int32), iv (0 : Int32), iv e0', iv e1', iv e2', rv b352, rv b363, rv b374, rv b393, rv b396, iv e0', iv p1, iv e0', iv p2, iv (1 : Int32)] [(.int e0')]))
      refine own_st (fun _ k => XS.iload X416.here hx rfl (hb hby at_259) rfl  k) ?_
      show own_Fin p e below G (T416.setTop (mkF m 261 #[iv p1, iv p2, iv p3, iv p4, iv p5, iv p6, iv (0 : Int32), iv (0 : Int32), iv e0', iv e1', iv e2', rv b352, rv b363, rv b374, rv b393, rv b396, iv e0', iv p1, iv e0', iv p2, iv (1 : Int32)] [(.int p1), (.int e0')]))
      refine own_st (fun _ k => XS.isub X416.here hx rfl (hb hby at_261) rfl k) ?_
      show own_Fin p e below G (T416.setTop (mkF m 262 #[iv p1, iv p2, iv p3, iv p4, iv p5, iv p6, iv (0 : Int32), iv (0 : Int32), iv e0', iv e1', iv e2', rv b352, rv b363, rv b374, rv b393, rv b396, iv e0', iv p1, iv e0', iv p2, iv (1 : Int32)] [(.int (e0' - p1))]))
      refine own_st (fun _ k => XS.iload X416.here hx rfl (hb hby at_262) rfl  k) ?_
      show own_Fin p e below G (T416.setTop (mkF m 264 #[iv p1, iv p2, iv p3, iv p4, iv p5, iv p6, iv (0 : Int32), iv (0 : Int32), iv e0', iv e1', iv e2', rv b352, rv b363, rv b374, rv b393, rv b396, iv e0', iv p1, iv e0', iv p2, iv (1 : Int32)] [(.int p2), (.int (e0' - p1))]))
      refine own_st (fun _ k => XS.icmpNo X416.here hx rfl (hb hby at_264) rfl (teq (own_sub e_e0')).2 k) ?_
      show own_Fin p e below G (T416.setTop (mkF m 267 #[iv p1, iv p2, iv p3, iv p4, iv p5, iv p6, iv (0 : Int32), iv (0 : Int32), iv e0', iv e1', iv e2', rv b352, rv b363, rv b374, rv b393, rv b396, iv e0', iv p1, iv e0', iv p2, iv (1 : Int32)] []))
      refine own_st (fun _ k => XS.iload X416.here hx rfl (hb hby at_267) rfl  k) ?_
      show own_Fin p e below G (T416.setTop (mkF m 269 #[iv p1, iv p2, iv p3, iv p4, iv p5, iv p6, iv (0 : Int32), iv (0 : Int32), iv e0', iv e1', iv e2', rv b352, rv b363, rv b374, rv b393, rv b396, iv e0', iv p1, iv e0', iv p2, iv (1 : Int32)] [(.int (1 : Int32))]))
      refine own_st (fun _ k => XS.ifNo X416.here hx rfl (hb hby at_269) rfl ((if0 _ _).trans (feq (by decide : ¬ ((1 : Int32) = (0 : Int32)))).1) k) ?_
      show own_Fin p e below G (T416.setTop (mkF m 272 #[iv p1, iv p2, iv p3, iv p4, iv p5, iv p6, iv (0 : Int32), iv (0 : Int32), iv e0', iv e1', iv e2', rv b352, rv b363, rv b374, rv b393, rv b396, iv e0', iv p1, iv e0', iv p2, iv (1 : Int32)] []))
      refine own_st (fun _ k => XS.iconst X416.here hx rfl (hb hby at_272) k) ?_
      show own_Fin p e below G (T416.setTop (mkF m 273 #[iv p1, iv p2, iv p3, iv p4, iv p5, iv p6, iv (0 : Int32), iv (0 : Int32), iv e0', iv e1', iv e2', rv b352, rv b363, rv b374, rv b393, rv b396, iv e0', iv p1, iv e0', iv p2, iv (1 : Int32)] [(.int (1 : Int32))]))
      refine own_st (fun _ k => XS.goto X416.here hx rfl (pc0 := 273) (pc' := 277) rfl (hb hby at_273) (by decide) (by decide) k) ?_
      show own_Fin p e below G (T416.setTop (mkF m 277 #[iv p1, iv p2, iv p3, iv p4, iv p5, iv p6, iv (0 : Int32), iv (0 : Int32), iv e0', iv e1', iv e2', rv b352, rv b363, rv b374, rv b393, rv b396, iv e0', iv p1, iv e0', iv p2, iv (1 : Int32)] [(.int (1 : Int32))]))
      refine own_out X416 Bd.notSynchronized (v := (some (.int (1 : Int32)))) (fun h => by rw [Bd.returns] at h; cases h) hG (fun fs hr => retN X416 hx (t := .boolean) Bd.returns (by simp) (hb hby at_277) hr) (by decide) (by decide) ?_
      exact ⟨rfl, N416⟩
    · show own_Fin p e below G (T411.setTop (mkF m 146 #[iv p1, iv p2, iv p3, iv p4, iv p5, iv p6, iv (1 : Int32), iv (0 : Int32), iv e0', iv e1', iv e2', rv b352, rv b363, rv b374, rv b393, rv b396, .unset, .unset, .unset, .unset, .unset] []))
      refine own_st (fun _ k => XS.aload X411.here hx rfl (hb hby at_146) rfl rfl k) ?_
      show own_Fin p e below G (T411.setTop (mkF m 148 #[iv p1, iv p2, iv p3, iv p4, iv p5, iv p6, iv (1 : Int32), iv (0 : Int32), iv e0', iv e1', iv e2', rv b352, rv b363, rv b374, rv b393, rv b396, .unset, .unset, .unset, .unset, .unset] [(.ref b396)]))
      refine own_st (fun _ k => XS.iload X411.here hx rfl (hb hby at_148) rfl  k) ?_
      show own_Fin p e below G (T411.setTop (mkF m 150 #[iv p1, iv p2, iv p3, iv p4, iv p5, iv p6, iv (1 : Int32), iv (0 : Int32), iv e0', iv e1', iv e2', rv b352, rv b363, rv b374, rv b393, rv b396, .unset, .unset, .unset, .unset, .unset] [(.int (1 : Int32)), (.ref b396)]))
      obtain ⟨cq417, kq417, q417a, q417b, q417c⟩ := isOf hZ rfl f412_4
      obtain ⟨_, _, ⟨T417, L417, k417, n417⟩, -, X417, ⟨Lc417, hQ417, l417, y417, z417⟩, st417⟩ := X411.virtualBack hx (y := own_y6) (z := own_y6) hown (mvT hZ (own_w hw 73 rfl)) (mvT hZ (own_w hw 74 rfl)) (notFace_of_selects (args := #[]) (mvT hZ (own_w hw 76 rfl))) (mvT hZ (own_w hw 76 rfl)) (mvT hZ (own_w hw 75 rfl)) (by decide) (backOf (W := 0) (rm_waitingEnd1 l Z a0 hw [] b396 b374 p1 e0' e1' e2' T411.heap n0 (Nat.le_trans Z0 K413.1) gF411 f412_2) hZ (own_w hw 77 rfl) (own_w hw 32 rfl) (by decide) (by decide)) q417a q417c (g := (mkF m 150 #[iv p1, iv p2, iv p3, iv p4, iv p5, iv p6, iv (1 : Int32), iv (0 : Int32), iv e0', iv e1', iv e2', rv b352, rv b363, rv b374, rv b393, rv b396, .unset, .unset, .unset, .unset, .unset] [(.int (1 : Int32)), (.ref b396)])) rfl (by rw [hml]; rfl) (Steps.refl _) (argsL := [(.int (1 : Int32))]) (rest := []) (lenOf pd__I_I_227 rfl) rfl (by show 2 * 0 + _ ≤ _; exact Nat.le_of_eq rfl) (hb hby at_150) (fun _ _ => ⟨rfl, rfl, (by decide : 9 + 0 ≤ _), (by decide : 35 + 0 ≤ _)⟩)
      dsimp only [Pt.U, Pt.locs, Pt.cells, Pt.slots] at X417 l417 y417 z417 st417 hQ417
      subst l417 y417 z417
      obtain ⟨rfl, N417q, e417⟩ := hQ417
      skip
      have N417 := Fr.app N411 N417q
      refine own_tr st417 ?_
      show own_Fin p e below G (T417.setTop (mkF m 153 #[iv p1, iv p2, iv p3, iv p4, iv p5, iv p6, iv (1 : Int32), iv (0 : Int32), iv e0', iv e1', iv e2', rv b352, rv b363, rv b374, rv b393, rv b396, .unset, .unset, .unset, .unset, .unset] [(.int e1')]))
      refine own_st (fun _ k => XS.istore X417.here hx rfl (hb hby at_153) rfl (l' := #[iv p1, iv p2, iv p3, iv p4, iv p5, iv p6, iv (1 : Int32), iv (0 : Int32), iv e0', iv e1', iv e2', rv b352, rv b363, rv b374, rv b393, rv b396, iv e1', .unset, .unset, .unset, .unset]) rfl k) ?_
      show own_Fin p e below G (T417.setTop (mkF m 155 #[iv p1, iv p2, iv p3, iv p4, iv p5, iv p6, iv (1 : Int32), iv (0 : Int32), iv e0', iv e1', iv e2', rv b352, rv b363, rv b374, rv b393, rv b396, iv e1', .unset, .unset, .unset, .unset] []))
      refine own_st (fun _ k => XS.aload X417.here hx rfl (hb hby at_155) rfl rfl k) ?_
      show own_Fin p e below G (T417.setTop (mkF m 157 #[iv p1, iv p2, iv p3, iv p4, iv p5, iv p6, iv (1 : Int32), iv (0 : Int32), iv e0', iv e1', iv e2', rv b352, rv b363, rv b374, rv b393, rv b396, iv e1', .unset, .unset, .unset, .unset] [(.ref b396)]))
      refine own_st (fun _ k => XS.iload X417.here hx rfl (hb hby at_157) rfl  k) ?_
      show own_Fin p e below G (T417.setTop (mkF m 159 #[iv p1, iv p2, iv p3, iv p4, iv p5, iv p6, iv (1 : Int32), iv (0 : Int32), iv e0', iv e1', iv e2', rv b352, rv b363, rv b374, rv b393, rv b396, iv e1', .unset, .unset, .unset, .unset] [(.int (1 : Int32)), (.ref b396)]))
      obtain ⟨cq418, kq418, q418a, q418b, q418c⟩ := isOf hZ e417 f412_4
      obtain ⟨_, _, ⟨T418, L418, k418, n418⟩, -, X418, ⟨Lc418, hQ418, l418, y418, z418⟩, st418⟩ := X417.virtualBack hx (y := own_y7) (z := own_y7) hown (mvT hZ (own_w hw 78 rfl)) (mvT hZ (own_w hw 79 rfl)) (notFace_of_selects (args := #[]) (mvT hZ (own_w hw 81 rfl))) (mvT hZ (own_w hw 81 rfl)) (mvT hZ (own_w hw 80 rfl)) (by decide) (backOf (W := 0) (rm_waitingStart1 l Z a0 hw [] b396 b374 p1 e0' e1' e2' T411.heap n0 (Nat.le_trans Z0 K413.1) gF411 f412_2) hZ (own_w hw 82 rfl) (own_w hw 32 rfl) (by decide) (by decide)) q418a q418c (g := (mkF m 159 #[iv p1, iv p2, iv p3, iv p4, iv p5, iv p6, iv (1 : Int32), iv (0 : Int32), iv e0', iv e1', iv e2', rv b352, rv b363, rv b374, rv b393, rv b396, iv e1', .unset, .unset, .unset, .unset] [(.int (1 : Int32)), (.ref b396)])) rfl (by rw [hml]; rfl) (Steps.refl _) (argsL := [(.int (1 : Int32))]) (rest := []) (lenOf pd__I_I_227 rfl) rfl (by show 2 * 0 + _ ≤ _; exact Nat.le_of_eq rfl) (hb hby at_159) (fun _ _ => ⟨rfl, e417, (by decide : 9 + 0 ≤ _), (by decide : 35 + 0 ≤ _)⟩)
      dsimp only [Pt.U, Pt.locs, Pt.cells, Pt.slots] at X418 l418 y418 z418 st418 hQ418
      subst l418 y418 z418
      obtain ⟨rfl, N418q, e418⟩ := hQ418
      skip
      have N418 := Fr.app N417 N418q
      refine own_tr st418 ?_
      show own_Fin p e below G (T418.setTop (mkF m 162 #[iv p1, iv p2, iv p3, iv p4, iv p5, iv p6, iv (1 : Int32), iv (0 : Int32), iv e0', iv e1', iv e2', rv b352, rv b363, rv b374, rv b393, rv b396, iv e1', .unset, .unset, .unset, .unset] [(.int e0')]))
      refine own_st (fun _ k => XS.istore X418.here hx rfl (hb hby at_162) rfl (l' := #[iv p1, iv p2, iv p3, iv p4, iv p5, iv p6, iv (1 : Int32), iv (0 : Int32), iv e0', iv e1', iv e2', rv b352, rv b363, rv b374, rv b393, rv b396, iv e1', iv e0', .unset, .unset, .unset]) rfl k) ?_
      show own_Fin p e below G (T418.setTop (mkF m 164 #[iv p1, iv p2, iv p3, iv p4, iv p5, iv p6, iv (1 : Int32), iv (0 : Int32), iv e0', iv e1', iv e2', rv b352, rv b363, rv b374, rv b393, rv b396, iv e1', iv e0', .unset, .unset, .unset] []))
      refine own_st (fun _ k => XS.iload X418.here hx rfl (hb hby at_164) rfl  k) ?_
      show own_Fin p e below G (T418.setTop (mkF m 166 #[iv p1, iv p2, iv p3, iv p4, iv p5, iv p6, iv (1 : Int32), iv (0 : Int32), iv e0', iv e1', iv e2', rv b352, rv b363, rv b374, rv b393, rv b396, iv e1', iv e0', .unset, .unset, .unset] [(.int (0 : Int32))]))
      refine own_st (fun _ k => XS.ifYes X418.here hx rfl (pc0 := 166) (pc' := 185) rfl (hb hby at_166) rfl ((if0 _ _).trans (teq (by decide : ((0 : Int32) = (0 : Int32)))).1) (by decide) (by decide) k) ?_
      show own_Fin p e below G (T418.setTop (mkF m 185 #[iv p1, iv p2, iv p3, iv p4, iv p5, iv p6, iv (1 : Int32), iv (0 : Int32), iv e0', iv e1', iv e2', rv b352, rv b363, rv b374, rv b393, rv b396, iv e1', iv e0', .unset, .unset, .unset] []))
      refine own_st (fun _ k => XS.iload X418.here hx rfl (hb hby at_185) rfl  k) ?_
      show own_Fin p e below G (T418.setTop (mkF m 187 #[iv p1, iv p2, iv p3, iv p4, iv p5, iv p6, iv (1 : Int32), iv (0 : Int32), iv e0', iv e1', iv e2', rv b352, rv b363, rv b374, rv b393, rv b396, iv e1', iv e0', .unset, .unset, .unset] [(.int (1 : Int32))]))
      refine own_st (fun _ k => XS.ifYes X418.here hx rfl (pc0 := 187) (pc' := 200) rfl (hb hby at_187) rfl ((if0 _ _).trans (feq (by decide : ¬ ((1 : Int32) = (0 : Int32)))).2) (by decide) (by decide) k) ?_
      show own_Fin p e below G (T418.setTop (mkF m 200 #[iv p1, iv p2, iv p3, iv p4, iv p5, iv p6, iv (1 : Int32), iv (0 : Int32), iv e0', iv e1', iv e2', rv b352, rv b363, rv b374, rv b393, rv b396, iv e1', iv e0', .unset, .unset, .unset] []))
      refine own_st (fun _ k => XS.iload X418.here hx rfl (hb hby at_200) rfl  k) ?_
      show own_Fin p e below G (T418.setTop (mkF m 202 #[iv p1, iv p2, iv p3, iv p4, iv p5, iv p6, iv (1 : Int32), iv (0 : Int32), iv e0', iv e1', iv e2', rv b352, rv b363, rv b374, rv b393, rv b396, iv e1', iv e0', .unset, .unset, .unset] [(.int (1 : Int32))]))
      refine own_st (fun _ k => XS.iconst X418.here hx rfl (hb hby at_202) k) ?_
      show own_Fin p e below G (T418.setTop (mkF m 203 #[iv p1, iv p2, iv p3, iv p4, iv p5, iv p6, iv (1 : Int32), iv (0 : Int32), iv e0', iv e1', iv e2', rv b352, rv b363, rv b374, rv b393, rv b396, iv e1', iv e0', .unset, .unset, .unset] [(.int (1 : Int32)), (.int (1 : Int32))]))
      refine own_st (fun _ k => XS.icmpNo X418.here hx rfl (hb hby at_203) rfl (teq (by decide : ((1 : Int32) = (1 : Int32)))).2 k) ?_
      show own_Fin p e below G (T418.setTop (mkF m 206 #[iv p1, iv p2, iv p3, iv p4, iv p5, iv p6, iv (1 : Int32), iv (0 : Int32), iv e0', iv e1', iv e2', rv b352, rv b363, rv b374, rv b393, rv b396, iv e1', iv e0', .unset, .unset, .unset] []))
      refine own_st (fun _ k => XS.iload X418.here hx rfl (hb hby at_206) rfl  k) ?_
      show own_Fin p e below G (T418.setTop (mkF m 208 #[iv p1, iv p2, iv p3, iv p4, iv p5, iv p6, iv (1 : Int32), iv (0 : Int32), iv e0', iv e1', iv e2', rv b352, rv b363, rv b374, rv b393, rv b396, iv e1', iv e0', .unset, .unset, .unset] [(.int e1')]))
      refine own_st (fun _ k => XS.istore X418.here hx rfl (hb hby at_208) rfl (l' := #[iv p1, iv p2, iv p3, iv p4, iv p5, iv p6, iv (1 : Int32), iv (0 : Int32), iv e0', iv e1', iv e2', rv b352, rv b363, rv b374, rv b393, rv b396, iv e1', iv e0', iv e1', .unset, .unset]) rfl k) ?_
      show own_Fin p e below G (T418.setTop (mkF m 210 #[iv p1, iv p2, iv p3, iv p4, iv p5, iv p6, iv (1 : Int32), iv (0 : Int32), iv e0', iv e1', iv e2', rv b352, rv b363, rv b374, rv b393, rv b396, iv e1', iv e0', iv e1', .unset, .unset] []))
      refine own_st (fun _ k => XS.iloadN X418.here hx rfl (hb hby at_210) rfl  k) ?_
      show own_Fin p e below G (T418.setTop (mkF m 211 #[iv p1, iv p2, iv p3, iv p4, iv p5, iv p6, iv (1 : Int32), iv (0 : Int32), iv e0', iv e1', iv e2', rv b352, rv b363, rv b374, rv b393, rv b396, iv e1', iv e0', iv e1', .unset, .unset] [(.int p3)]))
      refine own_st (fun _ k => XS.istore X418.here hx rfl (hb hby at_211) rfl (l' := #[iv p1, iv p2, iv p3, iv p4, iv p5, iv p6, iv (1 : Int32), iv (0 : Int32), iv e0', iv e1', iv e2', rv b352, rv b363, rv b374, rv b393, rv b396, iv e1', iv e0', iv e1', iv p3, .unset]) rfl k) ?_
      show own_Fin p e below G (T418.setTop (mkF m 213 #[iv p1, iv p2, iv p3, iv p4, iv p5, iv p6, iv (1 : Int32), iv (0 : Int32), iv e0', iv e1', iv e2', rv b352, rv b363, rv b374, rv b393, rv b396, iv e1', iv e0', iv e1', iv p3, .unset] []))
      refine own_st (fun _ k => XS.goto X418.here hx rfl (pc0 := 213) (pc' := 223) rfl (hb hby at_213) (by decide) (by decide) k) ?_
      show own_Fin p e below G (T418.setTop (mkF m 223 #[iv p1, iv p2, iv p3, iv p4, iv p5, iv p6, iv (1 : Int32), iv (0 : Int32), iv e0', iv e1', iv e2', rv b352, rv b363, rv b374, rv b393, rv b396, iv e1', iv e0', iv e1', iv p3, .unset] []))
      refine own_st (fun _ k => XS.iload X418.here hx rfl (hb hby at_223) rfl  k) ?_
      show own_Fin p e below G (T418.setTop (mkF m 225 #[iv p1, iv p2, iv p3, iv p4, iv p5, iv p6, iv (1 : Int32), iv (0 : Int32), iv e0', iv e1', iv e2', rv b352, rv b363, rv b374, rv b393, rv b396, iv e1', iv e0', iv e1', iv p3, .unset] [(.int (1 : Int32))]))
      refine own_st (fun _ k => XS.iconst X418.here hx rfl (hb hby at_225) k) ?_
      show own_Fin p e below G (T418.setTop (mkF m 226 #[iv p1, iv p2, iv p3, iv p4, iv p5, iv p6, iv (1 : Int32), iv (0 : Int32), iv e0', iv e1', iv e2', rv b352, rv b363, rv b374, rv b393, rv b396, iv e1', iv e0', iv e1', iv p3, .unset] [(.int (2 : Int32)), (.int (1 : Int32))]))
      refine own_st (fun _ k => XS.icmpNo X418.here hx rfl (hb hby at_226) rfl (feq (by decide : ¬ ((1 : Int32) = (2 : Int32)))).1 k) ?_
      show own_Fin p e below G (T418.setTop (mkF m 229 #[iv p1, iv p2, iv p3, iv p4, iv p5, iv p6, iv (1 : Int32), iv (0 : Int32), iv e0', iv e1', iv e2', rv b352, rv b363, rv b374, rv b393, rv b396, iv e1', iv e0', iv e1', iv p3, .unset] []))
      refine own_st (fun _ k => XS.iload X418.here hx rfl (hb hby at_229) rfl  k) ?_
      show own_Fin p e below G (T418.setTop (mkF m 231 #[iv p1, iv p2, iv p3, iv p4, iv p5, iv p6, iv (1 : Int32), iv (0 : Int32), iv e0', iv e1', iv e2', rv b352, rv b363, rv b374, rv b393, rv b396, iv e1', iv e0', iv e1', iv p3, .unset] [(.int e1')]))
      refine own_st (fun _ k => XS.aload X418.here hx rfl (hb hby at_231) rfl rfl k) ?_
      show own_Fin p e below G (T418.setTop (mkF m 233 #[iv p1, iv p2, iv p3, iv p4, iv p5, iv p6, iv (1 : Int32), iv (0 : Int32), iv e0', iv e1', iv e2', rv b352, rv b363, rv b374, rv b393, rv b396, iv e1', iv e0', iv e1', iv p3, .unset] [(.ref b396), (.int e1')]))
      refine own_st (fun _ k => XS.iload X418.here hx rfl (hb hby at_233) rfl  k) ?_
      show own_Fin p e below G (T418.setTop (mkF m 235 #[iv p1, iv p2, iv p3, iv p4, iv p5, iv p6, iv (1 : Int32), iv (0 : Int32), iv e0', iv e1', iv e2', rv b352, rv b363, rv b374, rv b393, rv b396, iv e1', iv e0', iv e1', iv p3, .unset] [(.int (1 : Int32)), (.ref b396), (.int e1')]))
      refine own_st (fun _ k => XS.iconst X418.here hx rfl (hb hby at_235) k) ?_
      show own_Fin p e below G (T418.setTop (mkF m 236 #[iv p1, iv p2, iv p3, iv p4, iv p5, iv p6, iv (1 : Int32), iv (0 : Int32), iv e0', iv e1', iv e2', rv b352, rv b363, rv b374, rv b393, rv b396, iv e1', iv e0', iv e1', iv p3, .unset] [(.int (1 : Int32)), (.int (1 : Int32)), (.ref b396), (.int e1')]))
      refine own_st (fun _ k => XS.iadd X418.here hx rfl (hb hby at_236) rfl k) ?_
      show own_Fin p e below G (T418.setTop (mkF m 237 #[iv p1, iv p2, iv p3, iv p4, iv p5, iv p6, iv (1 : Int32), iv (0 : Int32), iv e0', iv e1', iv e2', rv b352, rv b363, rv b374, rv b393, rv b396, iv e1', iv e0', iv e1', iv p3, .unset] [(.int (2 : Int32)), (.ref b396), (.int e1')]))
      obtain ⟨cq419, kq419, q419a, q419b, q419c⟩ := isOf hZ e418 f412_4
      obtain ⟨_, _, ⟨T419, L419, k419, n419⟩, -, X419, ⟨Lc419, hQ419, l419, y419, z419⟩, st419⟩ := X418.virtualBack hx (y := own_y7) (z := own_y7) hown (mvT hZ (own_w hw 78 rfl)) (mvT hZ (own_w hw 79 rfl)) (notFace_of_selects (args := #[]) (mvT hZ (own_w hw 81 rfl))) (mvT hZ (own_w hw 81 rfl)) (mvT hZ (own_w hw 80 rfl)) (by decide) (backOf (W := 1) (rm_waitingStart2 l Z a0 hw [] b396 b374 p1 e0' e1' e2' T411.heap n0 (Nat.le_trans Z0 K413.1) gF411 f412_2) hZ (own_w hw 82 rfl) (own_w hw 32 rfl) (by decide) (by decide)) q419a q419c (g := (mkF m 237 #[iv p1, iv p2, iv p3, iv p4, iv p5, iv p6, iv (1 : Int32), iv (0 : Int32), iv e0', iv e1', iv e2', rv b352, rv b363, rv b374, rv b393, rv b396, iv e1', iv e0', iv e1', iv p3, .unset] [(.int (2 : Int32)), (.ref b396), (.int e1')])) rfl (by rw [hml]; rfl) (Steps.refl _) (argsL := [(.int (2 : Int32))]) (rest := [(.int e1')]) (lenOf pd__I_I_227 rfl) rfl (by show 2 * 0 + _ ≤ _; exact Nat.le_of_eq rfl) (hb hby at_237) (fun _ _ => ⟨rfl, e418, (by decide : 9 + 0 ≤ _), (by decide : 35 + 0 ≤ _)⟩)
      dsimp only [Pt.U, Pt.locs, Pt.cells, Pt.slots] at X419 l419 y419 z419 st419 hQ419
      subst l419 y419 z419
      obtain ⟨rfl, N419q, e419⟩ := hQ419
      skip
      have N419 := Fr.app N418 N419q
      refine own_tr st419 ?_
      show own_Fin p e below G (T419.setTop (mkF m 240 #[iv p1, iv p2, iv p3, iv p4, iv p5, iv p6, iv (1 : Int32), iv (0 : Int32), iv e0', iv e1', iv e2', rv b352, rv b363, rv b374, rv b393, rv b396, iv e1', iv e0', iv e1', iv p3, .unset] [(.int e1'), (.int e1')]))
      refine own_st (fun _ k => XS.icmpNo X419.here hx rfl (hb hby at_240) rfl (teq (rfl : e1' = e1')).2 k) ?_
      show own_Fin p e below G (T419.setTop (mkF m 243 #[iv p1, iv p2, iv p3, iv p4, iv p5, iv p6, iv (1 : Int32), iv (0 : Int32), iv e0', iv e1', iv e2', rv b352, rv b363, rv b374, rv b393, rv b396, iv e1', iv e0', iv e1', iv p3, .unset] []))
      refine own_st (fun _ k => XS.iconst X419.here hx rfl (hb hby at_243) k) ?_
      show own_Fin p e below G (T419.setTop (mkF m 244 #[iv p1, iv p2, iv p3, iv p4, iv p5, iv p6, iv (1 : Int32), iv (0 : Int32), iv e0', iv e1', iv e2', rv b352, rv b363, rv b374, rv b393, rv b396, iv e1', iv e0', iv e1', iv p3, .unset] [(.int (1 : Int32))]))
      refine own_st (fun _ k => XS.goto X419.here hx rfl (pc0 := 244) (pc' := 248) rfl (hb hby at_244) (by decide) (by decide) k) ?_
      show own_Fin p e below G (T419.setTop (mkF m 248 #[iv p1, iv p2, iv p3, iv p4, iv p5, iv p6, iv (1 : Int32), iv (0 : Int32), iv e0', iv e1', iv e2', rv b352, rv b363, rv b374, rv b393, rv b396, iv e1', iv e0', iv e1', iv p3, .unset] [(.int (1 : Int32))]))
      refine own_st (fun _ k => XS.istore X419.here hx rfl (hb hby at_248) rfl (l' := #[iv p1, iv p2, iv p3, iv p4, iv p5, iv p6, iv (1 : Int32), iv (0 : Int32), iv e0', iv e1', iv e2', rv b352, rv b363, rv b374, rv b393, rv b396, iv e1', iv e0', iv e1', iv p3, iv (1 : Int32)]) rfl k) ?_
      show own_Fin p e below G (T419.setTop (mkF m 250 #[iv p1, iv p2, iv p3, iv p4, iv p5, iv p6, iv (1 : Int32), iv (0 : Int32), iv e0', iv e1', iv e2', rv b352, rv b363, rv b374, rv b393, rv b396, iv e1', iv e0', iv e1', iv p3, iv (1 : Int32)] []))
      refine own_st (fun _ k => XS.iload X419.here hx rfl (hb hby at_250) rfl  k) ?_
      show own_Fin p e below G (T419.setTop (mkF m 252 #[iv p1, iv p2, iv p3, iv p4, iv p5, iv p6, iv (1 : Int32), iv (0 : Int32), iv e0', iv e1', iv e2', rv b352, rv b363, rv b374, rv b393, rv b396, iv e1', iv e0', iv e1', iv p3, iv (1 : Int32)] [(.int e1')]))
      refine own_st (fun _ k => XS.iload X419.here hx rfl (hb hby at_252) rfl  k) ?_
      show own_Fin p e below G (T419.setTop (mkF m 254 #[iv p1, iv p2, iv p3, iv p4, iv p5, iv p6, iv (1 : Int32), iv (0 : Int32), iv e0', iv e1', iv e2', rv b352, rv b363, rv b374, rv b393, rv b396, iv e1', iv e0', iv e1', iv p3, iv (1 : Int32)] [(.int e1'), (.int e1')]))
      refine own_st (fun _ k => XS.icmpNo X419.here hx rfl (hb hby at_254) rfl (teq (rfl : e1' = e1')).2 k) ?_
      show own_Fin p e below G (T419.setTop (mkF m 257 #[iv p1, iv p2, iv p3, iv p4, iv p5, iv p6, iv (1 : Int32), iv (0 : Int32), iv e0', iv e1', iv e2', rv b352, rv b363, rv b374, rv b393, rv b396, iv e1', iv e0', iv e1', iv p3, iv (1 : Int32)] []))
      refine own_st (fun _ k => XS.iload X419.here hx rfl (hb hby at_257) rfl  k) ?_
      show own_Fin p e below G (T419.setTop (mkF m 259 #[iv p1, iv p2, iv p3, iv p4, iv p5, iv p6, iv (1 : Int32), iv (0 : Int32), iv e0', iv e1', iv e2', rv b352, rv b363, rv b374, rv b393, rv b396, iv e1', iv e0', iv e1', iv p3, iv (1 : Int32)] [(.int e1')]))
      refine own_st (fun _ k => XS.iload X419.here hx rfl (hb hby at_259) rfl  k) ?_
      show own_Fin p e below G (T419.setTop (mkF m 261 #[iv p1, iv p2, iv p3, iv p4, iv p5, iv p6, iv (1 : Int32), iv (0 : Int32), iv e0', iv e1', iv e2', rv b352, rv b363, rv b374, rv b393, rv b396, iv e1', iv e0', iv e1', iv p3, iv (1 : Int32)] [(.int e0'), (.int e1')]))
      refine own_st (fun _ k => XS.isub X419.here hx rfl (hb hby at_261) rfl k) ?_
      show own_Fin p e below G (T419.setTop (mkF m 262 #[iv p1, iv p2, iv p3, iv p4, iv p5, iv p6, iv (1 : Int32), iv (0 : Int32), iv e0', iv e1', iv e2', rv b352, rv b363, rv b374, rv b393, rv b396, iv e1', iv e0', iv e1', iv p3, iv (1 : Int32)] [(.int (e1' - e0'))]))
      refine own_st (fun _ k => XS.iload X419.here hx rfl (hb hby at_262) rfl  k) ?_
      show own_Fin p e below G (T419.setTop (mkF m 264 #[iv p1, iv p2, iv p3, iv p4, iv p5, iv p6, iv (1 : Int32), iv (0 : Int32), iv e0', iv e1', iv e2', rv b352, rv b363, rv b374, rv b393, rv b396, iv e1', iv e0', iv e1', iv p3, iv (1 : Int32)] [(.int p3), (.int (e1' - e0'))]))
      refine own_st (fun _ k => XS.icmpNo X419.here hx rfl (hb hby at_264) rfl (teq (own_sub e_e1')).2 k) ?_
      show own_Fin p e below G (T419.setTop (mkF m 267 #[iv p1, iv p2, iv p3, iv p4, iv p5, iv p6, iv (1 : Int32), iv (0 : Int32), iv e0', iv e1', iv e2', rv b352, rv b363, rv b374, rv b393, rv b396, iv e1', iv e0', iv e1', iv p3, iv (1 : Int32)] []))
      refine own_st (fun _ k => XS.iload X419.here hx rfl (hb hby at_267) rfl  k) ?_
      show own_Fin p e below G (T419.setTop (mkF m 269 #[iv p1, iv p2, iv p3, iv p4, iv p5, iv p6, iv (1 : Int32), iv (0 : Int32), iv e0', iv e1', iv e2', rv b352, rv b363, rv b374, rv b393, rv b396, iv e1', iv e0', iv e1', iv p3, iv (1 : Int32)] [(.int (1 : Int32))]))
      refine own_st (fun _ k => XS.ifNo X419.here hx rfl (hb hby at_269) rfl ((if0 _ _).trans (feq (by decide : ¬ ((1 : Int32) = (0 : Int32)))).1) k) ?_
      show own_Fin p e below G (T419.setTop (mkF m 272 #[iv p1, iv p2, iv p3, iv p4, iv p5, iv p6, iv (1 : Int32), iv (0 : Int32), iv e0', iv e1', iv e2', rv b352, rv b363, rv b374, rv b393, rv b396, iv e1', iv e0', iv e1', iv p3, iv (1 : Int32)] []))
      refine own_st (fun _ k => XS.iconst X419.here hx rfl (hb hby at_272) k) ?_
      show own_Fin p e below G (T419.setTop (mkF m 273 #[iv p1, iv p2, iv p3, iv p4, iv p5, iv p6, iv (1 : Int32), iv (0 : Int32), iv e0', iv e1', iv e2', rv b352, rv b363, rv b374, rv b393, rv b396, iv e1', iv e0', iv e1', iv p3, iv (1 : Int32)] [(.int (1 : Int32))]))
      refine own_st (fun _ k => XS.goto X419.here hx rfl (pc0 := 273) (pc' := 277) rfl (hb hby at_273) (by decide) (by decide) k) ?_
      show own_Fin p e below G (T419.setTop (mkF m 277 #[iv p1, iv p2, iv p3, iv p4, iv p5, iv p6, iv (1 : Int32), iv (0 : Int32), iv e0', iv e1', iv e2', rv b352, rv b363, rv b374, rv b393, rv b396, iv e1', iv e0', iv e1', iv p3, iv (1 : Int32)] [(.int (1 : Int32))]))
      refine own_out X419 Bd.notSynchronized (v := (some (.int (1 : Int32)))) (fun h => by rw [Bd.returns] at h; cases h) hG (fun fs hr => retN X419 hx (t := .boolean) Bd.returns (by simp) (hb hby at_277) hr) (by decide) (by decide) ?_
      exact ⟨rfl, N419⟩
    · show own_Fin p e below G (T411.setTop (mkF m 146 #[iv p1, iv p2, iv p3, iv p4, iv p5, iv p6, iv (2 : Int32), iv (0 : Int32), iv e0', iv e1', iv e2', rv b352, rv b363, rv b374, rv b393, rv b396, .unset, .unset, .unset, .unset, .unset] []))
      refine own_st (fun _ k => XS.aload X411.here hx rfl (hb hby at_146) rfl rfl k) ?_
      show own_Fin p e below G (T411.setTop (mkF m 148 #[iv p1, iv p2, iv p3, iv p4, iv p5, iv p6, iv (2 : Int32), iv (0 : Int32), iv e0', iv e1', iv e2', rv b352, rv b363, rv b374, rv b393, rv b396, .unset, .unset, .unset, .unset, .unset] [(.ref b396)]))
      refine own_st (fun _ k => XS.iload X411.here hx rfl (hb hby at_148) rfl  k) ?_
      show own_Fin p e below G (T411.setTop (mkF m 150 #[iv p1, iv p2, iv p3, iv p4, iv p5, iv p6, iv (2 : Int32), iv (0 : Int32), iv e0', iv e1', iv e2', rv b352, rv b363, rv b374, rv b393, rv b396, .unset, .unset, .unset, .unset, .unset] [(.int (2 : Int32)), (.ref b396)]))
      obtain ⟨cq420, kq420, q420a, q420b, q420c⟩ := isOf hZ rfl f412_4
      obtain ⟨_, _, ⟨T420, L420, k420, n420⟩, -, X420, ⟨Lc420, hQ420, l420, y420, z420⟩, st420⟩ := X411.virtualBack hx (y := own_y6) (z := own_y6) hown (mvT hZ (own_w hw 73 rfl)) (mvT hZ (own_w hw 74 rfl)) (notFace_of_selects (args := #[]) (mvT hZ (own_w hw 76 rfl))) (mvT hZ (own_w hw 76 rfl)) (mvT hZ (own_w hw 75 rfl)) (by decide) (backOf (W := 0) (rm_waitingEnd2 l Z a0 hw [] b396 b374 p1 e0' e1' e2' T411.heap n0 (Nat.le_trans Z0 K413.1) gF411 f412_2) hZ (own_w hw 77 rfl) (own_w hw 32 rfl) (by decide) (by decide)) q420a q420c (g := (mkF m 150 #[iv p1, iv p2, iv p3, iv p4, iv p5, iv p6, iv (2 : Int32), iv (0 : Int32), iv e0', iv e1', iv e2', rv b352, rv b363, rv b374, rv b393, rv b396, .unset, .unset, .unset, .unset, .unset] [(.int (2 : Int32)), (.ref b396)])) rfl (by rw [hml]; rfl) (Steps.refl _) (argsL := [(.int (2 : Int32))]) (rest := []) (lenOf pd__I_I_227 rfl) rfl (by show 2 * 0 + _ ≤ _; exact Nat.le_of_eq rfl) (hb hby at_150) (fun _ _ => ⟨rfl, rfl, (by decide : 9 + 0 ≤ _), (by decide : 35 + 0 ≤ _)⟩)
      dsimp only [Pt.U, Pt.locs, Pt.cells, Pt.slots] at X420 l420 y420 z420 st420 hQ420
      subst l420 y420 z420
      obtain ⟨rfl, N420q, e420⟩ := hQ420
      skip
      have N420 := Fr.app N411 N420q
      refine own_tr st420 ?_
      show own_Fin p e below G (T420.setTop (mkF m 153 #[iv p1, iv p2, iv p3, iv p4, iv p5, iv p6, iv (2 : Int32), iv (0 : Int32), iv e0', iv e1', iv e2', rv b352, rv b363, rv b374, rv b393, rv b396, .unset, .unset, .unset, .unset, .unset] [(.int e2')]))
      refine own_st (fun _ k => XS.istore X420.here hx rfl (hb hby at_153) rfl (l' := #[iv p1, iv p2, iv p3, iv p4, iv p5, iv p6, iv (2 : Int32), iv (0 : Int32), iv e0', iv e1', iv e2', rv b352, rv b363, rv b374, rv b393, rv b396, iv e2', .unset, .unset, .unset, .unset]) rfl k) ?_
      show own_Fin p e below G (T420.setTop (mkF m 155 #[iv p1, iv p2, iv p3, iv p4, iv p5, iv p6, iv (2 : Int32), iv (0 : Int32), iv e0', iv e1', iv e2', rv b352, rv b363, rv b374, rv b393, rv b396, iv e2', .unset, .unset, .unset, .unset] []))
      refine own_st (fun _ k => XS.aload X420.here hx rfl (hb hby at_155) rfl rfl k) ?_
      show own_Fin p e below G (T420.setTop (mkF m 157 #[iv p1, iv p2, iv p3, iv p4, iv p5, iv p6, iv (2 : Int32), iv (0 : Int32), iv e0', iv e1', iv e2', rv b352, rv b363, rv b374, rv b393, rv b396, iv e2', .unset, .unset, .unset, .unset] [(.ref b396)]))
      refine own_st (fun _ k => XS.iload X420.here hx rfl (hb hby at_157) rfl  k) ?_
      show own_Fin p e below G (T420.setTop (mkF m 159 #[iv p1, iv p2, iv p3, iv p4, iv p5, iv p6, iv (2 : Int32), iv (0 : Int32), iv e0', iv e1', iv e2', rv b352, rv b363, rv b374, rv b393, rv b396, iv e2', .unset, .unset, .unset, .unset] [(.int (2 : Int32)), (.ref b396)]))
      obtain ⟨cq421, kq421, q421a, q421b, q421c⟩ := isOf hZ e420 f412_4
      obtain ⟨_, _, ⟨T421, L421, k421, n421⟩, -, X421, ⟨Lc421, hQ421, l421, y421, z421⟩, st421⟩ := X420.virtualBack hx (y := own_y7) (z := own_y7) hown (mvT hZ (own_w hw 78 rfl)) (mvT hZ (own_w hw 79 rfl)) (notFace_of_selects (args := #[]) (mvT hZ (own_w hw 81 rfl))) (mvT hZ (own_w hw 81 rfl)) (mvT hZ (own_w hw 80 rfl)) (by decide) (backOf (W := 0) (rm_waitingStart2 l Z a0 hw [] b396 b374 p1 e0' e1' e2' T411.heap n0 (Nat.le_trans Z0 K413.1) gF411 f412_2) hZ (own_w hw 82 rfl) (own_w hw 32 rfl) (by decide) (by decide)) q421a q421c (g := (mkF m 159 #[iv p1, iv p2, iv p3, iv p4, iv p5, iv p6, iv (2 : Int32), iv (0 : Int32), iv e0', iv e1', iv e2', rv b352, rv b363, rv b374, rv b393, rv b396, iv e2', .unset, .unset, .unset, .unset] [(.int (2 : Int32)), (.ref b396)])) rfl (by rw [hml]; rfl) (Steps.refl _) (argsL := [(.int (2 : Int32))]) (rest := []) (lenOf pd__I_I_227 rfl) rfl (by show 2 * 0 + _ ≤ _; exact Nat.le_of_eq rfl) (hb hby at_159) (fun _ _ => ⟨rfl, e420, (by decide : 9 + 0 ≤ _), (by decide : 35 + 0 ≤ _)⟩)
      dsimp only [Pt.U, Pt.locs, Pt.cells, Pt.slots] at X421 l421 y421 z421 st421 hQ421
      subst l421 y421 z421
      obtain ⟨rfl, N421q, e421⟩ := hQ421
      skip
      have N421 := Fr.app N420 N421q
      refine own_tr st421 ?_
      show own_Fin p e below G (T421.setTop (mkF m 162 #[iv p1, iv p2, iv p3, iv p4, iv p5, iv p6, iv (2 : Int32), iv (0 : Int32), iv e0', iv e1', iv e2', rv b352, rv b363, rv b374, rv b393, rv b396, iv e2', .unset, .unset, .unset, .unset] [(.int e1')]))
      refine own_st (fun _ k => XS.istore X421.here hx rfl (hb hby at_162) rfl (l' := #[iv p1, iv p2, iv p3, iv p4, iv p5, iv p6, iv (2 : Int32), iv (0 : Int32), iv e0', iv e1', iv e2', rv b352, rv b363, rv b374, rv b393, rv b396, iv e2', iv e1', .unset, .unset, .unset]) rfl k) ?_
      show own_Fin p e below G (T421.setTop (mkF m 164 #[iv p1, iv p2, iv p3, iv p4, iv p5, iv p6, iv (2 : Int32), iv (0 : Int32), iv e0', iv e1', iv e2', rv b352, rv b363, rv b374, rv b393, rv b396, iv e2', iv e1', .unset, .unset, .unset] []))
      refine own_st (fun _ k => XS.iload X421.here hx rfl (hb hby at_164) rfl  k) ?_
      show own_Fin p e below G (T421.setTop (mkF m 166 #[iv p1, iv p2, iv p3, iv p4, iv p5, iv p6, iv (2 : Int32), iv (0 : Int32), iv e0', iv e1', iv e2', rv b352, rv b363, rv b374, rv b393, rv b396, iv e2', iv e1', .unset, .unset, .unset] [(.int (0 : Int32))]))
      refine own_st (fun _ k => XS.ifYes X421.here hx rfl (pc0 := 166) (pc' := 185) rfl (hb hby at_166) rfl ((if0 _ _).trans (teq (by decide : ((0 : Int32) = (0 : Int32)))).1) (by decide) (by decide) k) ?_
      show own_Fin p e below G (T421.setTop (mkF m 185 #[iv p1, iv p2, iv p3, iv p4, iv p5, iv p6, iv (2 : Int32), iv (0 : Int32), iv e0', iv e1', iv e2', rv b352, rv b363, rv b374, rv b393, rv b396, iv e2', iv e1', .unset, .unset, .unset] []))
      refine own_st (fun _ k => XS.iload X421.here hx rfl (hb hby at_185) rfl  k) ?_
      show own_Fin p e below G (T421.setTop (mkF m 187 #[iv p1, iv p2, iv p3, iv p4, iv p5, iv p6, iv (2 : Int32), iv (0 : Int32), iv e0', iv e1', iv e2', rv b352, rv b363, rv b374, rv b393, rv b396, iv e2', iv e1', .unset, .unset, .unset] [(.int (2 : Int32))]))
      refine own_st (fun _ k => XS.ifYes X421.here hx rfl (pc0 := 187) (pc' := 200) rfl (hb hby at_187) rfl ((if0 _ _).trans (feq (by decide : ¬ ((2 : Int32) = (0 : Int32)))).2) (by decide) (by decide) k) ?_
      show own_Fin p e below G (T421.setTop (mkF m 200 #[iv p1, iv p2, iv p3, iv p4, iv p5, iv p6, iv (2 : Int32), iv (0 : Int32), iv e0', iv e1', iv e2', rv b352, rv b363, rv b374, rv b393, rv b396, iv e2', iv e1', .unset, .unset, .unset] []))
      refine own_st (fun _ k => XS.iload X421.here hx rfl (hb hby at_200) rfl  k) ?_
      show own_Fin p e below G (T421.setTop (mkF m 202 #[iv p1, iv p2, iv p3, iv p4, iv p5, iv p6, iv (2 : Int32), iv (0 : Int32), iv e0', iv e1', iv e2', rv b352, rv b363, rv b374, rv b393, rv b396, iv e2', iv e1', .unset, .unset, .unset] [(.int (2 : Int32))]))
      refine own_st (fun _ k => XS.iconst X421.here hx rfl (hb hby at_202) k) ?_
      show own_Fin p e below G (T421.setTop (mkF m 203 #[iv p1, iv p2, iv p3, iv p4, iv p5, iv p6, iv (2 : Int32), iv (0 : Int32), iv e0', iv e1', iv e2', rv b352, rv b363, rv b374, rv b393, rv b396, iv e2', iv e1', .unset, .unset, .unset] [(.int (1 : Int32)), (.int (2 : Int32))]))
      refine own_st (fun _ k => XS.icmpYes X421.here hx rfl (pc0 := 203) (pc' := 216) rfl (hb hby at_203) rfl (feq (by decide : ¬ ((2 : Int32) = (1 : Int32)))).2 (by decide) (by decide) k) ?_
      show own_Fin p e below G (T421.setTop (mkF m 216 #[iv p1, iv p2, iv p3, iv p4, iv p5, iv p6, iv (2 : Int32), iv (0 : Int32), iv e0', iv e1', iv e2', rv b352, rv b363, rv b374, rv b393, rv b396, iv e2', iv e1', .unset, .unset, .unset] []))
      refine own_st (fun _ k => XS.iload X421.here hx rfl (hb hby at_216) rfl  k) ?_
      show own_Fin p e below G (T421.setTop (mkF m 218 #[iv p1, iv p2, iv p3, iv p4, iv p5, iv p6, iv (2 : Int32), iv (0 : Int32), iv e0', iv e1', iv e2', rv b352, rv b363, rv b374, rv b393, rv b396, iv e2', iv e1', .unset, .unset, .unset] [(.int e2')]))
      refine own_st (fun _ k => XS.istore X421.here hx rfl (hb hby at_218) rfl (l' := #[iv p1, iv p2, iv p3, iv p4, iv p5, iv p6, iv (2 : Int32), iv (0 : Int32), iv e0', iv e1', iv e2', rv b352, rv b363, rv b374, rv b393, rv b396, iv e2', iv e1', iv e2', .unset, .unset]) rfl k) ?_
      show own_Fin p e below G (T421.setTop (mkF m 220 #[iv p1, iv p2, iv p3, iv p4, iv p5, iv p6, iv (2 : Int32), iv (0 : Int32), iv e0', iv e1', iv e2', rv b352, rv b363, rv b374, rv b393, rv b396, iv e2', iv e1', iv e2', .unset, .unset] []))
      refine own_st (fun _ k => XS.iloadN X421.here hx rfl (hb hby at_220) rfl  k) ?_
      show own_Fin p e below G (T421.setTop (mkF m 221 #[iv p1, iv p2, iv p3, iv p4, iv p5, iv p6, iv (2 : Int32), iv (0 : Int32), iv e0', iv e1', iv e2', rv b352, rv b363, rv b374, rv b393, rv b396, iv e2', iv e1', iv e2', .unset, .unset] [(.int p4)]))
      refine own_st (fun _ k => XS.istore X421.here hx rfl (hb hby at_221) rfl (l' := #[iv p1, iv p2, iv p3, iv p4, iv p5, iv p6, iv (2 : Int32), iv (0 : Int32), iv e0', iv e1', iv e2', rv b352, rv b363, rv b374, rv b393, rv b396, iv e2', iv e1', iv e2', iv p4, .unset]) rfl k) ?_
      show own_Fin p e below G (T421.setTop (mkF m 223 #[iv p1, iv p2, iv p3, iv p4, iv p5, iv p6, iv (2 : Int32), iv (0 : Int32), iv e0', iv e1', iv e2', rv b352, rv b363, rv b374, rv b393, rv b396, iv e2', iv e1', iv e2', iv p4, .unset] []))
      refine own_st (fun _ k => XS.iload X421.here hx rfl (hb hby at_223) rfl  k) ?_
      show own_Fin p e below G (T421.setTop (mkF m 225 #[iv p1, iv p2, iv p3, iv p4, iv p5, iv p6, iv (2 : Int32), iv (0 : Int32), iv e0', iv e1', iv e2', rv b352, rv b363, rv b374, rv b393, rv b396, iv e2', iv e1', iv e2', iv p4, .unset] [(.int (2 : Int32))]))
      refine own_st (fun _ k => XS.iconst X421.here hx rfl (hb hby at_225) k) ?_
      show own_Fin p e below G (T421.setTop (mkF m 226 #[iv p1, iv p2, iv p3, iv p4, iv p5, iv p6, iv (2 : Int32), iv (0 : Int32), iv e0', iv e1', iv e2', rv b352, rv b363, rv b374, rv b393, rv b396, iv e2', iv e1', iv e2', iv p4, .unset] [(.int (2 : Int32)), (.int (2 : Int32))]))
      refine own_st (fun _ k => XS.icmpYes X421.here hx rfl (pc0 := 226) (pc' := 243) rfl (hb hby at_226) rfl (teq (by decide : ((2 : Int32) = (2 : Int32)))).1 (by decide) (by decide) k) ?_
      show own_Fin p e below G (T421.setTop (mkF m 243 #[iv p1, iv p2, iv p3, iv p4, iv p5, iv p6, iv (2 : Int32), iv (0 : Int32), iv e0', iv e1', iv e2', rv b352, rv b363, rv b374, rv b393, rv b396, iv e2', iv e1', iv e2', iv p4, .unset] []))
      refine own_st (fun _ k => XS.iconst X421.here hx rfl (hb hby at_243) k) ?_
      show own_Fin p e below G (T421.setTop (mkF m 244 #[iv p1, iv p2, iv p3, iv p4, iv p5, iv p6, iv (2 : Int32), iv (0 : Int32), iv e0', iv e1', iv e2', rv b352, rv b363, rv b374, rv b393, rv b396, iv e2', iv e1', iv e2', iv p4, .unset] [(.int (1 : Int32))]))
      refine own_st (fun _ k => XS.goto X421.here hx rfl (pc0 := 244) (pc' := 248) rfl (hb hby at_244) (by decide) (by decide) k) ?_
      show own_Fin p e below G (T421.setTop (mkF m 248 #[iv p1, iv p2, iv p3, iv p4, iv p5, iv p6, iv (2 : Int32), iv (0 : Int32), iv e0', iv e1', iv e2', rv b352, rv b363, rv b374, rv b393, rv b396, iv e2', iv e1', iv e2', iv p4, .unset] [(.int (1 : Int32))]))
      refine own_st (fun _ k => XS.istore X421.here hx rfl (hb hby at_248) rfl (l' := #[iv p1, iv p2, iv p3, iv p4, iv p5, iv p6, iv (2 : Int32), iv (0 : Int32), iv e0', iv e1', iv e2', rv b352, rv b363, rv b374, rv b393, rv b396, iv e2', iv e1', iv e2', iv p4, iv (1 : Int32)]) rfl k) ?_
      show own_Fin p e below G (T421.setTop (mkF m 250 #[iv p1, iv p2, iv p3, iv p4, iv p5, iv p6, iv (2 : Int32), iv (0 : Int32), iv e0', iv e1', iv e2', rv b352, rv b363, rv b374, rv b393, rv b396, iv e2', iv e1', iv e2', iv p4, iv (1 : Int32)] []))
      refine own_st (fun _ k => XS.iload X421.here hx rfl (hb hby at_250) rfl  k) ?_
      show own_Fin p e below G (T421.setTop (mkF m 252 #[iv p1, iv p2, iv p3, iv p4, iv p5, iv p6, iv (2 : Int32), iv (0 : Int32), iv e0', iv e1', iv e2', rv b352, rv b363, rv b374, rv b393, rv b396, iv e2', iv e1', iv e2', iv p4, iv (1 : Int32)] [(.int e2')]))
      refine own_st (fun _ k => XS.iload X421.here hx rfl (hb hby at_252) rfl  k) ?_
      show own_Fin p e below G (T421.setTop (mkF m 254 #[iv p1, iv p2, iv p3, iv p4, iv p5, iv p6, iv (2 : Int32), iv (0 : Int32), iv e0', iv e1', iv e2', rv b352, rv b363, rv b374, rv b393, rv b396, iv e2', iv e1', iv e2', iv p4, iv (1 : Int32)] [(.int e2'), (.int e2')]))
      refine own_st (fun _ k => XS.icmpNo X421.here hx rfl (hb hby at_254) rfl (teq (rfl : e2' = e2')).2 k) ?_
      show own_Fin p e below G (T421.setTop (mkF m 257 #[iv p1, iv p2, iv p3, iv p4, iv p5, iv p6, iv (2 : Int32), iv (0 : Int32), iv e0', iv e1', iv e2', rv b352, rv b363, rv b374, rv b393, rv b396, iv e2', iv e1', iv e2', iv p4, iv (1 : Int32)] []))
      refine own_st (fun _ k => XS.iload X421.here hx rfl (hb hby at_257) rfl  k) ?_
      show own_Fin p e below G (T421.setTop (mkF m 259 #[iv p1, iv p2, iv p3, iv p4, iv p5, iv p6, iv (2 : Int32), iv (0 : Int32), iv e0', iv e1', iv e2', rv b352, rv b363, rv b374, rv b393, rv b396, iv e2', iv e1', iv e2', iv p4, iv (1 : Int32)] [(.int e2')]))
      refine own_st (fun _ k => XS.iload X421.here hx rfl (hb hby at_259) rfl  k) ?_
      show own_Fin p e below G (T421.setTop (mkF m 261 #[iv p1, iv p2, iv p3, iv p4, iv p5, iv p6, iv (2 : Int32), iv (0 : Int32), iv e0', iv e1', iv e2', rv b352, rv b363, rv b374, rv b393, rv b396, iv e2', iv e1', iv e2', iv p4, iv (1 : Int32)] [(.int e1'), (.int e2')]))
      refine own_st (fun _ k => XS.isub X421.here hx rfl (hb hby at_261) rfl k) ?_
      show own_Fin p e below G (T421.setTop (mkF m 262 #[iv p1, iv p2, iv p3, iv p4, iv p5, iv p6, iv (2 : Int32), iv (0 : Int32), iv e0', iv e1', iv e2', rv b352, rv b363, rv b374, rv b393, rv b396, iv e2', iv e1', iv e2', iv p4, iv (1 : Int32)] [(.int (e2' - e1'))]))
      refine own_st (fun _ k => XS.iload X421.here hx rfl (hb hby at_262) rfl  k) ?_
      show own_Fin p e below G (T421.setTop (mkF m 264 #[iv p1, iv p2, iv p3, iv p4, iv p5, iv p6, iv (2 : Int32), iv (0 : Int32), iv e0', iv e1', iv e2', rv b352, rv b363, rv b374, rv b393, rv b396, iv e2', iv e1', iv e2', iv p4, iv (1 : Int32)] [(.int p4), (.int (e2' - e1'))]))
      refine own_st (fun _ k => XS.icmpNo X421.here hx rfl (hb hby at_264) rfl (teq (own_sub e_e2')).2 k) ?_
      show own_Fin p e below G (T421.setTop (mkF m 267 #[iv p1, iv p2, iv p3, iv p4, iv p5, iv p6, iv (2 : Int32), iv (0 : Int32), iv e0', iv e1', iv e2', rv b352, rv b363, rv b374, rv b393, rv b396, iv e2', iv e1', iv e2', iv p4, iv (1 : Int32)] []))
      refine own_st (fun _ k => XS.iload X421.here hx rfl (hb hby at_267) rfl  k) ?_
      show own_Fin p e below G (T421.setTop (mkF m 269 #[iv p1, iv p2, iv p3, iv p4, iv p5, iv p6, iv (2 : Int32), iv (0 : Int32), iv e0', iv e1', iv e2', rv b352, rv b363, rv b374, rv b393, rv b396, iv e2', iv e1', iv e2', iv p4, iv (1 : Int32)] [(.int (1 : Int32))]))
      refine own_st (fun _ k => XS.ifNo X421.here hx rfl (hb hby at_269) rfl ((if0 _ _).trans (feq (by decide : ¬ ((1 : Int32) = (0 : Int32)))).1) k) ?_
      show own_Fin p e below G (T421.setTop (mkF m 272 #[iv p1, iv p2, iv p3, iv p4, iv p5, iv p6, iv (2 : Int32), iv (0 : Int32), iv e0', iv e1', iv e2', rv b352, rv b363, rv b374, rv b393, rv b396, iv e2', iv e1', iv e2', iv p4, iv (1 : Int32)] []))
      refine own_st (fun _ k => XS.iconst X421.here hx rfl (hb hby at_272) k) ?_
      show own_Fin p e below G (T421.setTop (mkF m 273 #[iv p1, iv p2, iv p3, iv p4, iv p5, iv p6, iv (2 : Int32), iv (0 : Int32), iv e0', iv e1', iv e2', rv b352, rv b363, rv b374, rv b393, rv b396, iv e2', iv e1', iv e2', iv p4, iv (1 : Int32)] [(.int (1 : Int32))]))
      refine own_st (fun _ k => XS.goto X421.here hx rfl (pc0 := 273) (pc' := 277) rfl (hb hby at_273) (by decide) (by decide) k) ?_
      show own_Fin p e below G (T421.setTop (mkF m 277 #[iv p1, iv p2, iv p3, iv p4, iv p5, iv p6, iv (2 : Int32), iv (0 : Int32), iv e0', iv e1', iv e2', rv b352, rv b363, rv b374, rv b393, rv b396, iv e2', iv e1', iv e2', iv p4, iv (1 : Int32)] [(.int (1 : Int32))]))
      refine own_out X421 Bd.notSynchronized (v := (some (.int (1 : Int32)))) (fun h => by rw [Bd.returns] at h; cases h) hG (fun fs hr => retN X421 hx (t := .boolean) Bd.returns (by simp) (hb hby at_277) hr) (by decide) (by decide) ?_
      exact ⟨rfl, N421⟩
  · refine own_st (fun _ k => XS.ifNo X0.here hx rfl (hb hby at_13) rfl ((if0 _ _).trans (feq hc13_351).1) k) ?_
    show own_Fin p e below G (s₁.setTop (mkF m 16 #[iv p1, iv p2, iv p3, iv p4, iv p5, iv p6, iv st, .unset, .unset, .unset, .unset, .unset, .unset, .unset, .unset, .unset, .unset, .unset, .unset, .unset, .unset] []))
    refine own_st (fun _ k => XS.iconst X0.here hx rfl (hb hby at_16) k) ?_
    show own_Fin p e below G (s₁.setTop (mkF m 17 #[iv p1, iv p2, iv p3, iv p4, iv p5, iv p6, iv st, .unset, .unset, .unset, .unset, .unset, .unset, .unset, .unset, .unset, .unset, .unset, .unset, .unset, .unset] [(.int (1 : Int32))]))
    refine own_st (fun _ k => XS.goto X0.here hx rfl (pc0 := 17) (pc' := 21) rfl (hb hby at_17) (by decide) (by decide) k) ?_
    show own_Fin p e below G (s₁.setTop (mkF m 21 #[iv p1, iv p2, iv p3, iv p4, iv p5, iv p6, iv st, .unset, .unset, .unset, .unset, .unset, .unset, .unset, .unset, .unset, .unset, .unset, .unset, .unset, .unset] [(.int (1 : Int32))]))
    refine own_st (fun _ k => XS.istore X0.here hx rfl (hb hby at_21) rfl (l' := #[iv p1, iv p2, iv p3, iv p4, iv p5, iv p6, iv st, iv (1 : Int32), .unset, .unset, .unset, .unset, .unset, .unset, .unset, .unset, .unset, .unset, .unset, .unset, .unset]) rfl k) ?_
    show own_Fin p e below G (s₁.setTop (mkF m 23 #[iv p1, iv p2, iv p3, iv p4, iv p5, iv p6, iv st, iv (1 : Int32), .unset, .unset, .unset, .unset, .unset, .unset, .unset, .unset, .unset, .unset, .unset, .unset, .unset] []))
    refine own_st (fun _ k => XS.iloadN X0.here hx rfl (hb hby at_23) rfl  k) ?_
    show own_Fin p e below G (s₁.setTop (mkF m 24 #[iv p1, iv p2, iv p3, iv p4, iv p5, iv p6, iv st, iv (1 : Int32), .unset, .unset, .unset, .unset, .unset, .unset, .unset, .unset, .unset, .unset, .unset, .unset, .unset] [(.int p1)]))
    refine own_st (fun _ k => XS.iloadN X0.here hx rfl (hb hby at_24) rfl  k) ?_
    show own_Fin p e below G (s₁.setTop (mkF m 25 #[iv p1, iv p2, iv p3, iv p4, iv p5, iv p6, iv st, iv (1 : Int32), .unset, .unset, .unset, .unset, .unset, .unset, .unset, .unset, .unset, .unset, .unset, .unset, .unset] [(.int p2), (.int p1)]))
    refine own_st (fun _ k => XS.iadd X0.here hx rfl (hb hby at_25) rfl k) ?_
    show own_Fin p e below G (s₁.setTop (mkF m 26 #[iv p1, iv p2, iv p3, iv p4, iv p5, iv p6, iv st, iv (1 : Int32), .unset, .unset, .unset, .unset, .unset, .unset, .unset, .unset, .unset, .unset, .unset, .unset, .unset] [(.int (p1 + p2))]))
    generalize e_e0' : (p1 + p2) = e0' at *
    show own_Fin p e below G (s₁.setTop (mkF m 26 #[iv p1, iv p2, iv p3, iv p4, iv p5, iv p6, iv st, iv (1 : Int32), .unset, .unset, .unset, .unset, .unset, .unset, .unset, .unset, .unset, .unset, .unset, .unset, .unset] [(.int e0')]))
    refine own_st (fun _ k => XS.istore X0.here hx rfl (hb hby at_26) rfl (l' := #[iv p1, iv p2, iv p3, iv p4, iv p5, iv p6, iv st, iv (1 : Int32), iv e0', .unset, .unset, .unset, .unset, .unset, .unset, .unset, .unset, .unset, .unset, .unset, .unset]) rfl k) ?_
    show own_Fin p e below G (s₁.setTop (mkF m 28 #[iv p1, iv p2, iv p3, iv p4, iv p5, iv p6, iv st, iv (1 : Int32), iv e0', .unset, .unset, .unset, .unset, .unset, .unset, .unset, .unset, .unset, .unset, .unset, .unset] []))
    refine own_st (fun _ k => XS.iload X0.here hx rfl (hb hby at_28) rfl  k) ?_
    show own_Fin p e below G (s₁.setTop (mkF m 30 #[iv p1, iv p2, iv p3, iv p4, iv p5, iv p6, iv st, iv (1 : Int32), iv e0', .unset, .unset, .unset, .unset, .unset, .unset, .unset, .unset, .unset, .unset, .unset, .unset] [(.int e0')]))
    refine own_st (fun _ k => XS.iloadN X0.here hx rfl (hb hby at_30) rfl  k) ?_
    show own_Fin p e below G (s₁.setTop (mkF m 31 #[iv p1, iv p2, iv p3, iv p4, iv p5, iv p6, iv st, iv (1 : Int32), iv e0', .unset, .unset, .unset, .unset, .unset, .unset, .unset, .unset, .unset, .unset, .unset, .unset] [(.int p3), (.int e0')]))
    refine own_st (fun _ k => XS.iadd X0.here hx rfl (hb hby at_31) rfl k) ?_
    show own_Fin p e below G (s₁.setTop (mkF m 32 #[iv p1, iv p2, iv p3, iv p4, iv p5, iv p6, iv st, iv (1 : Int32), iv e0', .unset, .unset, .unset, .unset, .unset, .unset, .unset, .unset, .unset, .unset, .unset, .unset] [(.int (e0' + p3))]))
    generalize e_e1' : (e0' + p3) = e1' at *
    show own_Fin p e below G (s₁.setTop (mkF m 32 #[iv p1, iv p2, iv p3, iv p4, iv p5, iv p6, iv st, iv (1 : Int32), iv e0', .unset, .unset, .unset, .unset, .unset, .unset, .unset, .unset, .unset, .unset, .unset, .unset] [(.int e1')]))
    refine own_st (fun _ k => XS.istore X0.here hx rfl (hb hby at_32) rfl (l' := #[iv p1, iv p2, iv p3, iv p4, iv p5, iv p6, iv st, iv (1 : Int32), iv e0', iv e1', .unset, .unset, .unset, .unset, .unset, .unset, .unset, .unset, .unset, .unset, .unset]) rfl k) ?_
    show own_Fin p e below G (s₁.setTop (mkF m 34 #[iv p1, iv p2, iv p3, iv p4, iv p5, iv p6, iv st, iv (1 : Int32), iv e0', iv e1', .unset, .unset, .unset, .unset, .unset, .unset, .unset, .unset, .unset, .unset, .unset] []))
    refine own_st (fun _ k => XS.iload X0.here hx rfl (hb hby at_34) rfl  k) ?_
    show own_Fin p e below G (s₁.setTop (mkF m 36 #[iv p1, iv p2, iv p3, iv p4, iv p5, iv p6, iv st, iv (1 : Int32), iv e0', iv e1', .unset, .unset, .unset, .unset, .unset, .unset, .unset, .unset, .unset, .unset, .unset] [(.int e1')]))
    refine own_st (fun _ k => XS.iloadN X0.here hx rfl (hb hby at_36) rfl  k) ?_
    show own_Fin p e below G (s₁.setTop (mkF m 37 #[iv p1, iv p2, iv p3, iv p4, iv p5, iv p6, iv st, iv (1 : Int32), iv e0', iv e1', .unset, .unset, .unset, .unset, .unset, .unset, .unset, .unset, .unset, .unset, .unset] [(.int p4), (.int e1')]))
    refine own_st (fun _ k => XS.iadd X0.here hx rfl (hb hby at_37) rfl k) ?_
    show own_Fin p e below G (s₁.setTop (mkF m 38 #[iv p1, iv p2, iv p3, iv p4, iv p5, iv p6, iv st, iv (1 : Int32), iv e0', iv e1', .unset, .unset, .unset, .unset, .unset, .unset, .unset, .unset, .unset, .unset, .unset] [(.int (e1' + p4))]))
    generalize e_e2' : (e1' + p4) = e2' at *
    show own_Fin p e below G (s₁.setTop (mkF m 38 #[iv p1, iv p2, iv p3, iv p4, iv p5, iv p6, iv st, iv (1 : Int32), iv e0', iv e1', .unset, .unset, .unset, .unset, .unset, .unset, .unset, .unset, .unset, .unset, .unset] [(.int e2')]))
    refine own_st (fun _ k => XS.istore X0.here hx rfl (hb hby at_38) rfl (l' := #[iv p1, iv p2, iv p3, iv p4, iv p5, iv p6, iv st, iv (1 : Int32), iv e0', iv e1', iv e2', .unset, .unset, .unset, .unset, .unset, .unset, .unset, .unset, .unset, .unset]) rfl k) ?_
    show own_Fin p e below G (s₁.setTop (mkF m 40 #[iv p1, iv p2, iv p3, iv p4, iv p5, iv p6, iv st, iv (1 : Int32), iv e0', iv e1', iv e2', .unset, .unset, .unset, .unset, .unset, .unset, .unset, .unset, .unset, .unset] []))
    obtain ⟨T422, h422, X422, e422, E422, A422, D422, M422, st422⟩ := newO X0 hx hZ hown (own_w hw 1 rfl) (own_w hw 2 rfl) (own_w hw 3 rfl) e0 (g := (mkF m 40 #[iv p1, iv p2, iv p3, iv p4, iv p5, iv p6, iv st, iv (1 : Int32), iv e0', iv e1', iv e2', .unset, .unset, .unset, .unset, .unset, .unset, .unset, .unset, .unset, .unset] [])) rfl (hb hby at_40) (by decide) (by decide)
    obtain ⟨b422, g422⟩ : ∃ z, z = h0.size := ⟨_, rfl⟩
    rw [← g422] at A422 D422 st422
    have sz_b422 : h0.size ≤ b422 := Nat.le_trans K0.1 (Nat.le_of_eq g422.symm)
    have g_b422 : n0 ≤ b422 := Nat.le_trans Z0 sz_b422
    have K424 : Keep h0 h422 [] := K0.ext E422
    have f425 : Fld Z h422 b422 "com/example/paired_paths/pairedpaths/lts/PackedInts" "length" "I" (.int (0 : Int32)) := D422 (Or.inr (own_w hw 11 rfl)) (ty := .int) (by decide)
    have f426 : Fld Z h422 b422 "com/example/paired_paths/pairedpaths/lts/PackedInts" "largest" "I" (.int (0 : Int32)) := D422 (Or.inr (own_w hw 13 rfl)) (ty := .int) (by decide)
    have f427 : Fld Z h422 b422 "com/example/paired_paths/pairedpaths/lts/PackedInts" "width" "I" (.int (0 : Int32)) := D422 (Or.inr (own_w hw 19 rfl)) (ty := .int) (by decide)
    have f428 : Fld Z h422 b422 "com/example/paired_paths/pairedpaths/lts/PackedInts" "mask" "J" (.long (0 : Int64)) := D422 (Or.inr (own_w hw 21 rfl)) (ty := .long) (by decide)
    have f429 : Fld Z h422 b422 "com/example/paired_paths/pairedpaths/lts/PackedInts" "words" "[J" .null := D422 (Or.inr (own_w hw 29 rfl)) (ty := (.array .long)) (by decide)
    refine own_st st422 ?_
    show own_Fin p e below G (T422.setTop (mkF m 43 #[iv p1, iv p2, iv p3, iv p4, iv p5, iv p6, iv st, iv (1 : Int32), iv e0', iv e1', iv e2', .unset, .unset, .unset, .unset, .unset, .unset, .unset, .unset, .unset, .unset] [(.ref b422)]))
    refine own_st (fun _ k => XS.dup X422.here hx rfl (hb hby at_43) rfl rfl k) ?_
    show own_Fin p e below G (T422.setTop (mkF m 44 #[iv p1, iv p2, iv p3, iv p4, iv p5, iv p6, iv st, iv (1 : Int32), iv e0', iv e1', iv e2', .unset, .unset, .unset, .unset, .unset, .unset, .unset, .unset, .unset, .unset] [(.ref b422), (.ref b422)]))
    refine own_st (fun _ k => XS.iconst X422.here hx rfl (hb hby at_44) k) ?_
    show own_Fin p e below G (T422.setTop (mkF m 45 #[iv p1, iv p2, iv p3, iv p4, iv p5, iv p6, iv st, iv (1 : Int32), iv e0', iv e1', iv e2', .unset, .unset, .unset, .unset, .unset, .unset, .unset, .unset, .unset, .unset] [(.int (4 : Int32)), (.ref b422), (.ref b422)]))
    refine own_st (fun _ k => XS.iconst X422.here hx rfl (hb hby at_45) k) ?_
    show own_Fin p e below G (T422.setTop (mkF m 46 #[iv p1, iv p2, iv p3, iv p4, iv p5, iv p6, iv st, iv (1 : Int32), iv e0', iv e1', iv e2', .unset, .unset, .unset, .unset, .unset, .unset, .unset, .unset, .unset, .unset] [(.int (0 : Int32)), (.int (4 : Int32)), (.ref b422), (.ref b422)]))
    obtain ⟨_, _, ⟨T430, L430, k430, n430⟩, -, X430, ⟨Lc430, hQ430, l430, y430, z430⟩, st430⟩ := X422.specialBack hx (y := own_y4) rfl hown (mvT hZ (own_w hw 4 rfl)) (mvT hZ (own_w hw 5 rfl)) (mvT hZ (own_w hw 6 rfl)) (by decide) (backOf (W := 1) (rm_pi4 l Z a0 hw [] b422 h422 n0 (Nat.le_trans Z0 K424.1) A422 f425 f426 f427 f428 f429 g_b422) hZ (own_w hw 6 rfl) (own_w hw 3 rfl) (by decide) (by decide)) (g := (mkF m 46 #[iv p1, iv p2, iv p3, iv p4, iv p5, iv p6, iv st, iv (1 : Int32), iv e0', iv e1', iv e2', .unset, .unset, .unset, .unset, .unset, .unset, .unset, .unset, .unset, .unset] [(.int (0 : Int32)), (.int (4 : Int32)), (.ref b422), (.ref b422)])) rfl (by rw [hml]; rfl) (Steps.refl _) (a := b422) (argsL := [(.int (4 : Int32)), (.int (0 : Int32))]) (rest := [(.ref b422)]) (lenOf pd__II_V_313 rfl) rfl (by show 2 * 0 + _ ≤ _; exact Nat.le_of_eq rfl) (hb hby at_46) (fun _ _ => ⟨rfl, e422, (by decide : 1 + 1 ≤ _), (by decide : 5 + 2 ≤ _)⟩)
    dsimp only [Pt.U, Pt.locs, Pt.cells, Pt.slots] at X430 l430 y430 z430 st430 hQ430
    subst l430 y430 z430
    obtain ⟨rfl, N430q, Kc430⟩ := hQ430
    have N430 := Fr.app N0 N430q
    have f431_0 := A422.keep Kc430
    have K432 : Keep h0 T430.heap [] := K424.trans Kc430 (allS (Or.inr sz_b422) all0)
    refine own_tr st430 ?_
    show own_Fin p e below G (T430.setTop (mkF m 49 #[iv p1, iv p2, iv p3, iv p4, iv p5, iv p6, iv st, iv (1 : Int32), iv e0', iv e1', iv e2', .unset, .unset, .unset, .unset, .unset, .unset, .unset, .unset, .unset, .unset] [(.ref b422)]))
    refine own_st (fun _ k => XS.astore X430.here hx rfl (hb hby at_49) rfl rfl (l' := #[iv p1, iv p2, iv p3, iv p4, iv p5, iv p6, iv st, iv (1 : Int32), iv e0', iv e1', iv e2', rv b422, .unset, .unset, .unset, .unset, .unset, .unset, .unset, .unset, .unset]) rfl k) ?_
    show own_Fin p e below G (T430.setTop (mkF m 51 #[iv p1, iv p2, iv p3, iv p4, iv p5, iv p6, iv st, iv (1 : Int32), iv e0', iv e1', iv e2', rv b422, .unset, .unset, .unset, .unset, .unset, .unset, .unset, .unset, .unset] []))
    obtain ⟨T433, h433, X433, e433, E433, A433, D433, M433, st433⟩ := newO X430 hx hZ hown (own_w hw 1 rfl) (own_w hw 2 rfl) (own_w hw 3 rfl) rfl (g := (mkF m 51 #[iv p1, iv p2, iv p3, iv p4, iv p5, iv p6, iv st, iv (1 : Int32), iv e0', iv e1', iv e2', rv b422, .unset, .unset, .unset, .unset, .unset, .unset, .unset, .unset, .unset] [])) rfl (hb hby at_51) (by decide) (by decide)
    obtain ⟨b433, g433⟩ : ∃ z, z = T430.heap.size := ⟨_, rfl⟩
    rw [← g433] at A433 D433 st433
    have ne_b422_b433 : b422 ≠ b433 := Nat.ne_of_lt (Nat.lt_of_lt_of_le f431_0.lt (Nat.le_of_eq g433.symm))
    have sz_b433 : h0.size ≤ b433 := Nat.le_trans K432.1 (Nat.le_of_eq g433.symm)
    have g_b433 : n0 ≤ b433 := Nat.le_trans Z0 sz_b433
    have f434_0 := f431_0.ext E433
    have K435 : Keep h0 h433 [] := K432.ext E433
    have f436 : Fld Z h433 b433 "com/example/paired_paths/pairedpaths/lts/PackedInts" "length" "I" (.int (0 : Int32)) := D433 (Or.inr (own_w hw 11 rfl)) (ty := .int) (by decide)
    have f437 : Fld Z h433 b433 "com/example/paired_paths/pairedpaths/lts/PackedInts" "largest" "I" (.int (0 : Int32)) := D433 (Or.inr (own_w hw 13 rfl)) (ty := .int) (by decide)
    have f438 : Fld Z h433 b433 "com/example/paired_paths/pairedpaths/lts/PackedInts" "width" "I" (.int (0 : Int32)) := D433 (Or.inr (own_w hw 19 rfl)) (ty := .int) (by decide)
    have f439 : Fld Z h433 b433 "com/example/paired_paths/pairedpaths/lts/PackedInts" "mask" "J" (.long (0 : Int64)) := D433 (Or.inr (own_w hw 21 rfl)) (ty := .long) (by decide)
    have f440 : Fld Z h433 b433 "com/example/paired_paths/pairedpaths/lts/PackedInts" "words" "[J" .null := D433 (Or.inr (own_w hw 29 rfl)) (ty := (.array .long)) (by decide)
    refine own_st st433 ?_
    show own_Fin p e below G (T433.setTop (mkF m 54 #[iv p1, iv p2, iv p3, iv p4, iv p5, iv p6, iv st, iv (1 : Int32), iv e0', iv e1', iv e2', rv b422, .unset, .unset, .unset, .unset, .unset, .unset, .unset, .unset, .unset] [(.ref b433)]))
    refine own_st (fun _ k => XS.dup X433.here hx rfl (hb hby at_54) rfl rfl k) ?_
    show own_Fin p e below G (T433.setTop (mkF m 55 #[iv p1, iv p2, iv p3, iv p4, iv p5, iv p6, iv st, iv (1 : Int32), iv e0', iv e1', iv e2', rv b422, .unset, .unset, .unset, .unset, .unset, .unset, .unset, .unset, .unset] [(.ref b433), (.ref b433)]))
    refine own_st (fun _ k => XS.iconst X433.here hx rfl (hb hby at_55) k) ?_
    show own_Fin p e below G (T433.setTop (mkF m 56 #[iv p1, iv p2, iv p3, iv p4, iv p5, iv p6, iv st, iv (1 : Int32), iv e0', iv e1', iv e2', rv b422, .unset, .unset, .unset, .unset, .unset, .unset, .unset, .unset, .unset] [(.int (0 : Int32)), (.ref b433), (.ref b433)]))
    refine own_st (fun _ k => XS.iconst X433.here hx rfl (hb hby at_56) k) ?_
    show own_Fin p e below G (T433.setTop (mkF m 57 #[iv p1, iv p2, iv p3, iv p4, iv p5, iv p6, iv st, iv (1 : Int32), iv e0', iv e1', iv e2', rv b422, .unset, .unset, .unset, .unset, .unset, .unset, .unset, .unset, .unset] [(.int (0 : Int32)), (.int (0 : Int32)), (.ref b433), (.ref b433)]))
    obtain ⟨_, _, ⟨T441, L441, k441, n441⟩, -, X441, ⟨Lc441, hQ441, l441, y441, z441⟩, st441⟩ := X433.specialBack hx (y := own_y4) rfl hown (mvT hZ (own_w hw 4 rfl)) (mvT hZ (own_w hw 5 rfl)) (mvT hZ (own_w hw 6 rfl)) (by decide) (backOf (W := 1) (rm_pi0 l Z a0 hw [] b433 h433 n0 (Nat.le_trans Z0 K435.1) A433 f436 f437 f438 f439 f440 g_b433) hZ (own_w hw 6 rfl) (own_w hw 3 rfl) (by decide) (by decide)) (g := (mkF m 57 #[iv p1, iv p2, iv p3, iv p4, iv p5, iv p6, iv st, iv (1 : Int32), iv e0', iv e1', iv e2', rv b422, .unset, .unset, .unset, .unset, .unset, .unset, .unset, .unset, .unset] [(.int (0 : Int32)), (.int (0 : Int32)), (.ref b433), (.ref b433)])) rfl (by rw [hml]; rfl) (Steps.refl _) (a := b433) (argsL := [(.int (0 : Int32)), (.int (0 : Int32))]) (rest := [(.ref b433)]) (lenOf pd__II_V_313 rfl) rfl (by show 2 * 0 + _ ≤ _; exact Nat.le_of_eq rfl) (hb hby at_57) (fun _ _ => ⟨rfl, e433, (by decide : 3 + 1 ≤ _), (by decide : 12 + 2 ≤ _)⟩)
    dsimp only [Pt.U, Pt.locs, Pt.cells, Pt.slots] at X441 l441 y441 z441 st441 hQ441
    subst l441 y441 z441
    obtain ⟨rfl, N441q, Kc441⟩ := hQ441
    have N441 := Fr.app N430 N441q
    have f442_0 := f434_0.keep Kc441
    have f442_1 := A433.keep Kc441
    have K443 : Keep h0 T441.heap [] := K435.trans Kc441 (allS (Or.inr sz_b433) all0)
    refine own_tr st441 ?_
    show own_Fin p e below G (T441.setTop (mkF m 60 #[iv p1, iv p2, iv p3, iv p4, iv p5, iv p6, iv st, iv (1 : Int32), iv e0', iv e1', iv e2', rv b422, .unset, .unset, .unset, .unset, .unset, .unset, .unset, .unset, .unset] [(.ref b433)]))
    refine own_st (fun _ k => XS.astore X441.here hx rfl (hb hby at_60) rfl rfl (l' := #[iv p1, iv p2, iv p3, iv p4, iv p5, iv p6, iv st, iv (1 : Int32), iv e0', iv e1', iv e2', rv b422, rv b433, .unset, .unset, .unset, .unset, .unset, .unset, .unset, .unset]) rfl k) ?_
    show own_Fin p e below G (T441.setTop (mkF m 62 #[iv p1, iv p2, iv p3, iv p4, iv p5, iv p6, iv st, iv (1 : Int32), iv e0', iv e1', iv e2', rv b422, rv b433, .unset, .unset, .unset, .unset, .unset, .unset, .unset, .unset] []))
    refine own_st (fun _ k => XS.iload X441.here hx rfl (hb hby at_62) rfl  k) ?_
    show own_Fin p e below G (T441.setTop (mkF m 64 #[iv p1, iv p2, iv p3, iv p4, iv p5, iv p6, iv st, iv (1 : Int32), iv e0', iv e1', iv e2', rv b422, rv b433, .unset, .unset, .unset, .unset, .unset, .unset, .unset, .unset] [(.int (1 : Int32))]))
    refine own_st (fun _ k => XS.ifNo X441.here hx rfl (hb hby at_64) rfl ((if0 _ _).trans (feq (by decide : ¬ ((1 : Int32) = (0 : Int32)))).1) k) ?_
    show own_Fin p e below G (T441.setTop (mkF m 67 #[iv p1, iv p2, iv p3, iv p4, iv p5, iv p6, iv st, iv (1 : Int32), iv e0', iv e1', iv e2', rv b422, rv b433, .unset, .unset, .unset, .unset, .unset, .unset, .unset, .unset] []))
    refine own_st (fun _ k => XS.aconstNull X441.here hx rfl (hb hby at_67) k) ?_
    show own_Fin p e below G (T441.setTop (mkF m 68 #[iv p1, iv p2, iv p3, iv p4, iv p5, iv p6, iv st, iv (1 : Int32), iv e0', iv e1', iv e2', rv b422, rv b433, .unset, .unset, .unset, .unset, .unset, .unset, .unset, .unset] [.null]))
    refine own_st (fun _ k => XS.goto X441.here hx rfl (pc0 := 68) (pc' := 93) rfl (hb hby at_68) (by decide) (by decide) k) ?_
    show own_Fin p e below G (T441.setTop (mkF m 93 #[iv p1, iv p2, iv p3, iv p4, iv p5, iv p6, iv st, iv (1 : Int32), iv e0', iv e1', iv e2', rv b422, rv b433, .unset, .unset, .unset, .unset, .unset, .unset, .unset, .unset] [.null]))
    refine own_st (fun _ k => XS.astore X441.here hx rfl (hb hby at_93) rfl rfl (l' := #[iv p1, iv p2, iv p3, iv p4, iv p5, iv p6, iv st, iv (1 : Int32), iv e0', iv e1', iv e2', rv b422, rv b433, .val .null, .unset, .unset, .unset, .unset, .unset, .unset, .unset]) rfl k) ?_
    show own_Fin p e below G (T441.setTop (mkF m 95 #[iv p1, iv p2, iv p3, iv p4, iv p5, iv p6, iv st, iv (1 : Int32), iv e0', iv e1', iv e2', rv b422, rv b433, .val .null, .unset, .unset, .unset, .unset, .unset, .unset, .unset] []))
    refine own_st (fun _ k => XS.iload X441.here hx rfl (hb hby at_95) rfl  k) ?_
    show own_Fin p e below G (T441.setTop (mkF m 97 #[iv p1, iv p2, iv p3, iv p4, iv p5, iv p6, iv st, iv (1 : Int32), iv e0', iv e1', iv e2', rv b422, rv b433, .val .null, .unset, .unset, .unset, .unset, .unset, .unset, .unset] [(.int (1 : Int32))]))
    refine own_st (fun _ k => XS.ifNo X441.here hx rfl (hb hby at_97) rfl ((if0 _ _).trans (feq (by decide : ¬ ((1 : Int32) = (0 : Int32)))).1) k) ?_
    show own_Fin p e below G (T441.setTop (mkF m 100 #[iv p1, iv p2, iv p3, iv p4, iv p5, iv p6, iv st, iv (1 : Int32), iv e0', iv e1', iv e2', rv b422, rv b433, .val .null, .unset, .unset, .unset, .unset, .unset, .unset, .unset] []))
    refine own_st (fun _ k => XS.aconstNull X441.here hx rfl (hb hby at_100) k) ?_
    show own_Fin p e below G (T441.setTop (mkF m 101 #[iv p1, iv p2, iv p3, iv p4, iv p5, iv p6, iv st, iv (1 : Int32), iv e0', iv e1', iv e2', rv b422, rv b433, .val .null, .unset, .unset, .unset, .unset, .unset, .unset, .unset] [.null]))
    refine own_st (fun _ k => XS.goto X441.here hx rfl (pc0 := 101) (pc' := 107) rfl (hb hby at_101) (by decide) (by decide) k) ?_
    show own_Fin p e below G (T441.setTop (mkF m 107 #[iv p1, iv p2, iv p3, iv p4, iv p5, iv p6, iv st, iv (1 : Int32), iv e0', iv e1', iv e2', rv b422, rv b433, .val .null, .unset, .unset, .unset, .unset, .unset, .unset, .unset] [.null]))
    refine own_st (fun _ k => XS.astore X441.here hx rfl (hb hby at_107) rfl rfl (l' := #[iv p1, iv p2, iv p3, iv p4, iv p5, iv p6, iv st, iv (1 : Int32), iv e0', iv e1', iv e2', rv b422, rv b433, .val .null, .val .null, .unset, .unset, .unset, .unset, .unset, .unset]) rfl k) ?_
    show own_Fin p e below G (T441.setTop (mkF m 109 #[iv p1, iv p2, iv p3, iv p4, iv p5, iv p6, iv st, iv (1 : Int32), iv e0', iv e1', iv e2', rv b422, rv b433, .val .null, .val .null, .unset, .unset, .unset, .unset, .unset, .unset] []))
    obtain ⟨T444, h444, X444, e444, E444, A444, D444, M444, st444⟩ := newO X441 hx hZ hown (own_w hw 30 rfl) (own_w hw 31 rfl) (own_w hw 32 rfl) rfl (g := (mkF m 109 #[iv p1, iv p2, iv p3, iv p4, iv p5, iv p6, iv st, iv (1 : Int32), iv e0', iv e1', iv e2', rv b422, rv b433, .val .null, .val .null, .unset, .unset, .unset, .unset, .unset, .unset] [])) rfl (hb hby at_109) (by decide) (by decide)
    obtain ⟨b444, g444⟩ : ∃ z, z = T441.heap.size := ⟨_, rfl⟩
    rw [← g444] at A444 D444 st444
    have ne_b422_b444 : b422 ≠ b444 := Nat.ne_of_lt (Nat.lt_of_lt_of_le f442_0.lt (Nat.le_of_eq g444.symm))
    have ne_b433_b444 : b433 ≠ b444 := Nat.ne_of_lt (Nat.lt_of_lt_of_le f442_1.lt (Nat.le_of_eq g444.symm))
    have sz_b444 : h0.size ≤ b444 := Nat.le_trans K443.1 (Nat.le_of_eq g444.symm)
    have g_b444 : n0 ≤ b444 := Nat.le_trans Z0 sz_b444
    have f445_0 := f442_0.ext E444
    have f445_1 := f442_1.ext E444
    have K446 : Keep h0 h444 [] := K443.ext E444
    have f447 : Fld Z h444 b444 "com/example/paired_paths/pairedpaths/lts/TransitionSystem" "labelNumbers" "Ljava/util/Map;" .null := D444 (Or.inr (own_w hw 56 rfl)) (ty := (.object "java/util/Map")) (by decide)
    have f448 : Fld Z h444 b444 "com/example/paired_paths/pairedpaths/lts/TransitionSystem" "labelTexts" "[Ljava/lang/String;" .null := D444 (Or.inr (own_w hw 58 rfl)) (ty := (.array (.object "java/lang/String"))) (by decide)
    have f449 : Fld Z h444 b444 "com/example/paired_paths/pairedpaths/lts/TransitionSystem" "firstMove" "Lcom/example/paired_paths/pairedpaths/lts/PackedInts;" .null := D444 (Or.inr (own_w hw 60 rfl)) (ty := (.object "com/example/paired_paths/pairedpaths/lts/PackedInts")) (by decide)
    have f450 : Fld Z h444 b444 "com/example/paired_paths/pairedpaths/lts/TransitionSystem" "moveLabels" "Lcom/example/paired_paths/pairedpaths/lts/PackedInts;" .null := D444 (Or.inr (own_w hw 62 rfl)) (ty := (.object "com/example/paired_paths/pairedpaths/lts/PackedInts")) (by decide)
    have f451 : Fld Z h444 b444 "com/example/paired_paths/pairedpaths/lts/TransitionSystem" "moveTargets" "Lcom/example/paired_paths/pairedpaths/lts/PackedInts;" .null := D444 (Or.inr (own_w hw 64 rfl)) (ty := (.object "com/example/paired_paths/pairedpaths/lts/PackedInts")) (by decide)
    have f452 : Fld Z h444 b444 "com/example/paired_paths/pairedpaths/lts/TransitionSystem" "positionCount" "I" (.int (0 : Int32)) := D444 (Or.inr (own_w hw 66 rfl)) (ty := .int) (by decide)
    have f453 : Fld Z h444 b444 "com/example/paired_paths/pairedpaths/lts/TransitionSystem" "firstWaiting" "[I" .null := D444 (Or.inr (own_w hw 68 rfl)) (ty := (.array .int)) (by decide)
    have f454 : Fld Z h444 b444 "com/example/paired_paths/pairedpaths/lts/TransitionSystem" "waitingPositions" "[I" .null := D444 (Or.inr (own_w hw 70 rfl)) (ty := (.array .int)) (by decide)
    have f455 : Fld Z h444 b444 "com/example/paired_paths/pairedpaths/lts/TransitionSystem" "sourceStates" "Lcom/example/paired_paths/pairedpaths/lts/PackedInts;" .null := D444 (Or.inr (own_w hw 72 rfl)) (ty := (.object "com/example/paired_paths/pairedpaths/lts/PackedInts")) (by decide)
    refine own_st st444 ?_
    show own_Fin p e below G (T444.setTop (mkF m 112 #[iv p1, iv p2, iv p3, iv p4, iv p5, iv p6, iv st, iv (1 : Int32), iv e0', iv e1', iv e2', rv b422, rv b433, .val .null, .val .null, .unset, .unset, .unset, .unset, .unset, .unset] [(.ref b444)]))
    refine own_st (fun _ k => XS.dup X444.here hx rfl (hb hby at_112) rfl rfl k) ?_
    show own_Fin p e below G (T444.setTop (mkF m 113 #[iv p1, iv p2, iv p3, iv p4, iv p5, iv p6, iv st, iv (1 : Int32), iv e0', iv e1', iv e2', rv b422, rv b433, .val .null, .val .null, .unset, .unset, .unset, .unset, .unset, .unset] [(.ref b444), (.ref b444)]))
    refine own_st (fun _ k => XS.iconst X444.here hx rfl (hb hby at_113) k) ?_
    show own_Fin p e below G (T444.setTop (mkF m 114 #[iv p1, iv p2, iv p3, iv p4, iv p5, iv p6, iv st, iv (1 : Int32), iv e0', iv e1', iv e2', rv b422, rv b433, .val .null, .val .null, .unset, .unset, .unset, .unset, .unset, .unset] [(.int (0 : Int32)), (.ref b444), (.ref b444)]))
    obtain ⟨T456, h456, k456, X456, e456, E456, A456, O456, st456⟩ := newR X444 hx hZ hown (own_w hw 33 rfl) (own_w hw 34 rfl) e444 (g := (mkF m 114 #[iv p1, iv p2, iv p3, iv p4, iv p5, iv p6, iv st, iv (1 : Int32), iv e0', iv e1', iv e2', rv b422, rv b433, .val .null, .val .null, .unset, .unset, .unset, .unset, .unset, .unset] [(.int (0 : Int32)), (.ref b444), (.ref b444)])) rfl (hb hby at_114) rfl (by decide) (cap := 0) (by decide) (by decide) (by decide) (by decide)
    obtain ⟨b456, g456⟩ : ∃ z, z = h444.size := ⟨_, rfl⟩
    rw [← g456] at A456 st456
    have ne_b422_b456 : b422 ≠ b456 := Nat.ne_of_lt (Nat.lt_of_lt_of_le f445_0.lt (Nat.le_of_eq g456.symm))
    have ne_b433_b456 : b433 ≠ b456 := Nat.ne_of_lt (Nat.lt_of_lt_of_le f445_1.lt (Nat.le_of_eq g456.symm))
    have ne_b444_b456 : b444 ≠ b456 := Nat.ne_of_lt (Nat.lt_of_lt_of_le A444.lt (Nat.le_of_eq g456.symm))
    have sz_b456 : h0.size ≤ b456 := Nat.le_trans K446.1 (Nat.le_of_eq g456.symm)
    have g_b456 : n0 ≤ b456 := Nat.le_trans Z0 sz_b456
    have f457_0 := f445_0.ext E456
    have f457_1 := f445_1.ext E456
    have f457_2 := A444.ext E456
    have f457_3 := f447.ext E456
    have f457_4 := f448.ext E456
    have f457_5 := f449.ext E456
    have f457_6 := f450.ext E456
    have f457_7 := f451.ext E456
    have f457_8 := f452.ext E456
    have f457_9 := f453.ext E456
    have f457_10 := f454.ext E456
    have f457_11 := f455.ext E456
    have K458 : Keep h0 h456 [] := K446.ext E456
    have V456 : own_AVk Z h456 b456 k456 (.object "java/lang/String") [] := own_AVk_new A456
    refine own_st st456 ?_
    show own_Fin p e below G (T456.setTop (mkF m 117 #[iv p1, iv p2, iv p3, iv p4, iv p5, iv p6, iv st, iv (1 : Int32), iv e0', iv e1', iv e2', rv b422, rv b433, .val .null, .val .null, .unset, .unset, .unset, .unset, .unset, .unset] [(.ref b456), (.ref b444), (.ref b444)]))
    refine own_st (fun _ k => XS.aload X456.here hx rfl (hb hby at_117) rfl rfl k) ?_
    show own_Fin p e below G (T456.setTop (mkF m 119 #[iv p1, iv p2, iv p3, iv p4, iv p5, iv p6, iv st, iv (1 : Int32), iv e0', iv e1', iv e2', rv b422, rv b433, .val .null, .val .null, .unset, .unset, .unset, .unset, .unset, .unset] [(.ref b422), (.ref b456), (.ref b444), (.ref b444)]))
    refine own_st (fun _ k => XS.aload X456.here hx rfl (hb hby at_119) rfl rfl k) ?_
    show own_Fin p e below G (T456.setTop (mkF m 121 #[iv p1, iv p2, iv p3, iv p4, iv p5, iv p6, iv st, iv (1 : Int32), iv e0', iv e1', iv e2', rv b422, rv b433, .val .null, .val .null, .unset, .unset, .unset, .unset, .unset, .unset] [(.ref b433), (.ref b422), (.ref b456), (.ref b444), (.ref b444)]))
    refine own_st (fun _ k => XS.aload X456.here hx rfl (hb hby at_121) rfl rfl k) ?_
    show own_Fin p e below G (T456.setTop (mkF m 123 #[iv p1, iv p2, iv p3, iv p4, iv p5, iv p6, iv st, iv (1 : Int32), iv e0', iv e1', iv e2', rv b422, rv b433, .val .null, .val .null, .unset, .unset, .unset, .unset, .unset, .unset] [(.ref b433), (.ref b433), (.ref b422), (.ref b456), (.ref b444), (.ref b444)]))
    refine own_st (fun _ k => XS.iload X456.here hx rfl (hb hby at_123) rfl  k) ?_
    show own_Fin p e below G (T456.setTop (mkF m 125 #[iv p1, iv p2, iv p3, iv p4, iv p5, iv p6, iv st, iv (1 : Int32), iv e0', iv e1', iv e2', rv b422, rv b433, .val .null, .val .null, .unset, .unset, .unset, .unset, .unset, .unset] [(.int (1 : Int32)), (.ref b433), (.ref b433), (.ref b422), (.ref b456), (.ref b444), (.ref b444)]))
    refine own_st (fun _ k => XS.ifNo X456.here hx rfl (hb hby at_125) rfl ((if0 _ _).trans (feq (by decide : ¬ ((1 : Int32) = (0 : Int32)))).1) k) ?_
    show own_Fin p e below G (T456.setTop (mkF m 128 #[iv p1, iv p2, iv p3, iv p4, iv p5, iv p6, iv st, iv (1 : Int32), iv e0', iv e1', iv e2', rv b422, rv b433, .val .null, .val .null, .unset, .unset, .unset, .unset, .unset, .unset] [(.ref b433), (.ref b433), (.ref b422), (.ref b456), (.ref b444), (.ref b444)]))
    refine own_st (fun _ k => XS.iconst X456.here hx rfl (hb hby at_128) k) ?_
    show own_Fin p e below G (T456.setTop (mkF m 129 #[iv p1, iv p2, iv p3, iv p4, iv p5, iv p6, iv st, iv (1 : Int32), iv e0', iv e1', iv e2', rv b422, rv b433, .val .null, .val .null, .unset, .unset, .unset, .unset, .unset, .unset] [(.int (0 : Int32)), (.ref b433), (.ref b433), (.ref b422), (.ref b456), (.ref b444), (.ref b444)]))
    refine own_st (fun _ k => XS.goto X456.here hx rfl (pc0 := 129) (pc' := 136) rfl (hb hby at_129) (by decide) (by decide) k) ?_
    show own_Fin p e below G (T456.setTop (mkF m 136 #[iv p1, iv p2, iv p3, iv p4, iv p5, iv p6, iv st, iv (1 : Int32), iv e0', iv e1', iv e2', rv b422, rv b433, .val .null, .val .null, .unset, .unset, .unset, .unset, .unset, .unset] [(.int (0 : Int32)), (.ref b433), (.ref b433), (.ref b422), (.ref b456), (.ref b444), (.ref b444)]))
    refine own_st (fun _ k => XS.aload X456.here hx rfl (hb hby at_136) rfl rfl k) ?_
    show own_Fin p e below G (T456.setTop (mkF m 138 #[iv p1, iv p2, iv p3, iv p4, iv p5, iv p6, iv st, iv (1 : Int32), iv e0', iv e1', iv e2', rv b422, rv b433, .val .null, .val .null, .unset, .unset, .unset, .unset, .unset, .unset] [.null, (.int (0 : Int32)), (.ref b433), (.ref b433), (.ref b422), (.ref b456), (.ref b444), (.ref b444)]))
    refine own_st (fun _ k => XS.aload X456.here hx rfl (hb hby at_138) rfl rfl k) ?_
    show own_Fin p e below G (T456.setTop (mkF m 140 #[iv p1, iv p2, iv p3, iv p4, iv p5, iv p6, iv st, iv (1 : Int32), iv e0', iv e1', iv e2', rv b422, rv b433, .val .null, .val .null, .unset, .unset, .unset, .unset, .unset, .unset] [.null, .null, (.int (0 : Int32)), (.ref b433), (.ref b433), (.ref b422), (.ref b456), (.ref b444), (.ref b444)]))
    refine own_st (fun _ k => XS.aconstNull X456.here hx rfl (hb hby at_140) k) ?_
    show own_Fin p e below G (T456.setTop (mkF m 141 #[iv p1, iv p2, iv p3, iv p4, iv p5, iv p6, iv st, iv (1 : Int32), iv e0', iv e1', iv e2', rv b422, rv b433, .val .null, .val .null, .unset, .unset, .unset, .unset, .unset, .unset] [.null, .null, .null, (.int (0 : Int32)), (.ref b433), (.ref b433), (.ref b422), (.ref b456), (.ref b444), (.ref b444)]))
    obtain ⟨_, _, ⟨T459, L459, k459, n459⟩, -, X459, ⟨Lc459, hQ459, l459, y459, z459⟩, st459⟩ := X456.specialBack hx (y := own_y5) rfl hown (mvT hZ (own_w hw 35 rfl)) (mvT hZ (own_w hw 36 rfl)) (mvT hZ (own_w hw 37 rfl)) (by decide) (backOf (W := 1) (rm_tsn l Z a0 hw [] b444 b456 b422 b433 (0 : Int32) k456 h456 n0 (Nat.le_trans Z0 K458.1) f457_2 f457_3 f457_4 f457_5 f457_6 f457_7 f457_8 f457_9 f457_10 f457_11 g_b444 V456 (Ne.symm ne_b444_b456)) hZ (own_w hw 37 rfl) (own_w hw 32 rfl) (by decide) (by decide)) (g := (mkF m 141 #[iv p1, iv p2, iv p3, iv p4, iv p5, iv p6, iv st, iv (1 : Int32), iv e0', iv e1', iv e2', rv b422, rv b433, .val .null, .val .null, .unset, .unset, .unset, .unset, .unset, .unset] [.null, .null, .null, (.int (0 : Int32)), (.ref b433), (.ref b433), (.ref b422), (.ref b456), (.ref b444), (.ref b444)])) rfl (by rw [hml]; rfl) (Steps.refl _) (a := b444) (argsL := [(.ref b456), (.ref b422), (.ref b433), (.ref b433), (.int (0 : Int32)), .null, .null, .null]) (rest := [(.ref b444)]) (lenOf pd___Ljava_lang_String_Lcom_example_paired_paths_pairedpaths_lts_PackedInts_Lcom_example_paired_paths_pairedpaths_lts_PackedInts_Lcom_example_paired_paths_pairedpaths_lts_PackedInts_I_I_ILcom_example_paired_paths_pairedpaths_lts_PackedInts__V_284 rfl) rfl (by show 2 * 0 + _ ≤ _; exact Nat.le_of_eq rfl) (hb hby at_141) (fun _ _ => ⟨rfl, e456, (by decide : 6 + 1 ≤ _), (by decide : 23 + 8 ≤ _)⟩)
    dsimp only [Pt.U, Pt.locs, Pt.cells, Pt.slots] at X459 l459 y459 z459 st459 hQ459
    subst l459 y459 z459
    obtain ⟨rfl, N459q, Kc459, gF459⟩ := hQ459
    have N459 := Fr.app N441 N459q
    have f460_0 := f457_0.keep Kc459
    have f460_1 := f457_1.keep Kc459
    have f460_2 := f457_2.keep Kc459
    have f460_12 := V456.keep Kc459 (ninS (Ne.symm ne_b444_b456) nin0)
    have K461 : Keep h0 T459.heap [] := K458.trans Kc459 (allS (Or.inr sz_b444) all0)
    refine own_tr st459 ?_
    show own_Fin p e below G (T459.setTop (mkF m 144 #[iv p1, iv p2, iv p3, iv p4, iv p5, iv p6, iv st, iv (1 : Int32), iv e0', iv e1', iv e2', rv b422, rv b433, .val .null, .val .null, .unset, .unset, .unset, .unset, .unset, .unset] [(.ref b444)]))
    refine own_st (fun _ k => XS.astore X459.here hx rfl (hb hby at_144) rfl rfl (l' := #[iv p1, iv p2, iv p3, iv p4, iv p5, iv p6, iv st, iv (1 : Int32), iv e0', iv e1', iv e2', rv b422, rv b433, .val .null, .val .null, rv b444, .unset, .unset, .unset, .unset, .unset]) rfl k) ?_
    show own_Fin p e below G (T459.setTop (mkF m 146 #[iv p1, iv p2, iv p3, iv p4, iv p5, iv p6, iv st, iv (1 : Int32), iv e0', iv e1', iv e2', rv b422, rv b433, .val .null, .val .null, rv b444, .unset, .unset, .unset, .unset, .unset] []))
    refine own_st (fun _ k => XS.aload X459.here hx rfl (hb hby at_146) rfl rfl k) ?_
    show own_Fin p e below G (T459.setTop (mkF m 148 #[iv p1, iv p2, iv p3, iv p4, iv p5, iv p6, iv st, iv (1 : Int32), iv e0', iv e1', iv e2', rv b422, rv b433, .val .null, .val .null, rv b444, .unset, .unset, .unset, .unset, .unset] [(.ref b444)]))
    refine own_st (fun _ k => XS.iload X459.here hx rfl (hb hby at_148) rfl  k) ?_
    show own_Fin p e below G (T459.setTop (mkF m 150 #[iv p1, iv p2, iv p3, iv p4, iv p5, iv p6, iv st, iv (1 : Int32), iv e0', iv e1', iv e2', rv b422, rv b433, .val .null, .val .null, rv b444, .unset, .unset, .unset, .unset, .unset] [(.int st), (.ref b444)]))
    obtain ⟨cq462, kq462, q462a, q462b, q462c⟩ := isOf hZ rfl f460_2
    obtain ⟨_, _, ⟨T462, L462, k462, n462⟩, -, X462, ⟨Lc462, hQ462, l462, y462, z462⟩, st462⟩ := X459.virtualBack hx (y := own_y6) (z := own_y6) hown (mvT hZ (own_w hw 73 rfl)) (mvT hZ (own_w hw 74 rfl)) (notFace_of_selects (args := #[]) (mvT hZ (own_w hw 76 rfl))) (mvT hZ (own_w hw 76 rfl)) (mvT hZ (own_w hw 75 rfl)) (by decide) (backOf (W := 0) (rm_waitingEndn l Z a0 hw [] b444 st T459.heap n0 (Nat.le_trans Z0 K461.1) gF459) hZ (own_w hw 77 rfl) (own_w hw 32 rfl) (by decide) (by decide)) q462a q462c (g := (mkF m 150 #[iv p1, iv p2, iv p3, iv p4, iv p5, iv p6, iv st, iv (1 : Int32), iv e0', iv e1', iv e2', rv b422, rv b433, .val .null, .val .null, rv b444, .unset, .unset, .unset, .unset, .unset] [(.int st), (.ref b444)])) rfl (by rw [hml]; rfl) (Steps.refl _) (argsL := [(.int st)]) (rest := []) (lenOf pd__I_I_227 rfl) rfl (by show 2 * 0 + _ ≤ _; exact Nat.le_of_eq rfl) (hb hby at_150) (fun _ _ => ⟨rfl, rfl, (by decide : 7 + 0 ≤ _), (by decide : 31 + 0 ≤ _)⟩)
    dsimp only [Pt.U, Pt.locs, Pt.cells, Pt.slots] at X462 l462 y462 z462 st462 hQ462
    subst l462 y462 z462
    obtain ⟨rfl, N462q, e462⟩ := hQ462
    skip
    have N462 := Fr.app N459 N462q
    refine own_tr st462 ?_
    show own_Fin p e below G (T462.setTop (mkF m 153 #[iv p1, iv p2, iv p3, iv p4, iv p5, iv p6, iv st, iv (1 : Int32), iv e0', iv e1', iv e2', rv b422, rv b433, .val .null, .val .null, rv b444, .unset, .unset, .unset, .unset, .unset] [(.int (0 : Int32))]))
    refine own_st (fun _ k => XS.istore X462.here hx rfl (hb hby at_153) rfl (l' := #[iv p1, iv p2, iv p3, iv p4, iv p5, iv p6, iv st, iv (1 : Int32), iv e0', iv e1', iv e2', rv b422, rv b433, .val .null, .val .null, rv b444, iv (0 : Int32), .unset, .unset, .unset, .unset]) rfl k) ?_
    show own_Fin p e below G (T462.setTop (mkF m 155 #[iv p1, iv p2, iv p3, iv p4, iv p5, iv p6, iv st, iv (1 : Int32), iv e0', iv e1', iv e2', rv b422, rv b433, .val .null, .val .null, rv b444, iv (0 : Int32), .unset, .unset, .unset, .unset] []))
    refine own_st (fun _ k => XS.aload X462.here hx rfl (hb hby at_155) rfl rfl k) ?_
    show own_Fin p e below G (T462.setTop (mkF m 157 #[iv p1, iv p2, iv p3, iv p4, iv p5, iv p6, iv st, iv (1 : Int32), iv e0', iv e1', iv e2', rv b422, rv b433, .val .null, .val .null, rv b444, iv (0 : Int32), .unset, .unset, .unset, .unset] [(.ref b444)]))
    refine own_st (fun _ k => XS.iload X462.here hx rfl (hb hby at_157) rfl  k) ?_
    show own_Fin p e below G (T462.setTop (mkF m 159 #[iv p1, iv p2, iv p3, iv p4, iv p5, iv p6, iv st, iv (1 : Int32), iv e0', iv e1', iv e2', rv b422, rv b433, .val .null, .val .null, rv b444, iv (0 : Int32), .unset, .unset, .unset, .unset] [(.int st), (.ref b444)]))
    obtain ⟨cq463, kq463, q463a, q463b, q463c⟩ := isOf hZ e462 f460_2
    obtain ⟨_, _, ⟨T463, L463, k463, n463⟩, -, X463, ⟨Lc463, hQ463, l463, y463, z463⟩, st463⟩ := X462.virtualBack hx (y := own_y7) (z := own_y7) hown (mvT hZ (own_w hw 78 rfl)) (mvT hZ (own_w hw 79 rfl)) (notFace_of_selects (args := #[]) (mvT hZ (own_w hw 81 rfl))) (mvT hZ (own_w hw 81 rfl)) (mvT hZ (own_w hw 80 rfl)) (by decide) (backOf (W := 0) (rm_waitingStartn l Z a0 hw [] b444 st T459.heap n0 (Nat.le_trans Z0 K461.1) gF459) hZ (own_w hw 82 rfl) (own_w hw 32 rfl) (by decide) (by decide)) q463a q463c (g := (mkF m 159 #[iv p1, iv p2, iv p3, iv p4, iv p5, iv p6, iv st, iv (1 : Int32), iv e0', iv e1', iv e2', rv b422, rv b433, .val .null, .val .null, rv b444, iv (0 : Int32), .unset, .unset, .unset, .unset] [(.int st), (.ref b444)])) rfl (by rw [hml]; rfl) (Steps.refl _) (argsL := [(.int st)]) (rest := []) (lenOf pd__I_I_227 rfl) rfl (by show 2 * 0 + _ ≤ _; exact Nat.le_of_eq rfl) (hb hby at_159) (fun _ _ => ⟨rfl, e462, (by decide : 7 + 0 ≤ _), (by decide : 31 + 0 ≤ _)⟩)
    dsimp only [Pt.U, Pt.locs, Pt.cells, Pt.slots] at X463 l463 y463 z463 st463 hQ463
    subst l463 y463 z463
    obtain ⟨rfl, N463q, e463⟩ := hQ463
    skip
    have N463 := Fr.app N462 N463q
    refine own_tr st463 ?_
    show own_Fin p e below G (T463.setTop (mkF m 162 #[iv p1, iv p2, iv p3, iv p4, iv p5, iv p6, iv st, iv (1 : Int32), iv e0', iv e1', iv e2', rv b422, rv b433, .val .null, .val .null, rv b444, iv (0 : Int32), .unset, .unset, .unset, .unset] [(.int (0 : Int32))]))
    refine own_st (fun _ k => XS.istore X463.here hx rfl (hb hby at_162) rfl (l' := #[iv p1, iv p2, iv p3, iv p4, iv p5, iv p6, iv st, iv (1 : Int32), iv e0', iv e1', iv e2', rv b422, rv b433, .val .null, .val .null, rv b444, iv (0 : Int32), iv (0 : Int32), .unset, .unset, .unset]) rfl k) ?_
    show own_Fin p e below G (T463.setTop (mkF m 164 #[iv p1, iv p2, iv p3, iv p4, iv p5, iv p6, iv st, iv (1 : Int32), iv e0', iv e1', iv e2', rv b422, rv b433, .val .null, .val .null, rv b444, iv (0 : Int32), iv (0 : Int32), .unset, .unset, .unset] []))
    refine own_st (fun _ k => XS.iload X463.here hx rfl (hb hby at_164) rfl  k) ?_
    show own_Fin p e below G (T463.setTop (mkF m 166 #[iv p1, iv p2, iv p3, iv p4, iv p5, iv p6, iv st, iv (1 : Int32), iv e0', iv e1', iv e2', rv b422, rv b433, .val .null, .val .null, rv b444, iv (0 : Int32), iv (0 : Int32), .unset, .unset, .unset] [(.int (1 : Int32))]))
    refine own_st (fun _ k => XS.ifNo X463.here hx rfl (hb hby at_166) rfl ((if0 _ _).trans (feq (by decide : ¬ ((1 : Int32) = (0 : Int32)))).1) k) ?_
    show own_Fin p e below G (T463.setTop (mkF m 169 #[iv p1, iv p2, iv p3, iv p4, iv p5, iv p6, iv st, iv (1 : Int32), iv e0', iv e1', iv e2', rv b422, rv b433, .val .null, .val .null, rv b444, iv (0 : Int32), iv (0 : Int32), .unset, .unset, .unset] []))
    refine own_st (fun _ k => XS.iload X463.here hx rfl (hb hby at_169) rfl  k) ?_
    show own_Fin p e below G (T463.setTop (mkF m 171 #[iv p1, iv p2, iv p3, iv p4, iv p5, iv p6, iv st, iv (1 : Int32), iv e0', iv e1', iv e2', rv b422, rv b433, .val .null, .val .null, rv b444, iv (0 : Int32), iv (0 : Int32), .unset, .unset, .unset] [(.int (0 : Int32))]))
    refine own_st (fun _ k => XS.ifNo X463.here hx rfl (hb hby at_171) rfl ((if0 _ _).trans (teq (by decide : ((0 : Int32) = (0 : Int32)))).2) k) ?_
    show own_Fin p e below G (T463.setTop (mkF m 174 #[iv p1, iv p2, iv p3, iv p4, iv p5, iv p6, iv st, iv (1 : Int32), iv e0', iv e1', iv e2', rv b422, rv b433, .val .null, .val .null, rv b444, iv (0 : Int32), iv (0 : Int32), .unset, .unset, .unset] []))
    refine own_st (fun _ k => XS.iload X463.here hx rfl (hb hby at_174) rfl  k) ?_
    show own_Fin p e below G (T463.setTop (mkF m 176 #[iv p1, iv p2, iv p3, iv p4, iv p5, iv p6, iv st, iv (1 : Int32), iv e0', iv e1', iv e2', rv b422, rv b433, .val .null, .val .null, rv b444, iv (0 : Int32), iv (0 : Int32), .unset, .unset, .unset] [(.int (0 : Int32))]))
    refine own_st (fun _ k => XS.ifNo X463.here hx rfl (hb hby at_176) rfl ((if0 _ _).trans (teq (by decide : ((0 : Int32) = (0 : Int32)))).2) k) ?_
    show own_Fin p e below G (T463.setTop (mkF m 179 #[iv p1, iv p2, iv p3, iv p4, iv p5, iv p6, iv st, iv (1 : Int32), iv e0', iv e1', iv e2', rv b422, rv b433, .val .null, .val .null, rv b444, iv (0 : Int32), iv (0 : Int32), .unset, .unset, .unset] []))
    refine own_st (fun _ k => XS.iconst X463.here hx rfl (hb hby at_179) k) ?_
    show own_Fin p e below G (T463.setTop (mkF m 180 #[iv p1, iv p2, iv p3, iv p4, iv p5, iv p6, iv st, iv (1 : Int32), iv e0', iv e1', iv e2', rv b422, rv b433, .val .null, .val .null, rv b444, iv (0 : Int32), iv (0 : Int32), .unset, .unset, .unset] [(.int (1 : Int32))]))
    refine own_st (fun _ k => XS.goto X463.here hx rfl (pc0 := 180) (pc' := 184) rfl (hb hby at_180) (by decide) (by decide) k) ?_
    show own_Fin p e below G (T463.setTop (mkF m 184 #[iv p1, iv p2, iv p3, iv p4, iv p5, iv p6, iv st, iv (1 : Int32), iv e0', iv e1', iv e2', rv b422, rv b433, .val .null, .val .null, rv b444, iv (0 : Int32), iv (0 : Int32), .unset, .unset, .unset] [(.int (1 : Int32))]))
    refine own_out X463 Bd.notSynchronized (v := (some (.int (1 : Int32)))) (fun h => by rw [Bd.returns] at h; cases h) hG (fun fs hr => retN X463 hx (t := .boolean) Bd.returns (by simp) (hb hby at_184) hr) (by decide) (by decide) ?_
    exact ⟨rfl, N463⟩

set_option maxRecDepth 65536 in
set_option maxHeartbeats 40000000 in
theorem comes_1 {Post : Tables → Env → Array Value → State → Outcome → State → Prop} (hpost : ∀ tb e args s v u, (limb_1_1.after args s (.returned v) u = true ∧ limb_1_2.after args s (.returned v) u = true ∧ True) → FrameEnd s (.returned v) u (Jvm.fieldLocs frame_1_writes args s ++ Jvm.arrayLocs frame_1_arrays args s ++ Jvm.staticLocs frame_1_statics s) 32 192 → Post tb e args s (.returned v) u) :
    ArmFor flags0 classFile x code maxLocals ret World_1 tables_1 room_1 Calls_1 rest_1 Pre_1 Post := by
  intro l hfl _ _ p e ha hc hk s m args below hf hA hF happ hP
  obtain ⟨hcalls, hrest, hpre⟩ := hP
  obtain ⟨-, -, -, hnamed, -, -, -, hat⟩ := (Spec.applies_iff hf).mp happ
  obtain ⟨hg, hn⟩ := and_e (Cond.before_iff.mp (show (Jvm.Cond.and given_1 narrow_1).before args s = true from hpre))
  obtain ⟨hg0, hh0⟩ := and_e hg
  obtain ⟨hg1, hh1⟩ := and_e hh0
  obtain ⟨hg2, hh2⟩ := and_e hh1
  obtain ⟨hg3, hh3⟩ := and_e hh2
  obtain ⟨hg4, hh4⟩ := and_e hh3
  obtain ⟨hg5, hh5⟩ := and_e hh4
  obtain ⟨w0, w1, w2, w3, w4, w5, rfl⟩ : ∃ w0 w1 w2 w3 w4 w5 : Value, args = #[w0, w1, w2, w3, w4, w5] := by
    have hs : args.size = 6 := by simpa [Cond.value, given_1] using hg0
    obtain ⟨L⟩ := args
    match L, hs with
    | [w0, w1, w2, w3, w4, w5], _ => exact ⟨w0, w1, w2, w3, w4, w5, rfl⟩
  have hw := fun d (hd : d ∈ tables_1) => atoms_spec (ws := Jvm.Cond.code x code maxLocals ret :: tables_1) hat d (List.mem_cons_of_mem _ hd)
  have hfit : Fit s := fun {y c} hc i hi => by
    obtain ⟨ha, rfl⟩ := Array.getElem?_eq_some_iff.mp hc
    have q := List.all_eq_true.mp ((Array.all_eq_true_iff_forall_mem.mp hF) _ (Array.getElem_mem ha)) i (List.mem_range.mpr hi)
    simpa [Array.getElem?_eq_getElem hi] using q
  obtain ⟨i0, ei0⟩ := is_v hg1
  obtain rfl : w0 = (.int i0) := Option.some.inj ei0
  obtain ⟨i1, ei1⟩ := is_v hg2
  obtain rfl : w1 = (.int i1) := Option.some.inj ei1
  obtain ⟨i2, ei2⟩ := is_v hg3
  obtain rfl : w2 = (.int i2) := Option.some.inj ei2
  obtain ⟨i3, ei3⟩ := is_v hg4
  obtain rfl : w3 = (.int i3) := Option.some.inj ei3
  obtain ⟨i4, ei4⟩ := is_v hg5
  obtain rfl : w4 = (.int i4) := Option.some.inj ei4
  obtain ⟨i5, ei5⟩ := is_v hh5
  obtain rfl : w5 = (.int i5) := Option.some.inj ei5
  obtain ⟨n, o, h1, h2, h3, _, L, rfl, ⟨rfl, N⟩, hq⟩ := rm0 l s _ hw tables_1 i0 i1 i2 i3 i4 i5 s.heap s.heap.size (Nat.le_refl _)  p e ha hc hk s m _ below hf ((Spec.applies_iff_loose hf).mp happ).1 ⟨rfl, State.Warmed39.refl s, rfl⟩ trivial
  refine ⟨n, _, h1, h2, h3, hpost _ _ _ _ _ _ ⟨Cond.after_iff.mpr rfl, Cond.after_iff.mpr (eq_i res_at (Term.int_eval (1)) rfl), trivial⟩ ⟨hq.1, hq.2.1, (hq.2.2.sift fun y hy => Or.inr (N y hy)).mono (by decide) (by decide)⟩⟩
theorem main_1_1 : Claimed_1_1 := comes_1 fun _ _ _ _ _ _ h hF => ⟨h.1, hF⟩
theorem main_1_2 : Claimed_1_2 := comes_1 fun _ _ _ _ _ _ h hF => ⟨h.2.1, hF⟩
end Jvm.Pilot.@@N@@
namespace Jvm.Pilot.@@N@@
open Jvm Jvm.ClassFile Sem Op Lib Jvm.Free Jvm.Stand Jvm.Pilot.@@N@@.Jvm.D
/-! MADE BY PROGRAM (witnessworld.py) out of the Statement's table words and the real class files: 24 classes; the members and pool entries that the words name. The judged class is class 1, her method 1. -/
namespace start1
open Jvm.ClassFile
def u (s : String) : CpInfo := .utf8 (stringToUtf16 s)
/-- a pool by its gaps: so many unusable entries, then the entry; so many at the end -/
def gap : Nat → List CpInfo → List CpInfo
  | 0, r => r
  | n + 1, r => .unusable :: gap n r
def poolList (es : List (Nat × CpInfo)) (last : Nat) : List CpInfo := es.foldr (fun e r => gap e.1 (e.2 :: r)) (gap last [])
def pool (es : List (Nat × CpInfo)) (last : Nat) : Array CpInfo := ⟨poolList es last⟩
def fileOf (pool : Array CpInfo) (this : Nat) (attrs : Array Attribute := #[]) (ms : Array MethodInfo := #[]) (fl : Nat := 33) (sup : Nat := 0) (ifs : Array Nat := #[]) (fds : Array FieldInfo := #[]) : ClassFile where
  minorVersion := 0
  majorVersion := 65
  constantPool := pool
  accessFlags := fl
  thisClass := this
  superClass := sup
  interfaces := ifs
  fields := fds
  methods := ms
  attributes := attrs
def plain (name : String) (sup : Option ClassId) : Class where
  name := name
  kind := .ordinary
  loader := none
  accessFlags := 33
  super := sup
  interfaces := #[]
  cf := none
  fields := #[]
  methods := #[]
  instanceTypes := #[]
  staticTypes := #[]
  resolved := #[]
  callSites := []
  init := .initialized
  statics := none
  mirror := none

def pool0 : Array CpInfo := pool [(5, u "<init>"), (0, u "()V"), (1, .class_ 10), (1, u "java/lang/Object")] 113

def k0c0 : Code := { maxStack := 0, maxLocals := 1, code := object_method_1_code, exceptionTable := #[], attributes := #[] }
def k0m0 : Method := { name := "<init>", desc := "()V", sig := { parameters := [], returnType := none }, accessFlags := 1, code := some k0c0 }
/-- java/lang/Object -/
def k0 : Class := { plain "java/lang/Object" none with
  accessFlags := 33
  interfaces := #[]
  cf := some (fileOf pool0 8 #[] #[{ accessFlags := 1, nameIndex := 5, descriptorIndex := 6, attributes := #[] }] 33 0 #[] #[])
  fields := #[]
  methods := #[k0m0]
  instanceTypes := #[]
  staticTypes := #[]
  resolved := Array.replicate 124 none
  statics := none }

def pool1 : Array CpInfo := pool [(2, .class_ 4), (1, u "java/lang/Object"), (0, u "<init>"), (0, u "()V"), (0, .integer 2147483647), (0, .class_ 9), (0, u "com/example/paired_paths/pairedpaths/lts/PackedInts"), (0, .methodref 8 11), (0, .nameAndType 5 12), (0, u "(II)V"), (0, .class_ 14), (0, u "com/example/paired_paths/pairedpaths/lts/TransitionSystem"), (0, .class_ 16), (0, u "java/lang/String"), (0, .methodref 13 18), (0, .nameAndType 5 19), (0, u "([Ljava/lang/String;Lcom/example/paired_paths/pairedpaths/lts/PackedInts;Lcom/example/paired_paths/pairedpaths/lts/PackedInts;Lcom/example/paired_paths/pairedpaths/lts/PackedInts;I[I[ILcom/example/paired_paths/pairedpaths/lts/PackedInts;)V"), (0, .methodref 13 21), (0, .nameAndType 22 23), (0, u "waitingEnd"), (0, u "(I)I"), (0, .methodref 13 25), (0, .nameAndType 26 23), (0, u "waitingStart"), (0, .class_ 28), (0, u "com/example/paired_paths/pairedpaths/lts/TransitionSystemWaitingEndPinLaw"), (2, u "law"), (0, u "(IIIIII)Z")] 7

def k1m0 : Method := { name := "<init>", desc := "()V", sig := { parameters := [], returnType := none }, accessFlags := 1, code := none }
def k1c1 : Code := { maxStack := 10, maxLocals := 21, code := code, exceptionTable := #[], attributes := #[] }
def k1m1 : Method := { name := "law", desc := "(IIIIII)Z", sig := { parameters := [.int, .int, .int, .int, .int, .int], returnType := some .boolean }, accessFlags := 9, code := some k1c1 }
/-- com/example/paired_paths/pairedpaths/lts/TransitionSystemWaitingEndPinLaw -/
def k1 : Class := { plain "com/example/paired_paths/pairedpaths/lts/TransitionSystemWaitingEndPinLaw" (some 0) with
  accessFlags := 49
  interfaces := #[]
  cf := some (fileOf pool1 27 #[] #[{ accessFlags := 1, nameIndex := 5, descriptorIndex := 6, attributes := #[] }, { accessFlags := 9, nameIndex := 31, descriptorIndex := 32, attributes := #[] }] 49 2 #[] #[])
  fields := #[]
  methods := #[k1m0, k1m1]
  instanceTypes := #[]
  staticTypes := #[]
  resolved := Array.replicate 40 none
  statics := none }

def pool2 : Array CpInfo := pool [(1, .methodref 2 3), (0, .class_ 4), (0, .nameAndType 5 6), (0, u "java/lang/Object"), (0, u "<init>"), (0, u "()V"), (9, .fieldref 17 18), (0, .class_ 19), (0, .nameAndType 20 21), (0, u "com/example/paired_paths/pairedpaths/lts/PackedInts"), (0, u "length"), (0, u "I"), (0, .fieldref 17 23), (0, .nameAndType 24 21), (0, u "largest"), (0, .methodref 26 27), (0, .class_ 28), (0, .nameAndType 29 30), (0, u "java/lang/Integer"), (0, u "numberOfLeadingZeros"), (0, u "(I)I"), (0, .fieldref 17 32), (0, .nameAndType 33 21), (0, u "width"), (0, .fieldref 17 35), (0, .nameAndType 36 37), (0, u "mask"), (0, u "J"), (0, .long 63), (1, .methodref 41 42), (0, .class_ 43), (0, .nameAndType 44 45), (0, u "java/lang/Math"), (0, u "max"), (0, u "(II)I"), (0, .fieldref 17 47), (0, .nameAndType 48 49), (0, u "words"), (0, u "[J"), (22, u "(II)V")] 45

def k2c0 : Code := { maxStack := 5, maxLocals := 3, code := prog_76_method_1_code, exceptionTable := #[], attributes := #[] }
def k2m0 : Method := { name := "<init>", desc := "(II)V", sig := { parameters := [.int, .int], returnType := none }, accessFlags := 1, code := some k2c0 }
/-- com/example/paired_paths/pairedpaths/lts/PackedInts -/
def k2 : Class := { plain "com/example/paired_paths/pairedpaths/lts/PackedInts" (some 0) with
  accessFlags := 33
  interfaces := #[]
  cf := some (fileOf pool2 17 #[] #[{ accessFlags := 1, nameIndex := 5, descriptorIndex := 72, attributes := #[] }] 33 2 #[] #[{ accessFlags := 18, nameIndex := 20, descriptorIndex := 21, attributes := #[] }, { accessFlags := 18, nameIndex := 24, descriptorIndex := 21, attributes := #[] }, { accessFlags := 18, nameIndex := 33, descriptorIndex := 21, attributes := #[] }, { accessFlags := 18, nameIndex := 36, descriptorIndex := 37, attributes := #[] }, { accessFlags := 18, nameIndex := 48, descriptorIndex := 49, attributes := #[] }])
  fields := #[{ name := "length", type := .int, accessFlags := 18, slot := 0, constantValue := 0 }, { name := "largest", type := .int, accessFlags := 18, slot := 1, constantValue := 0 }, { name := "width", type := .int, accessFlags := 18, slot := 2, constantValue := 0 }, { name := "mask", type := .long, accessFlags := 18, slot := 3, constantValue := 0 }, { name := "words", type := (.array .long), accessFlags := 18, slot := 4, constantValue := 0 }]
  methods := #[k2m0]
  instanceTypes := #[.int, .int, .int, .long, (.array .long)]
  staticTypes := #[]
  resolved := Array.replicate 118 none
  statics := none }

def pool3 : Array CpInfo := pool [(1, .class_ 2), (0, u "java/io/Serializable"), (0, .class_ 4), (0, u "java/lang/Object")] 2

/-- java/io/Serializable -/
def k3 : Class := { plain "java/io/Serializable" (some 0) with
  accessFlags := 1537
  interfaces := #[]
  cf := some (fileOf pool3 1 #[] #[] 1537 3 #[] #[])
  fields := #[]
  methods := #[]
  instanceTypes := #[]
  staticTypes := #[]
  resolved := Array.replicate 7 none
  statics := none }

def pool4 : Array CpInfo := pool [(2, .class_ 4), (1, u "java/lang/Object"), (0, u "<init>"), (0, u "()V"), (1, .class_ 10), (1, u "java/lang/Number"), (2, .class_ 14), (0, u "java/io/Serializable"), (0, u "serialVersionUID"), (0, u "J")] 20

def k4m0 : Method := { name := "<init>", desc := "()V", sig := { parameters := [], returnType := none }, accessFlags := 1, code := none }
/-- java/lang/Number -/
def k4 : Class := { plain "java/lang/Number" (some 0) with
  accessFlags := 1057
  interfaces := #[3]
  cf := some (fileOf pool4 8 #[] #[{ accessFlags := 1, nameIndex := 5, descriptorIndex := 6, attributes := #[] }] 1057 2 #[13] #[{ accessFlags := 26, nameIndex := 15, descriptorIndex := 16, attributes := #[] }])
  fields := #[{ name := "serialVersionUID", type := .long, accessFlags := 26, slot := 0, constantValue := 0 }]
  methods := #[k4m0]
  instanceTypes := #[]
  staticTypes := #[.long]
  resolved := Array.replicate 37 none
  statics := none }

def pool5 : Array CpInfo := pool [(1, .class_ 2), (0, u "java/lang/Comparable"), (0, .class_ 4), (0, u "java/lang/Object")] 7

/-- java/lang/Comparable -/
def k5 : Class := { plain "java/lang/Comparable" (some 0) with
  accessFlags := 1537
  interfaces := #[]
  cf := some (fileOf pool5 1 #[] #[] 1537 3 #[] #[])
  fields := #[]
  methods := #[]
  instanceTypes := #[]
  staticTypes := #[]
  resolved := Array.replicate 12 none
  statics := none }

def pool6 : Array CpInfo := pool [(1, .class_ 2), (0, u "java/lang/constant/Constable"), (0, .class_ 4), (0, u "java/lang/Object")] 6

/-- java/lang/constant/Constable -/
def k6 : Class := { plain "java/lang/constant/Constable" (some 0) with
  accessFlags := 1537
  interfaces := #[]
  cf := some (fileOf pool6 1 #[] #[] 1537 3 #[] #[])
  fields := #[]
  methods := #[]
  instanceTypes := #[]
  staticTypes := #[]
  resolved := Array.replicate 11 none
  statics := none }

def pool7 : Array CpInfo := pool [(1, .class_ 2), (0, u "java/lang/constant/ConstantDesc"), (0, .class_ 4), (0, u "java/lang/Object")] 32

/-- java/lang/constant/ConstantDesc -/
def k7 : Class := { plain "java/lang/constant/ConstantDesc" (some 0) with
  accessFlags := 1537
  interfaces := #[]
  cf := some (fileOf pool7 1 #[] #[] 1537 3 #[] #[])
  fields := #[]
  methods := #[]
  instanceTypes := #[]
  staticTypes := #[]
  resolved := Array.replicate 37 none
  statics := none }

def pool8 : Array CpInfo := pool [(1, .class_ 2), (0, u "java/lang/Integer"), (16, u "digits"), (0, u "[C"), (32, u "numberOfLeadingZeros"), (0, u "(I)I"), (30, u "DigitOnes"), (0, u "[B"), (2, u "DigitTens"), (99, .class_ 190), (0, u "java/lang/Integer$IntegerCache"), (3, u "I"), (8, .class_ 204), (0, u "java/lang/Number"), (2, u "value"), (94, u "TYPE"), (0, u "Ljava/lang/Class;"), (0, .class_ 305), (0, u "java/lang/Comparable"), (0, .class_ 307), (0, u "java/lang/constant/Constable"), (0, .class_ 309), (0, u "java/lang/constant/ConstantDesc"), (0, u "MIN_VALUE"), (1, u "MAX_VALUE"), (3, u "SIZE"), (1, u "BYTES"), (1, u "serialVersionUID"), (0, u "J")] 131

def k8c0 : Code := { maxStack := 3, maxLocals := 2, code := jdk_33_method_47_code, exceptionTable := #[], attributes := #[] }
def k8m0 : Method := { name := "numberOfLeadingZeros", desc := "(I)I", sig := { parameters := [.int], returnType := some .int }, accessFlags := 9, code := some k8c0 }
/-- java/lang/Integer -/
def k8 : Class := { plain "java/lang/Integer" (some 4) with
  accessFlags := 49
  interfaces := #[5, 6, 7]
  cf := some (fileOf pool8 1 #[.nestMembers #[189]] #[{ accessFlags := 9, nameIndex := 53, descriptorIndex := 54, attributes := #[] }] 49 203 #[304, 306, 308] #[{ accessFlags := 25, nameIndex := 310, descriptorIndex := 194, attributes := #[] }, { accessFlags := 25, nameIndex := 312, descriptorIndex := 194, attributes := #[] }, { accessFlags := 25, nameIndex := 302, descriptorIndex := 303, attributes := #[] }, { accessFlags := 24, nameIndex := 19, descriptorIndex := 20, attributes := #[] }, { accessFlags := 24, nameIndex := 89, descriptorIndex := 86, attributes := #[] }, { accessFlags := 24, nameIndex := 85, descriptorIndex := 86, attributes := #[] }, { accessFlags := 18, nameIndex := 207, descriptorIndex := 194, attributes := #[] }, { accessFlags := 25, nameIndex := 316, descriptorIndex := 194, attributes := #[] }, { accessFlags := 25, nameIndex := 318, descriptorIndex := 194, attributes := #[] }, { accessFlags := 26, nameIndex := 320, descriptorIndex := 321, attributes := #[] }])
  fields := #[{ name := "MIN_VALUE", type := .int, accessFlags := 25, slot := 0, constantValue := 0 }, { name := "MAX_VALUE", type := .int, accessFlags := 25, slot := 1, constantValue := 0 }, { name := "TYPE", type := (.object "java/lang/Class"), accessFlags := 25, slot := 2, constantValue := 0 }, { name := "digits", type := (.array .char), accessFlags := 24, slot := 3, constantValue := 0 }, { name := "DigitTens", type := (.array .byte), accessFlags := 24, slot := 4, constantValue := 0 }, { name := "DigitOnes", type := (.array .byte), accessFlags := 24, slot := 5, constantValue := 0 }, { name := "value", type := .int, accessFlags := 18, slot := 0, constantValue := 0 }, { name := "SIZE", type := .int, accessFlags := 25, slot := 6, constantValue := 0 }, { name := "BYTES", type := .int, accessFlags := 25, slot := 7, constantValue := 0 }, { name := "serialVersionUID", type := .long, accessFlags := 26, slot := 8, constantValue := 0 }]
  methods := #[k8m0]
  instanceTypes := #[.int]
  staticTypes := #[.int, .int, (.object "java/lang/Class"), (.array .char), (.array .byte), (.array .byte), .int, .int, .long]
  resolved := Array.replicate 453 none
  statics := none }

def pool9 : Array CpInfo := pool [(1, .class_ 2), (0, u "java/lang/Math"), (1, .class_ 6), (1, u "java/lang/Object"), (0, u "<init>"), (0, u "()V"), (89, .class_ 100), (1, u "java/lang/Math$RandomNumberGeneratorHolder"), (71, u "negativeZeroFloatBits"), (0, u "J"), (2, u "negativeZeroDoubleBits"), (21, u "max"), (46, u "$assertionsDisabled"), (0, u "Z"), (88, u "(II)I"), (2, u "twoToTheDoubleScaleDown"), (0, u "D"), (4, u "twoToTheDoubleScaleUp"), (9, u "E"), (3, u "PI"), (2, u "TAU"), (2, u "DEGREES_TO_RADIANS"), (0, u "RADIANS_TO_DEGREES")] 94

def k9m0 : Method := { name := "<init>", desc := "()V", sig := { parameters := [], returnType := none }, accessFlags := 2, code := none }
def k9c1 : Code := { maxStack := 2, maxLocals := 2, code := jdk_29_method_65_code, exceptionTable := #[], attributes := #[] }
def k9m1 : Method := { name := "max", desc := "(II)I", sig := { parameters := [.int, .int], returnType := some .int }, accessFlags := 9, code := some k9c1 }
/-- java/lang/Math -/
def k9 : Class := { plain "java/lang/Math" (some 0) with
  accessFlags := 49
  interfaces := #[]
  cf := some (fileOf pool9 1 #[.nestMembers #[98]] #[{ accessFlags := 2, nameIndex := 7, descriptorIndex := 8, attributes := #[] }, { accessFlags := 9, nameIndex := 198, descriptorIndex := 335, attributes := #[] }] 49 4 #[] #[{ accessFlags := 25, nameIndex := 354, descriptorIndex := 339, attributes := #[] }, { accessFlags := 25, nameIndex := 358, descriptorIndex := 339, attributes := #[] }, { accessFlags := 25, nameIndex := 361, descriptorIndex := 339, attributes := #[] }, { accessFlags := 26, nameIndex := 364, descriptorIndex := 339, attributes := #[] }, { accessFlags := 26, nameIndex := 365, descriptorIndex := 339, attributes := #[] }, { accessFlags := 26, nameIndex := 172, descriptorIndex := 173, attributes := #[] }, { accessFlags := 26, nameIndex := 176, descriptorIndex := 173, attributes := #[] }, { accessFlags := 8, nameIndex := 344, descriptorIndex := 339, attributes := #[] }, { accessFlags := 8, nameIndex := 338, descriptorIndex := 339, attributes := #[] }, { accessFlags := 4120, nameIndex := 245, descriptorIndex := 246, attributes := #[] }])
  fields := #[{ name := "E", type := .double, accessFlags := 25, slot := 0, constantValue := 0 }, { name := "PI", type := .double, accessFlags := 25, slot := 1, constantValue := 0 }, { name := "TAU", type := .double, accessFlags := 25, slot := 2, constantValue := 0 }, { name := "DEGREES_TO_RADIANS", type := .double, accessFlags := 26, slot := 3, constantValue := 0 }, { name := "RADIANS_TO_DEGREES", type := .double, accessFlags := 26, slot := 4, constantValue := 0 }, { name := "negativeZeroFloatBits", type := .long, accessFlags := 26, slot := 5, constantValue := 0 }, { name := "negativeZeroDoubleBits", type := .long, accessFlags := 26, slot := 6, constantValue := 0 }, { name := "twoToTheDoubleScaleUp", type := .double, accessFlags := 8, slot := 7, constantValue := 0 }, { name := "twoToTheDoubleScaleDown", type := .double, accessFlags := 8, slot := 8, constantValue := 0 }, { name := "$assertionsDisabled", type := .boolean, accessFlags := 4120, slot := 9, constantValue := 0 }]
  methods := #[k9m0, k9m1]
  instanceTypes := #[]
  staticTypes := #[.double, .double, .double, .double, .double, .long, .long, .double, .double, .boolean]
  resolved := Array.replicate 460 none
  statics := none }

def pool10 : Array CpInfo := pool [(1, .methodref 2 3), (0, .class_ 4), (0, .nameAndType 5 6), (0, u "java/lang/Object"), (0, u "<init>"), (0, u "()V"), (0, .class_ 8), (0, u "java/util/HashMap"), (0, .methodref 7 3), (0, .fieldref 11 12), (0, .class_ 13), (0, .nameAndType 14 15), (0, u "com/example/paired_paths/pairedpaths/lts/TransitionSystem"), (0, u "labelNumbers"), (0, u "Ljava/util/Map;"), (0, .fieldref 11 17), (0, .nameAndType 18 19), (0, u "labelTexts"), (0, u "[Ljava/lang/String;"), (12, .fieldref 11 33), (0, .nameAndType 34 35), (0, u "firstMove"), (0, u "Lcom/example/paired_paths/pairedpaths/lts/PackedInts;"), (0, .fieldref 11 37), (0, .nameAndType 38 35), (0, u "moveLabels"), (0, .fieldref 11 40), (0, .nameAndType 41 35), (0, u "moveTargets"), (0, .fieldref 11 43), (0, .nameAndType 44 45), (0, u "positionCount"), (0, u "I"), (0, .fieldref 11 47), (0, .nameAndType 48 49), (0, u "firstWaiting"), (0, u "[I"), (0, .fieldref 11 51), (0, .nameAndType 52 49), (0, u "waitingPositions"), (0, .fieldref 11 54), (0, .nameAndType 55 35), (0, u "sourceStates"), (9, u "(I)I"), (29, u "([Ljava/lang/String;Lcom/example/paired_paths/pairedpaths/lts/PackedInts;Lcom/example/paired_paths/pairedpaths/lts/PackedInts;Lcom/example/paired_paths/pairedpaths/lts/PackedInts;I[I[ILcom/example/paired_paths/pairedpaths/lts/PackedInts;)V"), (17, u "waitingStart"), (0, u "waitingEnd")] 3

def k10c0 : Code := { maxStack := 3, maxLocals := 10, code := prog_83_method_1_code, exceptionTable := #[], attributes := #[] }
def k10m0 : Method := { name := "<init>", desc := "([Ljava/lang/String;Lcom/example/paired_paths/pairedpaths/lts/PackedInts;Lcom/example/paired_paths/pairedpaths/lts/PackedInts;Lcom/example/paired_paths/pairedpaths/lts/PackedInts;I[I[ILcom/example/paired_paths/pairedpaths/lts/PackedInts;)V", sig := { parameters := [(.array (.object "java/lang/String")), (.object "com/example/paired_paths/pairedpaths/lts/PackedInts"), (.object "com/example/paired_paths/pairedpaths/lts/PackedInts"), (.object "com/example/paired_paths/pairedpaths/lts/PackedInts"), .int, (.array .int), (.array .int), (.object "com/example/paired_paths/pairedpaths/lts/PackedInts")], returnType := none }, accessFlags := 0, code := some k10c0 }
def k10c1 : Code := { maxStack := 2, maxLocals := 2, code := prog_83_method_18_code, exceptionTable := #[], attributes := #[] }
def k10m1 : Method := { name := "waitingStart", desc := "(I)I", sig := { parameters := [.int], returnType := some .int }, accessFlags := 1, code := some k10c1 }
def k10c2 : Code := { maxStack := 3, maxLocals := 2, code := prog_83_method_19_code, exceptionTable := #[], attributes := #[] }
def k10m2 : Method := { name := "waitingEnd", desc := "(I)I", sig := { parameters := [.int], returnType := some .int }, accessFlags := 1, code := some k10c2 }
/-- com/example/paired_paths/pairedpaths/lts/TransitionSystem -/
def k10 : Class := { plain "com/example/paired_paths/pairedpaths/lts/TransitionSystem" (some 0) with
  accessFlags := 33
  interfaces := #[]
  cf := some (fileOf pool10 11 #[] #[{ accessFlags := 0, nameIndex := 5, descriptorIndex := 95, attributes := #[] }, { accessFlags := 1, nameIndex := 113, descriptorIndex := 65, attributes := #[] }, { accessFlags := 1, nameIndex := 114, descriptorIndex := 65, attributes := #[] }] 33 2 #[] #[{ accessFlags := 18, nameIndex := 18, descriptorIndex := 19, attributes := #[] }, { accessFlags := 18, nameIndex := 14, descriptorIndex := 15, attributes := #[] }, { accessFlags := 18, nameIndex := 34, descriptorIndex := 35, attributes := #[] }, { accessFlags := 18, nameIndex := 38, descriptorIndex := 35, attributes := #[] }, { accessFlags := 18, nameIndex := 41, descriptorIndex := 35, attributes := #[] }, { accessFlags := 18, nameIndex := 44, descriptorIndex := 45, attributes := #[] }, { accessFlags := 18, nameIndex := 48, descriptorIndex := 49, attributes := #[] }, { accessFlags := 18, nameIndex := 52, descriptorIndex := 49, attributes := #[] }, { accessFlags := 18, nameIndex := 55, descriptorIndex := 35, attributes := #[] }])
  fields := #[{ name := "labelTexts", type := (.array (.object "java/lang/String")), accessFlags := 18, slot := 0, constantValue := 0 }, { name := "labelNumbers", type := (.object "java/util/Map"), accessFlags := 18, slot := 1, constantValue := 0 }, { name := "firstMove", type := (.object "com/example/paired_paths/pairedpaths/lts/PackedInts"), accessFlags := 18, slot := 2, constantValue := 0 }, { name := "moveLabels", type := (.object "com/example/paired_paths/pairedpaths/lts/PackedInts"), accessFlags := 18, slot := 3, constantValue := 0 }, { name := "moveTargets", type := (.object "com/example/paired_paths/pairedpaths/lts/PackedInts"), accessFlags := 18, slot := 4, constantValue := 0 }, { name := "positionCount", type := .int, accessFlags := 18, slot := 5, constantValue := 0 }, { name := "firstWaiting", type := (.array .int), accessFlags := 18, slot := 6, constantValue := 0 }, { name := "waitingPositions", type := (.array .int), accessFlags := 18, slot := 7, constantValue := 0 }, { name := "sourceStates", type := (.object "com/example/paired_paths/pairedpaths/lts/PackedInts"), accessFlags := 18, slot := 8, constantValue := 0 }]
  methods := #[k10m0, k10m1, k10m2]
  instanceTypes := #[(.array (.object "java/lang/String")), (.object "java/util/Map"), (.object "com/example/paired_paths/pairedpaths/lts/PackedInts"), (.object "com/example/paired_paths/pairedpaths/lts/PackedInts"), (.object "com/example/paired_paths/pairedpaths/lts/PackedInts"), .int, (.array .int), (.array .int), (.object "com/example/paired_paths/pairedpaths/lts/PackedInts")]
  staticTypes := #[]
  resolved := Array.replicate 118 none
  statics := none }

def pool11 : Array CpInfo := pool [(2, .class_ 4), (1, u "java/lang/CharSequence"), (42, .class_ 48), (0, u "java/lang/CharSequence$1CodePointIterator"), (10, .class_ 60), (0, u "java/lang/CharSequence$1CharIterator"), (5, .class_ 67), (0, u "java/lang/Object")] 63

/-- java/lang/CharSequence -/
def k11 : Class := { plain "java/lang/CharSequence" (some 0) with
  accessFlags := 1537
  interfaces := #[]
  cf := some (fileOf pool11 2 #[.nestMembers #[47, 59]] #[] 1537 66 #[] #[])
  fields := #[]
  methods := #[]
  instanceTypes := #[]
  staticTypes := #[]
  resolved := Array.replicate 131 none
  statics := none }

def pool12 : Array CpInfo := pool [(2, .class_ 4), (1, u "java/lang/Object"), (0, u "<init>"), (0, u "()V"), (3, .class_ 12), (1, u "java/lang/String"), (0, u "value"), (0, u "[B"), (2, u "coder"), (0, u "B"), (2, u "hash"), (0, u "I"), (2, u "hashIsZero"), (0, u "Z"), (13, u "COMPACT_STRINGS"), (534, .class_ 576), (0, u "java/lang/CharSequence"), (22, u "CASE_INSENSITIVE_ORDER"), (0, u "Ljava/util/Comparator;"), (500, u "serialPersistentFields"), (0, u "[Ljava/io/ObjectStreamField;"), (0, .class_ 1104), (0, u "java/lang/String$CaseInsensitiveComparator"), (1, .class_ 1107), (0, u "java/io/Serializable"), (0, .class_ 1109), (0, u "java/lang/Comparable"), (0, .class_ 1111), (0, u "java/lang/constant/Constable"), (0, .class_ 1113), (0, u "java/lang/constant/ConstantDesc"), (2, u "serialVersionUID"), (0, u "J"), (3, u "REPL"), (0, u "C"), (2, u "LATIN1"), (1, u "UTF16")] 323

def k12m0 : Method := { name := "<init>", desc := "()V", sig := { parameters := [], returnType := none }, accessFlags := 1, code := none }
/-- java/lang/String -/
def k12 : Class := { plain "java/lang/String" (some 0) with
  accessFlags := 49
  interfaces := #[3, 5, 11, 6, 7]
  cf := some (fileOf pool12 10 #[.nestMembers #[1103]] #[{ accessFlags := 1, nameIndex := 5, descriptorIndex := 6, attributes := #[] }] 49 2 #[1106, 1108, 575, 1110, 1112] #[{ accessFlags := 18, nameIndex := 13, descriptorIndex := 14, attributes := #[] }, { accessFlags := 18, nameIndex := 17, descriptorIndex := 18, attributes := #[] }, { accessFlags := 2, nameIndex := 21, descriptorIndex := 22, attributes := #[] }, { accessFlags := 2, nameIndex := 25, descriptorIndex := 26, attributes := #[] }, { accessFlags := 26, nameIndex := 1116, descriptorIndex := 1117, attributes := #[] }, { accessFlags := 24, nameIndex := 40, descriptorIndex := 26, attributes := #[] }, { accessFlags := 26, nameIndex := 1101, descriptorIndex := 1102, attributes := #[] }, { accessFlags := 26, nameIndex := 1121, descriptorIndex := 1122, attributes := #[] }, { accessFlags := 25, nameIndex := 599, descriptorIndex := 600, attributes := #[] }, { accessFlags := 24, nameIndex := 1125, descriptorIndex := 18, attributes := #[] }, { accessFlags := 24, nameIndex := 1127, descriptorIndex := 18, attributes := #[] }])
  fields := #[{ name := "value", type := (.array .byte), accessFlags := 18, slot := 0, constantValue := 0 }, { name := "coder", type := .byte, accessFlags := 18, slot := 1, constantValue := 0 }, { name := "hash", type := .int, accessFlags := 2, slot := 2, constantValue := 0 }, { name := "hashIsZero", type := .boolean, accessFlags := 2, slot := 3, constantValue := 0 }, { name := "serialVersionUID", type := .long, accessFlags := 26, slot := 0, constantValue := 0 }, { name := "COMPACT_STRINGS", type := .boolean, accessFlags := 24, slot := 1, constantValue := 0 }, { name := "serialPersistentFields", type := (.array (.object "java/io/ObjectStreamField")), accessFlags := 26, slot := 2, constantValue := 0 }, { name := "REPL", type := .char, accessFlags := 26, slot := 3, constantValue := 0 }, { name := "CASE_INSENSITIVE_ORDER", type := (.object "java/util/Comparator"), accessFlags := 25, slot := 4, constantValue := 0 }, { name := "LATIN1", type := .byte, accessFlags := 24, slot := 5, constantValue := 0 }, { name := "UTF16", type := .byte, accessFlags := 24, slot := 6, constantValue := 0 }]
  methods := #[k12m0]
  instanceTypes := #[(.array .byte), .byte, .int, .boolean]
  staticTypes := #[.long, .boolean, (.array (.object "java/io/ObjectStreamField")), .char, (.object "java/util/Comparator"), .byte, .byte]
  resolved := Array.replicate 1451 none
  statics := none }

def pool13 : Array CpInfo := pool [(2, .class_ 4), (1, u "java/util/Map"), (31, .class_ 37), (0, u "java/util/Map$Entry"), (55, .class_ 94), (0, u "java/lang/Object")] 168

/-- java/util/Map -/
def k13 : Class := { plain "java/util/Map" (some 0) with
  accessFlags := 1537
  interfaces := #[]
  cf := some (fileOf pool13 2 #[.nestMembers #[36]] #[] 1537 93 #[] #[])
  fields := #[]
  methods := #[]
  instanceTypes := #[]
  staticTypes := #[]
  resolved := Array.replicate 263 none
  statics := none }

def pool14 : Array CpInfo := pool [(1, .methodref 2 3), (0, .class_ 4), (0, .nameAndType 5 6), (0, u "java/lang/Object"), (0, u "<init>"), (0, u "()V"), (1, .class_ 10), (1, u "java/util/AbstractMap"), (42, .class_ 54), (0, u "java/util/Map"), (9, u "keySet"), (0, u "Ljava/util/Set;"), (0, .class_ 67), (0, u "java/util/AbstractMap$1"), (5, u "values"), (0, u "Ljava/util/Collection;"), (0, .class_ 76), (0, u "java/util/AbstractMap$2"), (104, .class_ 182), (0, u "java/util/AbstractMap$ViewCollection"), (0, .class_ 184), (0, u "java/util/AbstractMap$SimpleImmutableEntry"), (0, .class_ 186), (0, u "java/util/AbstractMap$SimpleEntry"), (0, .class_ 188), (0, u "java/util/AbstractMap$2$1"), (0, .class_ 190), (0, u "java/util/AbstractMap$1$1")] 5

def k14c0 : Code := { maxStack := 1, maxLocals := 1, code := jdk_71_method_1_code, exceptionTable := #[], attributes := #[] }
def k14m0 : Method := { name := "<init>", desc := "()V", sig := { parameters := [], returnType := none }, accessFlags := 4, code := some k14c0 }
/-- java/util/AbstractMap -/
def k14 : Class := { plain "java/util/AbstractMap" (some 0) with
  accessFlags := 1057
  interfaces := #[13]
  cf := some (fileOf pool14 8 #[.nestMembers #[181, 183, 185, 75, 187, 66, 189]] #[{ accessFlags := 4, nameIndex := 5, descriptorIndex := 6, attributes := #[] }] 1057 2 #[53] #[{ accessFlags := 128, nameIndex := 64, descriptorIndex := 65, attributes := #[] }, { accessFlags := 128, nameIndex := 73, descriptorIndex := 74, attributes := #[] }])
  fields := #[{ name := "keySet", type := (.object "java/util/Set"), accessFlags := 128, slot := 0, constantValue := 0 }, { name := "values", type := (.object "java/util/Collection"), accessFlags := 128, slot := 1, constantValue := 0 }]
  methods := #[k14m0]
  instanceTypes := #[(.object "java/util/Set"), (.object "java/util/Collection")]
  staticTypes := #[]
  resolved := Array.replicate 196 none
  statics := none }

def pool15 : Array CpInfo := pool [(1, .class_ 2), (0, u "java/lang/Cloneable"), (0, .class_ 4), (0, u "java/lang/Object")] 2

/-- java/lang/Cloneable -/
def k15 : Class := { plain "java/lang/Cloneable" (some 0) with
  accessFlags := 1537
  interfaces := #[]
  cf := some (fileOf pool15 1 #[] #[] 1537 3 #[] #[])
  fields := #[]
  methods := #[]
  instanceTypes := #[]
  staticTypes := #[]
  resolved := Array.replicate 7 none
  statics := none }

def pool16 : Array CpInfo := pool [(40, .class_ 41), (0, u "java/util/HashMap"), (1, .methodref 44 45), (0, .class_ 46), (0, .nameAndType 47 48), (0, u "java/util/AbstractMap"), (0, u "<init>"), (0, u "()V"), (32, .fieldref 40 82), (0, .nameAndType 83 84), (0, u "loadFactor"), (0, u "F"), (5, u "threshold"), (0, u "I"), (0, .float 1061158912), (8, .class_ 103), (1, u "java/util/Map"), (0, u "size"), (2, u "table"), (0, u "[Ljava/util/HashMap$Node;"), (14, u "entrySet"), (39, .class_ 165), (1, u "java/util/HashMap$Node"), (14, .class_ 181), (0, u "java/util/HashMap$TreeNode"), (22, u "modCount"), (37, u "Ljava/util/Set;"), (0, .class_ 244), (0, u "java/util/HashMap$KeySet"), (18, .class_ 264), (0, u "java/util/HashMap$Values"), (3, .class_ 269), (0, u "java/util/HashMap$EntrySet"), (76, .class_ 348), (1, u "java/util/HashMap$UnsafeHolder"), (43, .class_ 393), (0, u "java/lang/Cloneable"), (0, .class_ 395), (0, u "java/io/Serializable"), (0, u "serialVersionUID"), (0, u "J"), (3, u "DEFAULT_INITIAL_CAPACITY"), (1, u "MAXIMUM_CAPACITY"), (0, u "DEFAULT_LOAD_FACTOR"), (0, u "TREEIFY_THRESHOLD"), (1, u "UNTREEIFY_THRESHOLD"), (1, u "MIN_TREEIFY_CAPACITY"), (186, .class_ 597), (0, u "java/util/HashMap$EntrySpliterator"), (0, .class_ 599), (0, u "java/util/HashMap$ValueSpliterator"), (0, .class_ 601), (0, u "java/util/HashMap$KeySpliterator"), (0, .class_ 603), (0, u "java/util/HashMap$HashMapSpliterator"), (0, .class_ 605), (0, u "java/util/HashMap$EntryIterator"), (0, .class_ 607), (0, u "java/util/HashMap$ValueIterator"), (0, .class_ 609), (0, u "java/util/HashMap$KeyIterator"), (0, .class_ 611), (0, u "java/util/HashMap$HashIterator")] 17

def k16c0 : Code := { maxStack := 2, maxLocals := 1, code := jdk_69_method_7_code, exceptionTable := #[], attributes := #[] }
def k16m0 : Method := { name := "<init>", desc := "()V", sig := { parameters := [], returnType := none }, accessFlags := 1, code := some k16c0 }
/-- java/util/HashMap -/
def k16 : Class := { plain "java/util/HashMap" (some 14) with
  accessFlags := 33
  interfaces := #[13, 15, 3]
  cf := some (fileOf pool16 40 #[.nestMembers #[180, 596, 598, 600, 602, 604, 606, 608, 610, 346, 268, 263, 243, 163]] #[{ accessFlags := 1, nameIndex := 47, descriptorIndex := 48, attributes := #[] }] 33 44 #[101, 392, 394] #[{ accessFlags := 26, nameIndex := 396, descriptorIndex := 397, attributes := #[] }, { accessFlags := 24, nameIndex := 401, descriptorIndex := 91, attributes := #[] }, { accessFlags := 24, nameIndex := 403, descriptorIndex := 91, attributes := #[] }, { accessFlags := 24, nameIndex := 404, descriptorIndex := 84, attributes := #[] }, { accessFlags := 24, nameIndex := 405, descriptorIndex := 91, attributes := #[] }, { accessFlags := 24, nameIndex := 407, descriptorIndex := 91, attributes := #[] }, { accessFlags := 24, nameIndex := 409, descriptorIndex := 91, attributes := #[] }, { accessFlags := 128, nameIndex := 107, descriptorIndex := 108, attributes := #[] }, { accessFlags := 128, nameIndex := 123, descriptorIndex := 242, attributes := #[] }, { accessFlags := 128, nameIndex := 104, descriptorIndex := 91, attributes := #[] }, { accessFlags := 128, nameIndex := 204, descriptorIndex := 91, attributes := #[] }, { accessFlags := 0, nameIndex := 90, descriptorIndex := 91, attributes := #[] }, { accessFlags := 16, nameIndex := 83, descriptorIndex := 84, attributes := #[] }])
  fields := #[{ name := "serialVersionUID", type := .long, accessFlags := 26, slot := 0, constantValue := 0 }, { name := "DEFAULT_INITIAL_CAPACITY", type := .int, accessFlags := 24, slot := 1, constantValue := 0 }, { name := "MAXIMUM_CAPACITY", type := .int, accessFlags := 24, slot := 2, constantValue := 0 }, { name := "DEFAULT_LOAD_FACTOR", type := .float, accessFlags := 24, slot := 3, constantValue := 0 }, { name := "TREEIFY_THRESHOLD", type := .int, accessFlags := 24, slot := 4, constantValue := 0 }, { name := "UNTREEIFY_THRESHOLD", type := .int, accessFlags := 24, slot := 5, constantValue := 0 }, { name := "MIN_TREEIFY_CAPACITY", type := .int, accessFlags := 24, slot := 6, constantValue := 0 }, { name := "table", type := (.array (.object "java/util/HashMap$Node")), accessFlags := 128, slot := 2, constantValue := 0 }, { name := "entrySet", type := (.object "java/util/Set"), accessFlags := 128, slot := 3, constantValue := 0 }, { name := "size", type := .int, accessFlags := 128, slot := 4, constantValue := 0 }, { name := "modCount", type := .int, accessFlags := 128, slot := 5, constantValue := 0 }, { name := "threshold", type := .int, accessFlags := 0, slot := 6, constantValue := 0 }, { name := "loadFactor", type := .float, accessFlags := 16, slot := 7, constantValue := 0 }]
  methods := #[k16m0]
  instanceTypes := #[(.object "java/util/Set"), (.object "java/util/Collection"), (.array (.object "java/util/HashMap$Node")), (.object "java/util/Set"), .int, .int, .int, .float]
  staticTypes := #[.long, .int, .int, .float, .int, .int, .int]
  resolved := Array.replicate 629 none
  statics := none }

/-- the primitive byte -/
def k17 : Class := { plain "byte" none with kind := .primitive 'B', accessFlags := 0x411 }
/-- [B -/
def k18 : Class := { plain "[B" (some 0) with kind := .array 17 .byte, interfaces := #[15, 3], accessFlags := 1041 }

/-- the primitive int -/
def k19 : Class := { plain "int" none with kind := .primitive 'I', accessFlags := 0x411 }
/-- [I -/
def k20 : Class := { plain "[I" (some 0) with kind := .array 19 .int, interfaces := #[15, 3], accessFlags := 1041 }

/-- the primitive long -/
def k21 : Class := { plain "long" none with kind := .primitive 'J', accessFlags := 0x411 }
/-- [J -/
def k22 : Class := { plain "[J" (some 0) with kind := .array 21 .long, interfaces := #[15, 3], accessFlags := 1041 }

/-- [Ljava/lang/String; -/
def k23 : Class := { plain "[Ljava/lang/String;" (some 0) with kind := .array 12 (.object "java/lang/String"), interfaces := #[15, 3], accessFlags := 1041 }

def heap : Heap := #[]
def classes : Array Class := #[k0, k1, k2, k3, k4, k5, k6, k7, k8, k9, k10, k11, k12, k13, k14, k15, k16, k17, k18, k19, k20, k21, k22, k23]
def interned : List (Array UInt16 × Addr) := []
def slotsUsed : Nat := 0
def theMethod : MethodId := ⟨1, 1⟩
def args0 : Array Value := #[.int 5, .int 8, .int 11, .int 14, .int 17, .int 20]
def aboutOver (below : List Frame) : State where
  vm := { classes := classes, interned := interned.toArray }
  heap := heap
  slotsUsed := slotsUsed
  threads := #[{ frames := .invoking theMethod args0 :: below }]
def below0 : List Frame := [.native { method := ⟨0, 0⟩, args := #[] }]
def about1 : State := aboutOver below0
def p0 : Program := .bare "" "" ""
def e0 : Env := launch0.env 0 0 0
theorem w_frames : about1.frames = Frame.invoking theMethod args0 :: below0 := rfl
set_option maxRecDepth 65536 in
theorem w_args : argsFit about1.vm theMethod args0 = true := by decide +kernel
set_option maxRecDepth 65536 in
theorem w_heap : heapFits about1 = true := by decide +kernel
set_option maxRecDepth 65536 in
theorem w_runnable : about1.curStatus? = some .runnable := by decide +kernel
set_option maxRecDepth 65536 in
theorem w_alone : about1.alone = true := by decide +kernel
set_option maxRecDepth 65536 in
theorem w_named : about1.methodNamed? x = some theMethod := by decide +kernel
set_option maxRecDepth 65536 in
theorem w_hears : about1.hears theMethod below0 = true := by decide +kernel
set_option maxRecDepth 65536 in
theorem w_ripe : about1.ripe theMethod args0 below0 = true := by decide +kernel
theorem w_running : about1.status = .running := rfl
set_option maxRecDepth 65536 in
theorem w_room : about1.hasRoom e0.platform room_1 = true :=
  launch0.hasRoom_least _ room_1 (by decide +kernel) (by decide +kernel) (by decide +kernel) (by decide +kernel) (by decide +kernel) (by decide +kernel)
theorem allAtoms_all (ts : List Jvm.Cond) (a : Array Jvm.Value) (st : Jvm.State) : (allAtoms ts).before a st = ts.all (fun c => c.before a st) := by
  induction ts with
  | nil => rfl
  | cons c t ih =>
    show (Jvm.Cond.and c (allAtoms t)).before a st = _
    rw [Jvm.Cond.before_and, ih, List.all_cons]
def words1 : List Jvm.Cond := Jvm.Cond.code x code maxLocals ret :: tables_1
/-- a 'code' word, met by the world's own term for the bytes: nothing is compared byte by byte -/
theorem code_word {y : MethodName} {bytes : ByteArray} {mx : Nat} {rt : Option FieldType} {a : Array Value} {s : State} {m : MethodId} {meth : Method} {c : Code} (h1 : s.methodNamed? y = some m) (h2 : s.vm.method? m = some meth) (h3 : meth.code = some c) (h4 : c.code = bytes)
    (h5 : (c.maxLocals == mx && c.exceptionTable.isEmpty && decide (c.maxStack ≤ mostOperands) && decide (meth.sig.returnType = rt) && !meth.locks && decide (parseMethodDescriptor y.desc = some meth.sig)) = true) : (Jvm.Cond.code y bytes mx rt).before a s = true := by
  simp only [Bool.and_eq_true, beq_iff_eq, Bool.not_eq_true', decide_eq_true_eq] at h5
  obtain ⟨⟨⟨⟨⟨g1, g2⟩, g3⟩, g4⟩, g5⟩, g6⟩ := h5
  simp [Cond.before, Cond.holds, Cond.value, h1, h2, h3, h4, g1, g2, g3, g4, g5, g6]
def isCode : Jvm.Cond → Bool
  | .code _ _ _ _ => true
  | _ => false
theorem all_split {L : List Jvm.Cond} {P : Jvm.Cond → Bool} (h1 : L.all (fun c => isCode c || P c) = true) (h2 : ∀ c ∈ L.filter isCode, P c = true) : L.all P = true := by
  refine List.all_eq_true.mpr fun c hc => ?_
  have h := List.all_eq_true.mp h1 c hc
  rcases Bool.eq_false_or_eq_true (isCode c) with hi | hi
  · exact h2 c (List.mem_filter.mpr ⟨hc, hi⟩)
  · simpa [hi] using h
set_option maxRecDepth 65536 in
theorem w_c0 : (Jvm.Cond.code x code maxLocals ret).before args0 about1 = true := code_word (m := ⟨1, 1⟩) (meth := k1m1) (c := k1c1) (by decide +kernel) rfl rfl rfl (by decide +kernel)
set_option maxRecDepth 65536 in
theorem w_c1 : (Jvm.Cond.code ({ cls := "com/example/paired_paths/pairedpaths/lts/PackedInts", name := "<init>", desc := "(II)V" } : Jvm.MethodName) prog_76_method_1_code (3 : Nat) (Option.none : Option Jvm.ClassFile.FieldType)).before args0 about1 = true := code_word (m := ⟨2, 0⟩) (meth := k2m0) (c := k2c0) (by decide +kernel) rfl rfl rfl (by decide +kernel)
set_option maxRecDepth 65536 in
theorem w_c2 : (Jvm.Cond.code ({ cls := "java/lang/Object", name := "<init>", desc := "()V" } : Jvm.MethodName) object_method_1_code (1 : Nat) (Option.none : Option Jvm.ClassFile.FieldType)).before args0 about1 = true := code_word (m := ⟨0, 0⟩) (meth := k0m0) (c := k0c0) (by decide +kernel) rfl rfl rfl (by decide +kernel)
set_option maxRecDepth 65536 in
theorem w_c3 : (Jvm.Cond.code ({ cls := "java/lang/Integer", name := "numberOfLeadingZeros", desc := "(I)I" } : Jvm.MethodName) jdk_33_method_47_code (2 : Nat) (Option.some Jvm.ClassFile.FieldType.int)).before args0 about1 = true := code_word (m := ⟨8, 0⟩) (meth := k8m0) (c := k8c0) (by decide +kernel) rfl rfl rfl (by decide +kernel)
set_option maxRecDepth 65536 in
theorem w_c4 : (Jvm.Cond.code ({ cls := "java/lang/Math", name := "max", desc := "(II)I" } : Jvm.MethodName) jdk_29_method_65_code (2 : Nat) (Option.some Jvm.ClassFile.FieldType.int)).before args0 about1 = true := code_word (m := ⟨9, 1⟩) (meth := k9m1) (c := k9c1) (by decide +kernel) rfl rfl rfl (by decide +kernel)
set_option maxRecDepth 65536 in
theorem w_c5 : (Jvm.Cond.code ({ cls := "com/example/paired_paths/pairedpaths/lts/TransitionSystem", name := "<init>", desc := "([Ljava/lang/String;Lcom/example/paired_paths/pairedpaths/lts/PackedInts;Lcom/example/paired_paths/pairedpaths/lts/PackedInts;Lcom/example/paired_paths/pairedpaths/lts/PackedInts;I[I[ILcom/example/paired_paths/pairedpaths/lts/PackedInts;)V" } : Jvm.MethodName) prog_83_method_1_code (10 : Nat) (Option.none : Option Jvm.ClassFile.FieldType)).before args0 about1 = true := code_word (m := ⟨10, 0⟩) (meth := k10m0) (c := k10c0) (by decide +kernel) rfl rfl rfl (by decide +kernel)
set_option maxRecDepth 65536 in
theorem w_c6 : (Jvm.Cond.code ({ cls := "java/util/HashMap", name := "<init>", desc := "()V" } : Jvm.MethodName) jdk_69_method_7_code (1 : Nat) (Option.none : Option Jvm.ClassFile.FieldType)).before args0 about1 = true := code_word (m := ⟨16, 0⟩) (meth := k16m0) (c := k16c0) (by decide +kernel) rfl rfl rfl (by decide +kernel)
set_option maxRecDepth 65536 in
theorem w_c7 : (Jvm.Cond.code ({ cls := "java/util/AbstractMap", name := "<init>", desc := "()V" } : Jvm.MethodName) jdk_71_method_1_code (1 : Nat) (Option.none : Option Jvm.ClassFile.FieldType)).before args0 about1 = true := code_word (m := ⟨14, 0⟩) (meth := k14m0) (c := k14c0) (by decide +kernel) rfl rfl rfl (by decide +kernel)
set_option maxRecDepth 65536 in
theorem w_c8 : (Jvm.Cond.code ({ cls := "com/example/paired_paths/pairedpaths/lts/TransitionSystem", name := "waitingEnd", desc := "(I)I" } : Jvm.MethodName) prog_83_method_19_code (2 : Nat) (Option.some Jvm.ClassFile.FieldType.int)).before args0 about1 = true := code_word (m := ⟨10, 2⟩) (meth := k10m2) (c := k10c2) (by decide +kernel) rfl rfl rfl (by decide +kernel)
set_option maxRecDepth 65536 in
theorem w_c9 : (Jvm.Cond.code ({ cls := "com/example/paired_paths/pairedpaths/lts/TransitionSystem", name := "waitingStart", desc := "(I)I" } : Jvm.MethodName) prog_83_method_18_code (2 : Nat) (Option.some Jvm.ClassFile.FieldType.int)).before args0 about1 = true := code_word (m := ⟨10, 1⟩) (meth := k10m1) (c := k10c1) (by decide +kernel) rfl rfl rfl (by decide +kernel)
def codes1 : List Jvm.Cond := [Jvm.Cond.code x code maxLocals ret, Jvm.Cond.code ({ cls := "com/example/paired_paths/pairedpaths/lts/PackedInts", name := "<init>", desc := "(II)V" } : Jvm.MethodName) prog_76_method_1_code (3 : Nat) (Option.none : Option Jvm.ClassFile.FieldType), Jvm.Cond.code ({ cls := "java/lang/Object", name := "<init>", desc := "()V" } : Jvm.MethodName) object_method_1_code (1 : Nat) (Option.none : Option Jvm.ClassFile.FieldType), Jvm.Cond.code ({ cls := "java/lang/Integer", name := "numberOfLeadingZeros", desc := "(I)I" } : Jvm.MethodName) jdk_33_method_47_code (2 : Nat) (Option.some Jvm.ClassFile.FieldType.int), Jvm.Cond.code ({ cls := "java/lang/Math", name := "max", desc := "(II)I" } : Jvm.MethodName) jdk_29_method_65_code (2 : Nat) (Option.some Jvm.ClassFile.FieldType.int), Jvm.Cond.code ({ cls := "com/example/paired_paths/pairedpaths/lts/TransitionSystem", name := "<init>", desc := "([Ljava/lang/String;Lcom/example/paired_paths/pairedpaths/lts/PackedInts;Lcom/example/paired_paths/pairedpaths/lts/PackedInts;Lcom/example/paired_paths/pairedpaths/lts/PackedInts;I[I[ILcom/example/paired_paths/pairedpaths/lts/PackedInts;)V" } : Jvm.MethodName) prog_83_method_1_code (10 : Nat) (Option.none : Option Jvm.ClassFile.FieldType), Jvm.Cond.code ({ cls := "java/util/HashMap", name := "<init>", desc := "()V" } : Jvm.MethodName) jdk_69_method_7_code (1 : Nat) (Option.none : Option Jvm.ClassFile.FieldType), Jvm.Cond.code ({ cls := "java/util/AbstractMap", name := "<init>", desc := "()V" } : Jvm.MethodName) jdk_71_method_1_code (1 : Nat) (Option.none : Option Jvm.ClassFile.FieldType), Jvm.Cond.code ({ cls := "com/example/paired_paths/pairedpaths/lts/TransitionSystem", name := "waitingEnd", desc := "(I)I" } : Jvm.MethodName) prog_83_method_19_code (2 : Nat) (Option.some Jvm.ClassFile.FieldType.int), Jvm.Cond.code ({ cls := "com/example/paired_paths/pairedpaths/lts/TransitionSystem", name := "waitingStart", desc := "(I)I" } : Jvm.MethodName) prog_83_method_18_code (2 : Nat) (Option.some Jvm.ClassFile.FieldType.int)]
set_option maxRecDepth 65536 in
theorem codes_eq : words1.filter isCode = codes1 := rfl
theorem w_codes : ∀ c ∈ words1.filter isCode, c.before args0 about1 = true := by
  rw [codes_eq]
  intro c hc
  simp only [codes1, List.mem_cons, List.not_mem_nil, or_false] at hc
  rcases hc with rfl | rfl | rfl | rfl | rfl | rfl | rfl | rfl | rfl | rfl
  · exact w_c0
  · exact w_c1
  · exact w_c2
  · exact w_c3
  · exact w_c4
  · exact w_c5
  · exact w_c6
  · exact w_c7
  · exact w_c8
  · exact w_c9
set_option maxRecDepth 65536 in
theorem w_t1 : (words1.take 24).all (fun c => isCode c || c.before args0 about1) = true := by decide +kernel
set_option maxRecDepth 65536 in
theorem w_t2 : ((words1.drop 24).take 24).all (fun c => isCode c || c.before args0 about1) = true := by decide +kernel
set_option maxRecDepth 65536 in
theorem w_t3 : (((words1.drop 24).drop 24).take 24).all (fun c => isCode c || c.before args0 about1) = true := by decide +kernel
set_option maxRecDepth 65536 in
theorem w_t4 : (((words1.drop 24).drop 24).drop 24).all (fun c => isCode c || c.before args0 about1) = true := by decide +kernel
theorem w_tables : (allAtoms (Jvm.Cond.code x code maxLocals ret :: tables_1)).before args0 about1 = true := by
  rw [allAtoms_all]
  show words1.all (fun c => c.before args0 about1) = true
  refine all_split ?_ w_codes
  rw [← List.take_append_drop 24 words1, List.all_append, w_t1, ← List.take_append_drop 24 (words1.drop 24), List.all_append, w_t2, ← List.take_append_drop 24 ((words1.drop 24).drop 24), List.all_append, w_t3, w_t4]
  rfl
set_option maxRecDepth 65536 in
theorem w_case : (Jvm.Cond.and given_1 narrow_1).before args0 about1 = true := by decide +kernel
theorem w_applies : (headSpec (Jvm.Cond.code x code maxLocals ret :: tables_1) room_1).applies x e0.platform about1 = true :=
  (Spec.applies_iff w_frames).mpr ⟨w_running, w_runnable, w_alone, w_named, w_hears, w_ripe, w_room, w_tables⟩
theorem atStart : AtStart classFile x code maxLocals ret World_1 tables_1 room_1 Calls_1 rest_1 Pre_1 launch0 p0 e0 about1 theMethod args0 below0 :=
  ⟨lists_1, trivial, launch0.admits_env _ _ _, launch0.least_env, fairChoices_fair.cas, fairChoices_fair.clock, w_frames, w_args, w_heap, w_applies, trivial, trivial, w_case⟩
end start1
theorem witness_1 : WitnessClaimed_1 := ⟨start1.p0, start1.e0, start1.about1, start1.theMethod, start1.args0, start1.below0, start1.atStart⟩
end Jvm.Pilot.@@N@@
