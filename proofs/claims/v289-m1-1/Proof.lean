import JvmDerived
import JvmDerived.Pilot.@@N@@Statement
import JvmDerived.Pilot.@@N@@Code
set_option linter.unusedVariables false
set_option linter.unusedSimpArgs false
namespace Jvm.Pilot.@@N@@
open Jvm Jvm.ClassFile Sem Op Lib Jvm.Free Jvm.Stand Jvm.LawKit Jvm.RoadKit Bundle Jvm.Pilot.@@N@@.Jvm.D

theorem own_w {Z : State} {a0 : Array Value} (hw : ∀ d ∈ tables_1, d.before a0 Z = true) (i : Nat) {d : Jvm.Cond} (h : tables_1[i]? = some d) : d.before a0 Z = true := hw d (List.mem_of_getElem? h)
def own_Fin (p : Program) (e : Env) (below : List Frame) (G : Outcome → State → Prop) (st : State) : Prop := ∃ t o, Steps p.tables e below st t ∧ t.status = .running ∧ Ended t below o ∧ G o t
section OwnKit
variable {p : Program} {l : Launch} {e : Env} {R : Room} {s : State} {m : MethodId} {args : Array Value} {below : List Frame} {meth : Method} {c : Code} {T : State} {locs : List Loc} {cells slots : Nat} {Z : State} {a0 : Array Value} {h h' : Heap} {G : Outcome → State → Prop} {st st' : State} {Qk : Option Value → Heap → List Loc → Prop} {K N : Nat} {a b : Addr} {ty : FieldType} {vs : List Value} {ws : List Addr} {sl : Nat} {v : Value}
theorem own_st (k : ∀ target, Steps p.tables e below st' target → Steps p.tables e below st target) (q : own_Fin p e below G st') : own_Fin p e below G st := by
  obtain ⟨t, o, h1, h2⟩ := q; exact ⟨t, o, k t h1, h2⟩
theorem own_tr (k : Steps p.tables e below st st') (q : own_Fin p e below G st') : own_Fin p e below G st := by
  obtain ⟨t, o, h1, h2⟩ := q; exact ⟨t, o, k.trans h1, h2⟩
theorem own_start (q : ∀ G : Outcome → State → Prop, (∀ v L t, Qk v t.heap L → FrameEnd s (.returned v) t L K N → G (.returned v) t) → own_Fin p e below G st) : ∃ s₂ o, Steps p.tables e below st s₂ ∧ s₂.status = .running ∧ Ended s₂ below o ∧ ∃ v L, o = .returned v ∧ Qk v s₂.heap L ∧ FrameEnd s o s₂ L K N :=
  q _ (fun v L t q f => ⟨v, L, rfl, q, f⟩)
theorem own_out (X : Stand p l e R s m args below meth c T locs cells slots) (hlocks : meth.locks = false) {v : Option Value} (hv : meth.sig.returnType = none → v = none) (hG : ∀ v L t, Qk v t.heap L → FrameEnd s (.returned v) t L K N → G (.returned v) t)
    (hstep : ∀ fs, (∀ (f : JFrame) (acts : List Action), f.method = m → f.locked = none → f.entered = [] → (doReturn e (T.setTop f) acts v).1 = T.setFrames fs) → Steps p.tables e below st (T.setFrames fs)) (hc : cells ≤ K) (hn : slots ≤ N) (hQ : Qk v T.heap locs) : own_Fin p e below G st := by
  obtain ⟨fs, hr, hrun, hended, hW, hsame⟩ := X.leave hv hlocks
  exact ⟨_, _, hstep fs hr, hrun, hended, hG _ _ _ hQ ⟨⟨_, rfl⟩, hW, hsame.mono hc hn⟩⟩
theorem own_ldc (X : Stand p l e R s m args below meth c T locs cells slots) (hx : p.tables.exec = Jvm.exec) (hZ : Z.Warmed39 s.vm) {own : String} {index : Nat} {v : Int32} (hown : s.vm.findClass own = some m.cls) (w : (Cond.constant own index v).before a0 Z = true) {g : JFrame} (hg : g.method = m) (hd : decode c.code g.pc = .ok (.ldc index, 2)) {target : State}
    (kk : Steps p.tables e below (T.setTop { g with pc := g.pc + 2, stack := .int v :: g.stack }) target) : Steps p.tables e below (T.setTop g) target := X.ldcInt hx hown (mvT hZ w) hg hd target kk
theorem own_ldcJ (X : Stand p l e R s m args below meth c T locs cells slots) (hx : p.tables.exec = Jvm.exec) (hZ : Z.Warmed39 s.vm) {own : String} {index : Nat} {v : Int64} (hown : s.vm.findClass own = some m.cls) (w : (Cond.constantLong own index v).before a0 Z = true) {g : JFrame} (hg : g.method = m) (hd : decode c.code g.pc = .ok (.ldc2_w index, 3)) {target : State}
    (kk : Steps p.tables e below (T.setTop { g with pc := g.pc + 3, stack := .long v :: g.stack }) target) : Steps p.tables e below (T.setTop g) target := X.ldc2Long hx hown (mvT hZ w) hg hd target kk
theorem own_ldcF (X : Stand p l e R s m args below meth c T locs cells slots) (hx : p.tables.exec = Jvm.exec) (hZ : Z.Warmed39 s.vm) {own : String} {index : Nat} {v : UInt32} (hown : s.vm.findClass own = some m.cls) (w : (Cond.constantFloat own index v).before a0 Z = true) {g : JFrame} (hg : g.method = m) (hd : decode c.code g.pc = .ok (.ldc index, 2)) {target : State}
    (kk : Steps p.tables e below (T.setTop { g with pc := g.pc + 2, stack := .float v :: g.stack }) target) : Steps p.tables e below (T.setTop g) target := X.ldcFloatC hx hown (mvT hZ w) hg hd target kk
def own_AV (Z : State) (h : Heap) (a : Addr) (ty : FieldType) (vs : List Value) : Prop := ∃ c : Cell, Arr Z h a c ty ∧ c.slots.toList = vs
def own_is (xs : List Int32) : List Value := xs.map Value.int
def own_js (xs : List Int64) : List Value := xs.map Value.long
theorem own_AV.lt (A : own_AV Z h a ty vs) : a < h.size := by obtain ⟨c, A, -⟩ := A; exact A.lt
theorem own_AV.ext (A : own_AV Z h a ty vs) (E : Ext h h') : own_AV Z h' a ty vs := by obtain ⟨c, A, r⟩ := A; exact ⟨c, A.ext E, r⟩
theorem own_AV.other (A : own_AV Z h b ty vs) (W : Wr h h' a sl v) (q : b ≠ a) : own_AV Z h' b ty vs := by obtain ⟨c, A, r⟩ := A; exact ⟨c, A.other W q, r⟩
theorem own_AV.keep (A : own_AV Z h a ty vs) (K : Keep h h' ws) (q : a ∉ ws) : own_AV Z h' a ty vs := by obtain ⟨c, A, r⟩ := A; exact ⟨c, ⟨K.2.1 a c A.1 q, A.2⟩, r⟩
theorem own_AV_new {k : ClassId} {z : Int32} (A : Arr Z h a (newA k ty z) ty) : own_AV Z h a ty (List.replicate z.toNatClampNeg (defaultValue ty)) := ⟨_, A, by simp [newA]⟩
theorem own_AV_newI {k : ClassId} {z : Int32} (A : Arr Z h a (newA k .int z) .int) : own_AV Z h a .int (own_is (List.replicate z.toNatClampNeg 0)) := ⟨_, A, by simp [newA, own_is, defaultValue]⟩
theorem own_AV_newJ {k : ClassId} {z : Int32} (A : Arr Z h a (newA k .long z) .long) : own_AV Z h a .long (own_js (List.replicate z.toNatClampNeg 0)) := ⟨_, A, by simp [newA, own_js, defaultValue]⟩
theorem own_in {c : Cell} {n : Nat} {j : Int32} (r : c.slots.toList = vs) (hn : vs.length = n) (hj : ¬ (j < 0 ∨ n ≤ j.toNatClampNeg)) : ¬ (j < 0 ∨ c.slots.size ≤ j.toNatClampNeg) := by
  rw [← Array.length_toList, r, hn]; exact hj
theorem own_nat {n : Nat} {j : Int32} (hj : ¬ (j < 0 ∨ n ≤ j.toNatClampNeg)) : j.toNatClampNeg < n := Nat.lt_of_not_le fun q => hj (Or.inr q)
theorem own_ldI (X : Stand p l e R s m args below meth c T locs cells slots) (hx : p.tables.exec = Jvm.exec) (hZ : Z.Warmed39 s.vm) (eT : T.heap = h) {xs : List Int32} (A : own_AV Z h a .int (own_is xs)) {j : Int32} {n : Nat} (hn : xs.length = n) (hj : ¬ (j < 0 ∨ n ≤ j.toNatClampNeg))
    {g : JFrame} (hg : g.method = m) {rest : List Value} (hs : g.stack = .int j :: .ref a :: rest) (hd : decode c.code g.pc = .ok (.iaload, 1)) {target : State} (kk : Steps p.tables e below (T.setTop { g with pc := g.pc + 1, stack := .int (xs.getD j.toNatClampNeg 0) :: rest }) target) : Steps p.tables e below (T.setTop g) target := by
  obtain ⟨cl, A, r⟩ := A
  have hlt := own_nat hj
  refine X.iaload hx (by rw [eT]; exact A.1) (State.isArrayOf_alike hZ.alike A.2.1) A.2.2 (own_in r (by simp [own_is, hn]) hj) ?_ hg hs hd _ kk
  rw [← Array.getElem?_toList, r]
  simp [own_is, List.getD_eq_getElem?_getD, List.getElem?_eq_getElem (hn ▸ hlt)]
theorem own_ldJ (X : Stand p l e R s m args below meth c T locs cells slots) (hx : p.tables.exec = Jvm.exec) (hZ : Z.Warmed39 s.vm) (eT : T.heap = h) {xs : List Int64} (A : own_AV Z h a .long (own_js xs)) {j : Int32} {n : Nat} (hn : xs.length = n) (hj : ¬ (j < 0 ∨ n ≤ j.toNatClampNeg))
    {g : JFrame} (hg : g.method = m) {rest : List Value} (hs : g.stack = .int j :: .ref a :: rest) (hd : decode c.code g.pc = .ok (.laload, 1)) {target : State} (kk : Steps p.tables e below (T.setTop { g with pc := g.pc + 1, stack := .long (xs.getD j.toNatClampNeg 0) :: rest }) target) : Steps p.tables e below (T.setTop g) target := by
  obtain ⟨cl, A, r⟩ := A
  have hlt := own_nat hj
  refine X.laload hx (by rw [eT]; exact A.1) (State.isArrayOf_alike hZ.alike A.2.1) A.2.2 (own_in r (by simp [own_js, hn]) hj) ?_ hg hs hd _ kk
  rw [← Array.getElem?_toList, r]
  simp [own_js, List.getD_eq_getElem?_getD, List.getElem?_eq_getElem (hn ▸ hlt)]
theorem own_set {cl : Cell} {j : Nat} (A : Arr Z h a cl ty) (r : cl.slots.toList = vs) (W : Wr h h' a j v) : own_AV Z h' a ty (vs.set j v) := ⟨_, A.same W, by simp [Cell.setSlot, ← r]⟩
theorem own_stI (X : Stand p l e R s m args below meth c T locs cells slots) (hx : p.tables.exec = Jvm.exec) (hZ : Z.Warmed39 s.vm) (eT : T.heap = h) {xs : List Int32} (A : own_AV Z h a .int (own_is xs)) {j x : Int32} {n : Nat} (hn : xs.length = n) (hj : ¬ (j < 0 ∨ n ≤ j.toNatClampNeg))
    {g : JFrame} (hg : g.method = m) {rest : List Value} (hs : g.stack = .int x :: .int j :: .ref a :: rest) (hd : decode c.code g.pc = .ok (.iastore, 1)) :
    ∃ T' h', Stand p l e R s m args below meth c T' (locs ++ [⟨a, j.toNatClampNeg⟩]) cells slots ∧ T'.heap = h' ∧ Wr h h' a j.toNatClampNeg (.int x) ∧ own_AV Z h' a .int (own_is (xs.set j.toNatClampNeg x)) ∧ ∀ target, Steps p.tables e below (T'.setTop { g with pc := g.pc + 1, stack := rest }) target → Steps p.tables e below (T.setTop g) target := by
  obtain ⟨cl, A, r⟩ := A
  obtain ⟨T', h', X', e', W, st⟩ := stI X hx hZ eT A (own_in r (by simp [own_is, hn]) hj) hg hs hd
  exact ⟨T', h', X', e', W, by have q := own_set A r W; simpa [own_is, List.map_set] using q, st⟩
theorem own_stJ (X : Stand p l e R s m args below meth c T locs cells slots) (hx : p.tables.exec = Jvm.exec) (hZ : Z.Warmed39 s.vm) (eT : T.heap = h) {xs : List Int64} (A : own_AV Z h a .long (own_js xs)) {j : Int32} {x : Int64} {n : Nat} (hn : xs.length = n) (hj : ¬ (j < 0 ∨ n ≤ j.toNatClampNeg))
    {g : JFrame} (hg : g.method = m) {rest : List Value} (hs : g.stack = .long x :: .int j :: .ref a :: rest) (hd : decode c.code g.pc = .ok (.lastore, 1)) :
    ∃ T' h', Stand p l e R s m args below meth c T' (locs ++ [⟨a, j.toNatClampNeg⟩]) cells slots ∧ T'.heap = h' ∧ Wr h h' a j.toNatClampNeg (.long x) ∧ own_AV Z h' a .long (own_js (xs.set j.toNatClampNeg x)) ∧ ∀ target, Steps p.tables e below (T'.setTop { g with pc := g.pc + 1, stack := rest }) target → Steps p.tables e below (T.setTop g) target := by
  obtain ⟨cl, A, r⟩ := A
  obtain ⟨T', h', X', e', W, st⟩ := stJ X hx hZ eT A (own_in r (by simp [own_js, hn]) hj) hg hs hd
  exact ⟨T', h', X', e', W, by have q := own_set A r W; simpa [own_js, List.map_set] using q, st⟩
theorem own_len (X : Stand p l e R s m args below meth c T locs cells slots) (hx : p.tables.exec = Jvm.exec) (hZ : Z.Warmed39 s.vm) (eT : T.heap = h) (A : own_AV Z h a ty vs) {z : Int32} (hz : vs.length.toInt32 = z)
    {g : JFrame} (hg : g.method = m) {rest : List Value} (hs : g.stack = .ref a :: rest) (hd : decode c.code g.pc = .ok (.arraylength, 1)) {target : State} (kk : Steps p.tables e below (T.setTop { g with pc := g.pc + 1, stack := .int z :: rest }) target) : Steps p.tables e below (T.setTop g) target := by
  obtain ⟨cl, A, r⟩ := A
  refine X.arraylength hx (by rw [eT]; exact A.1) (State.isArrayOf_alike hZ.alike A.2.1) hg hs hd target ?_
  rw [← Array.length_toList, r, hz]; exact kk
def own_ds (xs : List UInt64) : List Value := xs.map Value.double
theorem own_AV_newD {k : ClassId} {z : Int32} (A : Arr Z h a (newA k .double z) .double) : own_AV Z h a .double (own_ds (List.replicate z.toNatClampNeg 0)) := ⟨_, A, by simp [newA, own_ds, defaultValue]⟩
theorem own_stD (X : Stand p l e R s m args below meth c T locs cells slots) (hx : p.tables.exec = Jvm.exec) (hZ : Z.Warmed39 s.vm) (eT : T.heap = h) {xs : List UInt64} (A : own_AV Z h a .double (own_ds xs)) {j : Int32} {x : UInt64} {n : Nat} (hn : xs.length = n) (hj : ¬ (j < 0 ∨ n ≤ j.toNatClampNeg))
    {g : JFrame} (hg : g.method = m) {rest : List Value} (hs : g.stack = .double x :: .int j :: .ref a :: rest) (hd : decode c.code g.pc = .ok (.dastore, 1)) :
    ∃ T' h', Stand p l e R s m args below meth c T' (locs ++ [⟨a, j.toNatClampNeg⟩]) cells slots ∧ T'.heap = h' ∧ Wr h h' a j.toNatClampNeg (.double x) ∧ own_AV Z h' a .double (own_ds (xs.set j.toNatClampNeg x)) ∧ ∀ target, Steps p.tables e below (T'.setTop { g with pc := g.pc + 1, stack := rest }) target → Steps p.tables e below (T.setTop g) target := by
  obtain ⟨cl, A, r⟩ := A
  obtain ⟨T', h', X', e', W, st⟩ := stD X hx hZ eT A (own_in r (by simp [own_ds, hn]) hj) hg hs hd
  exact ⟨T', h', X', e', W, by have q := own_set A r W; simpa [own_ds, List.map_set] using q, st⟩
theorem own_ldD (X : Stand p l e R s m args below meth c T locs cells slots) (hx : p.tables.exec = Jvm.exec) (hZ : Z.Warmed39 s.vm) (eT : T.heap = h) {xs : List UInt64} (A : own_AV Z h a .double (own_ds xs)) {j : Int32} {n : Nat} (hn : xs.length = n) (hj : ¬ (j < 0 ∨ n ≤ j.toNatClampNeg))
    {g : JFrame} (hg : g.method = m) {rest : List Value} (hs : g.stack = .int j :: .ref a :: rest) (hd : decode c.code g.pc = .ok (.daload, 1)) {target : State} (kk : Steps p.tables e below (T.setTop { g with pc := g.pc + 1, stack := .double (xs.getD j.toNatClampNeg 0) :: rest }) target) : Steps p.tables e below (T.setTop g) target := by
  obtain ⟨cl, A, r⟩ := A
  have hlt := own_nat hj
  refine X.daload hx (by rw [eT]; exact A.1) (State.isArrayOf_alike hZ.alike A.2.1) A.2.2 (own_in r (by simp [own_ds, hn]) hj) ?_ hg hs hd _ kk
  rw [← Array.getElem?_toList, r]
  simp [own_ds, List.getD_eq_getElem?_getD, List.getElem?_eq_getElem (hn ▸ hlt)]
def own_AVk (Z : State) (h : Heap) (a : Addr) (k : ClassId) (ty : FieldType) (vs : List Value) : Prop := ∃ c : Cell, Arr Z h a c ty ∧ c.cls = k ∧ c.slots.toList = vs
variable {k : ClassId}
theorem own_AVk.lt (A : own_AVk Z h a k ty vs) : a < h.size := by obtain ⟨c, A, -⟩ := A; exact A.lt
theorem own_AVk.ext (A : own_AVk Z h a k ty vs) (E : Ext h h') : own_AVk Z h' a k ty vs := by obtain ⟨c, A, r⟩ := A; exact ⟨c, A.ext E, r⟩
theorem own_AVk.other (A : own_AVk Z h b k ty vs) (W : Wr h h' a sl v) (q : b ≠ a) : own_AVk Z h' b k ty vs := by obtain ⟨c, A, r⟩ := A; exact ⟨c, A.other W q, r⟩
theorem own_AVk.keep (A : own_AVk Z h a k ty vs) (K : Keep h h' ws) (q : a ∉ ws) : own_AVk Z h' a k ty vs := by obtain ⟨c, A, r⟩ := A; exact ⟨c, ⟨K.2.1 a c A.1 q, A.2⟩, r⟩
theorem own_AVk.av (A : own_AVk Z h a k ty vs) : own_AV Z h a ty vs := by obtain ⟨c, A, -, r⟩ := A; exact ⟨c, A, r⟩
theorem own_AVk_new {z : Int32} (A : Arr Z h a (newA k ty z) ty) : own_AVk Z h a k ty (List.replicate z.toNatClampNeg (defaultValue ty)) := ⟨_, A, rfl, by simp [newA]⟩
theorem own_stR (X : Stand p l e R s m args below meth c T locs cells slots) (hx : p.tables.exec = Jvm.exec) (hZ : Z.Warmed39 s.vm) (eT : T.heap = h) (A : own_AVk Z h a k ty vs) {j : Int32} {n : Nat} (hn : vs.length = n) (hj : ¬ (j < 0 ∨ n ≤ j.toNatClampNeg)) (hty : ty.isReference = true)
    (F : ∀ {c : Cell}, Arr Z h a c ty → c.cls = k → Sto Z h a v) {g : JFrame} (hg : g.method = m) {rest : List Value} (hs : g.stack = v :: .int j :: .ref a :: rest) (hd : decode c.code g.pc = .ok (.aastore, 1)) :
    ∃ T' h', Stand p l e R s m args below meth c T' (locs ++ [⟨a, j.toNatClampNeg⟩]) cells slots ∧ T'.heap = h' ∧ Wr h h' a j.toNatClampNeg v ∧ own_AVk Z h' a k ty (vs.set j.toNatClampNeg v) ∧ ∀ target, Steps p.tables e below (T'.setTop { g with pc := g.pc + 1, stack := rest }) target → Steps p.tables e below (T.setTop g) target := by
  obtain ⟨cl, A, q, r⟩ := A
  obtain ⟨T', h', X', e', W, st⟩ := stR X hx hZ eT A (own_in r hn hj) hty (F A q) hg hs hd
  exact ⟨T', h', X', e', W, ⟨_, A.same W, q, by simp [Cell.setSlot, ← r]⟩, st⟩
theorem own_ldR (X : Stand p l e R s m args below meth c T locs cells slots) (hx : p.tables.exec = Jvm.exec) (hZ : Z.Warmed39 s.vm) (eT : T.heap = h) (A : own_AVk Z h a k ty vs) {j : Int32} {n : Nat} (hn : vs.length = n) (hj : ¬ (j < 0 ∨ n ≤ j.toNatClampNeg)) (hty : ty.isReference = true) (hv : vs[j.toNatClampNeg]? = some v)
    {g : JFrame} (hg : g.method = m) {rest : List Value} (hs : g.stack = .int j :: .ref a :: rest) (hd : decode c.code g.pc = .ok (.aaload, 1)) {target : State} (kk : Steps p.tables e below (T.setTop { g with pc := g.pc + 1, stack := v :: rest }) target) : Steps p.tables e below (T.setTop g) target := by
  obtain ⟨cl, A, -, r⟩ := A
  exact X.aaload hx (by rw [eT]; exact A.1) (State.isArrayOf_alike hZ.alike A.2.1) hty A.2.2 (own_in r hn hj) (by rw [← Array.getElem?_toList, r]; exact hv) hg hs hd _ kk
theorem own_ldB (X : Stand p l e R s m args below meth c T locs cells slots) (hx : p.tables.exec = Jvm.exec) (hZ : Z.Warmed39 s.vm) (eT : T.heap = h) {xs : List Int32} (A : own_AV Z h a .byte (own_is xs)) {j : Int32} {n : Nat} (hn : xs.length = n) (hj : ¬ (j < 0 ∨ n ≤ j.toNatClampNeg))
    {g : JFrame} (hg : g.method = m) {rest : List Value} (hs : g.stack = .int j :: .ref a :: rest) (hd : decode c.code g.pc = .ok (.baload, 1)) {target : State} (kk : Steps p.tables e below (T.setTop { g with pc := g.pc + 1, stack := .int (xs.getD j.toNatClampNeg 0) :: rest }) target) : Steps p.tables e below (T.setTop g) target := by
  obtain ⟨cl, A, r⟩ := A
  have hlt := own_nat hj
  refine X.baloadBytes hx (by rw [eT]; exact A.1) (State.isArrayOf_alike hZ.alike A.2.1) A.2.2 (own_in r (by simp [own_is, hn]) hj) ?_ hg hs hd _ kk
  rw [← Array.getElem?_toList, r]
  simp [own_is, List.getD_eq_getElem?_getD, List.getElem?_eq_getElem (hn ▸ hlt)]
theorem own_eqI {args : Array Value} {s : State} {t : Term} {n : Int32} (q : (Jvm.Cond.eq t (Term.int n)).value args s none s [] = some true) : t.eval args s none [] s = some (.int n) := by
  obtain ⟨x, y, h1, h2, h3, h4⟩ := cmp_v (Or.inl q)
  cases h2.symm.trans (Term.int_eval n)
  obtain ⟨z, rfl⟩ := h4
  simp only [Cond.value, h1, h2] at q
  simpa [h1] using q
theorem own_AV.cell (A : own_AV Z h a ty vs) : ∃ c : Cell, h[a]? = some c ∧ ∀ q, c.vm ≠ .statics q := by obtain ⟨c, A, -⟩ := A; exact ⟨c, A.1, A.2.1.1⟩
theorem own_AVk.cell (A : own_AVk Z h a k ty vs) : ∃ c : Cell, h[a]? = some c ∧ ∀ q, c.vm ≠ .statics q := A.av.cell
theorem own_Sta_keep {C n d : String} {v : Value} (F : Sta Z h C n d v) (K : Keep h h' ws) (q : ∀ x ∈ ws, ∃ c : Cell, h[x]? = some c ∧ ∀ q, c.vm ≠ .statics q) : Sta Z h' C n d v := by
  obtain ⟨cf, i, k, f, st, cell, h1, h2, h3, h4, h5, h6, h7⟩ := F
  refine ⟨cf, i, k, f, st, cell, h1, h2, h3, h4, K.2.1 st cell h5 fun m => ?_, h6, h7⟩
  obtain ⟨c', g1, g2⟩ := q st m
  cases h5.symm.trans g1
  cases hv : cell.vm <;> first | exact g2 _ hv | (rw [hv] at h6; cases h6)
end OwnKit
abbrev own_y0 : MethodName := ⟨"java/lang/Math", "min", "(JJ)J"⟩
abbrev own_y1 : MethodName := ⟨"java/lang/Math", "max", "(JJ)J"⟩
abbrev own_y2 : MethodName := ⟨"com/example/urania/urania/layered/KeyHeap", "isEmpty", "()Z"⟩
abbrev own_y3 : MethodName := ⟨"com/example/urania/urania/layered/KeyHeap", "<init>", "()V"⟩
abbrev own_y4 : MethodName := ⟨"com/example/urania/urania/layered/KeyHeap", "add", "(J)V"⟩
abbrev own_y5 : MethodName := ⟨"com/example/urania/urania/layered/KeyHeap", "poll", "()J"⟩

def own_d (t x : Int64) : Nat := if x = t then 1 else 0
theorem own_d_self (t : Int64) : own_d t t = 1 := if_pos rfl
theorem own_gt {x y : Int64} : (0 : Int32) < lcmpW x y ↔ y.toInt < x.toInt := (lw_gt x y).trans Int64.lt_iff_toInt_lt
theorem own_lt0 {x y : Int64} : lcmpW x y < (0 : Int32) ↔ x.toInt < y.toInt := (lw_lt x y).trans Int64.lt_iff_toInt_lt
def own_cnt (t : Int64) : List Int64 → Nat
  | [] => 0
  | x :: l => own_d t x + own_cnt t l
def own_srt : List Int64 → Prop
  | [] => True
  | x :: l => (∀ y ∈ l, x.toInt ≤ y.toInt) ∧ own_srt l
theorem own_mem {t : Int64} : ∀ {l : List Int64}, 0 < own_cnt t l → t ∈ l
  | [], h => by simp [own_cnt] at h
  | x :: l, h => by
    by_cases q : x = t
    · subst q; exact List.mem_cons_self
    · have e : own_d t x = 0 := if_neg q
      simp only [own_cnt, e, Nat.zero_add] at h
      exact List.mem_cons_of_mem _ (own_mem h)
theorem own_uniq : ∀ {l r : List Int64}, own_srt l → own_srt r → (∀ t, own_cnt t l = own_cnt t r) → l = r
  | [], [], _, _, _ => rfl
  | [], y :: r, _, _, h => by have q := h y; simp only [own_cnt, own_d_self] at q; omega
  | x :: l, [], _, _, h => by have q := h x; simp only [own_cnt, own_d_self] at q; omega
  | x :: l, y :: r, h1, h2, h => by
    have a : x ∈ y :: r := own_mem (by have q := h x; simp only [own_cnt, own_d_self] at q ⊢; omega)
    have b : y ∈ x :: l := own_mem (by have q := h y; simp only [own_cnt, own_d_self] at q ⊢; omega)
    have c : x.toInt ≤ y.toInt := (List.mem_cons.mp b).elim (fun q => by rw [q]; exact Int.le_refl _) (h1.1 y)
    have d : y.toInt ≤ x.toInt := (List.mem_cons.mp a).elim (fun q => by rw [q]; exact Int.le_refl _) (h2.1 x)
    have e : x = y := Int64.toInt_inj.mp (by omega)
    subst e
    rw [own_uniq h1.2 h2.2 (fun t => by have q := h t; simp only [own_cnt] at q; omega)]
def own_min (a b : Int64) : Int64 := if (0 : Int32) < lcmpW a b then b else a
def own_max (a b : Int64) : Int64 := if lcmpW a b < (0 : Int32) then b else a
theorem own_mm {a b m M : Int64} (h1 : own_min a b = m) (h2 : own_max a b = M) : (m = a ∧ M = b ∨ m = b ∧ M = a) ∧ m.toInt ≤ M.toInt := by
  unfold own_min at h1
  unfold own_max at h2
  by_cases q : (0 : Int32) < lcmpW a b
  · have q' := own_gt.mp q
    have r : ¬ lcmpW a b < (0 : Int32) := fun r => by have := own_lt0.mp r; omega
    rw [if_pos q] at h1
    rw [if_neg r] at h2
    subst h1 h2
    exact ⟨Or.inr ⟨rfl, rfl⟩, by omega⟩
  · have q' : ¬ b.toInt < a.toInt := fun r => q (own_gt.mpr r)
    rw [if_neg q] at h1
    by_cases r : lcmpW a b < (0 : Int32)
    · rw [if_pos r] at h2
      subst h1 h2
      exact ⟨Or.inl ⟨rfl, rfl⟩, by omega⟩
    · have r' : ¬ a.toInt < b.toInt := fun s => r (own_lt0.mpr s)
      have e : a = b := Int64.toInt_inj.mp (by omega)
      rw [if_neg r] at h2
      subst h1 h2 e
      exact ⟨Or.inl ⟨rfl, rfl⟩, by omega⟩
theorem own_mmd {a b m M : Int64} (h1 : own_min a b = m) (h2 : own_max a b = M) (t : Int64) : own_d t m + own_d t M = own_d t a + own_d t b := by
  rcases (own_mm h1 h2).1 with ⟨rfl, rfl⟩ | ⟨rfl, rfl⟩ <;> omega
theorem own_mmo {a b m M : Int64} (h1 : own_min a b = m) (h2 : own_max a b = M) : m.toInt ≤ a.toInt ∧ m.toInt ≤ b.toInt ∧ a.toInt ≤ M.toInt ∧ b.toInt ≤ M.toInt ∧ m.toInt ≤ M.toInt := by
  have q := own_mm h1 h2
  rcases q.1 with ⟨rfl, rfl⟩ | ⟨rfl, rfl⟩ <;> omega
theorem own_mml {a b m M : Int64} (h1 : own_min a b = m) (h2 : own_max a b = M) (z : Int) : (z ≤ a.toInt → z ≤ b.toInt → z ≤ m.toInt) ∧ (a.toInt ≤ z → b.toInt ≤ z → M.toInt ≤ z) := by
  rcases (own_mm h1 h2).1 with ⟨rfl, rfl⟩ | ⟨rfl, rfl⟩ <;> exact ⟨fun _ _ => by omega, fun _ _ => by omega⟩
/-- the network of nine sorts -/
theorem own_net {a b c d e a1 b1 d1 e1 c1 e2 c2 d2 b2 e3 a2 d3 a3 c3 b3 d4 b4 c4 : Int64} (h1 : own_min a b = a1) (g1 : own_max a b = b1) (h2 : own_min d e = d1) (g2 : own_max d e = e1) (h3 : own_min c e1 = c1) (g3 : own_max c e1 = e2) (h4 : own_min c1 d1 = c2) (g4 : own_max c1 d1 = d2)
    (h5 : own_min b1 e2 = b2) (g5 : own_max b1 e2 = e3) (h6 : own_min a1 d2 = a2) (g6 : own_max a1 d2 = d3) (h7 : own_min a2 c2 = a3) (g7 : own_max a2 c2 = c3) (h8 : own_min b2 d3 = b3) (g8 : own_max b2 d3 = d4) (h9 : own_min b3 c3 = b4) (g9 : own_max b3 c3 = c4) :
    own_srt [a3, b4, c4, d4, e3] ∧ ∀ t, own_cnt t [a3, b4, c4, d4, e3] = own_cnt t [a, b, c, d, e] := by
  have o1 := own_mmo h1 g1
  have o2 := own_mmo h2 g2
  have o3 := own_mmo h3 g3
  have o4 := own_mmo h4 g4
  have o5 := own_mmo h5 g5
  have o6 := own_mmo h6 g6
  have o7 := own_mmo h7 g7
  have o8 := own_mmo h8 g8
  have o9 := own_mmo h9 g9
  have k1 : d2.toInt ≤ e2.toInt := (own_mml h4 g4 e2.toInt).2 (by omega) (by omega)
  have k2 : d3.toInt ≤ e3.toInt := (own_mml h6 g6 e3.toInt).2 (by omega) (by omega)
  have k3 : d4.toInt ≤ e3.toInt := (own_mml h8 g8 e3.toInt).2 (by omega) (by omega)
  have k4 : c3.toInt ≤ d4.toInt := (own_mml h7 g7 d4.toInt).2 (by omega) (by omega)
  have k5 : c4.toInt ≤ d4.toInt := (own_mml h9 g9 d4.toInt).2 (by omega) (by omega)
  have k6 : a3.toInt ≤ b2.toInt := (own_mml h5 g5 a3.toInt).1 (by omega) (by omega)
  have k7 : a3.toInt ≤ b3.toInt := (own_mml h8 g8 a3.toInt).1 (by omega) (by omega)
  have k8 : a3.toInt ≤ b4.toInt := (own_mml h9 g9 a3.toInt).1 (by omega) (by omega)
  refine ⟨?_, fun t => ?_⟩
  · simp only [own_srt, List.mem_cons, List.not_mem_nil, or_false, forall_eq_or_imp, forall_eq, and_true, false_imp_iff, implies_true]
    omega
  · have m1 := own_mmd h1 g1 t
    have m2 := own_mmd h2 g2 t
    have m3 := own_mmd h3 g3 t
    have m4 := own_mmd h4 g4 t
    have m5 := own_mmd h5 g5 t
    have m6 := own_mmd h6 g6 t
    have m7 := own_mmd h7 g7 t
    have m8 := own_mmd h8 g8 t
    have m9 := own_mmd h9 g9 t
    simp only [own_cnt]
    omega
theorem d5_0 : decode jdk_29_method_70_code 0 = .ok (.lload_n 0, 1) := by decide +kernel
theorem d5_1 : decode jdk_29_method_70_code 1 = .ok (.lload_n 2, 1) := by decide +kernel
theorem d5_2 : decode jdk_29_method_70_code 2 = .ok (.lcmp, 1) := by decide +kernel
theorem d5_3 : decode jdk_29_method_70_code 3 = .ok (.ifCond .gt 7, 3) := by decide +kernel
theorem d5_10 : decode jdk_29_method_70_code 10 = .ok (.lload_n 2, 1) := by decide +kernel
theorem d5_11 : decode jdk_29_method_70_code 11 = .ok (.lreturn, 1) := by decide +kernel
theorem d5_6 : decode jdk_29_method_70_code 6 = .ok (.lload_n 0, 1) := by decide +kernel
theorem d5_7 : decode jdk_29_method_70_code 7 = .ok (.goto 4, 3) := by decide +kernel
theorem ef_5_JJ (m : MethodId) (x0 : Int64) (x1 : Int64) : entryFrame m #[(.long x0), (.long x1)] 4 = mkF m 0 #[.val (.long x0), .second, .val (.long x1), .second] [] := by first | (simp [entryFrame, mkF, argsToLocals, Value.category]; done) | rfl
def Qrm_min (Z : State) (p1 : Int64) (p2 : Int64) (h0 : Heap) (n0 : Nat) (v : Option Value) (h : Heap) (L : List Loc) : Prop := v = some (.long (own_min p1 p2)) ∧ Fr n0 L ∧ h = h0
set_option maxRecDepth 65536 in
set_option maxHeartbeats 40000000 in
theorem rm_min (l : Launch) (Z : State) (a0 : Array Value) (hw : ∀ d ∈ tables_1, d.before a0 Z = true) (ws : List Jvm.Cond) (p1 : Int64) (p2 : Int64) (h0 : Heap) (n0 : Nat) (Z0 : n0 ≤ h0.size) :
    MetFree l own_y0 (head1 (Jvm.Cond.code own_y0 jdk_29_method_70_code 4 (some .long) :: ws) ({ frames := 0, cells := 0, slots := 0, locals := 0 } : Room)) (fun a U => a = #[(.long p1), (.long p2)] ∧ Z.Warmed39 U.vm ∧ U.heap = h0) (fun _ _ _ _ _ => True) (fun _ U o U' => ∃ v L, o = .returned v ∧ Qrm_min Z p1 p2 h0 n0 v U'.heap L ∧ FrameEnd U o U' L ({ frames := 0, cells := 0, slots := 0, locals := 0 } : Room).cells ({ frames := 0, cells := 0, slots := 0, locals := 0 } : Room).slots) := by
  refine MetFree.of_bodySF (Jvm.Free.JP.mathPlain rfl (by decide +kernel)) hisR ?_
  intro p e s m args below meth c s₁ Bd hml0 hP hK
  obtain ⟨rfl, hZ, hh⟩ := hP
  have hx := Bd.exec
  have hby := Bd.bytes
  have hml : c.maxLocals = 4 := hml0
  have hown : s.vm.findClass "java/lang/Math" = some m.cls := findClass_of_methodNamed Bd.named
  have hnm := (name_of_methodNamed Bd.named Bd.method).1
  have X0 : Stand p l e ({ frames := 0, cells := 0, slots := 0, locals := 0 } : Room) s m #[(.long p1), (.long p2)] below meth c s₁ [] 0 0 := Stand.of_body Bd
  have e0 : s₁.heap = h0 := by rw [← hh, Bd.state]; rfl
  have N0 := Fr.nil n0
  have K0 : Keep h0 h0 [] := Keep.refl _ _
  clear K0
  refine own_start (Qk := Qrm_min Z p1 p2 h0 n0) (fun G hG => ?_)
  refine own_st (fun _ k => castTop (ef_5_JJ m p1 p2) k) ?_
  show own_Fin p e below G (s₁.setTop (mkF m 0 #[.val (.long p1), .second, .val (.long p2), .second] []))
  refine own_st (fun _ k => XS.lloadN X0.here hx rfl (hb hby d5_0) rfl  k) ?_
  show own_Fin p e below G (s₁.setTop (mkF m 1 #[.val (.long p1), .second, .val (.long p2), .second] [(.long p1)]))
  refine own_st (fun _ k => XS.lloadN X0.here hx rfl (hb hby d5_1) rfl  k) ?_
  show own_Fin p e below G (s₁.setTop (mkF m 2 #[.val (.long p1), .second, .val (.long p2), .second] [(.long p2), (.long p1)]))
  refine own_st (fun _ k => XS.lcmp X0.here hx rfl (hb hby d5_2) rfl k) ?_
  show own_Fin p e below G (s₁.setTop (mkF m 3 #[.val (.long p1), .second, .val (.long p2), .second] [(.int (lcmpW p1 p2))]))
  by_cases hc3_1 : (0 : Int32) < (lcmpW p1 p2)
  · refine own_st (fun _ k => XS.ifYes X0.here hx rfl (pc0 := 3) (pc' := 10) rfl (hb hby d5_3) rfl ((if0 _ _).trans (tlt hc3_1).2.2.1) (by decide) (by decide) k) ?_
    show own_Fin p e below G (s₁.setTop (mkF m 10 #[.val (.long p1), .second, .val (.long p2), .second] []))
    refine own_st (fun _ k => XS.lloadN X0.here hx rfl (hb hby d5_10) rfl  k) ?_
    show own_Fin p e below G (s₁.setTop (mkF m 11 #[.val (.long p1), .second, .val (.long p2), .second] [(.long p2)]))
    refine own_out X0 Bd.notSynchronized (v := (some (.long p2))) (fun h => by rw [Bd.returns] at h; cases h) hG (fun fs hr => retOut X0 hx Bd.returns rfl (Or.inr (Or.inl ⟨rfl, rfl, _, rfl⟩)) (hb hby d5_11) hr) (by decide) (by decide) ?_
    exact ⟨by unfold own_min; rw [if_pos hc3_1], N0, e0⟩
  · refine own_st (fun _ k => XS.ifNo X0.here hx rfl (hb hby d5_3) rfl ((if0 _ _).trans (flt hc3_1).2.2.1) k) ?_
    show own_Fin p e below G (s₁.setTop (mkF m 6 #[.val (.long p1), .second, .val (.long p2), .second] []))
    refine own_st (fun _ k => XS.lloadN X0.here hx rfl (hb hby d5_6) rfl  k) ?_
    show own_Fin p e below G (s₁.setTop (mkF m 7 #[.val (.long p1), .second, .val (.long p2), .second] [(.long p1)]))
    refine own_st (fun _ k => XS.goto X0.here hx rfl (pc0 := 7) (pc' := 11) rfl (hb hby d5_7) (by decide) (by decide) k) ?_
    show own_Fin p e below G (s₁.setTop (mkF m 11 #[.val (.long p1), .second, .val (.long p2), .second] [(.long p1)]))
    refine own_out X0 Bd.notSynchronized (v := (some (.long p1))) (fun h => by rw [Bd.returns] at h; cases h) hG (fun fs hr => retOut X0 hx Bd.returns rfl (Or.inr (Or.inl ⟨rfl, rfl, _, rfl⟩)) (hb hby d5_11) hr) (by decide) (by decide) ?_
    exact ⟨by unfold own_min; rw [if_neg hc3_1], N0, e0⟩

theorem d6_0 : decode jdk_29_method_66_code 0 = .ok (.lload_n 0, 1) := by decide +kernel
theorem d6_1 : decode jdk_29_method_66_code 1 = .ok (.lload_n 2, 1) := by decide +kernel
theorem d6_2 : decode jdk_29_method_66_code 2 = .ok (.lcmp, 1) := by decide +kernel
theorem d6_3 : decode jdk_29_method_66_code 3 = .ok (.ifCond .lt 7, 3) := by decide +kernel
theorem d6_10 : decode jdk_29_method_66_code 10 = .ok (.lload_n 2, 1) := by decide +kernel
theorem d6_11 : decode jdk_29_method_66_code 11 = .ok (.lreturn, 1) := by decide +kernel
theorem d6_6 : decode jdk_29_method_66_code 6 = .ok (.lload_n 0, 1) := by decide +kernel
theorem d6_7 : decode jdk_29_method_66_code 7 = .ok (.goto 4, 3) := by decide +kernel
theorem ef_6_JJ (m : MethodId) (x0 : Int64) (x1 : Int64) : entryFrame m #[(.long x0), (.long x1)] 4 = mkF m 0 #[.val (.long x0), .second, .val (.long x1), .second] [] := by first | (simp [entryFrame, mkF, argsToLocals, Value.category]; done) | rfl
def Qrm_max (Z : State) (p1 : Int64) (p2 : Int64) (h0 : Heap) (n0 : Nat) (v : Option Value) (h : Heap) (L : List Loc) : Prop := v = some (.long (own_max p1 p2)) ∧ Fr n0 L ∧ h = h0
set_option maxRecDepth 65536 in
set_option maxHeartbeats 40000000 in
theorem rm_max (l : Launch) (Z : State) (a0 : Array Value) (hw : ∀ d ∈ tables_1, d.before a0 Z = true) (ws : List Jvm.Cond) (p1 : Int64) (p2 : Int64) (h0 : Heap) (n0 : Nat) (Z0 : n0 ≤ h0.size) :
    MetFree l own_y1 (head1 (Jvm.Cond.code own_y1 jdk_29_method_66_code 4 (some .long) :: ws) ({ frames := 0, cells := 0, slots := 0, locals := 0 } : Room)) (fun a U => a = #[(.long p1), (.long p2)] ∧ Z.Warmed39 U.vm ∧ U.heap = h0) (fun _ _ _ _ _ => True) (fun _ U o U' => ∃ v L, o = .returned v ∧ Qrm_max Z p1 p2 h0 n0 v U'.heap L ∧ FrameEnd U o U' L ({ frames := 0, cells := 0, slots := 0, locals := 0 } : Room).cells ({ frames := 0, cells := 0, slots := 0, locals := 0 } : Room).slots) := by
  refine MetFree.of_bodySF (Jvm.Free.JP.mathPlain rfl (by decide +kernel)) hisR ?_
  intro p e s m args below meth c s₁ Bd hml0 hP hK
  obtain ⟨rfl, hZ, hh⟩ := hP
  have hx := Bd.exec
  have hby := Bd.bytes
  have hml : c.maxLocals = 4 := hml0
  have hown : s.vm.findClass "java/lang/Math" = some m.cls := findClass_of_methodNamed Bd.named
  have hnm := (name_of_methodNamed Bd.named Bd.method).1
  have X0 : Stand p l e ({ frames := 0, cells := 0, slots := 0, locals := 0 } : Room) s m #[(.long p1), (.long p2)] below meth c s₁ [] 0 0 := Stand.of_body Bd
  have e0 : s₁.heap = h0 := by rw [← hh, Bd.state]; rfl
  have N0 := Fr.nil n0
  have K0 : Keep h0 h0 [] := Keep.refl _ _
  clear K0
  refine own_start (Qk := Qrm_max Z p1 p2 h0 n0) (fun G hG => ?_)
  refine own_st (fun _ k => castTop (ef_6_JJ m p1 p2) k) ?_
  show own_Fin p e below G (s₁.setTop (mkF m 0 #[.val (.long p1), .second, .val (.long p2), .second] []))
  refine own_st (fun _ k => XS.lloadN X0.here hx rfl (hb hby d6_0) rfl  k) ?_
  show own_Fin p e below G (s₁.setTop (mkF m 1 #[.val (.long p1), .second, .val (.long p2), .second] [(.long p1)]))
  refine own_st (fun _ k => XS.lloadN X0.here hx rfl (hb hby d6_1) rfl  k) ?_
  show own_Fin p e below G (s₁.setTop (mkF m 2 #[.val (.long p1), .second, .val (.long p2), .second] [(.long p2), (.long p1)]))
  refine own_st (fun _ k => XS.lcmp X0.here hx rfl (hb hby d6_2) rfl k) ?_
  show own_Fin p e below G (s₁.setTop (mkF m 3 #[.val (.long p1), .second, .val (.long p2), .second] [(.int (lcmpW p1 p2))]))
  by_cases hc3_2 : (lcmpW p1 p2) < (0 : Int32)
  · refine own_st (fun _ k => XS.ifYes X0.here hx rfl (pc0 := 3) (pc' := 10) rfl (hb hby d6_3) rfl ((if0 _ _).trans (tlt hc3_2).1) (by decide) (by decide) k) ?_
    show own_Fin p e below G (s₁.setTop (mkF m 10 #[.val (.long p1), .second, .val (.long p2), .second] []))
    refine own_st (fun _ k => XS.lloadN X0.here hx rfl (hb hby d6_10) rfl  k) ?_
    show own_Fin p e below G (s₁.setTop (mkF m 11 #[.val (.long p1), .second, .val (.long p2), .second] [(.long p2)]))
    refine own_out X0 Bd.notSynchronized (v := (some (.long p2))) (fun h => by rw [Bd.returns] at h; cases h) hG (fun fs hr => retOut X0 hx Bd.returns rfl (Or.inr (Or.inl ⟨rfl, rfl, _, rfl⟩)) (hb hby d6_11) hr) (by decide) (by decide) ?_
    exact ⟨by unfold own_max; rw [if_pos hc3_2], N0, e0⟩
  · refine own_st (fun _ k => XS.ifNo X0.here hx rfl (hb hby d6_3) rfl ((if0 _ _).trans (flt hc3_2).1) k) ?_
    show own_Fin p e below G (s₁.setTop (mkF m 6 #[.val (.long p1), .second, .val (.long p2), .second] []))
    refine own_st (fun _ k => XS.lloadN X0.here hx rfl (hb hby d6_6) rfl  k) ?_
    show own_Fin p e below G (s₁.setTop (mkF m 7 #[.val (.long p1), .second, .val (.long p2), .second] [(.long p1)]))
    refine own_st (fun _ k => XS.goto X0.here hx rfl (pc0 := 7) (pc' := 11) rfl (hb hby d6_7) (by decide) (by decide) k) ?_
    show own_Fin p e below G (s₁.setTop (mkF m 11 #[.val (.long p1), .second, .val (.long p2), .second] [(.long p1)]))
    refine own_out X0 Bd.notSynchronized (v := (some (.long p1))) (fun h => by rw [Bd.returns] at h; cases h) hG (fun fs hr => retOut X0 hx Bd.returns rfl (Or.inr (Or.inl ⟨rfl, rfl, _, rfl⟩)) (hb hby d6_11) hr) (by decide) (by decide) ?_
    exact ⟨by unfold own_max; rw [if_neg hc3_2], N0, e0⟩

theorem d7_0 : decode prog_53_method_5_code 0 = .ok (.aload_n 0, 1) := by decide +kernel
theorem d7_1 : decode prog_53_method_5_code 1 = .ok (.getfield 13, 3) := by decide +kernel
theorem d7_4 : decode prog_53_method_5_code 4 = .ok (.ifCond .ne 7, 3) := by decide +kernel
theorem d7_7 : decode prog_53_method_5_code 7 = .ok (.iconst 1, 1) := by decide +kernel
theorem d7_8 : decode prog_53_method_5_code 8 = .ok (.goto 4, 3) := by decide +kernel
theorem d7_12 : decode prog_53_method_5_code 12 = .ok (.ireturn, 1) := by decide +kernel
theorem pn_com_example_urania_urania_layered_KeyHeap : plainName "com/example/urania/urania/layered/KeyHeap" = true := by first | (simp [plainName, overriddenIn]; done) | decide +kernel
theorem ef_7_R (m : MethodId) (x0 : Addr) : entryFrame m #[(.ref x0)] 1 = mkF m 0 #[rv x0] [] := by first | (simp [entryFrame, mkF, argsToLocals, Value.category]; done) | rfl
def Qrm_emp (Z : State) (a1 : Addr) (h0 : Heap) (n0 : Nat) (v : Option Value) (h : Heap) (L : List Loc) : Prop := v = some (.int 1) ∧ Fr n0 L ∧ h = h0
set_option maxRecDepth 65536 in
set_option maxHeartbeats 40000000 in
theorem rm_emp (l : Launch) (Z : State) (a0 : Array Value) (hw : ∀ d ∈ tables_1, d.before a0 Z = true) (ws : List Jvm.Cond) (a1 : Addr) (h0 : Heap) (n0 : Nat) (Z0 : n0 ≤ h0.size) (F1 : Fld Z h0 a1 "com/example/urania/urania/layered/KeyHeap" "count" "I" (.int (0 : Int32))) :
    MetFree l own_y2 (head1 (Jvm.Cond.code own_y2 prog_53_method_5_code 1 (some .boolean) :: ws) ({ frames := 0, cells := 0, slots := 0, locals := 0 } : Room)) (fun a U => a = #[(.ref a1)] ∧ Z.Warmed39 U.vm ∧ U.heap = h0) (fun _ _ _ _ _ => True) (fun _ U o U' => ∃ v L, o = .returned v ∧ Qrm_emp Z a1 h0 n0 v U'.heap L ∧ FrameEnd U o U' L ({ frames := 0, cells := 0, slots := 0, locals := 0 } : Room).cells ({ frames := 0, cells := 0, slots := 0, locals := 0 } : Room).slots) := by
  refine MetFree.of_bodySF (plainFor_of_name pn_com_example_urania_urania_layered_KeyHeap) hisR ?_
  intro p e s m args below meth c s₁ Bd hml0 hP hK
  obtain ⟨rfl, hZ, hh⟩ := hP
  have hx := Bd.exec
  have hby := Bd.bytes
  have hml : c.maxLocals = 1 := hml0
  have hown : s.vm.findClass "com/example/urania/urania/layered/KeyHeap" = some m.cls := findClass_of_methodNamed Bd.named
  have hnm := (name_of_methodNamed Bd.named Bd.method).1
  have X0 : Stand p l e ({ frames := 0, cells := 0, slots := 0, locals := 0 } : Room) s m #[(.ref a1)] below meth c s₁ [] 0 0 := Stand.of_body Bd
  have e0 : s₁.heap = h0 := by rw [← hh, Bd.state]; rfl
  have N0 := Fr.nil n0
  have K0 : Keep h0 h0 [] := Keep.refl _ _
  clear K0
  refine own_start (Qk := Qrm_emp Z a1 h0 n0) (fun G hG => ?_)
  refine own_st (fun _ k => castTop (ef_7_R m a1) k) ?_
  show own_Fin p e below G (s₁.setTop (mkF m 0 #[rv a1] []))
  refine own_st (fun _ k => XS.aloadN X0.here hx rfl (hb hby d7_0) rfl rfl k) ?_
  show own_Fin p e below G (s₁.setTop (mkF m 1 #[rv a1] [(.ref a1)]))
  obtain ⟨T3, X3, e3, st3⟩ := getF X0 hx hZ hown (host := "") (Or.inl (own_w hw 17 rfl)) Via.refl e0 F1 (g := (mkF m 1 #[rv a1] [(.ref a1)])) rfl rfl (hb hby d7_1)
  clear X0 e0
  refine own_st st3 ?_
  clear st3
  show own_Fin p e below G (T3.setTop (mkF m 4 #[rv a1] [(.int (0 : Int32))]))
  refine own_st (fun _ k => XS.ifNo X3.here hx rfl (hb hby d7_4) rfl ((if0 _ _).trans (teq (by decide : ((0 : Int32) = (0 : Int32)))).2) k) ?_
  show own_Fin p e below G (T3.setTop (mkF m 7 #[rv a1] []))
  refine own_st (fun _ k => XS.iconst X3.here hx rfl (hb hby d7_7) k) ?_
  show own_Fin p e below G (T3.setTop (mkF m 8 #[rv a1] [(.int (1 : Int32))]))
  refine own_st (fun _ k => XS.goto X3.here hx rfl (pc0 := 8) (pc' := 12) rfl (hb hby d7_8) (by decide) (by decide) k) ?_
  show own_Fin p e below G (T3.setTop (mkF m 12 #[rv a1] [(.int (1 : Int32))]))
  refine own_out X3 Bd.notSynchronized (v := (some (.int (1 : Int32)))) (fun h => by rw [Bd.returns] at h; cases h) hG (fun fs hr => retN X3 hx (t := .boolean) Bd.returns (by simp) (hb hby d7_12) hr) (by decide) (by decide) ?_
  exact ⟨rfl, N0, e3⟩

theorem d1_0 : decode prog_53_method_1_code 0 = .ok (.aload_n 0, 1) := by decide +kernel
theorem d1_1 : decode prog_53_method_1_code 1 = .ok (.invokespecial 1, 3) := by decide +kernel
theorem d1_4 : decode prog_53_method_1_code 4 = .ok (.aload_n 0, 1) := by decide +kernel
theorem d1_5 : decode prog_53_method_1_code 5 = .ok (.bipush 16, 2) := by decide +kernel
theorem d1_7 : decode prog_53_method_1_code 7 = .ok (.newarray .long, 2) := by decide +kernel
theorem d1_9 : decode prog_53_method_1_code 9 = .ok (.putfield 7, 3) := by decide +kernel
theorem d1_12 : decode prog_53_method_1_code 12 = .ok (.return_, 1) := by decide +kernel
theorem ef_1_R (m : MethodId) (x0 : Addr) : entryFrame m #[(.ref x0)] 1 = mkF m 0 #[rv x0] [] := by first | (simp [entryFrame, mkF, argsToLocals, Value.category]; done) | rfl
def Qrm_ini (Z : State) (a1 : Addr) (h0 : Heap) (n0 : Nat) (v : Option Value) (h : Heap) (L : List Loc) : Prop := v = none ∧ Fr n0 L ∧ Keep h0 h [a1] ∧ ∃ a2, h0.size ≤ a2 ∧ a1 ≠ a2 ∧ Fld Z h a1 "com/example/urania/urania/layered/KeyHeap" "count" "I" (.int (0 : Int32)) ∧ Fld Z h a1 "com/example/urania/urania/layered/KeyHeap" "keys" "[J" (.ref a2) ∧ own_AV Z h a2 .long (own_js [(0 : Int64), (0 : Int64), (0 : Int64), (0 : Int64), (0 : Int64), (0 : Int64), (0 : Int64), (0 : Int64), (0 : Int64), (0 : Int64), (0 : Int64), (0 : Int64), (0 : Int64), (0 : Int64), (0 : Int64), (0 : Int64)])
set_option maxRecDepth 65536 in
set_option maxHeartbeats 40000000 in
theorem rm_ini (l : Launch) (Z : State) (a0 : Array Value) (hw : ∀ d ∈ tables_1, d.before a0 Z = true) (ws : List Jvm.Cond) (a1 : Addr) (h0 : Heap) (n0 : Nat) (Z0 : n0 ≤ h0.size) (E1 : Exa Z h0 a1 "com/example/urania/urania/layered/KeyHeap") (F1 : Fld Z h0 a1 "com/example/urania/urania/layered/KeyHeap" "count" "I" (.int (0 : Int32))) (F2 : Fld Z h0 a1 "com/example/urania/urania/layered/KeyHeap" "keys" "[J" .null) (g1 : n0 ≤ a1) :
    MetFree l own_y3 (head1 (Jvm.Cond.code own_y3 prog_53_method_1_code 1 none :: ws) ({ frames := 1, cells := 1, slots := 16, locals := 12 } : Room)) (fun a U => a = #[(.ref a1)] ∧ Z.Warmed39 U.vm ∧ U.heap = h0) (fun _ _ _ _ _ => True) (fun _ U o U' => ∃ v L, o = .returned v ∧ Qrm_ini Z a1 h0 n0 v U'.heap L ∧ FrameEnd U o U' L ({ frames := 1, cells := 1, slots := 16, locals := 12 } : Room).cells ({ frames := 1, cells := 1, slots := 16, locals := 12 } : Room).slots) := by
  refine MetFree.of_bodySF (plainFor_of_name pn_com_example_urania_urania_layered_KeyHeap) hisR ?_
  intro p e s m args below meth c s₁ Bd hml0 hP hK
  obtain ⟨rfl, hZ, hh⟩ := hP
  have hx := Bd.exec
  have hby := Bd.bytes
  have hml : c.maxLocals = 1 := hml0
  have hown : s.vm.findClass "com/example/urania/urania/layered/KeyHeap" = some m.cls := findClass_of_methodNamed Bd.named
  have hnm := (name_of_methodNamed Bd.named Bd.method).1
  have X0 : Stand p l e ({ frames := 1, cells := 1, slots := 16, locals := 12 } : Room) s m #[(.ref a1)] below meth c s₁ [] 0 0 := Stand.of_body Bd
  have e0 : s₁.heap = h0 := by rw [← hh, Bd.state]; rfl
  have N0 := Fr.nil n0
  have K0 : Keep h0 h0 [a1] := Keep.refl _ _
  refine own_start (Qk := Qrm_ini Z a1 h0 n0) (fun G hG => ?_)
  refine own_st (fun _ k => castTop (ef_1_R m a1) k) ?_
  show own_Fin p e below G (s₁.setTop (mkF m 0 #[rv a1] []))
  refine own_st (fun _ k => XS.aloadN X0.here hx rfl (hb hby d1_0) rfl rfl k) ?_
  show own_Fin p e below G (s₁.setTop (mkF m 1 #[rv a1] [(.ref a1)]))
  obtain ⟨T4, X4, e4, st4⟩ := initO X0 hx hZ hown (own_w hw 6 rfl) (own_w hw 7 rfl) (own_w hw 8 rfl) e0 (g := (mkF m 1 #[rv a1] [(.ref a1)])) rfl (by rw [hml]; rfl) rfl (hb hby d1_1) (by decide) (W := 0) (by show 2 * 0 + _ ≤ _; exact Nat.le_of_eq rfl) (by decide)
  clear X0 e0
  refine own_st st4 ?_
  clear st4
  show own_Fin p e below G (T4.setTop (mkF m 4 #[rv a1] []))
  refine own_st (fun _ k => XS.aloadN X4.here hx rfl (hb hby d1_4) rfl rfl k) ?_
  show own_Fin p e below G (T4.setTop (mkF m 5 #[rv a1] [(.ref a1)]))
  refine own_st (fun _ k => XS.bipush X4.here hx rfl (hb hby d1_5) k) ?_
  show own_Fin p e below G (T4.setTop (mkF m 7 #[rv a1] [(.int (16 : Int32)), (.ref a1)]))
  obtain ⟨T5, h5, k5, X5, e5, E5, A5, st5⟩ := newP X4 hx hZ (own_w hw 9 rfl) e4 (g := (mkF m 7 #[rv a1] [(.int (16 : Int32)), (.ref a1)])) rfl (hb hby d1_7) rfl (by decide) (cap := 16) (by decide) (by decide) (by decide) (by decide)
  clear X4 e4
  obtain ⟨b5, g5⟩ : ∃ z, z = h0.size := ⟨_, rfl⟩
  rw [← g5] at A5 st5
  have ne_a1_b5 : a1 ≠ b5 := Nat.ne_of_lt (Nat.lt_of_lt_of_le E1.lt (Nat.le_of_eq g5.symm))
  have sz_b5 : h0.size ≤ b5 := Nat.le_trans K0.1 (Nat.le_of_eq g5.symm)
  have g_b5 : n0 ≤ b5 := Nat.le_trans Z0 sz_b5
  have f6_0 := E1.ext E5
  clear E1
  have f6_1 := F1.ext E5
  have f6_2 := F2.ext E5
  have K7 : Keep h0 h5 [a1] := K0.ext E5
  clear K0 E5
  have V5 : own_AV Z h5 b5 .long (own_js [(0 : Int64), (0 : Int64), (0 : Int64), (0 : Int64), (0 : Int64), (0 : Int64), (0 : Int64), (0 : Int64), (0 : Int64), (0 : Int64), (0 : Int64), (0 : Int64), (0 : Int64), (0 : Int64), (0 : Int64), (0 : Int64)]) := own_AV_newJ A5
  clear A5
  refine own_st st5 ?_
  clear st5
  show own_Fin p e below G (T5.setTop (mkF m 9 #[rv a1] [(.ref b5), (.ref a1)]))
  obtain ⟨T8, h8, X8, e8, W8, st8⟩ := putF X5 hx hZ hown (host := "") (Or.inl (own_w hw 10 rfl)) Via.refl e5 f6_2 f6_0 (Or.inl (own_w hw 11 rfl)) (own_w hw 1 rfl) (ty := (.array .long)) (by decide) rfl rfl (g := (mkF m 9 #[rv a1] [(.ref b5), (.ref a1)])) rfl rfl (hb hby d1_9)
  clear X5 e5
  have f9_0 := f6_0.wr W8
  clear f6_0 f9_0
  have sl10 := slot_ne (Z := Z) (a0 := a0) (Or.inl (own_w hw 18 rfl)) (Or.inl (own_w hw 11 rfl)) (by decide) (t := .int) (t' := (.array .long)) (by decide) (by decide)
  have f9_1 := f6_1.other W8 (Or.inr sl10)
  clear f6_1
  have f9_3 := V5.other W8 (Ne.symm ne_a1_b5)
  clear V5
  have K11 : Keep h0 h8 [a1] := K7.wr W8 (Or.inl (List.mem_of_getElem? (i := 0) rfl))
  clear K7
  have N12 := Fr.snoc X8 N0 g1
  clear N0
  have Fw8 : Fld Z h8 a1 "com/example/urania/urania/layered/KeyHeap" "keys" "[J" (.ref b5) := f6_2.same W8
  clear f6_2 W8
  refine own_st st8 ?_
  clear st8
  show own_Fin p e below G (T8.setTop (mkF m 12 #[rv a1] []))
  refine own_out X8 Bd.notSynchronized (v := none) (fun _ => rfl) hG (fun fs hr => X8.returnOut hx Bd.returns (hb hby d1_12) hr) (by decide) (by decide) ?_
  exact ⟨rfl, N12, e8.symm ▸ K11, b5, sz_b5, ne_a1_b5, e8.symm ▸ f9_1, ⟨e8.symm ▸ Fw8, e8.symm ▸ f9_3⟩⟩

theorem d3_0 : decode prog_53_method_6_code 0 = .ok (.aload_n 0, 1) := by decide +kernel
theorem d3_1 : decode prog_53_method_6_code 1 = .ok (.getfield 13, 3) := by decide +kernel
theorem d3_4 : decode prog_53_method_6_code 4 = .ok (.aload_n 0, 1) := by decide +kernel
theorem d3_5 : decode prog_53_method_6_code 5 = .ok (.getfield 7, 3) := by decide +kernel
theorem d3_8 : decode prog_53_method_6_code 8 = .ok (.arraylength, 1) := by decide +kernel
theorem d3_9 : decode prog_53_method_6_code 9 = .ok (.if_icmp .ne 20, 3) := by decide +kernel
theorem d3_29 : decode prog_53_method_6_code 29 = .ok (.aload_n 0, 1) := by decide +kernel
theorem d3_30 : decode prog_53_method_6_code 30 = .ok (.dup, 1) := by decide +kernel
theorem d3_31 : decode prog_53_method_6_code 31 = .ok (.getfield 13, 3) := by decide +kernel
theorem d3_34 : decode prog_53_method_6_code 34 = .ok (.dup_x1, 1) := by decide +kernel
theorem d3_35 : decode prog_53_method_6_code 35 = .ok (.iconst 1, 1) := by decide +kernel
theorem d3_36 : decode prog_53_method_6_code 36 = .ok (.iadd, 1) := by decide +kernel
theorem d3_37 : decode prog_53_method_6_code 37 = .ok (.putfield 13, 3) := by decide +kernel
theorem d3_40 : decode prog_53_method_6_code 40 = .ok (.istore_n 3, 1) := by decide +kernel
theorem d3_41 : decode prog_53_method_6_code 41 = .ok (.iload_n 3, 1) := by decide +kernel
theorem d3_42 : decode prog_53_method_6_code 42 = .ok (.ifCond .le 44, 3) := by decide +kernel
theorem d3_86 : decode prog_53_method_6_code 86 = .ok (.aload_n 0, 1) := by decide +kernel
theorem d3_87 : decode prog_53_method_6_code 87 = .ok (.getfield 7, 3) := by decide +kernel
theorem d3_90 : decode prog_53_method_6_code 90 = .ok (.iload_n 3, 1) := by decide +kernel
theorem d3_91 : decode prog_53_method_6_code 91 = .ok (.lload_n 1, 1) := by decide +kernel
theorem d3_92 : decode prog_53_method_6_code 92 = .ok (.lastore, 1) := by decide +kernel
theorem d3_93 : decode prog_53_method_6_code 93 = .ok (.return_, 1) := by decide +kernel
theorem ef_3_RJ (m : MethodId) (x0 : Addr) (x1 : Int64) : entryFrame m #[(.ref x0), (.long x1)] 5 = mkF m 0 #[rv x0, .val (.long x1), .second, .unset, .unset] [] := by first | (simp [entryFrame, mkF, argsToLocals, Value.category]; done) | rfl
def Qrm_add0 (Z : State) (a1 : Addr) (ky : Int64) (a2 : Addr) (x0 : Int64) (x1 : Int64) (x2 : Int64) (x3 : Int64) (x4 : Int64) (x5 : Int64) (x6 : Int64) (x7 : Int64) (x8 : Int64) (x9 : Int64) (x10 : Int64) (x11 : Int64) (x12 : Int64) (x13 : Int64) (x14 : Int64) (x15 : Int64) (h0 : Heap) (n0 : Nat) (v : Option Value) (h : Heap) (L : List Loc) : Prop := v = none ∧ Fr n0 L ∧ Keep h0 h [a1, a2] ∧ Fld Z h a1 "com/example/urania/urania/layered/KeyHeap" "count" "I" (.int (1 : Int32)) ∧ Fld Z h a1 "com/example/urania/urania/layered/KeyHeap" "keys" "[J" (.ref a2) ∧ ∃ y0 : Int64, own_AV Z h a2 .long (own_js [y0, x1, x2, x3, x4, x5, x6, x7, x8, x9, x10, x11, x12, x13, x14, x15]) ∧ (True) ∧ ∀ t, own_d t y0 = 0 + own_d t ky
set_option maxRecDepth 65536 in
set_option maxHeartbeats 40000000 in
theorem rm_add0 (l : Launch) (Z : State) (a0 : Array Value) (hw : ∀ d ∈ tables_1, d.before a0 Z = true) (ws : List Jvm.Cond) (a1 : Addr) (ky : Int64) (a2 : Addr) (x0 : Int64) (x1 : Int64) (x2 : Int64) (x3 : Int64) (x4 : Int64) (x5 : Int64) (x6 : Int64) (x7 : Int64) (x8 : Int64) (x9 : Int64) (x10 : Int64) (x11 : Int64) (x12 : Int64) (x13 : Int64) (x14 : Int64) (x15 : Int64) (h0 : Heap) (n0 : Nat) (Z0 : n0 ≤ h0.size) (E1 : Exa Z h0 a1 "com/example/urania/urania/layered/KeyHeap") (F1 : Fld Z h0 a1 "com/example/urania/urania/layered/KeyHeap" "count" "I" (.int (0 : Int32))) (F2 : Fld Z h0 a1 "com/example/urania/urania/layered/KeyHeap" "keys" "[J" (.ref a2)) (A2 : own_AV Z h0 a2 .long (own_js [x0, x1, x2, x3, x4, x5, x6, x7, x8, x9, x10, x11, x12, x13, x14, x15])) (ne12 : a1 ≠ a2) (g1 : n0 ≤ a1) (g2 : n0 ≤ a2) (hH : True) :
    MetFree l own_y4 (head1 (Jvm.Cond.code own_y4 prog_53_method_6_code 5 none :: ws) ({ frames := 0, cells := 0, slots := 0, locals := 0 } : Room)) (fun a U => a = #[(.ref a1), (.long ky)] ∧ Z.Warmed39 U.vm ∧ U.heap = h0) (fun _ _ _ _ _ => True) (fun _ U o U' => ∃ v L, o = .returned v ∧ Qrm_add0 Z a1 ky a2 x0 x1 x2 x3 x4 x5 x6 x7 x8 x9 x10 x11 x12 x13 x14 x15 h0 n0 v U'.heap L ∧ FrameEnd U o U' L ({ frames := 0, cells := 0, slots := 0, locals := 0 } : Room).cells ({ frames := 0, cells := 0, slots := 0, locals := 0 } : Room).slots) := by
  refine MetFree.of_bodySF (plainFor_of_name pn_com_example_urania_urania_layered_KeyHeap) hisR ?_
  intro p e s m args below meth c s₁ Bd hml0 hP hK
  obtain ⟨rfl, hZ, hh⟩ := hP
  have hx := Bd.exec
  have hby := Bd.bytes
  have hml : c.maxLocals = 5 := hml0
  have hown : s.vm.findClass "com/example/urania/urania/layered/KeyHeap" = some m.cls := findClass_of_methodNamed Bd.named
  have hnm := (name_of_methodNamed Bd.named Bd.method).1
  have X0 : Stand p l e ({ frames := 0, cells := 0, slots := 0, locals := 0 } : Room) s m #[(.ref a1), (.long ky)] below meth c s₁ [] 0 0 := Stand.of_body Bd
  have e0 : s₁.heap = h0 := by rw [← hh, Bd.state]; rfl
  have N0 := Fr.nil n0
  have K0 : Keep h0 h0 [a1, a2] := Keep.refl _ _
  refine own_start (Qk := Qrm_add0 Z a1 ky a2 x0 x1 x2 x3 x4 x5 x6 x7 x8 x9 x10 x11 x12 x13 x14 x15 h0 n0) (fun G hG => ?_)
  refine own_st (fun _ k => castTop (ef_3_RJ m a1 ky) k) ?_
  show own_Fin p e below G (s₁.setTop (mkF m 0 #[rv a1, .val (.long ky), .second, .unset, .unset] []))
  refine own_st (fun _ k => XS.aloadN X0.here hx rfl (hb hby d3_0) rfl rfl k) ?_
  show own_Fin p e below G (s₁.setTop (mkF m 1 #[rv a1, .val (.long ky), .second, .unset, .unset] [(.ref a1)]))
  obtain ⟨T13, X13, e13, st13⟩ := getF X0 hx hZ hown (host := "") (Or.inl (own_w hw 17 rfl)) Via.refl e0 F1 (g := (mkF m 1 #[rv a1, .val (.long ky), .second, .unset, .unset] [(.ref a1)])) rfl rfl (hb hby d3_1)
  clear X0 e0
  refine own_st st13 ?_
  clear st13
  show own_Fin p e below G (T13.setTop (mkF m 4 #[rv a1, .val (.long ky), .second, .unset, .unset] [(.int (0 : Int32))]))
  refine own_st (fun _ k => XS.aloadN X13.here hx rfl (hb hby d3_4) rfl rfl k) ?_
  show own_Fin p e below G (T13.setTop (mkF m 5 #[rv a1, .val (.long ky), .second, .unset, .unset] [(.ref a1), (.int (0 : Int32))]))
  obtain ⟨T14, X14, e14, st14⟩ := getF X13 hx hZ hown (host := "") (Or.inl (own_w hw 10 rfl)) Via.refl e13 F2 (g := (mkF m 5 #[rv a1, .val (.long ky), .second, .unset, .unset] [(.ref a1), (.int (0 : Int32))])) rfl rfl (hb hby d3_5)
  clear X13 e13
  refine own_st st14 ?_
  clear st14
  show own_Fin p e below G (T14.setTop (mkF m 8 #[rv a1, .val (.long ky), .second, .unset, .unset] [(.ref a2), (.int (0 : Int32))]))
  refine own_st (fun _ k => own_len X14 hx hZ e14 A2 (z := (16 : Int32)) rfl (g := (mkF m 8 #[rv a1, .val (.long ky), .second, .unset, .unset] [(.ref a2), (.int (0 : Int32))])) rfl rfl (hb hby d3_8) k) ?_
  show own_Fin p e below G (T14.setTop (mkF m 9 #[rv a1, .val (.long ky), .second, .unset, .unset] [(.int (16 : Int32)), (.int (0 : Int32))]))
  refine own_st (fun _ k => XS.icmpYes X14.here hx rfl (pc0 := 9) (pc' := 29) rfl (hb hby d3_9) rfl (feq (by decide : ¬ ((0 : Int32) = (16 : Int32)))).2 (by decide) (by decide) k) ?_
  show own_Fin p e below G (T14.setTop (mkF m 29 #[rv a1, .val (.long ky), .second, .unset, .unset] []))
  refine own_st (fun _ k => XS.aloadN X14.here hx rfl (hb hby d3_29) rfl rfl k) ?_
  show own_Fin p e below G (T14.setTop (mkF m 30 #[rv a1, .val (.long ky), .second, .unset, .unset] [(.ref a1)]))
  refine own_st (fun _ k => XS.dup X14.here hx rfl (hb hby d3_30) rfl rfl k) ?_
  show own_Fin p e below G (T14.setTop (mkF m 31 #[rv a1, .val (.long ky), .second, .unset, .unset] [(.ref a1), (.ref a1)]))
  obtain ⟨T15, X15, e15, st15⟩ := getF X14 hx hZ hown (host := "") (Or.inl (own_w hw 17 rfl)) Via.refl e14 F1 (g := (mkF m 31 #[rv a1, .val (.long ky), .second, .unset, .unset] [(.ref a1), (.ref a1)])) rfl rfl (hb hby d3_31)
  clear X14 e14
  refine own_st st15 ?_
  clear st15
  show own_Fin p e below G (T15.setTop (mkF m 34 #[rv a1, .val (.long ky), .second, .unset, .unset] [(.int (0 : Int32)), (.ref a1)]))
  refine own_st (fun _ k => XS.dupX1 X15.here hx rfl (hb hby d3_34) rfl rfl rfl k) ?_
  show own_Fin p e below G (T15.setTop (mkF m 35 #[rv a1, .val (.long ky), .second, .unset, .unset] [(.int (0 : Int32)), (.ref a1), (.int (0 : Int32))]))
  refine own_st (fun _ k => XS.iconst X15.here hx rfl (hb hby d3_35) k) ?_
  show own_Fin p e below G (T15.setTop (mkF m 36 #[rv a1, .val (.long ky), .second, .unset, .unset] [(.int (1 : Int32)), (.int (0 : Int32)), (.ref a1), (.int (0 : Int32))]))
  refine own_st (fun _ k => XS.iadd X15.here hx rfl (hb hby d3_36) rfl k) ?_
  show own_Fin p e below G (T15.setTop (mkF m 37 #[rv a1, .val (.long ky), .second, .unset, .unset] [(.int (1 : Int32)), (.ref a1), (.int (0 : Int32))]))
  obtain ⟨T16, h16, X16, e16, W16, st16⟩ := putF X15 hx hZ hown (host := "") (Or.inl (own_w hw 17 rfl)) Via.refl e15 F1 E1 (Or.inl (own_w hw 18 rfl)) (own_w hw 1 rfl) (ty := .int) (by decide) rfl rfl (g := (mkF m 37 #[rv a1, .val (.long ky), .second, .unset, .unset] [(.int (1 : Int32)), (.ref a1), (.int (0 : Int32))])) rfl rfl (hb hby d3_37)
  clear X15 e15
  have f17_0 := E1.wr W16
  clear E1
  have sl18 := slot_ne (Z := Z) (a0 := a0) (Or.inl (own_w hw 11 rfl)) (Or.inl (own_w hw 18 rfl)) (by decide) (t := (.array .long)) (t' := .int) (by decide) (by decide)
  have f17_2 := F2.other W16 (Or.inr sl18)
  have f17_3 := A2.other W16 (Ne.symm ne12)
  clear A2
  have K19 : Keep h0 h16 [a1, a2] := K0.wr W16 (Or.inl (List.mem_of_getElem? (i := 0) rfl))
  clear K0
  have N20 := Fr.snoc X16 N0 g1
  clear N0
  have Fw16 : Fld Z h16 a1 "com/example/urania/urania/layered/KeyHeap" "count" "I" (.int (1 : Int32)) := F1.same W16
  clear W16
  refine own_st st16 ?_
  clear st16
  show own_Fin p e below G (T16.setTop (mkF m 40 #[rv a1, .val (.long ky), .second, .unset, .unset] [(.int (0 : Int32))]))
  refine own_st (fun _ k => XS.istoreN X16.here hx rfl (hb hby d3_40) rfl (l' := #[rv a1, .val (.long ky), .second, iv (0 : Int32), .unset]) rfl k) ?_
  show own_Fin p e below G (T16.setTop (mkF m 41 #[rv a1, .val (.long ky), .second, iv (0 : Int32), .unset] []))
  refine own_st (fun _ k => XS.iloadN X16.here hx rfl (hb hby d3_41) rfl  k) ?_
  show own_Fin p e below G (T16.setTop (mkF m 42 #[rv a1, .val (.long ky), .second, iv (0 : Int32), .unset] [(.int (0 : Int32))]))
  refine own_st (fun _ k => XS.ifYes X16.here hx rfl (pc0 := 42) (pc' := 86) rfl (hb hby d3_42) rfl ((if0 _ _).trans (flt (by decide : ¬ ((0 : Int32) < (0 : Int32)))).2.2.2) (by decide) (by decide) k) ?_
  show own_Fin p e below G (T16.setTop (mkF m 86 #[rv a1, .val (.long ky), .second, iv (0 : Int32), .unset] []))
  refine own_st (fun _ k => XS.aloadN X16.here hx rfl (hb hby d3_86) rfl rfl k) ?_
  show own_Fin p e below G (T16.setTop (mkF m 87 #[rv a1, .val (.long ky), .second, iv (0 : Int32), .unset] [(.ref a1)]))
  obtain ⟨T21, X21, e21, st21⟩ := getF X16 hx hZ hown (host := "") (Or.inl (own_w hw 10 rfl)) Via.refl e16 f17_2 (g := (mkF m 87 #[rv a1, .val (.long ky), .second, iv (0 : Int32), .unset] [(.ref a1)])) rfl rfl (hb hby d3_87)
  clear X16 e16
  refine own_st st21 ?_
  clear st21
  show own_Fin p e below G (T21.setTop (mkF m 90 #[rv a1, .val (.long ky), .second, iv (0 : Int32), .unset] [(.ref a2)]))
  refine own_st (fun _ k => XS.iloadN X21.here hx rfl (hb hby d3_90) rfl  k) ?_
  show own_Fin p e below G (T21.setTop (mkF m 91 #[rv a1, .val (.long ky), .second, iv (0 : Int32), .unset] [(.int (0 : Int32)), (.ref a2)]))
  refine own_st (fun _ k => XS.lloadN X21.here hx rfl (hb hby d3_91) rfl  k) ?_
  show own_Fin p e below G (T21.setTop (mkF m 92 #[rv a1, .val (.long ky), .second, iv (0 : Int32), .unset] [(.long ky), (.int (0 : Int32)), (.ref a2)]))
  obtain ⟨T22, h22, X22, e22, W22, V22, st22⟩ := own_stJ X21 hx hZ e21 f17_3 (j := (0 : Int32)) (n := 16) rfl (by decide) (g := (mkF m 92 #[rv a1, .val (.long ky), .second, iv (0 : Int32), .unset] [(.long ky), (.int (0 : Int32)), (.ref a2)])) rfl rfl (hb hby d3_92)
  clear f17_3 X21 e21
  have f23_0 := f17_0.wr W22
  clear f17_0 f23_0
  have f23_1 := Fw16.other W22 (Or.inl ne12)
  clear Fw16
  have f23_2 := f17_2.other W22 (Or.inl ne12)
  clear f17_2
  have K24 : Keep h0 h22 [a1, a2] := K19.wr W22 (Or.inl (List.mem_of_getElem? (i := 1) rfl))
  clear K19 W22
  have N25 := Fr.snoc X22 N20 g2
  clear N20
  replace V22 : own_AV Z h22 a2 .long (own_js [ky, x1, x2, x3, x4, x5, x6, x7, x8, x9, x10, x11, x12, x13, x14, x15]) := V22
  refine own_st st22 ?_
  clear st22
  show own_Fin p e below G (T22.setTop (mkF m 93 #[rv a1, .val (.long ky), .second, iv (0 : Int32), .unset] []))
  refine own_out X22 Bd.notSynchronized (v := none) (fun _ => rfl) hG (fun fs hr => X22.returnOut hx Bd.returns (hb hby d3_93) hr) (by decide) (by decide) ?_
  refine ⟨rfl, N25, e22.symm ▸ K24, e22.symm ▸ f23_1, e22.symm ▸ f23_2, ky, e22.symm ▸ V22, ?_, fun t => ?_⟩
  · trivial
  · omega

theorem d3_45 : decode prog_53_method_6_code 45 = .ok (.iload_n 3, 1) := by decide +kernel
theorem d3_46 : decode prog_53_method_6_code 46 = .ok (.iconst 1, 1) := by decide +kernel
theorem d3_47 : decode prog_53_method_6_code 47 = .ok (.isub, 1) := by decide +kernel
theorem d3_48 : decode prog_53_method_6_code 48 = .ok (.iconst 2, 1) := by decide +kernel
theorem d3_49 : decode prog_53_method_6_code 49 = .ok (.idiv, 1) := by decide +kernel
theorem d3_50 : decode prog_53_method_6_code 50 = .ok (.istore 4, 2) := by decide +kernel
theorem d3_52 : decode prog_53_method_6_code 52 = .ok (.aload_n 0, 1) := by decide +kernel
theorem d3_53 : decode prog_53_method_6_code 53 = .ok (.getfield 7, 3) := by decide +kernel
theorem d3_56 : decode prog_53_method_6_code 56 = .ok (.iload 4, 2) := by decide +kernel
theorem d3_58 : decode prog_53_method_6_code 58 = .ok (.laload, 1) := by decide +kernel
theorem d3_59 : decode prog_53_method_6_code 59 = .ok (.lload_n 1, 1) := by decide +kernel
theorem d3_60 : decode prog_53_method_6_code 60 = .ok (.lcmp, 1) := by decide +kernel
theorem d3_61 : decode prog_53_method_6_code 61 = .ok (.ifCond .gt 6, 3) := by decide +kernel
theorem d3_67 : decode prog_53_method_6_code 67 = .ok (.aload_n 0, 1) := by decide +kernel
theorem d3_68 : decode prog_53_method_6_code 68 = .ok (.getfield 7, 3) := by decide +kernel
theorem d3_71 : decode prog_53_method_6_code 71 = .ok (.iload_n 3, 1) := by decide +kernel
theorem d3_72 : decode prog_53_method_6_code 72 = .ok (.aload_n 0, 1) := by decide +kernel
theorem d3_73 : decode prog_53_method_6_code 73 = .ok (.getfield 7, 3) := by decide +kernel
theorem d3_76 : decode prog_53_method_6_code 76 = .ok (.iload 4, 2) := by decide +kernel
theorem d3_78 : decode prog_53_method_6_code 78 = .ok (.laload, 1) := by decide +kernel
theorem d3_79 : decode prog_53_method_6_code 79 = .ok (.lastore, 1) := by decide +kernel
theorem d3_80 : decode prog_53_method_6_code 80 = .ok (.iload 4, 2) := by decide +kernel
theorem d3_82 : decode prog_53_method_6_code 82 = .ok (.istore_n 3, 1) := by decide +kernel
theorem d3_83 : decode prog_53_method_6_code 83 = .ok (.goto (-42), 3) := by decide +kernel
theorem d3_64 : decode prog_53_method_6_code 64 = .ok (.goto 22, 3) := by decide +kernel
def Qrm_add1 (Z : State) (a1 : Addr) (ky : Int64) (a2 : Addr) (x0 : Int64) (x1 : Int64) (x2 : Int64) (x3 : Int64) (x4 : Int64) (x5 : Int64) (x6 : Int64) (x7 : Int64) (x8 : Int64) (x9 : Int64) (x10 : Int64) (x11 : Int64) (x12 : Int64) (x13 : Int64) (x14 : Int64) (x15 : Int64) (h0 : Heap) (n0 : Nat) (v : Option Value) (h : Heap) (L : List Loc) : Prop := v = none ∧ Fr n0 L ∧ Keep h0 h [a1, a2] ∧ Fld Z h a1 "com/example/urania/urania/layered/KeyHeap" "count" "I" (.int (2 : Int32)) ∧ Fld Z h a1 "com/example/urania/urania/layered/KeyHeap" "keys" "[J" (.ref a2) ∧ ∃ y0 y1 : Int64, own_AV Z h a2 .long (own_js [y0, y1, x2, x3, x4, x5, x6, x7, x8, x9, x10, x11, x12, x13, x14, x15]) ∧ (y0.toInt ≤ y1.toInt) ∧ ∀ t, own_d t y0 + own_d t y1 = own_d t x0 + own_d t ky
set_option maxRecDepth 65536 in
set_option maxHeartbeats 40000000 in
theorem rm_add1 (l : Launch) (Z : State) (a0 : Array Value) (hw : ∀ d ∈ tables_1, d.before a0 Z = true) (ws : List Jvm.Cond) (a1 : Addr) (ky : Int64) (a2 : Addr) (x0 : Int64) (x1 : Int64) (x2 : Int64) (x3 : Int64) (x4 : Int64) (x5 : Int64) (x6 : Int64) (x7 : Int64) (x8 : Int64) (x9 : Int64) (x10 : Int64) (x11 : Int64) (x12 : Int64) (x13 : Int64) (x14 : Int64) (x15 : Int64) (h0 : Heap) (n0 : Nat) (Z0 : n0 ≤ h0.size) (E1 : Exa Z h0 a1 "com/example/urania/urania/layered/KeyHeap") (F1 : Fld Z h0 a1 "com/example/urania/urania/layered/KeyHeap" "count" "I" (.int (1 : Int32))) (F2 : Fld Z h0 a1 "com/example/urania/urania/layered/KeyHeap" "keys" "[J" (.ref a2)) (A2 : own_AV Z h0 a2 .long (own_js [x0, x1, x2, x3, x4, x5, x6, x7, x8, x9, x10, x11, x12, x13, x14, x15])) (ne12 : a1 ≠ a2) (g1 : n0 ≤ a1) (g2 : n0 ≤ a2) (hH : True) :
    MetFree l own_y4 (head1 (Jvm.Cond.code own_y4 prog_53_method_6_code 5 none :: ws) ({ frames := 0, cells := 0, slots := 0, locals := 0 } : Room)) (fun a U => a = #[(.ref a1), (.long ky)] ∧ Z.Warmed39 U.vm ∧ U.heap = h0) (fun _ _ _ _ _ => True) (fun _ U o U' => ∃ v L, o = .returned v ∧ Qrm_add1 Z a1 ky a2 x0 x1 x2 x3 x4 x5 x6 x7 x8 x9 x10 x11 x12 x13 x14 x15 h0 n0 v U'.heap L ∧ FrameEnd U o U' L ({ frames := 0, cells := 0, slots := 0, locals := 0 } : Room).cells ({ frames := 0, cells := 0, slots := 0, locals := 0 } : Room).slots) := by
  refine MetFree.of_bodySF (plainFor_of_name pn_com_example_urania_urania_layered_KeyHeap) hisR ?_
  intro p e s m args below meth c s₁ Bd hml0 hP hK
  obtain ⟨rfl, hZ, hh⟩ := hP
  have hx := Bd.exec
  have hby := Bd.bytes
  have hml : c.maxLocals = 5 := hml0
  have hown : s.vm.findClass "com/example/urania/urania/layered/KeyHeap" = some m.cls := findClass_of_methodNamed Bd.named
  have hnm := (name_of_methodNamed Bd.named Bd.method).1
  have X0 : Stand p l e ({ frames := 0, cells := 0, slots := 0, locals := 0 } : Room) s m #[(.ref a1), (.long ky)] below meth c s₁ [] 0 0 := Stand.of_body Bd
  have e0 : s₁.heap = h0 := by rw [← hh, Bd.state]; rfl
  have N0 := Fr.nil n0
  have K0 : Keep h0 h0 [a1, a2] := Keep.refl _ _
  refine own_start (Qk := Qrm_add1 Z a1 ky a2 x0 x1 x2 x3 x4 x5 x6 x7 x8 x9 x10 x11 x12 x13 x14 x15 h0 n0) (fun G hG => ?_)
  refine own_st (fun _ k => castTop (ef_3_RJ m a1 ky) k) ?_
  show own_Fin p e below G (s₁.setTop (mkF m 0 #[rv a1, .val (.long ky), .second, .unset, .unset] []))
  refine own_st (fun _ k => XS.aloadN X0.here hx rfl (hb hby d3_0) rfl rfl k) ?_
  show own_Fin p e below G (s₁.setTop (mkF m 1 #[rv a1, .val (.long ky), .second, .unset, .unset] [(.ref a1)]))
  obtain ⟨T26, X26, e26, st26⟩ := getF X0 hx hZ hown (host := "") (Or.inl (own_w hw 17 rfl)) Via.refl e0 F1 (g := (mkF m 1 #[rv a1, .val (.long ky), .second, .unset, .unset] [(.ref a1)])) rfl rfl (hb hby d3_1)
  clear X0 e0
  refine own_st st26 ?_
  clear st26
  show own_Fin p e below G (T26.setTop (mkF m 4 #[rv a1, .val (.long ky), .second, .unset, .unset] [(.int (1 : Int32))]))
  refine own_st (fun _ k => XS.aloadN X26.here hx rfl (hb hby d3_4) rfl rfl k) ?_
  show own_Fin p e below G (T26.setTop (mkF m 5 #[rv a1, .val (.long ky), .second, .unset, .unset] [(.ref a1), (.int (1 : Int32))]))
  obtain ⟨T27, X27, e27, st27⟩ := getF X26 hx hZ hown (host := "") (Or.inl (own_w hw 10 rfl)) Via.refl e26 F2 (g := (mkF m 5 #[rv a1, .val (.long ky), .second, .unset, .unset] [(.ref a1), (.int (1 : Int32))])) rfl rfl (hb hby d3_5)
  clear X26 e26
  refine own_st st27 ?_
  clear st27
  show own_Fin p e below G (T27.setTop (mkF m 8 #[rv a1, .val (.long ky), .second, .unset, .unset] [(.ref a2), (.int (1 : Int32))]))
  refine own_st (fun _ k => own_len X27 hx hZ e27 A2 (z := (16 : Int32)) rfl (g := (mkF m 8 #[rv a1, .val (.long ky), .second, .unset, .unset] [(.ref a2), (.int (1 : Int32))])) rfl rfl (hb hby d3_8) k) ?_
  show own_Fin p e below G (T27.setTop (mkF m 9 #[rv a1, .val (.long ky), .second, .unset, .unset] [(.int (16 : Int32)), (.int (1 : Int32))]))
  refine own_st (fun _ k => XS.icmpYes X27.here hx rfl (pc0 := 9) (pc' := 29) rfl (hb hby d3_9) rfl (feq (by decide : ¬ ((1 : Int32) = (16 : Int32)))).2 (by decide) (by decide) k) ?_
  show own_Fin p e below G (T27.setTop (mkF m 29 #[rv a1, .val (.long ky), .second, .unset, .unset] []))
  refine own_st (fun _ k => XS.aloadN X27.here hx rfl (hb hby d3_29) rfl rfl k) ?_
  show own_Fin p e below G (T27.setTop (mkF m 30 #[rv a1, .val (.long ky), .second, .unset, .unset] [(.ref a1)]))
  refine own_st (fun _ k => XS.dup X27.here hx rfl (hb hby d3_30) rfl rfl k) ?_
  show own_Fin p e below G (T27.setTop (mkF m 31 #[rv a1, .val (.long ky), .second, .unset, .unset] [(.ref a1), (.ref a1)]))
  obtain ⟨T28, X28, e28, st28⟩ := getF X27 hx hZ hown (host := "") (Or.inl (own_w hw 17 rfl)) Via.refl e27 F1 (g := (mkF m 31 #[rv a1, .val (.long ky), .second, .unset, .unset] [(.ref a1), (.ref a1)])) rfl rfl (hb hby d3_31)
  clear X27 e27
  refine own_st st28 ?_
  clear st28
  show own_Fin p e below G (T28.setTop (mkF m 34 #[rv a1, .val (.long ky), .second, .unset, .unset] [(.int (1 : Int32)), (.ref a1)]))
  refine own_st (fun _ k => XS.dupX1 X28.here hx rfl (hb hby d3_34) rfl rfl rfl k) ?_
  show own_Fin p e below G (T28.setTop (mkF m 35 #[rv a1, .val (.long ky), .second, .unset, .unset] [(.int (1 : Int32)), (.ref a1), (.int (1 : Int32))]))
  refine own_st (fun _ k => XS.iconst X28.here hx rfl (hb hby d3_35) k) ?_
  show own_Fin p e below G (T28.setTop (mkF m 36 #[rv a1, .val (.long ky), .second, .unset, .unset] [(.int (1 : Int32)), (.int (1 : Int32)), (.ref a1), (.int (1 : Int32))]))
  refine own_st (fun _ k => XS.iadd X28.here hx rfl (hb hby d3_36) rfl k) ?_
  show own_Fin p e below G (T28.setTop (mkF m 37 #[rv a1, .val (.long ky), .second, .unset, .unset] [(.int (2 : Int32)), (.ref a1), (.int (1 : Int32))]))
  obtain ⟨T29, h29, X29, e29, W29, st29⟩ := putF X28 hx hZ hown (host := "") (Or.inl (own_w hw 17 rfl)) Via.refl e28 F1 E1 (Or.inl (own_w hw 18 rfl)) (own_w hw 1 rfl) (ty := .int) (by decide) rfl rfl (g := (mkF m 37 #[rv a1, .val (.long ky), .second, .unset, .unset] [(.int (2 : Int32)), (.ref a1), (.int (1 : Int32))])) rfl rfl (hb hby d3_37)
  clear X28 e28
  have f30_0 := E1.wr W29
  clear E1
  have sl31 := slot_ne (Z := Z) (a0 := a0) (Or.inl (own_w hw 11 rfl)) (Or.inl (own_w hw 18 rfl)) (by decide) (t := (.array .long)) (t' := .int) (by decide) (by decide)
  have f30_2 := F2.other W29 (Or.inr sl31)
  have f30_3 := A2.other W29 (Ne.symm ne12)
  clear A2
  have K32 : Keep h0 h29 [a1, a2] := K0.wr W29 (Or.inl (List.mem_of_getElem? (i := 0) rfl))
  clear K0
  have N33 := Fr.snoc X29 N0 g1
  clear N0
  have Fw29 : Fld Z h29 a1 "com/example/urania/urania/layered/KeyHeap" "count" "I" (.int (2 : Int32)) := F1.same W29
  clear W29
  refine own_st st29 ?_
  clear st29
  show own_Fin p e below G (T29.setTop (mkF m 40 #[rv a1, .val (.long ky), .second, .unset, .unset] [(.int (1 : Int32))]))
  refine own_st (fun _ k => XS.istoreN X29.here hx rfl (hb hby d3_40) rfl (l' := #[rv a1, .val (.long ky), .second, iv (1 : Int32), .unset]) rfl k) ?_
  show own_Fin p e below G (T29.setTop (mkF m 41 #[rv a1, .val (.long ky), .second, iv (1 : Int32), .unset] []))
  refine own_st (fun _ k => XS.iloadN X29.here hx rfl (hb hby d3_41) rfl  k) ?_
  show own_Fin p e below G (T29.setTop (mkF m 42 #[rv a1, .val (.long ky), .second, iv (1 : Int32), .unset] [(.int (1 : Int32))]))
  refine own_st (fun _ k => XS.ifNo X29.here hx rfl (hb hby d3_42) rfl ((if0 _ _).trans (tlt (by decide : ((0 : Int32) < (1 : Int32)))).2.2.2) k) ?_
  show own_Fin p e below G (T29.setTop (mkF m 45 #[rv a1, .val (.long ky), .second, iv (1 : Int32), .unset] []))
  refine own_st (fun _ k => XS.iloadN X29.here hx rfl (hb hby d3_45) rfl  k) ?_
  show own_Fin p e below G (T29.setTop (mkF m 46 #[rv a1, .val (.long ky), .second, iv (1 : Int32), .unset] [(.int (1 : Int32))]))
  refine own_st (fun _ k => XS.iconst X29.here hx rfl (hb hby d3_46) k) ?_
  show own_Fin p e below G (T29.setTop (mkF m 47 #[rv a1, .val (.long ky), .second, iv (1 : Int32), .unset] [(.int (1 : Int32)), (.int (1 : Int32))]))
  refine own_st (fun _ k => XS.isub X29.here hx rfl (hb hby d3_47) rfl k) ?_
  show own_Fin p e below G (T29.setTop (mkF m 48 #[rv a1, .val (.long ky), .second, iv (1 : Int32), .unset] [(.int (0 : Int32))]))
  refine own_st (fun _ k => XS.iconst X29.here hx rfl (hb hby d3_48) k) ?_
  show own_Fin p e below G (T29.setTop (mkF m 49 #[rv a1, .val (.long ky), .second, iv (1 : Int32), .unset] [(.int (2 : Int32)), (.int (0 : Int32))]))
  refine own_st (fun _ k => XS.idiv X29.here hx rfl (hb hby d3_49) rfl (by decide) k) ?_
  show own_Fin p e below G (T29.setTop (mkF m 50 #[rv a1, .val (.long ky), .second, iv (1 : Int32), .unset] [(.int (0 : Int32))]))
  refine own_st (fun _ k => XS.istore X29.here hx rfl (hb hby d3_50) rfl (l' := #[rv a1, .val (.long ky), .second, iv (1 : Int32), iv (0 : Int32)]) rfl k) ?_
  show own_Fin p e below G (T29.setTop (mkF m 52 #[rv a1, .val (.long ky), .second, iv (1 : Int32), iv (0 : Int32)] []))
  refine own_st (fun _ k => XS.aloadN X29.here hx rfl (hb hby d3_52) rfl rfl k) ?_
  show own_Fin p e below G (T29.setTop (mkF m 53 #[rv a1, .val (.long ky), .second, iv (1 : Int32), iv (0 : Int32)] [(.ref a1)]))
  obtain ⟨T34, X34, e34, st34⟩ := getF X29 hx hZ hown (host := "") (Or.inl (own_w hw 10 rfl)) Via.refl e29 f30_2 (g := (mkF m 53 #[rv a1, .val (.long ky), .second, iv (1 : Int32), iv (0 : Int32)] [(.ref a1)])) rfl rfl (hb hby d3_53)
  clear X29 e29
  refine own_st st34 ?_
  clear st34
  show own_Fin p e below G (T34.setTop (mkF m 56 #[rv a1, .val (.long ky), .second, iv (1 : Int32), iv (0 : Int32)] [(.ref a2)]))
  refine own_st (fun _ k => XS.iload X34.here hx rfl (hb hby d3_56) rfl  k) ?_
  show own_Fin p e below G (T34.setTop (mkF m 58 #[rv a1, .val (.long ky), .second, iv (1 : Int32), iv (0 : Int32)] [(.int (0 : Int32)), (.ref a2)]))
  refine own_st (fun _ k => own_ldJ X34 hx hZ e34 f30_3 (j := (0 : Int32)) (n := 16) rfl (by decide) (g := (mkF m 58 #[rv a1, .val (.long ky), .second, iv (1 : Int32), iv (0 : Int32)] [(.int (0 : Int32)), (.ref a2)])) rfl rfl (hb hby d3_58) k) ?_
  show own_Fin p e below G (T34.setTop (mkF m 59 #[rv a1, .val (.long ky), .second, iv (1 : Int32), iv (0 : Int32)] [(.long x0)]))
  refine own_st (fun _ k => XS.lloadN X34.here hx rfl (hb hby d3_59) rfl  k) ?_
  show own_Fin p e below G (T34.setTop (mkF m 60 #[rv a1, .val (.long ky), .second, iv (1 : Int32), iv (0 : Int32)] [(.long ky), (.long x0)]))
  refine own_st (fun _ k => XS.lcmp X34.here hx rfl (hb hby d3_60) rfl k) ?_
  show own_Fin p e below G (T34.setTop (mkF m 61 #[rv a1, .val (.long ky), .second, iv (1 : Int32), iv (0 : Int32)] [(.int (lcmpW x0 ky))]))
  by_cases hc61_35 : (0 : Int32) < (lcmpW x0 ky)
  · refine own_st (fun _ k => XS.ifYes X34.here hx rfl (pc0 := 61) (pc' := 67) rfl (hb hby d3_61) rfl ((if0 _ _).trans (tlt hc61_35).2.2.1) (by decide) (by decide) k) ?_
    show own_Fin p e below G (T34.setTop (mkF m 67 #[rv a1, .val (.long ky), .second, iv (1 : Int32), iv (0 : Int32)] []))
    refine own_st (fun _ k => XS.aloadN X34.here hx rfl (hb hby d3_67) rfl rfl k) ?_
    show own_Fin p e below G (T34.setTop (mkF m 68 #[rv a1, .val (.long ky), .second, iv (1 : Int32), iv (0 : Int32)] [(.ref a1)]))
    obtain ⟨T36, X36, e36, st36⟩ := getF X34 hx hZ hown (host := "") (Or.inl (own_w hw 10 rfl)) Via.refl e34 f30_2 (g := (mkF m 68 #[rv a1, .val (.long ky), .second, iv (1 : Int32), iv (0 : Int32)] [(.ref a1)])) rfl rfl (hb hby d3_68)
    refine own_st st36 ?_
    clear st36
    show own_Fin p e below G (T36.setTop (mkF m 71 #[rv a1, .val (.long ky), .second, iv (1 : Int32), iv (0 : Int32)] [(.ref a2)]))
    refine own_st (fun _ k => XS.iloadN X36.here hx rfl (hb hby d3_71) rfl  k) ?_
    show own_Fin p e below G (T36.setTop (mkF m 72 #[rv a1, .val (.long ky), .second, iv (1 : Int32), iv (0 : Int32)] [(.int (1 : Int32)), (.ref a2)]))
    refine own_st (fun _ k => XS.aloadN X36.here hx rfl (hb hby d3_72) rfl rfl k) ?_
    show own_Fin p e below G (T36.setTop (mkF m 73 #[rv a1, .val (.long ky), .second, iv (1 : Int32), iv (0 : Int32)] [(.ref a1), (.int (1 : Int32)), (.ref a2)]))
    obtain ⟨T37, X37, e37, st37⟩ := getF X36 hx hZ hown (host := "") (Or.inl (own_w hw 10 rfl)) Via.refl e36 f30_2 (g := (mkF m 73 #[rv a1, .val (.long ky), .second, iv (1 : Int32), iv (0 : Int32)] [(.ref a1), (.int (1 : Int32)), (.ref a2)])) rfl rfl (hb hby d3_73)
    clear X36 e36
    refine own_st st37 ?_
    clear st37
    show own_Fin p e below G (T37.setTop (mkF m 76 #[rv a1, .val (.long ky), .second, iv (1 : Int32), iv (0 : Int32)] [(.ref a2), (.int (1 : Int32)), (.ref a2)]))
    refine own_st (fun _ k => XS.iload X37.here hx rfl (hb hby d3_76) rfl  k) ?_
    show own_Fin p e below G (T37.setTop (mkF m 78 #[rv a1, .val (.long ky), .second, iv (1 : Int32), iv (0 : Int32)] [(.int (0 : Int32)), (.ref a2), (.int (1 : Int32)), (.ref a2)]))
    refine own_st (fun _ k => own_ldJ X37 hx hZ e37 f30_3 (j := (0 : Int32)) (n := 16) rfl (by decide) (g := (mkF m 78 #[rv a1, .val (.long ky), .second, iv (1 : Int32), iv (0 : Int32)] [(.int (0 : Int32)), (.ref a2), (.int (1 : Int32)), (.ref a2)])) rfl rfl (hb hby d3_78) k) ?_
    show own_Fin p e below G (T37.setTop (mkF m 79 #[rv a1, .val (.long ky), .second, iv (1 : Int32), iv (0 : Int32)] [(.long x0), (.int (1 : Int32)), (.ref a2)]))
    obtain ⟨T38, h38, X38, e38, W38, V38, st38⟩ := own_stJ X37 hx hZ e37 f30_3 (j := (1 : Int32)) (n := 16) rfl (by decide) (g := (mkF m 79 #[rv a1, .val (.long ky), .second, iv (1 : Int32), iv (0 : Int32)] [(.long x0), (.int (1 : Int32)), (.ref a2)])) rfl rfl (hb hby d3_79)
    clear X37 e37
    have f39_0 := f30_0.wr W38
    have f39_1 := Fw29.other W38 (Or.inl ne12)
    have f39_2 := f30_2.other W38 (Or.inl ne12)
    have K40 : Keep h0 h38 [a1, a2] := K32.wr W38 (Or.inl (List.mem_of_getElem? (i := 1) rfl))
    clear W38
    have N41 := Fr.snoc X38 N33 g2
    replace V38 : own_AV Z h38 a2 .long (own_js [x0, x0, x2, x3, x4, x5, x6, x7, x8, x9, x10, x11, x12, x13, x14, x15]) := V38
    refine own_st st38 ?_
    clear st38
    show own_Fin p e below G (T38.setTop (mkF m 80 #[rv a1, .val (.long ky), .second, iv (1 : Int32), iv (0 : Int32)] []))
    refine own_st (fun _ k => XS.iload X38.here hx rfl (hb hby d3_80) rfl  k) ?_
    show own_Fin p e below G (T38.setTop (mkF m 82 #[rv a1, .val (.long ky), .second, iv (1 : Int32), iv (0 : Int32)] [(.int (0 : Int32))]))
    refine own_st (fun _ k => XS.istoreN X38.here hx rfl (hb hby d3_82) rfl (l' := #[rv a1, .val (.long ky), .second, iv (0 : Int32), iv (0 : Int32)]) rfl k) ?_
    show own_Fin p e below G (T38.setTop (mkF m 83 #[rv a1, .val (.long ky), .second, iv (0 : Int32), iv (0 : Int32)] []))
    refine own_st (fun _ k => XS.goto X38.here hx rfl (pc0 := 83) (pc' := 41) rfl (hb hby d3_83) (by decide) (by decide) k) ?_
    show own_Fin p e below G (T38.setTop (mkF m 41 #[rv a1, .val (.long ky), .second, iv (0 : Int32), iv (0 : Int32)] []))
    refine own_st (fun _ k => XS.iloadN X38.here hx rfl (hb hby d3_41) rfl  k) ?_
    show own_Fin p e below G (T38.setTop (mkF m 42 #[rv a1, .val (.long ky), .second, iv (0 : Int32), iv (0 : Int32)] [(.int (0 : Int32))]))
    refine own_st (fun _ k => XS.ifYes X38.here hx rfl (pc0 := 42) (pc' := 86) rfl (hb hby d3_42) rfl ((if0 _ _).trans (flt (by decide : ¬ ((0 : Int32) < (0 : Int32)))).2.2.2) (by decide) (by decide) k) ?_
    show own_Fin p e below G (T38.setTop (mkF m 86 #[rv a1, .val (.long ky), .second, iv (0 : Int32), iv (0 : Int32)] []))
    refine own_st (fun _ k => XS.aloadN X38.here hx rfl (hb hby d3_86) rfl rfl k) ?_
    show own_Fin p e below G (T38.setTop (mkF m 87 #[rv a1, .val (.long ky), .second, iv (0 : Int32), iv (0 : Int32)] [(.ref a1)]))
    obtain ⟨T42, X42, e42, st42⟩ := getF X38 hx hZ hown (host := "") (Or.inl (own_w hw 10 rfl)) Via.refl e38 f39_2 (g := (mkF m 87 #[rv a1, .val (.long ky), .second, iv (0 : Int32), iv (0 : Int32)] [(.ref a1)])) rfl rfl (hb hby d3_87)
    clear X38 e38
    refine own_st st42 ?_
    clear st42
    show own_Fin p e below G (T42.setTop (mkF m 90 #[rv a1, .val (.long ky), .second, iv (0 : Int32), iv (0 : Int32)] [(.ref a2)]))
    refine own_st (fun _ k => XS.iloadN X42.here hx rfl (hb hby d3_90) rfl  k) ?_
    show own_Fin p e below G (T42.setTop (mkF m 91 #[rv a1, .val (.long ky), .second, iv (0 : Int32), iv (0 : Int32)] [(.int (0 : Int32)), (.ref a2)]))
    refine own_st (fun _ k => XS.lloadN X42.here hx rfl (hb hby d3_91) rfl  k) ?_
    show own_Fin p e below G (T42.setTop (mkF m 92 #[rv a1, .val (.long ky), .second, iv (0 : Int32), iv (0 : Int32)] [(.long ky), (.int (0 : Int32)), (.ref a2)]))
    obtain ⟨T43, h43, X43, e43, W43, V43, st43⟩ := own_stJ X42 hx hZ e42 V38 (j := (0 : Int32)) (n := 16) rfl (by decide) (g := (mkF m 92 #[rv a1, .val (.long ky), .second, iv (0 : Int32), iv (0 : Int32)] [(.long ky), (.int (0 : Int32)), (.ref a2)])) rfl rfl (hb hby d3_92)
    clear V38 X42 e42
    have f44_0 := f39_0.wr W43
    clear f39_0 f44_0
    have f44_1 := f39_1.other W43 (Or.inl ne12)
    clear f39_1
    have f44_2 := f39_2.other W43 (Or.inl ne12)
    clear f39_2
    have K45 : Keep h0 h43 [a1, a2] := K40.wr W43 (Or.inl (List.mem_of_getElem? (i := 1) rfl))
    clear K40 W43
    have N46 := Fr.snoc X43 N41 g2
    clear N41
    replace V43 : own_AV Z h43 a2 .long (own_js [ky, x0, x2, x3, x4, x5, x6, x7, x8, x9, x10, x11, x12, x13, x14, x15]) := V43
    refine own_st st43 ?_
    clear st43
    show own_Fin p e below G (T43.setTop (mkF m 93 #[rv a1, .val (.long ky), .second, iv (0 : Int32), iv (0 : Int32)] []))
    refine own_out X43 Bd.notSynchronized (v := none) (fun _ => rfl) hG (fun fs hr => X43.returnOut hx Bd.returns (hb hby d3_93) hr) (by decide) (by decide) ?_
    have o_hc61_35 : ky.toInt < x0.toInt := own_gt.mp hc61_35
    refine ⟨rfl, N46, e43.symm ▸ K45, e43.symm ▸ f44_1, e43.symm ▸ f44_2, ky, x0, e43.symm ▸ V43, ?_, fun t => ?_⟩
    · omega
    · omega
  · refine own_st (fun _ k => XS.ifNo X34.here hx rfl (hb hby d3_61) rfl ((if0 _ _).trans (flt hc61_35).2.2.1) k) ?_
    show own_Fin p e below G (T34.setTop (mkF m 64 #[rv a1, .val (.long ky), .second, iv (1 : Int32), iv (0 : Int32)] []))
    refine own_st (fun _ k => XS.goto X34.here hx rfl (pc0 := 64) (pc' := 86) rfl (hb hby d3_64) (by decide) (by decide) k) ?_
    show own_Fin p e below G (T34.setTop (mkF m 86 #[rv a1, .val (.long ky), .second, iv (1 : Int32), iv (0 : Int32)] []))
    refine own_st (fun _ k => XS.aloadN X34.here hx rfl (hb hby d3_86) rfl rfl k) ?_
    show own_Fin p e below G (T34.setTop (mkF m 87 #[rv a1, .val (.long ky), .second, iv (1 : Int32), iv (0 : Int32)] [(.ref a1)]))
    obtain ⟨T47, X47, e47, st47⟩ := getF X34 hx hZ hown (host := "") (Or.inl (own_w hw 10 rfl)) Via.refl e34 f30_2 (g := (mkF m 87 #[rv a1, .val (.long ky), .second, iv (1 : Int32), iv (0 : Int32)] [(.ref a1)])) rfl rfl (hb hby d3_87)
    clear X34 e34
    refine own_st st47 ?_
    clear st47
    show own_Fin p e below G (T47.setTop (mkF m 90 #[rv a1, .val (.long ky), .second, iv (1 : Int32), iv (0 : Int32)] [(.ref a2)]))
    refine own_st (fun _ k => XS.iloadN X47.here hx rfl (hb hby d3_90) rfl  k) ?_
    show own_Fin p e below G (T47.setTop (mkF m 91 #[rv a1, .val (.long ky), .second, iv (1 : Int32), iv (0 : Int32)] [(.int (1 : Int32)), (.ref a2)]))
    refine own_st (fun _ k => XS.lloadN X47.here hx rfl (hb hby d3_91) rfl  k) ?_
    show own_Fin p e below G (T47.setTop (mkF m 92 #[rv a1, .val (.long ky), .second, iv (1 : Int32), iv (0 : Int32)] [(.long ky), (.int (1 : Int32)), (.ref a2)]))
    obtain ⟨T48, h48, X48, e48, W48, V48, st48⟩ := own_stJ X47 hx hZ e47 f30_3 (j := (1 : Int32)) (n := 16) rfl (by decide) (g := (mkF m 92 #[rv a1, .val (.long ky), .second, iv (1 : Int32), iv (0 : Int32)] [(.long ky), (.int (1 : Int32)), (.ref a2)])) rfl rfl (hb hby d3_92)
    clear f30_3 X47 e47
    have f49_0 := f30_0.wr W48
    clear f30_0 f49_0
    have f49_1 := Fw29.other W48 (Or.inl ne12)
    clear Fw29
    have f49_2 := f30_2.other W48 (Or.inl ne12)
    clear f30_2
    have K50 : Keep h0 h48 [a1, a2] := K32.wr W48 (Or.inl (List.mem_of_getElem? (i := 1) rfl))
    clear K32 W48
    have N51 := Fr.snoc X48 N33 g2
    clear N33
    replace V48 : own_AV Z h48 a2 .long (own_js [x0, ky, x2, x3, x4, x5, x6, x7, x8, x9, x10, x11, x12, x13, x14, x15]) := V48
    refine own_st st48 ?_
    clear st48
    show own_Fin p e below G (T48.setTop (mkF m 93 #[rv a1, .val (.long ky), .second, iv (1 : Int32), iv (0 : Int32)] []))
    refine own_out X48 Bd.notSynchronized (v := none) (fun _ => rfl) hG (fun fs hr => X48.returnOut hx Bd.returns (hb hby d3_93) hr) (by decide) (by decide) ?_
    have o_hc61_35 : ¬ ky.toInt < x0.toInt := fun q => hc61_35 (own_gt.mpr q)
    refine ⟨rfl, N51, e48.symm ▸ K50, e48.symm ▸ f49_1, e48.symm ▸ f49_2, x0, ky, e48.symm ▸ V48, ?_, fun t => ?_⟩
    · omega
    · omega

def Qrm_add2 (Z : State) (a1 : Addr) (ky : Int64) (a2 : Addr) (x0 : Int64) (x1 : Int64) (x2 : Int64) (x3 : Int64) (x4 : Int64) (x5 : Int64) (x6 : Int64) (x7 : Int64) (x8 : Int64) (x9 : Int64) (x10 : Int64) (x11 : Int64) (x12 : Int64) (x13 : Int64) (x14 : Int64) (x15 : Int64) (h0 : Heap) (n0 : Nat) (v : Option Value) (h : Heap) (L : List Loc) : Prop := v = none ∧ Fr n0 L ∧ Keep h0 h [a1, a2] ∧ Fld Z h a1 "com/example/urania/urania/layered/KeyHeap" "count" "I" (.int (3 : Int32)) ∧ Fld Z h a1 "com/example/urania/urania/layered/KeyHeap" "keys" "[J" (.ref a2) ∧ ∃ y0 y1 y2 : Int64, own_AV Z h a2 .long (own_js [y0, y1, y2, x3, x4, x5, x6, x7, x8, x9, x10, x11, x12, x13, x14, x15]) ∧ (y0.toInt ≤ y1.toInt ∧ y0.toInt ≤ y2.toInt) ∧ ∀ t, own_d t y0 + own_d t y1 + own_d t y2 = own_d t x0 + own_d t x1 + own_d t ky
set_option maxRecDepth 65536 in
set_option maxHeartbeats 40000000 in
theorem rm_add2 (l : Launch) (Z : State) (a0 : Array Value) (hw : ∀ d ∈ tables_1, d.before a0 Z = true) (ws : List Jvm.Cond) (a1 : Addr) (ky : Int64) (a2 : Addr) (x0 : Int64) (x1 : Int64) (x2 : Int64) (x3 : Int64) (x4 : Int64) (x5 : Int64) (x6 : Int64) (x7 : Int64) (x8 : Int64) (x9 : Int64) (x10 : Int64) (x11 : Int64) (x12 : Int64) (x13 : Int64) (x14 : Int64) (x15 : Int64) (h0 : Heap) (n0 : Nat) (Z0 : n0 ≤ h0.size) (E1 : Exa Z h0 a1 "com/example/urania/urania/layered/KeyHeap") (F1 : Fld Z h0 a1 "com/example/urania/urania/layered/KeyHeap" "count" "I" (.int (2 : Int32))) (F2 : Fld Z h0 a1 "com/example/urania/urania/layered/KeyHeap" "keys" "[J" (.ref a2)) (A2 : own_AV Z h0 a2 .long (own_js [x0, x1, x2, x3, x4, x5, x6, x7, x8, x9, x10, x11, x12, x13, x14, x15])) (ne12 : a1 ≠ a2) (g1 : n0 ≤ a1) (g2 : n0 ≤ a2) (hH : x0.toInt ≤ x1.toInt) :
    MetFree l own_y4 (head1 (Jvm.Cond.code own_y4 prog_53_method_6_code 5 none :: ws) ({ frames := 0, cells := 0, slots := 0, locals := 0 } : Room)) (fun a U => a = #[(.ref a1), (.long ky)] ∧ Z.Warmed39 U.vm ∧ U.heap = h0) (fun _ _ _ _ _ => True) (fun _ U o U' => ∃ v L, o = .returned v ∧ Qrm_add2 Z a1 ky a2 x0 x1 x2 x3 x4 x5 x6 x7 x8 x9 x10 x11 x12 x13 x14 x15 h0 n0 v U'.heap L ∧ FrameEnd U o U' L ({ frames := 0, cells := 0, slots := 0, locals := 0 } : Room).cells ({ frames := 0, cells := 0, slots := 0, locals := 0 } : Room).slots) := by
  refine MetFree.of_bodySF (plainFor_of_name pn_com_example_urania_urania_layered_KeyHeap) hisR ?_
  intro p e s m args below meth c s₁ Bd hml0 hP hK
  obtain ⟨rfl, hZ, hh⟩ := hP
  have hx := Bd.exec
  have hby := Bd.bytes
  have hml : c.maxLocals = 5 := hml0
  have hown : s.vm.findClass "com/example/urania/urania/layered/KeyHeap" = some m.cls := findClass_of_methodNamed Bd.named
  have hnm := (name_of_methodNamed Bd.named Bd.method).1
  have X0 : Stand p l e ({ frames := 0, cells := 0, slots := 0, locals := 0 } : Room) s m #[(.ref a1), (.long ky)] below meth c s₁ [] 0 0 := Stand.of_body Bd
  have e0 : s₁.heap = h0 := by rw [← hh, Bd.state]; rfl
  have N0 := Fr.nil n0
  have K0 : Keep h0 h0 [a1, a2] := Keep.refl _ _
  refine own_start (Qk := Qrm_add2 Z a1 ky a2 x0 x1 x2 x3 x4 x5 x6 x7 x8 x9 x10 x11 x12 x13 x14 x15 h0 n0) (fun G hG => ?_)
  refine own_st (fun _ k => castTop (ef_3_RJ m a1 ky) k) ?_
  show own_Fin p e below G (s₁.setTop (mkF m 0 #[rv a1, .val (.long ky), .second, .unset, .unset] []))
  refine own_st (fun _ k => XS.aloadN X0.here hx rfl (hb hby d3_0) rfl rfl k) ?_
  show own_Fin p e below G (s₁.setTop (mkF m 1 #[rv a1, .val (.long ky), .second, .unset, .unset] [(.ref a1)]))
  obtain ⟨T52, X52, e52, st52⟩ := getF X0 hx hZ hown (host := "") (Or.inl (own_w hw 17 rfl)) Via.refl e0 F1 (g := (mkF m 1 #[rv a1, .val (.long ky), .second, .unset, .unset] [(.ref a1)])) rfl rfl (hb hby d3_1)
  clear X0 e0
  refine own_st st52 ?_
  clear st52
  show own_Fin p e below G (T52.setTop (mkF m 4 #[rv a1, .val (.long ky), .second, .unset, .unset] [(.int (2 : Int32))]))
  refine own_st (fun _ k => XS.aloadN X52.here hx rfl (hb hby d3_4) rfl rfl k) ?_
  show own_Fin p e below G (T52.setTop (mkF m 5 #[rv a1, .val (.long ky), .second, .unset, .unset] [(.ref a1), (.int (2 : Int32))]))
  obtain ⟨T53, X53, e53, st53⟩ := getF X52 hx hZ hown (host := "") (Or.inl (own_w hw 10 rfl)) Via.refl e52 F2 (g := (mkF m 5 #[rv a1, .val (.long ky), .second, .unset, .unset] [(.ref a1), (.int (2 : Int32))])) rfl rfl (hb hby d3_5)
  clear X52 e52
  refine own_st st53 ?_
  clear st53
  show own_Fin p e below G (T53.setTop (mkF m 8 #[rv a1, .val (.long ky), .second, .unset, .unset] [(.ref a2), (.int (2 : Int32))]))
  refine own_st (fun _ k => own_len X53 hx hZ e53 A2 (z := (16 : Int32)) rfl (g := (mkF m 8 #[rv a1, .val (.long ky), .second, .unset, .unset] [(.ref a2), (.int (2 : Int32))])) rfl rfl (hb hby d3_8) k) ?_
  show own_Fin p e below G (T53.setTop (mkF m 9 #[rv a1, .val (.long ky), .second, .unset, .unset] [(.int (16 : Int32)), (.int (2 : Int32))]))
  refine own_st (fun _ k => XS.icmpYes X53.here hx rfl (pc0 := 9) (pc' := 29) rfl (hb hby d3_9) rfl (feq (by decide : ¬ ((2 : Int32) = (16 : Int32)))).2 (by decide) (by decide) k) ?_
  show own_Fin p e below G (T53.setTop (mkF m 29 #[rv a1, .val (.long ky), .second, .unset, .unset] []))
  refine own_st (fun _ k => XS.aloadN X53.here hx rfl (hb hby d3_29) rfl rfl k) ?_
  show own_Fin p e below G (T53.setTop (mkF m 30 #[rv a1, .val (.long ky), .second, .unset, .unset] [(.ref a1)]))
  refine own_st (fun _ k => XS.dup X53.here hx rfl (hb hby d3_30) rfl rfl k) ?_
  show own_Fin p e below G (T53.setTop (mkF m 31 #[rv a1, .val (.long ky), .second, .unset, .unset] [(.ref a1), (.ref a1)]))
  obtain ⟨T54, X54, e54, st54⟩ := getF X53 hx hZ hown (host := "") (Or.inl (own_w hw 17 rfl)) Via.refl e53 F1 (g := (mkF m 31 #[rv a1, .val (.long ky), .second, .unset, .unset] [(.ref a1), (.ref a1)])) rfl rfl (hb hby d3_31)
  clear X53 e53
  refine own_st st54 ?_
  clear st54
  show own_Fin p e below G (T54.setTop (mkF m 34 #[rv a1, .val (.long ky), .second, .unset, .unset] [(.int (2 : Int32)), (.ref a1)]))
  refine own_st (fun _ k => XS.dupX1 X54.here hx rfl (hb hby d3_34) rfl rfl rfl k) ?_
  show own_Fin p e below G (T54.setTop (mkF m 35 #[rv a1, .val (.long ky), .second, .unset, .unset] [(.int (2 : Int32)), (.ref a1), (.int (2 : Int32))]))
  refine own_st (fun _ k => XS.iconst X54.here hx rfl (hb hby d3_35) k) ?_
  show own_Fin p e below G (T54.setTop (mkF m 36 #[rv a1, .val (.long ky), .second, .unset, .unset] [(.int (1 : Int32)), (.int (2 : Int32)), (.ref a1), (.int (2 : Int32))]))
  refine own_st (fun _ k => XS.iadd X54.here hx rfl (hb hby d3_36) rfl k) ?_
  show own_Fin p e below G (T54.setTop (mkF m 37 #[rv a1, .val (.long ky), .second, .unset, .unset] [(.int (3 : Int32)), (.ref a1), (.int (2 : Int32))]))
  obtain ⟨T55, h55, X55, e55, W55, st55⟩ := putF X54 hx hZ hown (host := "") (Or.inl (own_w hw 17 rfl)) Via.refl e54 F1 E1 (Or.inl (own_w hw 18 rfl)) (own_w hw 1 rfl) (ty := .int) (by decide) rfl rfl (g := (mkF m 37 #[rv a1, .val (.long ky), .second, .unset, .unset] [(.int (3 : Int32)), (.ref a1), (.int (2 : Int32))])) rfl rfl (hb hby d3_37)
  clear X54 e54
  have f56_0 := E1.wr W55
  clear E1
  have sl57 := slot_ne (Z := Z) (a0 := a0) (Or.inl (own_w hw 11 rfl)) (Or.inl (own_w hw 18 rfl)) (by decide) (t := (.array .long)) (t' := .int) (by decide) (by decide)
  have f56_2 := F2.other W55 (Or.inr sl57)
  have f56_3 := A2.other W55 (Ne.symm ne12)
  clear A2
  have K58 : Keep h0 h55 [a1, a2] := K0.wr W55 (Or.inl (List.mem_of_getElem? (i := 0) rfl))
  clear K0
  have N59 := Fr.snoc X55 N0 g1
  clear N0
  have Fw55 : Fld Z h55 a1 "com/example/urania/urania/layered/KeyHeap" "count" "I" (.int (3 : Int32)) := F1.same W55
  clear W55
  refine own_st st55 ?_
  clear st55
  show own_Fin p e below G (T55.setTop (mkF m 40 #[rv a1, .val (.long ky), .second, .unset, .unset] [(.int (2 : Int32))]))
  refine own_st (fun _ k => XS.istoreN X55.here hx rfl (hb hby d3_40) rfl (l' := #[rv a1, .val (.long ky), .second, iv (2 : Int32), .unset]) rfl k) ?_
  show own_Fin p e below G (T55.setTop (mkF m 41 #[rv a1, .val (.long ky), .second, iv (2 : Int32), .unset] []))
  refine own_st (fun _ k => XS.iloadN X55.here hx rfl (hb hby d3_41) rfl  k) ?_
  show own_Fin p e below G (T55.setTop (mkF m 42 #[rv a1, .val (.long ky), .second, iv (2 : Int32), .unset] [(.int (2 : Int32))]))
  refine own_st (fun _ k => XS.ifNo X55.here hx rfl (hb hby d3_42) rfl ((if0 _ _).trans (tlt (by decide : ((0 : Int32) < (2 : Int32)))).2.2.2) k) ?_
  show own_Fin p e below G (T55.setTop (mkF m 45 #[rv a1, .val (.long ky), .second, iv (2 : Int32), .unset] []))
  refine own_st (fun _ k => XS.iloadN X55.here hx rfl (hb hby d3_45) rfl  k) ?_
  show own_Fin p e below G (T55.setTop (mkF m 46 #[rv a1, .val (.long ky), .second, iv (2 : Int32), .unset] [(.int (2 : Int32))]))
  refine own_st (fun _ k => XS.iconst X55.here hx rfl (hb hby d3_46) k) ?_
  show own_Fin p e below G (T55.setTop (mkF m 47 #[rv a1, .val (.long ky), .second, iv (2 : Int32), .unset] [(.int (1 : Int32)), (.int (2 : Int32))]))
  refine own_st (fun _ k => XS.isub X55.here hx rfl (hb hby d3_47) rfl k) ?_
  show own_Fin p e below G (T55.setTop (mkF m 48 #[rv a1, .val (.long ky), .second, iv (2 : Int32), .unset] [(.int (1 : Int32))]))
  refine own_st (fun _ k => XS.iconst X55.here hx rfl (hb hby d3_48) k) ?_
  show own_Fin p e below G (T55.setTop (mkF m 49 #[rv a1, .val (.long ky), .second, iv (2 : Int32), .unset] [(.int (2 : Int32)), (.int (1 : Int32))]))
  refine own_st (fun _ k => XS.idiv X55.here hx rfl (hb hby d3_49) rfl (by decide) k) ?_
  show own_Fin p e below G (T55.setTop (mkF m 50 #[rv a1, .val (.long ky), .second, iv (2 : Int32), .unset] [(.int (0 : Int32))]))
  refine own_st (fun _ k => XS.istore X55.here hx rfl (hb hby d3_50) rfl (l' := #[rv a1, .val (.long ky), .second, iv (2 : Int32), iv (0 : Int32)]) rfl k) ?_
  show own_Fin p e below G (T55.setTop (mkF m 52 #[rv a1, .val (.long ky), .second, iv (2 : Int32), iv (0 : Int32)] []))
  refine own_st (fun _ k => XS.aloadN X55.here hx rfl (hb hby d3_52) rfl rfl k) ?_
  show own_Fin p e below G (T55.setTop (mkF m 53 #[rv a1, .val (.long ky), .second, iv (2 : Int32), iv (0 : Int32)] [(.ref a1)]))
  obtain ⟨T60, X60, e60, st60⟩ := getF X55 hx hZ hown (host := "") (Or.inl (own_w hw 10 rfl)) Via.refl e55 f56_2 (g := (mkF m 53 #[rv a1, .val (.long ky), .second, iv (2 : Int32), iv (0 : Int32)] [(.ref a1)])) rfl rfl (hb hby d3_53)
  clear X55 e55
  refine own_st st60 ?_
  clear st60
  show own_Fin p e below G (T60.setTop (mkF m 56 #[rv a1, .val (.long ky), .second, iv (2 : Int32), iv (0 : Int32)] [(.ref a2)]))
  refine own_st (fun _ k => XS.iload X60.here hx rfl (hb hby d3_56) rfl  k) ?_
  show own_Fin p e below G (T60.setTop (mkF m 58 #[rv a1, .val (.long ky), .second, iv (2 : Int32), iv (0 : Int32)] [(.int (0 : Int32)), (.ref a2)]))
  refine own_st (fun _ k => own_ldJ X60 hx hZ e60 f56_3 (j := (0 : Int32)) (n := 16) rfl (by decide) (g := (mkF m 58 #[rv a1, .val (.long ky), .second, iv (2 : Int32), iv (0 : Int32)] [(.int (0 : Int32)), (.ref a2)])) rfl rfl (hb hby d3_58) k) ?_
  show own_Fin p e below G (T60.setTop (mkF m 59 #[rv a1, .val (.long ky), .second, iv (2 : Int32), iv (0 : Int32)] [(.long x0)]))
  refine own_st (fun _ k => XS.lloadN X60.here hx rfl (hb hby d3_59) rfl  k) ?_
  show own_Fin p e below G (T60.setTop (mkF m 60 #[rv a1, .val (.long ky), .second, iv (2 : Int32), iv (0 : Int32)] [(.long ky), (.long x0)]))
  refine own_st (fun _ k => XS.lcmp X60.here hx rfl (hb hby d3_60) rfl k) ?_
  show own_Fin p e below G (T60.setTop (mkF m 61 #[rv a1, .val (.long ky), .second, iv (2 : Int32), iv (0 : Int32)] [(.int (lcmpW x0 ky))]))
  by_cases hc61_61 : (0 : Int32) < (lcmpW x0 ky)
  · refine own_st (fun _ k => XS.ifYes X60.here hx rfl (pc0 := 61) (pc' := 67) rfl (hb hby d3_61) rfl ((if0 _ _).trans (tlt hc61_61).2.2.1) (by decide) (by decide) k) ?_
    show own_Fin p e below G (T60.setTop (mkF m 67 #[rv a1, .val (.long ky), .second, iv (2 : Int32), iv (0 : Int32)] []))
    refine own_st (fun _ k => XS.aloadN X60.here hx rfl (hb hby d3_67) rfl rfl k) ?_
    show own_Fin p e below G (T60.setTop (mkF m 68 #[rv a1, .val (.long ky), .second, iv (2 : Int32), iv (0 : Int32)] [(.ref a1)]))
    obtain ⟨T62, X62, e62, st62⟩ := getF X60 hx hZ hown (host := "") (Or.inl (own_w hw 10 rfl)) Via.refl e60 f56_2 (g := (mkF m 68 #[rv a1, .val (.long ky), .second, iv (2 : Int32), iv (0 : Int32)] [(.ref a1)])) rfl rfl (hb hby d3_68)
    refine own_st st62 ?_
    clear st62
    show own_Fin p e below G (T62.setTop (mkF m 71 #[rv a1, .val (.long ky), .second, iv (2 : Int32), iv (0 : Int32)] [(.ref a2)]))
    refine own_st (fun _ k => XS.iloadN X62.here hx rfl (hb hby d3_71) rfl  k) ?_
    show own_Fin p e below G (T62.setTop (mkF m 72 #[rv a1, .val (.long ky), .second, iv (2 : Int32), iv (0 : Int32)] [(.int (2 : Int32)), (.ref a2)]))
    refine own_st (fun _ k => XS.aloadN X62.here hx rfl (hb hby d3_72) rfl rfl k) ?_
    show own_Fin p e below G (T62.setTop (mkF m 73 #[rv a1, .val (.long ky), .second, iv (2 : Int32), iv (0 : Int32)] [(.ref a1), (.int (2 : Int32)), (.ref a2)]))
    obtain ⟨T63, X63, e63, st63⟩ := getF X62 hx hZ hown (host := "") (Or.inl (own_w hw 10 rfl)) Via.refl e62 f56_2 (g := (mkF m 73 #[rv a1, .val (.long ky), .second, iv (2 : Int32), iv (0 : Int32)] [(.ref a1), (.int (2 : Int32)), (.ref a2)])) rfl rfl (hb hby d3_73)
    clear X62 e62
    refine own_st st63 ?_
    clear st63
    show own_Fin p e below G (T63.setTop (mkF m 76 #[rv a1, .val (.long ky), .second, iv (2 : Int32), iv (0 : Int32)] [(.ref a2), (.int (2 : Int32)), (.ref a2)]))
    refine own_st (fun _ k => XS.iload X63.here hx rfl (hb hby d3_76) rfl  k) ?_
    show own_Fin p e below G (T63.setTop (mkF m 78 #[rv a1, .val (.long ky), .second, iv (2 : Int32), iv (0 : Int32)] [(.int (0 : Int32)), (.ref a2), (.int (2 : Int32)), (.ref a2)]))
    refine own_st (fun _ k => own_ldJ X63 hx hZ e63 f56_3 (j := (0 : Int32)) (n := 16) rfl (by decide) (g := (mkF m 78 #[rv a1, .val (.long ky), .second, iv (2 : Int32), iv (0 : Int32)] [(.int (0 : Int32)), (.ref a2), (.int (2 : Int32)), (.ref a2)])) rfl rfl (hb hby d3_78) k) ?_
    show own_Fin p e below G (T63.setTop (mkF m 79 #[rv a1, .val (.long ky), .second, iv (2 : Int32), iv (0 : Int32)] [(.long x0), (.int (2 : Int32)), (.ref a2)]))
    obtain ⟨T64, h64, X64, e64, W64, V64, st64⟩ := own_stJ X63 hx hZ e63 f56_3 (j := (2 : Int32)) (n := 16) rfl (by decide) (g := (mkF m 79 #[rv a1, .val (.long ky), .second, iv (2 : Int32), iv (0 : Int32)] [(.long x0), (.int (2 : Int32)), (.ref a2)])) rfl rfl (hb hby d3_79)
    clear X63 e63
    have f65_0 := f56_0.wr W64
    have f65_1 := Fw55.other W64 (Or.inl ne12)
    have f65_2 := f56_2.other W64 (Or.inl ne12)
    have K66 : Keep h0 h64 [a1, a2] := K58.wr W64 (Or.inl (List.mem_of_getElem? (i := 1) rfl))
    clear W64
    have N67 := Fr.snoc X64 N59 g2
    replace V64 : own_AV Z h64 a2 .long (own_js [x0, x1, x0, x3, x4, x5, x6, x7, x8, x9, x10, x11, x12, x13, x14, x15]) := V64
    refine own_st st64 ?_
    clear st64
    show own_Fin p e below G (T64.setTop (mkF m 80 #[rv a1, .val (.long ky), .second, iv (2 : Int32), iv (0 : Int32)] []))
    refine own_st (fun _ k => XS.iload X64.here hx rfl (hb hby d3_80) rfl  k) ?_
    show own_Fin p e below G (T64.setTop (mkF m 82 #[rv a1, .val (.long ky), .second, iv (2 : Int32), iv (0 : Int32)] [(.int (0 : Int32))]))
    refine own_st (fun _ k => XS.istoreN X64.here hx rfl (hb hby d3_82) rfl (l' := #[rv a1, .val (.long ky), .second, iv (0 : Int32), iv (0 : Int32)]) rfl k) ?_
    show own_Fin p e below G (T64.setTop (mkF m 83 #[rv a1, .val (.long ky), .second, iv (0 : Int32), iv (0 : Int32)] []))
    refine own_st (fun _ k => XS.goto X64.here hx rfl (pc0 := 83) (pc' := 41) rfl (hb hby d3_83) (by decide) (by decide) k) ?_
    show own_Fin p e below G (T64.setTop (mkF m 41 #[rv a1, .val (.long ky), .second, iv (0 : Int32), iv (0 : Int32)] []))
    refine own_st (fun _ k => XS.iloadN X64.here hx rfl (hb hby d3_41) rfl  k) ?_
    show own_Fin p e below G (T64.setTop (mkF m 42 #[rv a1, .val (.long ky), .second, iv (0 : Int32), iv (0 : Int32)] [(.int (0 : Int32))]))
    refine own_st (fun _ k => XS.ifYes X64.here hx rfl (pc0 := 42) (pc' := 86) rfl (hb hby d3_42) rfl ((if0 _ _).trans (flt (by decide : ¬ ((0 : Int32) < (0 : Int32)))).2.2.2) (by decide) (by decide) k) ?_
    show own_Fin p e below G (T64.setTop (mkF m 86 #[rv a1, .val (.long ky), .second, iv (0 : Int32), iv (0 : Int32)] []))
    refine own_st (fun _ k => XS.aloadN X64.here hx rfl (hb hby d3_86) rfl rfl k) ?_
    show own_Fin p e below G (T64.setTop (mkF m 87 #[rv a1, .val (.long ky), .second, iv (0 : Int32), iv (0 : Int32)] [(.ref a1)]))
    obtain ⟨T68, X68, e68, st68⟩ := getF X64 hx hZ hown (host := "") (Or.inl (own_w hw 10 rfl)) Via.refl e64 f65_2 (g := (mkF m 87 #[rv a1, .val (.long ky), .second, iv (0 : Int32), iv (0 : Int32)] [(.ref a1)])) rfl rfl (hb hby d3_87)
    clear X64 e64
    refine own_st st68 ?_
    clear st68
    show own_Fin p e below G (T68.setTop (mkF m 90 #[rv a1, .val (.long ky), .second, iv (0 : Int32), iv (0 : Int32)] [(.ref a2)]))
    refine own_st (fun _ k => XS.iloadN X68.here hx rfl (hb hby d3_90) rfl  k) ?_
    show own_Fin p e below G (T68.setTop (mkF m 91 #[rv a1, .val (.long ky), .second, iv (0 : Int32), iv (0 : Int32)] [(.int (0 : Int32)), (.ref a2)]))
    refine own_st (fun _ k => XS.lloadN X68.here hx rfl (hb hby d3_91) rfl  k) ?_
    show own_Fin p e below G (T68.setTop (mkF m 92 #[rv a1, .val (.long ky), .second, iv (0 : Int32), iv (0 : Int32)] [(.long ky), (.int (0 : Int32)), (.ref a2)]))
    obtain ⟨T69, h69, X69, e69, W69, V69, st69⟩ := own_stJ X68 hx hZ e68 V64 (j := (0 : Int32)) (n := 16) rfl (by decide) (g := (mkF m 92 #[rv a1, .val (.long ky), .second, iv (0 : Int32), iv (0 : Int32)] [(.long ky), (.int (0 : Int32)), (.ref a2)])) rfl rfl (hb hby d3_92)
    clear V64 X68 e68
    have f70_0 := f65_0.wr W69
    clear f65_0 f70_0
    have f70_1 := f65_1.other W69 (Or.inl ne12)
    clear f65_1
    have f70_2 := f65_2.other W69 (Or.inl ne12)
    clear f65_2
    have K71 : Keep h0 h69 [a1, a2] := K66.wr W69 (Or.inl (List.mem_of_getElem? (i := 1) rfl))
    clear K66 W69
    have N72 := Fr.snoc X69 N67 g2
    clear N67
    replace V69 : own_AV Z h69 a2 .long (own_js [ky, x1, x0, x3, x4, x5, x6, x7, x8, x9, x10, x11, x12, x13, x14, x15]) := V69
    refine own_st st69 ?_
    clear st69
    show own_Fin p e below G (T69.setTop (mkF m 93 #[rv a1, .val (.long ky), .second, iv (0 : Int32), iv (0 : Int32)] []))
    refine own_out X69 Bd.notSynchronized (v := none) (fun _ => rfl) hG (fun fs hr => X69.returnOut hx Bd.returns (hb hby d3_93) hr) (by decide) (by decide) ?_
    have o_hc61_61 : ky.toInt < x0.toInt := own_gt.mp hc61_61
    refine ⟨rfl, N72, e69.symm ▸ K71, e69.symm ▸ f70_1, e69.symm ▸ f70_2, ky, x1, x0, e69.symm ▸ V69, ?_, fun t => ?_⟩
    · omega
    · omega
  · refine own_st (fun _ k => XS.ifNo X60.here hx rfl (hb hby d3_61) rfl ((if0 _ _).trans (flt hc61_61).2.2.1) k) ?_
    show own_Fin p e below G (T60.setTop (mkF m 64 #[rv a1, .val (.long ky), .second, iv (2 : Int32), iv (0 : Int32)] []))
    refine own_st (fun _ k => XS.goto X60.here hx rfl (pc0 := 64) (pc' := 86) rfl (hb hby d3_64) (by decide) (by decide) k) ?_
    show own_Fin p e below G (T60.setTop (mkF m 86 #[rv a1, .val (.long ky), .second, iv (2 : Int32), iv (0 : Int32)] []))
    refine own_st (fun _ k => XS.aloadN X60.here hx rfl (hb hby d3_86) rfl rfl k) ?_
    show own_Fin p e below G (T60.setTop (mkF m 87 #[rv a1, .val (.long ky), .second, iv (2 : Int32), iv (0 : Int32)] [(.ref a1)]))
    obtain ⟨T73, X73, e73, st73⟩ := getF X60 hx hZ hown (host := "") (Or.inl (own_w hw 10 rfl)) Via.refl e60 f56_2 (g := (mkF m 87 #[rv a1, .val (.long ky), .second, iv (2 : Int32), iv (0 : Int32)] [(.ref a1)])) rfl rfl (hb hby d3_87)
    clear X60 e60
    refine own_st st73 ?_
    clear st73
    show own_Fin p e below G (T73.setTop (mkF m 90 #[rv a1, .val (.long ky), .second, iv (2 : Int32), iv (0 : Int32)] [(.ref a2)]))
    refine own_st (fun _ k => XS.iloadN X73.here hx rfl (hb hby d3_90) rfl  k) ?_
    show own_Fin p e below G (T73.setTop (mkF m 91 #[rv a1, .val (.long ky), .second, iv (2 : Int32), iv (0 : Int32)] [(.int (2 : Int32)), (.ref a2)]))
    refine own_st (fun _ k => XS.lloadN X73.here hx rfl (hb hby d3_91) rfl  k) ?_
    show own_Fin p e below G (T73.setTop (mkF m 92 #[rv a1, .val (.long ky), .second, iv (2 : Int32), iv (0 : Int32)] [(.long ky), (.int (2 : Int32)), (.ref a2)]))
    obtain ⟨T74, h74, X74, e74, W74, V74, st74⟩ := own_stJ X73 hx hZ e73 f56_3 (j := (2 : Int32)) (n := 16) rfl (by decide) (g := (mkF m 92 #[rv a1, .val (.long ky), .second, iv (2 : Int32), iv (0 : Int32)] [(.long ky), (.int (2 : Int32)), (.ref a2)])) rfl rfl (hb hby d3_92)
    clear f56_3 X73 e73
    have f75_0 := f56_0.wr W74
    clear f56_0 f75_0
    have f75_1 := Fw55.other W74 (Or.inl ne12)
    clear Fw55
    have f75_2 := f56_2.other W74 (Or.inl ne12)
    clear f56_2
    have K76 : Keep h0 h74 [a1, a2] := K58.wr W74 (Or.inl (List.mem_of_getElem? (i := 1) rfl))
    clear K58 W74
    have N77 := Fr.snoc X74 N59 g2
    clear N59
    replace V74 : own_AV Z h74 a2 .long (own_js [x0, x1, ky, x3, x4, x5, x6, x7, x8, x9, x10, x11, x12, x13, x14, x15]) := V74
    refine own_st st74 ?_
    clear st74
    show own_Fin p e below G (T74.setTop (mkF m 93 #[rv a1, .val (.long ky), .second, iv (2 : Int32), iv (0 : Int32)] []))
    refine own_out X74 Bd.notSynchronized (v := none) (fun _ => rfl) hG (fun fs hr => X74.returnOut hx Bd.returns (hb hby d3_93) hr) (by decide) (by decide) ?_
    have o_hc61_61 : ¬ ky.toInt < x0.toInt := fun q => hc61_61 (own_gt.mpr q)
    refine ⟨rfl, N77, e74.symm ▸ K76, e74.symm ▸ f75_1, e74.symm ▸ f75_2, x0, x1, ky, e74.symm ▸ V74, ?_, fun t => ?_⟩
    · omega
    · omega

def Qrm_add3 (Z : State) (a1 : Addr) (ky : Int64) (a2 : Addr) (x0 : Int64) (x1 : Int64) (x2 : Int64) (x3 : Int64) (x4 : Int64) (x5 : Int64) (x6 : Int64) (x7 : Int64) (x8 : Int64) (x9 : Int64) (x10 : Int64) (x11 : Int64) (x12 : Int64) (x13 : Int64) (x14 : Int64) (x15 : Int64) (h0 : Heap) (n0 : Nat) (v : Option Value) (h : Heap) (L : List Loc) : Prop := v = none ∧ Fr n0 L ∧ Keep h0 h [a1, a2] ∧ Fld Z h a1 "com/example/urania/urania/layered/KeyHeap" "count" "I" (.int (4 : Int32)) ∧ Fld Z h a1 "com/example/urania/urania/layered/KeyHeap" "keys" "[J" (.ref a2) ∧ ∃ y0 y1 y2 y3 : Int64, own_AV Z h a2 .long (own_js [y0, y1, y2, y3, x4, x5, x6, x7, x8, x9, x10, x11, x12, x13, x14, x15]) ∧ (y0.toInt ≤ y1.toInt ∧ y0.toInt ≤ y2.toInt ∧ y1.toInt ≤ y3.toInt) ∧ ∀ t, own_d t y0 + own_d t y1 + own_d t y2 + own_d t y3 = own_d t x0 + own_d t x1 + own_d t x2 + own_d t ky
set_option maxRecDepth 65536 in
set_option maxHeartbeats 40000000 in
theorem rm_add3 (l : Launch) (Z : State) (a0 : Array Value) (hw : ∀ d ∈ tables_1, d.before a0 Z = true) (ws : List Jvm.Cond) (a1 : Addr) (ky : Int64) (a2 : Addr) (x0 : Int64) (x1 : Int64) (x2 : Int64) (x3 : Int64) (x4 : Int64) (x5 : Int64) (x6 : Int64) (x7 : Int64) (x8 : Int64) (x9 : Int64) (x10 : Int64) (x11 : Int64) (x12 : Int64) (x13 : Int64) (x14 : Int64) (x15 : Int64) (h0 : Heap) (n0 : Nat) (Z0 : n0 ≤ h0.size) (E1 : Exa Z h0 a1 "com/example/urania/urania/layered/KeyHeap") (F1 : Fld Z h0 a1 "com/example/urania/urania/layered/KeyHeap" "count" "I" (.int (3 : Int32))) (F2 : Fld Z h0 a1 "com/example/urania/urania/layered/KeyHeap" "keys" "[J" (.ref a2)) (A2 : own_AV Z h0 a2 .long (own_js [x0, x1, x2, x3, x4, x5, x6, x7, x8, x9, x10, x11, x12, x13, x14, x15])) (ne12 : a1 ≠ a2) (g1 : n0 ≤ a1) (g2 : n0 ≤ a2) (hH : x0.toInt ≤ x1.toInt ∧ x0.toInt ≤ x2.toInt) :
    MetFree l own_y4 (head1 (Jvm.Cond.code own_y4 prog_53_method_6_code 5 none :: ws) ({ frames := 0, cells := 0, slots := 0, locals := 0 } : Room)) (fun a U => a = #[(.ref a1), (.long ky)] ∧ Z.Warmed39 U.vm ∧ U.heap = h0) (fun _ _ _ _ _ => True) (fun _ U o U' => ∃ v L, o = .returned v ∧ Qrm_add3 Z a1 ky a2 x0 x1 x2 x3 x4 x5 x6 x7 x8 x9 x10 x11 x12 x13 x14 x15 h0 n0 v U'.heap L ∧ FrameEnd U o U' L ({ frames := 0, cells := 0, slots := 0, locals := 0 } : Room).cells ({ frames := 0, cells := 0, slots := 0, locals := 0 } : Room).slots) := by
  refine MetFree.of_bodySF (plainFor_of_name pn_com_example_urania_urania_layered_KeyHeap) hisR ?_
  intro p e s m args below meth c s₁ Bd hml0 hP hK
  obtain ⟨rfl, hZ, hh⟩ := hP
  have hx := Bd.exec
  have hby := Bd.bytes
  have hml : c.maxLocals = 5 := hml0
  have hown : s.vm.findClass "com/example/urania/urania/layered/KeyHeap" = some m.cls := findClass_of_methodNamed Bd.named
  have hnm := (name_of_methodNamed Bd.named Bd.method).1
  have X0 : Stand p l e ({ frames := 0, cells := 0, slots := 0, locals := 0 } : Room) s m #[(.ref a1), (.long ky)] below meth c s₁ [] 0 0 := Stand.of_body Bd
  have e0 : s₁.heap = h0 := by rw [← hh, Bd.state]; rfl
  have N0 := Fr.nil n0
  have K0 : Keep h0 h0 [a1, a2] := Keep.refl _ _
  refine own_start (Qk := Qrm_add3 Z a1 ky a2 x0 x1 x2 x3 x4 x5 x6 x7 x8 x9 x10 x11 x12 x13 x14 x15 h0 n0) (fun G hG => ?_)
  refine own_st (fun _ k => castTop (ef_3_RJ m a1 ky) k) ?_
  show own_Fin p e below G (s₁.setTop (mkF m 0 #[rv a1, .val (.long ky), .second, .unset, .unset] []))
  refine own_st (fun _ k => XS.aloadN X0.here hx rfl (hb hby d3_0) rfl rfl k) ?_
  show own_Fin p e below G (s₁.setTop (mkF m 1 #[rv a1, .val (.long ky), .second, .unset, .unset] [(.ref a1)]))
  obtain ⟨T78, X78, e78, st78⟩ := getF X0 hx hZ hown (host := "") (Or.inl (own_w hw 17 rfl)) Via.refl e0 F1 (g := (mkF m 1 #[rv a1, .val (.long ky), .second, .unset, .unset] [(.ref a1)])) rfl rfl (hb hby d3_1)
  clear X0 e0
  refine own_st st78 ?_
  clear st78
  show own_Fin p e below G (T78.setTop (mkF m 4 #[rv a1, .val (.long ky), .second, .unset, .unset] [(.int (3 : Int32))]))
  refine own_st (fun _ k => XS.aloadN X78.here hx rfl (hb hby d3_4) rfl rfl k) ?_
  show own_Fin p e below G (T78.setTop (mkF m 5 #[rv a1, .val (.long ky), .second, .unset, .unset] [(.ref a1), (.int (3 : Int32))]))
  obtain ⟨T79, X79, e79, st79⟩ := getF X78 hx hZ hown (host := "") (Or.inl (own_w hw 10 rfl)) Via.refl e78 F2 (g := (mkF m 5 #[rv a1, .val (.long ky), .second, .unset, .unset] [(.ref a1), (.int (3 : Int32))])) rfl rfl (hb hby d3_5)
  clear X78 e78
  refine own_st st79 ?_
  clear st79
  show own_Fin p e below G (T79.setTop (mkF m 8 #[rv a1, .val (.long ky), .second, .unset, .unset] [(.ref a2), (.int (3 : Int32))]))
  refine own_st (fun _ k => own_len X79 hx hZ e79 A2 (z := (16 : Int32)) rfl (g := (mkF m 8 #[rv a1, .val (.long ky), .second, .unset, .unset] [(.ref a2), (.int (3 : Int32))])) rfl rfl (hb hby d3_8) k) ?_
  show own_Fin p e below G (T79.setTop (mkF m 9 #[rv a1, .val (.long ky), .second, .unset, .unset] [(.int (16 : Int32)), (.int (3 : Int32))]))
  refine own_st (fun _ k => XS.icmpYes X79.here hx rfl (pc0 := 9) (pc' := 29) rfl (hb hby d3_9) rfl (feq (by decide : ¬ ((3 : Int32) = (16 : Int32)))).2 (by decide) (by decide) k) ?_
  show own_Fin p e below G (T79.setTop (mkF m 29 #[rv a1, .val (.long ky), .second, .unset, .unset] []))
  refine own_st (fun _ k => XS.aloadN X79.here hx rfl (hb hby d3_29) rfl rfl k) ?_
  show own_Fin p e below G (T79.setTop (mkF m 30 #[rv a1, .val (.long ky), .second, .unset, .unset] [(.ref a1)]))
  refine own_st (fun _ k => XS.dup X79.here hx rfl (hb hby d3_30) rfl rfl k) ?_
  show own_Fin p e below G (T79.setTop (mkF m 31 #[rv a1, .val (.long ky), .second, .unset, .unset] [(.ref a1), (.ref a1)]))
  obtain ⟨T80, X80, e80, st80⟩ := getF X79 hx hZ hown (host := "") (Or.inl (own_w hw 17 rfl)) Via.refl e79 F1 (g := (mkF m 31 #[rv a1, .val (.long ky), .second, .unset, .unset] [(.ref a1), (.ref a1)])) rfl rfl (hb hby d3_31)
  clear X79 e79
  refine own_st st80 ?_
  clear st80
  show own_Fin p e below G (T80.setTop (mkF m 34 #[rv a1, .val (.long ky), .second, .unset, .unset] [(.int (3 : Int32)), (.ref a1)]))
  refine own_st (fun _ k => XS.dupX1 X80.here hx rfl (hb hby d3_34) rfl rfl rfl k) ?_
  show own_Fin p e below G (T80.setTop (mkF m 35 #[rv a1, .val (.long ky), .second, .unset, .unset] [(.int (3 : Int32)), (.ref a1), (.int (3 : Int32))]))
  refine own_st (fun _ k => XS.iconst X80.here hx rfl (hb hby d3_35) k) ?_
  show own_Fin p e below G (T80.setTop (mkF m 36 #[rv a1, .val (.long ky), .second, .unset, .unset] [(.int (1 : Int32)), (.int (3 : Int32)), (.ref a1), (.int (3 : Int32))]))
  refine own_st (fun _ k => XS.iadd X80.here hx rfl (hb hby d3_36) rfl k) ?_
  show own_Fin p e below G (T80.setTop (mkF m 37 #[rv a1, .val (.long ky), .second, .unset, .unset] [(.int (4 : Int32)), (.ref a1), (.int (3 : Int32))]))
  obtain ⟨T81, h81, X81, e81, W81, st81⟩ := putF X80 hx hZ hown (host := "") (Or.inl (own_w hw 17 rfl)) Via.refl e80 F1 E1 (Or.inl (own_w hw 18 rfl)) (own_w hw 1 rfl) (ty := .int) (by decide) rfl rfl (g := (mkF m 37 #[rv a1, .val (.long ky), .second, .unset, .unset] [(.int (4 : Int32)), (.ref a1), (.int (3 : Int32))])) rfl rfl (hb hby d3_37)
  clear X80 e80
  have f82_0 := E1.wr W81
  clear E1
  have sl83 := slot_ne (Z := Z) (a0 := a0) (Or.inl (own_w hw 11 rfl)) (Or.inl (own_w hw 18 rfl)) (by decide) (t := (.array .long)) (t' := .int) (by decide) (by decide)
  have f82_2 := F2.other W81 (Or.inr sl83)
  have f82_3 := A2.other W81 (Ne.symm ne12)
  clear A2
  have K84 : Keep h0 h81 [a1, a2] := K0.wr W81 (Or.inl (List.mem_of_getElem? (i := 0) rfl))
  clear K0
  have N85 := Fr.snoc X81 N0 g1
  clear N0
  have Fw81 : Fld Z h81 a1 "com/example/urania/urania/layered/KeyHeap" "count" "I" (.int (4 : Int32)) := F1.same W81
  clear W81
  refine own_st st81 ?_
  clear st81
  show own_Fin p e below G (T81.setTop (mkF m 40 #[rv a1, .val (.long ky), .second, .unset, .unset] [(.int (3 : Int32))]))
  refine own_st (fun _ k => XS.istoreN X81.here hx rfl (hb hby d3_40) rfl (l' := #[rv a1, .val (.long ky), .second, iv (3 : Int32), .unset]) rfl k) ?_
  show own_Fin p e below G (T81.setTop (mkF m 41 #[rv a1, .val (.long ky), .second, iv (3 : Int32), .unset] []))
  refine own_st (fun _ k => XS.iloadN X81.here hx rfl (hb hby d3_41) rfl  k) ?_
  show own_Fin p e below G (T81.setTop (mkF m 42 #[rv a1, .val (.long ky), .second, iv (3 : Int32), .unset] [(.int (3 : Int32))]))
  refine own_st (fun _ k => XS.ifNo X81.here hx rfl (hb hby d3_42) rfl ((if0 _ _).trans (tlt (by decide : ((0 : Int32) < (3 : Int32)))).2.2.2) k) ?_
  show own_Fin p e below G (T81.setTop (mkF m 45 #[rv a1, .val (.long ky), .second, iv (3 : Int32), .unset] []))
  refine own_st (fun _ k => XS.iloadN X81.here hx rfl (hb hby d3_45) rfl  k) ?_
  show own_Fin p e below G (T81.setTop (mkF m 46 #[rv a1, .val (.long ky), .second, iv (3 : Int32), .unset] [(.int (3 : Int32))]))
  refine own_st (fun _ k => XS.iconst X81.here hx rfl (hb hby d3_46) k) ?_
  show own_Fin p e below G (T81.setTop (mkF m 47 #[rv a1, .val (.long ky), .second, iv (3 : Int32), .unset] [(.int (1 : Int32)), (.int (3 : Int32))]))
  refine own_st (fun _ k => XS.isub X81.here hx rfl (hb hby d3_47) rfl k) ?_
  show own_Fin p e below G (T81.setTop (mkF m 48 #[rv a1, .val (.long ky), .second, iv (3 : Int32), .unset] [(.int (2 : Int32))]))
  refine own_st (fun _ k => XS.iconst X81.here hx rfl (hb hby d3_48) k) ?_
  show own_Fin p e below G (T81.setTop (mkF m 49 #[rv a1, .val (.long ky), .second, iv (3 : Int32), .unset] [(.int (2 : Int32)), (.int (2 : Int32))]))
  refine own_st (fun _ k => XS.idiv X81.here hx rfl (hb hby d3_49) rfl (by decide) k) ?_
  show own_Fin p e below G (T81.setTop (mkF m 50 #[rv a1, .val (.long ky), .second, iv (3 : Int32), .unset] [(.int (1 : Int32))]))
  refine own_st (fun _ k => XS.istore X81.here hx rfl (hb hby d3_50) rfl (l' := #[rv a1, .val (.long ky), .second, iv (3 : Int32), iv (1 : Int32)]) rfl k) ?_
  show own_Fin p e below G (T81.setTop (mkF m 52 #[rv a1, .val (.long ky), .second, iv (3 : Int32), iv (1 : Int32)] []))
  refine own_st (fun _ k => XS.aloadN X81.here hx rfl (hb hby d3_52) rfl rfl k) ?_
  show own_Fin p e below G (T81.setTop (mkF m 53 #[rv a1, .val (.long ky), .second, iv (3 : Int32), iv (1 : Int32)] [(.ref a1)]))
  obtain ⟨T86, X86, e86, st86⟩ := getF X81 hx hZ hown (host := "") (Or.inl (own_w hw 10 rfl)) Via.refl e81 f82_2 (g := (mkF m 53 #[rv a1, .val (.long ky), .second, iv (3 : Int32), iv (1 : Int32)] [(.ref a1)])) rfl rfl (hb hby d3_53)
  clear X81 e81
  refine own_st st86 ?_
  clear st86
  show own_Fin p e below G (T86.setTop (mkF m 56 #[rv a1, .val (.long ky), .second, iv (3 : Int32), iv (1 : Int32)] [(.ref a2)]))
  refine own_st (fun _ k => XS.iload X86.here hx rfl (hb hby d3_56) rfl  k) ?_
  show own_Fin p e below G (T86.setTop (mkF m 58 #[rv a1, .val (.long ky), .second, iv (3 : Int32), iv (1 : Int32)] [(.int (1 : Int32)), (.ref a2)]))
  refine own_st (fun _ k => own_ldJ X86 hx hZ e86 f82_3 (j := (1 : Int32)) (n := 16) rfl (by decide) (g := (mkF m 58 #[rv a1, .val (.long ky), .second, iv (3 : Int32), iv (1 : Int32)] [(.int (1 : Int32)), (.ref a2)])) rfl rfl (hb hby d3_58) k) ?_
  show own_Fin p e below G (T86.setTop (mkF m 59 #[rv a1, .val (.long ky), .second, iv (3 : Int32), iv (1 : Int32)] [(.long x1)]))
  refine own_st (fun _ k => XS.lloadN X86.here hx rfl (hb hby d3_59) rfl  k) ?_
  show own_Fin p e below G (T86.setTop (mkF m 60 #[rv a1, .val (.long ky), .second, iv (3 : Int32), iv (1 : Int32)] [(.long ky), (.long x1)]))
  refine own_st (fun _ k => XS.lcmp X86.here hx rfl (hb hby d3_60) rfl k) ?_
  show own_Fin p e below G (T86.setTop (mkF m 61 #[rv a1, .val (.long ky), .second, iv (3 : Int32), iv (1 : Int32)] [(.int (lcmpW x1 ky))]))
  by_cases hc61_87 : (0 : Int32) < (lcmpW x1 ky)
  · refine own_st (fun _ k => XS.ifYes X86.here hx rfl (pc0 := 61) (pc' := 67) rfl (hb hby d3_61) rfl ((if0 _ _).trans (tlt hc61_87).2.2.1) (by decide) (by decide) k) ?_
    show own_Fin p e below G (T86.setTop (mkF m 67 #[rv a1, .val (.long ky), .second, iv (3 : Int32), iv (1 : Int32)] []))
    refine own_st (fun _ k => XS.aloadN X86.here hx rfl (hb hby d3_67) rfl rfl k) ?_
    show own_Fin p e below G (T86.setTop (mkF m 68 #[rv a1, .val (.long ky), .second, iv (3 : Int32), iv (1 : Int32)] [(.ref a1)]))
    obtain ⟨T88, X88, e88, st88⟩ := getF X86 hx hZ hown (host := "") (Or.inl (own_w hw 10 rfl)) Via.refl e86 f82_2 (g := (mkF m 68 #[rv a1, .val (.long ky), .second, iv (3 : Int32), iv (1 : Int32)] [(.ref a1)])) rfl rfl (hb hby d3_68)
    refine own_st st88 ?_
    clear st88
    show own_Fin p e below G (T88.setTop (mkF m 71 #[rv a1, .val (.long ky), .second, iv (3 : Int32), iv (1 : Int32)] [(.ref a2)]))
    refine own_st (fun _ k => XS.iloadN X88.here hx rfl (hb hby d3_71) rfl  k) ?_
    show own_Fin p e below G (T88.setTop (mkF m 72 #[rv a1, .val (.long ky), .second, iv (3 : Int32), iv (1 : Int32)] [(.int (3 : Int32)), (.ref a2)]))
    refine own_st (fun _ k => XS.aloadN X88.here hx rfl (hb hby d3_72) rfl rfl k) ?_
    show own_Fin p e below G (T88.setTop (mkF m 73 #[rv a1, .val (.long ky), .second, iv (3 : Int32), iv (1 : Int32)] [(.ref a1), (.int (3 : Int32)), (.ref a2)]))
    obtain ⟨T89, X89, e89, st89⟩ := getF X88 hx hZ hown (host := "") (Or.inl (own_w hw 10 rfl)) Via.refl e88 f82_2 (g := (mkF m 73 #[rv a1, .val (.long ky), .second, iv (3 : Int32), iv (1 : Int32)] [(.ref a1), (.int (3 : Int32)), (.ref a2)])) rfl rfl (hb hby d3_73)
    clear X88 e88
    refine own_st st89 ?_
    clear st89
    show own_Fin p e below G (T89.setTop (mkF m 76 #[rv a1, .val (.long ky), .second, iv (3 : Int32), iv (1 : Int32)] [(.ref a2), (.int (3 : Int32)), (.ref a2)]))
    refine own_st (fun _ k => XS.iload X89.here hx rfl (hb hby d3_76) rfl  k) ?_
    show own_Fin p e below G (T89.setTop (mkF m 78 #[rv a1, .val (.long ky), .second, iv (3 : Int32), iv (1 : Int32)] [(.int (1 : Int32)), (.ref a2), (.int (3 : Int32)), (.ref a2)]))
    refine own_st (fun _ k => own_ldJ X89 hx hZ e89 f82_3 (j := (1 : Int32)) (n := 16) rfl (by decide) (g := (mkF m 78 #[rv a1, .val (.long ky), .second, iv (3 : Int32), iv (1 : Int32)] [(.int (1 : Int32)), (.ref a2), (.int (3 : Int32)), (.ref a2)])) rfl rfl (hb hby d3_78) k) ?_
    show own_Fin p e below G (T89.setTop (mkF m 79 #[rv a1, .val (.long ky), .second, iv (3 : Int32), iv (1 : Int32)] [(.long x1), (.int (3 : Int32)), (.ref a2)]))
    obtain ⟨T90, h90, X90, e90, W90, V90, st90⟩ := own_stJ X89 hx hZ e89 f82_3 (j := (3 : Int32)) (n := 16) rfl (by decide) (g := (mkF m 79 #[rv a1, .val (.long ky), .second, iv (3 : Int32), iv (1 : Int32)] [(.long x1), (.int (3 : Int32)), (.ref a2)])) rfl rfl (hb hby d3_79)
    clear X89 e89
    have f91_0 := f82_0.wr W90
    have f91_1 := Fw81.other W90 (Or.inl ne12)
    have f91_2 := f82_2.other W90 (Or.inl ne12)
    have K92 : Keep h0 h90 [a1, a2] := K84.wr W90 (Or.inl (List.mem_of_getElem? (i := 1) rfl))
    clear W90
    have N93 := Fr.snoc X90 N85 g2
    replace V90 : own_AV Z h90 a2 .long (own_js [x0, x1, x2, x1, x4, x5, x6, x7, x8, x9, x10, x11, x12, x13, x14, x15]) := V90
    refine own_st st90 ?_
    clear st90
    show own_Fin p e below G (T90.setTop (mkF m 80 #[rv a1, .val (.long ky), .second, iv (3 : Int32), iv (1 : Int32)] []))
    refine own_st (fun _ k => XS.iload X90.here hx rfl (hb hby d3_80) rfl  k) ?_
    show own_Fin p e below G (T90.setTop (mkF m 82 #[rv a1, .val (.long ky), .second, iv (3 : Int32), iv (1 : Int32)] [(.int (1 : Int32))]))
    refine own_st (fun _ k => XS.istoreN X90.here hx rfl (hb hby d3_82) rfl (l' := #[rv a1, .val (.long ky), .second, iv (1 : Int32), iv (1 : Int32)]) rfl k) ?_
    show own_Fin p e below G (T90.setTop (mkF m 83 #[rv a1, .val (.long ky), .second, iv (1 : Int32), iv (1 : Int32)] []))
    refine own_st (fun _ k => XS.goto X90.here hx rfl (pc0 := 83) (pc' := 41) rfl (hb hby d3_83) (by decide) (by decide) k) ?_
    show own_Fin p e below G (T90.setTop (mkF m 41 #[rv a1, .val (.long ky), .second, iv (1 : Int32), iv (1 : Int32)] []))
    refine own_st (fun _ k => XS.iloadN X90.here hx rfl (hb hby d3_41) rfl  k) ?_
    show own_Fin p e below G (T90.setTop (mkF m 42 #[rv a1, .val (.long ky), .second, iv (1 : Int32), iv (1 : Int32)] [(.int (1 : Int32))]))
    refine own_st (fun _ k => XS.ifNo X90.here hx rfl (hb hby d3_42) rfl ((if0 _ _).trans (tlt (by decide : ((0 : Int32) < (1 : Int32)))).2.2.2) k) ?_
    show own_Fin p e below G (T90.setTop (mkF m 45 #[rv a1, .val (.long ky), .second, iv (1 : Int32), iv (1 : Int32)] []))
    refine own_st (fun _ k => XS.iloadN X90.here hx rfl (hb hby d3_45) rfl  k) ?_
    show own_Fin p e below G (T90.setTop (mkF m 46 #[rv a1, .val (.long ky), .second, iv (1 : Int32), iv (1 : Int32)] [(.int (1 : Int32))]))
    refine own_st (fun _ k => XS.iconst X90.here hx rfl (hb hby d3_46) k) ?_
    show own_Fin p e below G (T90.setTop (mkF m 47 #[rv a1, .val (.long ky), .second, iv (1 : Int32), iv (1 : Int32)] [(.int (1 : Int32)), (.int (1 : Int32))]))
    refine own_st (fun _ k => XS.isub X90.here hx rfl (hb hby d3_47) rfl k) ?_
    show own_Fin p e below G (T90.setTop (mkF m 48 #[rv a1, .val (.long ky), .second, iv (1 : Int32), iv (1 : Int32)] [(.int (0 : Int32))]))
    refine own_st (fun _ k => XS.iconst X90.here hx rfl (hb hby d3_48) k) ?_
    show own_Fin p e below G (T90.setTop (mkF m 49 #[rv a1, .val (.long ky), .second, iv (1 : Int32), iv (1 : Int32)] [(.int (2 : Int32)), (.int (0 : Int32))]))
    refine own_st (fun _ k => XS.idiv X90.here hx rfl (hb hby d3_49) rfl (by decide) k) ?_
    show own_Fin p e below G (T90.setTop (mkF m 50 #[rv a1, .val (.long ky), .second, iv (1 : Int32), iv (1 : Int32)] [(.int (0 : Int32))]))
    refine own_st (fun _ k => XS.istore X90.here hx rfl (hb hby d3_50) rfl (l' := #[rv a1, .val (.long ky), .second, iv (1 : Int32), iv (0 : Int32)]) rfl k) ?_
    show own_Fin p e below G (T90.setTop (mkF m 52 #[rv a1, .val (.long ky), .second, iv (1 : Int32), iv (0 : Int32)] []))
    refine own_st (fun _ k => XS.aloadN X90.here hx rfl (hb hby d3_52) rfl rfl k) ?_
    show own_Fin p e below G (T90.setTop (mkF m 53 #[rv a1, .val (.long ky), .second, iv (1 : Int32), iv (0 : Int32)] [(.ref a1)]))
    obtain ⟨T94, X94, e94, st94⟩ := getF X90 hx hZ hown (host := "") (Or.inl (own_w hw 10 rfl)) Via.refl e90 f91_2 (g := (mkF m 53 #[rv a1, .val (.long ky), .second, iv (1 : Int32), iv (0 : Int32)] [(.ref a1)])) rfl rfl (hb hby d3_53)
    clear X90 e90
    refine own_st st94 ?_
    clear st94
    show own_Fin p e below G (T94.setTop (mkF m 56 #[rv a1, .val (.long ky), .second, iv (1 : Int32), iv (0 : Int32)] [(.ref a2)]))
    refine own_st (fun _ k => XS.iload X94.here hx rfl (hb hby d3_56) rfl  k) ?_
    show own_Fin p e below G (T94.setTop (mkF m 58 #[rv a1, .val (.long ky), .second, iv (1 : Int32), iv (0 : Int32)] [(.int (0 : Int32)), (.ref a2)]))
    refine own_st (fun _ k => own_ldJ X94 hx hZ e94 V90 (j := (0 : Int32)) (n := 16) rfl (by decide) (g := (mkF m 58 #[rv a1, .val (.long ky), .second, iv (1 : Int32), iv (0 : Int32)] [(.int (0 : Int32)), (.ref a2)])) rfl rfl (hb hby d3_58) k) ?_
    show own_Fin p e below G (T94.setTop (mkF m 59 #[rv a1, .val (.long ky), .second, iv (1 : Int32), iv (0 : Int32)] [(.long x0)]))
    refine own_st (fun _ k => XS.lloadN X94.here hx rfl (hb hby d3_59) rfl  k) ?_
    show own_Fin p e below G (T94.setTop (mkF m 60 #[rv a1, .val (.long ky), .second, iv (1 : Int32), iv (0 : Int32)] [(.long ky), (.long x0)]))
    refine own_st (fun _ k => XS.lcmp X94.here hx rfl (hb hby d3_60) rfl k) ?_
    show own_Fin p e below G (T94.setTop (mkF m 61 #[rv a1, .val (.long ky), .second, iv (1 : Int32), iv (0 : Int32)] [(.int (lcmpW x0 ky))]))
    by_cases hc61_95 : (0 : Int32) < (lcmpW x0 ky)
    · refine own_st (fun _ k => XS.ifYes X94.here hx rfl (pc0 := 61) (pc' := 67) rfl (hb hby d3_61) rfl ((if0 _ _).trans (tlt hc61_95).2.2.1) (by decide) (by decide) k) ?_
      show own_Fin p e below G (T94.setTop (mkF m 67 #[rv a1, .val (.long ky), .second, iv (1 : Int32), iv (0 : Int32)] []))
      refine own_st (fun _ k => XS.aloadN X94.here hx rfl (hb hby d3_67) rfl rfl k) ?_
      show own_Fin p e below G (T94.setTop (mkF m 68 #[rv a1, .val (.long ky), .second, iv (1 : Int32), iv (0 : Int32)] [(.ref a1)]))
      obtain ⟨T96, X96, e96, st96⟩ := getF X94 hx hZ hown (host := "") (Or.inl (own_w hw 10 rfl)) Via.refl e94 f91_2 (g := (mkF m 68 #[rv a1, .val (.long ky), .second, iv (1 : Int32), iv (0 : Int32)] [(.ref a1)])) rfl rfl (hb hby d3_68)
      refine own_st st96 ?_
      clear st96
      show own_Fin p e below G (T96.setTop (mkF m 71 #[rv a1, .val (.long ky), .second, iv (1 : Int32), iv (0 : Int32)] [(.ref a2)]))
      refine own_st (fun _ k => XS.iloadN X96.here hx rfl (hb hby d3_71) rfl  k) ?_
      show own_Fin p e below G (T96.setTop (mkF m 72 #[rv a1, .val (.long ky), .second, iv (1 : Int32), iv (0 : Int32)] [(.int (1 : Int32)), (.ref a2)]))
      refine own_st (fun _ k => XS.aloadN X96.here hx rfl (hb hby d3_72) rfl rfl k) ?_
      show own_Fin p e below G (T96.setTop (mkF m 73 #[rv a1, .val (.long ky), .second, iv (1 : Int32), iv (0 : Int32)] [(.ref a1), (.int (1 : Int32)), (.ref a2)]))
      obtain ⟨T97, X97, e97, st97⟩ := getF X96 hx hZ hown (host := "") (Or.inl (own_w hw 10 rfl)) Via.refl e96 f91_2 (g := (mkF m 73 #[rv a1, .val (.long ky), .second, iv (1 : Int32), iv (0 : Int32)] [(.ref a1), (.int (1 : Int32)), (.ref a2)])) rfl rfl (hb hby d3_73)
      clear X96 e96
      refine own_st st97 ?_
      clear st97
      show own_Fin p e below G (T97.setTop (mkF m 76 #[rv a1, .val (.long ky), .second, iv (1 : Int32), iv (0 : Int32)] [(.ref a2), (.int (1 : Int32)), (.ref a2)]))
      refine own_st (fun _ k => XS.iload X97.here hx rfl (hb hby d3_76) rfl  k) ?_
      show own_Fin p e below G (T97.setTop (mkF m 78 #[rv a1, .val (.long ky), .second, iv (1 : Int32), iv (0 : Int32)] [(.int (0 : Int32)), (.ref a2), (.int (1 : Int32)), (.ref a2)]))
      refine own_st (fun _ k => own_ldJ X97 hx hZ e97 V90 (j := (0 : Int32)) (n := 16) rfl (by decide) (g := (mkF m 78 #[rv a1, .val (.long ky), .second, iv (1 : Int32), iv (0 : Int32)] [(.int (0 : Int32)), (.ref a2), (.int (1 : Int32)), (.ref a2)])) rfl rfl (hb hby d3_78) k) ?_
      show own_Fin p e below G (T97.setTop (mkF m 79 #[rv a1, .val (.long ky), .second, iv (1 : Int32), iv (0 : Int32)] [(.long x0), (.int (1 : Int32)), (.ref a2)]))
      obtain ⟨T98, h98, X98, e98, W98, V98, st98⟩ := own_stJ X97 hx hZ e97 V90 (j := (1 : Int32)) (n := 16) rfl (by decide) (g := (mkF m 79 #[rv a1, .val (.long ky), .second, iv (1 : Int32), iv (0 : Int32)] [(.long x0), (.int (1 : Int32)), (.ref a2)])) rfl rfl (hb hby d3_79)
      clear X97 e97
      have f99_0 := f91_0.wr W98
      have f99_1 := f91_1.other W98 (Or.inl ne12)
      have f99_2 := f91_2.other W98 (Or.inl ne12)
      have K100 : Keep h0 h98 [a1, a2] := K92.wr W98 (Or.inl (List.mem_of_getElem? (i := 1) rfl))
      clear W98
      have N101 := Fr.snoc X98 N93 g2
      replace V98 : own_AV Z h98 a2 .long (own_js [x0, x0, x2, x1, x4, x5, x6, x7, x8, x9, x10, x11, x12, x13, x14, x15]) := V98
      refine own_st st98 ?_
      clear st98
      show own_Fin p e below G (T98.setTop (mkF m 80 #[rv a1, .val (.long ky), .second, iv (1 : Int32), iv (0 : Int32)] []))
      refine own_st (fun _ k => XS.iload X98.here hx rfl (hb hby d3_80) rfl  k) ?_
      show own_Fin p e below G (T98.setTop (mkF m 82 #[rv a1, .val (.long ky), .second, iv (1 : Int32), iv (0 : Int32)] [(.int (0 : Int32))]))
      refine own_st (fun _ k => XS.istoreN X98.here hx rfl (hb hby d3_82) rfl (l' := #[rv a1, .val (.long ky), .second, iv (0 : Int32), iv (0 : Int32)]) rfl k) ?_
      show own_Fin p e below G (T98.setTop (mkF m 83 #[rv a1, .val (.long ky), .second, iv (0 : Int32), iv (0 : Int32)] []))
      refine own_st (fun _ k => XS.goto X98.here hx rfl (pc0 := 83) (pc' := 41) rfl (hb hby d3_83) (by decide) (by decide) k) ?_
      show own_Fin p e below G (T98.setTop (mkF m 41 #[rv a1, .val (.long ky), .second, iv (0 : Int32), iv (0 : Int32)] []))
      refine own_st (fun _ k => XS.iloadN X98.here hx rfl (hb hby d3_41) rfl  k) ?_
      show own_Fin p e below G (T98.setTop (mkF m 42 #[rv a1, .val (.long ky), .second, iv (0 : Int32), iv (0 : Int32)] [(.int (0 : Int32))]))
      refine own_st (fun _ k => XS.ifYes X98.here hx rfl (pc0 := 42) (pc' := 86) rfl (hb hby d3_42) rfl ((if0 _ _).trans (flt (by decide : ¬ ((0 : Int32) < (0 : Int32)))).2.2.2) (by decide) (by decide) k) ?_
      show own_Fin p e below G (T98.setTop (mkF m 86 #[rv a1, .val (.long ky), .second, iv (0 : Int32), iv (0 : Int32)] []))
      refine own_st (fun _ k => XS.aloadN X98.here hx rfl (hb hby d3_86) rfl rfl k) ?_
      show own_Fin p e below G (T98.setTop (mkF m 87 #[rv a1, .val (.long ky), .second, iv (0 : Int32), iv (0 : Int32)] [(.ref a1)]))
      obtain ⟨T102, X102, e102, st102⟩ := getF X98 hx hZ hown (host := "") (Or.inl (own_w hw 10 rfl)) Via.refl e98 f99_2 (g := (mkF m 87 #[rv a1, .val (.long ky), .second, iv (0 : Int32), iv (0 : Int32)] [(.ref a1)])) rfl rfl (hb hby d3_87)
      clear X98 e98
      refine own_st st102 ?_
      clear st102
      show own_Fin p e below G (T102.setTop (mkF m 90 #[rv a1, .val (.long ky), .second, iv (0 : Int32), iv (0 : Int32)] [(.ref a2)]))
      refine own_st (fun _ k => XS.iloadN X102.here hx rfl (hb hby d3_90) rfl  k) ?_
      show own_Fin p e below G (T102.setTop (mkF m 91 #[rv a1, .val (.long ky), .second, iv (0 : Int32), iv (0 : Int32)] [(.int (0 : Int32)), (.ref a2)]))
      refine own_st (fun _ k => XS.lloadN X102.here hx rfl (hb hby d3_91) rfl  k) ?_
      show own_Fin p e below G (T102.setTop (mkF m 92 #[rv a1, .val (.long ky), .second, iv (0 : Int32), iv (0 : Int32)] [(.long ky), (.int (0 : Int32)), (.ref a2)]))
      obtain ⟨T103, h103, X103, e103, W103, V103, st103⟩ := own_stJ X102 hx hZ e102 V98 (j := (0 : Int32)) (n := 16) rfl (by decide) (g := (mkF m 92 #[rv a1, .val (.long ky), .second, iv (0 : Int32), iv (0 : Int32)] [(.long ky), (.int (0 : Int32)), (.ref a2)])) rfl rfl (hb hby d3_92)
      clear V98 X102 e102
      have f104_0 := f99_0.wr W103
      clear f99_0 f104_0
      have f104_1 := f99_1.other W103 (Or.inl ne12)
      clear f99_1
      have f104_2 := f99_2.other W103 (Or.inl ne12)
      clear f99_2
      have K105 : Keep h0 h103 [a1, a2] := K100.wr W103 (Or.inl (List.mem_of_getElem? (i := 1) rfl))
      clear K100 W103
      have N106 := Fr.snoc X103 N101 g2
      clear N101
      replace V103 : own_AV Z h103 a2 .long (own_js [ky, x0, x2, x1, x4, x5, x6, x7, x8, x9, x10, x11, x12, x13, x14, x15]) := V103
      refine own_st st103 ?_
      clear st103
      show own_Fin p e below G (T103.setTop (mkF m 93 #[rv a1, .val (.long ky), .second, iv (0 : Int32), iv (0 : Int32)] []))
      refine own_out X103 Bd.notSynchronized (v := none) (fun _ => rfl) hG (fun fs hr => X103.returnOut hx Bd.returns (hb hby d3_93) hr) (by decide) (by decide) ?_
      have o_hc61_87 : ky.toInt < x1.toInt := own_gt.mp hc61_87
      have o_hc61_95 : ky.toInt < x0.toInt := own_gt.mp hc61_95
      refine ⟨rfl, N106, e103.symm ▸ K105, e103.symm ▸ f104_1, e103.symm ▸ f104_2, ky, x0, x2, x1, e103.symm ▸ V103, ?_, fun t => ?_⟩
      · omega
      · omega
    · refine own_st (fun _ k => XS.ifNo X94.here hx rfl (hb hby d3_61) rfl ((if0 _ _).trans (flt hc61_95).2.2.1) k) ?_
      show own_Fin p e below G (T94.setTop (mkF m 64 #[rv a1, .val (.long ky), .second, iv (1 : Int32), iv (0 : Int32)] []))
      refine own_st (fun _ k => XS.goto X94.here hx rfl (pc0 := 64) (pc' := 86) rfl (hb hby d3_64) (by decide) (by decide) k) ?_
      show own_Fin p e below G (T94.setTop (mkF m 86 #[rv a1, .val (.long ky), .second, iv (1 : Int32), iv (0 : Int32)] []))
      refine own_st (fun _ k => XS.aloadN X94.here hx rfl (hb hby d3_86) rfl rfl k) ?_
      show own_Fin p e below G (T94.setTop (mkF m 87 #[rv a1, .val (.long ky), .second, iv (1 : Int32), iv (0 : Int32)] [(.ref a1)]))
      obtain ⟨T107, X107, e107, st107⟩ := getF X94 hx hZ hown (host := "") (Or.inl (own_w hw 10 rfl)) Via.refl e94 f91_2 (g := (mkF m 87 #[rv a1, .val (.long ky), .second, iv (1 : Int32), iv (0 : Int32)] [(.ref a1)])) rfl rfl (hb hby d3_87)
      clear X94 e94
      refine own_st st107 ?_
      clear st107
      show own_Fin p e below G (T107.setTop (mkF m 90 #[rv a1, .val (.long ky), .second, iv (1 : Int32), iv (0 : Int32)] [(.ref a2)]))
      refine own_st (fun _ k => XS.iloadN X107.here hx rfl (hb hby d3_90) rfl  k) ?_
      show own_Fin p e below G (T107.setTop (mkF m 91 #[rv a1, .val (.long ky), .second, iv (1 : Int32), iv (0 : Int32)] [(.int (1 : Int32)), (.ref a2)]))
      refine own_st (fun _ k => XS.lloadN X107.here hx rfl (hb hby d3_91) rfl  k) ?_
      show own_Fin p e below G (T107.setTop (mkF m 92 #[rv a1, .val (.long ky), .second, iv (1 : Int32), iv (0 : Int32)] [(.long ky), (.int (1 : Int32)), (.ref a2)]))
      obtain ⟨T108, h108, X108, e108, W108, V108, st108⟩ := own_stJ X107 hx hZ e107 V90 (j := (1 : Int32)) (n := 16) rfl (by decide) (g := (mkF m 92 #[rv a1, .val (.long ky), .second, iv (1 : Int32), iv (0 : Int32)] [(.long ky), (.int (1 : Int32)), (.ref a2)])) rfl rfl (hb hby d3_92)
      clear V90 X107 e107
      have f109_0 := f91_0.wr W108
      clear f91_0 f109_0
      have f109_1 := f91_1.other W108 (Or.inl ne12)
      clear f91_1
      have f109_2 := f91_2.other W108 (Or.inl ne12)
      clear f91_2
      have K110 : Keep h0 h108 [a1, a2] := K92.wr W108 (Or.inl (List.mem_of_getElem? (i := 1) rfl))
      clear K92 W108
      have N111 := Fr.snoc X108 N93 g2
      clear N93
      replace V108 : own_AV Z h108 a2 .long (own_js [x0, ky, x2, x1, x4, x5, x6, x7, x8, x9, x10, x11, x12, x13, x14, x15]) := V108
      refine own_st st108 ?_
      clear st108
      show own_Fin p e below G (T108.setTop (mkF m 93 #[rv a1, .val (.long ky), .second, iv (1 : Int32), iv (0 : Int32)] []))
      refine own_out X108 Bd.notSynchronized (v := none) (fun _ => rfl) hG (fun fs hr => X108.returnOut hx Bd.returns (hb hby d3_93) hr) (by decide) (by decide) ?_
      have o_hc61_87 : ky.toInt < x1.toInt := own_gt.mp hc61_87
      have o_hc61_95 : ¬ ky.toInt < x0.toInt := fun q => hc61_95 (own_gt.mpr q)
      refine ⟨rfl, N111, e108.symm ▸ K110, e108.symm ▸ f109_1, e108.symm ▸ f109_2, x0, ky, x2, x1, e108.symm ▸ V108, ?_, fun t => ?_⟩
      · omega
      · omega
  · refine own_st (fun _ k => XS.ifNo X86.here hx rfl (hb hby d3_61) rfl ((if0 _ _).trans (flt hc61_87).2.2.1) k) ?_
    show own_Fin p e below G (T86.setTop (mkF m 64 #[rv a1, .val (.long ky), .second, iv (3 : Int32), iv (1 : Int32)] []))
    refine own_st (fun _ k => XS.goto X86.here hx rfl (pc0 := 64) (pc' := 86) rfl (hb hby d3_64) (by decide) (by decide) k) ?_
    show own_Fin p e below G (T86.setTop (mkF m 86 #[rv a1, .val (.long ky), .second, iv (3 : Int32), iv (1 : Int32)] []))
    refine own_st (fun _ k => XS.aloadN X86.here hx rfl (hb hby d3_86) rfl rfl k) ?_
    show own_Fin p e below G (T86.setTop (mkF m 87 #[rv a1, .val (.long ky), .second, iv (3 : Int32), iv (1 : Int32)] [(.ref a1)]))
    obtain ⟨T112, X112, e112, st112⟩ := getF X86 hx hZ hown (host := "") (Or.inl (own_w hw 10 rfl)) Via.refl e86 f82_2 (g := (mkF m 87 #[rv a1, .val (.long ky), .second, iv (3 : Int32), iv (1 : Int32)] [(.ref a1)])) rfl rfl (hb hby d3_87)
    clear X86 e86
    refine own_st st112 ?_
    clear st112
    show own_Fin p e below G (T112.setTop (mkF m 90 #[rv a1, .val (.long ky), .second, iv (3 : Int32), iv (1 : Int32)] [(.ref a2)]))
    refine own_st (fun _ k => XS.iloadN X112.here hx rfl (hb hby d3_90) rfl  k) ?_
    show own_Fin p e below G (T112.setTop (mkF m 91 #[rv a1, .val (.long ky), .second, iv (3 : Int32), iv (1 : Int32)] [(.int (3 : Int32)), (.ref a2)]))
    refine own_st (fun _ k => XS.lloadN X112.here hx rfl (hb hby d3_91) rfl  k) ?_
    show own_Fin p e below G (T112.setTop (mkF m 92 #[rv a1, .val (.long ky), .second, iv (3 : Int32), iv (1 : Int32)] [(.long ky), (.int (3 : Int32)), (.ref a2)]))
    obtain ⟨T113, h113, X113, e113, W113, V113, st113⟩ := own_stJ X112 hx hZ e112 f82_3 (j := (3 : Int32)) (n := 16) rfl (by decide) (g := (mkF m 92 #[rv a1, .val (.long ky), .second, iv (3 : Int32), iv (1 : Int32)] [(.long ky), (.int (3 : Int32)), (.ref a2)])) rfl rfl (hb hby d3_92)
    clear f82_3 X112 e112
    have f114_0 := f82_0.wr W113
    clear f82_0 f114_0
    have f114_1 := Fw81.other W113 (Or.inl ne12)
    clear Fw81
    have f114_2 := f82_2.other W113 (Or.inl ne12)
    clear f82_2
    have K115 : Keep h0 h113 [a1, a2] := K84.wr W113 (Or.inl (List.mem_of_getElem? (i := 1) rfl))
    clear K84 W113
    have N116 := Fr.snoc X113 N85 g2
    clear N85
    replace V113 : own_AV Z h113 a2 .long (own_js [x0, x1, x2, ky, x4, x5, x6, x7, x8, x9, x10, x11, x12, x13, x14, x15]) := V113
    refine own_st st113 ?_
    clear st113
    show own_Fin p e below G (T113.setTop (mkF m 93 #[rv a1, .val (.long ky), .second, iv (3 : Int32), iv (1 : Int32)] []))
    refine own_out X113 Bd.notSynchronized (v := none) (fun _ => rfl) hG (fun fs hr => X113.returnOut hx Bd.returns (hb hby d3_93) hr) (by decide) (by decide) ?_
    have o_hc61_87 : ¬ ky.toInt < x1.toInt := fun q => hc61_87 (own_gt.mpr q)
    refine ⟨rfl, N116, e113.symm ▸ K115, e113.symm ▸ f114_1, e113.symm ▸ f114_2, x0, x1, x2, ky, e113.symm ▸ V113, ?_, fun t => ?_⟩
    · omega
    · omega

def Qrm_add4 (Z : State) (a1 : Addr) (ky : Int64) (a2 : Addr) (x0 : Int64) (x1 : Int64) (x2 : Int64) (x3 : Int64) (x4 : Int64) (x5 : Int64) (x6 : Int64) (x7 : Int64) (x8 : Int64) (x9 : Int64) (x10 : Int64) (x11 : Int64) (x12 : Int64) (x13 : Int64) (x14 : Int64) (x15 : Int64) (h0 : Heap) (n0 : Nat) (v : Option Value) (h : Heap) (L : List Loc) : Prop := v = none ∧ Fr n0 L ∧ Keep h0 h [a1, a2] ∧ Fld Z h a1 "com/example/urania/urania/layered/KeyHeap" "count" "I" (.int (5 : Int32)) ∧ Fld Z h a1 "com/example/urania/urania/layered/KeyHeap" "keys" "[J" (.ref a2) ∧ ∃ y0 y1 y2 y3 y4 : Int64, own_AV Z h a2 .long (own_js [y0, y1, y2, y3, y4, x5, x6, x7, x8, x9, x10, x11, x12, x13, x14, x15]) ∧ (y0.toInt ≤ y1.toInt ∧ y0.toInt ≤ y2.toInt ∧ y1.toInt ≤ y3.toInt ∧ y1.toInt ≤ y4.toInt) ∧ ∀ t, own_d t y0 + own_d t y1 + own_d t y2 + own_d t y3 + own_d t y4 = own_d t x0 + own_d t x1 + own_d t x2 + own_d t x3 + own_d t ky
set_option maxRecDepth 65536 in
set_option maxHeartbeats 40000000 in
theorem rm_add4 (l : Launch) (Z : State) (a0 : Array Value) (hw : ∀ d ∈ tables_1, d.before a0 Z = true) (ws : List Jvm.Cond) (a1 : Addr) (ky : Int64) (a2 : Addr) (x0 : Int64) (x1 : Int64) (x2 : Int64) (x3 : Int64) (x4 : Int64) (x5 : Int64) (x6 : Int64) (x7 : Int64) (x8 : Int64) (x9 : Int64) (x10 : Int64) (x11 : Int64) (x12 : Int64) (x13 : Int64) (x14 : Int64) (x15 : Int64) (h0 : Heap) (n0 : Nat) (Z0 : n0 ≤ h0.size) (E1 : Exa Z h0 a1 "com/example/urania/urania/layered/KeyHeap") (F1 : Fld Z h0 a1 "com/example/urania/urania/layered/KeyHeap" "count" "I" (.int (4 : Int32))) (F2 : Fld Z h0 a1 "com/example/urania/urania/layered/KeyHeap" "keys" "[J" (.ref a2)) (A2 : own_AV Z h0 a2 .long (own_js [x0, x1, x2, x3, x4, x5, x6, x7, x8, x9, x10, x11, x12, x13, x14, x15])) (ne12 : a1 ≠ a2) (g1 : n0 ≤ a1) (g2 : n0 ≤ a2) (hH : x0.toInt ≤ x1.toInt ∧ x0.toInt ≤ x2.toInt ∧ x1.toInt ≤ x3.toInt) :
    MetFree l own_y4 (head1 (Jvm.Cond.code own_y4 prog_53_method_6_code 5 none :: ws) ({ frames := 0, cells := 0, slots := 0, locals := 0 } : Room)) (fun a U => a = #[(.ref a1), (.long ky)] ∧ Z.Warmed39 U.vm ∧ U.heap = h0) (fun _ _ _ _ _ => True) (fun _ U o U' => ∃ v L, o = .returned v ∧ Qrm_add4 Z a1 ky a2 x0 x1 x2 x3 x4 x5 x6 x7 x8 x9 x10 x11 x12 x13 x14 x15 h0 n0 v U'.heap L ∧ FrameEnd U o U' L ({ frames := 0, cells := 0, slots := 0, locals := 0 } : Room).cells ({ frames := 0, cells := 0, slots := 0, locals := 0 } : Room).slots) := by
  refine MetFree.of_bodySF (plainFor_of_name pn_com_example_urania_urania_layered_KeyHeap) hisR ?_
  intro p e s m args below meth c s₁ Bd hml0 hP hK
  obtain ⟨rfl, hZ, hh⟩ := hP
  have hx := Bd.exec
  have hby := Bd.bytes
  have hml : c.maxLocals = 5 := hml0
  have hown : s.vm.findClass "com/example/urania/urania/layered/KeyHeap" = some m.cls := findClass_of_methodNamed Bd.named
  have hnm := (name_of_methodNamed Bd.named Bd.method).1
  have X0 : Stand p l e ({ frames := 0, cells := 0, slots := 0, locals := 0 } : Room) s m #[(.ref a1), (.long ky)] below meth c s₁ [] 0 0 := Stand.of_body Bd
  have e0 : s₁.heap = h0 := by rw [← hh, Bd.state]; rfl
  have N0 := Fr.nil n0
  have K0 : Keep h0 h0 [a1, a2] := Keep.refl _ _
  refine own_start (Qk := Qrm_add4 Z a1 ky a2 x0 x1 x2 x3 x4 x5 x6 x7 x8 x9 x10 x11 x12 x13 x14 x15 h0 n0) (fun G hG => ?_)
  refine own_st (fun _ k => castTop (ef_3_RJ m a1 ky) k) ?_
  show own_Fin p e below G (s₁.setTop (mkF m 0 #[rv a1, .val (.long ky), .second, .unset, .unset] []))
  refine own_st (fun _ k => XS.aloadN X0.here hx rfl (hb hby d3_0) rfl rfl k) ?_
  show own_Fin p e below G (s₁.setTop (mkF m 1 #[rv a1, .val (.long ky), .second, .unset, .unset] [(.ref a1)]))
  obtain ⟨T117, X117, e117, st117⟩ := getF X0 hx hZ hown (host := "") (Or.inl (own_w hw 17 rfl)) Via.refl e0 F1 (g := (mkF m 1 #[rv a1, .val (.long ky), .second, .unset, .unset] [(.ref a1)])) rfl rfl (hb hby d3_1)
  clear X0 e0
  refine own_st st117 ?_
  clear st117
  show own_Fin p e below G (T117.setTop (mkF m 4 #[rv a1, .val (.long ky), .second, .unset, .unset] [(.int (4 : Int32))]))
  refine own_st (fun _ k => XS.aloadN X117.here hx rfl (hb hby d3_4) rfl rfl k) ?_
  show own_Fin p e below G (T117.setTop (mkF m 5 #[rv a1, .val (.long ky), .second, .unset, .unset] [(.ref a1), (.int (4 : Int32))]))
  obtain ⟨T118, X118, e118, st118⟩ := getF X117 hx hZ hown (host := "") (Or.inl (own_w hw 10 rfl)) Via.refl e117 F2 (g := (mkF m 5 #[rv a1, .val (.long ky), .second, .unset, .unset] [(.ref a1), (.int (4 : Int32))])) rfl rfl (hb hby d3_5)
  clear X117 e117
  refine own_st st118 ?_
  clear st118
  show own_Fin p e below G (T118.setTop (mkF m 8 #[rv a1, .val (.long ky), .second, .unset, .unset] [(.ref a2), (.int (4 : Int32))]))
  refine own_st (fun _ k => own_len X118 hx hZ e118 A2 (z := (16 : Int32)) rfl (g := (mkF m 8 #[rv a1, .val (.long ky), .second, .unset, .unset] [(.ref a2), (.int (4 : Int32))])) rfl rfl (hb hby d3_8) k) ?_
  show own_Fin p e below G (T118.setTop (mkF m 9 #[rv a1, .val (.long ky), .second, .unset, .unset] [(.int (16 : Int32)), (.int (4 : Int32))]))
  refine own_st (fun _ k => XS.icmpYes X118.here hx rfl (pc0 := 9) (pc' := 29) rfl (hb hby d3_9) rfl (feq (by decide : ¬ ((4 : Int32) = (16 : Int32)))).2 (by decide) (by decide) k) ?_
  show own_Fin p e below G (T118.setTop (mkF m 29 #[rv a1, .val (.long ky), .second, .unset, .unset] []))
  refine own_st (fun _ k => XS.aloadN X118.here hx rfl (hb hby d3_29) rfl rfl k) ?_
  show own_Fin p e below G (T118.setTop (mkF m 30 #[rv a1, .val (.long ky), .second, .unset, .unset] [(.ref a1)]))
  refine own_st (fun _ k => XS.dup X118.here hx rfl (hb hby d3_30) rfl rfl k) ?_
  show own_Fin p e below G (T118.setTop (mkF m 31 #[rv a1, .val (.long ky), .second, .unset, .unset] [(.ref a1), (.ref a1)]))
  obtain ⟨T119, X119, e119, st119⟩ := getF X118 hx hZ hown (host := "") (Or.inl (own_w hw 17 rfl)) Via.refl e118 F1 (g := (mkF m 31 #[rv a1, .val (.long ky), .second, .unset, .unset] [(.ref a1), (.ref a1)])) rfl rfl (hb hby d3_31)
  clear X118 e118
  refine own_st st119 ?_
  clear st119
  show own_Fin p e below G (T119.setTop (mkF m 34 #[rv a1, .val (.long ky), .second, .unset, .unset] [(.int (4 : Int32)), (.ref a1)]))
  refine own_st (fun _ k => XS.dupX1 X119.here hx rfl (hb hby d3_34) rfl rfl rfl k) ?_
  show own_Fin p e below G (T119.setTop (mkF m 35 #[rv a1, .val (.long ky), .second, .unset, .unset] [(.int (4 : Int32)), (.ref a1), (.int (4 : Int32))]))
  refine own_st (fun _ k => XS.iconst X119.here hx rfl (hb hby d3_35) k) ?_
  show own_Fin p e below G (T119.setTop (mkF m 36 #[rv a1, .val (.long ky), .second, .unset, .unset] [(.int (1 : Int32)), (.int (4 : Int32)), (.ref a1), (.int (4 : Int32))]))
  refine own_st (fun _ k => XS.iadd X119.here hx rfl (hb hby d3_36) rfl k) ?_
  show own_Fin p e below G (T119.setTop (mkF m 37 #[rv a1, .val (.long ky), .second, .unset, .unset] [(.int (5 : Int32)), (.ref a1), (.int (4 : Int32))]))
  obtain ⟨T120, h120, X120, e120, W120, st120⟩ := putF X119 hx hZ hown (host := "") (Or.inl (own_w hw 17 rfl)) Via.refl e119 F1 E1 (Or.inl (own_w hw 18 rfl)) (own_w hw 1 rfl) (ty := .int) (by decide) rfl rfl (g := (mkF m 37 #[rv a1, .val (.long ky), .second, .unset, .unset] [(.int (5 : Int32)), (.ref a1), (.int (4 : Int32))])) rfl rfl (hb hby d3_37)
  clear X119 e119
  have f121_0 := E1.wr W120
  clear E1
  have sl122 := slot_ne (Z := Z) (a0 := a0) (Or.inl (own_w hw 11 rfl)) (Or.inl (own_w hw 18 rfl)) (by decide) (t := (.array .long)) (t' := .int) (by decide) (by decide)
  have f121_2 := F2.other W120 (Or.inr sl122)
  have f121_3 := A2.other W120 (Ne.symm ne12)
  clear A2
  have K123 : Keep h0 h120 [a1, a2] := K0.wr W120 (Or.inl (List.mem_of_getElem? (i := 0) rfl))
  clear K0
  have N124 := Fr.snoc X120 N0 g1
  clear N0
  have Fw120 : Fld Z h120 a1 "com/example/urania/urania/layered/KeyHeap" "count" "I" (.int (5 : Int32)) := F1.same W120
  clear W120
  refine own_st st120 ?_
  clear st120
  show own_Fin p e below G (T120.setTop (mkF m 40 #[rv a1, .val (.long ky), .second, .unset, .unset] [(.int (4 : Int32))]))
  refine own_st (fun _ k => XS.istoreN X120.here hx rfl (hb hby d3_40) rfl (l' := #[rv a1, .val (.long ky), .second, iv (4 : Int32), .unset]) rfl k) ?_
  show own_Fin p e below G (T120.setTop (mkF m 41 #[rv a1, .val (.long ky), .second, iv (4 : Int32), .unset] []))
  refine own_st (fun _ k => XS.iloadN X120.here hx rfl (hb hby d3_41) rfl  k) ?_
  show own_Fin p e below G (T120.setTop (mkF m 42 #[rv a1, .val (.long ky), .second, iv (4 : Int32), .unset] [(.int (4 : Int32))]))
  refine own_st (fun _ k => XS.ifNo X120.here hx rfl (hb hby d3_42) rfl ((if0 _ _).trans (tlt (by decide : ((0 : Int32) < (4 : Int32)))).2.2.2) k) ?_
  show own_Fin p e below G (T120.setTop (mkF m 45 #[rv a1, .val (.long ky), .second, iv (4 : Int32), .unset] []))
  refine own_st (fun _ k => XS.iloadN X120.here hx rfl (hb hby d3_45) rfl  k) ?_
  show own_Fin p e below G (T120.setTop (mkF m 46 #[rv a1, .val (.long ky), .second, iv (4 : Int32), .unset] [(.int (4 : Int32))]))
  refine own_st (fun _ k => XS.iconst X120.here hx rfl (hb hby d3_46) k) ?_
  show own_Fin p e below G (T120.setTop (mkF m 47 #[rv a1, .val (.long ky), .second, iv (4 : Int32), .unset] [(.int (1 : Int32)), (.int (4 : Int32))]))
  refine own_st (fun _ k => XS.isub X120.here hx rfl (hb hby d3_47) rfl k) ?_
  show own_Fin p e below G (T120.setTop (mkF m 48 #[rv a1, .val (.long ky), .second, iv (4 : Int32), .unset] [(.int (3 : Int32))]))
  refine own_st (fun _ k => XS.iconst X120.here hx rfl (hb hby d3_48) k) ?_
  show own_Fin p e below G (T120.setTop (mkF m 49 #[rv a1, .val (.long ky), .second, iv (4 : Int32), .unset] [(.int (2 : Int32)), (.int (3 : Int32))]))
  refine own_st (fun _ k => XS.idiv X120.here hx rfl (hb hby d3_49) rfl (by decide) k) ?_
  show own_Fin p e below G (T120.setTop (mkF m 50 #[rv a1, .val (.long ky), .second, iv (4 : Int32), .unset] [(.int (1 : Int32))]))
  refine own_st (fun _ k => XS.istore X120.here hx rfl (hb hby d3_50) rfl (l' := #[rv a1, .val (.long ky), .second, iv (4 : Int32), iv (1 : Int32)]) rfl k) ?_
  show own_Fin p e below G (T120.setTop (mkF m 52 #[rv a1, .val (.long ky), .second, iv (4 : Int32), iv (1 : Int32)] []))
  refine own_st (fun _ k => XS.aloadN X120.here hx rfl (hb hby d3_52) rfl rfl k) ?_
  show own_Fin p e below G (T120.setTop (mkF m 53 #[rv a1, .val (.long ky), .second, iv (4 : Int32), iv (1 : Int32)] [(.ref a1)]))
  obtain ⟨T125, X125, e125, st125⟩ := getF X120 hx hZ hown (host := "") (Or.inl (own_w hw 10 rfl)) Via.refl e120 f121_2 (g := (mkF m 53 #[rv a1, .val (.long ky), .second, iv (4 : Int32), iv (1 : Int32)] [(.ref a1)])) rfl rfl (hb hby d3_53)
  clear X120 e120
  refine own_st st125 ?_
  clear st125
  show own_Fin p e below G (T125.setTop (mkF m 56 #[rv a1, .val (.long ky), .second, iv (4 : Int32), iv (1 : Int32)] [(.ref a2)]))
  refine own_st (fun _ k => XS.iload X125.here hx rfl (hb hby d3_56) rfl  k) ?_
  show own_Fin p e below G (T125.setTop (mkF m 58 #[rv a1, .val (.long ky), .second, iv (4 : Int32), iv (1 : Int32)] [(.int (1 : Int32)), (.ref a2)]))
  refine own_st (fun _ k => own_ldJ X125 hx hZ e125 f121_3 (j := (1 : Int32)) (n := 16) rfl (by decide) (g := (mkF m 58 #[rv a1, .val (.long ky), .second, iv (4 : Int32), iv (1 : Int32)] [(.int (1 : Int32)), (.ref a2)])) rfl rfl (hb hby d3_58) k) ?_
  show own_Fin p e below G (T125.setTop (mkF m 59 #[rv a1, .val (.long ky), .second, iv (4 : Int32), iv (1 : Int32)] [(.long x1)]))
  refine own_st (fun _ k => XS.lloadN X125.here hx rfl (hb hby d3_59) rfl  k) ?_
  show own_Fin p e below G (T125.setTop (mkF m 60 #[rv a1, .val (.long ky), .second, iv (4 : Int32), iv (1 : Int32)] [(.long ky), (.long x1)]))
  refine own_st (fun _ k => XS.lcmp X125.here hx rfl (hb hby d3_60) rfl k) ?_
  show own_Fin p e below G (T125.setTop (mkF m 61 #[rv a1, .val (.long ky), .second, iv (4 : Int32), iv (1 : Int32)] [(.int (lcmpW x1 ky))]))
  by_cases hc61_126 : (0 : Int32) < (lcmpW x1 ky)
  · refine own_st (fun _ k => XS.ifYes X125.here hx rfl (pc0 := 61) (pc' := 67) rfl (hb hby d3_61) rfl ((if0 _ _).trans (tlt hc61_126).2.2.1) (by decide) (by decide) k) ?_
    show own_Fin p e below G (T125.setTop (mkF m 67 #[rv a1, .val (.long ky), .second, iv (4 : Int32), iv (1 : Int32)] []))
    refine own_st (fun _ k => XS.aloadN X125.here hx rfl (hb hby d3_67) rfl rfl k) ?_
    show own_Fin p e below G (T125.setTop (mkF m 68 #[rv a1, .val (.long ky), .second, iv (4 : Int32), iv (1 : Int32)] [(.ref a1)]))
    obtain ⟨T127, X127, e127, st127⟩ := getF X125 hx hZ hown (host := "") (Or.inl (own_w hw 10 rfl)) Via.refl e125 f121_2 (g := (mkF m 68 #[rv a1, .val (.long ky), .second, iv (4 : Int32), iv (1 : Int32)] [(.ref a1)])) rfl rfl (hb hby d3_68)
    refine own_st st127 ?_
    clear st127
    show own_Fin p e below G (T127.setTop (mkF m 71 #[rv a1, .val (.long ky), .second, iv (4 : Int32), iv (1 : Int32)] [(.ref a2)]))
    refine own_st (fun _ k => XS.iloadN X127.here hx rfl (hb hby d3_71) rfl  k) ?_
    show own_Fin p e below G (T127.setTop (mkF m 72 #[rv a1, .val (.long ky), .second, iv (4 : Int32), iv (1 : Int32)] [(.int (4 : Int32)), (.ref a2)]))
    refine own_st (fun _ k => XS.aloadN X127.here hx rfl (hb hby d3_72) rfl rfl k) ?_
    show own_Fin p e below G (T127.setTop (mkF m 73 #[rv a1, .val (.long ky), .second, iv (4 : Int32), iv (1 : Int32)] [(.ref a1), (.int (4 : Int32)), (.ref a2)]))
    obtain ⟨T128, X128, e128, st128⟩ := getF X127 hx hZ hown (host := "") (Or.inl (own_w hw 10 rfl)) Via.refl e127 f121_2 (g := (mkF m 73 #[rv a1, .val (.long ky), .second, iv (4 : Int32), iv (1 : Int32)] [(.ref a1), (.int (4 : Int32)), (.ref a2)])) rfl rfl (hb hby d3_73)
    clear X127 e127
    refine own_st st128 ?_
    clear st128
    show own_Fin p e below G (T128.setTop (mkF m 76 #[rv a1, .val (.long ky), .second, iv (4 : Int32), iv (1 : Int32)] [(.ref a2), (.int (4 : Int32)), (.ref a2)]))
    refine own_st (fun _ k => XS.iload X128.here hx rfl (hb hby d3_76) rfl  k) ?_
    show own_Fin p e below G (T128.setTop (mkF m 78 #[rv a1, .val (.long ky), .second, iv (4 : Int32), iv (1 : Int32)] [(.int (1 : Int32)), (.ref a2), (.int (4 : Int32)), (.ref a2)]))
    refine own_st (fun _ k => own_ldJ X128 hx hZ e128 f121_3 (j := (1 : Int32)) (n := 16) rfl (by decide) (g := (mkF m 78 #[rv a1, .val (.long ky), .second, iv (4 : Int32), iv (1 : Int32)] [(.int (1 : Int32)), (.ref a2), (.int (4 : Int32)), (.ref a2)])) rfl rfl (hb hby d3_78) k) ?_
    show own_Fin p e below G (T128.setTop (mkF m 79 #[rv a1, .val (.long ky), .second, iv (4 : Int32), iv (1 : Int32)] [(.long x1), (.int (4 : Int32)), (.ref a2)]))
    obtain ⟨T129, h129, X129, e129, W129, V129, st129⟩ := own_stJ X128 hx hZ e128 f121_3 (j := (4 : Int32)) (n := 16) rfl (by decide) (g := (mkF m 79 #[rv a1, .val (.long ky), .second, iv (4 : Int32), iv (1 : Int32)] [(.long x1), (.int (4 : Int32)), (.ref a2)])) rfl rfl (hb hby d3_79)
    clear X128 e128
    have f130_0 := f121_0.wr W129
    have f130_1 := Fw120.other W129 (Or.inl ne12)
    have f130_2 := f121_2.other W129 (Or.inl ne12)
    have K131 : Keep h0 h129 [a1, a2] := K123.wr W129 (Or.inl (List.mem_of_getElem? (i := 1) rfl))
    clear W129
    have N132 := Fr.snoc X129 N124 g2
    replace V129 : own_AV Z h129 a2 .long (own_js [x0, x1, x2, x3, x1, x5, x6, x7, x8, x9, x10, x11, x12, x13, x14, x15]) := V129
    refine own_st st129 ?_
    clear st129
    show own_Fin p e below G (T129.setTop (mkF m 80 #[rv a1, .val (.long ky), .second, iv (4 : Int32), iv (1 : Int32)] []))
    refine own_st (fun _ k => XS.iload X129.here hx rfl (hb hby d3_80) rfl  k) ?_
    show own_Fin p e below G (T129.setTop (mkF m 82 #[rv a1, .val (.long ky), .second, iv (4 : Int32), iv (1 : Int32)] [(.int (1 : Int32))]))
    refine own_st (fun _ k => XS.istoreN X129.here hx rfl (hb hby d3_82) rfl (l' := #[rv a1, .val (.long ky), .second, iv (1 : Int32), iv (1 : Int32)]) rfl k) ?_
    show own_Fin p e below G (T129.setTop (mkF m 83 #[rv a1, .val (.long ky), .second, iv (1 : Int32), iv (1 : Int32)] []))
    refine own_st (fun _ k => XS.goto X129.here hx rfl (pc0 := 83) (pc' := 41) rfl (hb hby d3_83) (by decide) (by decide) k) ?_
    show own_Fin p e below G (T129.setTop (mkF m 41 #[rv a1, .val (.long ky), .second, iv (1 : Int32), iv (1 : Int32)] []))
    refine own_st (fun _ k => XS.iloadN X129.here hx rfl (hb hby d3_41) rfl  k) ?_
    show own_Fin p e below G (T129.setTop (mkF m 42 #[rv a1, .val (.long ky), .second, iv (1 : Int32), iv (1 : Int32)] [(.int (1 : Int32))]))
    refine own_st (fun _ k => XS.ifNo X129.here hx rfl (hb hby d3_42) rfl ((if0 _ _).trans (tlt (by decide : ((0 : Int32) < (1 : Int32)))).2.2.2) k) ?_
    show own_Fin p e below G (T129.setTop (mkF m 45 #[rv a1, .val (.long ky), .second, iv (1 : Int32), iv (1 : Int32)] []))
    refine own_st (fun _ k => XS.iloadN X129.here hx rfl (hb hby d3_45) rfl  k) ?_
    show own_Fin p e below G (T129.setTop (mkF m 46 #[rv a1, .val (.long ky), .second, iv (1 : Int32), iv (1 : Int32)] [(.int (1 : Int32))]))
    refine own_st (fun _ k => XS.iconst X129.here hx rfl (hb hby d3_46) k) ?_
    show own_Fin p e below G (T129.setTop (mkF m 47 #[rv a1, .val (.long ky), .second, iv (1 : Int32), iv (1 : Int32)] [(.int (1 : Int32)), (.int (1 : Int32))]))
    refine own_st (fun _ k => XS.isub X129.here hx rfl (hb hby d3_47) rfl k) ?_
    show own_Fin p e below G (T129.setTop (mkF m 48 #[rv a1, .val (.long ky), .second, iv (1 : Int32), iv (1 : Int32)] [(.int (0 : Int32))]))
    refine own_st (fun _ k => XS.iconst X129.here hx rfl (hb hby d3_48) k) ?_
    show own_Fin p e below G (T129.setTop (mkF m 49 #[rv a1, .val (.long ky), .second, iv (1 : Int32), iv (1 : Int32)] [(.int (2 : Int32)), (.int (0 : Int32))]))
    refine own_st (fun _ k => XS.idiv X129.here hx rfl (hb hby d3_49) rfl (by decide) k) ?_
    show own_Fin p e below G (T129.setTop (mkF m 50 #[rv a1, .val (.long ky), .second, iv (1 : Int32), iv (1 : Int32)] [(.int (0 : Int32))]))
    refine own_st (fun _ k => XS.istore X129.here hx rfl (hb hby d3_50) rfl (l' := #[rv a1, .val (.long ky), .second, iv (1 : Int32), iv (0 : Int32)]) rfl k) ?_
    show own_Fin p e below G (T129.setTop (mkF m 52 #[rv a1, .val (.long ky), .second, iv (1 : Int32), iv (0 : Int32)] []))
    refine own_st (fun _ k => XS.aloadN X129.here hx rfl (hb hby d3_52) rfl rfl k) ?_
    show own_Fin p e below G (T129.setTop (mkF m 53 #[rv a1, .val (.long ky), .second, iv (1 : Int32), iv (0 : Int32)] [(.ref a1)]))
    obtain ⟨T133, X133, e133, st133⟩ := getF X129 hx hZ hown (host := "") (Or.inl (own_w hw 10 rfl)) Via.refl e129 f130_2 (g := (mkF m 53 #[rv a1, .val (.long ky), .second, iv (1 : Int32), iv (0 : Int32)] [(.ref a1)])) rfl rfl (hb hby d3_53)
    clear X129 e129
    refine own_st st133 ?_
    clear st133
    show own_Fin p e below G (T133.setTop (mkF m 56 #[rv a1, .val (.long ky), .second, iv (1 : Int32), iv (0 : Int32)] [(.ref a2)]))
    refine own_st (fun _ k => XS.iload X133.here hx rfl (hb hby d3_56) rfl  k) ?_
    show own_Fin p e below G (T133.setTop (mkF m 58 #[rv a1, .val (.long ky), .second, iv (1 : Int32), iv (0 : Int32)] [(.int (0 : Int32)), (.ref a2)]))
    refine own_st (fun _ k => own_ldJ X133 hx hZ e133 V129 (j := (0 : Int32)) (n := 16) rfl (by decide) (g := (mkF m 58 #[rv a1, .val (.long ky), .second, iv (1 : Int32), iv (0 : Int32)] [(.int (0 : Int32)), (.ref a2)])) rfl rfl (hb hby d3_58) k) ?_
    show own_Fin p e below G (T133.setTop (mkF m 59 #[rv a1, .val (.long ky), .second, iv (1 : Int32), iv (0 : Int32)] [(.long x0)]))
    refine own_st (fun _ k => XS.lloadN X133.here hx rfl (hb hby d3_59) rfl  k) ?_
    show own_Fin p e below G (T133.setTop (mkF m 60 #[rv a1, .val (.long ky), .second, iv (1 : Int32), iv (0 : Int32)] [(.long ky), (.long x0)]))
    refine own_st (fun _ k => XS.lcmp X133.here hx rfl (hb hby d3_60) rfl k) ?_
    show own_Fin p e below G (T133.setTop (mkF m 61 #[rv a1, .val (.long ky), .second, iv (1 : Int32), iv (0 : Int32)] [(.int (lcmpW x0 ky))]))
    by_cases hc61_134 : (0 : Int32) < (lcmpW x0 ky)
    · refine own_st (fun _ k => XS.ifYes X133.here hx rfl (pc0 := 61) (pc' := 67) rfl (hb hby d3_61) rfl ((if0 _ _).trans (tlt hc61_134).2.2.1) (by decide) (by decide) k) ?_
      show own_Fin p e below G (T133.setTop (mkF m 67 #[rv a1, .val (.long ky), .second, iv (1 : Int32), iv (0 : Int32)] []))
      refine own_st (fun _ k => XS.aloadN X133.here hx rfl (hb hby d3_67) rfl rfl k) ?_
      show own_Fin p e below G (T133.setTop (mkF m 68 #[rv a1, .val (.long ky), .second, iv (1 : Int32), iv (0 : Int32)] [(.ref a1)]))
      obtain ⟨T135, X135, e135, st135⟩ := getF X133 hx hZ hown (host := "") (Or.inl (own_w hw 10 rfl)) Via.refl e133 f130_2 (g := (mkF m 68 #[rv a1, .val (.long ky), .second, iv (1 : Int32), iv (0 : Int32)] [(.ref a1)])) rfl rfl (hb hby d3_68)
      refine own_st st135 ?_
      clear st135
      show own_Fin p e below G (T135.setTop (mkF m 71 #[rv a1, .val (.long ky), .second, iv (1 : Int32), iv (0 : Int32)] [(.ref a2)]))
      refine own_st (fun _ k => XS.iloadN X135.here hx rfl (hb hby d3_71) rfl  k) ?_
      show own_Fin p e below G (T135.setTop (mkF m 72 #[rv a1, .val (.long ky), .second, iv (1 : Int32), iv (0 : Int32)] [(.int (1 : Int32)), (.ref a2)]))
      refine own_st (fun _ k => XS.aloadN X135.here hx rfl (hb hby d3_72) rfl rfl k) ?_
      show own_Fin p e below G (T135.setTop (mkF m 73 #[rv a1, .val (.long ky), .second, iv (1 : Int32), iv (0 : Int32)] [(.ref a1), (.int (1 : Int32)), (.ref a2)]))
      obtain ⟨T136, X136, e136, st136⟩ := getF X135 hx hZ hown (host := "") (Or.inl (own_w hw 10 rfl)) Via.refl e135 f130_2 (g := (mkF m 73 #[rv a1, .val (.long ky), .second, iv (1 : Int32), iv (0 : Int32)] [(.ref a1), (.int (1 : Int32)), (.ref a2)])) rfl rfl (hb hby d3_73)
      clear X135 e135
      refine own_st st136 ?_
      clear st136
      show own_Fin p e below G (T136.setTop (mkF m 76 #[rv a1, .val (.long ky), .second, iv (1 : Int32), iv (0 : Int32)] [(.ref a2), (.int (1 : Int32)), (.ref a2)]))
      refine own_st (fun _ k => XS.iload X136.here hx rfl (hb hby d3_76) rfl  k) ?_
      show own_Fin p e below G (T136.setTop (mkF m 78 #[rv a1, .val (.long ky), .second, iv (1 : Int32), iv (0 : Int32)] [(.int (0 : Int32)), (.ref a2), (.int (1 : Int32)), (.ref a2)]))
      refine own_st (fun _ k => own_ldJ X136 hx hZ e136 V129 (j := (0 : Int32)) (n := 16) rfl (by decide) (g := (mkF m 78 #[rv a1, .val (.long ky), .second, iv (1 : Int32), iv (0 : Int32)] [(.int (0 : Int32)), (.ref a2), (.int (1 : Int32)), (.ref a2)])) rfl rfl (hb hby d3_78) k) ?_
      show own_Fin p e below G (T136.setTop (mkF m 79 #[rv a1, .val (.long ky), .second, iv (1 : Int32), iv (0 : Int32)] [(.long x0), (.int (1 : Int32)), (.ref a2)]))
      obtain ⟨T137, h137, X137, e137, W137, V137, st137⟩ := own_stJ X136 hx hZ e136 V129 (j := (1 : Int32)) (n := 16) rfl (by decide) (g := (mkF m 79 #[rv a1, .val (.long ky), .second, iv (1 : Int32), iv (0 : Int32)] [(.long x0), (.int (1 : Int32)), (.ref a2)])) rfl rfl (hb hby d3_79)
      clear X136 e136
      have f138_0 := f130_0.wr W137
      have f138_1 := f130_1.other W137 (Or.inl ne12)
      have f138_2 := f130_2.other W137 (Or.inl ne12)
      have K139 : Keep h0 h137 [a1, a2] := K131.wr W137 (Or.inl (List.mem_of_getElem? (i := 1) rfl))
      clear W137
      have N140 := Fr.snoc X137 N132 g2
      replace V137 : own_AV Z h137 a2 .long (own_js [x0, x0, x2, x3, x1, x5, x6, x7, x8, x9, x10, x11, x12, x13, x14, x15]) := V137
      refine own_st st137 ?_
      clear st137
      show own_Fin p e below G (T137.setTop (mkF m 80 #[rv a1, .val (.long ky), .second, iv (1 : Int32), iv (0 : Int32)] []))
      refine own_st (fun _ k => XS.iload X137.here hx rfl (hb hby d3_80) rfl  k) ?_
      show own_Fin p e below G (T137.setTop (mkF m 82 #[rv a1, .val (.long ky), .second, iv (1 : Int32), iv (0 : Int32)] [(.int (0 : Int32))]))
      refine own_st (fun _ k => XS.istoreN X137.here hx rfl (hb hby d3_82) rfl (l' := #[rv a1, .val (.long ky), .second, iv (0 : Int32), iv (0 : Int32)]) rfl k) ?_
      show own_Fin p e below G (T137.setTop (mkF m 83 #[rv a1, .val (.long ky), .second, iv (0 : Int32), iv (0 : Int32)] []))
      refine own_st (fun _ k => XS.goto X137.here hx rfl (pc0 := 83) (pc' := 41) rfl (hb hby d3_83) (by decide) (by decide) k) ?_
      show own_Fin p e below G (T137.setTop (mkF m 41 #[rv a1, .val (.long ky), .second, iv (0 : Int32), iv (0 : Int32)] []))
      refine own_st (fun _ k => XS.iloadN X137.here hx rfl (hb hby d3_41) rfl  k) ?_
      show own_Fin p e below G (T137.setTop (mkF m 42 #[rv a1, .val (.long ky), .second, iv (0 : Int32), iv (0 : Int32)] [(.int (0 : Int32))]))
      refine own_st (fun _ k => XS.ifYes X137.here hx rfl (pc0 := 42) (pc' := 86) rfl (hb hby d3_42) rfl ((if0 _ _).trans (flt (by decide : ¬ ((0 : Int32) < (0 : Int32)))).2.2.2) (by decide) (by decide) k) ?_
      show own_Fin p e below G (T137.setTop (mkF m 86 #[rv a1, .val (.long ky), .second, iv (0 : Int32), iv (0 : Int32)] []))
      refine own_st (fun _ k => XS.aloadN X137.here hx rfl (hb hby d3_86) rfl rfl k) ?_
      show own_Fin p e below G (T137.setTop (mkF m 87 #[rv a1, .val (.long ky), .second, iv (0 : Int32), iv (0 : Int32)] [(.ref a1)]))
      obtain ⟨T141, X141, e141, st141⟩ := getF X137 hx hZ hown (host := "") (Or.inl (own_w hw 10 rfl)) Via.refl e137 f138_2 (g := (mkF m 87 #[rv a1, .val (.long ky), .second, iv (0 : Int32), iv (0 : Int32)] [(.ref a1)])) rfl rfl (hb hby d3_87)
      clear X137 e137
      refine own_st st141 ?_
      clear st141
      show own_Fin p e below G (T141.setTop (mkF m 90 #[rv a1, .val (.long ky), .second, iv (0 : Int32), iv (0 : Int32)] [(.ref a2)]))
      refine own_st (fun _ k => XS.iloadN X141.here hx rfl (hb hby d3_90) rfl  k) ?_
      show own_Fin p e below G (T141.setTop (mkF m 91 #[rv a1, .val (.long ky), .second, iv (0 : Int32), iv (0 : Int32)] [(.int (0 : Int32)), (.ref a2)]))
      refine own_st (fun _ k => XS.lloadN X141.here hx rfl (hb hby d3_91) rfl  k) ?_
      show own_Fin p e below G (T141.setTop (mkF m 92 #[rv a1, .val (.long ky), .second, iv (0 : Int32), iv (0 : Int32)] [(.long ky), (.int (0 : Int32)), (.ref a2)]))
      obtain ⟨T142, h142, X142, e142, W142, V142, st142⟩ := own_stJ X141 hx hZ e141 V137 (j := (0 : Int32)) (n := 16) rfl (by decide) (g := (mkF m 92 #[rv a1, .val (.long ky), .second, iv (0 : Int32), iv (0 : Int32)] [(.long ky), (.int (0 : Int32)), (.ref a2)])) rfl rfl (hb hby d3_92)
      clear V137 X141 e141
      have f143_0 := f138_0.wr W142
      clear f138_0 f143_0
      have f143_1 := f138_1.other W142 (Or.inl ne12)
      clear f138_1
      have f143_2 := f138_2.other W142 (Or.inl ne12)
      clear f138_2
      have K144 : Keep h0 h142 [a1, a2] := K139.wr W142 (Or.inl (List.mem_of_getElem? (i := 1) rfl))
      clear K139 W142
      have N145 := Fr.snoc X142 N140 g2
      clear N140
      replace V142 : own_AV Z h142 a2 .long (own_js [ky, x0, x2, x3, x1, x5, x6, x7, x8, x9, x10, x11, x12, x13, x14, x15]) := V142
      refine own_st st142 ?_
      clear st142
      show own_Fin p e below G (T142.setTop (mkF m 93 #[rv a1, .val (.long ky), .second, iv (0 : Int32), iv (0 : Int32)] []))
      refine own_out X142 Bd.notSynchronized (v := none) (fun _ => rfl) hG (fun fs hr => X142.returnOut hx Bd.returns (hb hby d3_93) hr) (by decide) (by decide) ?_
      have o_hc61_126 : ky.toInt < x1.toInt := own_gt.mp hc61_126
      have o_hc61_134 : ky.toInt < x0.toInt := own_gt.mp hc61_134
      refine ⟨rfl, N145, e142.symm ▸ K144, e142.symm ▸ f143_1, e142.symm ▸ f143_2, ky, x0, x2, x3, x1, e142.symm ▸ V142, ?_, fun t => ?_⟩
      · omega
      · omega
    · refine own_st (fun _ k => XS.ifNo X133.here hx rfl (hb hby d3_61) rfl ((if0 _ _).trans (flt hc61_134).2.2.1) k) ?_
      show own_Fin p e below G (T133.setTop (mkF m 64 #[rv a1, .val (.long ky), .second, iv (1 : Int32), iv (0 : Int32)] []))
      refine own_st (fun _ k => XS.goto X133.here hx rfl (pc0 := 64) (pc' := 86) rfl (hb hby d3_64) (by decide) (by decide) k) ?_
      show own_Fin p e below G (T133.setTop (mkF m 86 #[rv a1, .val (.long ky), .second, iv (1 : Int32), iv (0 : Int32)] []))
      refine own_st (fun _ k => XS.aloadN X133.here hx rfl (hb hby d3_86) rfl rfl k) ?_
      show own_Fin p e below G (T133.setTop (mkF m 87 #[rv a1, .val (.long ky), .second, iv (1 : Int32), iv (0 : Int32)] [(.ref a1)]))
      obtain ⟨T146, X146, e146, st146⟩ := getF X133 hx hZ hown (host := "") (Or.inl (own_w hw 10 rfl)) Via.refl e133 f130_2 (g := (mkF m 87 #[rv a1, .val (.long ky), .second, iv (1 : Int32), iv (0 : Int32)] [(.ref a1)])) rfl rfl (hb hby d3_87)
      clear X133 e133
      refine own_st st146 ?_
      clear st146
      show own_Fin p e below G (T146.setTop (mkF m 90 #[rv a1, .val (.long ky), .second, iv (1 : Int32), iv (0 : Int32)] [(.ref a2)]))
      refine own_st (fun _ k => XS.iloadN X146.here hx rfl (hb hby d3_90) rfl  k) ?_
      show own_Fin p e below G (T146.setTop (mkF m 91 #[rv a1, .val (.long ky), .second, iv (1 : Int32), iv (0 : Int32)] [(.int (1 : Int32)), (.ref a2)]))
      refine own_st (fun _ k => XS.lloadN X146.here hx rfl (hb hby d3_91) rfl  k) ?_
      show own_Fin p e below G (T146.setTop (mkF m 92 #[rv a1, .val (.long ky), .second, iv (1 : Int32), iv (0 : Int32)] [(.long ky), (.int (1 : Int32)), (.ref a2)]))
      obtain ⟨T147, h147, X147, e147, W147, V147, st147⟩ := own_stJ X146 hx hZ e146 V129 (j := (1 : Int32)) (n := 16) rfl (by decide) (g := (mkF m 92 #[rv a1, .val (.long ky), .second, iv (1 : Int32), iv (0 : Int32)] [(.long ky), (.int (1 : Int32)), (.ref a2)])) rfl rfl (hb hby d3_92)
      clear V129 X146 e146
      have f148_0 := f130_0.wr W147
      clear f130_0 f148_0
      have f148_1 := f130_1.other W147 (Or.inl ne12)
      clear f130_1
      have f148_2 := f130_2.other W147 (Or.inl ne12)
      clear f130_2
      have K149 : Keep h0 h147 [a1, a2] := K131.wr W147 (Or.inl (List.mem_of_getElem? (i := 1) rfl))
      clear K131 W147
      have N150 := Fr.snoc X147 N132 g2
      clear N132
      replace V147 : own_AV Z h147 a2 .long (own_js [x0, ky, x2, x3, x1, x5, x6, x7, x8, x9, x10, x11, x12, x13, x14, x15]) := V147
      refine own_st st147 ?_
      clear st147
      show own_Fin p e below G (T147.setTop (mkF m 93 #[rv a1, .val (.long ky), .second, iv (1 : Int32), iv (0 : Int32)] []))
      refine own_out X147 Bd.notSynchronized (v := none) (fun _ => rfl) hG (fun fs hr => X147.returnOut hx Bd.returns (hb hby d3_93) hr) (by decide) (by decide) ?_
      have o_hc61_126 : ky.toInt < x1.toInt := own_gt.mp hc61_126
      have o_hc61_134 : ¬ ky.toInt < x0.toInt := fun q => hc61_134 (own_gt.mpr q)
      refine ⟨rfl, N150, e147.symm ▸ K149, e147.symm ▸ f148_1, e147.symm ▸ f148_2, x0, ky, x2, x3, x1, e147.symm ▸ V147, ?_, fun t => ?_⟩
      · omega
      · omega
  · refine own_st (fun _ k => XS.ifNo X125.here hx rfl (hb hby d3_61) rfl ((if0 _ _).trans (flt hc61_126).2.2.1) k) ?_
    show own_Fin p e below G (T125.setTop (mkF m 64 #[rv a1, .val (.long ky), .second, iv (4 : Int32), iv (1 : Int32)] []))
    refine own_st (fun _ k => XS.goto X125.here hx rfl (pc0 := 64) (pc' := 86) rfl (hb hby d3_64) (by decide) (by decide) k) ?_
    show own_Fin p e below G (T125.setTop (mkF m 86 #[rv a1, .val (.long ky), .second, iv (4 : Int32), iv (1 : Int32)] []))
    refine own_st (fun _ k => XS.aloadN X125.here hx rfl (hb hby d3_86) rfl rfl k) ?_
    show own_Fin p e below G (T125.setTop (mkF m 87 #[rv a1, .val (.long ky), .second, iv (4 : Int32), iv (1 : Int32)] [(.ref a1)]))
    obtain ⟨T151, X151, e151, st151⟩ := getF X125 hx hZ hown (host := "") (Or.inl (own_w hw 10 rfl)) Via.refl e125 f121_2 (g := (mkF m 87 #[rv a1, .val (.long ky), .second, iv (4 : Int32), iv (1 : Int32)] [(.ref a1)])) rfl rfl (hb hby d3_87)
    clear X125 e125
    refine own_st st151 ?_
    clear st151
    show own_Fin p e below G (T151.setTop (mkF m 90 #[rv a1, .val (.long ky), .second, iv (4 : Int32), iv (1 : Int32)] [(.ref a2)]))
    refine own_st (fun _ k => XS.iloadN X151.here hx rfl (hb hby d3_90) rfl  k) ?_
    show own_Fin p e below G (T151.setTop (mkF m 91 #[rv a1, .val (.long ky), .second, iv (4 : Int32), iv (1 : Int32)] [(.int (4 : Int32)), (.ref a2)]))
    refine own_st (fun _ k => XS.lloadN X151.here hx rfl (hb hby d3_91) rfl  k) ?_
    show own_Fin p e below G (T151.setTop (mkF m 92 #[rv a1, .val (.long ky), .second, iv (4 : Int32), iv (1 : Int32)] [(.long ky), (.int (4 : Int32)), (.ref a2)]))
    obtain ⟨T152, h152, X152, e152, W152, V152, st152⟩ := own_stJ X151 hx hZ e151 f121_3 (j := (4 : Int32)) (n := 16) rfl (by decide) (g := (mkF m 92 #[rv a1, .val (.long ky), .second, iv (4 : Int32), iv (1 : Int32)] [(.long ky), (.int (4 : Int32)), (.ref a2)])) rfl rfl (hb hby d3_92)
    clear f121_3 X151 e151
    have f153_0 := f121_0.wr W152
    clear f121_0 f153_0
    have f153_1 := Fw120.other W152 (Or.inl ne12)
    clear Fw120
    have f153_2 := f121_2.other W152 (Or.inl ne12)
    clear f121_2
    have K154 : Keep h0 h152 [a1, a2] := K123.wr W152 (Or.inl (List.mem_of_getElem? (i := 1) rfl))
    clear K123 W152
    have N155 := Fr.snoc X152 N124 g2
    clear N124
    replace V152 : own_AV Z h152 a2 .long (own_js [x0, x1, x2, x3, ky, x5, x6, x7, x8, x9, x10, x11, x12, x13, x14, x15]) := V152
    refine own_st st152 ?_
    clear st152
    show own_Fin p e below G (T152.setTop (mkF m 93 #[rv a1, .val (.long ky), .second, iv (4 : Int32), iv (1 : Int32)] []))
    refine own_out X152 Bd.notSynchronized (v := none) (fun _ => rfl) hG (fun fs hr => X152.returnOut hx Bd.returns (hb hby d3_93) hr) (by decide) (by decide) ?_
    have o_hc61_126 : ¬ ky.toInt < x1.toInt := fun q => hc61_126 (own_gt.mpr q)
    refine ⟨rfl, N155, e152.symm ▸ K154, e152.symm ▸ f153_1, e152.symm ▸ f153_2, x0, x1, x2, x3, ky, e152.symm ▸ V152, ?_, fun t => ?_⟩
    · omega
    · omega

theorem d4_0 : decode prog_53_method_7_code 0 = .ok (.aload_n 0, 1) := by decide +kernel
theorem d4_1 : decode prog_53_method_7_code 1 = .ok (.getfield 7, 3) := by decide +kernel
theorem d4_4 : decode prog_53_method_7_code 4 = .ok (.iconst 0, 1) := by decide +kernel
theorem d4_5 : decode prog_53_method_7_code 5 = .ok (.laload, 1) := by decide +kernel
theorem d4_6 : decode prog_53_method_7_code 6 = .ok (.lstore_n 1, 1) := by decide +kernel
theorem d4_7 : decode prog_53_method_7_code 7 = .ok (.aload_n 0, 1) := by decide +kernel
theorem d4_8 : decode prog_53_method_7_code 8 = .ok (.getfield 7, 3) := by decide +kernel
theorem d4_11 : decode prog_53_method_7_code 11 = .ok (.aload_n 0, 1) := by decide +kernel
theorem d4_12 : decode prog_53_method_7_code 12 = .ok (.dup, 1) := by decide +kernel
theorem d4_13 : decode prog_53_method_7_code 13 = .ok (.getfield 13, 3) := by decide +kernel
theorem d4_16 : decode prog_53_method_7_code 16 = .ok (.iconst 1, 1) := by decide +kernel
theorem d4_17 : decode prog_53_method_7_code 17 = .ok (.isub, 1) := by decide +kernel
theorem d4_18 : decode prog_53_method_7_code 18 = .ok (.dup_x1, 1) := by decide +kernel
theorem d4_19 : decode prog_53_method_7_code 19 = .ok (.putfield 13, 3) := by decide +kernel
theorem d4_22 : decode prog_53_method_7_code 22 = .ok (.laload, 1) := by decide +kernel
theorem d4_23 : decode prog_53_method_7_code 23 = .ok (.lstore_n 3, 1) := by decide +kernel
theorem d4_24 : decode prog_53_method_7_code 24 = .ok (.iconst 0, 1) := by decide +kernel
theorem d4_25 : decode prog_53_method_7_code 25 = .ok (.istore 5, 2) := by decide +kernel
theorem d4_27 : decode prog_53_method_7_code 27 = .ok (.iconst 2, 1) := by decide +kernel
theorem d4_28 : decode prog_53_method_7_code 28 = .ok (.iload 5, 2) := by decide +kernel
theorem d4_30 : decode prog_53_method_7_code 30 = .ok (.imul, 1) := by decide +kernel
theorem d4_31 : decode prog_53_method_7_code 31 = .ok (.iconst 1, 1) := by decide +kernel
theorem d4_32 : decode prog_53_method_7_code 32 = .ok (.iadd, 1) := by decide +kernel
theorem d4_33 : decode prog_53_method_7_code 33 = .ok (.istore 6, 2) := by decide +kernel
theorem d4_35 : decode prog_53_method_7_code 35 = .ok (.iload 6, 2) := by decide +kernel
theorem d4_37 : decode prog_53_method_7_code 37 = .ok (.aload_n 0, 1) := by decide +kernel
theorem d4_38 : decode prog_53_method_7_code 38 = .ok (.getfield 13, 3) := by decide +kernel
theorem d4_41 : decode prog_53_method_7_code 41 = .ok (.if_icmp .lt 6, 3) := by decide +kernel
theorem d4_44 : decode prog_53_method_7_code 44 = .ok (.goto 73, 3) := by decide +kernel
theorem d4_117 : decode prog_53_method_7_code 117 = .ok (.aload_n 0, 1) := by decide +kernel
theorem d4_118 : decode prog_53_method_7_code 118 = .ok (.getfield 7, 3) := by decide +kernel
theorem d4_121 : decode prog_53_method_7_code 121 = .ok (.iload 5, 2) := by decide +kernel
theorem d4_123 : decode prog_53_method_7_code 123 = .ok (.lload_n 3, 1) := by decide +kernel
theorem d4_124 : decode prog_53_method_7_code 124 = .ok (.lastore, 1) := by decide +kernel
theorem d4_125 : decode prog_53_method_7_code 125 = .ok (.lload_n 1, 1) := by decide +kernel
theorem d4_126 : decode prog_53_method_7_code 126 = .ok (.lreturn, 1) := by decide +kernel
theorem ef_4_R (m : MethodId) (x0 : Addr) : entryFrame m #[(.ref x0)] 7 = mkF m 0 #[rv x0, .unset, .unset, .unset, .unset, .unset, .unset] [] := by first | (simp [entryFrame, mkF, argsToLocals, Value.category]; done) | rfl
def Qrm_poll1 (Z : State) (a1 : Addr) (a2 : Addr) (x0 : Int64) (x1 : Int64) (x2 : Int64) (x3 : Int64) (x4 : Int64) (x5 : Int64) (x6 : Int64) (x7 : Int64) (x8 : Int64) (x9 : Int64) (x10 : Int64) (x11 : Int64) (x12 : Int64) (x13 : Int64) (x14 : Int64) (x15 : Int64) (h0 : Heap) (n0 : Nat) (v : Option Value) (h : Heap) (L : List Loc) : Prop := v = some (.long x0) ∧ Fr n0 L ∧ Keep h0 h [a1, a2] ∧ Fld Z h a1 "com/example/urania/urania/layered/KeyHeap" "count" "I" (.int (0 : Int32)) ∧ Fld Z h a1 "com/example/urania/urania/layered/KeyHeap" "keys" "[J" (.ref a2) ∧ own_AV Z h a2 .long (own_js [x0, x1, x2, x3, x4, x5, x6, x7, x8, x9, x10, x11, x12, x13, x14, x15]) ∧ (True) ∧ ∀ t, own_d t x0 + (0) = own_d t x0
set_option maxRecDepth 65536 in
set_option maxHeartbeats 40000000 in
theorem rm_poll1 (l : Launch) (Z : State) (a0 : Array Value) (hw : ∀ d ∈ tables_1, d.before a0 Z = true) (ws : List Jvm.Cond) (a1 : Addr) (a2 : Addr) (x0 : Int64) (x1 : Int64) (x2 : Int64) (x3 : Int64) (x4 : Int64) (x5 : Int64) (x6 : Int64) (x7 : Int64) (x8 : Int64) (x9 : Int64) (x10 : Int64) (x11 : Int64) (x12 : Int64) (x13 : Int64) (x14 : Int64) (x15 : Int64) (h0 : Heap) (n0 : Nat) (Z0 : n0 ≤ h0.size) (E1 : Exa Z h0 a1 "com/example/urania/urania/layered/KeyHeap") (F1 : Fld Z h0 a1 "com/example/urania/urania/layered/KeyHeap" "count" "I" (.int (1 : Int32))) (F2 : Fld Z h0 a1 "com/example/urania/urania/layered/KeyHeap" "keys" "[J" (.ref a2)) (A2 : own_AV Z h0 a2 .long (own_js [x0, x1, x2, x3, x4, x5, x6, x7, x8, x9, x10, x11, x12, x13, x14, x15])) (ne12 : a1 ≠ a2) (g1 : n0 ≤ a1) (g2 : n0 ≤ a2) (hH : True) :
    MetFree l own_y5 (head1 (Jvm.Cond.code own_y5 prog_53_method_7_code 7 (some .long) :: ws) ({ frames := 0, cells := 0, slots := 0, locals := 0 } : Room)) (fun a U => a = #[(.ref a1)] ∧ Z.Warmed39 U.vm ∧ U.heap = h0) (fun _ _ _ _ _ => True) (fun _ U o U' => ∃ v L, o = .returned v ∧ Qrm_poll1 Z a1 a2 x0 x1 x2 x3 x4 x5 x6 x7 x8 x9 x10 x11 x12 x13 x14 x15 h0 n0 v U'.heap L ∧ FrameEnd U o U' L ({ frames := 0, cells := 0, slots := 0, locals := 0 } : Room).cells ({ frames := 0, cells := 0, slots := 0, locals := 0 } : Room).slots) := by
  refine MetFree.of_bodySF (plainFor_of_name pn_com_example_urania_urania_layered_KeyHeap) hisR ?_
  intro p e s m args below meth c s₁ Bd hml0 hP hK
  obtain ⟨rfl, hZ, hh⟩ := hP
  have hx := Bd.exec
  have hby := Bd.bytes
  have hml : c.maxLocals = 7 := hml0
  have hown : s.vm.findClass "com/example/urania/urania/layered/KeyHeap" = some m.cls := findClass_of_methodNamed Bd.named
  have hnm := (name_of_methodNamed Bd.named Bd.method).1
  have X0 : Stand p l e ({ frames := 0, cells := 0, slots := 0, locals := 0 } : Room) s m #[(.ref a1)] below meth c s₁ [] 0 0 := Stand.of_body Bd
  have e0 : s₁.heap = h0 := by rw [← hh, Bd.state]; rfl
  have N0 := Fr.nil n0
  have K0 : Keep h0 h0 [a1, a2] := Keep.refl _ _
  refine own_start (Qk := Qrm_poll1 Z a1 a2 x0 x1 x2 x3 x4 x5 x6 x7 x8 x9 x10 x11 x12 x13 x14 x15 h0 n0) (fun G hG => ?_)
  refine own_st (fun _ k => castTop (ef_4_R m a1) k) ?_
  show own_Fin p e below G (s₁.setTop (mkF m 0 #[rv a1, .unset, .unset, .unset, .unset, .unset, .unset] []))
  refine own_st (fun _ k => XS.aloadN X0.here hx rfl (hb hby d4_0) rfl rfl k) ?_
  show own_Fin p e below G (s₁.setTop (mkF m 1 #[rv a1, .unset, .unset, .unset, .unset, .unset, .unset] [(.ref a1)]))
  obtain ⟨T156, X156, e156, st156⟩ := getF X0 hx hZ hown (host := "") (Or.inl (own_w hw 10 rfl)) Via.refl e0 F2 (g := (mkF m 1 #[rv a1, .unset, .unset, .unset, .unset, .unset, .unset] [(.ref a1)])) rfl rfl (hb hby d4_1)
  clear X0 e0
  refine own_st st156 ?_
  clear st156
  show own_Fin p e below G (T156.setTop (mkF m 4 #[rv a1, .unset, .unset, .unset, .unset, .unset, .unset] [(.ref a2)]))
  refine own_st (fun _ k => XS.iconst X156.here hx rfl (hb hby d4_4) k) ?_
  show own_Fin p e below G (T156.setTop (mkF m 5 #[rv a1, .unset, .unset, .unset, .unset, .unset, .unset] [(.int (0 : Int32)), (.ref a2)]))
  refine own_st (fun _ k => own_ldJ X156 hx hZ e156 A2 (j := (0 : Int32)) (n := 16) rfl (by decide) (g := (mkF m 5 #[rv a1, .unset, .unset, .unset, .unset, .unset, .unset] [(.int (0 : Int32)), (.ref a2)])) rfl rfl (hb hby d4_5) k) ?_
  show own_Fin p e below G (T156.setTop (mkF m 6 #[rv a1, .unset, .unset, .unset, .unset, .unset, .unset] [(.long x0)]))
  refine own_st (fun _ k => XS.lstoreN X156.here hx rfl (hb hby d4_6) rfl (l' := #[rv a1, .val (.long x0), .second, .unset, .unset, .unset, .unset]) rfl k) ?_
  show own_Fin p e below G (T156.setTop (mkF m 7 #[rv a1, .val (.long x0), .second, .unset, .unset, .unset, .unset] []))
  refine own_st (fun _ k => XS.aloadN X156.here hx rfl (hb hby d4_7) rfl rfl k) ?_
  show own_Fin p e below G (T156.setTop (mkF m 8 #[rv a1, .val (.long x0), .second, .unset, .unset, .unset, .unset] [(.ref a1)]))
  obtain ⟨T157, X157, e157, st157⟩ := getF X156 hx hZ hown (host := "") (Or.inl (own_w hw 10 rfl)) Via.refl e156 F2 (g := (mkF m 8 #[rv a1, .val (.long x0), .second, .unset, .unset, .unset, .unset] [(.ref a1)])) rfl rfl (hb hby d4_8)
  clear X156 e156
  refine own_st st157 ?_
  clear st157
  show own_Fin p e below G (T157.setTop (mkF m 11 #[rv a1, .val (.long x0), .second, .unset, .unset, .unset, .unset] [(.ref a2)]))
  refine own_st (fun _ k => XS.aloadN X157.here hx rfl (hb hby d4_11) rfl rfl k) ?_
  show own_Fin p e below G (T157.setTop (mkF m 12 #[rv a1, .val (.long x0), .second, .unset, .unset, .unset, .unset] [(.ref a1), (.ref a2)]))
  refine own_st (fun _ k => XS.dup X157.here hx rfl (hb hby d4_12) rfl rfl k) ?_
  show own_Fin p e below G (T157.setTop (mkF m 13 #[rv a1, .val (.long x0), .second, .unset, .unset, .unset, .unset] [(.ref a1), (.ref a1), (.ref a2)]))
  obtain ⟨T158, X158, e158, st158⟩ := getF X157 hx hZ hown (host := "") (Or.inl (own_w hw 17 rfl)) Via.refl e157 F1 (g := (mkF m 13 #[rv a1, .val (.long x0), .second, .unset, .unset, .unset, .unset] [(.ref a1), (.ref a1), (.ref a2)])) rfl rfl (hb hby d4_13)
  clear X157 e157
  refine own_st st158 ?_
  clear st158
  show own_Fin p e below G (T158.setTop (mkF m 16 #[rv a1, .val (.long x0), .second, .unset, .unset, .unset, .unset] [(.int (1 : Int32)), (.ref a1), (.ref a2)]))
  refine own_st (fun _ k => XS.iconst X158.here hx rfl (hb hby d4_16) k) ?_
  show own_Fin p e below G (T158.setTop (mkF m 17 #[rv a1, .val (.long x0), .second, .unset, .unset, .unset, .unset] [(.int (1 : Int32)), (.int (1 : Int32)), (.ref a1), (.ref a2)]))
  refine own_st (fun _ k => XS.isub X158.here hx rfl (hb hby d4_17) rfl k) ?_
  show own_Fin p e below G (T158.setTop (mkF m 18 #[rv a1, .val (.long x0), .second, .unset, .unset, .unset, .unset] [(.int (0 : Int32)), (.ref a1), (.ref a2)]))
  refine own_st (fun _ k => XS.dupX1 X158.here hx rfl (hb hby d4_18) rfl rfl rfl k) ?_
  show own_Fin p e below G (T158.setTop (mkF m 19 #[rv a1, .val (.long x0), .second, .unset, .unset, .unset, .unset] [(.int (0 : Int32)), (.ref a1), (.int (0 : Int32)), (.ref a2)]))
  obtain ⟨T159, h159, X159, e159, W159, st159⟩ := putF X158 hx hZ hown (host := "") (Or.inl (own_w hw 17 rfl)) Via.refl e158 F1 E1 (Or.inl (own_w hw 18 rfl)) (own_w hw 1 rfl) (ty := .int) (by decide) rfl rfl (g := (mkF m 19 #[rv a1, .val (.long x0), .second, .unset, .unset, .unset, .unset] [(.int (0 : Int32)), (.ref a1), (.int (0 : Int32)), (.ref a2)])) rfl rfl (hb hby d4_19)
  clear X158 e158
  have f160_0 := E1.wr W159
  clear E1
  have sl161 := slot_ne (Z := Z) (a0 := a0) (Or.inl (own_w hw 11 rfl)) (Or.inl (own_w hw 18 rfl)) (by decide) (t := (.array .long)) (t' := .int) (by decide) (by decide)
  have f160_2 := F2.other W159 (Or.inr sl161)
  have f160_3 := A2.other W159 (Ne.symm ne12)
  clear A2
  have K162 : Keep h0 h159 [a1, a2] := K0.wr W159 (Or.inl (List.mem_of_getElem? (i := 0) rfl))
  clear K0
  have N163 := Fr.snoc X159 N0 g1
  clear N0
  have Fw159 : Fld Z h159 a1 "com/example/urania/urania/layered/KeyHeap" "count" "I" (.int (0 : Int32)) := F1.same W159
  clear W159
  refine own_st st159 ?_
  clear st159
  show own_Fin p e below G (T159.setTop (mkF m 22 #[rv a1, .val (.long x0), .second, .unset, .unset, .unset, .unset] [(.int (0 : Int32)), (.ref a2)]))
  refine own_st (fun _ k => own_ldJ X159 hx hZ e159 f160_3 (j := (0 : Int32)) (n := 16) rfl (by decide) (g := (mkF m 22 #[rv a1, .val (.long x0), .second, .unset, .unset, .unset, .unset] [(.int (0 : Int32)), (.ref a2)])) rfl rfl (hb hby d4_22) k) ?_
  show own_Fin p e below G (T159.setTop (mkF m 23 #[rv a1, .val (.long x0), .second, .unset, .unset, .unset, .unset] [(.long x0)]))
  refine own_st (fun _ k => XS.lstoreN X159.here hx rfl (hb hby d4_23) rfl (l' := #[rv a1, .val (.long x0), .second, .val (.long x0), .second, .unset, .unset]) rfl k) ?_
  show own_Fin p e below G (T159.setTop (mkF m 24 #[rv a1, .val (.long x0), .second, .val (.long x0), .second, .unset, .unset] []))
  refine own_st (fun _ k => XS.iconst X159.here hx rfl (hb hby d4_24) k) ?_
  show own_Fin p e below G (T159.setTop (mkF m 25 #[rv a1, .val (.long x0), .second, .val (.long x0), .second, .unset, .unset] [(.int (0 : Int32))]))
  refine own_st (fun _ k => XS.istore X159.here hx rfl (hb hby d4_25) rfl (l' := #[rv a1, .val (.long x0), .second, .val (.long x0), .second, iv (0 : Int32), .unset]) rfl k) ?_
  show own_Fin p e below G (T159.setTop (mkF m 27 #[rv a1, .val (.long x0), .second, .val (.long x0), .second, iv (0 : Int32), .unset] []))
  refine own_st (fun _ k => XS.iconst X159.here hx rfl (hb hby d4_27) k) ?_
  show own_Fin p e below G (T159.setTop (mkF m 28 #[rv a1, .val (.long x0), .second, .val (.long x0), .second, iv (0 : Int32), .unset] [(.int (2 : Int32))]))
  refine own_st (fun _ k => XS.iload X159.here hx rfl (hb hby d4_28) rfl  k) ?_
  show own_Fin p e below G (T159.setTop (mkF m 30 #[rv a1, .val (.long x0), .second, .val (.long x0), .second, iv (0 : Int32), .unset] [(.int (0 : Int32)), (.int (2 : Int32))]))
  refine own_st (fun _ k => XS.imul X159.here hx rfl (hb hby d4_30) rfl k) ?_
  show own_Fin p e below G (T159.setTop (mkF m 31 #[rv a1, .val (.long x0), .second, .val (.long x0), .second, iv (0 : Int32), .unset] [(.int (0 : Int32))]))
  refine own_st (fun _ k => XS.iconst X159.here hx rfl (hb hby d4_31) k) ?_
  show own_Fin p e below G (T159.setTop (mkF m 32 #[rv a1, .val (.long x0), .second, .val (.long x0), .second, iv (0 : Int32), .unset] [(.int (1 : Int32)), (.int (0 : Int32))]))
  refine own_st (fun _ k => XS.iadd X159.here hx rfl (hb hby d4_32) rfl k) ?_
  show own_Fin p e below G (T159.setTop (mkF m 33 #[rv a1, .val (.long x0), .second, .val (.long x0), .second, iv (0 : Int32), .unset] [(.int (1 : Int32))]))
  refine own_st (fun _ k => XS.istore X159.here hx rfl (hb hby d4_33) rfl (l' := #[rv a1, .val (.long x0), .second, .val (.long x0), .second, iv (0 : Int32), iv (1 : Int32)]) rfl k) ?_
  show own_Fin p e below G (T159.setTop (mkF m 35 #[rv a1, .val (.long x0), .second, .val (.long x0), .second, iv (0 : Int32), iv (1 : Int32)] []))
  refine own_st (fun _ k => XS.iload X159.here hx rfl (hb hby d4_35) rfl  k) ?_
  show own_Fin p e below G (T159.setTop (mkF m 37 #[rv a1, .val (.long x0), .second, .val (.long x0), .second, iv (0 : Int32), iv (1 : Int32)] [(.int (1 : Int32))]))
  refine own_st (fun _ k => XS.aloadN X159.here hx rfl (hb hby d4_37) rfl rfl k) ?_
  show own_Fin p e below G (T159.setTop (mkF m 38 #[rv a1, .val (.long x0), .second, .val (.long x0), .second, iv (0 : Int32), iv (1 : Int32)] [(.ref a1), (.int (1 : Int32))]))
  obtain ⟨T164, X164, e164, st164⟩ := getF X159 hx hZ hown (host := "") (Or.inl (own_w hw 17 rfl)) Via.refl e159 Fw159 (g := (mkF m 38 #[rv a1, .val (.long x0), .second, .val (.long x0), .second, iv (0 : Int32), iv (1 : Int32)] [(.ref a1), (.int (1 : Int32))])) rfl rfl (hb hby d4_38)
  clear X159 e159
  refine own_st st164 ?_
  clear st164
  show own_Fin p e below G (T164.setTop (mkF m 41 #[rv a1, .val (.long x0), .second, .val (.long x0), .second, iv (0 : Int32), iv (1 : Int32)] [(.int (0 : Int32)), (.int (1 : Int32))]))
  refine own_st (fun _ k => XS.icmpNo X164.here hx rfl (hb hby d4_41) rfl (flt (by decide : ¬ ((1 : Int32) < (0 : Int32)))).1 k) ?_
  show own_Fin p e below G (T164.setTop (mkF m 44 #[rv a1, .val (.long x0), .second, .val (.long x0), .second, iv (0 : Int32), iv (1 : Int32)] []))
  refine own_st (fun _ k => XS.goto X164.here hx rfl (pc0 := 44) (pc' := 117) rfl (hb hby d4_44) (by decide) (by decide) k) ?_
  show own_Fin p e below G (T164.setTop (mkF m 117 #[rv a1, .val (.long x0), .second, .val (.long x0), .second, iv (0 : Int32), iv (1 : Int32)] []))
  refine own_st (fun _ k => XS.aloadN X164.here hx rfl (hb hby d4_117) rfl rfl k) ?_
  show own_Fin p e below G (T164.setTop (mkF m 118 #[rv a1, .val (.long x0), .second, .val (.long x0), .second, iv (0 : Int32), iv (1 : Int32)] [(.ref a1)]))
  obtain ⟨T165, X165, e165, st165⟩ := getF X164 hx hZ hown (host := "") (Or.inl (own_w hw 10 rfl)) Via.refl e164 f160_2 (g := (mkF m 118 #[rv a1, .val (.long x0), .second, .val (.long x0), .second, iv (0 : Int32), iv (1 : Int32)] [(.ref a1)])) rfl rfl (hb hby d4_118)
  clear X164 e164
  refine own_st st165 ?_
  clear st165
  show own_Fin p e below G (T165.setTop (mkF m 121 #[rv a1, .val (.long x0), .second, .val (.long x0), .second, iv (0 : Int32), iv (1 : Int32)] [(.ref a2)]))
  refine own_st (fun _ k => XS.iload X165.here hx rfl (hb hby d4_121) rfl  k) ?_
  show own_Fin p e below G (T165.setTop (mkF m 123 #[rv a1, .val (.long x0), .second, .val (.long x0), .second, iv (0 : Int32), iv (1 : Int32)] [(.int (0 : Int32)), (.ref a2)]))
  refine own_st (fun _ k => XS.lloadN X165.here hx rfl (hb hby d4_123) rfl  k) ?_
  show own_Fin p e below G (T165.setTop (mkF m 124 #[rv a1, .val (.long x0), .second, .val (.long x0), .second, iv (0 : Int32), iv (1 : Int32)] [(.long x0), (.int (0 : Int32)), (.ref a2)]))
  obtain ⟨T166, h166, X166, e166, W166, V166, st166⟩ := own_stJ X165 hx hZ e165 f160_3 (j := (0 : Int32)) (n := 16) rfl (by decide) (g := (mkF m 124 #[rv a1, .val (.long x0), .second, .val (.long x0), .second, iv (0 : Int32), iv (1 : Int32)] [(.long x0), (.int (0 : Int32)), (.ref a2)])) rfl rfl (hb hby d4_124)
  clear f160_3 X165 e165
  have f167_0 := f160_0.wr W166
  clear f160_0 f167_0
  have f167_1 := Fw159.other W166 (Or.inl ne12)
  clear Fw159
  have f167_2 := f160_2.other W166 (Or.inl ne12)
  clear f160_2
  have K168 : Keep h0 h166 [a1, a2] := K162.wr W166 (Or.inl (List.mem_of_getElem? (i := 1) rfl))
  clear K162 W166
  have N169 := Fr.snoc X166 N163 g2
  clear N163
  replace V166 : own_AV Z h166 a2 .long (own_js [x0, x1, x2, x3, x4, x5, x6, x7, x8, x9, x10, x11, x12, x13, x14, x15]) := V166
  refine own_st st166 ?_
  clear st166
  show own_Fin p e below G (T166.setTop (mkF m 125 #[rv a1, .val (.long x0), .second, .val (.long x0), .second, iv (0 : Int32), iv (1 : Int32)] []))
  refine own_st (fun _ k => XS.lloadN X166.here hx rfl (hb hby d4_125) rfl  k) ?_
  show own_Fin p e below G (T166.setTop (mkF m 126 #[rv a1, .val (.long x0), .second, .val (.long x0), .second, iv (0 : Int32), iv (1 : Int32)] [(.long x0)]))
  refine own_out X166 Bd.notSynchronized (v := (some (.long x0))) (fun h => by rw [Bd.returns] at h; cases h) hG (fun fs hr => retOut X166 hx Bd.returns rfl (Or.inr (Or.inl ⟨rfl, rfl, _, rfl⟩)) (hb hby d4_126) hr) (by decide) (by decide) ?_
  refine ⟨rfl, N169, e166.symm ▸ K168, e166.symm ▸ f167_1, e166.symm ▸ f167_2, e166.symm ▸ V166, ?_, fun t => ?_⟩
  · trivial
  · omega

def Qrm_poll2 (Z : State) (a1 : Addr) (a2 : Addr) (x0 : Int64) (x1 : Int64) (x2 : Int64) (x3 : Int64) (x4 : Int64) (x5 : Int64) (x6 : Int64) (x7 : Int64) (x8 : Int64) (x9 : Int64) (x10 : Int64) (x11 : Int64) (x12 : Int64) (x13 : Int64) (x14 : Int64) (x15 : Int64) (h0 : Heap) (n0 : Nat) (v : Option Value) (h : Heap) (L : List Loc) : Prop := v = some (.long x0) ∧ Fr n0 L ∧ Keep h0 h [a1, a2] ∧ Fld Z h a1 "com/example/urania/urania/layered/KeyHeap" "count" "I" (.int (1 : Int32)) ∧ Fld Z h a1 "com/example/urania/urania/layered/KeyHeap" "keys" "[J" (.ref a2) ∧ ∃ y0 : Int64, own_AV Z h a2 .long (own_js [y0, x1, x2, x3, x4, x5, x6, x7, x8, x9, x10, x11, x12, x13, x14, x15]) ∧ (x0.toInt ≤ y0.toInt) ∧ ∀ t, own_d t x0 + (own_d t y0) = own_d t x0 + own_d t x1
set_option maxRecDepth 65536 in
set_option maxHeartbeats 40000000 in
theorem rm_poll2 (l : Launch) (Z : State) (a0 : Array Value) (hw : ∀ d ∈ tables_1, d.before a0 Z = true) (ws : List Jvm.Cond) (a1 : Addr) (a2 : Addr) (x0 : Int64) (x1 : Int64) (x2 : Int64) (x3 : Int64) (x4 : Int64) (x5 : Int64) (x6 : Int64) (x7 : Int64) (x8 : Int64) (x9 : Int64) (x10 : Int64) (x11 : Int64) (x12 : Int64) (x13 : Int64) (x14 : Int64) (x15 : Int64) (h0 : Heap) (n0 : Nat) (Z0 : n0 ≤ h0.size) (E1 : Exa Z h0 a1 "com/example/urania/urania/layered/KeyHeap") (F1 : Fld Z h0 a1 "com/example/urania/urania/layered/KeyHeap" "count" "I" (.int (2 : Int32))) (F2 : Fld Z h0 a1 "com/example/urania/urania/layered/KeyHeap" "keys" "[J" (.ref a2)) (A2 : own_AV Z h0 a2 .long (own_js [x0, x1, x2, x3, x4, x5, x6, x7, x8, x9, x10, x11, x12, x13, x14, x15])) (ne12 : a1 ≠ a2) (g1 : n0 ≤ a1) (g2 : n0 ≤ a2) (hH : x0.toInt ≤ x1.toInt) :
    MetFree l own_y5 (head1 (Jvm.Cond.code own_y5 prog_53_method_7_code 7 (some .long) :: ws) ({ frames := 0, cells := 0, slots := 0, locals := 0 } : Room)) (fun a U => a = #[(.ref a1)] ∧ Z.Warmed39 U.vm ∧ U.heap = h0) (fun _ _ _ _ _ => True) (fun _ U o U' => ∃ v L, o = .returned v ∧ Qrm_poll2 Z a1 a2 x0 x1 x2 x3 x4 x5 x6 x7 x8 x9 x10 x11 x12 x13 x14 x15 h0 n0 v U'.heap L ∧ FrameEnd U o U' L ({ frames := 0, cells := 0, slots := 0, locals := 0 } : Room).cells ({ frames := 0, cells := 0, slots := 0, locals := 0 } : Room).slots) := by
  refine MetFree.of_bodySF (plainFor_of_name pn_com_example_urania_urania_layered_KeyHeap) hisR ?_
  intro p e s m args below meth c s₁ Bd hml0 hP hK
  obtain ⟨rfl, hZ, hh⟩ := hP
  have hx := Bd.exec
  have hby := Bd.bytes
  have hml : c.maxLocals = 7 := hml0
  have hown : s.vm.findClass "com/example/urania/urania/layered/KeyHeap" = some m.cls := findClass_of_methodNamed Bd.named
  have hnm := (name_of_methodNamed Bd.named Bd.method).1
  have X0 : Stand p l e ({ frames := 0, cells := 0, slots := 0, locals := 0 } : Room) s m #[(.ref a1)] below meth c s₁ [] 0 0 := Stand.of_body Bd
  have e0 : s₁.heap = h0 := by rw [← hh, Bd.state]; rfl
  have N0 := Fr.nil n0
  have K0 : Keep h0 h0 [a1, a2] := Keep.refl _ _
  refine own_start (Qk := Qrm_poll2 Z a1 a2 x0 x1 x2 x3 x4 x5 x6 x7 x8 x9 x10 x11 x12 x13 x14 x15 h0 n0) (fun G hG => ?_)
  refine own_st (fun _ k => castTop (ef_4_R m a1) k) ?_
  show own_Fin p e below G (s₁.setTop (mkF m 0 #[rv a1, .unset, .unset, .unset, .unset, .unset, .unset] []))
  refine own_st (fun _ k => XS.aloadN X0.here hx rfl (hb hby d4_0) rfl rfl k) ?_
  show own_Fin p e below G (s₁.setTop (mkF m 1 #[rv a1, .unset, .unset, .unset, .unset, .unset, .unset] [(.ref a1)]))
  obtain ⟨T170, X170, e170, st170⟩ := getF X0 hx hZ hown (host := "") (Or.inl (own_w hw 10 rfl)) Via.refl e0 F2 (g := (mkF m 1 #[rv a1, .unset, .unset, .unset, .unset, .unset, .unset] [(.ref a1)])) rfl rfl (hb hby d4_1)
  clear X0 e0
  refine own_st st170 ?_
  clear st170
  show own_Fin p e below G (T170.setTop (mkF m 4 #[rv a1, .unset, .unset, .unset, .unset, .unset, .unset] [(.ref a2)]))
  refine own_st (fun _ k => XS.iconst X170.here hx rfl (hb hby d4_4) k) ?_
  show own_Fin p e below G (T170.setTop (mkF m 5 #[rv a1, .unset, .unset, .unset, .unset, .unset, .unset] [(.int (0 : Int32)), (.ref a2)]))
  refine own_st (fun _ k => own_ldJ X170 hx hZ e170 A2 (j := (0 : Int32)) (n := 16) rfl (by decide) (g := (mkF m 5 #[rv a1, .unset, .unset, .unset, .unset, .unset, .unset] [(.int (0 : Int32)), (.ref a2)])) rfl rfl (hb hby d4_5) k) ?_
  show own_Fin p e below G (T170.setTop (mkF m 6 #[rv a1, .unset, .unset, .unset, .unset, .unset, .unset] [(.long x0)]))
  refine own_st (fun _ k => XS.lstoreN X170.here hx rfl (hb hby d4_6) rfl (l' := #[rv a1, .val (.long x0), .second, .unset, .unset, .unset, .unset]) rfl k) ?_
  show own_Fin p e below G (T170.setTop (mkF m 7 #[rv a1, .val (.long x0), .second, .unset, .unset, .unset, .unset] []))
  refine own_st (fun _ k => XS.aloadN X170.here hx rfl (hb hby d4_7) rfl rfl k) ?_
  show own_Fin p e below G (T170.setTop (mkF m 8 #[rv a1, .val (.long x0), .second, .unset, .unset, .unset, .unset] [(.ref a1)]))
  obtain ⟨T171, X171, e171, st171⟩ := getF X170 hx hZ hown (host := "") (Or.inl (own_w hw 10 rfl)) Via.refl e170 F2 (g := (mkF m 8 #[rv a1, .val (.long x0), .second, .unset, .unset, .unset, .unset] [(.ref a1)])) rfl rfl (hb hby d4_8)
  clear X170 e170
  refine own_st st171 ?_
  clear st171
  show own_Fin p e below G (T171.setTop (mkF m 11 #[rv a1, .val (.long x0), .second, .unset, .unset, .unset, .unset] [(.ref a2)]))
  refine own_st (fun _ k => XS.aloadN X171.here hx rfl (hb hby d4_11) rfl rfl k) ?_
  show own_Fin p e below G (T171.setTop (mkF m 12 #[rv a1, .val (.long x0), .second, .unset, .unset, .unset, .unset] [(.ref a1), (.ref a2)]))
  refine own_st (fun _ k => XS.dup X171.here hx rfl (hb hby d4_12) rfl rfl k) ?_
  show own_Fin p e below G (T171.setTop (mkF m 13 #[rv a1, .val (.long x0), .second, .unset, .unset, .unset, .unset] [(.ref a1), (.ref a1), (.ref a2)]))
  obtain ⟨T172, X172, e172, st172⟩ := getF X171 hx hZ hown (host := "") (Or.inl (own_w hw 17 rfl)) Via.refl e171 F1 (g := (mkF m 13 #[rv a1, .val (.long x0), .second, .unset, .unset, .unset, .unset] [(.ref a1), (.ref a1), (.ref a2)])) rfl rfl (hb hby d4_13)
  clear X171 e171
  refine own_st st172 ?_
  clear st172
  show own_Fin p e below G (T172.setTop (mkF m 16 #[rv a1, .val (.long x0), .second, .unset, .unset, .unset, .unset] [(.int (2 : Int32)), (.ref a1), (.ref a2)]))
  refine own_st (fun _ k => XS.iconst X172.here hx rfl (hb hby d4_16) k) ?_
  show own_Fin p e below G (T172.setTop (mkF m 17 #[rv a1, .val (.long x0), .second, .unset, .unset, .unset, .unset] [(.int (1 : Int32)), (.int (2 : Int32)), (.ref a1), (.ref a2)]))
  refine own_st (fun _ k => XS.isub X172.here hx rfl (hb hby d4_17) rfl k) ?_
  show own_Fin p e below G (T172.setTop (mkF m 18 #[rv a1, .val (.long x0), .second, .unset, .unset, .unset, .unset] [(.int (1 : Int32)), (.ref a1), (.ref a2)]))
  refine own_st (fun _ k => XS.dupX1 X172.here hx rfl (hb hby d4_18) rfl rfl rfl k) ?_
  show own_Fin p e below G (T172.setTop (mkF m 19 #[rv a1, .val (.long x0), .second, .unset, .unset, .unset, .unset] [(.int (1 : Int32)), (.ref a1), (.int (1 : Int32)), (.ref a2)]))
  obtain ⟨T173, h173, X173, e173, W173, st173⟩ := putF X172 hx hZ hown (host := "") (Or.inl (own_w hw 17 rfl)) Via.refl e172 F1 E1 (Or.inl (own_w hw 18 rfl)) (own_w hw 1 rfl) (ty := .int) (by decide) rfl rfl (g := (mkF m 19 #[rv a1, .val (.long x0), .second, .unset, .unset, .unset, .unset] [(.int (1 : Int32)), (.ref a1), (.int (1 : Int32)), (.ref a2)])) rfl rfl (hb hby d4_19)
  clear X172 e172
  have f174_0 := E1.wr W173
  clear E1
  have sl175 := slot_ne (Z := Z) (a0 := a0) (Or.inl (own_w hw 11 rfl)) (Or.inl (own_w hw 18 rfl)) (by decide) (t := (.array .long)) (t' := .int) (by decide) (by decide)
  have f174_2 := F2.other W173 (Or.inr sl175)
  have f174_3 := A2.other W173 (Ne.symm ne12)
  clear A2
  have K176 : Keep h0 h173 [a1, a2] := K0.wr W173 (Or.inl (List.mem_of_getElem? (i := 0) rfl))
  clear K0
  have N177 := Fr.snoc X173 N0 g1
  clear N0
  have Fw173 : Fld Z h173 a1 "com/example/urania/urania/layered/KeyHeap" "count" "I" (.int (1 : Int32)) := F1.same W173
  clear W173
  refine own_st st173 ?_
  clear st173
  show own_Fin p e below G (T173.setTop (mkF m 22 #[rv a1, .val (.long x0), .second, .unset, .unset, .unset, .unset] [(.int (1 : Int32)), (.ref a2)]))
  refine own_st (fun _ k => own_ldJ X173 hx hZ e173 f174_3 (j := (1 : Int32)) (n := 16) rfl (by decide) (g := (mkF m 22 #[rv a1, .val (.long x0), .second, .unset, .unset, .unset, .unset] [(.int (1 : Int32)), (.ref a2)])) rfl rfl (hb hby d4_22) k) ?_
  show own_Fin p e below G (T173.setTop (mkF m 23 #[rv a1, .val (.long x0), .second, .unset, .unset, .unset, .unset] [(.long x1)]))
  refine own_st (fun _ k => XS.lstoreN X173.here hx rfl (hb hby d4_23) rfl (l' := #[rv a1, .val (.long x0), .second, .val (.long x1), .second, .unset, .unset]) rfl k) ?_
  show own_Fin p e below G (T173.setTop (mkF m 24 #[rv a1, .val (.long x0), .second, .val (.long x1), .second, .unset, .unset] []))
  refine own_st (fun _ k => XS.iconst X173.here hx rfl (hb hby d4_24) k) ?_
  show own_Fin p e below G (T173.setTop (mkF m 25 #[rv a1, .val (.long x0), .second, .val (.long x1), .second, .unset, .unset] [(.int (0 : Int32))]))
  refine own_st (fun _ k => XS.istore X173.here hx rfl (hb hby d4_25) rfl (l' := #[rv a1, .val (.long x0), .second, .val (.long x1), .second, iv (0 : Int32), .unset]) rfl k) ?_
  show own_Fin p e below G (T173.setTop (mkF m 27 #[rv a1, .val (.long x0), .second, .val (.long x1), .second, iv (0 : Int32), .unset] []))
  refine own_st (fun _ k => XS.iconst X173.here hx rfl (hb hby d4_27) k) ?_
  show own_Fin p e below G (T173.setTop (mkF m 28 #[rv a1, .val (.long x0), .second, .val (.long x1), .second, iv (0 : Int32), .unset] [(.int (2 : Int32))]))
  refine own_st (fun _ k => XS.iload X173.here hx rfl (hb hby d4_28) rfl  k) ?_
  show own_Fin p e below G (T173.setTop (mkF m 30 #[rv a1, .val (.long x0), .second, .val (.long x1), .second, iv (0 : Int32), .unset] [(.int (0 : Int32)), (.int (2 : Int32))]))
  refine own_st (fun _ k => XS.imul X173.here hx rfl (hb hby d4_30) rfl k) ?_
  show own_Fin p e below G (T173.setTop (mkF m 31 #[rv a1, .val (.long x0), .second, .val (.long x1), .second, iv (0 : Int32), .unset] [(.int (0 : Int32))]))
  refine own_st (fun _ k => XS.iconst X173.here hx rfl (hb hby d4_31) k) ?_
  show own_Fin p e below G (T173.setTop (mkF m 32 #[rv a1, .val (.long x0), .second, .val (.long x1), .second, iv (0 : Int32), .unset] [(.int (1 : Int32)), (.int (0 : Int32))]))
  refine own_st (fun _ k => XS.iadd X173.here hx rfl (hb hby d4_32) rfl k) ?_
  show own_Fin p e below G (T173.setTop (mkF m 33 #[rv a1, .val (.long x0), .second, .val (.long x1), .second, iv (0 : Int32), .unset] [(.int (1 : Int32))]))
  refine own_st (fun _ k => XS.istore X173.here hx rfl (hb hby d4_33) rfl (l' := #[rv a1, .val (.long x0), .second, .val (.long x1), .second, iv (0 : Int32), iv (1 : Int32)]) rfl k) ?_
  show own_Fin p e below G (T173.setTop (mkF m 35 #[rv a1, .val (.long x0), .second, .val (.long x1), .second, iv (0 : Int32), iv (1 : Int32)] []))
  refine own_st (fun _ k => XS.iload X173.here hx rfl (hb hby d4_35) rfl  k) ?_
  show own_Fin p e below G (T173.setTop (mkF m 37 #[rv a1, .val (.long x0), .second, .val (.long x1), .second, iv (0 : Int32), iv (1 : Int32)] [(.int (1 : Int32))]))
  refine own_st (fun _ k => XS.aloadN X173.here hx rfl (hb hby d4_37) rfl rfl k) ?_
  show own_Fin p e below G (T173.setTop (mkF m 38 #[rv a1, .val (.long x0), .second, .val (.long x1), .second, iv (0 : Int32), iv (1 : Int32)] [(.ref a1), (.int (1 : Int32))]))
  obtain ⟨T178, X178, e178, st178⟩ := getF X173 hx hZ hown (host := "") (Or.inl (own_w hw 17 rfl)) Via.refl e173 Fw173 (g := (mkF m 38 #[rv a1, .val (.long x0), .second, .val (.long x1), .second, iv (0 : Int32), iv (1 : Int32)] [(.ref a1), (.int (1 : Int32))])) rfl rfl (hb hby d4_38)
  clear X173 e173
  refine own_st st178 ?_
  clear st178
  show own_Fin p e below G (T178.setTop (mkF m 41 #[rv a1, .val (.long x0), .second, .val (.long x1), .second, iv (0 : Int32), iv (1 : Int32)] [(.int (1 : Int32)), (.int (1 : Int32))]))
  refine own_st (fun _ k => XS.icmpNo X178.here hx rfl (hb hby d4_41) rfl (flt (by decide : ¬ ((1 : Int32) < (1 : Int32)))).1 k) ?_
  show own_Fin p e below G (T178.setTop (mkF m 44 #[rv a1, .val (.long x0), .second, .val (.long x1), .second, iv (0 : Int32), iv (1 : Int32)] []))
  refine own_st (fun _ k => XS.goto X178.here hx rfl (pc0 := 44) (pc' := 117) rfl (hb hby d4_44) (by decide) (by decide) k) ?_
  show own_Fin p e below G (T178.setTop (mkF m 117 #[rv a1, .val (.long x0), .second, .val (.long x1), .second, iv (0 : Int32), iv (1 : Int32)] []))
  refine own_st (fun _ k => XS.aloadN X178.here hx rfl (hb hby d4_117) rfl rfl k) ?_
  show own_Fin p e below G (T178.setTop (mkF m 118 #[rv a1, .val (.long x0), .second, .val (.long x1), .second, iv (0 : Int32), iv (1 : Int32)] [(.ref a1)]))
  obtain ⟨T179, X179, e179, st179⟩ := getF X178 hx hZ hown (host := "") (Or.inl (own_w hw 10 rfl)) Via.refl e178 f174_2 (g := (mkF m 118 #[rv a1, .val (.long x0), .second, .val (.long x1), .second, iv (0 : Int32), iv (1 : Int32)] [(.ref a1)])) rfl rfl (hb hby d4_118)
  clear X178 e178
  refine own_st st179 ?_
  clear st179
  show own_Fin p e below G (T179.setTop (mkF m 121 #[rv a1, .val (.long x0), .second, .val (.long x1), .second, iv (0 : Int32), iv (1 : Int32)] [(.ref a2)]))
  refine own_st (fun _ k => XS.iload X179.here hx rfl (hb hby d4_121) rfl  k) ?_
  show own_Fin p e below G (T179.setTop (mkF m 123 #[rv a1, .val (.long x0), .second, .val (.long x1), .second, iv (0 : Int32), iv (1 : Int32)] [(.int (0 : Int32)), (.ref a2)]))
  refine own_st (fun _ k => XS.lloadN X179.here hx rfl (hb hby d4_123) rfl  k) ?_
  show own_Fin p e below G (T179.setTop (mkF m 124 #[rv a1, .val (.long x0), .second, .val (.long x1), .second, iv (0 : Int32), iv (1 : Int32)] [(.long x1), (.int (0 : Int32)), (.ref a2)]))
  obtain ⟨T180, h180, X180, e180, W180, V180, st180⟩ := own_stJ X179 hx hZ e179 f174_3 (j := (0 : Int32)) (n := 16) rfl (by decide) (g := (mkF m 124 #[rv a1, .val (.long x0), .second, .val (.long x1), .second, iv (0 : Int32), iv (1 : Int32)] [(.long x1), (.int (0 : Int32)), (.ref a2)])) rfl rfl (hb hby d4_124)
  clear f174_3 X179 e179
  have f181_0 := f174_0.wr W180
  clear f174_0 f181_0
  have f181_1 := Fw173.other W180 (Or.inl ne12)
  clear Fw173
  have f181_2 := f174_2.other W180 (Or.inl ne12)
  clear f174_2
  have K182 : Keep h0 h180 [a1, a2] := K176.wr W180 (Or.inl (List.mem_of_getElem? (i := 1) rfl))
  clear K176 W180
  have N183 := Fr.snoc X180 N177 g2
  clear N177
  replace V180 : own_AV Z h180 a2 .long (own_js [x1, x1, x2, x3, x4, x5, x6, x7, x8, x9, x10, x11, x12, x13, x14, x15]) := V180
  refine own_st st180 ?_
  clear st180
  show own_Fin p e below G (T180.setTop (mkF m 125 #[rv a1, .val (.long x0), .second, .val (.long x1), .second, iv (0 : Int32), iv (1 : Int32)] []))
  refine own_st (fun _ k => XS.lloadN X180.here hx rfl (hb hby d4_125) rfl  k) ?_
  show own_Fin p e below G (T180.setTop (mkF m 126 #[rv a1, .val (.long x0), .second, .val (.long x1), .second, iv (0 : Int32), iv (1 : Int32)] [(.long x0)]))
  refine own_out X180 Bd.notSynchronized (v := (some (.long x0))) (fun h => by rw [Bd.returns] at h; cases h) hG (fun fs hr => retOut X180 hx Bd.returns rfl (Or.inr (Or.inl ⟨rfl, rfl, _, rfl⟩)) (hb hby d4_126) hr) (by decide) (by decide) ?_
  refine ⟨rfl, N183, e180.symm ▸ K182, e180.symm ▸ f181_1, e180.symm ▸ f181_2, x1, e180.symm ▸ V180, ?_, fun t => ?_⟩
  · omega
  · omega

theorem d4_47 : decode prog_53_method_7_code 47 = .ok (.iload 6, 2) := by decide +kernel
theorem d4_49 : decode prog_53_method_7_code 49 = .ok (.iconst 1, 1) := by decide +kernel
theorem d4_50 : decode prog_53_method_7_code 50 = .ok (.iadd, 1) := by decide +kernel
theorem d4_51 : decode prog_53_method_7_code 51 = .ok (.aload_n 0, 1) := by decide +kernel
theorem d4_52 : decode prog_53_method_7_code 52 = .ok (.getfield 13, 3) := by decide +kernel
theorem d4_55 : decode prog_53_method_7_code 55 = .ok (.if_icmp .ge 26, 3) := by decide +kernel
theorem d4_81 : decode prog_53_method_7_code 81 = .ok (.lload_n 3, 1) := by decide +kernel
theorem d4_82 : decode prog_53_method_7_code 82 = .ok (.aload_n 0, 1) := by decide +kernel
theorem d4_83 : decode prog_53_method_7_code 83 = .ok (.getfield 7, 3) := by decide +kernel
theorem d4_86 : decode prog_53_method_7_code 86 = .ok (.iload 6, 2) := by decide +kernel
theorem d4_88 : decode prog_53_method_7_code 88 = .ok (.laload, 1) := by decide +kernel
theorem d4_89 : decode prog_53_method_7_code 89 = .ok (.lcmp, 1) := by decide +kernel
theorem d4_90 : decode prog_53_method_7_code 90 = .ok (.ifCond .gt 6, 3) := by decide +kernel
theorem d4_96 : decode prog_53_method_7_code 96 = .ok (.aload_n 0, 1) := by decide +kernel
theorem d4_97 : decode prog_53_method_7_code 97 = .ok (.getfield 7, 3) := by decide +kernel
theorem d4_100 : decode prog_53_method_7_code 100 = .ok (.iload 5, 2) := by decide +kernel
theorem d4_102 : decode prog_53_method_7_code 102 = .ok (.aload_n 0, 1) := by decide +kernel
theorem d4_103 : decode prog_53_method_7_code 103 = .ok (.getfield 7, 3) := by decide +kernel
theorem d4_106 : decode prog_53_method_7_code 106 = .ok (.iload 6, 2) := by decide +kernel
theorem d4_108 : decode prog_53_method_7_code 108 = .ok (.laload, 1) := by decide +kernel
theorem d4_109 : decode prog_53_method_7_code 109 = .ok (.lastore, 1) := by decide +kernel
theorem d4_110 : decode prog_53_method_7_code 110 = .ok (.iload 6, 2) := by decide +kernel
theorem d4_112 : decode prog_53_method_7_code 112 = .ok (.istore 5, 2) := by decide +kernel
theorem d4_114 : decode prog_53_method_7_code 114 = .ok (.goto (-87), 3) := by decide +kernel
theorem d4_93 : decode prog_53_method_7_code 93 = .ok (.goto 24, 3) := by decide +kernel
def Qrm_poll3 (Z : State) (a1 : Addr) (a2 : Addr) (x0 : Int64) (x1 : Int64) (x2 : Int64) (x3 : Int64) (x4 : Int64) (x5 : Int64) (x6 : Int64) (x7 : Int64) (x8 : Int64) (x9 : Int64) (x10 : Int64) (x11 : Int64) (x12 : Int64) (x13 : Int64) (x14 : Int64) (x15 : Int64) (h0 : Heap) (n0 : Nat) (v : Option Value) (h : Heap) (L : List Loc) : Prop := v = some (.long x0) ∧ Fr n0 L ∧ Keep h0 h [a1, a2] ∧ Fld Z h a1 "com/example/urania/urania/layered/KeyHeap" "count" "I" (.int (2 : Int32)) ∧ Fld Z h a1 "com/example/urania/urania/layered/KeyHeap" "keys" "[J" (.ref a2) ∧ ∃ y0 y1 : Int64, own_AV Z h a2 .long (own_js [y0, y1, x2, x3, x4, x5, x6, x7, x8, x9, x10, x11, x12, x13, x14, x15]) ∧ (y0.toInt ≤ y1.toInt ∧ x0.toInt ≤ y0.toInt ∧ x0.toInt ≤ y1.toInt) ∧ ∀ t, own_d t x0 + (own_d t y0 + own_d t y1) = own_d t x0 + own_d t x1 + own_d t x2
set_option maxRecDepth 65536 in
set_option maxHeartbeats 40000000 in
theorem rm_poll3 (l : Launch) (Z : State) (a0 : Array Value) (hw : ∀ d ∈ tables_1, d.before a0 Z = true) (ws : List Jvm.Cond) (a1 : Addr) (a2 : Addr) (x0 : Int64) (x1 : Int64) (x2 : Int64) (x3 : Int64) (x4 : Int64) (x5 : Int64) (x6 : Int64) (x7 : Int64) (x8 : Int64) (x9 : Int64) (x10 : Int64) (x11 : Int64) (x12 : Int64) (x13 : Int64) (x14 : Int64) (x15 : Int64) (h0 : Heap) (n0 : Nat) (Z0 : n0 ≤ h0.size) (E1 : Exa Z h0 a1 "com/example/urania/urania/layered/KeyHeap") (F1 : Fld Z h0 a1 "com/example/urania/urania/layered/KeyHeap" "count" "I" (.int (3 : Int32))) (F2 : Fld Z h0 a1 "com/example/urania/urania/layered/KeyHeap" "keys" "[J" (.ref a2)) (A2 : own_AV Z h0 a2 .long (own_js [x0, x1, x2, x3, x4, x5, x6, x7, x8, x9, x10, x11, x12, x13, x14, x15])) (ne12 : a1 ≠ a2) (g1 : n0 ≤ a1) (g2 : n0 ≤ a2) (hH : x0.toInt ≤ x1.toInt ∧ x0.toInt ≤ x2.toInt) :
    MetFree l own_y5 (head1 (Jvm.Cond.code own_y5 prog_53_method_7_code 7 (some .long) :: ws) ({ frames := 0, cells := 0, slots := 0, locals := 0 } : Room)) (fun a U => a = #[(.ref a1)] ∧ Z.Warmed39 U.vm ∧ U.heap = h0) (fun _ _ _ _ _ => True) (fun _ U o U' => ∃ v L, o = .returned v ∧ Qrm_poll3 Z a1 a2 x0 x1 x2 x3 x4 x5 x6 x7 x8 x9 x10 x11 x12 x13 x14 x15 h0 n0 v U'.heap L ∧ FrameEnd U o U' L ({ frames := 0, cells := 0, slots := 0, locals := 0 } : Room).cells ({ frames := 0, cells := 0, slots := 0, locals := 0 } : Room).slots) := by
  refine MetFree.of_bodySF (plainFor_of_name pn_com_example_urania_urania_layered_KeyHeap) hisR ?_
  intro p e s m args below meth c s₁ Bd hml0 hP hK
  obtain ⟨rfl, hZ, hh⟩ := hP
  have hx := Bd.exec
  have hby := Bd.bytes
  have hml : c.maxLocals = 7 := hml0
  have hown : s.vm.findClass "com/example/urania/urania/layered/KeyHeap" = some m.cls := findClass_of_methodNamed Bd.named
  have hnm := (name_of_methodNamed Bd.named Bd.method).1
  have X0 : Stand p l e ({ frames := 0, cells := 0, slots := 0, locals := 0 } : Room) s m #[(.ref a1)] below meth c s₁ [] 0 0 := Stand.of_body Bd
  have e0 : s₁.heap = h0 := by rw [← hh, Bd.state]; rfl
  have N0 := Fr.nil n0
  have K0 : Keep h0 h0 [a1, a2] := Keep.refl _ _
  refine own_start (Qk := Qrm_poll3 Z a1 a2 x0 x1 x2 x3 x4 x5 x6 x7 x8 x9 x10 x11 x12 x13 x14 x15 h0 n0) (fun G hG => ?_)
  refine own_st (fun _ k => castTop (ef_4_R m a1) k) ?_
  show own_Fin p e below G (s₁.setTop (mkF m 0 #[rv a1, .unset, .unset, .unset, .unset, .unset, .unset] []))
  refine own_st (fun _ k => XS.aloadN X0.here hx rfl (hb hby d4_0) rfl rfl k) ?_
  show own_Fin p e below G (s₁.setTop (mkF m 1 #[rv a1, .unset, .unset, .unset, .unset, .unset, .unset] [(.ref a1)]))
  obtain ⟨T184, X184, e184, st184⟩ := getF X0 hx hZ hown (host := "") (Or.inl (own_w hw 10 rfl)) Via.refl e0 F2 (g := (mkF m 1 #[rv a1, .unset, .unset, .unset, .unset, .unset, .unset] [(.ref a1)])) rfl rfl (hb hby d4_1)
  clear X0 e0
  refine own_st st184 ?_
  clear st184
  show own_Fin p e below G (T184.setTop (mkF m 4 #[rv a1, .unset, .unset, .unset, .unset, .unset, .unset] [(.ref a2)]))
  refine own_st (fun _ k => XS.iconst X184.here hx rfl (hb hby d4_4) k) ?_
  show own_Fin p e below G (T184.setTop (mkF m 5 #[rv a1, .unset, .unset, .unset, .unset, .unset, .unset] [(.int (0 : Int32)), (.ref a2)]))
  refine own_st (fun _ k => own_ldJ X184 hx hZ e184 A2 (j := (0 : Int32)) (n := 16) rfl (by decide) (g := (mkF m 5 #[rv a1, .unset, .unset, .unset, .unset, .unset, .unset] [(.int (0 : Int32)), (.ref a2)])) rfl rfl (hb hby d4_5) k) ?_
  show own_Fin p e below G (T184.setTop (mkF m 6 #[rv a1, .unset, .unset, .unset, .unset, .unset, .unset] [(.long x0)]))
  refine own_st (fun _ k => XS.lstoreN X184.here hx rfl (hb hby d4_6) rfl (l' := #[rv a1, .val (.long x0), .second, .unset, .unset, .unset, .unset]) rfl k) ?_
  show own_Fin p e below G (T184.setTop (mkF m 7 #[rv a1, .val (.long x0), .second, .unset, .unset, .unset, .unset] []))
  refine own_st (fun _ k => XS.aloadN X184.here hx rfl (hb hby d4_7) rfl rfl k) ?_
  show own_Fin p e below G (T184.setTop (mkF m 8 #[rv a1, .val (.long x0), .second, .unset, .unset, .unset, .unset] [(.ref a1)]))
  obtain ⟨T185, X185, e185, st185⟩ := getF X184 hx hZ hown (host := "") (Or.inl (own_w hw 10 rfl)) Via.refl e184 F2 (g := (mkF m 8 #[rv a1, .val (.long x0), .second, .unset, .unset, .unset, .unset] [(.ref a1)])) rfl rfl (hb hby d4_8)
  clear X184 e184
  refine own_st st185 ?_
  clear st185
  show own_Fin p e below G (T185.setTop (mkF m 11 #[rv a1, .val (.long x0), .second, .unset, .unset, .unset, .unset] [(.ref a2)]))
  refine own_st (fun _ k => XS.aloadN X185.here hx rfl (hb hby d4_11) rfl rfl k) ?_
  show own_Fin p e below G (T185.setTop (mkF m 12 #[rv a1, .val (.long x0), .second, .unset, .unset, .unset, .unset] [(.ref a1), (.ref a2)]))
  refine own_st (fun _ k => XS.dup X185.here hx rfl (hb hby d4_12) rfl rfl k) ?_
  show own_Fin p e below G (T185.setTop (mkF m 13 #[rv a1, .val (.long x0), .second, .unset, .unset, .unset, .unset] [(.ref a1), (.ref a1), (.ref a2)]))
  obtain ⟨T186, X186, e186, st186⟩ := getF X185 hx hZ hown (host := "") (Or.inl (own_w hw 17 rfl)) Via.refl e185 F1 (g := (mkF m 13 #[rv a1, .val (.long x0), .second, .unset, .unset, .unset, .unset] [(.ref a1), (.ref a1), (.ref a2)])) rfl rfl (hb hby d4_13)
  clear X185 e185
  refine own_st st186 ?_
  clear st186
  show own_Fin p e below G (T186.setTop (mkF m 16 #[rv a1, .val (.long x0), .second, .unset, .unset, .unset, .unset] [(.int (3 : Int32)), (.ref a1), (.ref a2)]))
  refine own_st (fun _ k => XS.iconst X186.here hx rfl (hb hby d4_16) k) ?_
  show own_Fin p e below G (T186.setTop (mkF m 17 #[rv a1, .val (.long x0), .second, .unset, .unset, .unset, .unset] [(.int (1 : Int32)), (.int (3 : Int32)), (.ref a1), (.ref a2)]))
  refine own_st (fun _ k => XS.isub X186.here hx rfl (hb hby d4_17) rfl k) ?_
  show own_Fin p e below G (T186.setTop (mkF m 18 #[rv a1, .val (.long x0), .second, .unset, .unset, .unset, .unset] [(.int (2 : Int32)), (.ref a1), (.ref a2)]))
  refine own_st (fun _ k => XS.dupX1 X186.here hx rfl (hb hby d4_18) rfl rfl rfl k) ?_
  show own_Fin p e below G (T186.setTop (mkF m 19 #[rv a1, .val (.long x0), .second, .unset, .unset, .unset, .unset] [(.int (2 : Int32)), (.ref a1), (.int (2 : Int32)), (.ref a2)]))
  obtain ⟨T187, h187, X187, e187, W187, st187⟩ := putF X186 hx hZ hown (host := "") (Or.inl (own_w hw 17 rfl)) Via.refl e186 F1 E1 (Or.inl (own_w hw 18 rfl)) (own_w hw 1 rfl) (ty := .int) (by decide) rfl rfl (g := (mkF m 19 #[rv a1, .val (.long x0), .second, .unset, .unset, .unset, .unset] [(.int (2 : Int32)), (.ref a1), (.int (2 : Int32)), (.ref a2)])) rfl rfl (hb hby d4_19)
  clear X186 e186
  have f188_0 := E1.wr W187
  clear E1
  have sl189 := slot_ne (Z := Z) (a0 := a0) (Or.inl (own_w hw 11 rfl)) (Or.inl (own_w hw 18 rfl)) (by decide) (t := (.array .long)) (t' := .int) (by decide) (by decide)
  have f188_2 := F2.other W187 (Or.inr sl189)
  have f188_3 := A2.other W187 (Ne.symm ne12)
  clear A2
  have K190 : Keep h0 h187 [a1, a2] := K0.wr W187 (Or.inl (List.mem_of_getElem? (i := 0) rfl))
  clear K0
  have N191 := Fr.snoc X187 N0 g1
  clear N0
  have Fw187 : Fld Z h187 a1 "com/example/urania/urania/layered/KeyHeap" "count" "I" (.int (2 : Int32)) := F1.same W187
  clear W187
  refine own_st st187 ?_
  clear st187
  show own_Fin p e below G (T187.setTop (mkF m 22 #[rv a1, .val (.long x0), .second, .unset, .unset, .unset, .unset] [(.int (2 : Int32)), (.ref a2)]))
  refine own_st (fun _ k => own_ldJ X187 hx hZ e187 f188_3 (j := (2 : Int32)) (n := 16) rfl (by decide) (g := (mkF m 22 #[rv a1, .val (.long x0), .second, .unset, .unset, .unset, .unset] [(.int (2 : Int32)), (.ref a2)])) rfl rfl (hb hby d4_22) k) ?_
  show own_Fin p e below G (T187.setTop (mkF m 23 #[rv a1, .val (.long x0), .second, .unset, .unset, .unset, .unset] [(.long x2)]))
  refine own_st (fun _ k => XS.lstoreN X187.here hx rfl (hb hby d4_23) rfl (l' := #[rv a1, .val (.long x0), .second, .val (.long x2), .second, .unset, .unset]) rfl k) ?_
  show own_Fin p e below G (T187.setTop (mkF m 24 #[rv a1, .val (.long x0), .second, .val (.long x2), .second, .unset, .unset] []))
  refine own_st (fun _ k => XS.iconst X187.here hx rfl (hb hby d4_24) k) ?_
  show own_Fin p e below G (T187.setTop (mkF m 25 #[rv a1, .val (.long x0), .second, .val (.long x2), .second, .unset, .unset] [(.int (0 : Int32))]))
  refine own_st (fun _ k => XS.istore X187.here hx rfl (hb hby d4_25) rfl (l' := #[rv a1, .val (.long x0), .second, .val (.long x2), .second, iv (0 : Int32), .unset]) rfl k) ?_
  show own_Fin p e below G (T187.setTop (mkF m 27 #[rv a1, .val (.long x0), .second, .val (.long x2), .second, iv (0 : Int32), .unset] []))
  refine own_st (fun _ k => XS.iconst X187.here hx rfl (hb hby d4_27) k) ?_
  show own_Fin p e below G (T187.setTop (mkF m 28 #[rv a1, .val (.long x0), .second, .val (.long x2), .second, iv (0 : Int32), .unset] [(.int (2 : Int32))]))
  refine own_st (fun _ k => XS.iload X187.here hx rfl (hb hby d4_28) rfl  k) ?_
  show own_Fin p e below G (T187.setTop (mkF m 30 #[rv a1, .val (.long x0), .second, .val (.long x2), .second, iv (0 : Int32), .unset] [(.int (0 : Int32)), (.int (2 : Int32))]))
  refine own_st (fun _ k => XS.imul X187.here hx rfl (hb hby d4_30) rfl k) ?_
  show own_Fin p e below G (T187.setTop (mkF m 31 #[rv a1, .val (.long x0), .second, .val (.long x2), .second, iv (0 : Int32), .unset] [(.int (0 : Int32))]))
  refine own_st (fun _ k => XS.iconst X187.here hx rfl (hb hby d4_31) k) ?_
  show own_Fin p e below G (T187.setTop (mkF m 32 #[rv a1, .val (.long x0), .second, .val (.long x2), .second, iv (0 : Int32), .unset] [(.int (1 : Int32)), (.int (0 : Int32))]))
  refine own_st (fun _ k => XS.iadd X187.here hx rfl (hb hby d4_32) rfl k) ?_
  show own_Fin p e below G (T187.setTop (mkF m 33 #[rv a1, .val (.long x0), .second, .val (.long x2), .second, iv (0 : Int32), .unset] [(.int (1 : Int32))]))
  refine own_st (fun _ k => XS.istore X187.here hx rfl (hb hby d4_33) rfl (l' := #[rv a1, .val (.long x0), .second, .val (.long x2), .second, iv (0 : Int32), iv (1 : Int32)]) rfl k) ?_
  show own_Fin p e below G (T187.setTop (mkF m 35 #[rv a1, .val (.long x0), .second, .val (.long x2), .second, iv (0 : Int32), iv (1 : Int32)] []))
  refine own_st (fun _ k => XS.iload X187.here hx rfl (hb hby d4_35) rfl  k) ?_
  show own_Fin p e below G (T187.setTop (mkF m 37 #[rv a1, .val (.long x0), .second, .val (.long x2), .second, iv (0 : Int32), iv (1 : Int32)] [(.int (1 : Int32))]))
  refine own_st (fun _ k => XS.aloadN X187.here hx rfl (hb hby d4_37) rfl rfl k) ?_
  show own_Fin p e below G (T187.setTop (mkF m 38 #[rv a1, .val (.long x0), .second, .val (.long x2), .second, iv (0 : Int32), iv (1 : Int32)] [(.ref a1), (.int (1 : Int32))]))
  obtain ⟨T192, X192, e192, st192⟩ := getF X187 hx hZ hown (host := "") (Or.inl (own_w hw 17 rfl)) Via.refl e187 Fw187 (g := (mkF m 38 #[rv a1, .val (.long x0), .second, .val (.long x2), .second, iv (0 : Int32), iv (1 : Int32)] [(.ref a1), (.int (1 : Int32))])) rfl rfl (hb hby d4_38)
  clear X187 e187
  refine own_st st192 ?_
  clear st192
  show own_Fin p e below G (T192.setTop (mkF m 41 #[rv a1, .val (.long x0), .second, .val (.long x2), .second, iv (0 : Int32), iv (1 : Int32)] [(.int (2 : Int32)), (.int (1 : Int32))]))
  refine own_st (fun _ k => XS.icmpYes X192.here hx rfl (pc0 := 41) (pc' := 47) rfl (hb hby d4_41) rfl (tlt (by decide : ((1 : Int32) < (2 : Int32)))).1 (by decide) (by decide) k) ?_
  show own_Fin p e below G (T192.setTop (mkF m 47 #[rv a1, .val (.long x0), .second, .val (.long x2), .second, iv (0 : Int32), iv (1 : Int32)] []))
  refine own_st (fun _ k => XS.iload X192.here hx rfl (hb hby d4_47) rfl  k) ?_
  show own_Fin p e below G (T192.setTop (mkF m 49 #[rv a1, .val (.long x0), .second, .val (.long x2), .second, iv (0 : Int32), iv (1 : Int32)] [(.int (1 : Int32))]))
  refine own_st (fun _ k => XS.iconst X192.here hx rfl (hb hby d4_49) k) ?_
  show own_Fin p e below G (T192.setTop (mkF m 50 #[rv a1, .val (.long x0), .second, .val (.long x2), .second, iv (0 : Int32), iv (1 : Int32)] [(.int (1 : Int32)), (.int (1 : Int32))]))
  refine own_st (fun _ k => XS.iadd X192.here hx rfl (hb hby d4_50) rfl k) ?_
  show own_Fin p e below G (T192.setTop (mkF m 51 #[rv a1, .val (.long x0), .second, .val (.long x2), .second, iv (0 : Int32), iv (1 : Int32)] [(.int (2 : Int32))]))
  refine own_st (fun _ k => XS.aloadN X192.here hx rfl (hb hby d4_51) rfl rfl k) ?_
  show own_Fin p e below G (T192.setTop (mkF m 52 #[rv a1, .val (.long x0), .second, .val (.long x2), .second, iv (0 : Int32), iv (1 : Int32)] [(.ref a1), (.int (2 : Int32))]))
  obtain ⟨T193, X193, e193, st193⟩ := getF X192 hx hZ hown (host := "") (Or.inl (own_w hw 17 rfl)) Via.refl e192 Fw187 (g := (mkF m 52 #[rv a1, .val (.long x0), .second, .val (.long x2), .second, iv (0 : Int32), iv (1 : Int32)] [(.ref a1), (.int (2 : Int32))])) rfl rfl (hb hby d4_52)
  clear X192 e192
  refine own_st st193 ?_
  clear st193
  show own_Fin p e below G (T193.setTop (mkF m 55 #[rv a1, .val (.long x0), .second, .val (.long x2), .second, iv (0 : Int32), iv (1 : Int32)] [(.int (2 : Int32)), (.int (2 : Int32))]))
  refine own_st (fun _ k => XS.icmpYes X193.here hx rfl (pc0 := 55) (pc' := 81) rfl (hb hby d4_55) rfl (flt (by decide : ¬ ((2 : Int32) < (2 : Int32)))).2.1 (by decide) (by decide) k) ?_
  show own_Fin p e below G (T193.setTop (mkF m 81 #[rv a1, .val (.long x0), .second, .val (.long x2), .second, iv (0 : Int32), iv (1 : Int32)] []))
  refine own_st (fun _ k => XS.lloadN X193.here hx rfl (hb hby d4_81) rfl  k) ?_
  show own_Fin p e below G (T193.setTop (mkF m 82 #[rv a1, .val (.long x0), .second, .val (.long x2), .second, iv (0 : Int32), iv (1 : Int32)] [(.long x2)]))
  refine own_st (fun _ k => XS.aloadN X193.here hx rfl (hb hby d4_82) rfl rfl k) ?_
  show own_Fin p e below G (T193.setTop (mkF m 83 #[rv a1, .val (.long x0), .second, .val (.long x2), .second, iv (0 : Int32), iv (1 : Int32)] [(.ref a1), (.long x2)]))
  obtain ⟨T194, X194, e194, st194⟩ := getF X193 hx hZ hown (host := "") (Or.inl (own_w hw 10 rfl)) Via.refl e193 f188_2 (g := (mkF m 83 #[rv a1, .val (.long x0), .second, .val (.long x2), .second, iv (0 : Int32), iv (1 : Int32)] [(.ref a1), (.long x2)])) rfl rfl (hb hby d4_83)
  clear X193 e193
  refine own_st st194 ?_
  clear st194
  show own_Fin p e below G (T194.setTop (mkF m 86 #[rv a1, .val (.long x0), .second, .val (.long x2), .second, iv (0 : Int32), iv (1 : Int32)] [(.ref a2), (.long x2)]))
  refine own_st (fun _ k => XS.iload X194.here hx rfl (hb hby d4_86) rfl  k) ?_
  show own_Fin p e below G (T194.setTop (mkF m 88 #[rv a1, .val (.long x0), .second, .val (.long x2), .second, iv (0 : Int32), iv (1 : Int32)] [(.int (1 : Int32)), (.ref a2), (.long x2)]))
  refine own_st (fun _ k => own_ldJ X194 hx hZ e194 f188_3 (j := (1 : Int32)) (n := 16) rfl (by decide) (g := (mkF m 88 #[rv a1, .val (.long x0), .second, .val (.long x2), .second, iv (0 : Int32), iv (1 : Int32)] [(.int (1 : Int32)), (.ref a2), (.long x2)])) rfl rfl (hb hby d4_88) k) ?_
  show own_Fin p e below G (T194.setTop (mkF m 89 #[rv a1, .val (.long x0), .second, .val (.long x2), .second, iv (0 : Int32), iv (1 : Int32)] [(.long x1), (.long x2)]))
  refine own_st (fun _ k => XS.lcmp X194.here hx rfl (hb hby d4_89) rfl k) ?_
  show own_Fin p e below G (T194.setTop (mkF m 90 #[rv a1, .val (.long x0), .second, .val (.long x2), .second, iv (0 : Int32), iv (1 : Int32)] [(.int (lcmpW x2 x1))]))
  by_cases hc90_195 : (0 : Int32) < (lcmpW x2 x1)
  · refine own_st (fun _ k => XS.ifYes X194.here hx rfl (pc0 := 90) (pc' := 96) rfl (hb hby d4_90) rfl ((if0 _ _).trans (tlt hc90_195).2.2.1) (by decide) (by decide) k) ?_
    show own_Fin p e below G (T194.setTop (mkF m 96 #[rv a1, .val (.long x0), .second, .val (.long x2), .second, iv (0 : Int32), iv (1 : Int32)] []))
    refine own_st (fun _ k => XS.aloadN X194.here hx rfl (hb hby d4_96) rfl rfl k) ?_
    show own_Fin p e below G (T194.setTop (mkF m 97 #[rv a1, .val (.long x0), .second, .val (.long x2), .second, iv (0 : Int32), iv (1 : Int32)] [(.ref a1)]))
    obtain ⟨T196, X196, e196, st196⟩ := getF X194 hx hZ hown (host := "") (Or.inl (own_w hw 10 rfl)) Via.refl e194 f188_2 (g := (mkF m 97 #[rv a1, .val (.long x0), .second, .val (.long x2), .second, iv (0 : Int32), iv (1 : Int32)] [(.ref a1)])) rfl rfl (hb hby d4_97)
    refine own_st st196 ?_
    clear st196
    show own_Fin p e below G (T196.setTop (mkF m 100 #[rv a1, .val (.long x0), .second, .val (.long x2), .second, iv (0 : Int32), iv (1 : Int32)] [(.ref a2)]))
    refine own_st (fun _ k => XS.iload X196.here hx rfl (hb hby d4_100) rfl  k) ?_
    show own_Fin p e below G (T196.setTop (mkF m 102 #[rv a1, .val (.long x0), .second, .val (.long x2), .second, iv (0 : Int32), iv (1 : Int32)] [(.int (0 : Int32)), (.ref a2)]))
    refine own_st (fun _ k => XS.aloadN X196.here hx rfl (hb hby d4_102) rfl rfl k) ?_
    show own_Fin p e below G (T196.setTop (mkF m 103 #[rv a1, .val (.long x0), .second, .val (.long x2), .second, iv (0 : Int32), iv (1 : Int32)] [(.ref a1), (.int (0 : Int32)), (.ref a2)]))
    obtain ⟨T197, X197, e197, st197⟩ := getF X196 hx hZ hown (host := "") (Or.inl (own_w hw 10 rfl)) Via.refl e196 f188_2 (g := (mkF m 103 #[rv a1, .val (.long x0), .second, .val (.long x2), .second, iv (0 : Int32), iv (1 : Int32)] [(.ref a1), (.int (0 : Int32)), (.ref a2)])) rfl rfl (hb hby d4_103)
    clear X196 e196
    refine own_st st197 ?_
    clear st197
    show own_Fin p e below G (T197.setTop (mkF m 106 #[rv a1, .val (.long x0), .second, .val (.long x2), .second, iv (0 : Int32), iv (1 : Int32)] [(.ref a2), (.int (0 : Int32)), (.ref a2)]))
    refine own_st (fun _ k => XS.iload X197.here hx rfl (hb hby d4_106) rfl  k) ?_
    show own_Fin p e below G (T197.setTop (mkF m 108 #[rv a1, .val (.long x0), .second, .val (.long x2), .second, iv (0 : Int32), iv (1 : Int32)] [(.int (1 : Int32)), (.ref a2), (.int (0 : Int32)), (.ref a2)]))
    refine own_st (fun _ k => own_ldJ X197 hx hZ e197 f188_3 (j := (1 : Int32)) (n := 16) rfl (by decide) (g := (mkF m 108 #[rv a1, .val (.long x0), .second, .val (.long x2), .second, iv (0 : Int32), iv (1 : Int32)] [(.int (1 : Int32)), (.ref a2), (.int (0 : Int32)), (.ref a2)])) rfl rfl (hb hby d4_108) k) ?_
    show own_Fin p e below G (T197.setTop (mkF m 109 #[rv a1, .val (.long x0), .second, .val (.long x2), .second, iv (0 : Int32), iv (1 : Int32)] [(.long x1), (.int (0 : Int32)), (.ref a2)]))
    obtain ⟨T198, h198, X198, e198, W198, V198, st198⟩ := own_stJ X197 hx hZ e197 f188_3 (j := (0 : Int32)) (n := 16) rfl (by decide) (g := (mkF m 109 #[rv a1, .val (.long x0), .second, .val (.long x2), .second, iv (0 : Int32), iv (1 : Int32)] [(.long x1), (.int (0 : Int32)), (.ref a2)])) rfl rfl (hb hby d4_109)
    clear X197 e197
    have f199_0 := f188_0.wr W198
    have f199_1 := Fw187.other W198 (Or.inl ne12)
    have f199_2 := f188_2.other W198 (Or.inl ne12)
    have K200 : Keep h0 h198 [a1, a2] := K190.wr W198 (Or.inl (List.mem_of_getElem? (i := 1) rfl))
    clear W198
    have N201 := Fr.snoc X198 N191 g2
    replace V198 : own_AV Z h198 a2 .long (own_js [x1, x1, x2, x3, x4, x5, x6, x7, x8, x9, x10, x11, x12, x13, x14, x15]) := V198
    refine own_st st198 ?_
    clear st198
    show own_Fin p e below G (T198.setTop (mkF m 110 #[rv a1, .val (.long x0), .second, .val (.long x2), .second, iv (0 : Int32), iv (1 : Int32)] []))
    refine own_st (fun _ k => XS.iload X198.here hx rfl (hb hby d4_110) rfl  k) ?_
    show own_Fin p e below G (T198.setTop (mkF m 112 #[rv a1, .val (.long x0), .second, .val (.long x2), .second, iv (0 : Int32), iv (1 : Int32)] [(.int (1 : Int32))]))
    refine own_st (fun _ k => XS.istore X198.here hx rfl (hb hby d4_112) rfl (l' := #[rv a1, .val (.long x0), .second, .val (.long x2), .second, iv (1 : Int32), iv (1 : Int32)]) rfl k) ?_
    show own_Fin p e below G (T198.setTop (mkF m 114 #[rv a1, .val (.long x0), .second, .val (.long x2), .second, iv (1 : Int32), iv (1 : Int32)] []))
    refine own_st (fun _ k => XS.goto X198.here hx rfl (pc0 := 114) (pc' := 27) rfl (hb hby d4_114) (by decide) (by decide) k) ?_
    show own_Fin p e below G (T198.setTop (mkF m 27 #[rv a1, .val (.long x0), .second, .val (.long x2), .second, iv (1 : Int32), iv (1 : Int32)] []))
    refine own_st (fun _ k => XS.iconst X198.here hx rfl (hb hby d4_27) k) ?_
    show own_Fin p e below G (T198.setTop (mkF m 28 #[rv a1, .val (.long x0), .second, .val (.long x2), .second, iv (1 : Int32), iv (1 : Int32)] [(.int (2 : Int32))]))
    refine own_st (fun _ k => XS.iload X198.here hx rfl (hb hby d4_28) rfl  k) ?_
    show own_Fin p e below G (T198.setTop (mkF m 30 #[rv a1, .val (.long x0), .second, .val (.long x2), .second, iv (1 : Int32), iv (1 : Int32)] [(.int (1 : Int32)), (.int (2 : Int32))]))
    refine own_st (fun _ k => XS.imul X198.here hx rfl (hb hby d4_30) rfl k) ?_
    show own_Fin p e below G (T198.setTop (mkF m 31 #[rv a1, .val (.long x0), .second, .val (.long x2), .second, iv (1 : Int32), iv (1 : Int32)] [(.int (2 : Int32))]))
    refine own_st (fun _ k => XS.iconst X198.here hx rfl (hb hby d4_31) k) ?_
    show own_Fin p e below G (T198.setTop (mkF m 32 #[rv a1, .val (.long x0), .second, .val (.long x2), .second, iv (1 : Int32), iv (1 : Int32)] [(.int (1 : Int32)), (.int (2 : Int32))]))
    refine own_st (fun _ k => XS.iadd X198.here hx rfl (hb hby d4_32) rfl k) ?_
    show own_Fin p e below G (T198.setTop (mkF m 33 #[rv a1, .val (.long x0), .second, .val (.long x2), .second, iv (1 : Int32), iv (1 : Int32)] [(.int (3 : Int32))]))
    refine own_st (fun _ k => XS.istore X198.here hx rfl (hb hby d4_33) rfl (l' := #[rv a1, .val (.long x0), .second, .val (.long x2), .second, iv (1 : Int32), iv (3 : Int32)]) rfl k) ?_
    show own_Fin p e below G (T198.setTop (mkF m 35 #[rv a1, .val (.long x0), .second, .val (.long x2), .second, iv (1 : Int32), iv (3 : Int32)] []))
    refine own_st (fun _ k => XS.iload X198.here hx rfl (hb hby d4_35) rfl  k) ?_
    show own_Fin p e below G (T198.setTop (mkF m 37 #[rv a1, .val (.long x0), .second, .val (.long x2), .second, iv (1 : Int32), iv (3 : Int32)] [(.int (3 : Int32))]))
    refine own_st (fun _ k => XS.aloadN X198.here hx rfl (hb hby d4_37) rfl rfl k) ?_
    show own_Fin p e below G (T198.setTop (mkF m 38 #[rv a1, .val (.long x0), .second, .val (.long x2), .second, iv (1 : Int32), iv (3 : Int32)] [(.ref a1), (.int (3 : Int32))]))
    obtain ⟨T202, X202, e202, st202⟩ := getF X198 hx hZ hown (host := "") (Or.inl (own_w hw 17 rfl)) Via.refl e198 f199_1 (g := (mkF m 38 #[rv a1, .val (.long x0), .second, .val (.long x2), .second, iv (1 : Int32), iv (3 : Int32)] [(.ref a1), (.int (3 : Int32))])) rfl rfl (hb hby d4_38)
    clear X198 e198
    refine own_st st202 ?_
    clear st202
    show own_Fin p e below G (T202.setTop (mkF m 41 #[rv a1, .val (.long x0), .second, .val (.long x2), .second, iv (1 : Int32), iv (3 : Int32)] [(.int (2 : Int32)), (.int (3 : Int32))]))
    refine own_st (fun _ k => XS.icmpNo X202.here hx rfl (hb hby d4_41) rfl (flt (by decide : ¬ ((3 : Int32) < (2 : Int32)))).1 k) ?_
    show own_Fin p e below G (T202.setTop (mkF m 44 #[rv a1, .val (.long x0), .second, .val (.long x2), .second, iv (1 : Int32), iv (3 : Int32)] []))
    refine own_st (fun _ k => XS.goto X202.here hx rfl (pc0 := 44) (pc' := 117) rfl (hb hby d4_44) (by decide) (by decide) k) ?_
    show own_Fin p e below G (T202.setTop (mkF m 117 #[rv a1, .val (.long x0), .second, .val (.long x2), .second, iv (1 : Int32), iv (3 : Int32)] []))
    refine own_st (fun _ k => XS.aloadN X202.here hx rfl (hb hby d4_117) rfl rfl k) ?_
    show own_Fin p e below G (T202.setTop (mkF m 118 #[rv a1, .val (.long x0), .second, .val (.long x2), .second, iv (1 : Int32), iv (3 : Int32)] [(.ref a1)]))
    obtain ⟨T203, X203, e203, st203⟩ := getF X202 hx hZ hown (host := "") (Or.inl (own_w hw 10 rfl)) Via.refl e202 f199_2 (g := (mkF m 118 #[rv a1, .val (.long x0), .second, .val (.long x2), .second, iv (1 : Int32), iv (3 : Int32)] [(.ref a1)])) rfl rfl (hb hby d4_118)
    clear X202 e202
    refine own_st st203 ?_
    clear st203
    show own_Fin p e below G (T203.setTop (mkF m 121 #[rv a1, .val (.long x0), .second, .val (.long x2), .second, iv (1 : Int32), iv (3 : Int32)] [(.ref a2)]))
    refine own_st (fun _ k => XS.iload X203.here hx rfl (hb hby d4_121) rfl  k) ?_
    show own_Fin p e below G (T203.setTop (mkF m 123 #[rv a1, .val (.long x0), .second, .val (.long x2), .second, iv (1 : Int32), iv (3 : Int32)] [(.int (1 : Int32)), (.ref a2)]))
    refine own_st (fun _ k => XS.lloadN X203.here hx rfl (hb hby d4_123) rfl  k) ?_
    show own_Fin p e below G (T203.setTop (mkF m 124 #[rv a1, .val (.long x0), .second, .val (.long x2), .second, iv (1 : Int32), iv (3 : Int32)] [(.long x2), (.int (1 : Int32)), (.ref a2)]))
    obtain ⟨T204, h204, X204, e204, W204, V204, st204⟩ := own_stJ X203 hx hZ e203 V198 (j := (1 : Int32)) (n := 16) rfl (by decide) (g := (mkF m 124 #[rv a1, .val (.long x0), .second, .val (.long x2), .second, iv (1 : Int32), iv (3 : Int32)] [(.long x2), (.int (1 : Int32)), (.ref a2)])) rfl rfl (hb hby d4_124)
    clear V198 X203 e203
    have f205_0 := f199_0.wr W204
    clear f199_0 f205_0
    have f205_1 := f199_1.other W204 (Or.inl ne12)
    clear f199_1
    have f205_2 := f199_2.other W204 (Or.inl ne12)
    clear f199_2
    have K206 : Keep h0 h204 [a1, a2] := K200.wr W204 (Or.inl (List.mem_of_getElem? (i := 1) rfl))
    clear K200 W204
    have N207 := Fr.snoc X204 N201 g2
    clear N201
    replace V204 : own_AV Z h204 a2 .long (own_js [x1, x2, x2, x3, x4, x5, x6, x7, x8, x9, x10, x11, x12, x13, x14, x15]) := V204
    refine own_st st204 ?_
    clear st204
    show own_Fin p e below G (T204.setTop (mkF m 125 #[rv a1, .val (.long x0), .second, .val (.long x2), .second, iv (1 : Int32), iv (3 : Int32)] []))
    refine own_st (fun _ k => XS.lloadN X204.here hx rfl (hb hby d4_125) rfl  k) ?_
    show own_Fin p e below G (T204.setTop (mkF m 126 #[rv a1, .val (.long x0), .second, .val (.long x2), .second, iv (1 : Int32), iv (3 : Int32)] [(.long x0)]))
    refine own_out X204 Bd.notSynchronized (v := (some (.long x0))) (fun h => by rw [Bd.returns] at h; cases h) hG (fun fs hr => retOut X204 hx Bd.returns rfl (Or.inr (Or.inl ⟨rfl, rfl, _, rfl⟩)) (hb hby d4_126) hr) (by decide) (by decide) ?_
    have o_hc90_195 : x1.toInt < x2.toInt := own_gt.mp hc90_195
    refine ⟨rfl, N207, e204.symm ▸ K206, e204.symm ▸ f205_1, e204.symm ▸ f205_2, x1, x2, e204.symm ▸ V204, ?_, fun t => ?_⟩
    · omega
    · omega
  · refine own_st (fun _ k => XS.ifNo X194.here hx rfl (hb hby d4_90) rfl ((if0 _ _).trans (flt hc90_195).2.2.1) k) ?_
    show own_Fin p e below G (T194.setTop (mkF m 93 #[rv a1, .val (.long x0), .second, .val (.long x2), .second, iv (0 : Int32), iv (1 : Int32)] []))
    refine own_st (fun _ k => XS.goto X194.here hx rfl (pc0 := 93) (pc' := 117) rfl (hb hby d4_93) (by decide) (by decide) k) ?_
    show own_Fin p e below G (T194.setTop (mkF m 117 #[rv a1, .val (.long x0), .second, .val (.long x2), .second, iv (0 : Int32), iv (1 : Int32)] []))
    refine own_st (fun _ k => XS.aloadN X194.here hx rfl (hb hby d4_117) rfl rfl k) ?_
    show own_Fin p e below G (T194.setTop (mkF m 118 #[rv a1, .val (.long x0), .second, .val (.long x2), .second, iv (0 : Int32), iv (1 : Int32)] [(.ref a1)]))
    obtain ⟨T208, X208, e208, st208⟩ := getF X194 hx hZ hown (host := "") (Or.inl (own_w hw 10 rfl)) Via.refl e194 f188_2 (g := (mkF m 118 #[rv a1, .val (.long x0), .second, .val (.long x2), .second, iv (0 : Int32), iv (1 : Int32)] [(.ref a1)])) rfl rfl (hb hby d4_118)
    clear X194 e194
    refine own_st st208 ?_
    clear st208
    show own_Fin p e below G (T208.setTop (mkF m 121 #[rv a1, .val (.long x0), .second, .val (.long x2), .second, iv (0 : Int32), iv (1 : Int32)] [(.ref a2)]))
    refine own_st (fun _ k => XS.iload X208.here hx rfl (hb hby d4_121) rfl  k) ?_
    show own_Fin p e below G (T208.setTop (mkF m 123 #[rv a1, .val (.long x0), .second, .val (.long x2), .second, iv (0 : Int32), iv (1 : Int32)] [(.int (0 : Int32)), (.ref a2)]))
    refine own_st (fun _ k => XS.lloadN X208.here hx rfl (hb hby d4_123) rfl  k) ?_
    show own_Fin p e below G (T208.setTop (mkF m 124 #[rv a1, .val (.long x0), .second, .val (.long x2), .second, iv (0 : Int32), iv (1 : Int32)] [(.long x2), (.int (0 : Int32)), (.ref a2)]))
    obtain ⟨T209, h209, X209, e209, W209, V209, st209⟩ := own_stJ X208 hx hZ e208 f188_3 (j := (0 : Int32)) (n := 16) rfl (by decide) (g := (mkF m 124 #[rv a1, .val (.long x0), .second, .val (.long x2), .second, iv (0 : Int32), iv (1 : Int32)] [(.long x2), (.int (0 : Int32)), (.ref a2)])) rfl rfl (hb hby d4_124)
    clear f188_3 X208 e208
    have f210_0 := f188_0.wr W209
    clear f188_0 f210_0
    have f210_1 := Fw187.other W209 (Or.inl ne12)
    clear Fw187
    have f210_2 := f188_2.other W209 (Or.inl ne12)
    clear f188_2
    have K211 : Keep h0 h209 [a1, a2] := K190.wr W209 (Or.inl (List.mem_of_getElem? (i := 1) rfl))
    clear K190 W209
    have N212 := Fr.snoc X209 N191 g2
    clear N191
    replace V209 : own_AV Z h209 a2 .long (own_js [x2, x1, x2, x3, x4, x5, x6, x7, x8, x9, x10, x11, x12, x13, x14, x15]) := V209
    refine own_st st209 ?_
    clear st209
    show own_Fin p e below G (T209.setTop (mkF m 125 #[rv a1, .val (.long x0), .second, .val (.long x2), .second, iv (0 : Int32), iv (1 : Int32)] []))
    refine own_st (fun _ k => XS.lloadN X209.here hx rfl (hb hby d4_125) rfl  k) ?_
    show own_Fin p e below G (T209.setTop (mkF m 126 #[rv a1, .val (.long x0), .second, .val (.long x2), .second, iv (0 : Int32), iv (1 : Int32)] [(.long x0)]))
    refine own_out X209 Bd.notSynchronized (v := (some (.long x0))) (fun h => by rw [Bd.returns] at h; cases h) hG (fun fs hr => retOut X209 hx Bd.returns rfl (Or.inr (Or.inl ⟨rfl, rfl, _, rfl⟩)) (hb hby d4_126) hr) (by decide) (by decide) ?_
    have o_hc90_195 : ¬ x1.toInt < x2.toInt := fun q => hc90_195 (own_gt.mpr q)
    refine ⟨rfl, N212, e209.symm ▸ K211, e209.symm ▸ f210_1, e209.symm ▸ f210_2, x2, x1, e209.symm ▸ V209, ?_, fun t => ?_⟩
    · omega
    · omega

theorem d4_58 : decode prog_53_method_7_code 58 = .ok (.aload_n 0, 1) := by decide +kernel
theorem d4_59 : decode prog_53_method_7_code 59 = .ok (.getfield 7, 3) := by decide +kernel
theorem d4_62 : decode prog_53_method_7_code 62 = .ok (.iload 6, 2) := by decide +kernel
theorem d4_64 : decode prog_53_method_7_code 64 = .ok (.iconst 1, 1) := by decide +kernel
theorem d4_65 : decode prog_53_method_7_code 65 = .ok (.iadd, 1) := by decide +kernel
theorem d4_66 : decode prog_53_method_7_code 66 = .ok (.laload, 1) := by decide +kernel
theorem d4_67 : decode prog_53_method_7_code 67 = .ok (.aload_n 0, 1) := by decide +kernel
theorem d4_68 : decode prog_53_method_7_code 68 = .ok (.getfield 7, 3) := by decide +kernel
theorem d4_71 : decode prog_53_method_7_code 71 = .ok (.iload 6, 2) := by decide +kernel
theorem d4_73 : decode prog_53_method_7_code 73 = .ok (.laload, 1) := by decide +kernel
theorem d4_74 : decode prog_53_method_7_code 74 = .ok (.lcmp, 1) := by decide +kernel
theorem d4_75 : decode prog_53_method_7_code 75 = .ok (.ifCond .ge 6, 3) := by decide +kernel
theorem d4_78 : decode prog_53_method_7_code 78 = .ok (.iinc 6 1, 3) := by decide +kernel
def Qrm_poll4 (Z : State) (a1 : Addr) (a2 : Addr) (x0 : Int64) (x1 : Int64) (x2 : Int64) (x3 : Int64) (x4 : Int64) (x5 : Int64) (x6 : Int64) (x7 : Int64) (x8 : Int64) (x9 : Int64) (x10 : Int64) (x11 : Int64) (x12 : Int64) (x13 : Int64) (x14 : Int64) (x15 : Int64) (h0 : Heap) (n0 : Nat) (v : Option Value) (h : Heap) (L : List Loc) : Prop := v = some (.long x0) ∧ Fr n0 L ∧ Keep h0 h [a1, a2] ∧ Fld Z h a1 "com/example/urania/urania/layered/KeyHeap" "count" "I" (.int (3 : Int32)) ∧ Fld Z h a1 "com/example/urania/urania/layered/KeyHeap" "keys" "[J" (.ref a2) ∧ ∃ y0 y1 y2 : Int64, own_AV Z h a2 .long (own_js [y0, y1, y2, x3, x4, x5, x6, x7, x8, x9, x10, x11, x12, x13, x14, x15]) ∧ (y0.toInt ≤ y1.toInt ∧ y0.toInt ≤ y2.toInt ∧ x0.toInt ≤ y0.toInt ∧ x0.toInt ≤ y1.toInt ∧ x0.toInt ≤ y2.toInt) ∧ ∀ t, own_d t x0 + (own_d t y0 + own_d t y1 + own_d t y2) = own_d t x0 + own_d t x1 + own_d t x2 + own_d t x3
set_option maxRecDepth 65536 in
set_option maxHeartbeats 40000000 in
theorem rm_poll4 (l : Launch) (Z : State) (a0 : Array Value) (hw : ∀ d ∈ tables_1, d.before a0 Z = true) (ws : List Jvm.Cond) (a1 : Addr) (a2 : Addr) (x0 : Int64) (x1 : Int64) (x2 : Int64) (x3 : Int64) (x4 : Int64) (x5 : Int64) (x6 : Int64) (x7 : Int64) (x8 : Int64) (x9 : Int64) (x10 : Int64) (x11 : Int64) (x12 : Int64) (x13 : Int64) (x14 : Int64) (x15 : Int64) (h0 : Heap) (n0 : Nat) (Z0 : n0 ≤ h0.size) (E1 : Exa Z h0 a1 "com/example/urania/urania/layered/KeyHeap") (F1 : Fld Z h0 a1 "com/example/urania/urania/layered/KeyHeap" "count" "I" (.int (4 : Int32))) (F2 : Fld Z h0 a1 "com/example/urania/urania/layered/KeyHeap" "keys" "[J" (.ref a2)) (A2 : own_AV Z h0 a2 .long (own_js [x0, x1, x2, x3, x4, x5, x6, x7, x8, x9, x10, x11, x12, x13, x14, x15])) (ne12 : a1 ≠ a2) (g1 : n0 ≤ a1) (g2 : n0 ≤ a2) (hH : x0.toInt ≤ x1.toInt ∧ x0.toInt ≤ x2.toInt ∧ x1.toInt ≤ x3.toInt) :
    MetFree l own_y5 (head1 (Jvm.Cond.code own_y5 prog_53_method_7_code 7 (some .long) :: ws) ({ frames := 0, cells := 0, slots := 0, locals := 0 } : Room)) (fun a U => a = #[(.ref a1)] ∧ Z.Warmed39 U.vm ∧ U.heap = h0) (fun _ _ _ _ _ => True) (fun _ U o U' => ∃ v L, o = .returned v ∧ Qrm_poll4 Z a1 a2 x0 x1 x2 x3 x4 x5 x6 x7 x8 x9 x10 x11 x12 x13 x14 x15 h0 n0 v U'.heap L ∧ FrameEnd U o U' L ({ frames := 0, cells := 0, slots := 0, locals := 0 } : Room).cells ({ frames := 0, cells := 0, slots := 0, locals := 0 } : Room).slots) := by
  refine MetFree.of_bodySF (plainFor_of_name pn_com_example_urania_urania_layered_KeyHeap) hisR ?_
  intro p e s m args below meth c s₁ Bd hml0 hP hK
  obtain ⟨rfl, hZ, hh⟩ := hP
  have hx := Bd.exec
  have hby := Bd.bytes
  have hml : c.maxLocals = 7 := hml0
  have hown : s.vm.findClass "com/example/urania/urania/layered/KeyHeap" = some m.cls := findClass_of_methodNamed Bd.named
  have hnm := (name_of_methodNamed Bd.named Bd.method).1
  have X0 : Stand p l e ({ frames := 0, cells := 0, slots := 0, locals := 0 } : Room) s m #[(.ref a1)] below meth c s₁ [] 0 0 := Stand.of_body Bd
  have e0 : s₁.heap = h0 := by rw [← hh, Bd.state]; rfl
  have N0 := Fr.nil n0
  have K0 : Keep h0 h0 [a1, a2] := Keep.refl _ _
  refine own_start (Qk := Qrm_poll4 Z a1 a2 x0 x1 x2 x3 x4 x5 x6 x7 x8 x9 x10 x11 x12 x13 x14 x15 h0 n0) (fun G hG => ?_)
  refine own_st (fun _ k => castTop (ef_4_R m a1) k) ?_
  show own_Fin p e below G (s₁.setTop (mkF m 0 #[rv a1, .unset, .unset, .unset, .unset, .unset, .unset] []))
  refine own_st (fun _ k => XS.aloadN X0.here hx rfl (hb hby d4_0) rfl rfl k) ?_
  show own_Fin p e below G (s₁.setTop (mkF m 1 #[rv a1, .unset, .unset, .unset, .unset, .unset, .unset] [(.ref a1)]))
  obtain ⟨T213, X213, e213, st213⟩ := getF X0 hx hZ hown (host := "") (Or.inl (own_w hw 10 rfl)) Via.refl e0 F2 (g := (mkF m 1 #[rv a1, .unset, .unset, .unset, .unset, .unset, .unset] [(.ref a1)])) rfl rfl (hb hby d4_1)
  clear X0 e0
  refine own_st st213 ?_
  clear st213
  show own_Fin p e below G (T213.setTop (mkF m 4 #[rv a1, .unset, .unset, .unset, .unset, .unset, .unset] [(.ref a2)]))
  refine own_st (fun _ k => XS.iconst X213.here hx rfl (hb hby d4_4) k) ?_
  show own_Fin p e below G (T213.setTop (mkF m 5 #[rv a1, .unset, .unset, .unset, .unset, .unset, .unset] [(.int (0 : Int32)), (.ref a2)]))
  refine own_st (fun _ k => own_ldJ X213 hx hZ e213 A2 (j := (0 : Int32)) (n := 16) rfl (by decide) (g := (mkF m 5 #[rv a1, .unset, .unset, .unset, .unset, .unset, .unset] [(.int (0 : Int32)), (.ref a2)])) rfl rfl (hb hby d4_5) k) ?_
  show own_Fin p e below G (T213.setTop (mkF m 6 #[rv a1, .unset, .unset, .unset, .unset, .unset, .unset] [(.long x0)]))
  refine own_st (fun _ k => XS.lstoreN X213.here hx rfl (hb hby d4_6) rfl (l' := #[rv a1, .val (.long x0), .second, .unset, .unset, .unset, .unset]) rfl k) ?_
  show own_Fin p e below G (T213.setTop (mkF m 7 #[rv a1, .val (.long x0), .second, .unset, .unset, .unset, .unset] []))
  refine own_st (fun _ k => XS.aloadN X213.here hx rfl (hb hby d4_7) rfl rfl k) ?_
  show own_Fin p e below G (T213.setTop (mkF m 8 #[rv a1, .val (.long x0), .second, .unset, .unset, .unset, .unset] [(.ref a1)]))
  obtain ⟨T214, X214, e214, st214⟩ := getF X213 hx hZ hown (host := "") (Or.inl (own_w hw 10 rfl)) Via.refl e213 F2 (g := (mkF m 8 #[rv a1, .val (.long x0), .second, .unset, .unset, .unset, .unset] [(.ref a1)])) rfl rfl (hb hby d4_8)
  clear X213 e213
  refine own_st st214 ?_
  clear st214
  show own_Fin p e below G (T214.setTop (mkF m 11 #[rv a1, .val (.long x0), .second, .unset, .unset, .unset, .unset] [(.ref a2)]))
  refine own_st (fun _ k => XS.aloadN X214.here hx rfl (hb hby d4_11) rfl rfl k) ?_
  show own_Fin p e below G (T214.setTop (mkF m 12 #[rv a1, .val (.long x0), .second, .unset, .unset, .unset, .unset] [(.ref a1), (.ref a2)]))
  refine own_st (fun _ k => XS.dup X214.here hx rfl (hb hby d4_12) rfl rfl k) ?_
  show own_Fin p e below G (T214.setTop (mkF m 13 #[rv a1, .val (.long x0), .second, .unset, .unset, .unset, .unset] [(.ref a1), (.ref a1), (.ref a2)]))
  obtain ⟨T215, X215, e215, st215⟩ := getF X214 hx hZ hown (host := "") (Or.inl (own_w hw 17 rfl)) Via.refl e214 F1 (g := (mkF m 13 #[rv a1, .val (.long x0), .second, .unset, .unset, .unset, .unset] [(.ref a1), (.ref a1), (.ref a2)])) rfl rfl (hb hby d4_13)
  clear X214 e214
  refine own_st st215 ?_
  clear st215
  show own_Fin p e below G (T215.setTop (mkF m 16 #[rv a1, .val (.long x0), .second, .unset, .unset, .unset, .unset] [(.int (4 : Int32)), (.ref a1), (.ref a2)]))
  refine own_st (fun _ k => XS.iconst X215.here hx rfl (hb hby d4_16) k) ?_
  show own_Fin p e below G (T215.setTop (mkF m 17 #[rv a1, .val (.long x0), .second, .unset, .unset, .unset, .unset] [(.int (1 : Int32)), (.int (4 : Int32)), (.ref a1), (.ref a2)]))
  refine own_st (fun _ k => XS.isub X215.here hx rfl (hb hby d4_17) rfl k) ?_
  show own_Fin p e below G (T215.setTop (mkF m 18 #[rv a1, .val (.long x0), .second, .unset, .unset, .unset, .unset] [(.int (3 : Int32)), (.ref a1), (.ref a2)]))
  refine own_st (fun _ k => XS.dupX1 X215.here hx rfl (hb hby d4_18) rfl rfl rfl k) ?_
  show own_Fin p e below G (T215.setTop (mkF m 19 #[rv a1, .val (.long x0), .second, .unset, .unset, .unset, .unset] [(.int (3 : Int32)), (.ref a1), (.int (3 : Int32)), (.ref a2)]))
  obtain ⟨T216, h216, X216, e216, W216, st216⟩ := putF X215 hx hZ hown (host := "") (Or.inl (own_w hw 17 rfl)) Via.refl e215 F1 E1 (Or.inl (own_w hw 18 rfl)) (own_w hw 1 rfl) (ty := .int) (by decide) rfl rfl (g := (mkF m 19 #[rv a1, .val (.long x0), .second, .unset, .unset, .unset, .unset] [(.int (3 : Int32)), (.ref a1), (.int (3 : Int32)), (.ref a2)])) rfl rfl (hb hby d4_19)
  clear X215 e215
  have f217_0 := E1.wr W216
  clear E1
  have sl218 := slot_ne (Z := Z) (a0 := a0) (Or.inl (own_w hw 11 rfl)) (Or.inl (own_w hw 18 rfl)) (by decide) (t := (.array .long)) (t' := .int) (by decide) (by decide)
  have f217_2 := F2.other W216 (Or.inr sl218)
  have f217_3 := A2.other W216 (Ne.symm ne12)
  clear A2
  have K219 : Keep h0 h216 [a1, a2] := K0.wr W216 (Or.inl (List.mem_of_getElem? (i := 0) rfl))
  clear K0
  have N220 := Fr.snoc X216 N0 g1
  clear N0
  have Fw216 : Fld Z h216 a1 "com/example/urania/urania/layered/KeyHeap" "count" "I" (.int (3 : Int32)) := F1.same W216
  clear W216
  refine own_st st216 ?_
  clear st216
  show own_Fin p e below G (T216.setTop (mkF m 22 #[rv a1, .val (.long x0), .second, .unset, .unset, .unset, .unset] [(.int (3 : Int32)), (.ref a2)]))
  refine own_st (fun _ k => own_ldJ X216 hx hZ e216 f217_3 (j := (3 : Int32)) (n := 16) rfl (by decide) (g := (mkF m 22 #[rv a1, .val (.long x0), .second, .unset, .unset, .unset, .unset] [(.int (3 : Int32)), (.ref a2)])) rfl rfl (hb hby d4_22) k) ?_
  show own_Fin p e below G (T216.setTop (mkF m 23 #[rv a1, .val (.long x0), .second, .unset, .unset, .unset, .unset] [(.long x3)]))
  refine own_st (fun _ k => XS.lstoreN X216.here hx rfl (hb hby d4_23) rfl (l' := #[rv a1, .val (.long x0), .second, .val (.long x3), .second, .unset, .unset]) rfl k) ?_
  show own_Fin p e below G (T216.setTop (mkF m 24 #[rv a1, .val (.long x0), .second, .val (.long x3), .second, .unset, .unset] []))
  refine own_st (fun _ k => XS.iconst X216.here hx rfl (hb hby d4_24) k) ?_
  show own_Fin p e below G (T216.setTop (mkF m 25 #[rv a1, .val (.long x0), .second, .val (.long x3), .second, .unset, .unset] [(.int (0 : Int32))]))
  refine own_st (fun _ k => XS.istore X216.here hx rfl (hb hby d4_25) rfl (l' := #[rv a1, .val (.long x0), .second, .val (.long x3), .second, iv (0 : Int32), .unset]) rfl k) ?_
  show own_Fin p e below G (T216.setTop (mkF m 27 #[rv a1, .val (.long x0), .second, .val (.long x3), .second, iv (0 : Int32), .unset] []))
  refine own_st (fun _ k => XS.iconst X216.here hx rfl (hb hby d4_27) k) ?_
  show own_Fin p e below G (T216.setTop (mkF m 28 #[rv a1, .val (.long x0), .second, .val (.long x3), .second, iv (0 : Int32), .unset] [(.int (2 : Int32))]))
  refine own_st (fun _ k => XS.iload X216.here hx rfl (hb hby d4_28) rfl  k) ?_
  show own_Fin p e below G (T216.setTop (mkF m 30 #[rv a1, .val (.long x0), .second, .val (.long x3), .second, iv (0 : Int32), .unset] [(.int (0 : Int32)), (.int (2 : Int32))]))
  refine own_st (fun _ k => XS.imul X216.here hx rfl (hb hby d4_30) rfl k) ?_
  show own_Fin p e below G (T216.setTop (mkF m 31 #[rv a1, .val (.long x0), .second, .val (.long x3), .second, iv (0 : Int32), .unset] [(.int (0 : Int32))]))
  refine own_st (fun _ k => XS.iconst X216.here hx rfl (hb hby d4_31) k) ?_
  show own_Fin p e below G (T216.setTop (mkF m 32 #[rv a1, .val (.long x0), .second, .val (.long x3), .second, iv (0 : Int32), .unset] [(.int (1 : Int32)), (.int (0 : Int32))]))
  refine own_st (fun _ k => XS.iadd X216.here hx rfl (hb hby d4_32) rfl k) ?_
  show own_Fin p e below G (T216.setTop (mkF m 33 #[rv a1, .val (.long x0), .second, .val (.long x3), .second, iv (0 : Int32), .unset] [(.int (1 : Int32))]))
  refine own_st (fun _ k => XS.istore X216.here hx rfl (hb hby d4_33) rfl (l' := #[rv a1, .val (.long x0), .second, .val (.long x3), .second, iv (0 : Int32), iv (1 : Int32)]) rfl k) ?_
  show own_Fin p e below G (T216.setTop (mkF m 35 #[rv a1, .val (.long x0), .second, .val (.long x3), .second, iv (0 : Int32), iv (1 : Int32)] []))
  refine own_st (fun _ k => XS.iload X216.here hx rfl (hb hby d4_35) rfl  k) ?_
  show own_Fin p e below G (T216.setTop (mkF m 37 #[rv a1, .val (.long x0), .second, .val (.long x3), .second, iv (0 : Int32), iv (1 : Int32)] [(.int (1 : Int32))]))
  refine own_st (fun _ k => XS.aloadN X216.here hx rfl (hb hby d4_37) rfl rfl k) ?_
  show own_Fin p e below G (T216.setTop (mkF m 38 #[rv a1, .val (.long x0), .second, .val (.long x3), .second, iv (0 : Int32), iv (1 : Int32)] [(.ref a1), (.int (1 : Int32))]))
  obtain ⟨T221, X221, e221, st221⟩ := getF X216 hx hZ hown (host := "") (Or.inl (own_w hw 17 rfl)) Via.refl e216 Fw216 (g := (mkF m 38 #[rv a1, .val (.long x0), .second, .val (.long x3), .second, iv (0 : Int32), iv (1 : Int32)] [(.ref a1), (.int (1 : Int32))])) rfl rfl (hb hby d4_38)
  clear X216 e216
  refine own_st st221 ?_
  clear st221
  show own_Fin p e below G (T221.setTop (mkF m 41 #[rv a1, .val (.long x0), .second, .val (.long x3), .second, iv (0 : Int32), iv (1 : Int32)] [(.int (3 : Int32)), (.int (1 : Int32))]))
  refine own_st (fun _ k => XS.icmpYes X221.here hx rfl (pc0 := 41) (pc' := 47) rfl (hb hby d4_41) rfl (tlt (by decide : ((1 : Int32) < (3 : Int32)))).1 (by decide) (by decide) k) ?_
  show own_Fin p e below G (T221.setTop (mkF m 47 #[rv a1, .val (.long x0), .second, .val (.long x3), .second, iv (0 : Int32), iv (1 : Int32)] []))
  refine own_st (fun _ k => XS.iload X221.here hx rfl (hb hby d4_47) rfl  k) ?_
  show own_Fin p e below G (T221.setTop (mkF m 49 #[rv a1, .val (.long x0), .second, .val (.long x3), .second, iv (0 : Int32), iv (1 : Int32)] [(.int (1 : Int32))]))
  refine own_st (fun _ k => XS.iconst X221.here hx rfl (hb hby d4_49) k) ?_
  show own_Fin p e below G (T221.setTop (mkF m 50 #[rv a1, .val (.long x0), .second, .val (.long x3), .second, iv (0 : Int32), iv (1 : Int32)] [(.int (1 : Int32)), (.int (1 : Int32))]))
  refine own_st (fun _ k => XS.iadd X221.here hx rfl (hb hby d4_50) rfl k) ?_
  show own_Fin p e below G (T221.setTop (mkF m 51 #[rv a1, .val (.long x0), .second, .val (.long x3), .second, iv (0 : Int32), iv (1 : Int32)] [(.int (2 : Int32))]))
  refine own_st (fun _ k => XS.aloadN X221.here hx rfl (hb hby d4_51) rfl rfl k) ?_
  show own_Fin p e below G (T221.setTop (mkF m 52 #[rv a1, .val (.long x0), .second, .val (.long x3), .second, iv (0 : Int32), iv (1 : Int32)] [(.ref a1), (.int (2 : Int32))]))
  obtain ⟨T222, X222, e222, st222⟩ := getF X221 hx hZ hown (host := "") (Or.inl (own_w hw 17 rfl)) Via.refl e221 Fw216 (g := (mkF m 52 #[rv a1, .val (.long x0), .second, .val (.long x3), .second, iv (0 : Int32), iv (1 : Int32)] [(.ref a1), (.int (2 : Int32))])) rfl rfl (hb hby d4_52)
  clear X221 e221
  refine own_st st222 ?_
  clear st222
  show own_Fin p e below G (T222.setTop (mkF m 55 #[rv a1, .val (.long x0), .second, .val (.long x3), .second, iv (0 : Int32), iv (1 : Int32)] [(.int (3 : Int32)), (.int (2 : Int32))]))
  refine own_st (fun _ k => XS.icmpNo X222.here hx rfl (hb hby d4_55) rfl (tlt (by decide : ((2 : Int32) < (3 : Int32)))).2.1 k) ?_
  show own_Fin p e below G (T222.setTop (mkF m 58 #[rv a1, .val (.long x0), .second, .val (.long x3), .second, iv (0 : Int32), iv (1 : Int32)] []))
  refine own_st (fun _ k => XS.aloadN X222.here hx rfl (hb hby d4_58) rfl rfl k) ?_
  show own_Fin p e below G (T222.setTop (mkF m 59 #[rv a1, .val (.long x0), .second, .val (.long x3), .second, iv (0 : Int32), iv (1 : Int32)] [(.ref a1)]))
  obtain ⟨T223, X223, e223, st223⟩ := getF X222 hx hZ hown (host := "") (Or.inl (own_w hw 10 rfl)) Via.refl e222 f217_2 (g := (mkF m 59 #[rv a1, .val (.long x0), .second, .val (.long x3), .second, iv (0 : Int32), iv (1 : Int32)] [(.ref a1)])) rfl rfl (hb hby d4_59)
  clear X222 e222
  refine own_st st223 ?_
  clear st223
  show own_Fin p e below G (T223.setTop (mkF m 62 #[rv a1, .val (.long x0), .second, .val (.long x3), .second, iv (0 : Int32), iv (1 : Int32)] [(.ref a2)]))
  refine own_st (fun _ k => XS.iload X223.here hx rfl (hb hby d4_62) rfl  k) ?_
  show own_Fin p e below G (T223.setTop (mkF m 64 #[rv a1, .val (.long x0), .second, .val (.long x3), .second, iv (0 : Int32), iv (1 : Int32)] [(.int (1 : Int32)), (.ref a2)]))
  refine own_st (fun _ k => XS.iconst X223.here hx rfl (hb hby d4_64) k) ?_
  show own_Fin p e below G (T223.setTop (mkF m 65 #[rv a1, .val (.long x0), .second, .val (.long x3), .second, iv (0 : Int32), iv (1 : Int32)] [(.int (1 : Int32)), (.int (1 : Int32)), (.ref a2)]))
  refine own_st (fun _ k => XS.iadd X223.here hx rfl (hb hby d4_65) rfl k) ?_
  show own_Fin p e below G (T223.setTop (mkF m 66 #[rv a1, .val (.long x0), .second, .val (.long x3), .second, iv (0 : Int32), iv (1 : Int32)] [(.int (2 : Int32)), (.ref a2)]))
  refine own_st (fun _ k => own_ldJ X223 hx hZ e223 f217_3 (j := (2 : Int32)) (n := 16) rfl (by decide) (g := (mkF m 66 #[rv a1, .val (.long x0), .second, .val (.long x3), .second, iv (0 : Int32), iv (1 : Int32)] [(.int (2 : Int32)), (.ref a2)])) rfl rfl (hb hby d4_66) k) ?_
  show own_Fin p e below G (T223.setTop (mkF m 67 #[rv a1, .val (.long x0), .second, .val (.long x3), .second, iv (0 : Int32), iv (1 : Int32)] [(.long x2)]))
  refine own_st (fun _ k => XS.aloadN X223.here hx rfl (hb hby d4_67) rfl rfl k) ?_
  show own_Fin p e below G (T223.setTop (mkF m 68 #[rv a1, .val (.long x0), .second, .val (.long x3), .second, iv (0 : Int32), iv (1 : Int32)] [(.ref a1), (.long x2)]))
  obtain ⟨T224, X224, e224, st224⟩ := getF X223 hx hZ hown (host := "") (Or.inl (own_w hw 10 rfl)) Via.refl e223 f217_2 (g := (mkF m 68 #[rv a1, .val (.long x0), .second, .val (.long x3), .second, iv (0 : Int32), iv (1 : Int32)] [(.ref a1), (.long x2)])) rfl rfl (hb hby d4_68)
  clear X223 e223
  refine own_st st224 ?_
  clear st224
  show own_Fin p e below G (T224.setTop (mkF m 71 #[rv a1, .val (.long x0), .second, .val (.long x3), .second, iv (0 : Int32), iv (1 : Int32)] [(.ref a2), (.long x2)]))
  refine own_st (fun _ k => XS.iload X224.here hx rfl (hb hby d4_71) rfl  k) ?_
  show own_Fin p e below G (T224.setTop (mkF m 73 #[rv a1, .val (.long x0), .second, .val (.long x3), .second, iv (0 : Int32), iv (1 : Int32)] [(.int (1 : Int32)), (.ref a2), (.long x2)]))
  refine own_st (fun _ k => own_ldJ X224 hx hZ e224 f217_3 (j := (1 : Int32)) (n := 16) rfl (by decide) (g := (mkF m 73 #[rv a1, .val (.long x0), .second, .val (.long x3), .second, iv (0 : Int32), iv (1 : Int32)] [(.int (1 : Int32)), (.ref a2), (.long x2)])) rfl rfl (hb hby d4_73) k) ?_
  show own_Fin p e below G (T224.setTop (mkF m 74 #[rv a1, .val (.long x0), .second, .val (.long x3), .second, iv (0 : Int32), iv (1 : Int32)] [(.long x1), (.long x2)]))
  refine own_st (fun _ k => XS.lcmp X224.here hx rfl (hb hby d4_74) rfl k) ?_
  show own_Fin p e below G (T224.setTop (mkF m 75 #[rv a1, .val (.long x0), .second, .val (.long x3), .second, iv (0 : Int32), iv (1 : Int32)] [(.int (lcmpW x2 x1))]))
  by_cases hc75_225 : (lcmpW x2 x1) < (0 : Int32)
  · refine own_st (fun _ k => XS.ifNo X224.here hx rfl (hb hby d4_75) rfl ((if0 _ _).trans (tlt hc75_225).2.1) k) ?_
    show own_Fin p e below G (T224.setTop (mkF m 78 #[rv a1, .val (.long x0), .second, .val (.long x3), .second, iv (0 : Int32), iv (1 : Int32)] []))
    refine own_st (fun _ k => XS.iinc X224.here hx rfl (hb hby d4_78) rfl (l' := #[rv a1, .val (.long x0), .second, .val (.long x3), .second, iv (0 : Int32), iv (2 : Int32)]) rfl k) ?_
    show own_Fin p e below G (T224.setTop (mkF m 81 #[rv a1, .val (.long x0), .second, .val (.long x3), .second, iv (0 : Int32), iv (2 : Int32)] []))
    refine own_st (fun _ k => XS.lloadN X224.here hx rfl (hb hby d4_81) rfl  k) ?_
    show own_Fin p e below G (T224.setTop (mkF m 82 #[rv a1, .val (.long x0), .second, .val (.long x3), .second, iv (0 : Int32), iv (2 : Int32)] [(.long x3)]))
    refine own_st (fun _ k => XS.aloadN X224.here hx rfl (hb hby d4_82) rfl rfl k) ?_
    show own_Fin p e below G (T224.setTop (mkF m 83 #[rv a1, .val (.long x0), .second, .val (.long x3), .second, iv (0 : Int32), iv (2 : Int32)] [(.ref a1), (.long x3)]))
    obtain ⟨T226, X226, e226, st226⟩ := getF X224 hx hZ hown (host := "") (Or.inl (own_w hw 10 rfl)) Via.refl e224 f217_2 (g := (mkF m 83 #[rv a1, .val (.long x0), .second, .val (.long x3), .second, iv (0 : Int32), iv (2 : Int32)] [(.ref a1), (.long x3)])) rfl rfl (hb hby d4_83)
    refine own_st st226 ?_
    clear st226
    show own_Fin p e below G (T226.setTop (mkF m 86 #[rv a1, .val (.long x0), .second, .val (.long x3), .second, iv (0 : Int32), iv (2 : Int32)] [(.ref a2), (.long x3)]))
    refine own_st (fun _ k => XS.iload X226.here hx rfl (hb hby d4_86) rfl  k) ?_
    show own_Fin p e below G (T226.setTop (mkF m 88 #[rv a1, .val (.long x0), .second, .val (.long x3), .second, iv (0 : Int32), iv (2 : Int32)] [(.int (2 : Int32)), (.ref a2), (.long x3)]))
    refine own_st (fun _ k => own_ldJ X226 hx hZ e226 f217_3 (j := (2 : Int32)) (n := 16) rfl (by decide) (g := (mkF m 88 #[rv a1, .val (.long x0), .second, .val (.long x3), .second, iv (0 : Int32), iv (2 : Int32)] [(.int (2 : Int32)), (.ref a2), (.long x3)])) rfl rfl (hb hby d4_88) k) ?_
    show own_Fin p e below G (T226.setTop (mkF m 89 #[rv a1, .val (.long x0), .second, .val (.long x3), .second, iv (0 : Int32), iv (2 : Int32)] [(.long x2), (.long x3)]))
    refine own_st (fun _ k => XS.lcmp X226.here hx rfl (hb hby d4_89) rfl k) ?_
    show own_Fin p e below G (T226.setTop (mkF m 90 #[rv a1, .val (.long x0), .second, .val (.long x3), .second, iv (0 : Int32), iv (2 : Int32)] [(.int (lcmpW x3 x2))]))
    by_cases hc90_227 : (0 : Int32) < (lcmpW x3 x2)
    · refine own_st (fun _ k => XS.ifYes X226.here hx rfl (pc0 := 90) (pc' := 96) rfl (hb hby d4_90) rfl ((if0 _ _).trans (tlt hc90_227).2.2.1) (by decide) (by decide) k) ?_
      show own_Fin p e below G (T226.setTop (mkF m 96 #[rv a1, .val (.long x0), .second, .val (.long x3), .second, iv (0 : Int32), iv (2 : Int32)] []))
      refine own_st (fun _ k => XS.aloadN X226.here hx rfl (hb hby d4_96) rfl rfl k) ?_
      show own_Fin p e below G (T226.setTop (mkF m 97 #[rv a1, .val (.long x0), .second, .val (.long x3), .second, iv (0 : Int32), iv (2 : Int32)] [(.ref a1)]))
      obtain ⟨T228, X228, e228, st228⟩ := getF X226 hx hZ hown (host := "") (Or.inl (own_w hw 10 rfl)) Via.refl e226 f217_2 (g := (mkF m 97 #[rv a1, .val (.long x0), .second, .val (.long x3), .second, iv (0 : Int32), iv (2 : Int32)] [(.ref a1)])) rfl rfl (hb hby d4_97)
      refine own_st st228 ?_
      clear st228
      show own_Fin p e below G (T228.setTop (mkF m 100 #[rv a1, .val (.long x0), .second, .val (.long x3), .second, iv (0 : Int32), iv (2 : Int32)] [(.ref a2)]))
      refine own_st (fun _ k => XS.iload X228.here hx rfl (hb hby d4_100) rfl  k) ?_
      show own_Fin p e below G (T228.setTop (mkF m 102 #[rv a1, .val (.long x0), .second, .val (.long x3), .second, iv (0 : Int32), iv (2 : Int32)] [(.int (0 : Int32)), (.ref a2)]))
      refine own_st (fun _ k => XS.aloadN X228.here hx rfl (hb hby d4_102) rfl rfl k) ?_
      show own_Fin p e below G (T228.setTop (mkF m 103 #[rv a1, .val (.long x0), .second, .val (.long x3), .second, iv (0 : Int32), iv (2 : Int32)] [(.ref a1), (.int (0 : Int32)), (.ref a2)]))
      obtain ⟨T229, X229, e229, st229⟩ := getF X228 hx hZ hown (host := "") (Or.inl (own_w hw 10 rfl)) Via.refl e228 f217_2 (g := (mkF m 103 #[rv a1, .val (.long x0), .second, .val (.long x3), .second, iv (0 : Int32), iv (2 : Int32)] [(.ref a1), (.int (0 : Int32)), (.ref a2)])) rfl rfl (hb hby d4_103)
      clear X228 e228
      refine own_st st229 ?_
      clear st229
      show own_Fin p e below G (T229.setTop (mkF m 106 #[rv a1, .val (.long x0), .second, .val (.long x3), .second, iv (0 : Int32), iv (2 : Int32)] [(.ref a2), (.int (0 : Int32)), (.ref a2)]))
      refine own_st (fun _ k => XS.iload X229.here hx rfl (hb hby d4_106) rfl  k) ?_
      show own_Fin p e below G (T229.setTop (mkF m 108 #[rv a1, .val (.long x0), .second, .val (.long x3), .second, iv (0 : Int32), iv (2 : Int32)] [(.int (2 : Int32)), (.ref a2), (.int (0 : Int32)), (.ref a2)]))
      refine own_st (fun _ k => own_ldJ X229 hx hZ e229 f217_3 (j := (2 : Int32)) (n := 16) rfl (by decide) (g := (mkF m 108 #[rv a1, .val (.long x0), .second, .val (.long x3), .second, iv (0 : Int32), iv (2 : Int32)] [(.int (2 : Int32)), (.ref a2), (.int (0 : Int32)), (.ref a2)])) rfl rfl (hb hby d4_108) k) ?_
      show own_Fin p e below G (T229.setTop (mkF m 109 #[rv a1, .val (.long x0), .second, .val (.long x3), .second, iv (0 : Int32), iv (2 : Int32)] [(.long x2), (.int (0 : Int32)), (.ref a2)]))
      obtain ⟨T230, h230, X230, e230, W230, V230, st230⟩ := own_stJ X229 hx hZ e229 f217_3 (j := (0 : Int32)) (n := 16) rfl (by decide) (g := (mkF m 109 #[rv a1, .val (.long x0), .second, .val (.long x3), .second, iv (0 : Int32), iv (2 : Int32)] [(.long x2), (.int (0 : Int32)), (.ref a2)])) rfl rfl (hb hby d4_109)
      clear X229 e229
      have f231_0 := f217_0.wr W230
      have f231_1 := Fw216.other W230 (Or.inl ne12)
      have f231_2 := f217_2.other W230 (Or.inl ne12)
      have K232 : Keep h0 h230 [a1, a2] := K219.wr W230 (Or.inl (List.mem_of_getElem? (i := 1) rfl))
      clear W230
      have N233 := Fr.snoc X230 N220 g2
      replace V230 : own_AV Z h230 a2 .long (own_js [x2, x1, x2, x3, x4, x5, x6, x7, x8, x9, x10, x11, x12, x13, x14, x15]) := V230
      refine own_st st230 ?_
      clear st230
      show own_Fin p e below G (T230.setTop (mkF m 110 #[rv a1, .val (.long x0), .second, .val (.long x3), .second, iv (0 : Int32), iv (2 : Int32)] []))
      refine own_st (fun _ k => XS.iload X230.here hx rfl (hb hby d4_110) rfl  k) ?_
      show own_Fin p e below G (T230.setTop (mkF m 112 #[rv a1, .val (.long x0), .second, .val (.long x3), .second, iv (0 : Int32), iv (2 : Int32)] [(.int (2 : Int32))]))
      refine own_st (fun _ k => XS.istore X230.here hx rfl (hb hby d4_112) rfl (l' := #[rv a1, .val (.long x0), .second, .val (.long x3), .second, iv (2 : Int32), iv (2 : Int32)]) rfl k) ?_
      show own_Fin p e below G (T230.setTop (mkF m 114 #[rv a1, .val (.long x0), .second, .val (.long x3), .second, iv (2 : Int32), iv (2 : Int32)] []))
      refine own_st (fun _ k => XS.goto X230.here hx rfl (pc0 := 114) (pc' := 27) rfl (hb hby d4_114) (by decide) (by decide) k) ?_
      show own_Fin p e below G (T230.setTop (mkF m 27 #[rv a1, .val (.long x0), .second, .val (.long x3), .second, iv (2 : Int32), iv (2 : Int32)] []))
      refine own_st (fun _ k => XS.iconst X230.here hx rfl (hb hby d4_27) k) ?_
      show own_Fin p e below G (T230.setTop (mkF m 28 #[rv a1, .val (.long x0), .second, .val (.long x3), .second, iv (2 : Int32), iv (2 : Int32)] [(.int (2 : Int32))]))
      refine own_st (fun _ k => XS.iload X230.here hx rfl (hb hby d4_28) rfl  k) ?_
      show own_Fin p e below G (T230.setTop (mkF m 30 #[rv a1, .val (.long x0), .second, .val (.long x3), .second, iv (2 : Int32), iv (2 : Int32)] [(.int (2 : Int32)), (.int (2 : Int32))]))
      refine own_st (fun _ k => XS.imul X230.here hx rfl (hb hby d4_30) rfl k) ?_
      show own_Fin p e below G (T230.setTop (mkF m 31 #[rv a1, .val (.long x0), .second, .val (.long x3), .second, iv (2 : Int32), iv (2 : Int32)] [(.int (4 : Int32))]))
      refine own_st (fun _ k => XS.iconst X230.here hx rfl (hb hby d4_31) k) ?_
      show own_Fin p e below G (T230.setTop (mkF m 32 #[rv a1, .val (.long x0), .second, .val (.long x3), .second, iv (2 : Int32), iv (2 : Int32)] [(.int (1 : Int32)), (.int (4 : Int32))]))
      refine own_st (fun _ k => XS.iadd X230.here hx rfl (hb hby d4_32) rfl k) ?_
      show own_Fin p e below G (T230.setTop (mkF m 33 #[rv a1, .val (.long x0), .second, .val (.long x3), .second, iv (2 : Int32), iv (2 : Int32)] [(.int (5 : Int32))]))
      refine own_st (fun _ k => XS.istore X230.here hx rfl (hb hby d4_33) rfl (l' := #[rv a1, .val (.long x0), .second, .val (.long x3), .second, iv (2 : Int32), iv (5 : Int32)]) rfl k) ?_
      show own_Fin p e below G (T230.setTop (mkF m 35 #[rv a1, .val (.long x0), .second, .val (.long x3), .second, iv (2 : Int32), iv (5 : Int32)] []))
      refine own_st (fun _ k => XS.iload X230.here hx rfl (hb hby d4_35) rfl  k) ?_
      show own_Fin p e below G (T230.setTop (mkF m 37 #[rv a1, .val (.long x0), .second, .val (.long x3), .second, iv (2 : Int32), iv (5 : Int32)] [(.int (5 : Int32))]))
      refine own_st (fun _ k => XS.aloadN X230.here hx rfl (hb hby d4_37) rfl rfl k) ?_
      show own_Fin p e below G (T230.setTop (mkF m 38 #[rv a1, .val (.long x0), .second, .val (.long x3), .second, iv (2 : Int32), iv (5 : Int32)] [(.ref a1), (.int (5 : Int32))]))
      obtain ⟨T234, X234, e234, st234⟩ := getF X230 hx hZ hown (host := "") (Or.inl (own_w hw 17 rfl)) Via.refl e230 f231_1 (g := (mkF m 38 #[rv a1, .val (.long x0), .second, .val (.long x3), .second, iv (2 : Int32), iv (5 : Int32)] [(.ref a1), (.int (5 : Int32))])) rfl rfl (hb hby d4_38)
      clear X230 e230
      refine own_st st234 ?_
      clear st234
      show own_Fin p e below G (T234.setTop (mkF m 41 #[rv a1, .val (.long x0), .second, .val (.long x3), .second, iv (2 : Int32), iv (5 : Int32)] [(.int (3 : Int32)), (.int (5 : Int32))]))
      refine own_st (fun _ k => XS.icmpNo X234.here hx rfl (hb hby d4_41) rfl (flt (by decide : ¬ ((5 : Int32) < (3 : Int32)))).1 k) ?_
      show own_Fin p e below G (T234.setTop (mkF m 44 #[rv a1, .val (.long x0), .second, .val (.long x3), .second, iv (2 : Int32), iv (5 : Int32)] []))
      refine own_st (fun _ k => XS.goto X234.here hx rfl (pc0 := 44) (pc' := 117) rfl (hb hby d4_44) (by decide) (by decide) k) ?_
      show own_Fin p e below G (T234.setTop (mkF m 117 #[rv a1, .val (.long x0), .second, .val (.long x3), .second, iv (2 : Int32), iv (5 : Int32)] []))
      refine own_st (fun _ k => XS.aloadN X234.here hx rfl (hb hby d4_117) rfl rfl k) ?_
      show own_Fin p e below G (T234.setTop (mkF m 118 #[rv a1, .val (.long x0), .second, .val (.long x3), .second, iv (2 : Int32), iv (5 : Int32)] [(.ref a1)]))
      obtain ⟨T235, X235, e235, st235⟩ := getF X234 hx hZ hown (host := "") (Or.inl (own_w hw 10 rfl)) Via.refl e234 f231_2 (g := (mkF m 118 #[rv a1, .val (.long x0), .second, .val (.long x3), .second, iv (2 : Int32), iv (5 : Int32)] [(.ref a1)])) rfl rfl (hb hby d4_118)
      clear X234 e234
      refine own_st st235 ?_
      clear st235
      show own_Fin p e below G (T235.setTop (mkF m 121 #[rv a1, .val (.long x0), .second, .val (.long x3), .second, iv (2 : Int32), iv (5 : Int32)] [(.ref a2)]))
      refine own_st (fun _ k => XS.iload X235.here hx rfl (hb hby d4_121) rfl  k) ?_
      show own_Fin p e below G (T235.setTop (mkF m 123 #[rv a1, .val (.long x0), .second, .val (.long x3), .second, iv (2 : Int32), iv (5 : Int32)] [(.int (2 : Int32)), (.ref a2)]))
      refine own_st (fun _ k => XS.lloadN X235.here hx rfl (hb hby d4_123) rfl  k) ?_
      show own_Fin p e below G (T235.setTop (mkF m 124 #[rv a1, .val (.long x0), .second, .val (.long x3), .second, iv (2 : Int32), iv (5 : Int32)] [(.long x3), (.int (2 : Int32)), (.ref a2)]))
      obtain ⟨T236, h236, X236, e236, W236, V236, st236⟩ := own_stJ X235 hx hZ e235 V230 (j := (2 : Int32)) (n := 16) rfl (by decide) (g := (mkF m 124 #[rv a1, .val (.long x0), .second, .val (.long x3), .second, iv (2 : Int32), iv (5 : Int32)] [(.long x3), (.int (2 : Int32)), (.ref a2)])) rfl rfl (hb hby d4_124)
      clear V230 X235 e235
      have f237_0 := f231_0.wr W236
      clear f231_0 f237_0
      have f237_1 := f231_1.other W236 (Or.inl ne12)
      clear f231_1
      have f237_2 := f231_2.other W236 (Or.inl ne12)
      clear f231_2
      have K238 : Keep h0 h236 [a1, a2] := K232.wr W236 (Or.inl (List.mem_of_getElem? (i := 1) rfl))
      clear K232 W236
      have N239 := Fr.snoc X236 N233 g2
      clear N233
      replace V236 : own_AV Z h236 a2 .long (own_js [x2, x1, x3, x3, x4, x5, x6, x7, x8, x9, x10, x11, x12, x13, x14, x15]) := V236
      refine own_st st236 ?_
      clear st236
      show own_Fin p e below G (T236.setTop (mkF m 125 #[rv a1, .val (.long x0), .second, .val (.long x3), .second, iv (2 : Int32), iv (5 : Int32)] []))
      refine own_st (fun _ k => XS.lloadN X236.here hx rfl (hb hby d4_125) rfl  k) ?_
      show own_Fin p e below G (T236.setTop (mkF m 126 #[rv a1, .val (.long x0), .second, .val (.long x3), .second, iv (2 : Int32), iv (5 : Int32)] [(.long x0)]))
      refine own_out X236 Bd.notSynchronized (v := (some (.long x0))) (fun h => by rw [Bd.returns] at h; cases h) hG (fun fs hr => retOut X236 hx Bd.returns rfl (Or.inr (Or.inl ⟨rfl, rfl, _, rfl⟩)) (hb hby d4_126) hr) (by decide) (by decide) ?_
      have o_hc75_225 : x2.toInt < x1.toInt := own_lt0.mp hc75_225
      have o_hc90_227 : x2.toInt < x3.toInt := own_gt.mp hc90_227
      refine ⟨rfl, N239, e236.symm ▸ K238, e236.symm ▸ f237_1, e236.symm ▸ f237_2, x2, x1, x3, e236.symm ▸ V236, ?_, fun t => ?_⟩
      · omega
      · omega
    · refine own_st (fun _ k => XS.ifNo X226.here hx rfl (hb hby d4_90) rfl ((if0 _ _).trans (flt hc90_227).2.2.1) k) ?_
      show own_Fin p e below G (T226.setTop (mkF m 93 #[rv a1, .val (.long x0), .second, .val (.long x3), .second, iv (0 : Int32), iv (2 : Int32)] []))
      refine own_st (fun _ k => XS.goto X226.here hx rfl (pc0 := 93) (pc' := 117) rfl (hb hby d4_93) (by decide) (by decide) k) ?_
      show own_Fin p e below G (T226.setTop (mkF m 117 #[rv a1, .val (.long x0), .second, .val (.long x3), .second, iv (0 : Int32), iv (2 : Int32)] []))
      refine own_st (fun _ k => XS.aloadN X226.here hx rfl (hb hby d4_117) rfl rfl k) ?_
      show own_Fin p e below G (T226.setTop (mkF m 118 #[rv a1, .val (.long x0), .second, .val (.long x3), .second, iv (0 : Int32), iv (2 : Int32)] [(.ref a1)]))
      obtain ⟨T240, X240, e240, st240⟩ := getF X226 hx hZ hown (host := "") (Or.inl (own_w hw 10 rfl)) Via.refl e226 f217_2 (g := (mkF m 118 #[rv a1, .val (.long x0), .second, .val (.long x3), .second, iv (0 : Int32), iv (2 : Int32)] [(.ref a1)])) rfl rfl (hb hby d4_118)
      clear X226 e226
      refine own_st st240 ?_
      clear st240
      show own_Fin p e below G (T240.setTop (mkF m 121 #[rv a1, .val (.long x0), .second, .val (.long x3), .second, iv (0 : Int32), iv (2 : Int32)] [(.ref a2)]))
      refine own_st (fun _ k => XS.iload X240.here hx rfl (hb hby d4_121) rfl  k) ?_
      show own_Fin p e below G (T240.setTop (mkF m 123 #[rv a1, .val (.long x0), .second, .val (.long x3), .second, iv (0 : Int32), iv (2 : Int32)] [(.int (0 : Int32)), (.ref a2)]))
      refine own_st (fun _ k => XS.lloadN X240.here hx rfl (hb hby d4_123) rfl  k) ?_
      show own_Fin p e below G (T240.setTop (mkF m 124 #[rv a1, .val (.long x0), .second, .val (.long x3), .second, iv (0 : Int32), iv (2 : Int32)] [(.long x3), (.int (0 : Int32)), (.ref a2)]))
      obtain ⟨T241, h241, X241, e241, W241, V241, st241⟩ := own_stJ X240 hx hZ e240 f217_3 (j := (0 : Int32)) (n := 16) rfl (by decide) (g := (mkF m 124 #[rv a1, .val (.long x0), .second, .val (.long x3), .second, iv (0 : Int32), iv (2 : Int32)] [(.long x3), (.int (0 : Int32)), (.ref a2)])) rfl rfl (hb hby d4_124)
      clear X240 e240
      have f242_0 := f217_0.wr W241
      clear f242_0
      have f242_1 := Fw216.other W241 (Or.inl ne12)
      have f242_2 := f217_2.other W241 (Or.inl ne12)
      have K243 : Keep h0 h241 [a1, a2] := K219.wr W241 (Or.inl (List.mem_of_getElem? (i := 1) rfl))
      clear W241
      have N244 := Fr.snoc X241 N220 g2
      replace V241 : own_AV Z h241 a2 .long (own_js [x3, x1, x2, x3, x4, x5, x6, x7, x8, x9, x10, x11, x12, x13, x14, x15]) := V241
      refine own_st st241 ?_
      clear st241
      show own_Fin p e below G (T241.setTop (mkF m 125 #[rv a1, .val (.long x0), .second, .val (.long x3), .second, iv (0 : Int32), iv (2 : Int32)] []))
      refine own_st (fun _ k => XS.lloadN X241.here hx rfl (hb hby d4_125) rfl  k) ?_
      show own_Fin p e below G (T241.setTop (mkF m 126 #[rv a1, .val (.long x0), .second, .val (.long x3), .second, iv (0 : Int32), iv (2 : Int32)] [(.long x0)]))
      refine own_out X241 Bd.notSynchronized (v := (some (.long x0))) (fun h => by rw [Bd.returns] at h; cases h) hG (fun fs hr => retOut X241 hx Bd.returns rfl (Or.inr (Or.inl ⟨rfl, rfl, _, rfl⟩)) (hb hby d4_126) hr) (by decide) (by decide) ?_
      have o_hc75_225 : x2.toInt < x1.toInt := own_lt0.mp hc75_225
      have o_hc90_227 : ¬ x2.toInt < x3.toInt := fun q => hc90_227 (own_gt.mpr q)
      refine ⟨rfl, N244, e241.symm ▸ K243, e241.symm ▸ f242_1, e241.symm ▸ f242_2, x3, x1, x2, e241.symm ▸ V241, ?_, fun t => ?_⟩
      · omega
      · omega
  · refine own_st (fun _ k => XS.ifYes X224.here hx rfl (pc0 := 75) (pc' := 81) rfl (hb hby d4_75) rfl ((if0 _ _).trans (flt hc75_225).2.1) (by decide) (by decide) k) ?_
    show own_Fin p e below G (T224.setTop (mkF m 81 #[rv a1, .val (.long x0), .second, .val (.long x3), .second, iv (0 : Int32), iv (1 : Int32)] []))
    refine own_st (fun _ k => XS.lloadN X224.here hx rfl (hb hby d4_81) rfl  k) ?_
    show own_Fin p e below G (T224.setTop (mkF m 82 #[rv a1, .val (.long x0), .second, .val (.long x3), .second, iv (0 : Int32), iv (1 : Int32)] [(.long x3)]))
    refine own_st (fun _ k => XS.aloadN X224.here hx rfl (hb hby d4_82) rfl rfl k) ?_
    show own_Fin p e below G (T224.setTop (mkF m 83 #[rv a1, .val (.long x0), .second, .val (.long x3), .second, iv (0 : Int32), iv (1 : Int32)] [(.ref a1), (.long x3)]))
    obtain ⟨T245, X245, e245, st245⟩ := getF X224 hx hZ hown (host := "") (Or.inl (own_w hw 10 rfl)) Via.refl e224 f217_2 (g := (mkF m 83 #[rv a1, .val (.long x0), .second, .val (.long x3), .second, iv (0 : Int32), iv (1 : Int32)] [(.ref a1), (.long x3)])) rfl rfl (hb hby d4_83)
    clear X224 e224
    refine own_st st245 ?_
    clear st245
    show own_Fin p e below G (T245.setTop (mkF m 86 #[rv a1, .val (.long x0), .second, .val (.long x3), .second, iv (0 : Int32), iv (1 : Int32)] [(.ref a2), (.long x3)]))
    refine own_st (fun _ k => XS.iload X245.here hx rfl (hb hby d4_86) rfl  k) ?_
    show own_Fin p e below G (T245.setTop (mkF m 88 #[rv a1, .val (.long x0), .second, .val (.long x3), .second, iv (0 : Int32), iv (1 : Int32)] [(.int (1 : Int32)), (.ref a2), (.long x3)]))
    refine own_st (fun _ k => own_ldJ X245 hx hZ e245 f217_3 (j := (1 : Int32)) (n := 16) rfl (by decide) (g := (mkF m 88 #[rv a1, .val (.long x0), .second, .val (.long x3), .second, iv (0 : Int32), iv (1 : Int32)] [(.int (1 : Int32)), (.ref a2), (.long x3)])) rfl rfl (hb hby d4_88) k) ?_
    show own_Fin p e below G (T245.setTop (mkF m 89 #[rv a1, .val (.long x0), .second, .val (.long x3), .second, iv (0 : Int32), iv (1 : Int32)] [(.long x1), (.long x3)]))
    refine own_st (fun _ k => XS.lcmp X245.here hx rfl (hb hby d4_89) rfl k) ?_
    show own_Fin p e below G (T245.setTop (mkF m 90 #[rv a1, .val (.long x0), .second, .val (.long x3), .second, iv (0 : Int32), iv (1 : Int32)] [(.int (lcmpW x3 x1))]))
    by_cases hc90_246 : (0 : Int32) < (lcmpW x3 x1)
    · refine own_st (fun _ k => XS.ifYes X245.here hx rfl (pc0 := 90) (pc' := 96) rfl (hb hby d4_90) rfl ((if0 _ _).trans (tlt hc90_246).2.2.1) (by decide) (by decide) k) ?_
      show own_Fin p e below G (T245.setTop (mkF m 96 #[rv a1, .val (.long x0), .second, .val (.long x3), .second, iv (0 : Int32), iv (1 : Int32)] []))
      refine own_st (fun _ k => XS.aloadN X245.here hx rfl (hb hby d4_96) rfl rfl k) ?_
      show own_Fin p e below G (T245.setTop (mkF m 97 #[rv a1, .val (.long x0), .second, .val (.long x3), .second, iv (0 : Int32), iv (1 : Int32)] [(.ref a1)]))
      obtain ⟨T247, X247, e247, st247⟩ := getF X245 hx hZ hown (host := "") (Or.inl (own_w hw 10 rfl)) Via.refl e245 f217_2 (g := (mkF m 97 #[rv a1, .val (.long x0), .second, .val (.long x3), .second, iv (0 : Int32), iv (1 : Int32)] [(.ref a1)])) rfl rfl (hb hby d4_97)
      refine own_st st247 ?_
      clear st247
      show own_Fin p e below G (T247.setTop (mkF m 100 #[rv a1, .val (.long x0), .second, .val (.long x3), .second, iv (0 : Int32), iv (1 : Int32)] [(.ref a2)]))
      refine own_st (fun _ k => XS.iload X247.here hx rfl (hb hby d4_100) rfl  k) ?_
      show own_Fin p e below G (T247.setTop (mkF m 102 #[rv a1, .val (.long x0), .second, .val (.long x3), .second, iv (0 : Int32), iv (1 : Int32)] [(.int (0 : Int32)), (.ref a2)]))
      refine own_st (fun _ k => XS.aloadN X247.here hx rfl (hb hby d4_102) rfl rfl k) ?_
      show own_Fin p e below G (T247.setTop (mkF m 103 #[rv a1, .val (.long x0), .second, .val (.long x3), .second, iv (0 : Int32), iv (1 : Int32)] [(.ref a1), (.int (0 : Int32)), (.ref a2)]))
      obtain ⟨T248, X248, e248, st248⟩ := getF X247 hx hZ hown (host := "") (Or.inl (own_w hw 10 rfl)) Via.refl e247 f217_2 (g := (mkF m 103 #[rv a1, .val (.long x0), .second, .val (.long x3), .second, iv (0 : Int32), iv (1 : Int32)] [(.ref a1), (.int (0 : Int32)), (.ref a2)])) rfl rfl (hb hby d4_103)
      clear X247 e247
      refine own_st st248 ?_
      clear st248
      show own_Fin p e below G (T248.setTop (mkF m 106 #[rv a1, .val (.long x0), .second, .val (.long x3), .second, iv (0 : Int32), iv (1 : Int32)] [(.ref a2), (.int (0 : Int32)), (.ref a2)]))
      refine own_st (fun _ k => XS.iload X248.here hx rfl (hb hby d4_106) rfl  k) ?_
      show own_Fin p e below G (T248.setTop (mkF m 108 #[rv a1, .val (.long x0), .second, .val (.long x3), .second, iv (0 : Int32), iv (1 : Int32)] [(.int (1 : Int32)), (.ref a2), (.int (0 : Int32)), (.ref a2)]))
      refine own_st (fun _ k => own_ldJ X248 hx hZ e248 f217_3 (j := (1 : Int32)) (n := 16) rfl (by decide) (g := (mkF m 108 #[rv a1, .val (.long x0), .second, .val (.long x3), .second, iv (0 : Int32), iv (1 : Int32)] [(.int (1 : Int32)), (.ref a2), (.int (0 : Int32)), (.ref a2)])) rfl rfl (hb hby d4_108) k) ?_
      show own_Fin p e below G (T248.setTop (mkF m 109 #[rv a1, .val (.long x0), .second, .val (.long x3), .second, iv (0 : Int32), iv (1 : Int32)] [(.long x1), (.int (0 : Int32)), (.ref a2)]))
      obtain ⟨T249, h249, X249, e249, W249, V249, st249⟩ := own_stJ X248 hx hZ e248 f217_3 (j := (0 : Int32)) (n := 16) rfl (by decide) (g := (mkF m 109 #[rv a1, .val (.long x0), .second, .val (.long x3), .second, iv (0 : Int32), iv (1 : Int32)] [(.long x1), (.int (0 : Int32)), (.ref a2)])) rfl rfl (hb hby d4_109)
      clear X248 e248
      have f250_0 := f217_0.wr W249
      have f250_1 := Fw216.other W249 (Or.inl ne12)
      have f250_2 := f217_2.other W249 (Or.inl ne12)
      have K251 : Keep h0 h249 [a1, a2] := K219.wr W249 (Or.inl (List.mem_of_getElem? (i := 1) rfl))
      clear W249
      have N252 := Fr.snoc X249 N220 g2
      replace V249 : own_AV Z h249 a2 .long (own_js [x1, x1, x2, x3, x4, x5, x6, x7, x8, x9, x10, x11, x12, x13, x14, x15]) := V249
      refine own_st st249 ?_
      clear st249
      show own_Fin p e below G (T249.setTop (mkF m 110 #[rv a1, .val (.long x0), .second, .val (.long x3), .second, iv (0 : Int32), iv (1 : Int32)] []))
      refine own_st (fun _ k => XS.iload X249.here hx rfl (hb hby d4_110) rfl  k) ?_
      show own_Fin p e below G (T249.setTop (mkF m 112 #[rv a1, .val (.long x0), .second, .val (.long x3), .second, iv (0 : Int32), iv (1 : Int32)] [(.int (1 : Int32))]))
      refine own_st (fun _ k => XS.istore X249.here hx rfl (hb hby d4_112) rfl (l' := #[rv a1, .val (.long x0), .second, .val (.long x3), .second, iv (1 : Int32), iv (1 : Int32)]) rfl k) ?_
      show own_Fin p e below G (T249.setTop (mkF m 114 #[rv a1, .val (.long x0), .second, .val (.long x3), .second, iv (1 : Int32), iv (1 : Int32)] []))
      refine own_st (fun _ k => XS.goto X249.here hx rfl (pc0 := 114) (pc' := 27) rfl (hb hby d4_114) (by decide) (by decide) k) ?_
      show own_Fin p e below G (T249.setTop (mkF m 27 #[rv a1, .val (.long x0), .second, .val (.long x3), .second, iv (1 : Int32), iv (1 : Int32)] []))
      refine own_st (fun _ k => XS.iconst X249.here hx rfl (hb hby d4_27) k) ?_
      show own_Fin p e below G (T249.setTop (mkF m 28 #[rv a1, .val (.long x0), .second, .val (.long x3), .second, iv (1 : Int32), iv (1 : Int32)] [(.int (2 : Int32))]))
      refine own_st (fun _ k => XS.iload X249.here hx rfl (hb hby d4_28) rfl  k) ?_
      show own_Fin p e below G (T249.setTop (mkF m 30 #[rv a1, .val (.long x0), .second, .val (.long x3), .second, iv (1 : Int32), iv (1 : Int32)] [(.int (1 : Int32)), (.int (2 : Int32))]))
      refine own_st (fun _ k => XS.imul X249.here hx rfl (hb hby d4_30) rfl k) ?_
      show own_Fin p e below G (T249.setTop (mkF m 31 #[rv a1, .val (.long x0), .second, .val (.long x3), .second, iv (1 : Int32), iv (1 : Int32)] [(.int (2 : Int32))]))
      refine own_st (fun _ k => XS.iconst X249.here hx rfl (hb hby d4_31) k) ?_
      show own_Fin p e below G (T249.setTop (mkF m 32 #[rv a1, .val (.long x0), .second, .val (.long x3), .second, iv (1 : Int32), iv (1 : Int32)] [(.int (1 : Int32)), (.int (2 : Int32))]))
      refine own_st (fun _ k => XS.iadd X249.here hx rfl (hb hby d4_32) rfl k) ?_
      show own_Fin p e below G (T249.setTop (mkF m 33 #[rv a1, .val (.long x0), .second, .val (.long x3), .second, iv (1 : Int32), iv (1 : Int32)] [(.int (3 : Int32))]))
      refine own_st (fun _ k => XS.istore X249.here hx rfl (hb hby d4_33) rfl (l' := #[rv a1, .val (.long x0), .second, .val (.long x3), .second, iv (1 : Int32), iv (3 : Int32)]) rfl k) ?_
      show own_Fin p e below G (T249.setTop (mkF m 35 #[rv a1, .val (.long x0), .second, .val (.long x3), .second, iv (1 : Int32), iv (3 : Int32)] []))
      refine own_st (fun _ k => XS.iload X249.here hx rfl (hb hby d4_35) rfl  k) ?_
      show own_Fin p e below G (T249.setTop (mkF m 37 #[rv a1, .val (.long x0), .second, .val (.long x3), .second, iv (1 : Int32), iv (3 : Int32)] [(.int (3 : Int32))]))
      refine own_st (fun _ k => XS.aloadN X249.here hx rfl (hb hby d4_37) rfl rfl k) ?_
      show own_Fin p e below G (T249.setTop (mkF m 38 #[rv a1, .val (.long x0), .second, .val (.long x3), .second, iv (1 : Int32), iv (3 : Int32)] [(.ref a1), (.int (3 : Int32))]))
      obtain ⟨T253, X253, e253, st253⟩ := getF X249 hx hZ hown (host := "") (Or.inl (own_w hw 17 rfl)) Via.refl e249 f250_1 (g := (mkF m 38 #[rv a1, .val (.long x0), .second, .val (.long x3), .second, iv (1 : Int32), iv (3 : Int32)] [(.ref a1), (.int (3 : Int32))])) rfl rfl (hb hby d4_38)
      clear X249 e249
      refine own_st st253 ?_
      clear st253
      show own_Fin p e below G (T253.setTop (mkF m 41 #[rv a1, .val (.long x0), .second, .val (.long x3), .second, iv (1 : Int32), iv (3 : Int32)] [(.int (3 : Int32)), (.int (3 : Int32))]))
      refine own_st (fun _ k => XS.icmpNo X253.here hx rfl (hb hby d4_41) rfl (flt (by decide : ¬ ((3 : Int32) < (3 : Int32)))).1 k) ?_
      show own_Fin p e below G (T253.setTop (mkF m 44 #[rv a1, .val (.long x0), .second, .val (.long x3), .second, iv (1 : Int32), iv (3 : Int32)] []))
      refine own_st (fun _ k => XS.goto X253.here hx rfl (pc0 := 44) (pc' := 117) rfl (hb hby d4_44) (by decide) (by decide) k) ?_
      show own_Fin p e below G (T253.setTop (mkF m 117 #[rv a1, .val (.long x0), .second, .val (.long x3), .second, iv (1 : Int32), iv (3 : Int32)] []))
      refine own_st (fun _ k => XS.aloadN X253.here hx rfl (hb hby d4_117) rfl rfl k) ?_
      show own_Fin p e below G (T253.setTop (mkF m 118 #[rv a1, .val (.long x0), .second, .val (.long x3), .second, iv (1 : Int32), iv (3 : Int32)] [(.ref a1)]))
      obtain ⟨T254, X254, e254, st254⟩ := getF X253 hx hZ hown (host := "") (Or.inl (own_w hw 10 rfl)) Via.refl e253 f250_2 (g := (mkF m 118 #[rv a1, .val (.long x0), .second, .val (.long x3), .second, iv (1 : Int32), iv (3 : Int32)] [(.ref a1)])) rfl rfl (hb hby d4_118)
      clear X253 e253
      refine own_st st254 ?_
      clear st254
      show own_Fin p e below G (T254.setTop (mkF m 121 #[rv a1, .val (.long x0), .second, .val (.long x3), .second, iv (1 : Int32), iv (3 : Int32)] [(.ref a2)]))
      refine own_st (fun _ k => XS.iload X254.here hx rfl (hb hby d4_121) rfl  k) ?_
      show own_Fin p e below G (T254.setTop (mkF m 123 #[rv a1, .val (.long x0), .second, .val (.long x3), .second, iv (1 : Int32), iv (3 : Int32)] [(.int (1 : Int32)), (.ref a2)]))
      refine own_st (fun _ k => XS.lloadN X254.here hx rfl (hb hby d4_123) rfl  k) ?_
      show own_Fin p e below G (T254.setTop (mkF m 124 #[rv a1, .val (.long x0), .second, .val (.long x3), .second, iv (1 : Int32), iv (3 : Int32)] [(.long x3), (.int (1 : Int32)), (.ref a2)]))
      obtain ⟨T255, h255, X255, e255, W255, V255, st255⟩ := own_stJ X254 hx hZ e254 V249 (j := (1 : Int32)) (n := 16) rfl (by decide) (g := (mkF m 124 #[rv a1, .val (.long x0), .second, .val (.long x3), .second, iv (1 : Int32), iv (3 : Int32)] [(.long x3), (.int (1 : Int32)), (.ref a2)])) rfl rfl (hb hby d4_124)
      clear V249 X254 e254
      have f256_0 := f250_0.wr W255
      clear f250_0 f256_0
      have f256_1 := f250_1.other W255 (Or.inl ne12)
      clear f250_1
      have f256_2 := f250_2.other W255 (Or.inl ne12)
      clear f250_2
      have K257 : Keep h0 h255 [a1, a2] := K251.wr W255 (Or.inl (List.mem_of_getElem? (i := 1) rfl))
      clear K251 W255
      have N258 := Fr.snoc X255 N252 g2
      clear N252
      replace V255 : own_AV Z h255 a2 .long (own_js [x1, x3, x2, x3, x4, x5, x6, x7, x8, x9, x10, x11, x12, x13, x14, x15]) := V255
      refine own_st st255 ?_
      clear st255
      show own_Fin p e below G (T255.setTop (mkF m 125 #[rv a1, .val (.long x0), .second, .val (.long x3), .second, iv (1 : Int32), iv (3 : Int32)] []))
      refine own_st (fun _ k => XS.lloadN X255.here hx rfl (hb hby d4_125) rfl  k) ?_
      show own_Fin p e below G (T255.setTop (mkF m 126 #[rv a1, .val (.long x0), .second, .val (.long x3), .second, iv (1 : Int32), iv (3 : Int32)] [(.long x0)]))
      refine own_out X255 Bd.notSynchronized (v := (some (.long x0))) (fun h => by rw [Bd.returns] at h; cases h) hG (fun fs hr => retOut X255 hx Bd.returns rfl (Or.inr (Or.inl ⟨rfl, rfl, _, rfl⟩)) (hb hby d4_126) hr) (by decide) (by decide) ?_
      have o_hc75_225 : ¬ x2.toInt < x1.toInt := fun q => hc75_225 (own_lt0.mpr q)
      have o_hc90_246 : x1.toInt < x3.toInt := own_gt.mp hc90_246
      refine ⟨rfl, N258, e255.symm ▸ K257, e255.symm ▸ f256_1, e255.symm ▸ f256_2, x1, x3, x2, e255.symm ▸ V255, ?_, fun t => ?_⟩
      · omega
      · omega
    · refine own_st (fun _ k => XS.ifNo X245.here hx rfl (hb hby d4_90) rfl ((if0 _ _).trans (flt hc90_246).2.2.1) k) ?_
      show own_Fin p e below G (T245.setTop (mkF m 93 #[rv a1, .val (.long x0), .second, .val (.long x3), .second, iv (0 : Int32), iv (1 : Int32)] []))
      refine own_st (fun _ k => XS.goto X245.here hx rfl (pc0 := 93) (pc' := 117) rfl (hb hby d4_93) (by decide) (by decide) k) ?_
      show own_Fin p e below G (T245.setTop (mkF m 117 #[rv a1, .val (.long x0), .second, .val (.long x3), .second, iv (0 : Int32), iv (1 : Int32)] []))
      refine own_st (fun _ k => XS.aloadN X245.here hx rfl (hb hby d4_117) rfl rfl k) ?_
      show own_Fin p e below G (T245.setTop (mkF m 118 #[rv a1, .val (.long x0), .second, .val (.long x3), .second, iv (0 : Int32), iv (1 : Int32)] [(.ref a1)]))
      obtain ⟨T259, X259, e259, st259⟩ := getF X245 hx hZ hown (host := "") (Or.inl (own_w hw 10 rfl)) Via.refl e245 f217_2 (g := (mkF m 118 #[rv a1, .val (.long x0), .second, .val (.long x3), .second, iv (0 : Int32), iv (1 : Int32)] [(.ref a1)])) rfl rfl (hb hby d4_118)
      clear X245 e245
      refine own_st st259 ?_
      clear st259
      show own_Fin p e below G (T259.setTop (mkF m 121 #[rv a1, .val (.long x0), .second, .val (.long x3), .second, iv (0 : Int32), iv (1 : Int32)] [(.ref a2)]))
      refine own_st (fun _ k => XS.iload X259.here hx rfl (hb hby d4_121) rfl  k) ?_
      show own_Fin p e below G (T259.setTop (mkF m 123 #[rv a1, .val (.long x0), .second, .val (.long x3), .second, iv (0 : Int32), iv (1 : Int32)] [(.int (0 : Int32)), (.ref a2)]))
      refine own_st (fun _ k => XS.lloadN X259.here hx rfl (hb hby d4_123) rfl  k) ?_
      show own_Fin p e below G (T259.setTop (mkF m 124 #[rv a1, .val (.long x0), .second, .val (.long x3), .second, iv (0 : Int32), iv (1 : Int32)] [(.long x3), (.int (0 : Int32)), (.ref a2)]))
      obtain ⟨T260, h260, X260, e260, W260, V260, st260⟩ := own_stJ X259 hx hZ e259 f217_3 (j := (0 : Int32)) (n := 16) rfl (by decide) (g := (mkF m 124 #[rv a1, .val (.long x0), .second, .val (.long x3), .second, iv (0 : Int32), iv (1 : Int32)] [(.long x3), (.int (0 : Int32)), (.ref a2)])) rfl rfl (hb hby d4_124)
      clear f217_3 X259 e259
      have f261_0 := f217_0.wr W260
      clear f217_0 f261_0
      have f261_1 := Fw216.other W260 (Or.inl ne12)
      clear Fw216
      have f261_2 := f217_2.other W260 (Or.inl ne12)
      clear f217_2
      have K262 : Keep h0 h260 [a1, a2] := K219.wr W260 (Or.inl (List.mem_of_getElem? (i := 1) rfl))
      clear K219 W260
      have N263 := Fr.snoc X260 N220 g2
      clear N220
      replace V260 : own_AV Z h260 a2 .long (own_js [x3, x1, x2, x3, x4, x5, x6, x7, x8, x9, x10, x11, x12, x13, x14, x15]) := V260
      refine own_st st260 ?_
      clear st260
      show own_Fin p e below G (T260.setTop (mkF m 125 #[rv a1, .val (.long x0), .second, .val (.long x3), .second, iv (0 : Int32), iv (1 : Int32)] []))
      refine own_st (fun _ k => XS.lloadN X260.here hx rfl (hb hby d4_125) rfl  k) ?_
      show own_Fin p e below G (T260.setTop (mkF m 126 #[rv a1, .val (.long x0), .second, .val (.long x3), .second, iv (0 : Int32), iv (1 : Int32)] [(.long x0)]))
      refine own_out X260 Bd.notSynchronized (v := (some (.long x0))) (fun h => by rw [Bd.returns] at h; cases h) hG (fun fs hr => retOut X260 hx Bd.returns rfl (Or.inr (Or.inl ⟨rfl, rfl, _, rfl⟩)) (hb hby d4_126) hr) (by decide) (by decide) ?_
      have o_hc75_225 : ¬ x2.toInt < x1.toInt := fun q => hc75_225 (own_lt0.mpr q)
      have o_hc90_246 : ¬ x1.toInt < x3.toInt := fun q => hc90_246 (own_gt.mpr q)
      refine ⟨rfl, N263, e260.symm ▸ K262, e260.symm ▸ f261_1, e260.symm ▸ f261_2, x3, x1, x2, e260.symm ▸ V260, ?_, fun t => ?_⟩
      · omega
      · omega

def Qrm_poll5 (Z : State) (a1 : Addr) (a2 : Addr) (x0 : Int64) (x1 : Int64) (x2 : Int64) (x3 : Int64) (x4 : Int64) (x5 : Int64) (x6 : Int64) (x7 : Int64) (x8 : Int64) (x9 : Int64) (x10 : Int64) (x11 : Int64) (x12 : Int64) (x13 : Int64) (x14 : Int64) (x15 : Int64) (h0 : Heap) (n0 : Nat) (v : Option Value) (h : Heap) (L : List Loc) : Prop := v = some (.long x0) ∧ Fr n0 L ∧ Keep h0 h [a1, a2] ∧ Fld Z h a1 "com/example/urania/urania/layered/KeyHeap" "count" "I" (.int (4 : Int32)) ∧ Fld Z h a1 "com/example/urania/urania/layered/KeyHeap" "keys" "[J" (.ref a2) ∧ ∃ y0 y1 y2 y3 : Int64, own_AV Z h a2 .long (own_js [y0, y1, y2, y3, x4, x5, x6, x7, x8, x9, x10, x11, x12, x13, x14, x15]) ∧ (y0.toInt ≤ y1.toInt ∧ y0.toInt ≤ y2.toInt ∧ y1.toInt ≤ y3.toInt ∧ x0.toInt ≤ y0.toInt ∧ x0.toInt ≤ y1.toInt ∧ x0.toInt ≤ y2.toInt ∧ x0.toInt ≤ y3.toInt) ∧ ∀ t, own_d t x0 + (own_d t y0 + own_d t y1 + own_d t y2 + own_d t y3) = own_d t x0 + own_d t x1 + own_d t x2 + own_d t x3 + own_d t x4
set_option maxRecDepth 65536 in
set_option maxHeartbeats 40000000 in
theorem rm_poll5 (l : Launch) (Z : State) (a0 : Array Value) (hw : ∀ d ∈ tables_1, d.before a0 Z = true) (ws : List Jvm.Cond) (a1 : Addr) (a2 : Addr) (x0 : Int64) (x1 : Int64) (x2 : Int64) (x3 : Int64) (x4 : Int64) (x5 : Int64) (x6 : Int64) (x7 : Int64) (x8 : Int64) (x9 : Int64) (x10 : Int64) (x11 : Int64) (x12 : Int64) (x13 : Int64) (x14 : Int64) (x15 : Int64) (h0 : Heap) (n0 : Nat) (Z0 : n0 ≤ h0.size) (E1 : Exa Z h0 a1 "com/example/urania/urania/layered/KeyHeap") (F1 : Fld Z h0 a1 "com/example/urania/urania/layered/KeyHeap" "count" "I" (.int (5 : Int32))) (F2 : Fld Z h0 a1 "com/example/urania/urania/layered/KeyHeap" "keys" "[J" (.ref a2)) (A2 : own_AV Z h0 a2 .long (own_js [x0, x1, x2, x3, x4, x5, x6, x7, x8, x9, x10, x11, x12, x13, x14, x15])) (ne12 : a1 ≠ a2) (g1 : n0 ≤ a1) (g2 : n0 ≤ a2) (hH : x0.toInt ≤ x1.toInt ∧ x0.toInt ≤ x2.toInt ∧ x1.toInt ≤ x3.toInt ∧ x1.toInt ≤ x4.toInt) :
    MetFree l own_y5 (head1 (Jvm.Cond.code own_y5 prog_53_method_7_code 7 (some .long) :: ws) ({ frames := 0, cells := 0, slots := 0, locals := 0 } : Room)) (fun a U => a = #[(.ref a1)] ∧ Z.Warmed39 U.vm ∧ U.heap = h0) (fun _ _ _ _ _ => True) (fun _ U o U' => ∃ v L, o = .returned v ∧ Qrm_poll5 Z a1 a2 x0 x1 x2 x3 x4 x5 x6 x7 x8 x9 x10 x11 x12 x13 x14 x15 h0 n0 v U'.heap L ∧ FrameEnd U o U' L ({ frames := 0, cells := 0, slots := 0, locals := 0 } : Room).cells ({ frames := 0, cells := 0, slots := 0, locals := 0 } : Room).slots) := by
  refine MetFree.of_bodySF (plainFor_of_name pn_com_example_urania_urania_layered_KeyHeap) hisR ?_
  intro p e s m args below meth c s₁ Bd hml0 hP hK
  obtain ⟨rfl, hZ, hh⟩ := hP
  have hx := Bd.exec
  have hby := Bd.bytes
  have hml : c.maxLocals = 7 := hml0
  have hown : s.vm.findClass "com/example/urania/urania/layered/KeyHeap" = some m.cls := findClass_of_methodNamed Bd.named
  have hnm := (name_of_methodNamed Bd.named Bd.method).1
  have X0 : Stand p l e ({ frames := 0, cells := 0, slots := 0, locals := 0 } : Room) s m #[(.ref a1)] below meth c s₁ [] 0 0 := Stand.of_body Bd
  have e0 : s₁.heap = h0 := by rw [← hh, Bd.state]; rfl
  have N0 := Fr.nil n0
  have K0 : Keep h0 h0 [a1, a2] := Keep.refl _ _
  refine own_start (Qk := Qrm_poll5 Z a1 a2 x0 x1 x2 x3 x4 x5 x6 x7 x8 x9 x10 x11 x12 x13 x14 x15 h0 n0) (fun G hG => ?_)
  refine own_st (fun _ k => castTop (ef_4_R m a1) k) ?_
  show own_Fin p e below G (s₁.setTop (mkF m 0 #[rv a1, .unset, .unset, .unset, .unset, .unset, .unset] []))
  refine own_st (fun _ k => XS.aloadN X0.here hx rfl (hb hby d4_0) rfl rfl k) ?_
  show own_Fin p e below G (s₁.setTop (mkF m 1 #[rv a1, .unset, .unset, .unset, .unset, .unset, .unset] [(.ref a1)]))
  obtain ⟨T264, X264, e264, st264⟩ := getF X0 hx hZ hown (host := "") (Or.inl (own_w hw 10 rfl)) Via.refl e0 F2 (g := (mkF m 1 #[rv a1, .unset, .unset, .unset, .unset, .unset, .unset] [(.ref a1)])) rfl rfl (hb hby d4_1)
  clear X0 e0
  refine own_st st264 ?_
  clear st264
  show own_Fin p e below G (T264.setTop (mkF m 4 #[rv a1, .unset, .unset, .unset, .unset, .unset, .unset] [(.ref a2)]))
  refine own_st (fun _ k => XS.iconst X264.here hx rfl (hb hby d4_4) k) ?_
  show own_Fin p e below G (T264.setTop (mkF m 5 #[rv a1, .unset, .unset, .unset, .unset, .unset, .unset] [(.int (0 : Int32)), (.ref a2)]))
  refine own_st (fun _ k => own_ldJ X264 hx hZ e264 A2 (j := (0 : Int32)) (n := 16) rfl (by decide) (g := (mkF m 5 #[rv a1, .unset, .unset, .unset, .unset, .unset, .unset] [(.int (0 : Int32)), (.ref a2)])) rfl rfl (hb hby d4_5) k) ?_
  show own_Fin p e below G (T264.setTop (mkF m 6 #[rv a1, .unset, .unset, .unset, .unset, .unset, .unset] [(.long x0)]))
  refine own_st (fun _ k => XS.lstoreN X264.here hx rfl (hb hby d4_6) rfl (l' := #[rv a1, .val (.long x0), .second, .unset, .unset, .unset, .unset]) rfl k) ?_
  show own_Fin p e below G (T264.setTop (mkF m 7 #[rv a1, .val (.long x0), .second, .unset, .unset, .unset, .unset] []))
  refine own_st (fun _ k => XS.aloadN X264.here hx rfl (hb hby d4_7) rfl rfl k) ?_
  show own_Fin p e below G (T264.setTop (mkF m 8 #[rv a1, .val (.long x0), .second, .unset, .unset, .unset, .unset] [(.ref a1)]))
  obtain ⟨T265, X265, e265, st265⟩ := getF X264 hx hZ hown (host := "") (Or.inl (own_w hw 10 rfl)) Via.refl e264 F2 (g := (mkF m 8 #[rv a1, .val (.long x0), .second, .unset, .unset, .unset, .unset] [(.ref a1)])) rfl rfl (hb hby d4_8)
  clear X264 e264
  refine own_st st265 ?_
  clear st265
  show own_Fin p e below G (T265.setTop (mkF m 11 #[rv a1, .val (.long x0), .second, .unset, .unset, .unset, .unset] [(.ref a2)]))
  refine own_st (fun _ k => XS.aloadN X265.here hx rfl (hb hby d4_11) rfl rfl k) ?_
  show own_Fin p e below G (T265.setTop (mkF m 12 #[rv a1, .val (.long x0), .second, .unset, .unset, .unset, .unset] [(.ref a1), (.ref a2)]))
  refine own_st (fun _ k => XS.dup X265.here hx rfl (hb hby d4_12) rfl rfl k) ?_
  show own_Fin p e below G (T265.setTop (mkF m 13 #[rv a1, .val (.long x0), .second, .unset, .unset, .unset, .unset] [(.ref a1), (.ref a1), (.ref a2)]))
  obtain ⟨T266, X266, e266, st266⟩ := getF X265 hx hZ hown (host := "") (Or.inl (own_w hw 17 rfl)) Via.refl e265 F1 (g := (mkF m 13 #[rv a1, .val (.long x0), .second, .unset, .unset, .unset, .unset] [(.ref a1), (.ref a1), (.ref a2)])) rfl rfl (hb hby d4_13)
  clear X265 e265
  refine own_st st266 ?_
  clear st266
  show own_Fin p e below G (T266.setTop (mkF m 16 #[rv a1, .val (.long x0), .second, .unset, .unset, .unset, .unset] [(.int (5 : Int32)), (.ref a1), (.ref a2)]))
  refine own_st (fun _ k => XS.iconst X266.here hx rfl (hb hby d4_16) k) ?_
  show own_Fin p e below G (T266.setTop (mkF m 17 #[rv a1, .val (.long x0), .second, .unset, .unset, .unset, .unset] [(.int (1 : Int32)), (.int (5 : Int32)), (.ref a1), (.ref a2)]))
  refine own_st (fun _ k => XS.isub X266.here hx rfl (hb hby d4_17) rfl k) ?_
  show own_Fin p e below G (T266.setTop (mkF m 18 #[rv a1, .val (.long x0), .second, .unset, .unset, .unset, .unset] [(.int (4 : Int32)), (.ref a1), (.ref a2)]))
  refine own_st (fun _ k => XS.dupX1 X266.here hx rfl (hb hby d4_18) rfl rfl rfl k) ?_
  show own_Fin p e below G (T266.setTop (mkF m 19 #[rv a1, .val (.long x0), .second, .unset, .unset, .unset, .unset] [(.int (4 : Int32)), (.ref a1), (.int (4 : Int32)), (.ref a2)]))
  obtain ⟨T267, h267, X267, e267, W267, st267⟩ := putF X266 hx hZ hown (host := "") (Or.inl (own_w hw 17 rfl)) Via.refl e266 F1 E1 (Or.inl (own_w hw 18 rfl)) (own_w hw 1 rfl) (ty := .int) (by decide) rfl rfl (g := (mkF m 19 #[rv a1, .val (.long x0), .second, .unset, .unset, .unset, .unset] [(.int (4 : Int32)), (.ref a1), (.int (4 : Int32)), (.ref a2)])) rfl rfl (hb hby d4_19)
  clear X266 e266
  have f268_0 := E1.wr W267
  clear E1
  have sl269 := slot_ne (Z := Z) (a0 := a0) (Or.inl (own_w hw 11 rfl)) (Or.inl (own_w hw 18 rfl)) (by decide) (t := (.array .long)) (t' := .int) (by decide) (by decide)
  have f268_2 := F2.other W267 (Or.inr sl269)
  have f268_3 := A2.other W267 (Ne.symm ne12)
  clear A2
  have K270 : Keep h0 h267 [a1, a2] := K0.wr W267 (Or.inl (List.mem_of_getElem? (i := 0) rfl))
  clear K0
  have N271 := Fr.snoc X267 N0 g1
  clear N0
  have Fw267 : Fld Z h267 a1 "com/example/urania/urania/layered/KeyHeap" "count" "I" (.int (4 : Int32)) := F1.same W267
  clear W267
  refine own_st st267 ?_
  clear st267
  show own_Fin p e below G (T267.setTop (mkF m 22 #[rv a1, .val (.long x0), .second, .unset, .unset, .unset, .unset] [(.int (4 : Int32)), (.ref a2)]))
  refine own_st (fun _ k => own_ldJ X267 hx hZ e267 f268_3 (j := (4 : Int32)) (n := 16) rfl (by decide) (g := (mkF m 22 #[rv a1, .val (.long x0), .second, .unset, .unset, .unset, .unset] [(.int (4 : Int32)), (.ref a2)])) rfl rfl (hb hby d4_22) k) ?_
  show own_Fin p e below G (T267.setTop (mkF m 23 #[rv a1, .val (.long x0), .second, .unset, .unset, .unset, .unset] [(.long x4)]))
  refine own_st (fun _ k => XS.lstoreN X267.here hx rfl (hb hby d4_23) rfl (l' := #[rv a1, .val (.long x0), .second, .val (.long x4), .second, .unset, .unset]) rfl k) ?_
  show own_Fin p e below G (T267.setTop (mkF m 24 #[rv a1, .val (.long x0), .second, .val (.long x4), .second, .unset, .unset] []))
  refine own_st (fun _ k => XS.iconst X267.here hx rfl (hb hby d4_24) k) ?_
  show own_Fin p e below G (T267.setTop (mkF m 25 #[rv a1, .val (.long x0), .second, .val (.long x4), .second, .unset, .unset] [(.int (0 : Int32))]))
  refine own_st (fun _ k => XS.istore X267.here hx rfl (hb hby d4_25) rfl (l' := #[rv a1, .val (.long x0), .second, .val (.long x4), .second, iv (0 : Int32), .unset]) rfl k) ?_
  show own_Fin p e below G (T267.setTop (mkF m 27 #[rv a1, .val (.long x0), .second, .val (.long x4), .second, iv (0 : Int32), .unset] []))
  refine own_st (fun _ k => XS.iconst X267.here hx rfl (hb hby d4_27) k) ?_
  show own_Fin p e below G (T267.setTop (mkF m 28 #[rv a1, .val (.long x0), .second, .val (.long x4), .second, iv (0 : Int32), .unset] [(.int (2 : Int32))]))
  refine own_st (fun _ k => XS.iload X267.here hx rfl (hb hby d4_28) rfl  k) ?_
  show own_Fin p e below G (T267.setTop (mkF m 30 #[rv a1, .val (.long x0), .second, .val (.long x4), .second, iv (0 : Int32), .unset] [(.int (0 : Int32)), (.int (2 : Int32))]))
  refine own_st (fun _ k => XS.imul X267.here hx rfl (hb hby d4_30) rfl k) ?_
  show own_Fin p e below G (T267.setTop (mkF m 31 #[rv a1, .val (.long x0), .second, .val (.long x4), .second, iv (0 : Int32), .unset] [(.int (0 : Int32))]))
  refine own_st (fun _ k => XS.iconst X267.here hx rfl (hb hby d4_31) k) ?_
  show own_Fin p e below G (T267.setTop (mkF m 32 #[rv a1, .val (.long x0), .second, .val (.long x4), .second, iv (0 : Int32), .unset] [(.int (1 : Int32)), (.int (0 : Int32))]))
  refine own_st (fun _ k => XS.iadd X267.here hx rfl (hb hby d4_32) rfl k) ?_
  show own_Fin p e below G (T267.setTop (mkF m 33 #[rv a1, .val (.long x0), .second, .val (.long x4), .second, iv (0 : Int32), .unset] [(.int (1 : Int32))]))
  refine own_st (fun _ k => XS.istore X267.here hx rfl (hb hby d4_33) rfl (l' := #[rv a1, .val (.long x0), .second, .val (.long x4), .second, iv (0 : Int32), iv (1 : Int32)]) rfl k) ?_
  show own_Fin p e below G (T267.setTop (mkF m 35 #[rv a1, .val (.long x0), .second, .val (.long x4), .second, iv (0 : Int32), iv (1 : Int32)] []))
  refine own_st (fun _ k => XS.iload X267.here hx rfl (hb hby d4_35) rfl  k) ?_
  show own_Fin p e below G (T267.setTop (mkF m 37 #[rv a1, .val (.long x0), .second, .val (.long x4), .second, iv (0 : Int32), iv (1 : Int32)] [(.int (1 : Int32))]))
  refine own_st (fun _ k => XS.aloadN X267.here hx rfl (hb hby d4_37) rfl rfl k) ?_
  show own_Fin p e below G (T267.setTop (mkF m 38 #[rv a1, .val (.long x0), .second, .val (.long x4), .second, iv (0 : Int32), iv (1 : Int32)] [(.ref a1), (.int (1 : Int32))]))
  obtain ⟨T272, X272, e272, st272⟩ := getF X267 hx hZ hown (host := "") (Or.inl (own_w hw 17 rfl)) Via.refl e267 Fw267 (g := (mkF m 38 #[rv a1, .val (.long x0), .second, .val (.long x4), .second, iv (0 : Int32), iv (1 : Int32)] [(.ref a1), (.int (1 : Int32))])) rfl rfl (hb hby d4_38)
  clear X267 e267
  refine own_st st272 ?_
  clear st272
  show own_Fin p e below G (T272.setTop (mkF m 41 #[rv a1, .val (.long x0), .second, .val (.long x4), .second, iv (0 : Int32), iv (1 : Int32)] [(.int (4 : Int32)), (.int (1 : Int32))]))
  refine own_st (fun _ k => XS.icmpYes X272.here hx rfl (pc0 := 41) (pc' := 47) rfl (hb hby d4_41) rfl (tlt (by decide : ((1 : Int32) < (4 : Int32)))).1 (by decide) (by decide) k) ?_
  show own_Fin p e below G (T272.setTop (mkF m 47 #[rv a1, .val (.long x0), .second, .val (.long x4), .second, iv (0 : Int32), iv (1 : Int32)] []))
  refine own_st (fun _ k => XS.iload X272.here hx rfl (hb hby d4_47) rfl  k) ?_
  show own_Fin p e below G (T272.setTop (mkF m 49 #[rv a1, .val (.long x0), .second, .val (.long x4), .second, iv (0 : Int32), iv (1 : Int32)] [(.int (1 : Int32))]))
  refine own_st (fun _ k => XS.iconst X272.here hx rfl (hb hby d4_49) k) ?_
  show own_Fin p e below G (T272.setTop (mkF m 50 #[rv a1, .val (.long x0), .second, .val (.long x4), .second, iv (0 : Int32), iv (1 : Int32)] [(.int (1 : Int32)), (.int (1 : Int32))]))
  refine own_st (fun _ k => XS.iadd X272.here hx rfl (hb hby d4_50) rfl k) ?_
  show own_Fin p e below G (T272.setTop (mkF m 51 #[rv a1, .val (.long x0), .second, .val (.long x4), .second, iv (0 : Int32), iv (1 : Int32)] [(.int (2 : Int32))]))
  refine own_st (fun _ k => XS.aloadN X272.here hx rfl (hb hby d4_51) rfl rfl k) ?_
  show own_Fin p e below G (T272.setTop (mkF m 52 #[rv a1, .val (.long x0), .second, .val (.long x4), .second, iv (0 : Int32), iv (1 : Int32)] [(.ref a1), (.int (2 : Int32))]))
  obtain ⟨T273, X273, e273, st273⟩ := getF X272 hx hZ hown (host := "") (Or.inl (own_w hw 17 rfl)) Via.refl e272 Fw267 (g := (mkF m 52 #[rv a1, .val (.long x0), .second, .val (.long x4), .second, iv (0 : Int32), iv (1 : Int32)] [(.ref a1), (.int (2 : Int32))])) rfl rfl (hb hby d4_52)
  clear X272 e272
  refine own_st st273 ?_
  clear st273
  show own_Fin p e below G (T273.setTop (mkF m 55 #[rv a1, .val (.long x0), .second, .val (.long x4), .second, iv (0 : Int32), iv (1 : Int32)] [(.int (4 : Int32)), (.int (2 : Int32))]))
  refine own_st (fun _ k => XS.icmpNo X273.here hx rfl (hb hby d4_55) rfl (tlt (by decide : ((2 : Int32) < (4 : Int32)))).2.1 k) ?_
  show own_Fin p e below G (T273.setTop (mkF m 58 #[rv a1, .val (.long x0), .second, .val (.long x4), .second, iv (0 : Int32), iv (1 : Int32)] []))
  refine own_st (fun _ k => XS.aloadN X273.here hx rfl (hb hby d4_58) rfl rfl k) ?_
  show own_Fin p e below G (T273.setTop (mkF m 59 #[rv a1, .val (.long x0), .second, .val (.long x4), .second, iv (0 : Int32), iv (1 : Int32)] [(.ref a1)]))
  obtain ⟨T274, X274, e274, st274⟩ := getF X273 hx hZ hown (host := "") (Or.inl (own_w hw 10 rfl)) Via.refl e273 f268_2 (g := (mkF m 59 #[rv a1, .val (.long x0), .second, .val (.long x4), .second, iv (0 : Int32), iv (1 : Int32)] [(.ref a1)])) rfl rfl (hb hby d4_59)
  clear X273 e273
  refine own_st st274 ?_
  clear st274
  show own_Fin p e below G (T274.setTop (mkF m 62 #[rv a1, .val (.long x0), .second, .val (.long x4), .second, iv (0 : Int32), iv (1 : Int32)] [(.ref a2)]))
  refine own_st (fun _ k => XS.iload X274.here hx rfl (hb hby d4_62) rfl  k) ?_
  show own_Fin p e below G (T274.setTop (mkF m 64 #[rv a1, .val (.long x0), .second, .val (.long x4), .second, iv (0 : Int32), iv (1 : Int32)] [(.int (1 : Int32)), (.ref a2)]))
  refine own_st (fun _ k => XS.iconst X274.here hx rfl (hb hby d4_64) k) ?_
  show own_Fin p e below G (T274.setTop (mkF m 65 #[rv a1, .val (.long x0), .second, .val (.long x4), .second, iv (0 : Int32), iv (1 : Int32)] [(.int (1 : Int32)), (.int (1 : Int32)), (.ref a2)]))
  refine own_st (fun _ k => XS.iadd X274.here hx rfl (hb hby d4_65) rfl k) ?_
  show own_Fin p e below G (T274.setTop (mkF m 66 #[rv a1, .val (.long x0), .second, .val (.long x4), .second, iv (0 : Int32), iv (1 : Int32)] [(.int (2 : Int32)), (.ref a2)]))
  refine own_st (fun _ k => own_ldJ X274 hx hZ e274 f268_3 (j := (2 : Int32)) (n := 16) rfl (by decide) (g := (mkF m 66 #[rv a1, .val (.long x0), .second, .val (.long x4), .second, iv (0 : Int32), iv (1 : Int32)] [(.int (2 : Int32)), (.ref a2)])) rfl rfl (hb hby d4_66) k) ?_
  show own_Fin p e below G (T274.setTop (mkF m 67 #[rv a1, .val (.long x0), .second, .val (.long x4), .second, iv (0 : Int32), iv (1 : Int32)] [(.long x2)]))
  refine own_st (fun _ k => XS.aloadN X274.here hx rfl (hb hby d4_67) rfl rfl k) ?_
  show own_Fin p e below G (T274.setTop (mkF m 68 #[rv a1, .val (.long x0), .second, .val (.long x4), .second, iv (0 : Int32), iv (1 : Int32)] [(.ref a1), (.long x2)]))
  obtain ⟨T275, X275, e275, st275⟩ := getF X274 hx hZ hown (host := "") (Or.inl (own_w hw 10 rfl)) Via.refl e274 f268_2 (g := (mkF m 68 #[rv a1, .val (.long x0), .second, .val (.long x4), .second, iv (0 : Int32), iv (1 : Int32)] [(.ref a1), (.long x2)])) rfl rfl (hb hby d4_68)
  clear X274 e274
  refine own_st st275 ?_
  clear st275
  show own_Fin p e below G (T275.setTop (mkF m 71 #[rv a1, .val (.long x0), .second, .val (.long x4), .second, iv (0 : Int32), iv (1 : Int32)] [(.ref a2), (.long x2)]))
  refine own_st (fun _ k => XS.iload X275.here hx rfl (hb hby d4_71) rfl  k) ?_
  show own_Fin p e below G (T275.setTop (mkF m 73 #[rv a1, .val (.long x0), .second, .val (.long x4), .second, iv (0 : Int32), iv (1 : Int32)] [(.int (1 : Int32)), (.ref a2), (.long x2)]))
  refine own_st (fun _ k => own_ldJ X275 hx hZ e275 f268_3 (j := (1 : Int32)) (n := 16) rfl (by decide) (g := (mkF m 73 #[rv a1, .val (.long x0), .second, .val (.long x4), .second, iv (0 : Int32), iv (1 : Int32)] [(.int (1 : Int32)), (.ref a2), (.long x2)])) rfl rfl (hb hby d4_73) k) ?_
  show own_Fin p e below G (T275.setTop (mkF m 74 #[rv a1, .val (.long x0), .second, .val (.long x4), .second, iv (0 : Int32), iv (1 : Int32)] [(.long x1), (.long x2)]))
  refine own_st (fun _ k => XS.lcmp X275.here hx rfl (hb hby d4_74) rfl k) ?_
  show own_Fin p e below G (T275.setTop (mkF m 75 #[rv a1, .val (.long x0), .second, .val (.long x4), .second, iv (0 : Int32), iv (1 : Int32)] [(.int (lcmpW x2 x1))]))
  by_cases hc75_276 : (lcmpW x2 x1) < (0 : Int32)
  · refine own_st (fun _ k => XS.ifNo X275.here hx rfl (hb hby d4_75) rfl ((if0 _ _).trans (tlt hc75_276).2.1) k) ?_
    show own_Fin p e below G (T275.setTop (mkF m 78 #[rv a1, .val (.long x0), .second, .val (.long x4), .second, iv (0 : Int32), iv (1 : Int32)] []))
    refine own_st (fun _ k => XS.iinc X275.here hx rfl (hb hby d4_78) rfl (l' := #[rv a1, .val (.long x0), .second, .val (.long x4), .second, iv (0 : Int32), iv (2 : Int32)]) rfl k) ?_
    show own_Fin p e below G (T275.setTop (mkF m 81 #[rv a1, .val (.long x0), .second, .val (.long x4), .second, iv (0 : Int32), iv (2 : Int32)] []))
    refine own_st (fun _ k => XS.lloadN X275.here hx rfl (hb hby d4_81) rfl  k) ?_
    show own_Fin p e below G (T275.setTop (mkF m 82 #[rv a1, .val (.long x0), .second, .val (.long x4), .second, iv (0 : Int32), iv (2 : Int32)] [(.long x4)]))
    refine own_st (fun _ k => XS.aloadN X275.here hx rfl (hb hby d4_82) rfl rfl k) ?_
    show own_Fin p e below G (T275.setTop (mkF m 83 #[rv a1, .val (.long x0), .second, .val (.long x4), .second, iv (0 : Int32), iv (2 : Int32)] [(.ref a1), (.long x4)]))
    obtain ⟨T277, X277, e277, st277⟩ := getF X275 hx hZ hown (host := "") (Or.inl (own_w hw 10 rfl)) Via.refl e275 f268_2 (g := (mkF m 83 #[rv a1, .val (.long x0), .second, .val (.long x4), .second, iv (0 : Int32), iv (2 : Int32)] [(.ref a1), (.long x4)])) rfl rfl (hb hby d4_83)
    refine own_st st277 ?_
    clear st277
    show own_Fin p e below G (T277.setTop (mkF m 86 #[rv a1, .val (.long x0), .second, .val (.long x4), .second, iv (0 : Int32), iv (2 : Int32)] [(.ref a2), (.long x4)]))
    refine own_st (fun _ k => XS.iload X277.here hx rfl (hb hby d4_86) rfl  k) ?_
    show own_Fin p e below G (T277.setTop (mkF m 88 #[rv a1, .val (.long x0), .second, .val (.long x4), .second, iv (0 : Int32), iv (2 : Int32)] [(.int (2 : Int32)), (.ref a2), (.long x4)]))
    refine own_st (fun _ k => own_ldJ X277 hx hZ e277 f268_3 (j := (2 : Int32)) (n := 16) rfl (by decide) (g := (mkF m 88 #[rv a1, .val (.long x0), .second, .val (.long x4), .second, iv (0 : Int32), iv (2 : Int32)] [(.int (2 : Int32)), (.ref a2), (.long x4)])) rfl rfl (hb hby d4_88) k) ?_
    show own_Fin p e below G (T277.setTop (mkF m 89 #[rv a1, .val (.long x0), .second, .val (.long x4), .second, iv (0 : Int32), iv (2 : Int32)] [(.long x2), (.long x4)]))
    refine own_st (fun _ k => XS.lcmp X277.here hx rfl (hb hby d4_89) rfl k) ?_
    show own_Fin p e below G (T277.setTop (mkF m 90 #[rv a1, .val (.long x0), .second, .val (.long x4), .second, iv (0 : Int32), iv (2 : Int32)] [(.int (lcmpW x4 x2))]))
    by_cases hc90_278 : (0 : Int32) < (lcmpW x4 x2)
    · refine own_st (fun _ k => XS.ifYes X277.here hx rfl (pc0 := 90) (pc' := 96) rfl (hb hby d4_90) rfl ((if0 _ _).trans (tlt hc90_278).2.2.1) (by decide) (by decide) k) ?_
      show own_Fin p e below G (T277.setTop (mkF m 96 #[rv a1, .val (.long x0), .second, .val (.long x4), .second, iv (0 : Int32), iv (2 : Int32)] []))
      refine own_st (fun _ k => XS.aloadN X277.here hx rfl (hb hby d4_96) rfl rfl k) ?_
      show own_Fin p e below G (T277.setTop (mkF m 97 #[rv a1, .val (.long x0), .second, .val (.long x4), .second, iv (0 : Int32), iv (2 : Int32)] [(.ref a1)]))
      obtain ⟨T279, X279, e279, st279⟩ := getF X277 hx hZ hown (host := "") (Or.inl (own_w hw 10 rfl)) Via.refl e277 f268_2 (g := (mkF m 97 #[rv a1, .val (.long x0), .second, .val (.long x4), .second, iv (0 : Int32), iv (2 : Int32)] [(.ref a1)])) rfl rfl (hb hby d4_97)
      refine own_st st279 ?_
      clear st279
      show own_Fin p e below G (T279.setTop (mkF m 100 #[rv a1, .val (.long x0), .second, .val (.long x4), .second, iv (0 : Int32), iv (2 : Int32)] [(.ref a2)]))
      refine own_st (fun _ k => XS.iload X279.here hx rfl (hb hby d4_100) rfl  k) ?_
      show own_Fin p e below G (T279.setTop (mkF m 102 #[rv a1, .val (.long x0), .second, .val (.long x4), .second, iv (0 : Int32), iv (2 : Int32)] [(.int (0 : Int32)), (.ref a2)]))
      refine own_st (fun _ k => XS.aloadN X279.here hx rfl (hb hby d4_102) rfl rfl k) ?_
      show own_Fin p e below G (T279.setTop (mkF m 103 #[rv a1, .val (.long x0), .second, .val (.long x4), .second, iv (0 : Int32), iv (2 : Int32)] [(.ref a1), (.int (0 : Int32)), (.ref a2)]))
      obtain ⟨T280, X280, e280, st280⟩ := getF X279 hx hZ hown (host := "") (Or.inl (own_w hw 10 rfl)) Via.refl e279 f268_2 (g := (mkF m 103 #[rv a1, .val (.long x0), .second, .val (.long x4), .second, iv (0 : Int32), iv (2 : Int32)] [(.ref a1), (.int (0 : Int32)), (.ref a2)])) rfl rfl (hb hby d4_103)
      clear X279 e279
      refine own_st st280 ?_
      clear st280
      show own_Fin p e below G (T280.setTop (mkF m 106 #[rv a1, .val (.long x0), .second, .val (.long x4), .second, iv (0 : Int32), iv (2 : Int32)] [(.ref a2), (.int (0 : Int32)), (.ref a2)]))
      refine own_st (fun _ k => XS.iload X280.here hx rfl (hb hby d4_106) rfl  k) ?_
      show own_Fin p e below G (T280.setTop (mkF m 108 #[rv a1, .val (.long x0), .second, .val (.long x4), .second, iv (0 : Int32), iv (2 : Int32)] [(.int (2 : Int32)), (.ref a2), (.int (0 : Int32)), (.ref a2)]))
      refine own_st (fun _ k => own_ldJ X280 hx hZ e280 f268_3 (j := (2 : Int32)) (n := 16) rfl (by decide) (g := (mkF m 108 #[rv a1, .val (.long x0), .second, .val (.long x4), .second, iv (0 : Int32), iv (2 : Int32)] [(.int (2 : Int32)), (.ref a2), (.int (0 : Int32)), (.ref a2)])) rfl rfl (hb hby d4_108) k) ?_
      show own_Fin p e below G (T280.setTop (mkF m 109 #[rv a1, .val (.long x0), .second, .val (.long x4), .second, iv (0 : Int32), iv (2 : Int32)] [(.long x2), (.int (0 : Int32)), (.ref a2)]))
      obtain ⟨T281, h281, X281, e281, W281, V281, st281⟩ := own_stJ X280 hx hZ e280 f268_3 (j := (0 : Int32)) (n := 16) rfl (by decide) (g := (mkF m 109 #[rv a1, .val (.long x0), .second, .val (.long x4), .second, iv (0 : Int32), iv (2 : Int32)] [(.long x2), (.int (0 : Int32)), (.ref a2)])) rfl rfl (hb hby d4_109)
      clear X280 e280
      have f282_0 := f268_0.wr W281
      have f282_1 := Fw267.other W281 (Or.inl ne12)
      have f282_2 := f268_2.other W281 (Or.inl ne12)
      have K283 : Keep h0 h281 [a1, a2] := K270.wr W281 (Or.inl (List.mem_of_getElem? (i := 1) rfl))
      clear W281
      have N284 := Fr.snoc X281 N271 g2
      replace V281 : own_AV Z h281 a2 .long (own_js [x2, x1, x2, x3, x4, x5, x6, x7, x8, x9, x10, x11, x12, x13, x14, x15]) := V281
      refine own_st st281 ?_
      clear st281
      show own_Fin p e below G (T281.setTop (mkF m 110 #[rv a1, .val (.long x0), .second, .val (.long x4), .second, iv (0 : Int32), iv (2 : Int32)] []))
      refine own_st (fun _ k => XS.iload X281.here hx rfl (hb hby d4_110) rfl  k) ?_
      show own_Fin p e below G (T281.setTop (mkF m 112 #[rv a1, .val (.long x0), .second, .val (.long x4), .second, iv (0 : Int32), iv (2 : Int32)] [(.int (2 : Int32))]))
      refine own_st (fun _ k => XS.istore X281.here hx rfl (hb hby d4_112) rfl (l' := #[rv a1, .val (.long x0), .second, .val (.long x4), .second, iv (2 : Int32), iv (2 : Int32)]) rfl k) ?_
      show own_Fin p e below G (T281.setTop (mkF m 114 #[rv a1, .val (.long x0), .second, .val (.long x4), .second, iv (2 : Int32), iv (2 : Int32)] []))
      refine own_st (fun _ k => XS.goto X281.here hx rfl (pc0 := 114) (pc' := 27) rfl (hb hby d4_114) (by decide) (by decide) k) ?_
      show own_Fin p e below G (T281.setTop (mkF m 27 #[rv a1, .val (.long x0), .second, .val (.long x4), .second, iv (2 : Int32), iv (2 : Int32)] []))
      refine own_st (fun _ k => XS.iconst X281.here hx rfl (hb hby d4_27) k) ?_
      show own_Fin p e below G (T281.setTop (mkF m 28 #[rv a1, .val (.long x0), .second, .val (.long x4), .second, iv (2 : Int32), iv (2 : Int32)] [(.int (2 : Int32))]))
      refine own_st (fun _ k => XS.iload X281.here hx rfl (hb hby d4_28) rfl  k) ?_
      show own_Fin p e below G (T281.setTop (mkF m 30 #[rv a1, .val (.long x0), .second, .val (.long x4), .second, iv (2 : Int32), iv (2 : Int32)] [(.int (2 : Int32)), (.int (2 : Int32))]))
      refine own_st (fun _ k => XS.imul X281.here hx rfl (hb hby d4_30) rfl k) ?_
      show own_Fin p e below G (T281.setTop (mkF m 31 #[rv a1, .val (.long x0), .second, .val (.long x4), .second, iv (2 : Int32), iv (2 : Int32)] [(.int (4 : Int32))]))
      refine own_st (fun _ k => XS.iconst X281.here hx rfl (hb hby d4_31) k) ?_
      show own_Fin p e below G (T281.setTop (mkF m 32 #[rv a1, .val (.long x0), .second, .val (.long x4), .second, iv (2 : Int32), iv (2 : Int32)] [(.int (1 : Int32)), (.int (4 : Int32))]))
      refine own_st (fun _ k => XS.iadd X281.here hx rfl (hb hby d4_32) rfl k) ?_
      show own_Fin p e below G (T281.setTop (mkF m 33 #[rv a1, .val (.long x0), .second, .val (.long x4), .second, iv (2 : Int32), iv (2 : Int32)] [(.int (5 : Int32))]))
      refine own_st (fun _ k => XS.istore X281.here hx rfl (hb hby d4_33) rfl (l' := #[rv a1, .val (.long x0), .second, .val (.long x4), .second, iv (2 : Int32), iv (5 : Int32)]) rfl k) ?_
      show own_Fin p e below G (T281.setTop (mkF m 35 #[rv a1, .val (.long x0), .second, .val (.long x4), .second, iv (2 : Int32), iv (5 : Int32)] []))
      refine own_st (fun _ k => XS.iload X281.here hx rfl (hb hby d4_35) rfl  k) ?_
      show own_Fin p e below G (T281.setTop (mkF m 37 #[rv a1, .val (.long x0), .second, .val (.long x4), .second, iv (2 : Int32), iv (5 : Int32)] [(.int (5 : Int32))]))
      refine own_st (fun _ k => XS.aloadN X281.here hx rfl (hb hby d4_37) rfl rfl k) ?_
      show own_Fin p e below G (T281.setTop (mkF m 38 #[rv a1, .val (.long x0), .second, .val (.long x4), .second, iv (2 : Int32), iv (5 : Int32)] [(.ref a1), (.int (5 : Int32))]))
      obtain ⟨T285, X285, e285, st285⟩ := getF X281 hx hZ hown (host := "") (Or.inl (own_w hw 17 rfl)) Via.refl e281 f282_1 (g := (mkF m 38 #[rv a1, .val (.long x0), .second, .val (.long x4), .second, iv (2 : Int32), iv (5 : Int32)] [(.ref a1), (.int (5 : Int32))])) rfl rfl (hb hby d4_38)
      clear X281 e281
      refine own_st st285 ?_
      clear st285
      show own_Fin p e below G (T285.setTop (mkF m 41 #[rv a1, .val (.long x0), .second, .val (.long x4), .second, iv (2 : Int32), iv (5 : Int32)] [(.int (4 : Int32)), (.int (5 : Int32))]))
      refine own_st (fun _ k => XS.icmpNo X285.here hx rfl (hb hby d4_41) rfl (flt (by decide : ¬ ((5 : Int32) < (4 : Int32)))).1 k) ?_
      show own_Fin p e below G (T285.setTop (mkF m 44 #[rv a1, .val (.long x0), .second, .val (.long x4), .second, iv (2 : Int32), iv (5 : Int32)] []))
      refine own_st (fun _ k => XS.goto X285.here hx rfl (pc0 := 44) (pc' := 117) rfl (hb hby d4_44) (by decide) (by decide) k) ?_
      show own_Fin p e below G (T285.setTop (mkF m 117 #[rv a1, .val (.long x0), .second, .val (.long x4), .second, iv (2 : Int32), iv (5 : Int32)] []))
      refine own_st (fun _ k => XS.aloadN X285.here hx rfl (hb hby d4_117) rfl rfl k) ?_
      show own_Fin p e below G (T285.setTop (mkF m 118 #[rv a1, .val (.long x0), .second, .val (.long x4), .second, iv (2 : Int32), iv (5 : Int32)] [(.ref a1)]))
      obtain ⟨T286, X286, e286, st286⟩ := getF X285 hx hZ hown (host := "") (Or.inl (own_w hw 10 rfl)) Via.refl e285 f282_2 (g := (mkF m 118 #[rv a1, .val (.long x0), .second, .val (.long x4), .second, iv (2 : Int32), iv (5 : Int32)] [(.ref a1)])) rfl rfl (hb hby d4_118)
      clear X285 e285
      refine own_st st286 ?_
      clear st286
      show own_Fin p e below G (T286.setTop (mkF m 121 #[rv a1, .val (.long x0), .second, .val (.long x4), .second, iv (2 : Int32), iv (5 : Int32)] [(.ref a2)]))
      refine own_st (fun _ k => XS.iload X286.here hx rfl (hb hby d4_121) rfl  k) ?_
      show own_Fin p e below G (T286.setTop (mkF m 123 #[rv a1, .val (.long x0), .second, .val (.long x4), .second, iv (2 : Int32), iv (5 : Int32)] [(.int (2 : Int32)), (.ref a2)]))
      refine own_st (fun _ k => XS.lloadN X286.here hx rfl (hb hby d4_123) rfl  k) ?_
      show own_Fin p e below G (T286.setTop (mkF m 124 #[rv a1, .val (.long x0), .second, .val (.long x4), .second, iv (2 : Int32), iv (5 : Int32)] [(.long x4), (.int (2 : Int32)), (.ref a2)]))
      obtain ⟨T287, h287, X287, e287, W287, V287, st287⟩ := own_stJ X286 hx hZ e286 V281 (j := (2 : Int32)) (n := 16) rfl (by decide) (g := (mkF m 124 #[rv a1, .val (.long x0), .second, .val (.long x4), .second, iv (2 : Int32), iv (5 : Int32)] [(.long x4), (.int (2 : Int32)), (.ref a2)])) rfl rfl (hb hby d4_124)
      clear V281 X286 e286
      have f288_0 := f282_0.wr W287
      clear f282_0 f288_0
      have f288_1 := f282_1.other W287 (Or.inl ne12)
      clear f282_1
      have f288_2 := f282_2.other W287 (Or.inl ne12)
      clear f282_2
      have K289 : Keep h0 h287 [a1, a2] := K283.wr W287 (Or.inl (List.mem_of_getElem? (i := 1) rfl))
      clear K283 W287
      have N290 := Fr.snoc X287 N284 g2
      clear N284
      replace V287 : own_AV Z h287 a2 .long (own_js [x2, x1, x4, x3, x4, x5, x6, x7, x8, x9, x10, x11, x12, x13, x14, x15]) := V287
      refine own_st st287 ?_
      clear st287
      show own_Fin p e below G (T287.setTop (mkF m 125 #[rv a1, .val (.long x0), .second, .val (.long x4), .second, iv (2 : Int32), iv (5 : Int32)] []))
      refine own_st (fun _ k => XS.lloadN X287.here hx rfl (hb hby d4_125) rfl  k) ?_
      show own_Fin p e below G (T287.setTop (mkF m 126 #[rv a1, .val (.long x0), .second, .val (.long x4), .second, iv (2 : Int32), iv (5 : Int32)] [(.long x0)]))
      refine own_out X287 Bd.notSynchronized (v := (some (.long x0))) (fun h => by rw [Bd.returns] at h; cases h) hG (fun fs hr => retOut X287 hx Bd.returns rfl (Or.inr (Or.inl ⟨rfl, rfl, _, rfl⟩)) (hb hby d4_126) hr) (by decide) (by decide) ?_
      have o_hc75_276 : x2.toInt < x1.toInt := own_lt0.mp hc75_276
      have o_hc90_278 : x2.toInt < x4.toInt := own_gt.mp hc90_278
      refine ⟨rfl, N290, e287.symm ▸ K289, e287.symm ▸ f288_1, e287.symm ▸ f288_2, x2, x1, x4, x3, e287.symm ▸ V287, ?_, fun t => ?_⟩
      · omega
      · omega
    · refine own_st (fun _ k => XS.ifNo X277.here hx rfl (hb hby d4_90) rfl ((if0 _ _).trans (flt hc90_278).2.2.1) k) ?_
      show own_Fin p e below G (T277.setTop (mkF m 93 #[rv a1, .val (.long x0), .second, .val (.long x4), .second, iv (0 : Int32), iv (2 : Int32)] []))
      refine own_st (fun _ k => XS.goto X277.here hx rfl (pc0 := 93) (pc' := 117) rfl (hb hby d4_93) (by decide) (by decide) k) ?_
      show own_Fin p e below G (T277.setTop (mkF m 117 #[rv a1, .val (.long x0), .second, .val (.long x4), .second, iv (0 : Int32), iv (2 : Int32)] []))
      refine own_st (fun _ k => XS.aloadN X277.here hx rfl (hb hby d4_117) rfl rfl k) ?_
      show own_Fin p e below G (T277.setTop (mkF m 118 #[rv a1, .val (.long x0), .second, .val (.long x4), .second, iv (0 : Int32), iv (2 : Int32)] [(.ref a1)]))
      obtain ⟨T291, X291, e291, st291⟩ := getF X277 hx hZ hown (host := "") (Or.inl (own_w hw 10 rfl)) Via.refl e277 f268_2 (g := (mkF m 118 #[rv a1, .val (.long x0), .second, .val (.long x4), .second, iv (0 : Int32), iv (2 : Int32)] [(.ref a1)])) rfl rfl (hb hby d4_118)
      clear X277 e277
      refine own_st st291 ?_
      clear st291
      show own_Fin p e below G (T291.setTop (mkF m 121 #[rv a1, .val (.long x0), .second, .val (.long x4), .second, iv (0 : Int32), iv (2 : Int32)] [(.ref a2)]))
      refine own_st (fun _ k => XS.iload X291.here hx rfl (hb hby d4_121) rfl  k) ?_
      show own_Fin p e below G (T291.setTop (mkF m 123 #[rv a1, .val (.long x0), .second, .val (.long x4), .second, iv (0 : Int32), iv (2 : Int32)] [(.int (0 : Int32)), (.ref a2)]))
      refine own_st (fun _ k => XS.lloadN X291.here hx rfl (hb hby d4_123) rfl  k) ?_
      show own_Fin p e below G (T291.setTop (mkF m 124 #[rv a1, .val (.long x0), .second, .val (.long x4), .second, iv (0 : Int32), iv (2 : Int32)] [(.long x4), (.int (0 : Int32)), (.ref a2)]))
      obtain ⟨T292, h292, X292, e292, W292, V292, st292⟩ := own_stJ X291 hx hZ e291 f268_3 (j := (0 : Int32)) (n := 16) rfl (by decide) (g := (mkF m 124 #[rv a1, .val (.long x0), .second, .val (.long x4), .second, iv (0 : Int32), iv (2 : Int32)] [(.long x4), (.int (0 : Int32)), (.ref a2)])) rfl rfl (hb hby d4_124)
      clear X291 e291
      have f293_0 := f268_0.wr W292
      clear f293_0
      have f293_1 := Fw267.other W292 (Or.inl ne12)
      have f293_2 := f268_2.other W292 (Or.inl ne12)
      have K294 : Keep h0 h292 [a1, a2] := K270.wr W292 (Or.inl (List.mem_of_getElem? (i := 1) rfl))
      clear W292
      have N295 := Fr.snoc X292 N271 g2
      replace V292 : own_AV Z h292 a2 .long (own_js [x4, x1, x2, x3, x4, x5, x6, x7, x8, x9, x10, x11, x12, x13, x14, x15]) := V292
      refine own_st st292 ?_
      clear st292
      show own_Fin p e below G (T292.setTop (mkF m 125 #[rv a1, .val (.long x0), .second, .val (.long x4), .second, iv (0 : Int32), iv (2 : Int32)] []))
      refine own_st (fun _ k => XS.lloadN X292.here hx rfl (hb hby d4_125) rfl  k) ?_
      show own_Fin p e below G (T292.setTop (mkF m 126 #[rv a1, .val (.long x0), .second, .val (.long x4), .second, iv (0 : Int32), iv (2 : Int32)] [(.long x0)]))
      refine own_out X292 Bd.notSynchronized (v := (some (.long x0))) (fun h => by rw [Bd.returns] at h; cases h) hG (fun fs hr => retOut X292 hx Bd.returns rfl (Or.inr (Or.inl ⟨rfl, rfl, _, rfl⟩)) (hb hby d4_126) hr) (by decide) (by decide) ?_
      have o_hc75_276 : x2.toInt < x1.toInt := own_lt0.mp hc75_276
      have o_hc90_278 : ¬ x2.toInt < x4.toInt := fun q => hc90_278 (own_gt.mpr q)
      refine ⟨rfl, N295, e292.symm ▸ K294, e292.symm ▸ f293_1, e292.symm ▸ f293_2, x4, x1, x2, x3, e292.symm ▸ V292, ?_, fun t => ?_⟩
      · omega
      · omega
  · refine own_st (fun _ k => XS.ifYes X275.here hx rfl (pc0 := 75) (pc' := 81) rfl (hb hby d4_75) rfl ((if0 _ _).trans (flt hc75_276).2.1) (by decide) (by decide) k) ?_
    show own_Fin p e below G (T275.setTop (mkF m 81 #[rv a1, .val (.long x0), .second, .val (.long x4), .second, iv (0 : Int32), iv (1 : Int32)] []))
    refine own_st (fun _ k => XS.lloadN X275.here hx rfl (hb hby d4_81) rfl  k) ?_
    show own_Fin p e below G (T275.setTop (mkF m 82 #[rv a1, .val (.long x0), .second, .val (.long x4), .second, iv (0 : Int32), iv (1 : Int32)] [(.long x4)]))
    refine own_st (fun _ k => XS.aloadN X275.here hx rfl (hb hby d4_82) rfl rfl k) ?_
    show own_Fin p e below G (T275.setTop (mkF m 83 #[rv a1, .val (.long x0), .second, .val (.long x4), .second, iv (0 : Int32), iv (1 : Int32)] [(.ref a1), (.long x4)]))
    obtain ⟨T296, X296, e296, st296⟩ := getF X275 hx hZ hown (host := "") (Or.inl (own_w hw 10 rfl)) Via.refl e275 f268_2 (g := (mkF m 83 #[rv a1, .val (.long x0), .second, .val (.long x4), .second, iv (0 : Int32), iv (1 : Int32)] [(.ref a1), (.long x4)])) rfl rfl (hb hby d4_83)
    clear X275 e275
    refine own_st st296 ?_
    clear st296
    show own_Fin p e below G (T296.setTop (mkF m 86 #[rv a1, .val (.long x0), .second, .val (.long x4), .second, iv (0 : Int32), iv (1 : Int32)] [(.ref a2), (.long x4)]))
    refine own_st (fun _ k => XS.iload X296.here hx rfl (hb hby d4_86) rfl  k) ?_
    show own_Fin p e below G (T296.setTop (mkF m 88 #[rv a1, .val (.long x0), .second, .val (.long x4), .second, iv (0 : Int32), iv (1 : Int32)] [(.int (1 : Int32)), (.ref a2), (.long x4)]))
    refine own_st (fun _ k => own_ldJ X296 hx hZ e296 f268_3 (j := (1 : Int32)) (n := 16) rfl (by decide) (g := (mkF m 88 #[rv a1, .val (.long x0), .second, .val (.long x4), .second, iv (0 : Int32), iv (1 : Int32)] [(.int (1 : Int32)), (.ref a2), (.long x4)])) rfl rfl (hb hby d4_88) k) ?_
    show own_Fin p e below G (T296.setTop (mkF m 89 #[rv a1, .val (.long x0), .second, .val (.long x4), .second, iv (0 : Int32), iv (1 : Int32)] [(.long x1), (.long x4)]))
    refine own_st (fun _ k => XS.lcmp X296.here hx rfl (hb hby d4_89) rfl k) ?_
    show own_Fin p e below G (T296.setTop (mkF m 90 #[rv a1, .val (.long x0), .second, .val (.long x4), .second, iv (0 : Int32), iv (1 : Int32)] [(.int (lcmpW x4 x1))]))
    by_cases hc90_297 : (0 : Int32) < (lcmpW x4 x1)
    · refine own_st (fun _ k => XS.ifYes X296.here hx rfl (pc0 := 90) (pc' := 96) rfl (hb hby d4_90) rfl ((if0 _ _).trans (tlt hc90_297).2.2.1) (by decide) (by decide) k) ?_
      show own_Fin p e below G (T296.setTop (mkF m 96 #[rv a1, .val (.long x0), .second, .val (.long x4), .second, iv (0 : Int32), iv (1 : Int32)] []))
      refine own_st (fun _ k => XS.aloadN X296.here hx rfl (hb hby d4_96) rfl rfl k) ?_
      show own_Fin p e below G (T296.setTop (mkF m 97 #[rv a1, .val (.long x0), .second, .val (.long x4), .second, iv (0 : Int32), iv (1 : Int32)] [(.ref a1)]))
      obtain ⟨T298, X298, e298, st298⟩ := getF X296 hx hZ hown (host := "") (Or.inl (own_w hw 10 rfl)) Via.refl e296 f268_2 (g := (mkF m 97 #[rv a1, .val (.long x0), .second, .val (.long x4), .second, iv (0 : Int32), iv (1 : Int32)] [(.ref a1)])) rfl rfl (hb hby d4_97)
      refine own_st st298 ?_
      clear st298
      show own_Fin p e below G (T298.setTop (mkF m 100 #[rv a1, .val (.long x0), .second, .val (.long x4), .second, iv (0 : Int32), iv (1 : Int32)] [(.ref a2)]))
      refine own_st (fun _ k => XS.iload X298.here hx rfl (hb hby d4_100) rfl  k) ?_
      show own_Fin p e below G (T298.setTop (mkF m 102 #[rv a1, .val (.long x0), .second, .val (.long x4), .second, iv (0 : Int32), iv (1 : Int32)] [(.int (0 : Int32)), (.ref a2)]))
      refine own_st (fun _ k => XS.aloadN X298.here hx rfl (hb hby d4_102) rfl rfl k) ?_
      show own_Fin p e below G (T298.setTop (mkF m 103 #[rv a1, .val (.long x0), .second, .val (.long x4), .second, iv (0 : Int32), iv (1 : Int32)] [(.ref a1), (.int (0 : Int32)), (.ref a2)]))
      obtain ⟨T299, X299, e299, st299⟩ := getF X298 hx hZ hown (host := "") (Or.inl (own_w hw 10 rfl)) Via.refl e298 f268_2 (g := (mkF m 103 #[rv a1, .val (.long x0), .second, .val (.long x4), .second, iv (0 : Int32), iv (1 : Int32)] [(.ref a1), (.int (0 : Int32)), (.ref a2)])) rfl rfl (hb hby d4_103)
      clear X298 e298
      refine own_st st299 ?_
      clear st299
      show own_Fin p e below G (T299.setTop (mkF m 106 #[rv a1, .val (.long x0), .second, .val (.long x4), .second, iv (0 : Int32), iv (1 : Int32)] [(.ref a2), (.int (0 : Int32)), (.ref a2)]))
      refine own_st (fun _ k => XS.iload X299.here hx rfl (hb hby d4_106) rfl  k) ?_
      show own_Fin p e below G (T299.setTop (mkF m 108 #[rv a1, .val (.long x0), .second, .val (.long x4), .second, iv (0 : Int32), iv (1 : Int32)] [(.int (1 : Int32)), (.ref a2), (.int (0 : Int32)), (.ref a2)]))
      refine own_st (fun _ k => own_ldJ X299 hx hZ e299 f268_3 (j := (1 : Int32)) (n := 16) rfl (by decide) (g := (mkF m 108 #[rv a1, .val (.long x0), .second, .val (.long x4), .second, iv (0 : Int32), iv (1 : Int32)] [(.int (1 : Int32)), (.ref a2), (.int (0 : Int32)), (.ref a2)])) rfl rfl (hb hby d4_108) k) ?_
      show own_Fin p e below G (T299.setTop (mkF m 109 #[rv a1, .val (.long x0), .second, .val (.long x4), .second, iv (0 : Int32), iv (1 : Int32)] [(.long x1), (.int (0 : Int32)), (.ref a2)]))
      obtain ⟨T300, h300, X300, e300, W300, V300, st300⟩ := own_stJ X299 hx hZ e299 f268_3 (j := (0 : Int32)) (n := 16) rfl (by decide) (g := (mkF m 109 #[rv a1, .val (.long x0), .second, .val (.long x4), .second, iv (0 : Int32), iv (1 : Int32)] [(.long x1), (.int (0 : Int32)), (.ref a2)])) rfl rfl (hb hby d4_109)
      clear X299 e299
      have f301_0 := f268_0.wr W300
      have f301_1 := Fw267.other W300 (Or.inl ne12)
      have f301_2 := f268_2.other W300 (Or.inl ne12)
      have K302 : Keep h0 h300 [a1, a2] := K270.wr W300 (Or.inl (List.mem_of_getElem? (i := 1) rfl))
      clear W300
      have N303 := Fr.snoc X300 N271 g2
      replace V300 : own_AV Z h300 a2 .long (own_js [x1, x1, x2, x3, x4, x5, x6, x7, x8, x9, x10, x11, x12, x13, x14, x15]) := V300
      refine own_st st300 ?_
      clear st300
      show own_Fin p e below G (T300.setTop (mkF m 110 #[rv a1, .val (.long x0), .second, .val (.long x4), .second, iv (0 : Int32), iv (1 : Int32)] []))
      refine own_st (fun _ k => XS.iload X300.here hx rfl (hb hby d4_110) rfl  k) ?_
      show own_Fin p e below G (T300.setTop (mkF m 112 #[rv a1, .val (.long x0), .second, .val (.long x4), .second, iv (0 : Int32), iv (1 : Int32)] [(.int (1 : Int32))]))
      refine own_st (fun _ k => XS.istore X300.here hx rfl (hb hby d4_112) rfl (l' := #[rv a1, .val (.long x0), .second, .val (.long x4), .second, iv (1 : Int32), iv (1 : Int32)]) rfl k) ?_
      show own_Fin p e below G (T300.setTop (mkF m 114 #[rv a1, .val (.long x0), .second, .val (.long x4), .second, iv (1 : Int32), iv (1 : Int32)] []))
      refine own_st (fun _ k => XS.goto X300.here hx rfl (pc0 := 114) (pc' := 27) rfl (hb hby d4_114) (by decide) (by decide) k) ?_
      show own_Fin p e below G (T300.setTop (mkF m 27 #[rv a1, .val (.long x0), .second, .val (.long x4), .second, iv (1 : Int32), iv (1 : Int32)] []))
      refine own_st (fun _ k => XS.iconst X300.here hx rfl (hb hby d4_27) k) ?_
      show own_Fin p e below G (T300.setTop (mkF m 28 #[rv a1, .val (.long x0), .second, .val (.long x4), .second, iv (1 : Int32), iv (1 : Int32)] [(.int (2 : Int32))]))
      refine own_st (fun _ k => XS.iload X300.here hx rfl (hb hby d4_28) rfl  k) ?_
      show own_Fin p e below G (T300.setTop (mkF m 30 #[rv a1, .val (.long x0), .second, .val (.long x4), .second, iv (1 : Int32), iv (1 : Int32)] [(.int (1 : Int32)), (.int (2 : Int32))]))
      refine own_st (fun _ k => XS.imul X300.here hx rfl (hb hby d4_30) rfl k) ?_
      show own_Fin p e below G (T300.setTop (mkF m 31 #[rv a1, .val (.long x0), .second, .val (.long x4), .second, iv (1 : Int32), iv (1 : Int32)] [(.int (2 : Int32))]))
      refine own_st (fun _ k => XS.iconst X300.here hx rfl (hb hby d4_31) k) ?_
      show own_Fin p e below G (T300.setTop (mkF m 32 #[rv a1, .val (.long x0), .second, .val (.long x4), .second, iv (1 : Int32), iv (1 : Int32)] [(.int (1 : Int32)), (.int (2 : Int32))]))
      refine own_st (fun _ k => XS.iadd X300.here hx rfl (hb hby d4_32) rfl k) ?_
      show own_Fin p e below G (T300.setTop (mkF m 33 #[rv a1, .val (.long x0), .second, .val (.long x4), .second, iv (1 : Int32), iv (1 : Int32)] [(.int (3 : Int32))]))
      refine own_st (fun _ k => XS.istore X300.here hx rfl (hb hby d4_33) rfl (l' := #[rv a1, .val (.long x0), .second, .val (.long x4), .second, iv (1 : Int32), iv (3 : Int32)]) rfl k) ?_
      show own_Fin p e below G (T300.setTop (mkF m 35 #[rv a1, .val (.long x0), .second, .val (.long x4), .second, iv (1 : Int32), iv (3 : Int32)] []))
      refine own_st (fun _ k => XS.iload X300.here hx rfl (hb hby d4_35) rfl  k) ?_
      show own_Fin p e below G (T300.setTop (mkF m 37 #[rv a1, .val (.long x0), .second, .val (.long x4), .second, iv (1 : Int32), iv (3 : Int32)] [(.int (3 : Int32))]))
      refine own_st (fun _ k => XS.aloadN X300.here hx rfl (hb hby d4_37) rfl rfl k) ?_
      show own_Fin p e below G (T300.setTop (mkF m 38 #[rv a1, .val (.long x0), .second, .val (.long x4), .second, iv (1 : Int32), iv (3 : Int32)] [(.ref a1), (.int (3 : Int32))]))
      obtain ⟨T304, X304, e304, st304⟩ := getF X300 hx hZ hown (host := "") (Or.inl (own_w hw 17 rfl)) Via.refl e300 f301_1 (g := (mkF m 38 #[rv a1, .val (.long x0), .second, .val (.long x4), .second, iv (1 : Int32), iv (3 : Int32)] [(.ref a1), (.int (3 : Int32))])) rfl rfl (hb hby d4_38)
      clear X300 e300
      refine own_st st304 ?_
      clear st304
      show own_Fin p e below G (T304.setTop (mkF m 41 #[rv a1, .val (.long x0), .second, .val (.long x4), .second, iv (1 : Int32), iv (3 : Int32)] [(.int (4 : Int32)), (.int (3 : Int32))]))
      refine own_st (fun _ k => XS.icmpYes X304.here hx rfl (pc0 := 41) (pc' := 47) rfl (hb hby d4_41) rfl (tlt (by decide : ((3 : Int32) < (4 : Int32)))).1 (by decide) (by decide) k) ?_
      show own_Fin p e below G (T304.setTop (mkF m 47 #[rv a1, .val (.long x0), .second, .val (.long x4), .second, iv (1 : Int32), iv (3 : Int32)] []))
      refine own_st (fun _ k => XS.iload X304.here hx rfl (hb hby d4_47) rfl  k) ?_
      show own_Fin p e below G (T304.setTop (mkF m 49 #[rv a1, .val (.long x0), .second, .val (.long x4), .second, iv (1 : Int32), iv (3 : Int32)] [(.int (3 : Int32))]))
      refine own_st (fun _ k => XS.iconst X304.here hx rfl (hb hby d4_49) k) ?_
      show own_Fin p e below G (T304.setTop (mkF m 50 #[rv a1, .val (.long x0), .second, .val (.long x4), .second, iv (1 : Int32), iv (3 : Int32)] [(.int (1 : Int32)), (.int (3 : Int32))]))
      refine own_st (fun _ k => XS.iadd X304.here hx rfl (hb hby d4_50) rfl k) ?_
      show own_Fin p e below G (T304.setTop (mkF m 51 #[rv a1, .val (.long x0), .second, .val (.long x4), .second, iv (1 : Int32), iv (3 : Int32)] [(.int (4 : Int32))]))
      refine own_st (fun _ k => XS.aloadN X304.here hx rfl (hb hby d4_51) rfl rfl k) ?_
      show own_Fin p e below G (T304.setTop (mkF m 52 #[rv a1, .val (.long x0), .second, .val (.long x4), .second, iv (1 : Int32), iv (3 : Int32)] [(.ref a1), (.int (4 : Int32))]))
      obtain ⟨T305, X305, e305, st305⟩ := getF X304 hx hZ hown (host := "") (Or.inl (own_w hw 17 rfl)) Via.refl e304 f301_1 (g := (mkF m 52 #[rv a1, .val (.long x0), .second, .val (.long x4), .second, iv (1 : Int32), iv (3 : Int32)] [(.ref a1), (.int (4 : Int32))])) rfl rfl (hb hby d4_52)
      clear X304 e304
      refine own_st st305 ?_
      clear st305
      show own_Fin p e below G (T305.setTop (mkF m 55 #[rv a1, .val (.long x0), .second, .val (.long x4), .second, iv (1 : Int32), iv (3 : Int32)] [(.int (4 : Int32)), (.int (4 : Int32))]))
      refine own_st (fun _ k => XS.icmpYes X305.here hx rfl (pc0 := 55) (pc' := 81) rfl (hb hby d4_55) rfl (flt (by decide : ¬ ((4 : Int32) < (4 : Int32)))).2.1 (by decide) (by decide) k) ?_
      show own_Fin p e below G (T305.setTop (mkF m 81 #[rv a1, .val (.long x0), .second, .val (.long x4), .second, iv (1 : Int32), iv (3 : Int32)] []))
      refine own_st (fun _ k => XS.lloadN X305.here hx rfl (hb hby d4_81) rfl  k) ?_
      show own_Fin p e below G (T305.setTop (mkF m 82 #[rv a1, .val (.long x0), .second, .val (.long x4), .second, iv (1 : Int32), iv (3 : Int32)] [(.long x4)]))
      refine own_st (fun _ k => XS.aloadN X305.here hx rfl (hb hby d4_82) rfl rfl k) ?_
      show own_Fin p e below G (T305.setTop (mkF m 83 #[rv a1, .val (.long x0), .second, .val (.long x4), .second, iv (1 : Int32), iv (3 : Int32)] [(.ref a1), (.long x4)]))
      obtain ⟨T306, X306, e306, st306⟩ := getF X305 hx hZ hown (host := "") (Or.inl (own_w hw 10 rfl)) Via.refl e305 f301_2 (g := (mkF m 83 #[rv a1, .val (.long x0), .second, .val (.long x4), .second, iv (1 : Int32), iv (3 : Int32)] [(.ref a1), (.long x4)])) rfl rfl (hb hby d4_83)
      clear X305 e305
      refine own_st st306 ?_
      clear st306
      show own_Fin p e below G (T306.setTop (mkF m 86 #[rv a1, .val (.long x0), .second, .val (.long x4), .second, iv (1 : Int32), iv (3 : Int32)] [(.ref a2), (.long x4)]))
      refine own_st (fun _ k => XS.iload X306.here hx rfl (hb hby d4_86) rfl  k) ?_
      show own_Fin p e below G (T306.setTop (mkF m 88 #[rv a1, .val (.long x0), .second, .val (.long x4), .second, iv (1 : Int32), iv (3 : Int32)] [(.int (3 : Int32)), (.ref a2), (.long x4)]))
      refine own_st (fun _ k => own_ldJ X306 hx hZ e306 V300 (j := (3 : Int32)) (n := 16) rfl (by decide) (g := (mkF m 88 #[rv a1, .val (.long x0), .second, .val (.long x4), .second, iv (1 : Int32), iv (3 : Int32)] [(.int (3 : Int32)), (.ref a2), (.long x4)])) rfl rfl (hb hby d4_88) k) ?_
      show own_Fin p e below G (T306.setTop (mkF m 89 #[rv a1, .val (.long x0), .second, .val (.long x4), .second, iv (1 : Int32), iv (3 : Int32)] [(.long x3), (.long x4)]))
      refine own_st (fun _ k => XS.lcmp X306.here hx rfl (hb hby d4_89) rfl k) ?_
      show own_Fin p e below G (T306.setTop (mkF m 90 #[rv a1, .val (.long x0), .second, .val (.long x4), .second, iv (1 : Int32), iv (3 : Int32)] [(.int (lcmpW x4 x3))]))
      by_cases hc90_307 : (0 : Int32) < (lcmpW x4 x3)
      · refine own_st (fun _ k => XS.ifYes X306.here hx rfl (pc0 := 90) (pc' := 96) rfl (hb hby d4_90) rfl ((if0 _ _).trans (tlt hc90_307).2.2.1) (by decide) (by decide) k) ?_
        show own_Fin p e below G (T306.setTop (mkF m 96 #[rv a1, .val (.long x0), .second, .val (.long x4), .second, iv (1 : Int32), iv (3 : Int32)] []))
        refine own_st (fun _ k => XS.aloadN X306.here hx rfl (hb hby d4_96) rfl rfl k) ?_
        show own_Fin p e below G (T306.setTop (mkF m 97 #[rv a1, .val (.long x0), .second, .val (.long x4), .second, iv (1 : Int32), iv (3 : Int32)] [(.ref a1)]))
        obtain ⟨T308, X308, e308, st308⟩ := getF X306 hx hZ hown (host := "") (Or.inl (own_w hw 10 rfl)) Via.refl e306 f301_2 (g := (mkF m 97 #[rv a1, .val (.long x0), .second, .val (.long x4), .second, iv (1 : Int32), iv (3 : Int32)] [(.ref a1)])) rfl rfl (hb hby d4_97)
        refine own_st st308 ?_
        clear st308
        show own_Fin p e below G (T308.setTop (mkF m 100 #[rv a1, .val (.long x0), .second, .val (.long x4), .second, iv (1 : Int32), iv (3 : Int32)] [(.ref a2)]))
        refine own_st (fun _ k => XS.iload X308.here hx rfl (hb hby d4_100) rfl  k) ?_
        show own_Fin p e below G (T308.setTop (mkF m 102 #[rv a1, .val (.long x0), .second, .val (.long x4), .second, iv (1 : Int32), iv (3 : Int32)] [(.int (1 : Int32)), (.ref a2)]))
        refine own_st (fun _ k => XS.aloadN X308.here hx rfl (hb hby d4_102) rfl rfl k) ?_
        show own_Fin p e below G (T308.setTop (mkF m 103 #[rv a1, .val (.long x0), .second, .val (.long x4), .second, iv (1 : Int32), iv (3 : Int32)] [(.ref a1), (.int (1 : Int32)), (.ref a2)]))
        obtain ⟨T309, X309, e309, st309⟩ := getF X308 hx hZ hown (host := "") (Or.inl (own_w hw 10 rfl)) Via.refl e308 f301_2 (g := (mkF m 103 #[rv a1, .val (.long x0), .second, .val (.long x4), .second, iv (1 : Int32), iv (3 : Int32)] [(.ref a1), (.int (1 : Int32)), (.ref a2)])) rfl rfl (hb hby d4_103)
        clear X308 e308
        refine own_st st309 ?_
        clear st309
        show own_Fin p e below G (T309.setTop (mkF m 106 #[rv a1, .val (.long x0), .second, .val (.long x4), .second, iv (1 : Int32), iv (3 : Int32)] [(.ref a2), (.int (1 : Int32)), (.ref a2)]))
        refine own_st (fun _ k => XS.iload X309.here hx rfl (hb hby d4_106) rfl  k) ?_
        show own_Fin p e below G (T309.setTop (mkF m 108 #[rv a1, .val (.long x0), .second, .val (.long x4), .second, iv (1 : Int32), iv (3 : Int32)] [(.int (3 : Int32)), (.ref a2), (.int (1 : Int32)), (.ref a2)]))
        refine own_st (fun _ k => own_ldJ X309 hx hZ e309 V300 (j := (3 : Int32)) (n := 16) rfl (by decide) (g := (mkF m 108 #[rv a1, .val (.long x0), .second, .val (.long x4), .second, iv (1 : Int32), iv (3 : Int32)] [(.int (3 : Int32)), (.ref a2), (.int (1 : Int32)), (.ref a2)])) rfl rfl (hb hby d4_108) k) ?_
        show own_Fin p e below G (T309.setTop (mkF m 109 #[rv a1, .val (.long x0), .second, .val (.long x4), .second, iv (1 : Int32), iv (3 : Int32)] [(.long x3), (.int (1 : Int32)), (.ref a2)]))
        obtain ⟨T310, h310, X310, e310, W310, V310, st310⟩ := own_stJ X309 hx hZ e309 V300 (j := (1 : Int32)) (n := 16) rfl (by decide) (g := (mkF m 109 #[rv a1, .val (.long x0), .second, .val (.long x4), .second, iv (1 : Int32), iv (3 : Int32)] [(.long x3), (.int (1 : Int32)), (.ref a2)])) rfl rfl (hb hby d4_109)
        clear X309 e309
        have f311_0 := f301_0.wr W310
        have f311_1 := f301_1.other W310 (Or.inl ne12)
        have f311_2 := f301_2.other W310 (Or.inl ne12)
        have K312 : Keep h0 h310 [a1, a2] := K302.wr W310 (Or.inl (List.mem_of_getElem? (i := 1) rfl))
        clear W310
        have N313 := Fr.snoc X310 N303 g2
        replace V310 : own_AV Z h310 a2 .long (own_js [x1, x3, x2, x3, x4, x5, x6, x7, x8, x9, x10, x11, x12, x13, x14, x15]) := V310
        refine own_st st310 ?_
        clear st310
        show own_Fin p e below G (T310.setTop (mkF m 110 #[rv a1, .val (.long x0), .second, .val (.long x4), .second, iv (1 : Int32), iv (3 : Int32)] []))
        refine own_st (fun _ k => XS.iload X310.here hx rfl (hb hby d4_110) rfl  k) ?_
        show own_Fin p e below G (T310.setTop (mkF m 112 #[rv a1, .val (.long x0), .second, .val (.long x4), .second, iv (1 : Int32), iv (3 : Int32)] [(.int (3 : Int32))]))
        refine own_st (fun _ k => XS.istore X310.here hx rfl (hb hby d4_112) rfl (l' := #[rv a1, .val (.long x0), .second, .val (.long x4), .second, iv (3 : Int32), iv (3 : Int32)]) rfl k) ?_
        show own_Fin p e below G (T310.setTop (mkF m 114 #[rv a1, .val (.long x0), .second, .val (.long x4), .second, iv (3 : Int32), iv (3 : Int32)] []))
        refine own_st (fun _ k => XS.goto X310.here hx rfl (pc0 := 114) (pc' := 27) rfl (hb hby d4_114) (by decide) (by decide) k) ?_
        show own_Fin p e below G (T310.setTop (mkF m 27 #[rv a1, .val (.long x0), .second, .val (.long x4), .second, iv (3 : Int32), iv (3 : Int32)] []))
        refine own_st (fun _ k => XS.iconst X310.here hx rfl (hb hby d4_27) k) ?_
        show own_Fin p e below G (T310.setTop (mkF m 28 #[rv a1, .val (.long x0), .second, .val (.long x4), .second, iv (3 : Int32), iv (3 : Int32)] [(.int (2 : Int32))]))
        refine own_st (fun _ k => XS.iload X310.here hx rfl (hb hby d4_28) rfl  k) ?_
        show own_Fin p e below G (T310.setTop (mkF m 30 #[rv a1, .val (.long x0), .second, .val (.long x4), .second, iv (3 : Int32), iv (3 : Int32)] [(.int (3 : Int32)), (.int (2 : Int32))]))
        refine own_st (fun _ k => XS.imul X310.here hx rfl (hb hby d4_30) rfl k) ?_
        show own_Fin p e below G (T310.setTop (mkF m 31 #[rv a1, .val (.long x0), .second, .val (.long x4), .second, iv (3 : Int32), iv (3 : Int32)] [(.int (6 : Int32))]))
        refine own_st (fun _ k => XS.iconst X310.here hx rfl (hb hby d4_31) k) ?_
        show own_Fin p e below G (T310.setTop (mkF m 32 #[rv a1, .val (.long x0), .second, .val (.long x4), .second, iv (3 : Int32), iv (3 : Int32)] [(.int (1 : Int32)), (.int (6 : Int32))]))
        refine own_st (fun _ k => XS.iadd X310.here hx rfl (hb hby d4_32) rfl k) ?_
        show own_Fin p e below G (T310.setTop (mkF m 33 #[rv a1, .val (.long x0), .second, .val (.long x4), .second, iv (3 : Int32), iv (3 : Int32)] [(.int (7 : Int32))]))
        refine own_st (fun _ k => XS.istore X310.here hx rfl (hb hby d4_33) rfl (l' := #[rv a1, .val (.long x0), .second, .val (.long x4), .second, iv (3 : Int32), iv (7 : Int32)]) rfl k) ?_
        show own_Fin p e below G (T310.setTop (mkF m 35 #[rv a1, .val (.long x0), .second, .val (.long x4), .second, iv (3 : Int32), iv (7 : Int32)] []))
        refine own_st (fun _ k => XS.iload X310.here hx rfl (hb hby d4_35) rfl  k) ?_
        show own_Fin p e below G (T310.setTop (mkF m 37 #[rv a1, .val (.long x0), .second, .val (.long x4), .second, iv (3 : Int32), iv (7 : Int32)] [(.int (7 : Int32))]))
        refine own_st (fun _ k => XS.aloadN X310.here hx rfl (hb hby d4_37) rfl rfl k) ?_
        show own_Fin p e below G (T310.setTop (mkF m 38 #[rv a1, .val (.long x0), .second, .val (.long x4), .second, iv (3 : Int32), iv (7 : Int32)] [(.ref a1), (.int (7 : Int32))]))
        obtain ⟨T314, X314, e314, st314⟩ := getF X310 hx hZ hown (host := "") (Or.inl (own_w hw 17 rfl)) Via.refl e310 f311_1 (g := (mkF m 38 #[rv a1, .val (.long x0), .second, .val (.long x4), .second, iv (3 : Int32), iv (7 : Int32)] [(.ref a1), (.int (7 : Int32))])) rfl rfl (hb hby d4_38)
        clear X310 e310
        refine own_st st314 ?_
        clear st314
        show own_Fin p e below G (T314.setTop (mkF m 41 #[rv a1, .val (.long x0), .second, .val (.long x4), .second, iv (3 : Int32), iv (7 : Int32)] [(.int (4 : Int32)), (.int (7 : Int32))]))
        refine own_st (fun _ k => XS.icmpNo X314.here hx rfl (hb hby d4_41) rfl (flt (by decide : ¬ ((7 : Int32) < (4 : Int32)))).1 k) ?_
        show own_Fin p e below G (T314.setTop (mkF m 44 #[rv a1, .val (.long x0), .second, .val (.long x4), .second, iv (3 : Int32), iv (7 : Int32)] []))
        refine own_st (fun _ k => XS.goto X314.here hx rfl (pc0 := 44) (pc' := 117) rfl (hb hby d4_44) (by decide) (by decide) k) ?_
        show own_Fin p e below G (T314.setTop (mkF m 117 #[rv a1, .val (.long x0), .second, .val (.long x4), .second, iv (3 : Int32), iv (7 : Int32)] []))
        refine own_st (fun _ k => XS.aloadN X314.here hx rfl (hb hby d4_117) rfl rfl k) ?_
        show own_Fin p e below G (T314.setTop (mkF m 118 #[rv a1, .val (.long x0), .second, .val (.long x4), .second, iv (3 : Int32), iv (7 : Int32)] [(.ref a1)]))
        obtain ⟨T315, X315, e315, st315⟩ := getF X314 hx hZ hown (host := "") (Or.inl (own_w hw 10 rfl)) Via.refl e314 f311_2 (g := (mkF m 118 #[rv a1, .val (.long x0), .second, .val (.long x4), .second, iv (3 : Int32), iv (7 : Int32)] [(.ref a1)])) rfl rfl (hb hby d4_118)
        clear X314 e314
        refine own_st st315 ?_
        clear st315
        show own_Fin p e below G (T315.setTop (mkF m 121 #[rv a1, .val (.long x0), .second, .val (.long x4), .second, iv (3 : Int32), iv (7 : Int32)] [(.ref a2)]))
        refine own_st (fun _ k => XS.iload X315.here hx rfl (hb hby d4_121) rfl  k) ?_
        show own_Fin p e below G (T315.setTop (mkF m 123 #[rv a1, .val (.long x0), .second, .val (.long x4), .second, iv (3 : Int32), iv (7 : Int32)] [(.int (3 : Int32)), (.ref a2)]))
        refine own_st (fun _ k => XS.lloadN X315.here hx rfl (hb hby d4_123) rfl  k) ?_
        show own_Fin p e below G (T315.setTop (mkF m 124 #[rv a1, .val (.long x0), .second, .val (.long x4), .second, iv (3 : Int32), iv (7 : Int32)] [(.long x4), (.int (3 : Int32)), (.ref a2)]))
        obtain ⟨T316, h316, X316, e316, W316, V316, st316⟩ := own_stJ X315 hx hZ e315 V310 (j := (3 : Int32)) (n := 16) rfl (by decide) (g := (mkF m 124 #[rv a1, .val (.long x0), .second, .val (.long x4), .second, iv (3 : Int32), iv (7 : Int32)] [(.long x4), (.int (3 : Int32)), (.ref a2)])) rfl rfl (hb hby d4_124)
        clear V310 X315 e315
        have f317_0 := f311_0.wr W316
        clear f311_0 f317_0
        have f317_1 := f311_1.other W316 (Or.inl ne12)
        clear f311_1
        have f317_2 := f311_2.other W316 (Or.inl ne12)
        clear f311_2
        have K318 : Keep h0 h316 [a1, a2] := K312.wr W316 (Or.inl (List.mem_of_getElem? (i := 1) rfl))
        clear K312 W316
        have N319 := Fr.snoc X316 N313 g2
        clear N313
        replace V316 : own_AV Z h316 a2 .long (own_js [x1, x3, x2, x4, x4, x5, x6, x7, x8, x9, x10, x11, x12, x13, x14, x15]) := V316
        refine own_st st316 ?_
        clear st316
        show own_Fin p e below G (T316.setTop (mkF m 125 #[rv a1, .val (.long x0), .second, .val (.long x4), .second, iv (3 : Int32), iv (7 : Int32)] []))
        refine own_st (fun _ k => XS.lloadN X316.here hx rfl (hb hby d4_125) rfl  k) ?_
        show own_Fin p e below G (T316.setTop (mkF m 126 #[rv a1, .val (.long x0), .second, .val (.long x4), .second, iv (3 : Int32), iv (7 : Int32)] [(.long x0)]))
        refine own_out X316 Bd.notSynchronized (v := (some (.long x0))) (fun h => by rw [Bd.returns] at h; cases h) hG (fun fs hr => retOut X316 hx Bd.returns rfl (Or.inr (Or.inl ⟨rfl, rfl, _, rfl⟩)) (hb hby d4_126) hr) (by decide) (by decide) ?_
        have o_hc75_276 : ¬ x2.toInt < x1.toInt := fun q => hc75_276 (own_lt0.mpr q)
        have o_hc90_297 : x1.toInt < x4.toInt := own_gt.mp hc90_297
        have o_hc90_307 : x3.toInt < x4.toInt := own_gt.mp hc90_307
        refine ⟨rfl, N319, e316.symm ▸ K318, e316.symm ▸ f317_1, e316.symm ▸ f317_2, x1, x3, x2, x4, e316.symm ▸ V316, ?_, fun t => ?_⟩
        · omega
        · omega
      · refine own_st (fun _ k => XS.ifNo X306.here hx rfl (hb hby d4_90) rfl ((if0 _ _).trans (flt hc90_307).2.2.1) k) ?_
        show own_Fin p e below G (T306.setTop (mkF m 93 #[rv a1, .val (.long x0), .second, .val (.long x4), .second, iv (1 : Int32), iv (3 : Int32)] []))
        refine own_st (fun _ k => XS.goto X306.here hx rfl (pc0 := 93) (pc' := 117) rfl (hb hby d4_93) (by decide) (by decide) k) ?_
        show own_Fin p e below G (T306.setTop (mkF m 117 #[rv a1, .val (.long x0), .second, .val (.long x4), .second, iv (1 : Int32), iv (3 : Int32)] []))
        refine own_st (fun _ k => XS.aloadN X306.here hx rfl (hb hby d4_117) rfl rfl k) ?_
        show own_Fin p e below G (T306.setTop (mkF m 118 #[rv a1, .val (.long x0), .second, .val (.long x4), .second, iv (1 : Int32), iv (3 : Int32)] [(.ref a1)]))
        obtain ⟨T320, X320, e320, st320⟩ := getF X306 hx hZ hown (host := "") (Or.inl (own_w hw 10 rfl)) Via.refl e306 f301_2 (g := (mkF m 118 #[rv a1, .val (.long x0), .second, .val (.long x4), .second, iv (1 : Int32), iv (3 : Int32)] [(.ref a1)])) rfl rfl (hb hby d4_118)
        clear X306 e306
        refine own_st st320 ?_
        clear st320
        show own_Fin p e below G (T320.setTop (mkF m 121 #[rv a1, .val (.long x0), .second, .val (.long x4), .second, iv (1 : Int32), iv (3 : Int32)] [(.ref a2)]))
        refine own_st (fun _ k => XS.iload X320.here hx rfl (hb hby d4_121) rfl  k) ?_
        show own_Fin p e below G (T320.setTop (mkF m 123 #[rv a1, .val (.long x0), .second, .val (.long x4), .second, iv (1 : Int32), iv (3 : Int32)] [(.int (1 : Int32)), (.ref a2)]))
        refine own_st (fun _ k => XS.lloadN X320.here hx rfl (hb hby d4_123) rfl  k) ?_
        show own_Fin p e below G (T320.setTop (mkF m 124 #[rv a1, .val (.long x0), .second, .val (.long x4), .second, iv (1 : Int32), iv (3 : Int32)] [(.long x4), (.int (1 : Int32)), (.ref a2)]))
        obtain ⟨T321, h321, X321, e321, W321, V321, st321⟩ := own_stJ X320 hx hZ e320 V300 (j := (1 : Int32)) (n := 16) rfl (by decide) (g := (mkF m 124 #[rv a1, .val (.long x0), .second, .val (.long x4), .second, iv (1 : Int32), iv (3 : Int32)] [(.long x4), (.int (1 : Int32)), (.ref a2)])) rfl rfl (hb hby d4_124)
        clear V300 X320 e320
        have f322_0 := f301_0.wr W321
        clear f301_0 f322_0
        have f322_1 := f301_1.other W321 (Or.inl ne12)
        clear f301_1
        have f322_2 := f301_2.other W321 (Or.inl ne12)
        clear f301_2
        have K323 : Keep h0 h321 [a1, a2] := K302.wr W321 (Or.inl (List.mem_of_getElem? (i := 1) rfl))
        clear K302 W321
        have N324 := Fr.snoc X321 N303 g2
        clear N303
        replace V321 : own_AV Z h321 a2 .long (own_js [x1, x4, x2, x3, x4, x5, x6, x7, x8, x9, x10, x11, x12, x13, x14, x15]) := V321
        refine own_st st321 ?_
        clear st321
        show own_Fin p e below G (T321.setTop (mkF m 125 #[rv a1, .val (.long x0), .second, .val (.long x4), .second, iv (1 : Int32), iv (3 : Int32)] []))
        refine own_st (fun _ k => XS.lloadN X321.here hx rfl (hb hby d4_125) rfl  k) ?_
        show own_Fin p e below G (T321.setTop (mkF m 126 #[rv a1, .val (.long x0), .second, .val (.long x4), .second, iv (1 : Int32), iv (3 : Int32)] [(.long x0)]))
        refine own_out X321 Bd.notSynchronized (v := (some (.long x0))) (fun h => by rw [Bd.returns] at h; cases h) hG (fun fs hr => retOut X321 hx Bd.returns rfl (Or.inr (Or.inl ⟨rfl, rfl, _, rfl⟩)) (hb hby d4_126) hr) (by decide) (by decide) ?_
        have o_hc75_276 : ¬ x2.toInt < x1.toInt := fun q => hc75_276 (own_lt0.mpr q)
        have o_hc90_297 : x1.toInt < x4.toInt := own_gt.mp hc90_297
        have o_hc90_307 : ¬ x3.toInt < x4.toInt := fun q => hc90_307 (own_gt.mpr q)
        refine ⟨rfl, N324, e321.symm ▸ K323, e321.symm ▸ f322_1, e321.symm ▸ f322_2, x1, x4, x2, x3, e321.symm ▸ V321, ?_, fun t => ?_⟩
        · omega
        · omega
    · refine own_st (fun _ k => XS.ifNo X296.here hx rfl (hb hby d4_90) rfl ((if0 _ _).trans (flt hc90_297).2.2.1) k) ?_
      show own_Fin p e below G (T296.setTop (mkF m 93 #[rv a1, .val (.long x0), .second, .val (.long x4), .second, iv (0 : Int32), iv (1 : Int32)] []))
      refine own_st (fun _ k => XS.goto X296.here hx rfl (pc0 := 93) (pc' := 117) rfl (hb hby d4_93) (by decide) (by decide) k) ?_
      show own_Fin p e below G (T296.setTop (mkF m 117 #[rv a1, .val (.long x0), .second, .val (.long x4), .second, iv (0 : Int32), iv (1 : Int32)] []))
      refine own_st (fun _ k => XS.aloadN X296.here hx rfl (hb hby d4_117) rfl rfl k) ?_
      show own_Fin p e below G (T296.setTop (mkF m 118 #[rv a1, .val (.long x0), .second, .val (.long x4), .second, iv (0 : Int32), iv (1 : Int32)] [(.ref a1)]))
      obtain ⟨T325, X325, e325, st325⟩ := getF X296 hx hZ hown (host := "") (Or.inl (own_w hw 10 rfl)) Via.refl e296 f268_2 (g := (mkF m 118 #[rv a1, .val (.long x0), .second, .val (.long x4), .second, iv (0 : Int32), iv (1 : Int32)] [(.ref a1)])) rfl rfl (hb hby d4_118)
      clear X296 e296
      refine own_st st325 ?_
      clear st325
      show own_Fin p e below G (T325.setTop (mkF m 121 #[rv a1, .val (.long x0), .second, .val (.long x4), .second, iv (0 : Int32), iv (1 : Int32)] [(.ref a2)]))
      refine own_st (fun _ k => XS.iload X325.here hx rfl (hb hby d4_121) rfl  k) ?_
      show own_Fin p e below G (T325.setTop (mkF m 123 #[rv a1, .val (.long x0), .second, .val (.long x4), .second, iv (0 : Int32), iv (1 : Int32)] [(.int (0 : Int32)), (.ref a2)]))
      refine own_st (fun _ k => XS.lloadN X325.here hx rfl (hb hby d4_123) rfl  k) ?_
      show own_Fin p e below G (T325.setTop (mkF m 124 #[rv a1, .val (.long x0), .second, .val (.long x4), .second, iv (0 : Int32), iv (1 : Int32)] [(.long x4), (.int (0 : Int32)), (.ref a2)]))
      obtain ⟨T326, h326, X326, e326, W326, V326, st326⟩ := own_stJ X325 hx hZ e325 f268_3 (j := (0 : Int32)) (n := 16) rfl (by decide) (g := (mkF m 124 #[rv a1, .val (.long x0), .second, .val (.long x4), .second, iv (0 : Int32), iv (1 : Int32)] [(.long x4), (.int (0 : Int32)), (.ref a2)])) rfl rfl (hb hby d4_124)
      clear f268_3 X325 e325
      have f327_0 := f268_0.wr W326
      clear f268_0 f327_0
      have f327_1 := Fw267.other W326 (Or.inl ne12)
      clear Fw267
      have f327_2 := f268_2.other W326 (Or.inl ne12)
      clear f268_2
      have K328 : Keep h0 h326 [a1, a2] := K270.wr W326 (Or.inl (List.mem_of_getElem? (i := 1) rfl))
      clear K270 W326
      have N329 := Fr.snoc X326 N271 g2
      clear N271
      replace V326 : own_AV Z h326 a2 .long (own_js [x4, x1, x2, x3, x4, x5, x6, x7, x8, x9, x10, x11, x12, x13, x14, x15]) := V326
      refine own_st st326 ?_
      clear st326
      show own_Fin p e below G (T326.setTop (mkF m 125 #[rv a1, .val (.long x0), .second, .val (.long x4), .second, iv (0 : Int32), iv (1 : Int32)] []))
      refine own_st (fun _ k => XS.lloadN X326.here hx rfl (hb hby d4_125) rfl  k) ?_
      show own_Fin p e below G (T326.setTop (mkF m 126 #[rv a1, .val (.long x0), .second, .val (.long x4), .second, iv (0 : Int32), iv (1 : Int32)] [(.long x0)]))
      refine own_out X326 Bd.notSynchronized (v := (some (.long x0))) (fun h => by rw [Bd.returns] at h; cases h) hG (fun fs hr => retOut X326 hx Bd.returns rfl (Or.inr (Or.inl ⟨rfl, rfl, _, rfl⟩)) (hb hby d4_126) hr) (by decide) (by decide) ?_
      have o_hc75_276 : ¬ x2.toInt < x1.toInt := fun q => hc75_276 (own_lt0.mpr q)
      have o_hc90_297 : ¬ x1.toInt < x4.toInt := fun q => hc90_297 (own_gt.mpr q)
      refine ⟨rfl, N329, e326.symm ▸ K328, e326.symm ▸ f327_1, e326.symm ▸ f327_2, x4, x1, x2, x3, e326.symm ▸ V326, ?_, fun t => ?_⟩
      · omega
      · omega

theorem pd___V_167 : parseMethodDescriptor "()V" = some ⟨[], none⟩ := by decide +kernel
theorem pd__J_V_241 : parseMethodDescriptor "(J)V" = some ⟨[.long], none⟩ := by decide +kernel
theorem pd___J_155 : parseMethodDescriptor "()J" = some ⟨[], some .long⟩ := by decide +kernel
theorem pd__JJ_J_303 : parseMethodDescriptor "(JJ)J" = some ⟨[.long, .long], some .long⟩ := by decide +kernel
theorem pd___Z_171 : parseMethodDescriptor "()Z" = some ⟨[], some .boolean⟩ := by decide +kernel
theorem pn_com_example_urania_urania_layered_KeyHeapPollPinLaw : plainName "com/example/urania/urania/layered/KeyHeapPollPinLaw" = true := by first | (simp [plainName, overriddenIn]; done) | decide +kernel
theorem ef_0_JJJJJ (m : MethodId) (x0 : Int64) (x1 : Int64) (x2 : Int64) (x3 : Int64) (x4 : Int64) : entryFrame m #[(.long x0), (.long x1), (.long x2), (.long x3), (.long x4)] maxLocals = mkF m 0 #[.val (.long x0), .second, .val (.long x1), .second, .val (.long x2), .second, .val (.long x3), .second, .val (.long x4), .second, .unset, .unset, .unset, .unset, .unset, .unset, .unset, .unset, .unset, .unset, .unset, .unset, .unset, .unset, .unset, .unset, .unset, .unset, .unset, .unset, .unset, .unset, .unset] [] := by first | (simp [entryFrame, mkF, argsToLocals, Value.category, maxLocals]; done) | rfl
def Qrm0 (Z : State) (k0' : Int64) (k1' : Int64) (k2' : Int64) (k3' : Int64) (k4' : Int64) (h0 : Heap) (n0 : Nat) (v : Option Value) (h : Heap) (L : List Loc) : Prop := v = some (.int 1) ∧ Fr n0 L
set_option maxRecDepth 65536 in
set_option maxHeartbeats 40000000 in
theorem rm0 (l : Launch) (Z : State) (a0 : Array Value) (hw : ∀ d ∈ tables_1, d.before a0 Z = true) (ws : List Jvm.Cond) (k0' : Int64) (k1' : Int64) (k2' : Int64) (k3' : Int64) (k4' : Int64) (h0 : Heap) (n0 : Nat) (Z0 : n0 ≤ h0.size) :
    MetFree l x (head1 (Jvm.Cond.code x code maxLocals ret :: ws) room_1) (fun a U => a = #[(.long k0'), (.long k1'), (.long k2'), (.long k3'), (.long k4')] ∧ Z.Warmed39 U.vm ∧ U.heap = h0) (fun _ _ _ _ _ => True) (fun _ U o U' => ∃ v L, o = .returned v ∧ Qrm0 Z k0' k1' k2' k3' k4' h0 n0 v U'.heap L ∧ FrameEnd U o U' L room_1.cells room_1.slots) := by
  refine MetFree.of_bodySF (plainFor_of_name pn_com_example_urania_urania_layered_KeyHeapPollPinLaw) hisR ?_
  intro p e s m args below meth c s₁ Bd hml0 hP hK
  obtain ⟨rfl, hZ, hh⟩ := hP
  have hx := Bd.exec
  have hby := Bd.bytes
  have hml : c.maxLocals = 33 := hml0
  have hown : s.vm.findClass "com/example/urania/urania/layered/KeyHeapPollPinLaw" = some m.cls := findClass_of_methodNamed Bd.named
  have hnm := (name_of_methodNamed Bd.named Bd.method).1
  have X0 : Stand p l e room_1 s m #[(.long k0'), (.long k1'), (.long k2'), (.long k3'), (.long k4')] below meth c s₁ [] 0 0 := Stand.of_body Bd
  have e0 : s₁.heap = h0 := by rw [← hh, Bd.state]; rfl
  have N0 := Fr.nil n0
  have K0 : Keep h0 h0 [] := Keep.refl _ _
  refine own_start (Qk := Qrm0 Z k0' k1' k2' k3' k4' h0 n0) (fun G hG => ?_)
  refine own_st (fun _ k => castTop (ef_0_JJJJJ m k0' k1' k2' k3' k4') k) ?_
  show own_Fin p e below G (s₁.setTop (mkF m 0 #[.val (.long k0'), .second, .val (.long k1'), .second, .val (.long k2'), .second, .val (.long k3'), .second, .val (.long k4'), .second, .unset, .unset, .unset, .unset, .unset, .unset, .unset, .unset, .unset, .unset, .unset, .unset, .unset, .unset, .unset, .unset, .unset, .unset, .unset, .unset, .unset, .unset, .unset] []))
  obtain ⟨T330, h330, X330, e330, E330, A330, D330, M330, st330⟩ := newO X0 hx hZ hown (own_w hw 0 rfl) (own_w hw 1 rfl) (own_w hw 2 rfl) e0 (g := (mkF m 0 #[.val (.long k0'), .second, .val (.long k1'), .second, .val (.long k2'), .second, .val (.long k3'), .second, .val (.long k4'), .second, .unset, .unset, .unset, .unset, .unset, .unset, .unset, .unset, .unset, .unset, .unset, .unset, .unset, .unset, .unset, .unset, .unset, .unset, .unset, .unset, .unset, .unset, .unset] [])) rfl (hb hby at_0) (by decide) (by decide)
  clear X0 e0 M330
  obtain ⟨b330, g330⟩ : ∃ z, z = h0.size := ⟨_, rfl⟩
  rw [← g330] at A330 D330 st330
  have sz_b330 : h0.size ≤ b330 := Nat.le_trans K0.1 (Nat.le_of_eq g330.symm)
  have g_b330 : n0 ≤ b330 := Nat.le_trans Z0 sz_b330
  have K332 : Keep h0 h330 [] := K0.ext E330
  clear K0 E330
  have f333 : Fld Z h330 b330 "com/example/urania/urania/layered/KeyHeap" "keys" "[J" .null := D330 (Or.inl (own_w hw 11 rfl)) (ty := (.array .long)) (by decide)
  have f334 : Fld Z h330 b330 "com/example/urania/urania/layered/KeyHeap" "count" "I" (.int (0 : Int32)) := D330 (Or.inl (own_w hw 18 rfl)) (ty := .int) (by decide)
  clear D330
  refine own_st st330 ?_
  clear st330
  show own_Fin p e below G (T330.setTop (mkF m 3 #[.val (.long k0'), .second, .val (.long k1'), .second, .val (.long k2'), .second, .val (.long k3'), .second, .val (.long k4'), .second, .unset, .unset, .unset, .unset, .unset, .unset, .unset, .unset, .unset, .unset, .unset, .unset, .unset, .unset, .unset, .unset, .unset, .unset, .unset, .unset, .unset, .unset, .unset] [(.ref b330)]))
  refine own_st (fun _ k => XS.dup X330.here hx rfl (hb hby at_3) rfl rfl k) ?_
  show own_Fin p e below G (T330.setTop (mkF m 4 #[.val (.long k0'), .second, .val (.long k1'), .second, .val (.long k2'), .second, .val (.long k3'), .second, .val (.long k4'), .second, .unset, .unset, .unset, .unset, .unset, .unset, .unset, .unset, .unset, .unset, .unset, .unset, .unset, .unset, .unset, .unset, .unset, .unset, .unset, .unset, .unset, .unset, .unset] [(.ref b330), (.ref b330)]))
  obtain ⟨_, _, ⟨T335, L335, k335, n335⟩, -, X335, ⟨Lc335, hQ335, l335, y335, z335⟩, st335⟩ := X330.specialBack hx (y := own_y3) rfl hown (mvT hZ (own_w hw 3 rfl)) (mvT hZ (own_w hw 4 rfl)) (mvT hZ (own_w hw 5 rfl)) (by decide) (backOf (W := 1) (rm_ini l Z a0 hw [] b330 h330 n0 (Nat.le_trans Z0 K332.1) A330 f334 f333 g_b330) hZ (own_w hw 5 rfl) (own_w hw 2 rfl) (by decide) (by decide)) (g := (mkF m 4 #[.val (.long k0'), .second, .val (.long k1'), .second, .val (.long k2'), .second, .val (.long k3'), .second, .val (.long k4'), .second, .unset, .unset, .unset, .unset, .unset, .unset, .unset, .unset, .unset, .unset, .unset, .unset, .unset, .unset, .unset, .unset, .unset, .unset, .unset, .unset, .unset, .unset, .unset] [(.ref b330), (.ref b330)])) rfl (by rw [hml]; rfl) (Steps.refl _) (a := b330) (argsL := []) (rest := [(.ref b330)]) (lenOf pd___V_167 rfl) rfl (by show 2 * 0 + _ ≤ _; exact Nat.le_of_eq rfl) (hb hby at_4) (fun _ _ => ⟨rfl, e330, (by decide : 1 + 1 ≤ _), (by decide : 2 + 16 ≤ _)⟩)
  clear X330 e330 f333 f334
  dsimp only [Pt.U, Pt.locs, Pt.cells, Pt.slots] at X335 l335 y335 z335 st335 hQ335
  obtain rfl : k335 = (2 : Nat) := y335
  obtain rfl : n335 = (18 : Nat) := z335
  obtain ⟨rfl, N335q, Kc335, ar, sz335, ne335, gC335, gK335, gA335⟩ := hQ335
  have N335 : Fr n0 L335 := by rw [l335]; exact Fr.app N0 N335q
  clear N0 l335 N335q
  have f336_0 := A330.keep Kc335
  clear A330
  have K337 : Keep h0 T335.heap [] := K332.trans Kc335 (allS (Or.inr sz_b330) all0)
  clear Kc335
  have sz_ar : h0.size ≤ ar := Nat.le_trans K332.1 sz335
  clear K332
  have g_ar : n0 ≤ ar := Nat.le_trans Z0 sz_ar
  refine own_tr st335 ?_
  clear st335
  show own_Fin p e below G (T335.setTop (mkF m 7 #[.val (.long k0'), .second, .val (.long k1'), .second, .val (.long k2'), .second, .val (.long k3'), .second, .val (.long k4'), .second, .unset, .unset, .unset, .unset, .unset, .unset, .unset, .unset, .unset, .unset, .unset, .unset, .unset, .unset, .unset, .unset, .unset, .unset, .unset, .unset, .unset, .unset, .unset] [(.ref b330)]))
  refine own_st (fun _ k => XS.astore X335.here hx rfl (hb hby at_7) rfl rfl (l' := #[.val (.long k0'), .second, .val (.long k1'), .second, .val (.long k2'), .second, .val (.long k3'), .second, .val (.long k4'), .second, rv b330, .unset, .unset, .unset, .unset, .unset, .unset, .unset, .unset, .unset, .unset, .unset, .unset, .unset, .unset, .unset, .unset, .unset, .unset, .unset, .unset, .unset, .unset]) rfl k) ?_
  show own_Fin p e below G (T335.setTop (mkF m 9 #[.val (.long k0'), .second, .val (.long k1'), .second, .val (.long k2'), .second, .val (.long k3'), .second, .val (.long k4'), .second, rv b330, .unset, .unset, .unset, .unset, .unset, .unset, .unset, .unset, .unset, .unset, .unset, .unset, .unset, .unset, .unset, .unset, .unset, .unset, .unset, .unset, .unset, .unset] []))
  refine own_st (fun _ k => XS.aload X335.here hx rfl (hb hby at_9) rfl rfl k) ?_
  show own_Fin p e below G (T335.setTop (mkF m 11 #[.val (.long k0'), .second, .val (.long k1'), .second, .val (.long k2'), .second, .val (.long k3'), .second, .val (.long k4'), .second, rv b330, .unset, .unset, .unset, .unset, .unset, .unset, .unset, .unset, .unset, .unset, .unset, .unset, .unset, .unset, .unset, .unset, .unset, .unset, .unset, .unset, .unset, .unset] [(.ref b330)]))
  refine own_st (fun _ k => XS.lloadN X335.here hx rfl (hb hby at_11) rfl  k) ?_
  show own_Fin p e below G (T335.setTop (mkF m 12 #[.val (.long k0'), .second, .val (.long k1'), .second, .val (.long k2'), .second, .val (.long k3'), .second, .val (.long k4'), .second, rv b330, .unset, .unset, .unset, .unset, .unset, .unset, .unset, .unset, .unset, .unset, .unset, .unset, .unset, .unset, .unset, .unset, .unset, .unset, .unset, .unset, .unset, .unset] [(.long k0'), (.ref b330)]))
  obtain ⟨cq338, kq338, q338a, q338b, q338c⟩ := isOf hZ rfl f336_0
  clear q338b
  obtain ⟨_, _, ⟨T338, L338, k338, n338⟩, -, X338, ⟨Lc338, hQ338, l338, y338, z338⟩, st338⟩ := X335.virtualBack hx (y := own_y4) (z := own_y4) hown (mvT hZ (own_w hw 12 rfl)) (mvT hZ (own_w hw 13 rfl)) (notFace_of_selects (args := #[]) (mvT hZ (own_w hw 15 rfl))) (mvT hZ (own_w hw 15 rfl)) (mvT hZ (own_w hw 14 rfl)) (by decide) (backOf (W := 0) (rm_add0 l Z a0 hw [] b330 k0' ar (0 : Int64) (0 : Int64) (0 : Int64) (0 : Int64) (0 : Int64) (0 : Int64) (0 : Int64) (0 : Int64) (0 : Int64) (0 : Int64) (0 : Int64) (0 : Int64) (0 : Int64) (0 : Int64) (0 : Int64) (0 : Int64) T335.heap n0 (Nat.le_trans Z0 K337.1) f336_0 gC335 gK335 gA335 ne335 g_b330 g_ar trivial) hZ (own_w hw 16 rfl) (own_w hw 2 rfl) (by decide) (by decide)) q338a q338c (g := (mkF m 12 #[.val (.long k0'), .second, .val (.long k1'), .second, .val (.long k2'), .second, .val (.long k3'), .second, .val (.long k4'), .second, rv b330, .unset, .unset, .unset, .unset, .unset, .unset, .unset, .unset, .unset, .unset, .unset, .unset, .unset, .unset, .unset, .unset, .unset, .unset, .unset, .unset, .unset, .unset] [(.long k0'), (.ref b330)])) rfl (by rw [hml]; rfl) (Steps.refl _) (argsL := [(.long k0')]) (rest := []) (lenOf pd__J_V_241 rfl) rfl (by show 2 * 0 + _ ≤ _; exact Nat.le_of_eq rfl) (hb hby at_12) (fun _ _ => ⟨rfl, rfl, (by decide : 2 + 0 ≤ _), (by decide : 18 + 0 ≤ _)⟩)
  clear X335 gC335 gK335 gA335 q338a q338c
  dsimp only [Pt.U, Pt.locs, Pt.cells, Pt.slots] at X338 l338 y338 z338 st338 hQ338
  obtain rfl : k338 = (2 : Nat) := y338
  obtain rfl : n338 = (18 : Nat) := z338
  obtain ⟨rfl, N338q, Kc338, gC338, gK338, y338_0, gA338, gH338, gN338⟩ := hQ338
  have N338 : Fr n0 L338 := by rw [l338]; exact Fr.app N335 N338q
  clear N335 l338 N338q
  have f339_0 := f336_0.keep Kc338
  clear f336_0
  have K340 : Keep h0 T338.heap [] := K337.trans Kc338 (allS (Or.inr sz_b330) (allS (Or.inr sz_ar) all0))
  clear K337 Kc338
  refine own_tr st338 ?_
  clear st338
  show own_Fin p e below G (T338.setTop (mkF m 15 #[.val (.long k0'), .second, .val (.long k1'), .second, .val (.long k2'), .second, .val (.long k3'), .second, .val (.long k4'), .second, rv b330, .unset, .unset, .unset, .unset, .unset, .unset, .unset, .unset, .unset, .unset, .unset, .unset, .unset, .unset, .unset, .unset, .unset, .unset, .unset, .unset, .unset, .unset] []))
  refine own_st (fun _ k => XS.aload X338.here hx rfl (hb hby at_15) rfl rfl k) ?_
  show own_Fin p e below G (T338.setTop (mkF m 17 #[.val (.long k0'), .second, .val (.long k1'), .second, .val (.long k2'), .second, .val (.long k3'), .second, .val (.long k4'), .second, rv b330, .unset, .unset, .unset, .unset, .unset, .unset, .unset, .unset, .unset, .unset, .unset, .unset, .unset, .unset, .unset, .unset, .unset, .unset, .unset, .unset, .unset, .unset] [(.ref b330)]))
  refine own_st (fun _ k => XS.lloadN X338.here hx rfl (hb hby at_17) rfl  k) ?_
  show own_Fin p e below G (T338.setTop (mkF m 18 #[.val (.long k0'), .second, .val (.long k1'), .second, .val (.long k2'), .second, .val (.long k3'), .second, .val (.long k4'), .second, rv b330, .unset, .unset, .unset, .unset, .unset, .unset, .unset, .unset, .unset, .unset, .unset, .unset, .unset, .unset, .unset, .unset, .unset, .unset, .unset, .unset, .unset, .unset] [(.long k1'), (.ref b330)]))
  obtain ⟨cq341, kq341, q341a, q341b, q341c⟩ := isOf hZ rfl f339_0
  clear q341b
  obtain ⟨_, _, ⟨T341, L341, k341, n341⟩, -, X341, ⟨Lc341, hQ341, l341, y341, z341⟩, st341⟩ := X338.virtualBack hx (y := own_y4) (z := own_y4) hown (mvT hZ (own_w hw 12 rfl)) (mvT hZ (own_w hw 13 rfl)) (notFace_of_selects (args := #[]) (mvT hZ (own_w hw 15 rfl))) (mvT hZ (own_w hw 15 rfl)) (mvT hZ (own_w hw 14 rfl)) (by decide) (backOf (W := 0) (rm_add1 l Z a0 hw [] b330 k1' ar y338_0 (0 : Int64) (0 : Int64) (0 : Int64) (0 : Int64) (0 : Int64) (0 : Int64) (0 : Int64) (0 : Int64) (0 : Int64) (0 : Int64) (0 : Int64) (0 : Int64) (0 : Int64) (0 : Int64) (0 : Int64) T338.heap n0 (Nat.le_trans Z0 K340.1) f339_0 gC338 gK338 gA338 ne335 g_b330 g_ar gH338) hZ (own_w hw 16 rfl) (own_w hw 2 rfl) (by decide) (by decide)) q341a q341c (g := (mkF m 18 #[.val (.long k0'), .second, .val (.long k1'), .second, .val (.long k2'), .second, .val (.long k3'), .second, .val (.long k4'), .second, rv b330, .unset, .unset, .unset, .unset, .unset, .unset, .unset, .unset, .unset, .unset, .unset, .unset, .unset, .unset, .unset, .unset, .unset, .unset, .unset, .unset, .unset, .unset] [(.long k1'), (.ref b330)])) rfl (by rw [hml]; rfl) (Steps.refl _) (argsL := [(.long k1')]) (rest := []) (lenOf pd__J_V_241 rfl) rfl (by show 2 * 0 + _ ≤ _; exact Nat.le_of_eq rfl) (hb hby at_18) (fun _ _ => ⟨rfl, rfl, (by decide : 2 + 0 ≤ _), (by decide : 18 + 0 ≤ _)⟩)
  clear X338 gC338 gK338 gA338 q341a q341c
  dsimp only [Pt.U, Pt.locs, Pt.cells, Pt.slots] at X341 l341 y341 z341 st341 hQ341
  obtain rfl : k341 = (2 : Nat) := y341
  obtain rfl : n341 = (18 : Nat) := z341
  obtain ⟨rfl, N341q, Kc341, gC341, gK341, y341_0, y341_1, gA341, gH341, gN341⟩ := hQ341
  have N341 : Fr n0 L341 := by rw [l341]; exact Fr.app N338 N341q
  clear N338 l341 N341q
  have f342_0 := f339_0.keep Kc341
  clear f339_0
  have K343 : Keep h0 T341.heap [] := K340.trans Kc341 (allS (Or.inr sz_b330) (allS (Or.inr sz_ar) all0))
  clear K340 Kc341
  refine own_tr st341 ?_
  clear st341
  show own_Fin p e below G (T341.setTop (mkF m 21 #[.val (.long k0'), .second, .val (.long k1'), .second, .val (.long k2'), .second, .val (.long k3'), .second, .val (.long k4'), .second, rv b330, .unset, .unset, .unset, .unset, .unset, .unset, .unset, .unset, .unset, .unset, .unset, .unset, .unset, .unset, .unset, .unset, .unset, .unset, .unset, .unset, .unset, .unset] []))
  refine own_st (fun _ k => XS.aload X341.here hx rfl (hb hby at_21) rfl rfl k) ?_
  show own_Fin p e below G (T341.setTop (mkF m 23 #[.val (.long k0'), .second, .val (.long k1'), .second, .val (.long k2'), .second, .val (.long k3'), .second, .val (.long k4'), .second, rv b330, .unset, .unset, .unset, .unset, .unset, .unset, .unset, .unset, .unset, .unset, .unset, .unset, .unset, .unset, .unset, .unset, .unset, .unset, .unset, .unset, .unset, .unset] [(.ref b330)]))
  refine own_st (fun _ k => XS.lload X341.here hx rfl (hb hby at_23) rfl  k) ?_
  show own_Fin p e below G (T341.setTop (mkF m 25 #[.val (.long k0'), .second, .val (.long k1'), .second, .val (.long k2'), .second, .val (.long k3'), .second, .val (.long k4'), .second, rv b330, .unset, .unset, .unset, .unset, .unset, .unset, .unset, .unset, .unset, .unset, .unset, .unset, .unset, .unset, .unset, .unset, .unset, .unset, .unset, .unset, .unset, .unset] [(.long k2'), (.ref b330)]))
  obtain ⟨cq344, kq344, q344a, q344b, q344c⟩ := isOf hZ rfl f342_0
  clear q344b
  obtain ⟨_, _, ⟨T344, L344, k344, n344⟩, -, X344, ⟨Lc344, hQ344, l344, y344, z344⟩, st344⟩ := X341.virtualBack hx (y := own_y4) (z := own_y4) hown (mvT hZ (own_w hw 12 rfl)) (mvT hZ (own_w hw 13 rfl)) (notFace_of_selects (args := #[]) (mvT hZ (own_w hw 15 rfl))) (mvT hZ (own_w hw 15 rfl)) (mvT hZ (own_w hw 14 rfl)) (by decide) (backOf (W := 0) (rm_add2 l Z a0 hw [] b330 k2' ar y341_0 y341_1 (0 : Int64) (0 : Int64) (0 : Int64) (0 : Int64) (0 : Int64) (0 : Int64) (0 : Int64) (0 : Int64) (0 : Int64) (0 : Int64) (0 : Int64) (0 : Int64) (0 : Int64) (0 : Int64) T341.heap n0 (Nat.le_trans Z0 K343.1) f342_0 gC341 gK341 gA341 ne335 g_b330 g_ar gH341) hZ (own_w hw 16 rfl) (own_w hw 2 rfl) (by decide) (by decide)) q344a q344c (g := (mkF m 25 #[.val (.long k0'), .second, .val (.long k1'), .second, .val (.long k2'), .second, .val (.long k3'), .second, .val (.long k4'), .second, rv b330, .unset, .unset, .unset, .unset, .unset, .unset, .unset, .unset, .unset, .unset, .unset, .unset, .unset, .unset, .unset, .unset, .unset, .unset, .unset, .unset, .unset, .unset] [(.long k2'), (.ref b330)])) rfl (by rw [hml]; rfl) (Steps.refl _) (argsL := [(.long k2')]) (rest := []) (lenOf pd__J_V_241 rfl) rfl (by show 2 * 0 + _ ≤ _; exact Nat.le_of_eq rfl) (hb hby at_25) (fun _ _ => ⟨rfl, rfl, (by decide : 2 + 0 ≤ _), (by decide : 18 + 0 ≤ _)⟩)
  clear X341 gC341 gK341 gA341 q344a q344c
  dsimp only [Pt.U, Pt.locs, Pt.cells, Pt.slots] at X344 l344 y344 z344 st344 hQ344
  obtain rfl : k344 = (2 : Nat) := y344
  obtain rfl : n344 = (18 : Nat) := z344
  obtain ⟨rfl, N344q, Kc344, gC344, gK344, y344_0, y344_1, y344_2, gA344, gH344, gN344⟩ := hQ344
  have N344 : Fr n0 L344 := by rw [l344]; exact Fr.app N341 N344q
  clear N341 l344 N344q
  have f345_0 := f342_0.keep Kc344
  clear f342_0
  have K346 : Keep h0 T344.heap [] := K343.trans Kc344 (allS (Or.inr sz_b330) (allS (Or.inr sz_ar) all0))
  clear K343 Kc344
  refine own_tr st344 ?_
  clear st344
  show own_Fin p e below G (T344.setTop (mkF m 28 #[.val (.long k0'), .second, .val (.long k1'), .second, .val (.long k2'), .second, .val (.long k3'), .second, .val (.long k4'), .second, rv b330, .unset, .unset, .unset, .unset, .unset, .unset, .unset, .unset, .unset, .unset, .unset, .unset, .unset, .unset, .unset, .unset, .unset, .unset, .unset, .unset, .unset, .unset] []))
  refine own_st (fun _ k => XS.aload X344.here hx rfl (hb hby at_28) rfl rfl k) ?_
  show own_Fin p e below G (T344.setTop (mkF m 30 #[.val (.long k0'), .second, .val (.long k1'), .second, .val (.long k2'), .second, .val (.long k3'), .second, .val (.long k4'), .second, rv b330, .unset, .unset, .unset, .unset, .unset, .unset, .unset, .unset, .unset, .unset, .unset, .unset, .unset, .unset, .unset, .unset, .unset, .unset, .unset, .unset, .unset, .unset] [(.ref b330)]))
  refine own_st (fun _ k => XS.lload X344.here hx rfl (hb hby at_30) rfl  k) ?_
  show own_Fin p e below G (T344.setTop (mkF m 32 #[.val (.long k0'), .second, .val (.long k1'), .second, .val (.long k2'), .second, .val (.long k3'), .second, .val (.long k4'), .second, rv b330, .unset, .unset, .unset, .unset, .unset, .unset, .unset, .unset, .unset, .unset, .unset, .unset, .unset, .unset, .unset, .unset, .unset, .unset, .unset, .unset, .unset, .unset] [(.long k3'), (.ref b330)]))
  obtain ⟨cq347, kq347, q347a, q347b, q347c⟩ := isOf hZ rfl f345_0
  clear q347b
  obtain ⟨_, _, ⟨T347, L347, k347, n347⟩, -, X347, ⟨Lc347, hQ347, l347, y347, z347⟩, st347⟩ := X344.virtualBack hx (y := own_y4) (z := own_y4) hown (mvT hZ (own_w hw 12 rfl)) (mvT hZ (own_w hw 13 rfl)) (notFace_of_selects (args := #[]) (mvT hZ (own_w hw 15 rfl))) (mvT hZ (own_w hw 15 rfl)) (mvT hZ (own_w hw 14 rfl)) (by decide) (backOf (W := 0) (rm_add3 l Z a0 hw [] b330 k3' ar y344_0 y344_1 y344_2 (0 : Int64) (0 : Int64) (0 : Int64) (0 : Int64) (0 : Int64) (0 : Int64) (0 : Int64) (0 : Int64) (0 : Int64) (0 : Int64) (0 : Int64) (0 : Int64) (0 : Int64) T344.heap n0 (Nat.le_trans Z0 K346.1) f345_0 gC344 gK344 gA344 ne335 g_b330 g_ar gH344) hZ (own_w hw 16 rfl) (own_w hw 2 rfl) (by decide) (by decide)) q347a q347c (g := (mkF m 32 #[.val (.long k0'), .second, .val (.long k1'), .second, .val (.long k2'), .second, .val (.long k3'), .second, .val (.long k4'), .second, rv b330, .unset, .unset, .unset, .unset, .unset, .unset, .unset, .unset, .unset, .unset, .unset, .unset, .unset, .unset, .unset, .unset, .unset, .unset, .unset, .unset, .unset, .unset] [(.long k3'), (.ref b330)])) rfl (by rw [hml]; rfl) (Steps.refl _) (argsL := [(.long k3')]) (rest := []) (lenOf pd__J_V_241 rfl) rfl (by show 2 * 0 + _ ≤ _; exact Nat.le_of_eq rfl) (hb hby at_32) (fun _ _ => ⟨rfl, rfl, (by decide : 2 + 0 ≤ _), (by decide : 18 + 0 ≤ _)⟩)
  clear X344 gC344 gK344 gA344 q347a q347c
  dsimp only [Pt.U, Pt.locs, Pt.cells, Pt.slots] at X347 l347 y347 z347 st347 hQ347
  obtain rfl : k347 = (2 : Nat) := y347
  obtain rfl : n347 = (18 : Nat) := z347
  obtain ⟨rfl, N347q, Kc347, gC347, gK347, y347_0, y347_1, y347_2, y347_3, gA347, gH347, gN347⟩ := hQ347
  have N347 : Fr n0 L347 := by rw [l347]; exact Fr.app N344 N347q
  clear N344 l347 N347q
  have f348_0 := f345_0.keep Kc347
  clear f345_0
  have K349 : Keep h0 T347.heap [] := K346.trans Kc347 (allS (Or.inr sz_b330) (allS (Or.inr sz_ar) all0))
  clear K346 Kc347
  refine own_tr st347 ?_
  clear st347
  show own_Fin p e below G (T347.setTop (mkF m 35 #[.val (.long k0'), .second, .val (.long k1'), .second, .val (.long k2'), .second, .val (.long k3'), .second, .val (.long k4'), .second, rv b330, .unset, .unset, .unset, .unset, .unset, .unset, .unset, .unset, .unset, .unset, .unset, .unset, .unset, .unset, .unset, .unset, .unset, .unset, .unset, .unset, .unset, .unset] []))
  refine own_st (fun _ k => XS.aload X347.here hx rfl (hb hby at_35) rfl rfl k) ?_
  show own_Fin p e below G (T347.setTop (mkF m 37 #[.val (.long k0'), .second, .val (.long k1'), .second, .val (.long k2'), .second, .val (.long k3'), .second, .val (.long k4'), .second, rv b330, .unset, .unset, .unset, .unset, .unset, .unset, .unset, .unset, .unset, .unset, .unset, .unset, .unset, .unset, .unset, .unset, .unset, .unset, .unset, .unset, .unset, .unset] [(.ref b330)]))
  refine own_st (fun _ k => XS.lload X347.here hx rfl (hb hby at_37) rfl  k) ?_
  show own_Fin p e below G (T347.setTop (mkF m 39 #[.val (.long k0'), .second, .val (.long k1'), .second, .val (.long k2'), .second, .val (.long k3'), .second, .val (.long k4'), .second, rv b330, .unset, .unset, .unset, .unset, .unset, .unset, .unset, .unset, .unset, .unset, .unset, .unset, .unset, .unset, .unset, .unset, .unset, .unset, .unset, .unset, .unset, .unset] [(.long k4'), (.ref b330)]))
  obtain ⟨cq350, kq350, q350a, q350b, q350c⟩ := isOf hZ rfl f348_0
  clear q350b
  obtain ⟨_, _, ⟨T350, L350, k350, n350⟩, -, X350, ⟨Lc350, hQ350, l350, y350, z350⟩, st350⟩ := X347.virtualBack hx (y := own_y4) (z := own_y4) hown (mvT hZ (own_w hw 12 rfl)) (mvT hZ (own_w hw 13 rfl)) (notFace_of_selects (args := #[]) (mvT hZ (own_w hw 15 rfl))) (mvT hZ (own_w hw 15 rfl)) (mvT hZ (own_w hw 14 rfl)) (by decide) (backOf (W := 0) (rm_add4 l Z a0 hw [] b330 k4' ar y347_0 y347_1 y347_2 y347_3 (0 : Int64) (0 : Int64) (0 : Int64) (0 : Int64) (0 : Int64) (0 : Int64) (0 : Int64) (0 : Int64) (0 : Int64) (0 : Int64) (0 : Int64) (0 : Int64) T347.heap n0 (Nat.le_trans Z0 K349.1) f348_0 gC347 gK347 gA347 ne335 g_b330 g_ar gH347) hZ (own_w hw 16 rfl) (own_w hw 2 rfl) (by decide) (by decide)) q350a q350c (g := (mkF m 39 #[.val (.long k0'), .second, .val (.long k1'), .second, .val (.long k2'), .second, .val (.long k3'), .second, .val (.long k4'), .second, rv b330, .unset, .unset, .unset, .unset, .unset, .unset, .unset, .unset, .unset, .unset, .unset, .unset, .unset, .unset, .unset, .unset, .unset, .unset, .unset, .unset, .unset, .unset] [(.long k4'), (.ref b330)])) rfl (by rw [hml]; rfl) (Steps.refl _) (argsL := [(.long k4')]) (rest := []) (lenOf pd__J_V_241 rfl) rfl (by show 2 * 0 + _ ≤ _; exact Nat.le_of_eq rfl) (hb hby at_39) (fun _ _ => ⟨rfl, rfl, (by decide : 2 + 0 ≤ _), (by decide : 18 + 0 ≤ _)⟩)
  clear X347 gC347 gK347 gA347 q350a q350c
  dsimp only [Pt.U, Pt.locs, Pt.cells, Pt.slots] at X350 l350 y350 z350 st350 hQ350
  obtain rfl : k350 = (2 : Nat) := y350
  obtain rfl : n350 = (18 : Nat) := z350
  obtain ⟨rfl, N350q, Kc350, gC350, gK350, y350_0, y350_1, y350_2, y350_3, y350_4, gA350, gH350, gN350⟩ := hQ350
  have N350 : Fr n0 L350 := by rw [l350]; exact Fr.app N347 N350q
  clear N347 l350 N350q
  have f351_0 := f348_0.keep Kc350
  clear f348_0
  have K352 : Keep h0 T350.heap [] := K349.trans Kc350 (allS (Or.inr sz_b330) (allS (Or.inr sz_ar) all0))
  clear K349 Kc350
  refine own_tr st350 ?_
  clear st350
  show own_Fin p e below G (T350.setTop (mkF m 42 #[.val (.long k0'), .second, .val (.long k1'), .second, .val (.long k2'), .second, .val (.long k3'), .second, .val (.long k4'), .second, rv b330, .unset, .unset, .unset, .unset, .unset, .unset, .unset, .unset, .unset, .unset, .unset, .unset, .unset, .unset, .unset, .unset, .unset, .unset, .unset, .unset, .unset, .unset] []))
  refine own_st (fun _ k => XS.aload X350.here hx rfl (hb hby at_42) rfl rfl k) ?_
  show own_Fin p e below G (T350.setTop (mkF m 44 #[.val (.long k0'), .second, .val (.long k1'), .second, .val (.long k2'), .second, .val (.long k3'), .second, .val (.long k4'), .second, rv b330, .unset, .unset, .unset, .unset, .unset, .unset, .unset, .unset, .unset, .unset, .unset, .unset, .unset, .unset, .unset, .unset, .unset, .unset, .unset, .unset, .unset, .unset] [(.ref b330)]))
  obtain ⟨cq353, kq353, q353a, q353b, q353c⟩ := isOf hZ rfl f351_0
  clear q353b
  obtain ⟨_, _, ⟨T353, L353, k353, n353⟩, -, X353, ⟨Lc353, hQ353, l353, y353, z353⟩, st353⟩ := X350.virtualBack hx (y := own_y5) (z := own_y5) hown (mvT hZ (own_w hw 19 rfl)) (mvT hZ (own_w hw 20 rfl)) (notFace_of_selects (args := #[]) (mvT hZ (own_w hw 22 rfl))) (mvT hZ (own_w hw 22 rfl)) (mvT hZ (own_w hw 21 rfl)) (by decide) (backOf (W := 0) (rm_poll5 l Z a0 hw [] b330 ar y350_0 y350_1 y350_2 y350_3 y350_4 (0 : Int64) (0 : Int64) (0 : Int64) (0 : Int64) (0 : Int64) (0 : Int64) (0 : Int64) (0 : Int64) (0 : Int64) (0 : Int64) (0 : Int64) T350.heap n0 (Nat.le_trans Z0 K352.1) f351_0 gC350 gK350 gA350 ne335 g_b330 g_ar gH350) hZ (own_w hw 23 rfl) (own_w hw 2 rfl) (by decide) (by decide)) q353a q353c (g := (mkF m 44 #[.val (.long k0'), .second, .val (.long k1'), .second, .val (.long k2'), .second, .val (.long k3'), .second, .val (.long k4'), .second, rv b330, .unset, .unset, .unset, .unset, .unset, .unset, .unset, .unset, .unset, .unset, .unset, .unset, .unset, .unset, .unset, .unset, .unset, .unset, .unset, .unset, .unset, .unset] [(.ref b330)])) rfl (by rw [hml]; rfl) (Steps.refl _) (argsL := []) (rest := []) (lenOf pd___J_155 rfl) rfl (by show 2 * 0 + _ ≤ _; exact Nat.le_of_eq rfl) (hb hby at_44) (fun _ _ => ⟨rfl, rfl, (by decide : 2 + 0 ≤ _), (by decide : 18 + 0 ≤ _)⟩)
  clear X350 gC350 gK350 gA350 q353a q353c
  dsimp only [Pt.U, Pt.locs, Pt.cells, Pt.slots] at X353 l353 y353 z353 st353 hQ353
  obtain rfl : k353 = (2 : Nat) := y353
  obtain rfl : n353 = (18 : Nat) := z353
  obtain ⟨rfl, N353q, Kc353, gC353, gK353, y353_0, y353_1, y353_2, y353_3, gA353, gH353, gN353⟩ := hQ353
  have N353 : Fr n0 L353 := by rw [l353]; exact Fr.app N350 N353q
  clear N350 l353 N353q
  have f354_0 := f351_0.keep Kc353
  clear f351_0
  have K355 : Keep h0 T353.heap [] := K352.trans Kc353 (allS (Or.inr sz_b330) (allS (Or.inr sz_ar) all0))
  clear K352 Kc353
  refine own_tr st353 ?_
  clear st353
  show own_Fin p e below G (T353.setTop (mkF m 47 #[.val (.long k0'), .second, .val (.long k1'), .second, .val (.long k2'), .second, .val (.long k3'), .second, .val (.long k4'), .second, rv b330, .unset, .unset, .unset, .unset, .unset, .unset, .unset, .unset, .unset, .unset, .unset, .unset, .unset, .unset, .unset, .unset, .unset, .unset, .unset, .unset, .unset, .unset] [(.long y350_0)]))
  refine own_st (fun _ k => XS.lstore X353.here hx rfl (hb hby at_47) rfl (l' := #[.val (.long k0'), .second, .val (.long k1'), .second, .val (.long k2'), .second, .val (.long k3'), .second, .val (.long k4'), .second, rv b330, .val (.long y350_0), .second, .unset, .unset, .unset, .unset, .unset, .unset, .unset, .unset, .unset, .unset, .unset, .unset, .unset, .unset, .unset, .unset, .unset, .unset, .unset, .unset]) rfl k) ?_
  show own_Fin p e below G (T353.setTop (mkF m 49 #[.val (.long k0'), .second, .val (.long k1'), .second, .val (.long k2'), .second, .val (.long k3'), .second, .val (.long k4'), .second, rv b330, .val (.long y350_0), .second, .unset, .unset, .unset, .unset, .unset, .unset, .unset, .unset, .unset, .unset, .unset, .unset, .unset, .unset, .unset, .unset, .unset, .unset, .unset, .unset] []))
  refine own_st (fun _ k => XS.aload X353.here hx rfl (hb hby at_49) rfl rfl k) ?_
  show own_Fin p e below G (T353.setTop (mkF m 51 #[.val (.long k0'), .second, .val (.long k1'), .second, .val (.long k2'), .second, .val (.long k3'), .second, .val (.long k4'), .second, rv b330, .val (.long y350_0), .second, .unset, .unset, .unset, .unset, .unset, .unset, .unset, .unset, .unset, .unset, .unset, .unset, .unset, .unset, .unset, .unset, .unset, .unset, .unset, .unset] [(.ref b330)]))
  obtain ⟨cq356, kq356, q356a, q356b, q356c⟩ := isOf hZ rfl f354_0
  clear q356b
  obtain ⟨_, _, ⟨T356, L356, k356, n356⟩, -, X356, ⟨Lc356, hQ356, l356, y356, z356⟩, st356⟩ := X353.virtualBack hx (y := own_y5) (z := own_y5) hown (mvT hZ (own_w hw 19 rfl)) (mvT hZ (own_w hw 20 rfl)) (notFace_of_selects (args := #[]) (mvT hZ (own_w hw 22 rfl))) (mvT hZ (own_w hw 22 rfl)) (mvT hZ (own_w hw 21 rfl)) (by decide) (backOf (W := 0) (rm_poll4 l Z a0 hw [] b330 ar y353_0 y353_1 y353_2 y353_3 y350_4 (0 : Int64) (0 : Int64) (0 : Int64) (0 : Int64) (0 : Int64) (0 : Int64) (0 : Int64) (0 : Int64) (0 : Int64) (0 : Int64) (0 : Int64) T353.heap n0 (Nat.le_trans Z0 K355.1) f354_0 gC353 gK353 gA353 ne335 g_b330 g_ar (by omega)) hZ (own_w hw 23 rfl) (own_w hw 2 rfl) (by decide) (by decide)) q356a q356c (g := (mkF m 51 #[.val (.long k0'), .second, .val (.long k1'), .second, .val (.long k2'), .second, .val (.long k3'), .second, .val (.long k4'), .second, rv b330, .val (.long y350_0), .second, .unset, .unset, .unset, .unset, .unset, .unset, .unset, .unset, .unset, .unset, .unset, .unset, .unset, .unset, .unset, .unset, .unset, .unset, .unset, .unset] [(.ref b330)])) rfl (by rw [hml]; rfl) (Steps.refl _) (argsL := []) (rest := []) (lenOf pd___J_155 rfl) rfl (by show 2 * 0 + _ ≤ _; exact Nat.le_of_eq rfl) (hb hby at_51) (fun _ _ => ⟨rfl, rfl, (by decide : 2 + 0 ≤ _), (by decide : 18 + 0 ≤ _)⟩)
  clear X353 gC353 gK353 gA353 q356a q356c
  dsimp only [Pt.U, Pt.locs, Pt.cells, Pt.slots] at X356 l356 y356 z356 st356 hQ356
  obtain rfl : k356 = (2 : Nat) := y356
  obtain rfl : n356 = (18 : Nat) := z356
  obtain ⟨rfl, N356q, Kc356, gC356, gK356, y356_0, y356_1, y356_2, gA356, gH356, gN356⟩ := hQ356
  have N356 : Fr n0 L356 := by rw [l356]; exact Fr.app N353 N356q
  clear N353 l356 N356q
  have f357_0 := f354_0.keep Kc356
  clear f354_0
  have K358 : Keep h0 T356.heap [] := K355.trans Kc356 (allS (Or.inr sz_b330) (allS (Or.inr sz_ar) all0))
  clear K355 Kc356
  refine own_tr st356 ?_
  clear st356
  show own_Fin p e below G (T356.setTop (mkF m 54 #[.val (.long k0'), .second, .val (.long k1'), .second, .val (.long k2'), .second, .val (.long k3'), .second, .val (.long k4'), .second, rv b330, .val (.long y350_0), .second, .unset, .unset, .unset, .unset, .unset, .unset, .unset, .unset, .unset, .unset, .unset, .unset, .unset, .unset, .unset, .unset, .unset, .unset, .unset, .unset] [(.long y353_0)]))
  refine own_st (fun _ k => XS.lstore X356.here hx rfl (hb hby at_54) rfl (l' := #[.val (.long k0'), .second, .val (.long k1'), .second, .val (.long k2'), .second, .val (.long k3'), .second, .val (.long k4'), .second, rv b330, .val (.long y350_0), .second, .val (.long y353_0), .second, .unset, .unset, .unset, .unset, .unset, .unset, .unset, .unset, .unset, .unset, .unset, .unset, .unset, .unset, .unset, .unset, .unset, .unset]) rfl k) ?_
  show own_Fin p e below G (T356.setTop (mkF m 56 #[.val (.long k0'), .second, .val (.long k1'), .second, .val (.long k2'), .second, .val (.long k3'), .second, .val (.long k4'), .second, rv b330, .val (.long y350_0), .second, .val (.long y353_0), .second, .unset, .unset, .unset, .unset, .unset, .unset, .unset, .unset, .unset, .unset, .unset, .unset, .unset, .unset, .unset, .unset, .unset, .unset] []))
  refine own_st (fun _ k => XS.aload X356.here hx rfl (hb hby at_56) rfl rfl k) ?_
  show own_Fin p e below G (T356.setTop (mkF m 58 #[.val (.long k0'), .second, .val (.long k1'), .second, .val (.long k2'), .second, .val (.long k3'), .second, .val (.long k4'), .second, rv b330, .val (.long y350_0), .second, .val (.long y353_0), .second, .unset, .unset, .unset, .unset, .unset, .unset, .unset, .unset, .unset, .unset, .unset, .unset, .unset, .unset, .unset, .unset, .unset, .unset] [(.ref b330)]))
  obtain ⟨cq359, kq359, q359a, q359b, q359c⟩ := isOf hZ rfl f357_0
  clear q359b
  obtain ⟨_, _, ⟨T359, L359, k359, n359⟩, -, X359, ⟨Lc359, hQ359, l359, y359, z359⟩, st359⟩ := X356.virtualBack hx (y := own_y5) (z := own_y5) hown (mvT hZ (own_w hw 19 rfl)) (mvT hZ (own_w hw 20 rfl)) (notFace_of_selects (args := #[]) (mvT hZ (own_w hw 22 rfl))) (mvT hZ (own_w hw 22 rfl)) (mvT hZ (own_w hw 21 rfl)) (by decide) (backOf (W := 0) (rm_poll3 l Z a0 hw [] b330 ar y356_0 y356_1 y356_2 y353_3 y350_4 (0 : Int64) (0 : Int64) (0 : Int64) (0 : Int64) (0 : Int64) (0 : Int64) (0 : Int64) (0 : Int64) (0 : Int64) (0 : Int64) (0 : Int64) T356.heap n0 (Nat.le_trans Z0 K358.1) f357_0 gC356 gK356 gA356 ne335 g_b330 g_ar (by omega)) hZ (own_w hw 23 rfl) (own_w hw 2 rfl) (by decide) (by decide)) q359a q359c (g := (mkF m 58 #[.val (.long k0'), .second, .val (.long k1'), .second, .val (.long k2'), .second, .val (.long k3'), .second, .val (.long k4'), .second, rv b330, .val (.long y350_0), .second, .val (.long y353_0), .second, .unset, .unset, .unset, .unset, .unset, .unset, .unset, .unset, .unset, .unset, .unset, .unset, .unset, .unset, .unset, .unset, .unset, .unset] [(.ref b330)])) rfl (by rw [hml]; rfl) (Steps.refl _) (argsL := []) (rest := []) (lenOf pd___J_155 rfl) rfl (by show 2 * 0 + _ ≤ _; exact Nat.le_of_eq rfl) (hb hby at_58) (fun _ _ => ⟨rfl, rfl, (by decide : 2 + 0 ≤ _), (by decide : 18 + 0 ≤ _)⟩)
  clear X356 gC356 gK356 gA356 q359a q359c
  dsimp only [Pt.U, Pt.locs, Pt.cells, Pt.slots] at X359 l359 y359 z359 st359 hQ359
  obtain rfl : k359 = (2 : Nat) := y359
  obtain rfl : n359 = (18 : Nat) := z359
  obtain ⟨rfl, N359q, Kc359, gC359, gK359, y359_0, y359_1, gA359, gH359, gN359⟩ := hQ359
  have N359 : Fr n0 L359 := by rw [l359]; exact Fr.app N356 N359q
  clear N356 l359 N359q
  have f360_0 := f357_0.keep Kc359
  clear f357_0
  have K361 : Keep h0 T359.heap [] := K358.trans Kc359 (allS (Or.inr sz_b330) (allS (Or.inr sz_ar) all0))
  clear K358 Kc359
  refine own_tr st359 ?_
  clear st359
  show own_Fin p e below G (T359.setTop (mkF m 61 #[.val (.long k0'), .second, .val (.long k1'), .second, .val (.long k2'), .second, .val (.long k3'), .second, .val (.long k4'), .second, rv b330, .val (.long y350_0), .second, .val (.long y353_0), .second, .unset, .unset, .unset, .unset, .unset, .unset, .unset, .unset, .unset, .unset, .unset, .unset, .unset, .unset, .unset, .unset, .unset, .unset] [(.long y356_0)]))
  refine own_st (fun _ k => XS.lstore X359.here hx rfl (hb hby at_61) rfl (l' := #[.val (.long k0'), .second, .val (.long k1'), .second, .val (.long k2'), .second, .val (.long k3'), .second, .val (.long k4'), .second, rv b330, .val (.long y350_0), .second, .val (.long y353_0), .second, .val (.long y356_0), .second, .unset, .unset, .unset, .unset, .unset, .unset, .unset, .unset, .unset, .unset, .unset, .unset, .unset, .unset, .unset, .unset]) rfl k) ?_
  show own_Fin p e below G (T359.setTop (mkF m 63 #[.val (.long k0'), .second, .val (.long k1'), .second, .val (.long k2'), .second, .val (.long k3'), .second, .val (.long k4'), .second, rv b330, .val (.long y350_0), .second, .val (.long y353_0), .second, .val (.long y356_0), .second, .unset, .unset, .unset, .unset, .unset, .unset, .unset, .unset, .unset, .unset, .unset, .unset, .unset, .unset, .unset, .unset] []))
  refine own_st (fun _ k => XS.aload X359.here hx rfl (hb hby at_63) rfl rfl k) ?_
  show own_Fin p e below G (T359.setTop (mkF m 65 #[.val (.long k0'), .second, .val (.long k1'), .second, .val (.long k2'), .second, .val (.long k3'), .second, .val (.long k4'), .second, rv b330, .val (.long y350_0), .second, .val (.long y353_0), .second, .val (.long y356_0), .second, .unset, .unset, .unset, .unset, .unset, .unset, .unset, .unset, .unset, .unset, .unset, .unset, .unset, .unset, .unset, .unset] [(.ref b330)]))
  obtain ⟨cq362, kq362, q362a, q362b, q362c⟩ := isOf hZ rfl f360_0
  clear q362b
  obtain ⟨_, _, ⟨T362, L362, k362, n362⟩, -, X362, ⟨Lc362, hQ362, l362, y362, z362⟩, st362⟩ := X359.virtualBack hx (y := own_y5) (z := own_y5) hown (mvT hZ (own_w hw 19 rfl)) (mvT hZ (own_w hw 20 rfl)) (notFace_of_selects (args := #[]) (mvT hZ (own_w hw 22 rfl))) (mvT hZ (own_w hw 22 rfl)) (mvT hZ (own_w hw 21 rfl)) (by decide) (backOf (W := 0) (rm_poll2 l Z a0 hw [] b330 ar y359_0 y359_1 y356_2 y353_3 y350_4 (0 : Int64) (0 : Int64) (0 : Int64) (0 : Int64) (0 : Int64) (0 : Int64) (0 : Int64) (0 : Int64) (0 : Int64) (0 : Int64) (0 : Int64) T359.heap n0 (Nat.le_trans Z0 K361.1) f360_0 gC359 gK359 gA359 ne335 g_b330 g_ar (by omega)) hZ (own_w hw 23 rfl) (own_w hw 2 rfl) (by decide) (by decide)) q362a q362c (g := (mkF m 65 #[.val (.long k0'), .second, .val (.long k1'), .second, .val (.long k2'), .second, .val (.long k3'), .second, .val (.long k4'), .second, rv b330, .val (.long y350_0), .second, .val (.long y353_0), .second, .val (.long y356_0), .second, .unset, .unset, .unset, .unset, .unset, .unset, .unset, .unset, .unset, .unset, .unset, .unset, .unset, .unset, .unset, .unset] [(.ref b330)])) rfl (by rw [hml]; rfl) (Steps.refl _) (argsL := []) (rest := []) (lenOf pd___J_155 rfl) rfl (by show 2 * 0 + _ ≤ _; exact Nat.le_of_eq rfl) (hb hby at_65) (fun _ _ => ⟨rfl, rfl, (by decide : 2 + 0 ≤ _), (by decide : 18 + 0 ≤ _)⟩)
  clear X359 gC359 gK359 gA359 q362a q362c
  dsimp only [Pt.U, Pt.locs, Pt.cells, Pt.slots] at X362 l362 y362 z362 st362 hQ362
  obtain rfl : k362 = (2 : Nat) := y362
  obtain rfl : n362 = (18 : Nat) := z362
  obtain ⟨rfl, N362q, Kc362, gC362, gK362, y362_0, gA362, gH362, gN362⟩ := hQ362
  have N362 : Fr n0 L362 := by rw [l362]; exact Fr.app N359 N362q
  clear N359 l362 N362q
  have f363_0 := f360_0.keep Kc362
  clear f360_0
  have K364 : Keep h0 T362.heap [] := K361.trans Kc362 (allS (Or.inr sz_b330) (allS (Or.inr sz_ar) all0))
  clear K361 Kc362
  refine own_tr st362 ?_
  clear st362
  show own_Fin p e below G (T362.setTop (mkF m 68 #[.val (.long k0'), .second, .val (.long k1'), .second, .val (.long k2'), .second, .val (.long k3'), .second, .val (.long k4'), .second, rv b330, .val (.long y350_0), .second, .val (.long y353_0), .second, .val (.long y356_0), .second, .unset, .unset, .unset, .unset, .unset, .unset, .unset, .unset, .unset, .unset, .unset, .unset, .unset, .unset, .unset, .unset] [(.long y359_0)]))
  refine own_st (fun _ k => XS.lstore X362.here hx rfl (hb hby at_68) rfl (l' := #[.val (.long k0'), .second, .val (.long k1'), .second, .val (.long k2'), .second, .val (.long k3'), .second, .val (.long k4'), .second, rv b330, .val (.long y350_0), .second, .val (.long y353_0), .second, .val (.long y356_0), .second, .val (.long y359_0), .second, .unset, .unset, .unset, .unset, .unset, .unset, .unset, .unset, .unset, .unset, .unset, .unset, .unset, .unset]) rfl k) ?_
  show own_Fin p e below G (T362.setTop (mkF m 70 #[.val (.long k0'), .second, .val (.long k1'), .second, .val (.long k2'), .second, .val (.long k3'), .second, .val (.long k4'), .second, rv b330, .val (.long y350_0), .second, .val (.long y353_0), .second, .val (.long y356_0), .second, .val (.long y359_0), .second, .unset, .unset, .unset, .unset, .unset, .unset, .unset, .unset, .unset, .unset, .unset, .unset, .unset, .unset] []))
  refine own_st (fun _ k => XS.aload X362.here hx rfl (hb hby at_70) rfl rfl k) ?_
  show own_Fin p e below G (T362.setTop (mkF m 72 #[.val (.long k0'), .second, .val (.long k1'), .second, .val (.long k2'), .second, .val (.long k3'), .second, .val (.long k4'), .second, rv b330, .val (.long y350_0), .second, .val (.long y353_0), .second, .val (.long y356_0), .second, .val (.long y359_0), .second, .unset, .unset, .unset, .unset, .unset, .unset, .unset, .unset, .unset, .unset, .unset, .unset, .unset, .unset] [(.ref b330)]))
  obtain ⟨cq365, kq365, q365a, q365b, q365c⟩ := isOf hZ rfl f363_0
  clear q365b
  obtain ⟨_, _, ⟨T365, L365, k365, n365⟩, -, X365, ⟨Lc365, hQ365, l365, y365, z365⟩, st365⟩ := X362.virtualBack hx (y := own_y5) (z := own_y5) hown (mvT hZ (own_w hw 19 rfl)) (mvT hZ (own_w hw 20 rfl)) (notFace_of_selects (args := #[]) (mvT hZ (own_w hw 22 rfl))) (mvT hZ (own_w hw 22 rfl)) (mvT hZ (own_w hw 21 rfl)) (by decide) (backOf (W := 0) (rm_poll1 l Z a0 hw [] b330 ar y362_0 y359_1 y356_2 y353_3 y350_4 (0 : Int64) (0 : Int64) (0 : Int64) (0 : Int64) (0 : Int64) (0 : Int64) (0 : Int64) (0 : Int64) (0 : Int64) (0 : Int64) (0 : Int64) T362.heap n0 (Nat.le_trans Z0 K364.1) f363_0 gC362 gK362 gA362 ne335 g_b330 g_ar trivial) hZ (own_w hw 23 rfl) (own_w hw 2 rfl) (by decide) (by decide)) q365a q365c (g := (mkF m 72 #[.val (.long k0'), .second, .val (.long k1'), .second, .val (.long k2'), .second, .val (.long k3'), .second, .val (.long k4'), .second, rv b330, .val (.long y350_0), .second, .val (.long y353_0), .second, .val (.long y356_0), .second, .val (.long y359_0), .second, .unset, .unset, .unset, .unset, .unset, .unset, .unset, .unset, .unset, .unset, .unset, .unset, .unset, .unset] [(.ref b330)])) rfl (by rw [hml]; rfl) (Steps.refl _) (argsL := []) (rest := []) (lenOf pd___J_155 rfl) rfl (by show 2 * 0 + _ ≤ _; exact Nat.le_of_eq rfl) (hb hby at_72) (fun _ _ => ⟨rfl, rfl, (by decide : 2 + 0 ≤ _), (by decide : 18 + 0 ≤ _)⟩)
  clear X362 gC362 gK362 gA362 q365a q365c
  dsimp only [Pt.U, Pt.locs, Pt.cells, Pt.slots] at X365 l365 y365 z365 st365 hQ365
  obtain rfl : k365 = (2 : Nat) := y365
  obtain rfl : n365 = (18 : Nat) := z365
  obtain ⟨rfl, N365q, Kc365, gC365, gK365, gA365, gH365, gN365⟩ := hQ365
  clear gK365 gA365
  have N365 : Fr n0 L365 := by rw [l365]; exact Fr.app N362 N365q
  clear N362 l365 N365q
  have f366_0 := f363_0.keep Kc365
  clear f363_0
  have K367 : Keep h0 T365.heap [] := K364.trans Kc365 (allS (Or.inr sz_b330) (allS (Or.inr sz_ar) all0))
  clear K364 Kc365
  refine own_tr st365 ?_
  clear st365
  show own_Fin p e below G (T365.setTop (mkF m 75 #[.val (.long k0'), .second, .val (.long k1'), .second, .val (.long k2'), .second, .val (.long k3'), .second, .val (.long k4'), .second, rv b330, .val (.long y350_0), .second, .val (.long y353_0), .second, .val (.long y356_0), .second, .val (.long y359_0), .second, .unset, .unset, .unset, .unset, .unset, .unset, .unset, .unset, .unset, .unset, .unset, .unset, .unset, .unset] [(.long y362_0)]))
  refine own_st (fun _ k => XS.lstore X365.here hx rfl (hb hby at_75) rfl (l' := #[.val (.long k0'), .second, .val (.long k1'), .second, .val (.long k2'), .second, .val (.long k3'), .second, .val (.long k4'), .second, rv b330, .val (.long y350_0), .second, .val (.long y353_0), .second, .val (.long y356_0), .second, .val (.long y359_0), .second, .val (.long y362_0), .second, .unset, .unset, .unset, .unset, .unset, .unset, .unset, .unset, .unset, .unset, .unset, .unset]) rfl k) ?_
  show own_Fin p e below G (T365.setTop (mkF m 77 #[.val (.long k0'), .second, .val (.long k1'), .second, .val (.long k2'), .second, .val (.long k3'), .second, .val (.long k4'), .second, rv b330, .val (.long y350_0), .second, .val (.long y353_0), .second, .val (.long y356_0), .second, .val (.long y359_0), .second, .val (.long y362_0), .second, .unset, .unset, .unset, .unset, .unset, .unset, .unset, .unset, .unset, .unset, .unset, .unset] []))
  refine own_st (fun _ k => XS.lloadN X365.here hx rfl (hb hby at_77) rfl  k) ?_
  show own_Fin p e below G (T365.setTop (mkF m 78 #[.val (.long k0'), .second, .val (.long k1'), .second, .val (.long k2'), .second, .val (.long k3'), .second, .val (.long k4'), .second, rv b330, .val (.long y350_0), .second, .val (.long y353_0), .second, .val (.long y356_0), .second, .val (.long y359_0), .second, .val (.long y362_0), .second, .unset, .unset, .unset, .unset, .unset, .unset, .unset, .unset, .unset, .unset, .unset, .unset] [(.long k0')]))
  refine own_st (fun _ k => XS.lstore X365.here hx rfl (hb hby at_78) rfl (l' := #[.val (.long k0'), .second, .val (.long k1'), .second, .val (.long k2'), .second, .val (.long k3'), .second, .val (.long k4'), .second, rv b330, .val (.long y350_0), .second, .val (.long y353_0), .second, .val (.long y356_0), .second, .val (.long y359_0), .second, .val (.long y362_0), .second, .val (.long k0'), .second, .unset, .unset, .unset, .unset, .unset, .unset, .unset, .unset, .unset, .unset]) rfl k) ?_
  show own_Fin p e below G (T365.setTop (mkF m 80 #[.val (.long k0'), .second, .val (.long k1'), .second, .val (.long k2'), .second, .val (.long k3'), .second, .val (.long k4'), .second, rv b330, .val (.long y350_0), .second, .val (.long y353_0), .second, .val (.long y356_0), .second, .val (.long y359_0), .second, .val (.long y362_0), .second, .val (.long k0'), .second, .unset, .unset, .unset, .unset, .unset, .unset, .unset, .unset, .unset, .unset] []))
  refine own_st (fun _ k => XS.lloadN X365.here hx rfl (hb hby at_80) rfl  k) ?_
  show own_Fin p e below G (T365.setTop (mkF m 81 #[.val (.long k0'), .second, .val (.long k1'), .second, .val (.long k2'), .second, .val (.long k3'), .second, .val (.long k4'), .second, rv b330, .val (.long y350_0), .second, .val (.long y353_0), .second, .val (.long y356_0), .second, .val (.long y359_0), .second, .val (.long y362_0), .second, .val (.long k0'), .second, .unset, .unset, .unset, .unset, .unset, .unset, .unset, .unset, .unset, .unset] [(.long k1')]))
  refine own_st (fun _ k => XS.lstore X365.here hx rfl (hb hby at_81) rfl (l' := #[.val (.long k0'), .second, .val (.long k1'), .second, .val (.long k2'), .second, .val (.long k3'), .second, .val (.long k4'), .second, rv b330, .val (.long y350_0), .second, .val (.long y353_0), .second, .val (.long y356_0), .second, .val (.long y359_0), .second, .val (.long y362_0), .second, .val (.long k0'), .second, .val (.long k1'), .second, .unset, .unset, .unset, .unset, .unset, .unset, .unset, .unset]) rfl k) ?_
  show own_Fin p e below G (T365.setTop (mkF m 83 #[.val (.long k0'), .second, .val (.long k1'), .second, .val (.long k2'), .second, .val (.long k3'), .second, .val (.long k4'), .second, rv b330, .val (.long y350_0), .second, .val (.long y353_0), .second, .val (.long y356_0), .second, .val (.long y359_0), .second, .val (.long y362_0), .second, .val (.long k0'), .second, .val (.long k1'), .second, .unset, .unset, .unset, .unset, .unset, .unset, .unset, .unset] []))
  refine own_st (fun _ k => XS.lload X365.here hx rfl (hb hby at_83) rfl  k) ?_
  show own_Fin p e below G (T365.setTop (mkF m 85 #[.val (.long k0'), .second, .val (.long k1'), .second, .val (.long k2'), .second, .val (.long k3'), .second, .val (.long k4'), .second, rv b330, .val (.long y350_0), .second, .val (.long y353_0), .second, .val (.long y356_0), .second, .val (.long y359_0), .second, .val (.long y362_0), .second, .val (.long k0'), .second, .val (.long k1'), .second, .unset, .unset, .unset, .unset, .unset, .unset, .unset, .unset] [(.long k2')]))
  refine own_st (fun _ k => XS.lstore X365.here hx rfl (hb hby at_85) rfl (l' := #[.val (.long k0'), .second, .val (.long k1'), .second, .val (.long k2'), .second, .val (.long k3'), .second, .val (.long k4'), .second, rv b330, .val (.long y350_0), .second, .val (.long y353_0), .second, .val (.long y356_0), .second, .val (.long y359_0), .second, .val (.long y362_0), .second, .val (.long k0'), .second, .val (.long k1'), .second, .val (.long k2'), .second, .unset, .unset, .unset, .unset, .unset, .unset]) rfl k) ?_
  show own_Fin p e below G (T365.setTop (mkF m 87 #[.val (.long k0'), .second, .val (.long k1'), .second, .val (.long k2'), .second, .val (.long k3'), .second, .val (.long k4'), .second, rv b330, .val (.long y350_0), .second, .val (.long y353_0), .second, .val (.long y356_0), .second, .val (.long y359_0), .second, .val (.long y362_0), .second, .val (.long k0'), .second, .val (.long k1'), .second, .val (.long k2'), .second, .unset, .unset, .unset, .unset, .unset, .unset] []))
  refine own_st (fun _ k => XS.lload X365.here hx rfl (hb hby at_87) rfl  k) ?_
  show own_Fin p e below G (T365.setTop (mkF m 89 #[.val (.long k0'), .second, .val (.long k1'), .second, .val (.long k2'), .second, .val (.long k3'), .second, .val (.long k4'), .second, rv b330, .val (.long y350_0), .second, .val (.long y353_0), .second, .val (.long y356_0), .second, .val (.long y359_0), .second, .val (.long y362_0), .second, .val (.long k0'), .second, .val (.long k1'), .second, .val (.long k2'), .second, .unset, .unset, .unset, .unset, .unset, .unset] [(.long k3')]))
  refine own_st (fun _ k => XS.lstore X365.here hx rfl (hb hby at_89) rfl (l' := #[.val (.long k0'), .second, .val (.long k1'), .second, .val (.long k2'), .second, .val (.long k3'), .second, .val (.long k4'), .second, rv b330, .val (.long y350_0), .second, .val (.long y353_0), .second, .val (.long y356_0), .second, .val (.long y359_0), .second, .val (.long y362_0), .second, .val (.long k0'), .second, .val (.long k1'), .second, .val (.long k2'), .second, .val (.long k3'), .second, .unset, .unset, .unset, .unset]) rfl k) ?_
  show own_Fin p e below G (T365.setTop (mkF m 91 #[.val (.long k0'), .second, .val (.long k1'), .second, .val (.long k2'), .second, .val (.long k3'), .second, .val (.long k4'), .second, rv b330, .val (.long y350_0), .second, .val (.long y353_0), .second, .val (.long y356_0), .second, .val (.long y359_0), .second, .val (.long y362_0), .second, .val (.long k0'), .second, .val (.long k1'), .second, .val (.long k2'), .second, .val (.long k3'), .second, .unset, .unset, .unset, .unset] []))
  refine own_st (fun _ k => XS.lload X365.here hx rfl (hb hby at_91) rfl  k) ?_
  show own_Fin p e below G (T365.setTop (mkF m 93 #[.val (.long k0'), .second, .val (.long k1'), .second, .val (.long k2'), .second, .val (.long k3'), .second, .val (.long k4'), .second, rv b330, .val (.long y350_0), .second, .val (.long y353_0), .second, .val (.long y356_0), .second, .val (.long y359_0), .second, .val (.long y362_0), .second, .val (.long k0'), .second, .val (.long k1'), .second, .val (.long k2'), .second, .val (.long k3'), .second, .unset, .unset, .unset, .unset] [(.long k4')]))
  refine own_st (fun _ k => XS.lstore X365.here hx rfl (hb hby at_93) rfl (l' := #[.val (.long k0'), .second, .val (.long k1'), .second, .val (.long k2'), .second, .val (.long k3'), .second, .val (.long k4'), .second, rv b330, .val (.long y350_0), .second, .val (.long y353_0), .second, .val (.long y356_0), .second, .val (.long y359_0), .second, .val (.long y362_0), .second, .val (.long k0'), .second, .val (.long k1'), .second, .val (.long k2'), .second, .val (.long k3'), .second, .val (.long k4'), .second, .unset, .unset]) rfl k) ?_
  show own_Fin p e below G (T365.setTop (mkF m 95 #[.val (.long k0'), .second, .val (.long k1'), .second, .val (.long k2'), .second, .val (.long k3'), .second, .val (.long k4'), .second, rv b330, .val (.long y350_0), .second, .val (.long y353_0), .second, .val (.long y356_0), .second, .val (.long y359_0), .second, .val (.long y362_0), .second, .val (.long k0'), .second, .val (.long k1'), .second, .val (.long k2'), .second, .val (.long k3'), .second, .val (.long k4'), .second, .unset, .unset] []))
  refine own_st (fun _ k => XS.lload X365.here hx rfl (hb hby at_95) rfl  k) ?_
  show own_Fin p e below G (T365.setTop (mkF m 97 #[.val (.long k0'), .second, .val (.long k1'), .second, .val (.long k2'), .second, .val (.long k3'), .second, .val (.long k4'), .second, rv b330, .val (.long y350_0), .second, .val (.long y353_0), .second, .val (.long y356_0), .second, .val (.long y359_0), .second, .val (.long y362_0), .second, .val (.long k0'), .second, .val (.long k1'), .second, .val (.long k2'), .second, .val (.long k3'), .second, .val (.long k4'), .second, .unset, .unset] [(.long k0')]))
  refine own_st (fun _ k => XS.lload X365.here hx rfl (hb hby at_97) rfl  k) ?_
  show own_Fin p e below G (T365.setTop (mkF m 99 #[.val (.long k0'), .second, .val (.long k1'), .second, .val (.long k2'), .second, .val (.long k3'), .second, .val (.long k4'), .second, rv b330, .val (.long y350_0), .second, .val (.long y353_0), .second, .val (.long y356_0), .second, .val (.long y359_0), .second, .val (.long y362_0), .second, .val (.long k0'), .second, .val (.long k1'), .second, .val (.long k2'), .second, .val (.long k3'), .second, .val (.long k4'), .second, .unset, .unset] [(.long k1'), (.long k0')]))
  obtain ⟨_, _, ⟨T368, L368, k368, n368⟩, -, X368, ⟨Lc368, hQ368, l368, y368, z368⟩, st368⟩ := Jvm.LawKit.callS X365 hx (y := own_y0) hown (mvT hZ (own_w hw 24 rfl)) (mvT hZ (own_w hw 25 rfl)) (mvT hZ (own_w hw 26 rfl)) (mvT hZ (own_w hw 27 rfl)) (by decide) (backOf (W := 0) (rm_min l Z a0 hw [] k0' k1' T365.heap n0 (Nat.le_trans Z0 K367.1) ) hZ (own_w hw 27 rfl) (own_w hw 26 rfl) (by decide) (by decide)) (g := (mkF m 99 #[.val (.long k0'), .second, .val (.long k1'), .second, .val (.long k2'), .second, .val (.long k3'), .second, .val (.long k4'), .second, rv b330, .val (.long y350_0), .second, .val (.long y353_0), .second, .val (.long y356_0), .second, .val (.long y359_0), .second, .val (.long y362_0), .second, .val (.long k0'), .second, .val (.long k1'), .second, .val (.long k2'), .second, .val (.long k3'), .second, .val (.long k4'), .second, .unset, .unset] [(.long k1'), (.long k0')])) rfl (by rw [hml]; rfl) (argsL := [(.long k0'), (.long k1')]) (rest := []) (lenOf pd__JJ_J_303 rfl) rfl (by show 2 * 0 + _ ≤ _; exact Nat.le_of_eq rfl) (hb hby at_99) (fun _ _ => ⟨rfl, rfl, (by decide : 2 + 0 ≤ _), (by decide : 18 + 0 ≤ _)⟩)
  clear X365
  dsimp only [Pt.U, Pt.locs, Pt.cells, Pt.slots] at X368 l368 y368 z368 st368 hQ368
  obtain rfl : k368 = (2 : Nat) := y368
  obtain rfl : n368 = (18 : Nat) := z368
  obtain ⟨rfl, N368q, e368⟩ := hQ368
  skip
  have N368 : Fr n0 L368 := by rw [l368]; exact Fr.app N365 N368q
  clear N365 l368 N368q
  refine own_st st368 ?_
  clear st368
  show own_Fin p e below G (T368.setTop (mkF m 102 #[.val (.long k0'), .second, .val (.long k1'), .second, .val (.long k2'), .second, .val (.long k3'), .second, .val (.long k4'), .second, rv b330, .val (.long y350_0), .second, .val (.long y353_0), .second, .val (.long y356_0), .second, .val (.long y359_0), .second, .val (.long y362_0), .second, .val (.long k0'), .second, .val (.long k1'), .second, .val (.long k2'), .second, .val (.long k3'), .second, .val (.long k4'), .second, .unset, .unset] [(.long (own_min k0' k1'))]))
  generalize e_mm369 : (own_min k0' k1') = mm369
  show own_Fin p e below G (T368.setTop (mkF m 102 #[.val (.long k0'), .second, .val (.long k1'), .second, .val (.long k2'), .second, .val (.long k3'), .second, .val (.long k4'), .second, rv b330, .val (.long y350_0), .second, .val (.long y353_0), .second, .val (.long y356_0), .second, .val (.long y359_0), .second, .val (.long y362_0), .second, .val (.long k0'), .second, .val (.long k1'), .second, .val (.long k2'), .second, .val (.long k3'), .second, .val (.long k4'), .second, .unset, .unset] [(.long mm369)]))
  refine own_st (fun _ k => XS.lstore X368.here hx rfl (hb hby at_102) rfl (l' := #[.val (.long k0'), .second, .val (.long k1'), .second, .val (.long k2'), .second, .val (.long k3'), .second, .val (.long k4'), .second, rv b330, .val (.long y350_0), .second, .val (.long y353_0), .second, .val (.long y356_0), .second, .val (.long y359_0), .second, .val (.long y362_0), .second, .val (.long k0'), .second, .val (.long k1'), .second, .val (.long k2'), .second, .val (.long k3'), .second, .val (.long k4'), .second, .val (.long mm369), .second]) rfl k) ?_
  show own_Fin p e below G (T368.setTop (mkF m 104 #[.val (.long k0'), .second, .val (.long k1'), .second, .val (.long k2'), .second, .val (.long k3'), .second, .val (.long k4'), .second, rv b330, .val (.long y350_0), .second, .val (.long y353_0), .second, .val (.long y356_0), .second, .val (.long y359_0), .second, .val (.long y362_0), .second, .val (.long k0'), .second, .val (.long k1'), .second, .val (.long k2'), .second, .val (.long k3'), .second, .val (.long k4'), .second, .val (.long mm369), .second] []))
  refine own_st (fun _ k => XS.lload X368.here hx rfl (hb hby at_104) rfl  k) ?_
  show own_Fin p e below G (T368.setTop (mkF m 106 #[.val (.long k0'), .second, .val (.long k1'), .second, .val (.long k2'), .second, .val (.long k3'), .second, .val (.long k4'), .second, rv b330, .val (.long y350_0), .second, .val (.long y353_0), .second, .val (.long y356_0), .second, .val (.long y359_0), .second, .val (.long y362_0), .second, .val (.long k0'), .second, .val (.long k1'), .second, .val (.long k2'), .second, .val (.long k3'), .second, .val (.long k4'), .second, .val (.long mm369), .second] [(.long k0')]))
  refine own_st (fun _ k => XS.lload X368.here hx rfl (hb hby at_106) rfl  k) ?_
  show own_Fin p e below G (T368.setTop (mkF m 108 #[.val (.long k0'), .second, .val (.long k1'), .second, .val (.long k2'), .second, .val (.long k3'), .second, .val (.long k4'), .second, rv b330, .val (.long y350_0), .second, .val (.long y353_0), .second, .val (.long y356_0), .second, .val (.long y359_0), .second, .val (.long y362_0), .second, .val (.long k0'), .second, .val (.long k1'), .second, .val (.long k2'), .second, .val (.long k3'), .second, .val (.long k4'), .second, .val (.long mm369), .second] [(.long k1'), (.long k0')]))
  obtain ⟨_, _, ⟨T370, L370, k370, n370⟩, -, X370, ⟨Lc370, hQ370, l370, y370, z370⟩, st370⟩ := Jvm.LawKit.callS X368 hx (y := own_y1) hown (mvT hZ (own_w hw 28 rfl)) (mvT hZ (own_w hw 29 rfl)) (mvT hZ (own_w hw 26 rfl)) (mvT hZ (own_w hw 30 rfl)) (by decide) (backOf (W := 0) (rm_max l Z a0 hw [] k0' k1' T365.heap n0 (Nat.le_trans Z0 K367.1) ) hZ (own_w hw 30 rfl) (own_w hw 26 rfl) (by decide) (by decide)) (g := (mkF m 108 #[.val (.long k0'), .second, .val (.long k1'), .second, .val (.long k2'), .second, .val (.long k3'), .second, .val (.long k4'), .second, rv b330, .val (.long y350_0), .second, .val (.long y353_0), .second, .val (.long y356_0), .second, .val (.long y359_0), .second, .val (.long y362_0), .second, .val (.long k0'), .second, .val (.long k1'), .second, .val (.long k2'), .second, .val (.long k3'), .second, .val (.long k4'), .second, .val (.long mm369), .second] [(.long k1'), (.long k0')])) rfl (by rw [hml]; rfl) (argsL := [(.long k0'), (.long k1')]) (rest := []) (lenOf pd__JJ_J_303 rfl) rfl (by show 2 * 0 + _ ≤ _; exact Nat.le_of_eq rfl) (hb hby at_108) (fun _ _ => ⟨rfl, e368, (by decide : 2 + 0 ≤ _), (by decide : 18 + 0 ≤ _)⟩)
  clear X368 e368
  dsimp only [Pt.U, Pt.locs, Pt.cells, Pt.slots] at X370 l370 y370 z370 st370 hQ370
  obtain rfl : k370 = (2 : Nat) := y370
  obtain rfl : n370 = (18 : Nat) := z370
  obtain ⟨rfl, N370q, e370⟩ := hQ370
  skip
  have N370 : Fr n0 L370 := by rw [l370]; exact Fr.app N368 N370q
  clear N368 l370 N370q
  refine own_st st370 ?_
  clear st370
  show own_Fin p e below G (T370.setTop (mkF m 111 #[.val (.long k0'), .second, .val (.long k1'), .second, .val (.long k2'), .second, .val (.long k3'), .second, .val (.long k4'), .second, rv b330, .val (.long y350_0), .second, .val (.long y353_0), .second, .val (.long y356_0), .second, .val (.long y359_0), .second, .val (.long y362_0), .second, .val (.long k0'), .second, .val (.long k1'), .second, .val (.long k2'), .second, .val (.long k3'), .second, .val (.long k4'), .second, .val (.long mm369), .second] [(.long (own_max k0' k1'))]))
  generalize e_mm371 : (own_max k0' k1') = mm371
  show own_Fin p e below G (T370.setTop (mkF m 111 #[.val (.long k0'), .second, .val (.long k1'), .second, .val (.long k2'), .second, .val (.long k3'), .second, .val (.long k4'), .second, rv b330, .val (.long y350_0), .second, .val (.long y353_0), .second, .val (.long y356_0), .second, .val (.long y359_0), .second, .val (.long y362_0), .second, .val (.long k0'), .second, .val (.long k1'), .second, .val (.long k2'), .second, .val (.long k3'), .second, .val (.long k4'), .second, .val (.long mm369), .second] [(.long mm371)]))
  refine own_st (fun _ k => XS.lstore X370.here hx rfl (hb hby at_111) rfl (l' := #[.val (.long k0'), .second, .val (.long k1'), .second, .val (.long k2'), .second, .val (.long k3'), .second, .val (.long k4'), .second, rv b330, .val (.long y350_0), .second, .val (.long y353_0), .second, .val (.long y356_0), .second, .val (.long y359_0), .second, .val (.long y362_0), .second, .val (.long k0'), .second, .val (.long mm371), .second, .val (.long k2'), .second, .val (.long k3'), .second, .val (.long k4'), .second, .val (.long mm369), .second]) rfl k) ?_
  show own_Fin p e below G (T370.setTop (mkF m 113 #[.val (.long k0'), .second, .val (.long k1'), .second, .val (.long k2'), .second, .val (.long k3'), .second, .val (.long k4'), .second, rv b330, .val (.long y350_0), .second, .val (.long y353_0), .second, .val (.long y356_0), .second, .val (.long y359_0), .second, .val (.long y362_0), .second, .val (.long k0'), .second, .val (.long mm371), .second, .val (.long k2'), .second, .val (.long k3'), .second, .val (.long k4'), .second, .val (.long mm369), .second] []))
  refine own_st (fun _ k => XS.lload X370.here hx rfl (hb hby at_113) rfl  k) ?_
  show own_Fin p e below G (T370.setTop (mkF m 115 #[.val (.long k0'), .second, .val (.long k1'), .second, .val (.long k2'), .second, .val (.long k3'), .second, .val (.long k4'), .second, rv b330, .val (.long y350_0), .second, .val (.long y353_0), .second, .val (.long y356_0), .second, .val (.long y359_0), .second, .val (.long y362_0), .second, .val (.long k0'), .second, .val (.long mm371), .second, .val (.long k2'), .second, .val (.long k3'), .second, .val (.long k4'), .second, .val (.long mm369), .second] [(.long mm369)]))
  refine own_st (fun _ k => XS.lstore X370.here hx rfl (hb hby at_115) rfl (l' := #[.val (.long k0'), .second, .val (.long k1'), .second, .val (.long k2'), .second, .val (.long k3'), .second, .val (.long k4'), .second, rv b330, .val (.long y350_0), .second, .val (.long y353_0), .second, .val (.long y356_0), .second, .val (.long y359_0), .second, .val (.long y362_0), .second, .val (.long mm369), .second, .val (.long mm371), .second, .val (.long k2'), .second, .val (.long k3'), .second, .val (.long k4'), .second, .val (.long mm369), .second]) rfl k) ?_
  show own_Fin p e below G (T370.setTop (mkF m 117 #[.val (.long k0'), .second, .val (.long k1'), .second, .val (.long k2'), .second, .val (.long k3'), .second, .val (.long k4'), .second, rv b330, .val (.long y350_0), .second, .val (.long y353_0), .second, .val (.long y356_0), .second, .val (.long y359_0), .second, .val (.long y362_0), .second, .val (.long mm369), .second, .val (.long mm371), .second, .val (.long k2'), .second, .val (.long k3'), .second, .val (.long k4'), .second, .val (.long mm369), .second] []))
  refine own_st (fun _ k => XS.lload X370.here hx rfl (hb hby at_117) rfl  k) ?_
  show own_Fin p e below G (T370.setTop (mkF m 119 #[.val (.long k0'), .second, .val (.long k1'), .second, .val (.long k2'), .second, .val (.long k3'), .second, .val (.long k4'), .second, rv b330, .val (.long y350_0), .second, .val (.long y353_0), .second, .val (.long y356_0), .second, .val (.long y359_0), .second, .val (.long y362_0), .second, .val (.long mm369), .second, .val (.long mm371), .second, .val (.long k2'), .second, .val (.long k3'), .second, .val (.long k4'), .second, .val (.long mm369), .second] [(.long k3')]))
  refine own_st (fun _ k => XS.lload X370.here hx rfl (hb hby at_119) rfl  k) ?_
  show own_Fin p e below G (T370.setTop (mkF m 121 #[.val (.long k0'), .second, .val (.long k1'), .second, .val (.long k2'), .second, .val (.long k3'), .second, .val (.long k4'), .second, rv b330, .val (.long y350_0), .second, .val (.long y353_0), .second, .val (.long y356_0), .second, .val (.long y359_0), .second, .val (.long y362_0), .second, .val (.long mm369), .second, .val (.long mm371), .second, .val (.long k2'), .second, .val (.long k3'), .second, .val (.long k4'), .second, .val (.long mm369), .second] [(.long k4'), (.long k3')]))
  obtain ⟨_, _, ⟨T372, L372, k372, n372⟩, -, X372, ⟨Lc372, hQ372, l372, y372, z372⟩, st372⟩ := Jvm.LawKit.callS X370 hx (y := own_y0) hown (mvT hZ (own_w hw 24 rfl)) (mvT hZ (own_w hw 25 rfl)) (mvT hZ (own_w hw 26 rfl)) (mvT hZ (own_w hw 27 rfl)) (by decide) (backOf (W := 0) (rm_min l Z a0 hw [] k3' k4' T365.heap n0 (Nat.le_trans Z0 K367.1) ) hZ (own_w hw 27 rfl) (own_w hw 26 rfl) (by decide) (by decide)) (g := (mkF m 121 #[.val (.long k0'), .second, .val (.long k1'), .second, .val (.long k2'), .second, .val (.long k3'), .second, .val (.long k4'), .second, rv b330, .val (.long y350_0), .second, .val (.long y353_0), .second, .val (.long y356_0), .second, .val (.long y359_0), .second, .val (.long y362_0), .second, .val (.long mm369), .second, .val (.long mm371), .second, .val (.long k2'), .second, .val (.long k3'), .second, .val (.long k4'), .second, .val (.long mm369), .second] [(.long k4'), (.long k3')])) rfl (by rw [hml]; rfl) (argsL := [(.long k3'), (.long k4')]) (rest := []) (lenOf pd__JJ_J_303 rfl) rfl (by show 2 * 0 + _ ≤ _; exact Nat.le_of_eq rfl) (hb hby at_121) (fun _ _ => ⟨rfl, e370, (by decide : 2 + 0 ≤ _), (by decide : 18 + 0 ≤ _)⟩)
  clear X370 e370
  dsimp only [Pt.U, Pt.locs, Pt.cells, Pt.slots] at X372 l372 y372 z372 st372 hQ372
  obtain rfl : k372 = (2 : Nat) := y372
  obtain rfl : n372 = (18 : Nat) := z372
  obtain ⟨rfl, N372q, e372⟩ := hQ372
  skip
  have N372 : Fr n0 L372 := by rw [l372]; exact Fr.app N370 N372q
  clear N370 l372 N372q
  refine own_st st372 ?_
  clear st372
  show own_Fin p e below G (T372.setTop (mkF m 124 #[.val (.long k0'), .second, .val (.long k1'), .second, .val (.long k2'), .second, .val (.long k3'), .second, .val (.long k4'), .second, rv b330, .val (.long y350_0), .second, .val (.long y353_0), .second, .val (.long y356_0), .second, .val (.long y359_0), .second, .val (.long y362_0), .second, .val (.long mm369), .second, .val (.long mm371), .second, .val (.long k2'), .second, .val (.long k3'), .second, .val (.long k4'), .second, .val (.long mm369), .second] [(.long (own_min k3' k4'))]))
  generalize e_mm373 : (own_min k3' k4') = mm373
  show own_Fin p e below G (T372.setTop (mkF m 124 #[.val (.long k0'), .second, .val (.long k1'), .second, .val (.long k2'), .second, .val (.long k3'), .second, .val (.long k4'), .second, rv b330, .val (.long y350_0), .second, .val (.long y353_0), .second, .val (.long y356_0), .second, .val (.long y359_0), .second, .val (.long y362_0), .second, .val (.long mm369), .second, .val (.long mm371), .second, .val (.long k2'), .second, .val (.long k3'), .second, .val (.long k4'), .second, .val (.long mm369), .second] [(.long mm373)]))
  refine own_st (fun _ k => XS.lstore X372.here hx rfl (hb hby at_124) rfl (l' := #[.val (.long k0'), .second, .val (.long k1'), .second, .val (.long k2'), .second, .val (.long k3'), .second, .val (.long k4'), .second, rv b330, .val (.long y350_0), .second, .val (.long y353_0), .second, .val (.long y356_0), .second, .val (.long y359_0), .second, .val (.long y362_0), .second, .val (.long mm369), .second, .val (.long mm371), .second, .val (.long k2'), .second, .val (.long k3'), .second, .val (.long k4'), .second, .val (.long mm373), .second]) rfl k) ?_
  show own_Fin p e below G (T372.setTop (mkF m 126 #[.val (.long k0'), .second, .val (.long k1'), .second, .val (.long k2'), .second, .val (.long k3'), .second, .val (.long k4'), .second, rv b330, .val (.long y350_0), .second, .val (.long y353_0), .second, .val (.long y356_0), .second, .val (.long y359_0), .second, .val (.long y362_0), .second, .val (.long mm369), .second, .val (.long mm371), .second, .val (.long k2'), .second, .val (.long k3'), .second, .val (.long k4'), .second, .val (.long mm373), .second] []))
  refine own_st (fun _ k => XS.lload X372.here hx rfl (hb hby at_126) rfl  k) ?_
  show own_Fin p e below G (T372.setTop (mkF m 128 #[.val (.long k0'), .second, .val (.long k1'), .second, .val (.long k2'), .second, .val (.long k3'), .second, .val (.long k4'), .second, rv b330, .val (.long y350_0), .second, .val (.long y353_0), .second, .val (.long y356_0), .second, .val (.long y359_0), .second, .val (.long y362_0), .second, .val (.long mm369), .second, .val (.long mm371), .second, .val (.long k2'), .second, .val (.long k3'), .second, .val (.long k4'), .second, .val (.long mm373), .second] [(.long k3')]))
  refine own_st (fun _ k => XS.lload X372.here hx rfl (hb hby at_128) rfl  k) ?_
  show own_Fin p e below G (T372.setTop (mkF m 130 #[.val (.long k0'), .second, .val (.long k1'), .second, .val (.long k2'), .second, .val (.long k3'), .second, .val (.long k4'), .second, rv b330, .val (.long y350_0), .second, .val (.long y353_0), .second, .val (.long y356_0), .second, .val (.long y359_0), .second, .val (.long y362_0), .second, .val (.long mm369), .second, .val (.long mm371), .second, .val (.long k2'), .second, .val (.long k3'), .second, .val (.long k4'), .second, .val (.long mm373), .second] [(.long k4'), (.long k3')]))
  obtain ⟨_, _, ⟨T374, L374, k374, n374⟩, -, X374, ⟨Lc374, hQ374, l374, y374, z374⟩, st374⟩ := Jvm.LawKit.callS X372 hx (y := own_y1) hown (mvT hZ (own_w hw 28 rfl)) (mvT hZ (own_w hw 29 rfl)) (mvT hZ (own_w hw 26 rfl)) (mvT hZ (own_w hw 30 rfl)) (by decide) (backOf (W := 0) (rm_max l Z a0 hw [] k3' k4' T365.heap n0 (Nat.le_trans Z0 K367.1) ) hZ (own_w hw 30 rfl) (own_w hw 26 rfl) (by decide) (by decide)) (g := (mkF m 130 #[.val (.long k0'), .second, .val (.long k1'), .second, .val (.long k2'), .second, .val (.long k3'), .second, .val (.long k4'), .second, rv b330, .val (.long y350_0), .second, .val (.long y353_0), .second, .val (.long y356_0), .second, .val (.long y359_0), .second, .val (.long y362_0), .second, .val (.long mm369), .second, .val (.long mm371), .second, .val (.long k2'), .second, .val (.long k3'), .second, .val (.long k4'), .second, .val (.long mm373), .second] [(.long k4'), (.long k3')])) rfl (by rw [hml]; rfl) (argsL := [(.long k3'), (.long k4')]) (rest := []) (lenOf pd__JJ_J_303 rfl) rfl (by show 2 * 0 + _ ≤ _; exact Nat.le_of_eq rfl) (hb hby at_130) (fun _ _ => ⟨rfl, e372, (by decide : 2 + 0 ≤ _), (by decide : 18 + 0 ≤ _)⟩)
  clear X372 e372
  dsimp only [Pt.U, Pt.locs, Pt.cells, Pt.slots] at X374 l374 y374 z374 st374 hQ374
  obtain rfl : k374 = (2 : Nat) := y374
  obtain rfl : n374 = (18 : Nat) := z374
  obtain ⟨rfl, N374q, e374⟩ := hQ374
  skip
  have N374 : Fr n0 L374 := by rw [l374]; exact Fr.app N372 N374q
  clear N372 l374 N374q
  refine own_st st374 ?_
  clear st374
  show own_Fin p e below G (T374.setTop (mkF m 133 #[.val (.long k0'), .second, .val (.long k1'), .second, .val (.long k2'), .second, .val (.long k3'), .second, .val (.long k4'), .second, rv b330, .val (.long y350_0), .second, .val (.long y353_0), .second, .val (.long y356_0), .second, .val (.long y359_0), .second, .val (.long y362_0), .second, .val (.long mm369), .second, .val (.long mm371), .second, .val (.long k2'), .second, .val (.long k3'), .second, .val (.long k4'), .second, .val (.long mm373), .second] [(.long (own_max k3' k4'))]))
  generalize e_mm375 : (own_max k3' k4') = mm375
  show own_Fin p e below G (T374.setTop (mkF m 133 #[.val (.long k0'), .second, .val (.long k1'), .second, .val (.long k2'), .second, .val (.long k3'), .second, .val (.long k4'), .second, rv b330, .val (.long y350_0), .second, .val (.long y353_0), .second, .val (.long y356_0), .second, .val (.long y359_0), .second, .val (.long y362_0), .second, .val (.long mm369), .second, .val (.long mm371), .second, .val (.long k2'), .second, .val (.long k3'), .second, .val (.long k4'), .second, .val (.long mm373), .second] [(.long mm375)]))
  refine own_st (fun _ k => XS.lstore X374.here hx rfl (hb hby at_133) rfl (l' := #[.val (.long k0'), .second, .val (.long k1'), .second, .val (.long k2'), .second, .val (.long k3'), .second, .val (.long k4'), .second, rv b330, .val (.long y350_0), .second, .val (.long y353_0), .second, .val (.long y356_0), .second, .val (.long y359_0), .second, .val (.long y362_0), .second, .val (.long mm369), .second, .val (.long mm371), .second, .val (.long k2'), .second, .val (.long k3'), .second, .val (.long mm375), .second, .val (.long mm373), .second]) rfl k) ?_
  show own_Fin p e below G (T374.setTop (mkF m 135 #[.val (.long k0'), .second, .val (.long k1'), .second, .val (.long k2'), .second, .val (.long k3'), .second, .val (.long k4'), .second, rv b330, .val (.long y350_0), .second, .val (.long y353_0), .second, .val (.long y356_0), .second, .val (.long y359_0), .second, .val (.long y362_0), .second, .val (.long mm369), .second, .val (.long mm371), .second, .val (.long k2'), .second, .val (.long k3'), .second, .val (.long mm375), .second, .val (.long mm373), .second] []))
  refine own_st (fun _ k => XS.lload X374.here hx rfl (hb hby at_135) rfl  k) ?_
  show own_Fin p e below G (T374.setTop (mkF m 137 #[.val (.long k0'), .second, .val (.long k1'), .second, .val (.long k2'), .second, .val (.long k3'), .second, .val (.long k4'), .second, rv b330, .val (.long y350_0), .second, .val (.long y353_0), .second, .val (.long y356_0), .second, .val (.long y359_0), .second, .val (.long y362_0), .second, .val (.long mm369), .second, .val (.long mm371), .second, .val (.long k2'), .second, .val (.long k3'), .second, .val (.long mm375), .second, .val (.long mm373), .second] [(.long mm373)]))
  refine own_st (fun _ k => XS.lstore X374.here hx rfl (hb hby at_137) rfl (l' := #[.val (.long k0'), .second, .val (.long k1'), .second, .val (.long k2'), .second, .val (.long k3'), .second, .val (.long k4'), .second, rv b330, .val (.long y350_0), .second, .val (.long y353_0), .second, .val (.long y356_0), .second, .val (.long y359_0), .second, .val (.long y362_0), .second, .val (.long mm369), .second, .val (.long mm371), .second, .val (.long k2'), .second, .val (.long mm373), .second, .val (.long mm375), .second, .val (.long mm373), .second]) rfl k) ?_
  show own_Fin p e below G (T374.setTop (mkF m 139 #[.val (.long k0'), .second, .val (.long k1'), .second, .val (.long k2'), .second, .val (.long k3'), .second, .val (.long k4'), .second, rv b330, .val (.long y350_0), .second, .val (.long y353_0), .second, .val (.long y356_0), .second, .val (.long y359_0), .second, .val (.long y362_0), .second, .val (.long mm369), .second, .val (.long mm371), .second, .val (.long k2'), .second, .val (.long mm373), .second, .val (.long mm375), .second, .val (.long mm373), .second] []))
  refine own_st (fun _ k => XS.lload X374.here hx rfl (hb hby at_139) rfl  k) ?_
  show own_Fin p e below G (T374.setTop (mkF m 141 #[.val (.long k0'), .second, .val (.long k1'), .second, .val (.long k2'), .second, .val (.long k3'), .second, .val (.long k4'), .second, rv b330, .val (.long y350_0), .second, .val (.long y353_0), .second, .val (.long y356_0), .second, .val (.long y359_0), .second, .val (.long y362_0), .second, .val (.long mm369), .second, .val (.long mm371), .second, .val (.long k2'), .second, .val (.long mm373), .second, .val (.long mm375), .second, .val (.long mm373), .second] [(.long k2')]))
  refine own_st (fun _ k => XS.lload X374.here hx rfl (hb hby at_141) rfl  k) ?_
  show own_Fin p e below G (T374.setTop (mkF m 143 #[.val (.long k0'), .second, .val (.long k1'), .second, .val (.long k2'), .second, .val (.long k3'), .second, .val (.long k4'), .second, rv b330, .val (.long y350_0), .second, .val (.long y353_0), .second, .val (.long y356_0), .second, .val (.long y359_0), .second, .val (.long y362_0), .second, .val (.long mm369), .second, .val (.long mm371), .second, .val (.long k2'), .second, .val (.long mm373), .second, .val (.long mm375), .second, .val (.long mm373), .second] [(.long mm375), (.long k2')]))
  obtain ⟨_, _, ⟨T376, L376, k376, n376⟩, -, X376, ⟨Lc376, hQ376, l376, y376, z376⟩, st376⟩ := Jvm.LawKit.callS X374 hx (y := own_y0) hown (mvT hZ (own_w hw 24 rfl)) (mvT hZ (own_w hw 25 rfl)) (mvT hZ (own_w hw 26 rfl)) (mvT hZ (own_w hw 27 rfl)) (by decide) (backOf (W := 0) (rm_min l Z a0 hw [] k2' mm375 T365.heap n0 (Nat.le_trans Z0 K367.1) ) hZ (own_w hw 27 rfl) (own_w hw 26 rfl) (by decide) (by decide)) (g := (mkF m 143 #[.val (.long k0'), .second, .val (.long k1'), .second, .val (.long k2'), .second, .val (.long k3'), .second, .val (.long k4'), .second, rv b330, .val (.long y350_0), .second, .val (.long y353_0), .second, .val (.long y356_0), .second, .val (.long y359_0), .second, .val (.long y362_0), .second, .val (.long mm369), .second, .val (.long mm371), .second, .val (.long k2'), .second, .val (.long mm373), .second, .val (.long mm375), .second, .val (.long mm373), .second] [(.long mm375), (.long k2')])) rfl (by rw [hml]; rfl) (argsL := [(.long k2'), (.long mm375)]) (rest := []) (lenOf pd__JJ_J_303 rfl) rfl (by show 2 * 0 + _ ≤ _; exact Nat.le_of_eq rfl) (hb hby at_143) (fun _ _ => ⟨rfl, e374, (by decide : 2 + 0 ≤ _), (by decide : 18 + 0 ≤ _)⟩)
  clear X374 e374
  dsimp only [Pt.U, Pt.locs, Pt.cells, Pt.slots] at X376 l376 y376 z376 st376 hQ376
  obtain rfl : k376 = (2 : Nat) := y376
  obtain rfl : n376 = (18 : Nat) := z376
  obtain ⟨rfl, N376q, e376⟩ := hQ376
  skip
  have N376 : Fr n0 L376 := by rw [l376]; exact Fr.app N374 N376q
  clear N374 l376 N376q
  refine own_st st376 ?_
  clear st376
  show own_Fin p e below G (T376.setTop (mkF m 146 #[.val (.long k0'), .second, .val (.long k1'), .second, .val (.long k2'), .second, .val (.long k3'), .second, .val (.long k4'), .second, rv b330, .val (.long y350_0), .second, .val (.long y353_0), .second, .val (.long y356_0), .second, .val (.long y359_0), .second, .val (.long y362_0), .second, .val (.long mm369), .second, .val (.long mm371), .second, .val (.long k2'), .second, .val (.long mm373), .second, .val (.long mm375), .second, .val (.long mm373), .second] [(.long (own_min k2' mm375))]))
  generalize e_mm377 : (own_min k2' mm375) = mm377
  show own_Fin p e below G (T376.setTop (mkF m 146 #[.val (.long k0'), .second, .val (.long k1'), .second, .val (.long k2'), .second, .val (.long k3'), .second, .val (.long k4'), .second, rv b330, .val (.long y350_0), .second, .val (.long y353_0), .second, .val (.long y356_0), .second, .val (.long y359_0), .second, .val (.long y362_0), .second, .val (.long mm369), .second, .val (.long mm371), .second, .val (.long k2'), .second, .val (.long mm373), .second, .val (.long mm375), .second, .val (.long mm373), .second] [(.long mm377)]))
  refine own_st (fun _ k => XS.lstore X376.here hx rfl (hb hby at_146) rfl (l' := #[.val (.long k0'), .second, .val (.long k1'), .second, .val (.long k2'), .second, .val (.long k3'), .second, .val (.long k4'), .second, rv b330, .val (.long y350_0), .second, .val (.long y353_0), .second, .val (.long y356_0), .second, .val (.long y359_0), .second, .val (.long y362_0), .second, .val (.long mm369), .second, .val (.long mm371), .second, .val (.long k2'), .second, .val (.long mm373), .second, .val (.long mm375), .second, .val (.long mm377), .second]) rfl k) ?_
  show own_Fin p e below G (T376.setTop (mkF m 148 #[.val (.long k0'), .second, .val (.long k1'), .second, .val (.long k2'), .second, .val (.long k3'), .second, .val (.long k4'), .second, rv b330, .val (.long y350_0), .second, .val (.long y353_0), .second, .val (.long y356_0), .second, .val (.long y359_0), .second, .val (.long y362_0), .second, .val (.long mm369), .second, .val (.long mm371), .second, .val (.long k2'), .second, .val (.long mm373), .second, .val (.long mm375), .second, .val (.long mm377), .second] []))
  refine own_st (fun _ k => XS.lload X376.here hx rfl (hb hby at_148) rfl  k) ?_
  show own_Fin p e below G (T376.setTop (mkF m 150 #[.val (.long k0'), .second, .val (.long k1'), .second, .val (.long k2'), .second, .val (.long k3'), .second, .val (.long k4'), .second, rv b330, .val (.long y350_0), .second, .val (.long y353_0), .second, .val (.long y356_0), .second, .val (.long y359_0), .second, .val (.long y362_0), .second, .val (.long mm369), .second, .val (.long mm371), .second, .val (.long k2'), .second, .val (.long mm373), .second, .val (.long mm375), .second, .val (.long mm377), .second] [(.long k2')]))
  refine own_st (fun _ k => XS.lload X376.here hx rfl (hb hby at_150) rfl  k) ?_
  show own_Fin p e below G (T376.setTop (mkF m 152 #[.val (.long k0'), .second, .val (.long k1'), .second, .val (.long k2'), .second, .val (.long k3'), .second, .val (.long k4'), .second, rv b330, .val (.long y350_0), .second, .val (.long y353_0), .second, .val (.long y356_0), .second, .val (.long y359_0), .second, .val (.long y362_0), .second, .val (.long mm369), .second, .val (.long mm371), .second, .val (.long k2'), .second, .val (.long mm373), .second, .val (.long mm375), .second, .val (.long mm377), .second] [(.long mm375), (.long k2')]))
  obtain ⟨_, _, ⟨T378, L378, k378, n378⟩, -, X378, ⟨Lc378, hQ378, l378, y378, z378⟩, st378⟩ := Jvm.LawKit.callS X376 hx (y := own_y1) hown (mvT hZ (own_w hw 28 rfl)) (mvT hZ (own_w hw 29 rfl)) (mvT hZ (own_w hw 26 rfl)) (mvT hZ (own_w hw 30 rfl)) (by decide) (backOf (W := 0) (rm_max l Z a0 hw [] k2' mm375 T365.heap n0 (Nat.le_trans Z0 K367.1) ) hZ (own_w hw 30 rfl) (own_w hw 26 rfl) (by decide) (by decide)) (g := (mkF m 152 #[.val (.long k0'), .second, .val (.long k1'), .second, .val (.long k2'), .second, .val (.long k3'), .second, .val (.long k4'), .second, rv b330, .val (.long y350_0), .second, .val (.long y353_0), .second, .val (.long y356_0), .second, .val (.long y359_0), .second, .val (.long y362_0), .second, .val (.long mm369), .second, .val (.long mm371), .second, .val (.long k2'), .second, .val (.long mm373), .second, .val (.long mm375), .second, .val (.long mm377), .second] [(.long mm375), (.long k2')])) rfl (by rw [hml]; rfl) (argsL := [(.long k2'), (.long mm375)]) (rest := []) (lenOf pd__JJ_J_303 rfl) rfl (by show 2 * 0 + _ ≤ _; exact Nat.le_of_eq rfl) (hb hby at_152) (fun _ _ => ⟨rfl, e376, (by decide : 2 + 0 ≤ _), (by decide : 18 + 0 ≤ _)⟩)
  clear X376 e376
  dsimp only [Pt.U, Pt.locs, Pt.cells, Pt.slots] at X378 l378 y378 z378 st378 hQ378
  obtain rfl : k378 = (2 : Nat) := y378
  obtain rfl : n378 = (18 : Nat) := z378
  obtain ⟨rfl, N378q, e378⟩ := hQ378
  skip
  have N378 : Fr n0 L378 := by rw [l378]; exact Fr.app N376 N378q
  clear N376 l378 N378q
  refine own_st st378 ?_
  clear st378
  show own_Fin p e below G (T378.setTop (mkF m 155 #[.val (.long k0'), .second, .val (.long k1'), .second, .val (.long k2'), .second, .val (.long k3'), .second, .val (.long k4'), .second, rv b330, .val (.long y350_0), .second, .val (.long y353_0), .second, .val (.long y356_0), .second, .val (.long y359_0), .second, .val (.long y362_0), .second, .val (.long mm369), .second, .val (.long mm371), .second, .val (.long k2'), .second, .val (.long mm373), .second, .val (.long mm375), .second, .val (.long mm377), .second] [(.long (own_max k2' mm375))]))
  generalize e_mm379 : (own_max k2' mm375) = mm379
  show own_Fin p e below G (T378.setTop (mkF m 155 #[.val (.long k0'), .second, .val (.long k1'), .second, .val (.long k2'), .second, .val (.long k3'), .second, .val (.long k4'), .second, rv b330, .val (.long y350_0), .second, .val (.long y353_0), .second, .val (.long y356_0), .second, .val (.long y359_0), .second, .val (.long y362_0), .second, .val (.long mm369), .second, .val (.long mm371), .second, .val (.long k2'), .second, .val (.long mm373), .second, .val (.long mm375), .second, .val (.long mm377), .second] [(.long mm379)]))
  refine own_st (fun _ k => XS.lstore X378.here hx rfl (hb hby at_155) rfl (l' := #[.val (.long k0'), .second, .val (.long k1'), .second, .val (.long k2'), .second, .val (.long k3'), .second, .val (.long k4'), .second, rv b330, .val (.long y350_0), .second, .val (.long y353_0), .second, .val (.long y356_0), .second, .val (.long y359_0), .second, .val (.long y362_0), .second, .val (.long mm369), .second, .val (.long mm371), .second, .val (.long k2'), .second, .val (.long mm373), .second, .val (.long mm379), .second, .val (.long mm377), .second]) rfl k) ?_
  show own_Fin p e below G (T378.setTop (mkF m 157 #[.val (.long k0'), .second, .val (.long k1'), .second, .val (.long k2'), .second, .val (.long k3'), .second, .val (.long k4'), .second, rv b330, .val (.long y350_0), .second, .val (.long y353_0), .second, .val (.long y356_0), .second, .val (.long y359_0), .second, .val (.long y362_0), .second, .val (.long mm369), .second, .val (.long mm371), .second, .val (.long k2'), .second, .val (.long mm373), .second, .val (.long mm379), .second, .val (.long mm377), .second] []))
  refine own_st (fun _ k => XS.lload X378.here hx rfl (hb hby at_157) rfl  k) ?_
  show own_Fin p e below G (T378.setTop (mkF m 159 #[.val (.long k0'), .second, .val (.long k1'), .second, .val (.long k2'), .second, .val (.long k3'), .second, .val (.long k4'), .second, rv b330, .val (.long y350_0), .second, .val (.long y353_0), .second, .val (.long y356_0), .second, .val (.long y359_0), .second, .val (.long y362_0), .second, .val (.long mm369), .second, .val (.long mm371), .second, .val (.long k2'), .second, .val (.long mm373), .second, .val (.long mm379), .second, .val (.long mm377), .second] [(.long mm377)]))
  refine own_st (fun _ k => XS.lstore X378.here hx rfl (hb hby at_159) rfl (l' := #[.val (.long k0'), .second, .val (.long k1'), .second, .val (.long k2'), .second, .val (.long k3'), .second, .val (.long k4'), .second, rv b330, .val (.long y350_0), .second, .val (.long y353_0), .second, .val (.long y356_0), .second, .val (.long y359_0), .second, .val (.long y362_0), .second, .val (.long mm369), .second, .val (.long mm371), .second, .val (.long mm377), .second, .val (.long mm373), .second, .val (.long mm379), .second, .val (.long mm377), .second]) rfl k) ?_
  show own_Fin p e below G (T378.setTop (mkF m 161 #[.val (.long k0'), .second, .val (.long k1'), .second, .val (.long k2'), .second, .val (.long k3'), .second, .val (.long k4'), .second, rv b330, .val (.long y350_0), .second, .val (.long y353_0), .second, .val (.long y356_0), .second, .val (.long y359_0), .second, .val (.long y362_0), .second, .val (.long mm369), .second, .val (.long mm371), .second, .val (.long mm377), .second, .val (.long mm373), .second, .val (.long mm379), .second, .val (.long mm377), .second] []))
  refine own_st (fun _ k => XS.lload X378.here hx rfl (hb hby at_161) rfl  k) ?_
  show own_Fin p e below G (T378.setTop (mkF m 163 #[.val (.long k0'), .second, .val (.long k1'), .second, .val (.long k2'), .second, .val (.long k3'), .second, .val (.long k4'), .second, rv b330, .val (.long y350_0), .second, .val (.long y353_0), .second, .val (.long y356_0), .second, .val (.long y359_0), .second, .val (.long y362_0), .second, .val (.long mm369), .second, .val (.long mm371), .second, .val (.long mm377), .second, .val (.long mm373), .second, .val (.long mm379), .second, .val (.long mm377), .second] [(.long mm377)]))
  refine own_st (fun _ k => XS.lload X378.here hx rfl (hb hby at_163) rfl  k) ?_
  show own_Fin p e below G (T378.setTop (mkF m 165 #[.val (.long k0'), .second, .val (.long k1'), .second, .val (.long k2'), .second, .val (.long k3'), .second, .val (.long k4'), .second, rv b330, .val (.long y350_0), .second, .val (.long y353_0), .second, .val (.long y356_0), .second, .val (.long y359_0), .second, .val (.long y362_0), .second, .val (.long mm369), .second, .val (.long mm371), .second, .val (.long mm377), .second, .val (.long mm373), .second, .val (.long mm379), .second, .val (.long mm377), .second] [(.long mm373), (.long mm377)]))
  obtain ⟨_, _, ⟨T380, L380, k380, n380⟩, -, X380, ⟨Lc380, hQ380, l380, y380, z380⟩, st380⟩ := Jvm.LawKit.callS X378 hx (y := own_y0) hown (mvT hZ (own_w hw 24 rfl)) (mvT hZ (own_w hw 25 rfl)) (mvT hZ (own_w hw 26 rfl)) (mvT hZ (own_w hw 27 rfl)) (by decide) (backOf (W := 0) (rm_min l Z a0 hw [] mm377 mm373 T365.heap n0 (Nat.le_trans Z0 K367.1) ) hZ (own_w hw 27 rfl) (own_w hw 26 rfl) (by decide) (by decide)) (g := (mkF m 165 #[.val (.long k0'), .second, .val (.long k1'), .second, .val (.long k2'), .second, .val (.long k3'), .second, .val (.long k4'), .second, rv b330, .val (.long y350_0), .second, .val (.long y353_0), .second, .val (.long y356_0), .second, .val (.long y359_0), .second, .val (.long y362_0), .second, .val (.long mm369), .second, .val (.long mm371), .second, .val (.long mm377), .second, .val (.long mm373), .second, .val (.long mm379), .second, .val (.long mm377), .second] [(.long mm373), (.long mm377)])) rfl (by rw [hml]; rfl) (argsL := [(.long mm377), (.long mm373)]) (rest := []) (lenOf pd__JJ_J_303 rfl) rfl (by show 2 * 0 + _ ≤ _; exact Nat.le_of_eq rfl) (hb hby at_165) (fun _ _ => ⟨rfl, e378, (by decide : 2 + 0 ≤ _), (by decide : 18 + 0 ≤ _)⟩)
  clear X378 e378
  dsimp only [Pt.U, Pt.locs, Pt.cells, Pt.slots] at X380 l380 y380 z380 st380 hQ380
  obtain rfl : k380 = (2 : Nat) := y380
  obtain rfl : n380 = (18 : Nat) := z380
  obtain ⟨rfl, N380q, e380⟩ := hQ380
  skip
  have N380 : Fr n0 L380 := by rw [l380]; exact Fr.app N378 N380q
  clear N378 l380 N380q
  refine own_st st380 ?_
  clear st380
  show own_Fin p e below G (T380.setTop (mkF m 168 #[.val (.long k0'), .second, .val (.long k1'), .second, .val (.long k2'), .second, .val (.long k3'), .second, .val (.long k4'), .second, rv b330, .val (.long y350_0), .second, .val (.long y353_0), .second, .val (.long y356_0), .second, .val (.long y359_0), .second, .val (.long y362_0), .second, .val (.long mm369), .second, .val (.long mm371), .second, .val (.long mm377), .second, .val (.long mm373), .second, .val (.long mm379), .second, .val (.long mm377), .second] [(.long (own_min mm377 mm373))]))
  generalize e_mm381 : (own_min mm377 mm373) = mm381
  show own_Fin p e below G (T380.setTop (mkF m 168 #[.val (.long k0'), .second, .val (.long k1'), .second, .val (.long k2'), .second, .val (.long k3'), .second, .val (.long k4'), .second, rv b330, .val (.long y350_0), .second, .val (.long y353_0), .second, .val (.long y356_0), .second, .val (.long y359_0), .second, .val (.long y362_0), .second, .val (.long mm369), .second, .val (.long mm371), .second, .val (.long mm377), .second, .val (.long mm373), .second, .val (.long mm379), .second, .val (.long mm377), .second] [(.long mm381)]))
  refine own_st (fun _ k => XS.lstore X380.here hx rfl (hb hby at_168) rfl (l' := #[.val (.long k0'), .second, .val (.long k1'), .second, .val (.long k2'), .second, .val (.long k3'), .second, .val (.long k4'), .second, rv b330, .val (.long y350_0), .second, .val (.long y353_0), .second, .val (.long y356_0), .second, .val (.long y359_0), .second, .val (.long y362_0), .second, .val (.long mm369), .second, .val (.long mm371), .second, .val (.long mm377), .second, .val (.long mm373), .second, .val (.long mm379), .second, .val (.long mm381), .second]) rfl k) ?_
  show own_Fin p e below G (T380.setTop (mkF m 170 #[.val (.long k0'), .second, .val (.long k1'), .second, .val (.long k2'), .second, .val (.long k3'), .second, .val (.long k4'), .second, rv b330, .val (.long y350_0), .second, .val (.long y353_0), .second, .val (.long y356_0), .second, .val (.long y359_0), .second, .val (.long y362_0), .second, .val (.long mm369), .second, .val (.long mm371), .second, .val (.long mm377), .second, .val (.long mm373), .second, .val (.long mm379), .second, .val (.long mm381), .second] []))
  refine own_st (fun _ k => XS.lload X380.here hx rfl (hb hby at_170) rfl  k) ?_
  show own_Fin p e below G (T380.setTop (mkF m 172 #[.val (.long k0'), .second, .val (.long k1'), .second, .val (.long k2'), .second, .val (.long k3'), .second, .val (.long k4'), .second, rv b330, .val (.long y350_0), .second, .val (.long y353_0), .second, .val (.long y356_0), .second, .val (.long y359_0), .second, .val (.long y362_0), .second, .val (.long mm369), .second, .val (.long mm371), .second, .val (.long mm377), .second, .val (.long mm373), .second, .val (.long mm379), .second, .val (.long mm381), .second] [(.long mm377)]))
  refine own_st (fun _ k => XS.lload X380.here hx rfl (hb hby at_172) rfl  k) ?_
  show own_Fin p e below G (T380.setTop (mkF m 174 #[.val (.long k0'), .second, .val (.long k1'), .second, .val (.long k2'), .second, .val (.long k3'), .second, .val (.long k4'), .second, rv b330, .val (.long y350_0), .second, .val (.long y353_0), .second, .val (.long y356_0), .second, .val (.long y359_0), .second, .val (.long y362_0), .second, .val (.long mm369), .second, .val (.long mm371), .second, .val (.long mm377), .second, .val (.long mm373), .second, .val (.long mm379), .second, .val (.long mm381), .second] [(.long mm373), (.long mm377)]))
  obtain ⟨_, _, ⟨T382, L382, k382, n382⟩, -, X382, ⟨Lc382, hQ382, l382, y382, z382⟩, st382⟩ := Jvm.LawKit.callS X380 hx (y := own_y1) hown (mvT hZ (own_w hw 28 rfl)) (mvT hZ (own_w hw 29 rfl)) (mvT hZ (own_w hw 26 rfl)) (mvT hZ (own_w hw 30 rfl)) (by decide) (backOf (W := 0) (rm_max l Z a0 hw [] mm377 mm373 T365.heap n0 (Nat.le_trans Z0 K367.1) ) hZ (own_w hw 30 rfl) (own_w hw 26 rfl) (by decide) (by decide)) (g := (mkF m 174 #[.val (.long k0'), .second, .val (.long k1'), .second, .val (.long k2'), .second, .val (.long k3'), .second, .val (.long k4'), .second, rv b330, .val (.long y350_0), .second, .val (.long y353_0), .second, .val (.long y356_0), .second, .val (.long y359_0), .second, .val (.long y362_0), .second, .val (.long mm369), .second, .val (.long mm371), .second, .val (.long mm377), .second, .val (.long mm373), .second, .val (.long mm379), .second, .val (.long mm381), .second] [(.long mm373), (.long mm377)])) rfl (by rw [hml]; rfl) (argsL := [(.long mm377), (.long mm373)]) (rest := []) (lenOf pd__JJ_J_303 rfl) rfl (by show 2 * 0 + _ ≤ _; exact Nat.le_of_eq rfl) (hb hby at_174) (fun _ _ => ⟨rfl, e380, (by decide : 2 + 0 ≤ _), (by decide : 18 + 0 ≤ _)⟩)
  clear X380 e380
  dsimp only [Pt.U, Pt.locs, Pt.cells, Pt.slots] at X382 l382 y382 z382 st382 hQ382
  obtain rfl : k382 = (2 : Nat) := y382
  obtain rfl : n382 = (18 : Nat) := z382
  obtain ⟨rfl, N382q, e382⟩ := hQ382
  skip
  have N382 : Fr n0 L382 := by rw [l382]; exact Fr.app N380 N382q
  clear N380 l382 N382q
  refine own_st st382 ?_
  clear st382
  show own_Fin p e below G (T382.setTop (mkF m 177 #[.val (.long k0'), .second, .val (.long k1'), .second, .val (.long k2'), .second, .val (.long k3'), .second, .val (.long k4'), .second, rv b330, .val (.long y350_0), .second, .val (.long y353_0), .second, .val (.long y356_0), .second, .val (.long y359_0), .second, .val (.long y362_0), .second, .val (.long mm369), .second, .val (.long mm371), .second, .val (.long mm377), .second, .val (.long mm373), .second, .val (.long mm379), .second, .val (.long mm381), .second] [(.long (own_max mm377 mm373))]))
  generalize e_mm383 : (own_max mm377 mm373) = mm383
  show own_Fin p e below G (T382.setTop (mkF m 177 #[.val (.long k0'), .second, .val (.long k1'), .second, .val (.long k2'), .second, .val (.long k3'), .second, .val (.long k4'), .second, rv b330, .val (.long y350_0), .second, .val (.long y353_0), .second, .val (.long y356_0), .second, .val (.long y359_0), .second, .val (.long y362_0), .second, .val (.long mm369), .second, .val (.long mm371), .second, .val (.long mm377), .second, .val (.long mm373), .second, .val (.long mm379), .second, .val (.long mm381), .second] [(.long mm383)]))
  refine own_st (fun _ k => XS.lstore X382.here hx rfl (hb hby at_177) rfl (l' := #[.val (.long k0'), .second, .val (.long k1'), .second, .val (.long k2'), .second, .val (.long k3'), .second, .val (.long k4'), .second, rv b330, .val (.long y350_0), .second, .val (.long y353_0), .second, .val (.long y356_0), .second, .val (.long y359_0), .second, .val (.long y362_0), .second, .val (.long mm369), .second, .val (.long mm371), .second, .val (.long mm377), .second, .val (.long mm383), .second, .val (.long mm379), .second, .val (.long mm381), .second]) rfl k) ?_
  show own_Fin p e below G (T382.setTop (mkF m 179 #[.val (.long k0'), .second, .val (.long k1'), .second, .val (.long k2'), .second, .val (.long k3'), .second, .val (.long k4'), .second, rv b330, .val (.long y350_0), .second, .val (.long y353_0), .second, .val (.long y356_0), .second, .val (.long y359_0), .second, .val (.long y362_0), .second, .val (.long mm369), .second, .val (.long mm371), .second, .val (.long mm377), .second, .val (.long mm383), .second, .val (.long mm379), .second, .val (.long mm381), .second] []))
  refine own_st (fun _ k => XS.lload X382.here hx rfl (hb hby at_179) rfl  k) ?_
  show own_Fin p e below G (T382.setTop (mkF m 181 #[.val (.long k0'), .second, .val (.long k1'), .second, .val (.long k2'), .second, .val (.long k3'), .second, .val (.long k4'), .second, rv b330, .val (.long y350_0), .second, .val (.long y353_0), .second, .val (.long y356_0), .second, .val (.long y359_0), .second, .val (.long y362_0), .second, .val (.long mm369), .second, .val (.long mm371), .second, .val (.long mm377), .second, .val (.long mm383), .second, .val (.long mm379), .second, .val (.long mm381), .second] [(.long mm381)]))
  refine own_st (fun _ k => XS.lstore X382.here hx rfl (hb hby at_181) rfl (l' := #[.val (.long k0'), .second, .val (.long k1'), .second, .val (.long k2'), .second, .val (.long k3'), .second, .val (.long k4'), .second, rv b330, .val (.long y350_0), .second, .val (.long y353_0), .second, .val (.long y356_0), .second, .val (.long y359_0), .second, .val (.long y362_0), .second, .val (.long mm369), .second, .val (.long mm371), .second, .val (.long mm381), .second, .val (.long mm383), .second, .val (.long mm379), .second, .val (.long mm381), .second]) rfl k) ?_
  show own_Fin p e below G (T382.setTop (mkF m 183 #[.val (.long k0'), .second, .val (.long k1'), .second, .val (.long k2'), .second, .val (.long k3'), .second, .val (.long k4'), .second, rv b330, .val (.long y350_0), .second, .val (.long y353_0), .second, .val (.long y356_0), .second, .val (.long y359_0), .second, .val (.long y362_0), .second, .val (.long mm369), .second, .val (.long mm371), .second, .val (.long mm381), .second, .val (.long mm383), .second, .val (.long mm379), .second, .val (.long mm381), .second] []))
  refine own_st (fun _ k => XS.lload X382.here hx rfl (hb hby at_183) rfl  k) ?_
  show own_Fin p e below G (T382.setTop (mkF m 185 #[.val (.long k0'), .second, .val (.long k1'), .second, .val (.long k2'), .second, .val (.long k3'), .second, .val (.long k4'), .second, rv b330, .val (.long y350_0), .second, .val (.long y353_0), .second, .val (.long y356_0), .second, .val (.long y359_0), .second, .val (.long y362_0), .second, .val (.long mm369), .second, .val (.long mm371), .second, .val (.long mm381), .second, .val (.long mm383), .second, .val (.long mm379), .second, .val (.long mm381), .second] [(.long mm371)]))
  refine own_st (fun _ k => XS.lload X382.here hx rfl (hb hby at_185) rfl  k) ?_
  show own_Fin p e below G (T382.setTop (mkF m 187 #[.val (.long k0'), .second, .val (.long k1'), .second, .val (.long k2'), .second, .val (.long k3'), .second, .val (.long k4'), .second, rv b330, .val (.long y350_0), .second, .val (.long y353_0), .second, .val (.long y356_0), .second, .val (.long y359_0), .second, .val (.long y362_0), .second, .val (.long mm369), .second, .val (.long mm371), .second, .val (.long mm381), .second, .val (.long mm383), .second, .val (.long mm379), .second, .val (.long mm381), .second] [(.long mm379), (.long mm371)]))
  obtain ⟨_, _, ⟨T384, L384, k384, n384⟩, -, X384, ⟨Lc384, hQ384, l384, y384, z384⟩, st384⟩ := Jvm.LawKit.callS X382 hx (y := own_y0) hown (mvT hZ (own_w hw 24 rfl)) (mvT hZ (own_w hw 25 rfl)) (mvT hZ (own_w hw 26 rfl)) (mvT hZ (own_w hw 27 rfl)) (by decide) (backOf (W := 0) (rm_min l Z a0 hw [] mm371 mm379 T365.heap n0 (Nat.le_trans Z0 K367.1) ) hZ (own_w hw 27 rfl) (own_w hw 26 rfl) (by decide) (by decide)) (g := (mkF m 187 #[.val (.long k0'), .second, .val (.long k1'), .second, .val (.long k2'), .second, .val (.long k3'), .second, .val (.long k4'), .second, rv b330, .val (.long y350_0), .second, .val (.long y353_0), .second, .val (.long y356_0), .second, .val (.long y359_0), .second, .val (.long y362_0), .second, .val (.long mm369), .second, .val (.long mm371), .second, .val (.long mm381), .second, .val (.long mm383), .second, .val (.long mm379), .second, .val (.long mm381), .second] [(.long mm379), (.long mm371)])) rfl (by rw [hml]; rfl) (argsL := [(.long mm371), (.long mm379)]) (rest := []) (lenOf pd__JJ_J_303 rfl) rfl (by show 2 * 0 + _ ≤ _; exact Nat.le_of_eq rfl) (hb hby at_187) (fun _ _ => ⟨rfl, e382, (by decide : 2 + 0 ≤ _), (by decide : 18 + 0 ≤ _)⟩)
  clear X382 e382
  dsimp only [Pt.U, Pt.locs, Pt.cells, Pt.slots] at X384 l384 y384 z384 st384 hQ384
  obtain rfl : k384 = (2 : Nat) := y384
  obtain rfl : n384 = (18 : Nat) := z384
  obtain ⟨rfl, N384q, e384⟩ := hQ384
  skip
  have N384 : Fr n0 L384 := by rw [l384]; exact Fr.app N382 N384q
  clear N382 l384 N384q
  refine own_st st384 ?_
  clear st384
  show own_Fin p e below G (T384.setTop (mkF m 190 #[.val (.long k0'), .second, .val (.long k1'), .second, .val (.long k2'), .second, .val (.long k3'), .second, .val (.long k4'), .second, rv b330, .val (.long y350_0), .second, .val (.long y353_0), .second, .val (.long y356_0), .second, .val (.long y359_0), .second, .val (.long y362_0), .second, .val (.long mm369), .second, .val (.long mm371), .second, .val (.long mm381), .second, .val (.long mm383), .second, .val (.long mm379), .second, .val (.long mm381), .second] [(.long (own_min mm371 mm379))]))
  generalize e_mm385 : (own_min mm371 mm379) = mm385
  show own_Fin p e below G (T384.setTop (mkF m 190 #[.val (.long k0'), .second, .val (.long k1'), .second, .val (.long k2'), .second, .val (.long k3'), .second, .val (.long k4'), .second, rv b330, .val (.long y350_0), .second, .val (.long y353_0), .second, .val (.long y356_0), .second, .val (.long y359_0), .second, .val (.long y362_0), .second, .val (.long mm369), .second, .val (.long mm371), .second, .val (.long mm381), .second, .val (.long mm383), .second, .val (.long mm379), .second, .val (.long mm381), .second] [(.long mm385)]))
  refine own_st (fun _ k => XS.lstore X384.here hx rfl (hb hby at_190) rfl (l' := #[.val (.long k0'), .second, .val (.long k1'), .second, .val (.long k2'), .second, .val (.long k3'), .second, .val (.long k4'), .second, rv b330, .val (.long y350_0), .second, .val (.long y353_0), .second, .val (.long y356_0), .second, .val (.long y359_0), .second, .val (.long y362_0), .second, .val (.long mm369), .second, .val (.long mm371), .second, .val (.long mm381), .second, .val (.long mm383), .second, .val (.long mm379), .second, .val (.long mm385), .second]) rfl k) ?_
  show own_Fin p e below G (T384.setTop (mkF m 192 #[.val (.long k0'), .second, .val (.long k1'), .second, .val (.long k2'), .second, .val (.long k3'), .second, .val (.long k4'), .second, rv b330, .val (.long y350_0), .second, .val (.long y353_0), .second, .val (.long y356_0), .second, .val (.long y359_0), .second, .val (.long y362_0), .second, .val (.long mm369), .second, .val (.long mm371), .second, .val (.long mm381), .second, .val (.long mm383), .second, .val (.long mm379), .second, .val (.long mm385), .second] []))
  refine own_st (fun _ k => XS.lload X384.here hx rfl (hb hby at_192) rfl  k) ?_
  show own_Fin p e below G (T384.setTop (mkF m 194 #[.val (.long k0'), .second, .val (.long k1'), .second, .val (.long k2'), .second, .val (.long k3'), .second, .val (.long k4'), .second, rv b330, .val (.long y350_0), .second, .val (.long y353_0), .second, .val (.long y356_0), .second, .val (.long y359_0), .second, .val (.long y362_0), .second, .val (.long mm369), .second, .val (.long mm371), .second, .val (.long mm381), .second, .val (.long mm383), .second, .val (.long mm379), .second, .val (.long mm385), .second] [(.long mm371)]))
  refine own_st (fun _ k => XS.lload X384.here hx rfl (hb hby at_194) rfl  k) ?_
  show own_Fin p e below G (T384.setTop (mkF m 196 #[.val (.long k0'), .second, .val (.long k1'), .second, .val (.long k2'), .second, .val (.long k3'), .second, .val (.long k4'), .second, rv b330, .val (.long y350_0), .second, .val (.long y353_0), .second, .val (.long y356_0), .second, .val (.long y359_0), .second, .val (.long y362_0), .second, .val (.long mm369), .second, .val (.long mm371), .second, .val (.long mm381), .second, .val (.long mm383), .second, .val (.long mm379), .second, .val (.long mm385), .second] [(.long mm379), (.long mm371)]))
  obtain ⟨_, _, ⟨T386, L386, k386, n386⟩, -, X386, ⟨Lc386, hQ386, l386, y386, z386⟩, st386⟩ := Jvm.LawKit.callS X384 hx (y := own_y1) hown (mvT hZ (own_w hw 28 rfl)) (mvT hZ (own_w hw 29 rfl)) (mvT hZ (own_w hw 26 rfl)) (mvT hZ (own_w hw 30 rfl)) (by decide) (backOf (W := 0) (rm_max l Z a0 hw [] mm371 mm379 T365.heap n0 (Nat.le_trans Z0 K367.1) ) hZ (own_w hw 30 rfl) (own_w hw 26 rfl) (by decide) (by decide)) (g := (mkF m 196 #[.val (.long k0'), .second, .val (.long k1'), .second, .val (.long k2'), .second, .val (.long k3'), .second, .val (.long k4'), .second, rv b330, .val (.long y350_0), .second, .val (.long y353_0), .second, .val (.long y356_0), .second, .val (.long y359_0), .second, .val (.long y362_0), .second, .val (.long mm369), .second, .val (.long mm371), .second, .val (.long mm381), .second, .val (.long mm383), .second, .val (.long mm379), .second, .val (.long mm385), .second] [(.long mm379), (.long mm371)])) rfl (by rw [hml]; rfl) (argsL := [(.long mm371), (.long mm379)]) (rest := []) (lenOf pd__JJ_J_303 rfl) rfl (by show 2 * 0 + _ ≤ _; exact Nat.le_of_eq rfl) (hb hby at_196) (fun _ _ => ⟨rfl, e384, (by decide : 2 + 0 ≤ _), (by decide : 18 + 0 ≤ _)⟩)
  clear X384 e384
  dsimp only [Pt.U, Pt.locs, Pt.cells, Pt.slots] at X386 l386 y386 z386 st386 hQ386
  obtain rfl : k386 = (2 : Nat) := y386
  obtain rfl : n386 = (18 : Nat) := z386
  obtain ⟨rfl, N386q, e386⟩ := hQ386
  skip
  have N386 : Fr n0 L386 := by rw [l386]; exact Fr.app N384 N386q
  clear N384 l386 N386q
  refine own_st st386 ?_
  clear st386
  show own_Fin p e below G (T386.setTop (mkF m 199 #[.val (.long k0'), .second, .val (.long k1'), .second, .val (.long k2'), .second, .val (.long k3'), .second, .val (.long k4'), .second, rv b330, .val (.long y350_0), .second, .val (.long y353_0), .second, .val (.long y356_0), .second, .val (.long y359_0), .second, .val (.long y362_0), .second, .val (.long mm369), .second, .val (.long mm371), .second, .val (.long mm381), .second, .val (.long mm383), .second, .val (.long mm379), .second, .val (.long mm385), .second] [(.long (own_max mm371 mm379))]))
  generalize e_mm387 : (own_max mm371 mm379) = mm387
  show own_Fin p e below G (T386.setTop (mkF m 199 #[.val (.long k0'), .second, .val (.long k1'), .second, .val (.long k2'), .second, .val (.long k3'), .second, .val (.long k4'), .second, rv b330, .val (.long y350_0), .second, .val (.long y353_0), .second, .val (.long y356_0), .second, .val (.long y359_0), .second, .val (.long y362_0), .second, .val (.long mm369), .second, .val (.long mm371), .second, .val (.long mm381), .second, .val (.long mm383), .second, .val (.long mm379), .second, .val (.long mm385), .second] [(.long mm387)]))
  refine own_st (fun _ k => XS.lstore X386.here hx rfl (hb hby at_199) rfl (l' := #[.val (.long k0'), .second, .val (.long k1'), .second, .val (.long k2'), .second, .val (.long k3'), .second, .val (.long k4'), .second, rv b330, .val (.long y350_0), .second, .val (.long y353_0), .second, .val (.long y356_0), .second, .val (.long y359_0), .second, .val (.long y362_0), .second, .val (.long mm369), .second, .val (.long mm371), .second, .val (.long mm381), .second, .val (.long mm383), .second, .val (.long mm387), .second, .val (.long mm385), .second]) rfl k) ?_
  show own_Fin p e below G (T386.setTop (mkF m 201 #[.val (.long k0'), .second, .val (.long k1'), .second, .val (.long k2'), .second, .val (.long k3'), .second, .val (.long k4'), .second, rv b330, .val (.long y350_0), .second, .val (.long y353_0), .second, .val (.long y356_0), .second, .val (.long y359_0), .second, .val (.long y362_0), .second, .val (.long mm369), .second, .val (.long mm371), .second, .val (.long mm381), .second, .val (.long mm383), .second, .val (.long mm387), .second, .val (.long mm385), .second] []))
  refine own_st (fun _ k => XS.lload X386.here hx rfl (hb hby at_201) rfl  k) ?_
  show own_Fin p e below G (T386.setTop (mkF m 203 #[.val (.long k0'), .second, .val (.long k1'), .second, .val (.long k2'), .second, .val (.long k3'), .second, .val (.long k4'), .second, rv b330, .val (.long y350_0), .second, .val (.long y353_0), .second, .val (.long y356_0), .second, .val (.long y359_0), .second, .val (.long y362_0), .second, .val (.long mm369), .second, .val (.long mm371), .second, .val (.long mm381), .second, .val (.long mm383), .second, .val (.long mm387), .second, .val (.long mm385), .second] [(.long mm385)]))
  refine own_st (fun _ k => XS.lstore X386.here hx rfl (hb hby at_203) rfl (l' := #[.val (.long k0'), .second, .val (.long k1'), .second, .val (.long k2'), .second, .val (.long k3'), .second, .val (.long k4'), .second, rv b330, .val (.long y350_0), .second, .val (.long y353_0), .second, .val (.long y356_0), .second, .val (.long y359_0), .second, .val (.long y362_0), .second, .val (.long mm369), .second, .val (.long mm385), .second, .val (.long mm381), .second, .val (.long mm383), .second, .val (.long mm387), .second, .val (.long mm385), .second]) rfl k) ?_
  show own_Fin p e below G (T386.setTop (mkF m 205 #[.val (.long k0'), .second, .val (.long k1'), .second, .val (.long k2'), .second, .val (.long k3'), .second, .val (.long k4'), .second, rv b330, .val (.long y350_0), .second, .val (.long y353_0), .second, .val (.long y356_0), .second, .val (.long y359_0), .second, .val (.long y362_0), .second, .val (.long mm369), .second, .val (.long mm385), .second, .val (.long mm381), .second, .val (.long mm383), .second, .val (.long mm387), .second, .val (.long mm385), .second] []))
  refine own_st (fun _ k => XS.lload X386.here hx rfl (hb hby at_205) rfl  k) ?_
  show own_Fin p e below G (T386.setTop (mkF m 207 #[.val (.long k0'), .second, .val (.long k1'), .second, .val (.long k2'), .second, .val (.long k3'), .second, .val (.long k4'), .second, rv b330, .val (.long y350_0), .second, .val (.long y353_0), .second, .val (.long y356_0), .second, .val (.long y359_0), .second, .val (.long y362_0), .second, .val (.long mm369), .second, .val (.long mm385), .second, .val (.long mm381), .second, .val (.long mm383), .second, .val (.long mm387), .second, .val (.long mm385), .second] [(.long mm369)]))
  refine own_st (fun _ k => XS.lload X386.here hx rfl (hb hby at_207) rfl  k) ?_
  show own_Fin p e below G (T386.setTop (mkF m 209 #[.val (.long k0'), .second, .val (.long k1'), .second, .val (.long k2'), .second, .val (.long k3'), .second, .val (.long k4'), .second, rv b330, .val (.long y350_0), .second, .val (.long y353_0), .second, .val (.long y356_0), .second, .val (.long y359_0), .second, .val (.long y362_0), .second, .val (.long mm369), .second, .val (.long mm385), .second, .val (.long mm381), .second, .val (.long mm383), .second, .val (.long mm387), .second, .val (.long mm385), .second] [(.long mm383), (.long mm369)]))
  obtain ⟨_, _, ⟨T388, L388, k388, n388⟩, -, X388, ⟨Lc388, hQ388, l388, y388, z388⟩, st388⟩ := Jvm.LawKit.callS X386 hx (y := own_y0) hown (mvT hZ (own_w hw 24 rfl)) (mvT hZ (own_w hw 25 rfl)) (mvT hZ (own_w hw 26 rfl)) (mvT hZ (own_w hw 27 rfl)) (by decide) (backOf (W := 0) (rm_min l Z a0 hw [] mm369 mm383 T365.heap n0 (Nat.le_trans Z0 K367.1) ) hZ (own_w hw 27 rfl) (own_w hw 26 rfl) (by decide) (by decide)) (g := (mkF m 209 #[.val (.long k0'), .second, .val (.long k1'), .second, .val (.long k2'), .second, .val (.long k3'), .second, .val (.long k4'), .second, rv b330, .val (.long y350_0), .second, .val (.long y353_0), .second, .val (.long y356_0), .second, .val (.long y359_0), .second, .val (.long y362_0), .second, .val (.long mm369), .second, .val (.long mm385), .second, .val (.long mm381), .second, .val (.long mm383), .second, .val (.long mm387), .second, .val (.long mm385), .second] [(.long mm383), (.long mm369)])) rfl (by rw [hml]; rfl) (argsL := [(.long mm369), (.long mm383)]) (rest := []) (lenOf pd__JJ_J_303 rfl) rfl (by show 2 * 0 + _ ≤ _; exact Nat.le_of_eq rfl) (hb hby at_209) (fun _ _ => ⟨rfl, e386, (by decide : 2 + 0 ≤ _), (by decide : 18 + 0 ≤ _)⟩)
  clear X386 e386
  dsimp only [Pt.U, Pt.locs, Pt.cells, Pt.slots] at X388 l388 y388 z388 st388 hQ388
  obtain rfl : k388 = (2 : Nat) := y388
  obtain rfl : n388 = (18 : Nat) := z388
  obtain ⟨rfl, N388q, e388⟩ := hQ388
  skip
  have N388 : Fr n0 L388 := by rw [l388]; exact Fr.app N386 N388q
  clear N386 l388 N388q
  refine own_st st388 ?_
  clear st388
  show own_Fin p e below G (T388.setTop (mkF m 212 #[.val (.long k0'), .second, .val (.long k1'), .second, .val (.long k2'), .second, .val (.long k3'), .second, .val (.long k4'), .second, rv b330, .val (.long y350_0), .second, .val (.long y353_0), .second, .val (.long y356_0), .second, .val (.long y359_0), .second, .val (.long y362_0), .second, .val (.long mm369), .second, .val (.long mm385), .second, .val (.long mm381), .second, .val (.long mm383), .second, .val (.long mm387), .second, .val (.long mm385), .second] [(.long (own_min mm369 mm383))]))
  generalize e_mm389 : (own_min mm369 mm383) = mm389
  show own_Fin p e below G (T388.setTop (mkF m 212 #[.val (.long k0'), .second, .val (.long k1'), .second, .val (.long k2'), .second, .val (.long k3'), .second, .val (.long k4'), .second, rv b330, .val (.long y350_0), .second, .val (.long y353_0), .second, .val (.long y356_0), .second, .val (.long y359_0), .second, .val (.long y362_0), .second, .val (.long mm369), .second, .val (.long mm385), .second, .val (.long mm381), .second, .val (.long mm383), .second, .val (.long mm387), .second, .val (.long mm385), .second] [(.long mm389)]))
  refine own_st (fun _ k => XS.lstore X388.here hx rfl (hb hby at_212) rfl (l' := #[.val (.long k0'), .second, .val (.long k1'), .second, .val (.long k2'), .second, .val (.long k3'), .second, .val (.long k4'), .second, rv b330, .val (.long y350_0), .second, .val (.long y353_0), .second, .val (.long y356_0), .second, .val (.long y359_0), .second, .val (.long y362_0), .second, .val (.long mm369), .second, .val (.long mm385), .second, .val (.long mm381), .second, .val (.long mm383), .second, .val (.long mm387), .second, .val (.long mm389), .second]) rfl k) ?_
  show own_Fin p e below G (T388.setTop (mkF m 214 #[.val (.long k0'), .second, .val (.long k1'), .second, .val (.long k2'), .second, .val (.long k3'), .second, .val (.long k4'), .second, rv b330, .val (.long y350_0), .second, .val (.long y353_0), .second, .val (.long y356_0), .second, .val (.long y359_0), .second, .val (.long y362_0), .second, .val (.long mm369), .second, .val (.long mm385), .second, .val (.long mm381), .second, .val (.long mm383), .second, .val (.long mm387), .second, .val (.long mm389), .second] []))
  refine own_st (fun _ k => XS.lload X388.here hx rfl (hb hby at_214) rfl  k) ?_
  show own_Fin p e below G (T388.setTop (mkF m 216 #[.val (.long k0'), .second, .val (.long k1'), .second, .val (.long k2'), .second, .val (.long k3'), .second, .val (.long k4'), .second, rv b330, .val (.long y350_0), .second, .val (.long y353_0), .second, .val (.long y356_0), .second, .val (.long y359_0), .second, .val (.long y362_0), .second, .val (.long mm369), .second, .val (.long mm385), .second, .val (.long mm381), .second, .val (.long mm383), .second, .val (.long mm387), .second, .val (.long mm389), .second] [(.long mm369)]))
  refine own_st (fun _ k => XS.lload X388.here hx rfl (hb hby at_216) rfl  k) ?_
  show own_Fin p e below G (T388.setTop (mkF m 218 #[.val (.long k0'), .second, .val (.long k1'), .second, .val (.long k2'), .second, .val (.long k3'), .second, .val (.long k4'), .second, rv b330, .val (.long y350_0), .second, .val (.long y353_0), .second, .val (.long y356_0), .second, .val (.long y359_0), .second, .val (.long y362_0), .second, .val (.long mm369), .second, .val (.long mm385), .second, .val (.long mm381), .second, .val (.long mm383), .second, .val (.long mm387), .second, .val (.long mm389), .second] [(.long mm383), (.long mm369)]))
  obtain ⟨_, _, ⟨T390, L390, k390, n390⟩, -, X390, ⟨Lc390, hQ390, l390, y390, z390⟩, st390⟩ := Jvm.LawKit.callS X388 hx (y := own_y1) hown (mvT hZ (own_w hw 28 rfl)) (mvT hZ (own_w hw 29 rfl)) (mvT hZ (own_w hw 26 rfl)) (mvT hZ (own_w hw 30 rfl)) (by decide) (backOf (W := 0) (rm_max l Z a0 hw [] mm369 mm383 T365.heap n0 (Nat.le_trans Z0 K367.1) ) hZ (own_w hw 30 rfl) (own_w hw 26 rfl) (by decide) (by decide)) (g := (mkF m 218 #[.val (.long k0'), .second, .val (.long k1'), .second, .val (.long k2'), .second, .val (.long k3'), .second, .val (.long k4'), .second, rv b330, .val (.long y350_0), .second, .val (.long y353_0), .second, .val (.long y356_0), .second, .val (.long y359_0), .second, .val (.long y362_0), .second, .val (.long mm369), .second, .val (.long mm385), .second, .val (.long mm381), .second, .val (.long mm383), .second, .val (.long mm387), .second, .val (.long mm389), .second] [(.long mm383), (.long mm369)])) rfl (by rw [hml]; rfl) (argsL := [(.long mm369), (.long mm383)]) (rest := []) (lenOf pd__JJ_J_303 rfl) rfl (by show 2 * 0 + _ ≤ _; exact Nat.le_of_eq rfl) (hb hby at_218) (fun _ _ => ⟨rfl, e388, (by decide : 2 + 0 ≤ _), (by decide : 18 + 0 ≤ _)⟩)
  clear X388 e388
  dsimp only [Pt.U, Pt.locs, Pt.cells, Pt.slots] at X390 l390 y390 z390 st390 hQ390
  obtain rfl : k390 = (2 : Nat) := y390
  obtain rfl : n390 = (18 : Nat) := z390
  obtain ⟨rfl, N390q, e390⟩ := hQ390
  skip
  have N390 : Fr n0 L390 := by rw [l390]; exact Fr.app N388 N390q
  clear N388 l390 N390q
  refine own_st st390 ?_
  clear st390
  show own_Fin p e below G (T390.setTop (mkF m 221 #[.val (.long k0'), .second, .val (.long k1'), .second, .val (.long k2'), .second, .val (.long k3'), .second, .val (.long k4'), .second, rv b330, .val (.long y350_0), .second, .val (.long y353_0), .second, .val (.long y356_0), .second, .val (.long y359_0), .second, .val (.long y362_0), .second, .val (.long mm369), .second, .val (.long mm385), .second, .val (.long mm381), .second, .val (.long mm383), .second, .val (.long mm387), .second, .val (.long mm389), .second] [(.long (own_max mm369 mm383))]))
  generalize e_mm391 : (own_max mm369 mm383) = mm391
  show own_Fin p e below G (T390.setTop (mkF m 221 #[.val (.long k0'), .second, .val (.long k1'), .second, .val (.long k2'), .second, .val (.long k3'), .second, .val (.long k4'), .second, rv b330, .val (.long y350_0), .second, .val (.long y353_0), .second, .val (.long y356_0), .second, .val (.long y359_0), .second, .val (.long y362_0), .second, .val (.long mm369), .second, .val (.long mm385), .second, .val (.long mm381), .second, .val (.long mm383), .second, .val (.long mm387), .second, .val (.long mm389), .second] [(.long mm391)]))
  refine own_st (fun _ k => XS.lstore X390.here hx rfl (hb hby at_221) rfl (l' := #[.val (.long k0'), .second, .val (.long k1'), .second, .val (.long k2'), .second, .val (.long k3'), .second, .val (.long k4'), .second, rv b330, .val (.long y350_0), .second, .val (.long y353_0), .second, .val (.long y356_0), .second, .val (.long y359_0), .second, .val (.long y362_0), .second, .val (.long mm369), .second, .val (.long mm385), .second, .val (.long mm381), .second, .val (.long mm391), .second, .val (.long mm387), .second, .val (.long mm389), .second]) rfl k) ?_
  show own_Fin p e below G (T390.setTop (mkF m 223 #[.val (.long k0'), .second, .val (.long k1'), .second, .val (.long k2'), .second, .val (.long k3'), .second, .val (.long k4'), .second, rv b330, .val (.long y350_0), .second, .val (.long y353_0), .second, .val (.long y356_0), .second, .val (.long y359_0), .second, .val (.long y362_0), .second, .val (.long mm369), .second, .val (.long mm385), .second, .val (.long mm381), .second, .val (.long mm391), .second, .val (.long mm387), .second, .val (.long mm389), .second] []))
  refine own_st (fun _ k => XS.lload X390.here hx rfl (hb hby at_223) rfl  k) ?_
  show own_Fin p e below G (T390.setTop (mkF m 225 #[.val (.long k0'), .second, .val (.long k1'), .second, .val (.long k2'), .second, .val (.long k3'), .second, .val (.long k4'), .second, rv b330, .val (.long y350_0), .second, .val (.long y353_0), .second, .val (.long y356_0), .second, .val (.long y359_0), .second, .val (.long y362_0), .second, .val (.long mm369), .second, .val (.long mm385), .second, .val (.long mm381), .second, .val (.long mm391), .second, .val (.long mm387), .second, .val (.long mm389), .second] [(.long mm389)]))
  refine own_st (fun _ k => XS.lstore X390.here hx rfl (hb hby at_225) rfl (l' := #[.val (.long k0'), .second, .val (.long k1'), .second, .val (.long k2'), .second, .val (.long k3'), .second, .val (.long k4'), .second, rv b330, .val (.long y350_0), .second, .val (.long y353_0), .second, .val (.long y356_0), .second, .val (.long y359_0), .second, .val (.long y362_0), .second, .val (.long mm389), .second, .val (.long mm385), .second, .val (.long mm381), .second, .val (.long mm391), .second, .val (.long mm387), .second, .val (.long mm389), .second]) rfl k) ?_
  show own_Fin p e below G (T390.setTop (mkF m 227 #[.val (.long k0'), .second, .val (.long k1'), .second, .val (.long k2'), .second, .val (.long k3'), .second, .val (.long k4'), .second, rv b330, .val (.long y350_0), .second, .val (.long y353_0), .second, .val (.long y356_0), .second, .val (.long y359_0), .second, .val (.long y362_0), .second, .val (.long mm389), .second, .val (.long mm385), .second, .val (.long mm381), .second, .val (.long mm391), .second, .val (.long mm387), .second, .val (.long mm389), .second] []))
  refine own_st (fun _ k => XS.lload X390.here hx rfl (hb hby at_227) rfl  k) ?_
  show own_Fin p e below G (T390.setTop (mkF m 229 #[.val (.long k0'), .second, .val (.long k1'), .second, .val (.long k2'), .second, .val (.long k3'), .second, .val (.long k4'), .second, rv b330, .val (.long y350_0), .second, .val (.long y353_0), .second, .val (.long y356_0), .second, .val (.long y359_0), .second, .val (.long y362_0), .second, .val (.long mm389), .second, .val (.long mm385), .second, .val (.long mm381), .second, .val (.long mm391), .second, .val (.long mm387), .second, .val (.long mm389), .second] [(.long mm389)]))
  refine own_st (fun _ k => XS.lload X390.here hx rfl (hb hby at_229) rfl  k) ?_
  show own_Fin p e below G (T390.setTop (mkF m 231 #[.val (.long k0'), .second, .val (.long k1'), .second, .val (.long k2'), .second, .val (.long k3'), .second, .val (.long k4'), .second, rv b330, .val (.long y350_0), .second, .val (.long y353_0), .second, .val (.long y356_0), .second, .val (.long y359_0), .second, .val (.long y362_0), .second, .val (.long mm389), .second, .val (.long mm385), .second, .val (.long mm381), .second, .val (.long mm391), .second, .val (.long mm387), .second, .val (.long mm389), .second] [(.long mm381), (.long mm389)]))
  obtain ⟨_, _, ⟨T392, L392, k392, n392⟩, -, X392, ⟨Lc392, hQ392, l392, y392, z392⟩, st392⟩ := Jvm.LawKit.callS X390 hx (y := own_y0) hown (mvT hZ (own_w hw 24 rfl)) (mvT hZ (own_w hw 25 rfl)) (mvT hZ (own_w hw 26 rfl)) (mvT hZ (own_w hw 27 rfl)) (by decide) (backOf (W := 0) (rm_min l Z a0 hw [] mm389 mm381 T365.heap n0 (Nat.le_trans Z0 K367.1) ) hZ (own_w hw 27 rfl) (own_w hw 26 rfl) (by decide) (by decide)) (g := (mkF m 231 #[.val (.long k0'), .second, .val (.long k1'), .second, .val (.long k2'), .second, .val (.long k3'), .second, .val (.long k4'), .second, rv b330, .val (.long y350_0), .second, .val (.long y353_0), .second, .val (.long y356_0), .second, .val (.long y359_0), .second, .val (.long y362_0), .second, .val (.long mm389), .second, .val (.long mm385), .second, .val (.long mm381), .second, .val (.long mm391), .second, .val (.long mm387), .second, .val (.long mm389), .second] [(.long mm381), (.long mm389)])) rfl (by rw [hml]; rfl) (argsL := [(.long mm389), (.long mm381)]) (rest := []) (lenOf pd__JJ_J_303 rfl) rfl (by show 2 * 0 + _ ≤ _; exact Nat.le_of_eq rfl) (hb hby at_231) (fun _ _ => ⟨rfl, e390, (by decide : 2 + 0 ≤ _), (by decide : 18 + 0 ≤ _)⟩)
  clear X390 e390
  dsimp only [Pt.U, Pt.locs, Pt.cells, Pt.slots] at X392 l392 y392 z392 st392 hQ392
  obtain rfl : k392 = (2 : Nat) := y392
  obtain rfl : n392 = (18 : Nat) := z392
  obtain ⟨rfl, N392q, e392⟩ := hQ392
  skip
  have N392 : Fr n0 L392 := by rw [l392]; exact Fr.app N390 N392q
  clear N390 l392 N392q
  refine own_st st392 ?_
  clear st392
  show own_Fin p e below G (T392.setTop (mkF m 234 #[.val (.long k0'), .second, .val (.long k1'), .second, .val (.long k2'), .second, .val (.long k3'), .second, .val (.long k4'), .second, rv b330, .val (.long y350_0), .second, .val (.long y353_0), .second, .val (.long y356_0), .second, .val (.long y359_0), .second, .val (.long y362_0), .second, .val (.long mm389), .second, .val (.long mm385), .second, .val (.long mm381), .second, .val (.long mm391), .second, .val (.long mm387), .second, .val (.long mm389), .second] [(.long (own_min mm389 mm381))]))
  generalize e_mm393 : (own_min mm389 mm381) = mm393
  show own_Fin p e below G (T392.setTop (mkF m 234 #[.val (.long k0'), .second, .val (.long k1'), .second, .val (.long k2'), .second, .val (.long k3'), .second, .val (.long k4'), .second, rv b330, .val (.long y350_0), .second, .val (.long y353_0), .second, .val (.long y356_0), .second, .val (.long y359_0), .second, .val (.long y362_0), .second, .val (.long mm389), .second, .val (.long mm385), .second, .val (.long mm381), .second, .val (.long mm391), .second, .val (.long mm387), .second, .val (.long mm389), .second] [(.long mm393)]))
  refine own_st (fun _ k => XS.lstore X392.here hx rfl (hb hby at_234) rfl (l' := #[.val (.long k0'), .second, .val (.long k1'), .second, .val (.long k2'), .second, .val (.long k3'), .second, .val (.long k4'), .second, rv b330, .val (.long y350_0), .second, .val (.long y353_0), .second, .val (.long y356_0), .second, .val (.long y359_0), .second, .val (.long y362_0), .second, .val (.long mm389), .second, .val (.long mm385), .second, .val (.long mm381), .second, .val (.long mm391), .second, .val (.long mm387), .second, .val (.long mm393), .second]) rfl k) ?_
  show own_Fin p e below G (T392.setTop (mkF m 236 #[.val (.long k0'), .second, .val (.long k1'), .second, .val (.long k2'), .second, .val (.long k3'), .second, .val (.long k4'), .second, rv b330, .val (.long y350_0), .second, .val (.long y353_0), .second, .val (.long y356_0), .second, .val (.long y359_0), .second, .val (.long y362_0), .second, .val (.long mm389), .second, .val (.long mm385), .second, .val (.long mm381), .second, .val (.long mm391), .second, .val (.long mm387), .second, .val (.long mm393), .second] []))
  refine own_st (fun _ k => XS.lload X392.here hx rfl (hb hby at_236) rfl  k) ?_
  show own_Fin p e below G (T392.setTop (mkF m 238 #[.val (.long k0'), .second, .val (.long k1'), .second, .val (.long k2'), .second, .val (.long k3'), .second, .val (.long k4'), .second, rv b330, .val (.long y350_0), .second, .val (.long y353_0), .second, .val (.long y356_0), .second, .val (.long y359_0), .second, .val (.long y362_0), .second, .val (.long mm389), .second, .val (.long mm385), .second, .val (.long mm381), .second, .val (.long mm391), .second, .val (.long mm387), .second, .val (.long mm393), .second] [(.long mm389)]))
  refine own_st (fun _ k => XS.lload X392.here hx rfl (hb hby at_238) rfl  k) ?_
  show own_Fin p e below G (T392.setTop (mkF m 240 #[.val (.long k0'), .second, .val (.long k1'), .second, .val (.long k2'), .second, .val (.long k3'), .second, .val (.long k4'), .second, rv b330, .val (.long y350_0), .second, .val (.long y353_0), .second, .val (.long y356_0), .second, .val (.long y359_0), .second, .val (.long y362_0), .second, .val (.long mm389), .second, .val (.long mm385), .second, .val (.long mm381), .second, .val (.long mm391), .second, .val (.long mm387), .second, .val (.long mm393), .second] [(.long mm381), (.long mm389)]))
  obtain ⟨_, _, ⟨T394, L394, k394, n394⟩, -, X394, ⟨Lc394, hQ394, l394, y394, z394⟩, st394⟩ := Jvm.LawKit.callS X392 hx (y := own_y1) hown (mvT hZ (own_w hw 28 rfl)) (mvT hZ (own_w hw 29 rfl)) (mvT hZ (own_w hw 26 rfl)) (mvT hZ (own_w hw 30 rfl)) (by decide) (backOf (W := 0) (rm_max l Z a0 hw [] mm389 mm381 T365.heap n0 (Nat.le_trans Z0 K367.1) ) hZ (own_w hw 30 rfl) (own_w hw 26 rfl) (by decide) (by decide)) (g := (mkF m 240 #[.val (.long k0'), .second, .val (.long k1'), .second, .val (.long k2'), .second, .val (.long k3'), .second, .val (.long k4'), .second, rv b330, .val (.long y350_0), .second, .val (.long y353_0), .second, .val (.long y356_0), .second, .val (.long y359_0), .second, .val (.long y362_0), .second, .val (.long mm389), .second, .val (.long mm385), .second, .val (.long mm381), .second, .val (.long mm391), .second, .val (.long mm387), .second, .val (.long mm393), .second] [(.long mm381), (.long mm389)])) rfl (by rw [hml]; rfl) (argsL := [(.long mm389), (.long mm381)]) (rest := []) (lenOf pd__JJ_J_303 rfl) rfl (by show 2 * 0 + _ ≤ _; exact Nat.le_of_eq rfl) (hb hby at_240) (fun _ _ => ⟨rfl, e392, (by decide : 2 + 0 ≤ _), (by decide : 18 + 0 ≤ _)⟩)
  clear X392 e392
  dsimp only [Pt.U, Pt.locs, Pt.cells, Pt.slots] at X394 l394 y394 z394 st394 hQ394
  obtain rfl : k394 = (2 : Nat) := y394
  obtain rfl : n394 = (18 : Nat) := z394
  obtain ⟨rfl, N394q, e394⟩ := hQ394
  skip
  have N394 : Fr n0 L394 := by rw [l394]; exact Fr.app N392 N394q
  clear N392 l394 N394q
  refine own_st st394 ?_
  clear st394
  show own_Fin p e below G (T394.setTop (mkF m 243 #[.val (.long k0'), .second, .val (.long k1'), .second, .val (.long k2'), .second, .val (.long k3'), .second, .val (.long k4'), .second, rv b330, .val (.long y350_0), .second, .val (.long y353_0), .second, .val (.long y356_0), .second, .val (.long y359_0), .second, .val (.long y362_0), .second, .val (.long mm389), .second, .val (.long mm385), .second, .val (.long mm381), .second, .val (.long mm391), .second, .val (.long mm387), .second, .val (.long mm393), .second] [(.long (own_max mm389 mm381))]))
  generalize e_mm395 : (own_max mm389 mm381) = mm395
  show own_Fin p e below G (T394.setTop (mkF m 243 #[.val (.long k0'), .second, .val (.long k1'), .second, .val (.long k2'), .second, .val (.long k3'), .second, .val (.long k4'), .second, rv b330, .val (.long y350_0), .second, .val (.long y353_0), .second, .val (.long y356_0), .second, .val (.long y359_0), .second, .val (.long y362_0), .second, .val (.long mm389), .second, .val (.long mm385), .second, .val (.long mm381), .second, .val (.long mm391), .second, .val (.long mm387), .second, .val (.long mm393), .second] [(.long mm395)]))
  refine own_st (fun _ k => XS.lstore X394.here hx rfl (hb hby at_243) rfl (l' := #[.val (.long k0'), .second, .val (.long k1'), .second, .val (.long k2'), .second, .val (.long k3'), .second, .val (.long k4'), .second, rv b330, .val (.long y350_0), .second, .val (.long y353_0), .second, .val (.long y356_0), .second, .val (.long y359_0), .second, .val (.long y362_0), .second, .val (.long mm389), .second, .val (.long mm385), .second, .val (.long mm395), .second, .val (.long mm391), .second, .val (.long mm387), .second, .val (.long mm393), .second]) rfl k) ?_
  show own_Fin p e below G (T394.setTop (mkF m 245 #[.val (.long k0'), .second, .val (.long k1'), .second, .val (.long k2'), .second, .val (.long k3'), .second, .val (.long k4'), .second, rv b330, .val (.long y350_0), .second, .val (.long y353_0), .second, .val (.long y356_0), .second, .val (.long y359_0), .second, .val (.long y362_0), .second, .val (.long mm389), .second, .val (.long mm385), .second, .val (.long mm395), .second, .val (.long mm391), .second, .val (.long mm387), .second, .val (.long mm393), .second] []))
  refine own_st (fun _ k => XS.lload X394.here hx rfl (hb hby at_245) rfl  k) ?_
  show own_Fin p e below G (T394.setTop (mkF m 247 #[.val (.long k0'), .second, .val (.long k1'), .second, .val (.long k2'), .second, .val (.long k3'), .second, .val (.long k4'), .second, rv b330, .val (.long y350_0), .second, .val (.long y353_0), .second, .val (.long y356_0), .second, .val (.long y359_0), .second, .val (.long y362_0), .second, .val (.long mm389), .second, .val (.long mm385), .second, .val (.long mm395), .second, .val (.long mm391), .second, .val (.long mm387), .second, .val (.long mm393), .second] [(.long mm393)]))
  refine own_st (fun _ k => XS.lstore X394.here hx rfl (hb hby at_247) rfl (l' := #[.val (.long k0'), .second, .val (.long k1'), .second, .val (.long k2'), .second, .val (.long k3'), .second, .val (.long k4'), .second, rv b330, .val (.long y350_0), .second, .val (.long y353_0), .second, .val (.long y356_0), .second, .val (.long y359_0), .second, .val (.long y362_0), .second, .val (.long mm393), .second, .val (.long mm385), .second, .val (.long mm395), .second, .val (.long mm391), .second, .val (.long mm387), .second, .val (.long mm393), .second]) rfl k) ?_
  show own_Fin p e below G (T394.setTop (mkF m 249 #[.val (.long k0'), .second, .val (.long k1'), .second, .val (.long k2'), .second, .val (.long k3'), .second, .val (.long k4'), .second, rv b330, .val (.long y350_0), .second, .val (.long y353_0), .second, .val (.long y356_0), .second, .val (.long y359_0), .second, .val (.long y362_0), .second, .val (.long mm393), .second, .val (.long mm385), .second, .val (.long mm395), .second, .val (.long mm391), .second, .val (.long mm387), .second, .val (.long mm393), .second] []))
  refine own_st (fun _ k => XS.lload X394.here hx rfl (hb hby at_249) rfl  k) ?_
  show own_Fin p e below G (T394.setTop (mkF m 251 #[.val (.long k0'), .second, .val (.long k1'), .second, .val (.long k2'), .second, .val (.long k3'), .second, .val (.long k4'), .second, rv b330, .val (.long y350_0), .second, .val (.long y353_0), .second, .val (.long y356_0), .second, .val (.long y359_0), .second, .val (.long y362_0), .second, .val (.long mm393), .second, .val (.long mm385), .second, .val (.long mm395), .second, .val (.long mm391), .second, .val (.long mm387), .second, .val (.long mm393), .second] [(.long mm385)]))
  refine own_st (fun _ k => XS.lload X394.here hx rfl (hb hby at_251) rfl  k) ?_
  show own_Fin p e below G (T394.setTop (mkF m 253 #[.val (.long k0'), .second, .val (.long k1'), .second, .val (.long k2'), .second, .val (.long k3'), .second, .val (.long k4'), .second, rv b330, .val (.long y350_0), .second, .val (.long y353_0), .second, .val (.long y356_0), .second, .val (.long y359_0), .second, .val (.long y362_0), .second, .val (.long mm393), .second, .val (.long mm385), .second, .val (.long mm395), .second, .val (.long mm391), .second, .val (.long mm387), .second, .val (.long mm393), .second] [(.long mm391), (.long mm385)]))
  obtain ⟨_, _, ⟨T396, L396, k396, n396⟩, -, X396, ⟨Lc396, hQ396, l396, y396, z396⟩, st396⟩ := Jvm.LawKit.callS X394 hx (y := own_y0) hown (mvT hZ (own_w hw 24 rfl)) (mvT hZ (own_w hw 25 rfl)) (mvT hZ (own_w hw 26 rfl)) (mvT hZ (own_w hw 27 rfl)) (by decide) (backOf (W := 0) (rm_min l Z a0 hw [] mm385 mm391 T365.heap n0 (Nat.le_trans Z0 K367.1) ) hZ (own_w hw 27 rfl) (own_w hw 26 rfl) (by decide) (by decide)) (g := (mkF m 253 #[.val (.long k0'), .second, .val (.long k1'), .second, .val (.long k2'), .second, .val (.long k3'), .second, .val (.long k4'), .second, rv b330, .val (.long y350_0), .second, .val (.long y353_0), .second, .val (.long y356_0), .second, .val (.long y359_0), .second, .val (.long y362_0), .second, .val (.long mm393), .second, .val (.long mm385), .second, .val (.long mm395), .second, .val (.long mm391), .second, .val (.long mm387), .second, .val (.long mm393), .second] [(.long mm391), (.long mm385)])) rfl (by rw [hml]; rfl) (argsL := [(.long mm385), (.long mm391)]) (rest := []) (lenOf pd__JJ_J_303 rfl) rfl (by show 2 * 0 + _ ≤ _; exact Nat.le_of_eq rfl) (hb hby at_253) (fun _ _ => ⟨rfl, e394, (by decide : 2 + 0 ≤ _), (by decide : 18 + 0 ≤ _)⟩)
  clear X394 e394
  dsimp only [Pt.U, Pt.locs, Pt.cells, Pt.slots] at X396 l396 y396 z396 st396 hQ396
  obtain rfl : k396 = (2 : Nat) := y396
  obtain rfl : n396 = (18 : Nat) := z396
  obtain ⟨rfl, N396q, e396⟩ := hQ396
  skip
  have N396 : Fr n0 L396 := by rw [l396]; exact Fr.app N394 N396q
  clear N394 l396 N396q
  refine own_st st396 ?_
  clear st396
  show own_Fin p e below G (T396.setTop (mkF m 256 #[.val (.long k0'), .second, .val (.long k1'), .second, .val (.long k2'), .second, .val (.long k3'), .second, .val (.long k4'), .second, rv b330, .val (.long y350_0), .second, .val (.long y353_0), .second, .val (.long y356_0), .second, .val (.long y359_0), .second, .val (.long y362_0), .second, .val (.long mm393), .second, .val (.long mm385), .second, .val (.long mm395), .second, .val (.long mm391), .second, .val (.long mm387), .second, .val (.long mm393), .second] [(.long (own_min mm385 mm391))]))
  generalize e_mm397 : (own_min mm385 mm391) = mm397
  show own_Fin p e below G (T396.setTop (mkF m 256 #[.val (.long k0'), .second, .val (.long k1'), .second, .val (.long k2'), .second, .val (.long k3'), .second, .val (.long k4'), .second, rv b330, .val (.long y350_0), .second, .val (.long y353_0), .second, .val (.long y356_0), .second, .val (.long y359_0), .second, .val (.long y362_0), .second, .val (.long mm393), .second, .val (.long mm385), .second, .val (.long mm395), .second, .val (.long mm391), .second, .val (.long mm387), .second, .val (.long mm393), .second] [(.long mm397)]))
  refine own_st (fun _ k => XS.lstore X396.here hx rfl (hb hby at_256) rfl (l' := #[.val (.long k0'), .second, .val (.long k1'), .second, .val (.long k2'), .second, .val (.long k3'), .second, .val (.long k4'), .second, rv b330, .val (.long y350_0), .second, .val (.long y353_0), .second, .val (.long y356_0), .second, .val (.long y359_0), .second, .val (.long y362_0), .second, .val (.long mm393), .second, .val (.long mm385), .second, .val (.long mm395), .second, .val (.long mm391), .second, .val (.long mm387), .second, .val (.long mm397), .second]) rfl k) ?_
  show own_Fin p e below G (T396.setTop (mkF m 258 #[.val (.long k0'), .second, .val (.long k1'), .second, .val (.long k2'), .second, .val (.long k3'), .second, .val (.long k4'), .second, rv b330, .val (.long y350_0), .second, .val (.long y353_0), .second, .val (.long y356_0), .second, .val (.long y359_0), .second, .val (.long y362_0), .second, .val (.long mm393), .second, .val (.long mm385), .second, .val (.long mm395), .second, .val (.long mm391), .second, .val (.long mm387), .second, .val (.long mm397), .second] []))
  refine own_st (fun _ k => XS.lload X396.here hx rfl (hb hby at_258) rfl  k) ?_
  show own_Fin p e below G (T396.setTop (mkF m 260 #[.val (.long k0'), .second, .val (.long k1'), .second, .val (.long k2'), .second, .val (.long k3'), .second, .val (.long k4'), .second, rv b330, .val (.long y350_0), .second, .val (.long y353_0), .second, .val (.long y356_0), .second, .val (.long y359_0), .second, .val (.long y362_0), .second, .val (.long mm393), .second, .val (.long mm385), .second, .val (.long mm395), .second, .val (.long mm391), .second, .val (.long mm387), .second, .val (.long mm397), .second] [(.long mm385)]))
  refine own_st (fun _ k => XS.lload X396.here hx rfl (hb hby at_260) rfl  k) ?_
  show own_Fin p e below G (T396.setTop (mkF m 262 #[.val (.long k0'), .second, .val (.long k1'), .second, .val (.long k2'), .second, .val (.long k3'), .second, .val (.long k4'), .second, rv b330, .val (.long y350_0), .second, .val (.long y353_0), .second, .val (.long y356_0), .second, .val (.long y359_0), .second, .val (.long y362_0), .second, .val (.long mm393), .second, .val (.long mm385), .second, .val (.long mm395), .second, .val (.long mm391), .second, .val (.long mm387), .second, .val (.long mm397), .second] [(.long mm391), (.long mm385)]))
  obtain ⟨_, _, ⟨T398, L398, k398, n398⟩, -, X398, ⟨Lc398, hQ398, l398, y398, z398⟩, st398⟩ := Jvm.LawKit.callS X396 hx (y := own_y1) hown (mvT hZ (own_w hw 28 rfl)) (mvT hZ (own_w hw 29 rfl)) (mvT hZ (own_w hw 26 rfl)) (mvT hZ (own_w hw 30 rfl)) (by decide) (backOf (W := 0) (rm_max l Z a0 hw [] mm385 mm391 T365.heap n0 (Nat.le_trans Z0 K367.1) ) hZ (own_w hw 30 rfl) (own_w hw 26 rfl) (by decide) (by decide)) (g := (mkF m 262 #[.val (.long k0'), .second, .val (.long k1'), .second, .val (.long k2'), .second, .val (.long k3'), .second, .val (.long k4'), .second, rv b330, .val (.long y350_0), .second, .val (.long y353_0), .second, .val (.long y356_0), .second, .val (.long y359_0), .second, .val (.long y362_0), .second, .val (.long mm393), .second, .val (.long mm385), .second, .val (.long mm395), .second, .val (.long mm391), .second, .val (.long mm387), .second, .val (.long mm397), .second] [(.long mm391), (.long mm385)])) rfl (by rw [hml]; rfl) (argsL := [(.long mm385), (.long mm391)]) (rest := []) (lenOf pd__JJ_J_303 rfl) rfl (by show 2 * 0 + _ ≤ _; exact Nat.le_of_eq rfl) (hb hby at_262) (fun _ _ => ⟨rfl, e396, (by decide : 2 + 0 ≤ _), (by decide : 18 + 0 ≤ _)⟩)
  clear X396 e396
  dsimp only [Pt.U, Pt.locs, Pt.cells, Pt.slots] at X398 l398 y398 z398 st398 hQ398
  obtain rfl : k398 = (2 : Nat) := y398
  obtain rfl : n398 = (18 : Nat) := z398
  obtain ⟨rfl, N398q, e398⟩ := hQ398
  skip
  have N398 : Fr n0 L398 := by rw [l398]; exact Fr.app N396 N398q
  clear N396 l398 N398q
  refine own_st st398 ?_
  clear st398
  show own_Fin p e below G (T398.setTop (mkF m 265 #[.val (.long k0'), .second, .val (.long k1'), .second, .val (.long k2'), .second, .val (.long k3'), .second, .val (.long k4'), .second, rv b330, .val (.long y350_0), .second, .val (.long y353_0), .second, .val (.long y356_0), .second, .val (.long y359_0), .second, .val (.long y362_0), .second, .val (.long mm393), .second, .val (.long mm385), .second, .val (.long mm395), .second, .val (.long mm391), .second, .val (.long mm387), .second, .val (.long mm397), .second] [(.long (own_max mm385 mm391))]))
  generalize e_mm399 : (own_max mm385 mm391) = mm399
  show own_Fin p e below G (T398.setTop (mkF m 265 #[.val (.long k0'), .second, .val (.long k1'), .second, .val (.long k2'), .second, .val (.long k3'), .second, .val (.long k4'), .second, rv b330, .val (.long y350_0), .second, .val (.long y353_0), .second, .val (.long y356_0), .second, .val (.long y359_0), .second, .val (.long y362_0), .second, .val (.long mm393), .second, .val (.long mm385), .second, .val (.long mm395), .second, .val (.long mm391), .second, .val (.long mm387), .second, .val (.long mm397), .second] [(.long mm399)]))
  refine own_st (fun _ k => XS.lstore X398.here hx rfl (hb hby at_265) rfl (l' := #[.val (.long k0'), .second, .val (.long k1'), .second, .val (.long k2'), .second, .val (.long k3'), .second, .val (.long k4'), .second, rv b330, .val (.long y350_0), .second, .val (.long y353_0), .second, .val (.long y356_0), .second, .val (.long y359_0), .second, .val (.long y362_0), .second, .val (.long mm393), .second, .val (.long mm385), .second, .val (.long mm395), .second, .val (.long mm399), .second, .val (.long mm387), .second, .val (.long mm397), .second]) rfl k) ?_
  show own_Fin p e below G (T398.setTop (mkF m 267 #[.val (.long k0'), .second, .val (.long k1'), .second, .val (.long k2'), .second, .val (.long k3'), .second, .val (.long k4'), .second, rv b330, .val (.long y350_0), .second, .val (.long y353_0), .second, .val (.long y356_0), .second, .val (.long y359_0), .second, .val (.long y362_0), .second, .val (.long mm393), .second, .val (.long mm385), .second, .val (.long mm395), .second, .val (.long mm399), .second, .val (.long mm387), .second, .val (.long mm397), .second] []))
  refine own_st (fun _ k => XS.lload X398.here hx rfl (hb hby at_267) rfl  k) ?_
  show own_Fin p e below G (T398.setTop (mkF m 269 #[.val (.long k0'), .second, .val (.long k1'), .second, .val (.long k2'), .second, .val (.long k3'), .second, .val (.long k4'), .second, rv b330, .val (.long y350_0), .second, .val (.long y353_0), .second, .val (.long y356_0), .second, .val (.long y359_0), .second, .val (.long y362_0), .second, .val (.long mm393), .second, .val (.long mm385), .second, .val (.long mm395), .second, .val (.long mm399), .second, .val (.long mm387), .second, .val (.long mm397), .second] [(.long mm397)]))
  refine own_st (fun _ k => XS.lstore X398.here hx rfl (hb hby at_269) rfl (l' := #[.val (.long k0'), .second, .val (.long k1'), .second, .val (.long k2'), .second, .val (.long k3'), .second, .val (.long k4'), .second, rv b330, .val (.long y350_0), .second, .val (.long y353_0), .second, .val (.long y356_0), .second, .val (.long y359_0), .second, .val (.long y362_0), .second, .val (.long mm393), .second, .val (.long mm397), .second, .val (.long mm395), .second, .val (.long mm399), .second, .val (.long mm387), .second, .val (.long mm397), .second]) rfl k) ?_
  show own_Fin p e below G (T398.setTop (mkF m 271 #[.val (.long k0'), .second, .val (.long k1'), .second, .val (.long k2'), .second, .val (.long k3'), .second, .val (.long k4'), .second, rv b330, .val (.long y350_0), .second, .val (.long y353_0), .second, .val (.long y356_0), .second, .val (.long y359_0), .second, .val (.long y362_0), .second, .val (.long mm393), .second, .val (.long mm397), .second, .val (.long mm395), .second, .val (.long mm399), .second, .val (.long mm387), .second, .val (.long mm397), .second] []))
  refine own_st (fun _ k => XS.lload X398.here hx rfl (hb hby at_271) rfl  k) ?_
  show own_Fin p e below G (T398.setTop (mkF m 273 #[.val (.long k0'), .second, .val (.long k1'), .second, .val (.long k2'), .second, .val (.long k3'), .second, .val (.long k4'), .second, rv b330, .val (.long y350_0), .second, .val (.long y353_0), .second, .val (.long y356_0), .second, .val (.long y359_0), .second, .val (.long y362_0), .second, .val (.long mm393), .second, .val (.long mm397), .second, .val (.long mm395), .second, .val (.long mm399), .second, .val (.long mm387), .second, .val (.long mm397), .second] [(.long mm397)]))
  refine own_st (fun _ k => XS.lload X398.here hx rfl (hb hby at_273) rfl  k) ?_
  show own_Fin p e below G (T398.setTop (mkF m 275 #[.val (.long k0'), .second, .val (.long k1'), .second, .val (.long k2'), .second, .val (.long k3'), .second, .val (.long k4'), .second, rv b330, .val (.long y350_0), .second, .val (.long y353_0), .second, .val (.long y356_0), .second, .val (.long y359_0), .second, .val (.long y362_0), .second, .val (.long mm393), .second, .val (.long mm397), .second, .val (.long mm395), .second, .val (.long mm399), .second, .val (.long mm387), .second, .val (.long mm397), .second] [(.long mm395), (.long mm397)]))
  obtain ⟨_, _, ⟨T400, L400, k400, n400⟩, -, X400, ⟨Lc400, hQ400, l400, y400, z400⟩, st400⟩ := Jvm.LawKit.callS X398 hx (y := own_y0) hown (mvT hZ (own_w hw 24 rfl)) (mvT hZ (own_w hw 25 rfl)) (mvT hZ (own_w hw 26 rfl)) (mvT hZ (own_w hw 27 rfl)) (by decide) (backOf (W := 0) (rm_min l Z a0 hw [] mm397 mm395 T365.heap n0 (Nat.le_trans Z0 K367.1) ) hZ (own_w hw 27 rfl) (own_w hw 26 rfl) (by decide) (by decide)) (g := (mkF m 275 #[.val (.long k0'), .second, .val (.long k1'), .second, .val (.long k2'), .second, .val (.long k3'), .second, .val (.long k4'), .second, rv b330, .val (.long y350_0), .second, .val (.long y353_0), .second, .val (.long y356_0), .second, .val (.long y359_0), .second, .val (.long y362_0), .second, .val (.long mm393), .second, .val (.long mm397), .second, .val (.long mm395), .second, .val (.long mm399), .second, .val (.long mm387), .second, .val (.long mm397), .second] [(.long mm395), (.long mm397)])) rfl (by rw [hml]; rfl) (argsL := [(.long mm397), (.long mm395)]) (rest := []) (lenOf pd__JJ_J_303 rfl) rfl (by show 2 * 0 + _ ≤ _; exact Nat.le_of_eq rfl) (hb hby at_275) (fun _ _ => ⟨rfl, e398, (by decide : 2 + 0 ≤ _), (by decide : 18 + 0 ≤ _)⟩)
  clear X398 e398
  dsimp only [Pt.U, Pt.locs, Pt.cells, Pt.slots] at X400 l400 y400 z400 st400 hQ400
  obtain rfl : k400 = (2 : Nat) := y400
  obtain rfl : n400 = (18 : Nat) := z400
  obtain ⟨rfl, N400q, e400⟩ := hQ400
  skip
  have N400 : Fr n0 L400 := by rw [l400]; exact Fr.app N398 N400q
  clear N398 l400 N400q
  refine own_st st400 ?_
  clear st400
  show own_Fin p e below G (T400.setTop (mkF m 278 #[.val (.long k0'), .second, .val (.long k1'), .second, .val (.long k2'), .second, .val (.long k3'), .second, .val (.long k4'), .second, rv b330, .val (.long y350_0), .second, .val (.long y353_0), .second, .val (.long y356_0), .second, .val (.long y359_0), .second, .val (.long y362_0), .second, .val (.long mm393), .second, .val (.long mm397), .second, .val (.long mm395), .second, .val (.long mm399), .second, .val (.long mm387), .second, .val (.long mm397), .second] [(.long (own_min mm397 mm395))]))
  generalize e_mm401 : (own_min mm397 mm395) = mm401
  show own_Fin p e below G (T400.setTop (mkF m 278 #[.val (.long k0'), .second, .val (.long k1'), .second, .val (.long k2'), .second, .val (.long k3'), .second, .val (.long k4'), .second, rv b330, .val (.long y350_0), .second, .val (.long y353_0), .second, .val (.long y356_0), .second, .val (.long y359_0), .second, .val (.long y362_0), .second, .val (.long mm393), .second, .val (.long mm397), .second, .val (.long mm395), .second, .val (.long mm399), .second, .val (.long mm387), .second, .val (.long mm397), .second] [(.long mm401)]))
  refine own_st (fun _ k => XS.lstore X400.here hx rfl (hb hby at_278) rfl (l' := #[.val (.long k0'), .second, .val (.long k1'), .second, .val (.long k2'), .second, .val (.long k3'), .second, .val (.long k4'), .second, rv b330, .val (.long y350_0), .second, .val (.long y353_0), .second, .val (.long y356_0), .second, .val (.long y359_0), .second, .val (.long y362_0), .second, .val (.long mm393), .second, .val (.long mm397), .second, .val (.long mm395), .second, .val (.long mm399), .second, .val (.long mm387), .second, .val (.long mm401), .second]) rfl k) ?_
  show own_Fin p e below G (T400.setTop (mkF m 280 #[.val (.long k0'), .second, .val (.long k1'), .second, .val (.long k2'), .second, .val (.long k3'), .second, .val (.long k4'), .second, rv b330, .val (.long y350_0), .second, .val (.long y353_0), .second, .val (.long y356_0), .second, .val (.long y359_0), .second, .val (.long y362_0), .second, .val (.long mm393), .second, .val (.long mm397), .second, .val (.long mm395), .second, .val (.long mm399), .second, .val (.long mm387), .second, .val (.long mm401), .second] []))
  refine own_st (fun _ k => XS.lload X400.here hx rfl (hb hby at_280) rfl  k) ?_
  show own_Fin p e below G (T400.setTop (mkF m 282 #[.val (.long k0'), .second, .val (.long k1'), .second, .val (.long k2'), .second, .val (.long k3'), .second, .val (.long k4'), .second, rv b330, .val (.long y350_0), .second, .val (.long y353_0), .second, .val (.long y356_0), .second, .val (.long y359_0), .second, .val (.long y362_0), .second, .val (.long mm393), .second, .val (.long mm397), .second, .val (.long mm395), .second, .val (.long mm399), .second, .val (.long mm387), .second, .val (.long mm401), .second] [(.long mm397)]))
  refine own_st (fun _ k => XS.lload X400.here hx rfl (hb hby at_282) rfl  k) ?_
  show own_Fin p e below G (T400.setTop (mkF m 284 #[.val (.long k0'), .second, .val (.long k1'), .second, .val (.long k2'), .second, .val (.long k3'), .second, .val (.long k4'), .second, rv b330, .val (.long y350_0), .second, .val (.long y353_0), .second, .val (.long y356_0), .second, .val (.long y359_0), .second, .val (.long y362_0), .second, .val (.long mm393), .second, .val (.long mm397), .second, .val (.long mm395), .second, .val (.long mm399), .second, .val (.long mm387), .second, .val (.long mm401), .second] [(.long mm395), (.long mm397)]))
  obtain ⟨_, _, ⟨T402, L402, k402, n402⟩, -, X402, ⟨Lc402, hQ402, l402, y402, z402⟩, st402⟩ := Jvm.LawKit.callS X400 hx (y := own_y1) hown (mvT hZ (own_w hw 28 rfl)) (mvT hZ (own_w hw 29 rfl)) (mvT hZ (own_w hw 26 rfl)) (mvT hZ (own_w hw 30 rfl)) (by decide) (backOf (W := 0) (rm_max l Z a0 hw [] mm397 mm395 T365.heap n0 (Nat.le_trans Z0 K367.1) ) hZ (own_w hw 30 rfl) (own_w hw 26 rfl) (by decide) (by decide)) (g := (mkF m 284 #[.val (.long k0'), .second, .val (.long k1'), .second, .val (.long k2'), .second, .val (.long k3'), .second, .val (.long k4'), .second, rv b330, .val (.long y350_0), .second, .val (.long y353_0), .second, .val (.long y356_0), .second, .val (.long y359_0), .second, .val (.long y362_0), .second, .val (.long mm393), .second, .val (.long mm397), .second, .val (.long mm395), .second, .val (.long mm399), .second, .val (.long mm387), .second, .val (.long mm401), .second] [(.long mm395), (.long mm397)])) rfl (by rw [hml]; rfl) (argsL := [(.long mm397), (.long mm395)]) (rest := []) (lenOf pd__JJ_J_303 rfl) rfl (by show 2 * 0 + _ ≤ _; exact Nat.le_of_eq rfl) (hb hby at_284) (fun _ _ => ⟨rfl, e400, (by decide : 2 + 0 ≤ _), (by decide : 18 + 0 ≤ _)⟩)
  clear X400 e400
  dsimp only [Pt.U, Pt.locs, Pt.cells, Pt.slots] at X402 l402 y402 z402 st402 hQ402
  obtain rfl : k402 = (2 : Nat) := y402
  obtain rfl : n402 = (18 : Nat) := z402
  obtain ⟨rfl, N402q, e402⟩ := hQ402
  skip
  have N402 : Fr n0 L402 := by rw [l402]; exact Fr.app N400 N402q
  clear N400 l402 N402q
  refine own_st st402 ?_
  clear st402
  show own_Fin p e below G (T402.setTop (mkF m 287 #[.val (.long k0'), .second, .val (.long k1'), .second, .val (.long k2'), .second, .val (.long k3'), .second, .val (.long k4'), .second, rv b330, .val (.long y350_0), .second, .val (.long y353_0), .second, .val (.long y356_0), .second, .val (.long y359_0), .second, .val (.long y362_0), .second, .val (.long mm393), .second, .val (.long mm397), .second, .val (.long mm395), .second, .val (.long mm399), .second, .val (.long mm387), .second, .val (.long mm401), .second] [(.long (own_max mm397 mm395))]))
  generalize e_mm403 : (own_max mm397 mm395) = mm403
  show own_Fin p e below G (T402.setTop (mkF m 287 #[.val (.long k0'), .second, .val (.long k1'), .second, .val (.long k2'), .second, .val (.long k3'), .second, .val (.long k4'), .second, rv b330, .val (.long y350_0), .second, .val (.long y353_0), .second, .val (.long y356_0), .second, .val (.long y359_0), .second, .val (.long y362_0), .second, .val (.long mm393), .second, .val (.long mm397), .second, .val (.long mm395), .second, .val (.long mm399), .second, .val (.long mm387), .second, .val (.long mm401), .second] [(.long mm403)]))
  refine own_st (fun _ k => XS.lstore X402.here hx rfl (hb hby at_287) rfl (l' := #[.val (.long k0'), .second, .val (.long k1'), .second, .val (.long k2'), .second, .val (.long k3'), .second, .val (.long k4'), .second, rv b330, .val (.long y350_0), .second, .val (.long y353_0), .second, .val (.long y356_0), .second, .val (.long y359_0), .second, .val (.long y362_0), .second, .val (.long mm393), .second, .val (.long mm397), .second, .val (.long mm403), .second, .val (.long mm399), .second, .val (.long mm387), .second, .val (.long mm401), .second]) rfl k) ?_
  show own_Fin p e below G (T402.setTop (mkF m 289 #[.val (.long k0'), .second, .val (.long k1'), .second, .val (.long k2'), .second, .val (.long k3'), .second, .val (.long k4'), .second, rv b330, .val (.long y350_0), .second, .val (.long y353_0), .second, .val (.long y356_0), .second, .val (.long y359_0), .second, .val (.long y362_0), .second, .val (.long mm393), .second, .val (.long mm397), .second, .val (.long mm403), .second, .val (.long mm399), .second, .val (.long mm387), .second, .val (.long mm401), .second] []))
  refine own_st (fun _ k => XS.lload X402.here hx rfl (hb hby at_289) rfl  k) ?_
  show own_Fin p e below G (T402.setTop (mkF m 291 #[.val (.long k0'), .second, .val (.long k1'), .second, .val (.long k2'), .second, .val (.long k3'), .second, .val (.long k4'), .second, rv b330, .val (.long y350_0), .second, .val (.long y353_0), .second, .val (.long y356_0), .second, .val (.long y359_0), .second, .val (.long y362_0), .second, .val (.long mm393), .second, .val (.long mm397), .second, .val (.long mm403), .second, .val (.long mm399), .second, .val (.long mm387), .second, .val (.long mm401), .second] [(.long mm401)]))
  refine own_st (fun _ k => XS.lstore X402.here hx rfl (hb hby at_291) rfl (l' := #[.val (.long k0'), .second, .val (.long k1'), .second, .val (.long k2'), .second, .val (.long k3'), .second, .val (.long k4'), .second, rv b330, .val (.long y350_0), .second, .val (.long y353_0), .second, .val (.long y356_0), .second, .val (.long y359_0), .second, .val (.long y362_0), .second, .val (.long mm393), .second, .val (.long mm401), .second, .val (.long mm403), .second, .val (.long mm399), .second, .val (.long mm387), .second, .val (.long mm401), .second]) rfl k) ?_
  show own_Fin p e below G (T402.setTop (mkF m 293 #[.val (.long k0'), .second, .val (.long k1'), .second, .val (.long k2'), .second, .val (.long k3'), .second, .val (.long k4'), .second, rv b330, .val (.long y350_0), .second, .val (.long y353_0), .second, .val (.long y356_0), .second, .val (.long y359_0), .second, .val (.long y362_0), .second, .val (.long mm393), .second, .val (.long mm401), .second, .val (.long mm403), .second, .val (.long mm399), .second, .val (.long mm387), .second, .val (.long mm401), .second] []))
  refine own_st (fun _ k => XS.lload X402.here hx rfl (hb hby at_293) rfl  k) ?_
  show own_Fin p e below G (T402.setTop (mkF m 295 #[.val (.long k0'), .second, .val (.long k1'), .second, .val (.long k2'), .second, .val (.long k3'), .second, .val (.long k4'), .second, rv b330, .val (.long y350_0), .second, .val (.long y353_0), .second, .val (.long y356_0), .second, .val (.long y359_0), .second, .val (.long y362_0), .second, .val (.long mm393), .second, .val (.long mm401), .second, .val (.long mm403), .second, .val (.long mm399), .second, .val (.long mm387), .second, .val (.long mm401), .second] [(.long y350_0)]))
  refine own_st (fun _ k => XS.lload X402.here hx rfl (hb hby at_295) rfl  k) ?_
  show own_Fin p e below G (T402.setTop (mkF m 297 #[.val (.long k0'), .second, .val (.long k1'), .second, .val (.long k2'), .second, .val (.long k3'), .second, .val (.long k4'), .second, rv b330, .val (.long y350_0), .second, .val (.long y353_0), .second, .val (.long y356_0), .second, .val (.long y359_0), .second, .val (.long y362_0), .second, .val (.long mm393), .second, .val (.long mm401), .second, .val (.long mm403), .second, .val (.long mm399), .second, .val (.long mm387), .second, .val (.long mm401), .second] [(.long mm393), (.long y350_0)]))
  refine own_st (fun _ k => XS.lcmp X402.here hx rfl (hb hby at_297) rfl k) ?_
  show own_Fin p e below G (T402.setTop (mkF m 298 #[.val (.long k0'), .second, .val (.long k1'), .second, .val (.long k2'), .second, .val (.long k3'), .second, .val (.long k4'), .second, rv b330, .val (.long y350_0), .second, .val (.long y353_0), .second, .val (.long y356_0), .second, .val (.long y359_0), .second, .val (.long y362_0), .second, .val (.long mm393), .second, .val (.long mm401), .second, .val (.long mm403), .second, .val (.long mm399), .second, .val (.long mm387), .second, .val (.long mm401), .second] [(.int (lcmpW y350_0 mm393))]))
  have hnet := own_net e_mm369 e_mm371 e_mm373 e_mm375 e_mm377 e_mm379 e_mm381 e_mm383 e_mm385 e_mm387 e_mm389 e_mm391 e_mm393 e_mm395 e_mm397 e_mm399 e_mm401 e_mm403
  have hp : own_srt [y350_0, y353_0, y356_0, y359_0, y362_0] := by
    simp only [own_srt, List.mem_cons, List.not_mem_nil, or_false, forall_eq_or_imp, forall_eq, and_true, false_imp_iff, implies_true]
    omega
  have hu := own_uniq hp hnet.1 (fun t => by
    rw [hnet.2 t]
    have h_gN338 := gN338 t
    have h_gN341 := gN341 t
    have h_gN344 := gN344 t
    have h_gN347 := gN347 t
    have h_gN350 := gN350 t
    have h_gN353 := gN353 t
    have h_gN356 := gN356 t
    have h_gN359 := gN359 t
    have h_gN362 := gN362 t
    have h_gN365 := gN365 t
    simp only [own_cnt]
    omega)
  simp only [List.cons.injEq, and_true] at hu
  obtain ⟨u0, u1, u2, u3, u4⟩ := hu
  refine own_st (fun _ k => XS.ifNo X402.here hx rfl (hb hby at_298) rfl ((if0 _ _).trans (teq ((lw_eq _ _).mpr u0)).2) k) ?_
  show own_Fin p e below G (T402.setTop (mkF m 301 #[.val (.long k0'), .second, .val (.long k1'), .second, .val (.long k2'), .second, .val (.long k3'), .second, .val (.long k4'), .second, rv b330, .val (.long y350_0), .second, .val (.long y353_0), .second, .val (.long y356_0), .second, .val (.long y359_0), .second, .val (.long y362_0), .second, .val (.long mm393), .second, .val (.long mm401), .second, .val (.long mm403), .second, .val (.long mm399), .second, .val (.long mm387), .second, .val (.long mm401), .second] []))
  refine own_st (fun _ k => XS.lload X402.here hx rfl (hb hby at_301) rfl  k) ?_
  show own_Fin p e below G (T402.setTop (mkF m 303 #[.val (.long k0'), .second, .val (.long k1'), .second, .val (.long k2'), .second, .val (.long k3'), .second, .val (.long k4'), .second, rv b330, .val (.long y350_0), .second, .val (.long y353_0), .second, .val (.long y356_0), .second, .val (.long y359_0), .second, .val (.long y362_0), .second, .val (.long mm393), .second, .val (.long mm401), .second, .val (.long mm403), .second, .val (.long mm399), .second, .val (.long mm387), .second, .val (.long mm401), .second] [(.long y353_0)]))
  refine own_st (fun _ k => XS.lload X402.here hx rfl (hb hby at_303) rfl  k) ?_
  show own_Fin p e below G (T402.setTop (mkF m 305 #[.val (.long k0'), .second, .val (.long k1'), .second, .val (.long k2'), .second, .val (.long k3'), .second, .val (.long k4'), .second, rv b330, .val (.long y350_0), .second, .val (.long y353_0), .second, .val (.long y356_0), .second, .val (.long y359_0), .second, .val (.long y362_0), .second, .val (.long mm393), .second, .val (.long mm401), .second, .val (.long mm403), .second, .val (.long mm399), .second, .val (.long mm387), .second, .val (.long mm401), .second] [(.long mm401), (.long y353_0)]))
  refine own_st (fun _ k => XS.lcmp X402.here hx rfl (hb hby at_305) rfl k) ?_
  show own_Fin p e below G (T402.setTop (mkF m 306 #[.val (.long k0'), .second, .val (.long k1'), .second, .val (.long k2'), .second, .val (.long k3'), .second, .val (.long k4'), .second, rv b330, .val (.long y350_0), .second, .val (.long y353_0), .second, .val (.long y356_0), .second, .val (.long y359_0), .second, .val (.long y362_0), .second, .val (.long mm393), .second, .val (.long mm401), .second, .val (.long mm403), .second, .val (.long mm399), .second, .val (.long mm387), .second, .val (.long mm401), .second] [(.int (lcmpW y353_0 mm401))]))
  refine own_st (fun _ k => XS.ifNo X402.here hx rfl (hb hby at_306) rfl ((if0 _ _).trans (teq ((lw_eq _ _).mpr u1)).2) k) ?_
  show own_Fin p e below G (T402.setTop (mkF m 309 #[.val (.long k0'), .second, .val (.long k1'), .second, .val (.long k2'), .second, .val (.long k3'), .second, .val (.long k4'), .second, rv b330, .val (.long y350_0), .second, .val (.long y353_0), .second, .val (.long y356_0), .second, .val (.long y359_0), .second, .val (.long y362_0), .second, .val (.long mm393), .second, .val (.long mm401), .second, .val (.long mm403), .second, .val (.long mm399), .second, .val (.long mm387), .second, .val (.long mm401), .second] []))
  refine own_st (fun _ k => XS.lload X402.here hx rfl (hb hby at_309) rfl  k) ?_
  show own_Fin p e below G (T402.setTop (mkF m 311 #[.val (.long k0'), .second, .val (.long k1'), .second, .val (.long k2'), .second, .val (.long k3'), .second, .val (.long k4'), .second, rv b330, .val (.long y350_0), .second, .val (.long y353_0), .second, .val (.long y356_0), .second, .val (.long y359_0), .second, .val (.long y362_0), .second, .val (.long mm393), .second, .val (.long mm401), .second, .val (.long mm403), .second, .val (.long mm399), .second, .val (.long mm387), .second, .val (.long mm401), .second] [(.long y356_0)]))
  refine own_st (fun _ k => XS.lload X402.here hx rfl (hb hby at_311) rfl  k) ?_
  show own_Fin p e below G (T402.setTop (mkF m 313 #[.val (.long k0'), .second, .val (.long k1'), .second, .val (.long k2'), .second, .val (.long k3'), .second, .val (.long k4'), .second, rv b330, .val (.long y350_0), .second, .val (.long y353_0), .second, .val (.long y356_0), .second, .val (.long y359_0), .second, .val (.long y362_0), .second, .val (.long mm393), .second, .val (.long mm401), .second, .val (.long mm403), .second, .val (.long mm399), .second, .val (.long mm387), .second, .val (.long mm401), .second] [(.long mm403), (.long y356_0)]))
  refine own_st (fun _ k => XS.lcmp X402.here hx rfl (hb hby at_313) rfl k) ?_
  show own_Fin p e below G (T402.setTop (mkF m 314 #[.val (.long k0'), .second, .val (.long k1'), .second, .val (.long k2'), .second, .val (.long k3'), .second, .val (.long k4'), .second, rv b330, .val (.long y350_0), .second, .val (.long y353_0), .second, .val (.long y356_0), .second, .val (.long y359_0), .second, .val (.long y362_0), .second, .val (.long mm393), .second, .val (.long mm401), .second, .val (.long mm403), .second, .val (.long mm399), .second, .val (.long mm387), .second, .val (.long mm401), .second] [(.int (lcmpW y356_0 mm403))]))
  refine own_st (fun _ k => XS.ifNo X402.here hx rfl (hb hby at_314) rfl ((if0 _ _).trans (teq ((lw_eq _ _).mpr u2)).2) k) ?_
  show own_Fin p e below G (T402.setTop (mkF m 317 #[.val (.long k0'), .second, .val (.long k1'), .second, .val (.long k2'), .second, .val (.long k3'), .second, .val (.long k4'), .second, rv b330, .val (.long y350_0), .second, .val (.long y353_0), .second, .val (.long y356_0), .second, .val (.long y359_0), .second, .val (.long y362_0), .second, .val (.long mm393), .second, .val (.long mm401), .second, .val (.long mm403), .second, .val (.long mm399), .second, .val (.long mm387), .second, .val (.long mm401), .second] []))
  refine own_st (fun _ k => XS.lload X402.here hx rfl (hb hby at_317) rfl  k) ?_
  show own_Fin p e below G (T402.setTop (mkF m 319 #[.val (.long k0'), .second, .val (.long k1'), .second, .val (.long k2'), .second, .val (.long k3'), .second, .val (.long k4'), .second, rv b330, .val (.long y350_0), .second, .val (.long y353_0), .second, .val (.long y356_0), .second, .val (.long y359_0), .second, .val (.long y362_0), .second, .val (.long mm393), .second, .val (.long mm401), .second, .val (.long mm403), .second, .val (.long mm399), .second, .val (.long mm387), .second, .val (.long mm401), .second] [(.long y359_0)]))
  refine own_st (fun _ k => XS.lload X402.here hx rfl (hb hby at_319) rfl  k) ?_
  show own_Fin p e below G (T402.setTop (mkF m 321 #[.val (.long k0'), .second, .val (.long k1'), .second, .val (.long k2'), .second, .val (.long k3'), .second, .val (.long k4'), .second, rv b330, .val (.long y350_0), .second, .val (.long y353_0), .second, .val (.long y356_0), .second, .val (.long y359_0), .second, .val (.long y362_0), .second, .val (.long mm393), .second, .val (.long mm401), .second, .val (.long mm403), .second, .val (.long mm399), .second, .val (.long mm387), .second, .val (.long mm401), .second] [(.long mm399), (.long y359_0)]))
  refine own_st (fun _ k => XS.lcmp X402.here hx rfl (hb hby at_321) rfl k) ?_
  show own_Fin p e below G (T402.setTop (mkF m 322 #[.val (.long k0'), .second, .val (.long k1'), .second, .val (.long k2'), .second, .val (.long k3'), .second, .val (.long k4'), .second, rv b330, .val (.long y350_0), .second, .val (.long y353_0), .second, .val (.long y356_0), .second, .val (.long y359_0), .second, .val (.long y362_0), .second, .val (.long mm393), .second, .val (.long mm401), .second, .val (.long mm403), .second, .val (.long mm399), .second, .val (.long mm387), .second, .val (.long mm401), .second] [(.int (lcmpW y359_0 mm399))]))
  refine own_st (fun _ k => XS.ifNo X402.here hx rfl (hb hby at_322) rfl ((if0 _ _).trans (teq ((lw_eq _ _).mpr u3)).2) k) ?_
  show own_Fin p e below G (T402.setTop (mkF m 325 #[.val (.long k0'), .second, .val (.long k1'), .second, .val (.long k2'), .second, .val (.long k3'), .second, .val (.long k4'), .second, rv b330, .val (.long y350_0), .second, .val (.long y353_0), .second, .val (.long y356_0), .second, .val (.long y359_0), .second, .val (.long y362_0), .second, .val (.long mm393), .second, .val (.long mm401), .second, .val (.long mm403), .second, .val (.long mm399), .second, .val (.long mm387), .second, .val (.long mm401), .second] []))
  refine own_st (fun _ k => XS.lload X402.here hx rfl (hb hby at_325) rfl  k) ?_
  show own_Fin p e below G (T402.setTop (mkF m 327 #[.val (.long k0'), .second, .val (.long k1'), .second, .val (.long k2'), .second, .val (.long k3'), .second, .val (.long k4'), .second, rv b330, .val (.long y350_0), .second, .val (.long y353_0), .second, .val (.long y356_0), .second, .val (.long y359_0), .second, .val (.long y362_0), .second, .val (.long mm393), .second, .val (.long mm401), .second, .val (.long mm403), .second, .val (.long mm399), .second, .val (.long mm387), .second, .val (.long mm401), .second] [(.long y362_0)]))
  refine own_st (fun _ k => XS.lload X402.here hx rfl (hb hby at_327) rfl  k) ?_
  show own_Fin p e below G (T402.setTop (mkF m 329 #[.val (.long k0'), .second, .val (.long k1'), .second, .val (.long k2'), .second, .val (.long k3'), .second, .val (.long k4'), .second, rv b330, .val (.long y350_0), .second, .val (.long y353_0), .second, .val (.long y356_0), .second, .val (.long y359_0), .second, .val (.long y362_0), .second, .val (.long mm393), .second, .val (.long mm401), .second, .val (.long mm403), .second, .val (.long mm399), .second, .val (.long mm387), .second, .val (.long mm401), .second] [(.long mm387), (.long y362_0)]))
  refine own_st (fun _ k => XS.lcmp X402.here hx rfl (hb hby at_329) rfl k) ?_
  show own_Fin p e below G (T402.setTop (mkF m 330 #[.val (.long k0'), .second, .val (.long k1'), .second, .val (.long k2'), .second, .val (.long k3'), .second, .val (.long k4'), .second, rv b330, .val (.long y350_0), .second, .val (.long y353_0), .second, .val (.long y356_0), .second, .val (.long y359_0), .second, .val (.long y362_0), .second, .val (.long mm393), .second, .val (.long mm401), .second, .val (.long mm403), .second, .val (.long mm399), .second, .val (.long mm387), .second, .val (.long mm401), .second] [(.int (lcmpW y362_0 mm387))]))
  refine own_st (fun _ k => XS.ifNo X402.here hx rfl (hb hby at_330) rfl ((if0 _ _).trans (teq ((lw_eq _ _).mpr u4)).2) k) ?_
  show own_Fin p e below G (T402.setTop (mkF m 333 #[.val (.long k0'), .second, .val (.long k1'), .second, .val (.long k2'), .second, .val (.long k3'), .second, .val (.long k4'), .second, rv b330, .val (.long y350_0), .second, .val (.long y353_0), .second, .val (.long y356_0), .second, .val (.long y359_0), .second, .val (.long y362_0), .second, .val (.long mm393), .second, .val (.long mm401), .second, .val (.long mm403), .second, .val (.long mm399), .second, .val (.long mm387), .second, .val (.long mm401), .second] []))
  refine own_st (fun _ k => XS.aload X402.here hx rfl (hb hby at_333) rfl rfl k) ?_
  show own_Fin p e below G (T402.setTop (mkF m 335 #[.val (.long k0'), .second, .val (.long k1'), .second, .val (.long k2'), .second, .val (.long k3'), .second, .val (.long k4'), .second, rv b330, .val (.long y350_0), .second, .val (.long y353_0), .second, .val (.long y356_0), .second, .val (.long y359_0), .second, .val (.long y362_0), .second, .val (.long mm393), .second, .val (.long mm401), .second, .val (.long mm403), .second, .val (.long mm399), .second, .val (.long mm387), .second, .val (.long mm401), .second] [(.ref b330)]))
  obtain ⟨cq404, kq404, q404a, q404b, q404c⟩ := isOf hZ e402 f366_0
  clear f366_0 q404b
  obtain ⟨_, _, ⟨T404, L404, k404, n404⟩, -, X404, ⟨Lc404, hQ404, l404, y404, z404⟩, st404⟩ := X402.virtualBack hx (y := own_y2) (z := own_y2) hown (mvT hZ (own_w hw 31 rfl)) (mvT hZ (own_w hw 32 rfl)) (notFace_of_selects (args := #[]) (mvT hZ (own_w hw 34 rfl))) (mvT hZ (own_w hw 34 rfl)) (mvT hZ (own_w hw 33 rfl)) (by decide) (backOf (W := 0) (rm_emp l Z a0 hw [] b330 T365.heap n0 (Nat.le_trans Z0 K367.1) gC365) hZ (own_w hw 35 rfl) (own_w hw 2 rfl) (by decide) (by decide)) q404a q404c (g := (mkF m 335 #[.val (.long k0'), .second, .val (.long k1'), .second, .val (.long k2'), .second, .val (.long k3'), .second, .val (.long k4'), .second, rv b330, .val (.long y350_0), .second, .val (.long y353_0), .second, .val (.long y356_0), .second, .val (.long y359_0), .second, .val (.long y362_0), .second, .val (.long mm393), .second, .val (.long mm401), .second, .val (.long mm403), .second, .val (.long mm399), .second, .val (.long mm387), .second, .val (.long mm401), .second] [(.ref b330)])) rfl (by rw [hml]; rfl) (Steps.refl _) (argsL := []) (rest := []) (lenOf pd___Z_171 rfl) rfl (by show 2 * 0 + _ ≤ _; exact Nat.le_of_eq rfl) (hb hby at_335) (fun _ _ => ⟨rfl, e402, (by decide : 2 + 0 ≤ _), (by decide : 18 + 0 ≤ _)⟩)
  clear gC365 K367 X402 e402 q404a q404c
  dsimp only [Pt.U, Pt.locs, Pt.cells, Pt.slots] at X404 l404 y404 z404 st404 hQ404
  obtain rfl : k404 = (2 : Nat) := y404
  obtain rfl : n404 = (18 : Nat) := z404
  obtain ⟨rfl, N404q, e404⟩ := hQ404
  clear e404
  skip
  have N404 : Fr n0 L404 := by rw [l404]; exact Fr.app N402 N404q
  clear N402 l404 N404q
  refine own_tr st404 ?_
  clear st404
  show own_Fin p e below G (T404.setTop (mkF m 338 #[.val (.long k0'), .second, .val (.long k1'), .second, .val (.long k2'), .second, .val (.long k3'), .second, .val (.long k4'), .second, rv b330, .val (.long y350_0), .second, .val (.long y353_0), .second, .val (.long y356_0), .second, .val (.long y359_0), .second, .val (.long y362_0), .second, .val (.long mm393), .second, .val (.long mm401), .second, .val (.long mm403), .second, .val (.long mm399), .second, .val (.long mm387), .second, .val (.long mm401), .second] [(.int (1 : Int32))]))
  refine own_st (fun _ k => XS.ifNo X404.here hx rfl (hb hby at_338) rfl ((if0 _ _).trans (feq (by decide : ¬ ((1 : Int32) = (0 : Int32)))).1) k) ?_
  show own_Fin p e below G (T404.setTop (mkF m 341 #[.val (.long k0'), .second, .val (.long k1'), .second, .val (.long k2'), .second, .val (.long k3'), .second, .val (.long k4'), .second, rv b330, .val (.long y350_0), .second, .val (.long y353_0), .second, .val (.long y356_0), .second, .val (.long y359_0), .second, .val (.long y362_0), .second, .val (.long mm393), .second, .val (.long mm401), .second, .val (.long mm403), .second, .val (.long mm399), .second, .val (.long mm387), .second, .val (.long mm401), .second] []))
  refine own_st (fun _ k => XS.iconst X404.here hx rfl (hb hby at_341) k) ?_
  show own_Fin p e below G (T404.setTop (mkF m 342 #[.val (.long k0'), .second, .val (.long k1'), .second, .val (.long k2'), .second, .val (.long k3'), .second, .val (.long k4'), .second, rv b330, .val (.long y350_0), .second, .val (.long y353_0), .second, .val (.long y356_0), .second, .val (.long y359_0), .second, .val (.long y362_0), .second, .val (.long mm393), .second, .val (.long mm401), .second, .val (.long mm403), .second, .val (.long mm399), .second, .val (.long mm387), .second, .val (.long mm401), .second] [(.int (1 : Int32))]))
  refine own_st (fun _ k => XS.goto X404.here hx rfl (pc0 := 342) (pc' := 346) rfl (hb hby at_342) (by decide) (by decide) k) ?_
  show own_Fin p e below G (T404.setTop (mkF m 346 #[.val (.long k0'), .second, .val (.long k1'), .second, .val (.long k2'), .second, .val (.long k3'), .second, .val (.long k4'), .second, rv b330, .val (.long y350_0), .second, .val (.long y353_0), .second, .val (.long y356_0), .second, .val (.long y359_0), .second, .val (.long y362_0), .second, .val (.long mm393), .second, .val (.long mm401), .second, .val (.long mm403), .second, .val (.long mm399), .second, .val (.long mm387), .second, .val (.long mm401), .second] [(.int (1 : Int32))]))
  refine own_out X404 Bd.notSynchronized (v := (some (.int (1 : Int32)))) (fun h => by rw [Bd.returns] at h; cases h) hG (fun fs hr => retN X404 hx (t := .boolean) Bd.returns (by simp) (hb hby at_346) hr) (by decide) (by decide) ?_
  exact ⟨rfl, N404⟩

set_option maxRecDepth 65536 in
set_option maxHeartbeats 40000000 in
theorem comes_1 {Post : Tables → Env → Array Value → State → Outcome → State → Prop} (hpost : ∀ tb e args s v u, (limb_1_1.after args s (.returned v) u = true ∧ limb_1_2.after args s (.returned v) u = true ∧ True) → FrameEnd s (.returned v) u (Jvm.fieldLocs frame_1_writes args s ++ Jvm.arrayLocs frame_1_arrays args s ++ Jvm.staticLocs frame_1_statics s) 16 128 → Post tb e args s (.returned v) u) :
    ArmFor flags0 classFile x code maxLocals ret World_1 tables_1 room_1 Calls_1 rest_1 Pre_1 Post := by
  intro l hfl _ _ p e ha hc hk s m args below hf hA hF happ hP
  obtain ⟨hcalls, hrest, hpre⟩ := hP
  obtain ⟨-, -, -, hnamed, -, -, -, hat⟩ := (Spec.applies_iff hf).mp happ
  obtain ⟨hg, hn⟩ := and_e (Cond.before_iff.mp (show (Jvm.Cond.and given_1 narrow_1).before args s = true from hpre))
  obtain ⟨hg0, hh0⟩ := and_e hg
  obtain ⟨hg1, hh1⟩ := and_e hh0
  obtain ⟨hg2, hh2⟩ := and_e hh1
  obtain ⟨hg3, hh3⟩ := and_e hh2
  obtain ⟨hg4, hh4⟩ := and_e hh3
  obtain ⟨w0, w1, w2, w3, w4, rfl⟩ : ∃ w0 w1 w2 w3 w4 : Value, args = #[w0, w1, w2, w3, w4] := by
    have hs : args.size = 5 := by simpa [Cond.value, given_1] using hg0
    obtain ⟨L⟩ := args
    match L, hs with
    | [w0, w1, w2, w3, w4], _ => exact ⟨w0, w1, w2, w3, w4, rfl⟩
  have hw := fun d (hd : d ∈ tables_1) => atoms_spec (ws := Jvm.Cond.code x code maxLocals ret :: tables_1) hat d (List.mem_cons_of_mem _ hd)
  have hfit : Fit s := fun {y c} hc i hi => by
    obtain ⟨ha, rfl⟩ := Array.getElem?_eq_some_iff.mp hc
    have q := List.all_eq_true.mp ((Array.all_eq_true_iff_forall_mem.mp hF) _ (Array.getElem_mem ha)) i (List.mem_range.mpr hi)
    simpa [Array.getElem?_eq_getElem hi] using q
  obtain ⟨i0, ei0⟩ := isL_v hg1
  obtain rfl : w0 = (.long i0) := Option.some.inj ei0
  obtain ⟨i1, ei1⟩ := isL_v hg2
  obtain rfl : w1 = (.long i1) := Option.some.inj ei1
  obtain ⟨i2, ei2⟩ := isL_v hg3
  obtain rfl : w2 = (.long i2) := Option.some.inj ei2
  obtain ⟨i3, ei3⟩ := isL_v hg4
  obtain rfl : w3 = (.long i3) := Option.some.inj ei3
  obtain ⟨i4, ei4⟩ := isL_v hh4
  obtain rfl : w4 = (.long i4) := Option.some.inj ei4
  obtain ⟨n, o, h1, h2, h3, _, L, rfl, ⟨rfl, N⟩, hq⟩ := rm0 l s _ hw tables_1 i0 i1 i2 i3 i4 s.heap s.heap.size (Nat.le_refl _)  p e ha hc hk s m _ below hf ((Spec.applies_iff_loose hf).mp happ).1 ⟨rfl, State.Warmed39.refl s, rfl⟩ trivial
  refine ⟨n, _, h1, h2, h3, hpost _ _ _ _ _ _ ⟨Cond.after_iff.mpr rfl, Cond.after_iff.mpr (eq_i res_at (Term.int_eval (1)) rfl), trivial⟩ ⟨hq.1, hq.2.1, (hq.2.2.sift fun y hy => Or.inr (N y hy)).mono (by decide) (by decide)⟩⟩
theorem main_1_1 : Claimed_1_1 := comes_1 fun _ _ _ _ _ _ h hF => ⟨h.1, hF⟩
theorem main_1_2 : Claimed_1_2 := comes_1 fun _ _ _ _ _ _ h hF => ⟨h.2.1, hF⟩
end Jvm.Pilot.@@N@@
namespace Jvm.Pilot.@@N@@
open Jvm Jvm.ClassFile Sem Op Lib Jvm.Free Jvm.Stand Jvm.Pilot.@@N@@.Jvm.D
/-! MADE BY PROGRAM (witnessworld.py) out of the Statement's table words and the real class files: 12 classes; the members and pool entries that the words name. The judged class is class 1, her method 1. -/
namespace start1
open Jvm.ClassFile
def u (s : String) : CpInfo := .utf8 (stringToUtf16 s)
/-- a pool by its gaps: so many unusable entries, then the entry; so many at the end -/
def gap : Nat → List CpInfo → List CpInfo
  | 0, r => r
  | n + 1, r => .unusable :: gap n r
def poolList (es : List (Nat × CpInfo)) (last : Nat) : List CpInfo := es.foldr (fun e r => gap e.1 (e.2 :: r)) (gap last [])
def pool (es : List (Nat × CpInfo)) (last : Nat) : Array CpInfo := ⟨poolList es last⟩
def fileOf (pool : Array CpInfo) (this : Nat) (attrs : Array Attribute := #[]) (ms : Array MethodInfo := #[]) (fl : Nat := 33) (sup : Nat := 0) (ifs : Array Nat := #[]) (fds : Array FieldInfo := #[]) : ClassFile where
  minorVersion := 0
  majorVersion := 65
  constantPool := pool
  accessFlags := fl
  thisClass := this
  superClass := sup
  interfaces := ifs
  fields := fds
  methods := ms
  attributes := attrs
def plain (name : String) (sup : Option ClassId) : Class where
  name := name
  kind := .ordinary
  loader := none
  accessFlags := 33
  super := sup
  interfaces := #[]
  cf := none
  fields := #[]
  methods := #[]
  instanceTypes := #[]
  staticTypes := #[]
  resolved := #[]
  callSites := []
  init := .initialized
  statics := none
  mirror := none

def pool0 : Array CpInfo := pool [(5, u "<init>"), (0, u "()V"), (1, .class_ 10), (1, u "java/lang/Object")] 113

def k0c0 : Code := { maxStack := 0, maxLocals := 1, code := object_method_1_code, exceptionTable := #[], attributes := #[] }
def k0m0 : Method := { name := "<init>", desc := "()V", sig := { parameters := [], returnType := none }, accessFlags := 1, code := some k0c0 }
/-- java/lang/Object -/
def k0 : Class := { plain "java/lang/Object" none with
  accessFlags := 33
  interfaces := #[]
  cf := some (fileOf pool0 8 #[] #[{ accessFlags := 1, nameIndex := 5, descriptorIndex := 6, attributes := #[] }] 33 0 #[] #[])
  fields := #[]
  methods := #[k0m0]
  instanceTypes := #[]
  staticTypes := #[]
  resolved := Array.replicate 124 none
  statics := none }

def pool1 : Array CpInfo := pool [(2, .class_ 4), (0, .nameAndType 5 6), (0, u "java/lang/Object"), (0, u "<init>"), (0, u "()V"), (0, .class_ 8), (0, u "com/example/urania/urania/layered/KeyHeap"), (0, .methodref 7 3), (0, .methodref 7 11), (0, .nameAndType 12 13), (0, u "add"), (0, u "(J)V"), (0, .methodref 7 15), (0, .nameAndType 16 17), (0, u "poll"), (0, u "()J"), (0, .methodref 19 20), (0, .class_ 21), (0, .nameAndType 22 23), (0, u "java/lang/Math"), (0, u "min"), (0, u "(JJ)J"), (0, .methodref 19 25), (0, .nameAndType 26 23), (0, u "max"), (0, .methodref 7 28), (0, .nameAndType 29 30), (0, u "isEmpty"), (0, u "()Z"), (0, .class_ 32), (0, u "com/example/urania/urania/layered/KeyHeapPollPinLaw"), (2, u "law"), (0, u "(JJJJJ)Z")] 3

def k1m0 : Method := { name := "<init>", desc := "()V", sig := { parameters := [], returnType := none }, accessFlags := 1, code := none }
def k1c1 : Code := { maxStack := 4, maxLocals := 33, code := code, exceptionTable := #[], attributes := #[] }
def k1m1 : Method := { name := "law", desc := "(JJJJJ)Z", sig := { parameters := [.long, .long, .long, .long, .long], returnType := some .boolean }, accessFlags := 9, code := some k1c1 }
/-- com/example/urania/urania/layered/KeyHeapPollPinLaw -/
def k1 : Class := { plain "com/example/urania/urania/layered/KeyHeapPollPinLaw" (some 0) with
  accessFlags := 49
  interfaces := #[]
  cf := some (fileOf pool1 31 #[] #[{ accessFlags := 1, nameIndex := 5, descriptorIndex := 6, attributes := #[] }, { accessFlags := 9, nameIndex := 35, descriptorIndex := 36, attributes := #[] }] 49 2 #[] #[])
  fields := #[]
  methods := #[k1m0, k1m1]
  instanceTypes := #[]
  staticTypes := #[]
  resolved := Array.replicate 40 none
  statics := none }

def pool2 : Array CpInfo := pool [(1, .methodref 2 3), (0, .class_ 4), (0, .nameAndType 5 6), (0, u "java/lang/Object"), (0, u "<init>"), (0, u "()V"), (0, .fieldref 8 9), (0, .class_ 10), (0, .nameAndType 11 12), (0, u "com/example/urania/urania/layered/KeyHeap"), (0, u "keys"), (0, u "[J"), (0, .fieldref 8 14), (0, .nameAndType 15 16), (0, u "count"), (0, u "I"), (13, u "isEmpty"), (0, u "()Z"), (1, u "add"), (0, u "(J)V"), (0, u "poll"), (0, u "()J")] 2

def k2c0 : Code := { maxStack := 2, maxLocals := 1, code := prog_53_method_1_code, exceptionTable := #[], attributes := #[] }
def k2m0 : Method := { name := "<init>", desc := "()V", sig := { parameters := [], returnType := none }, accessFlags := 0, code := some k2c0 }
def k2c1 : Code := { maxStack := 1, maxLocals := 1, code := prog_53_method_5_code, exceptionTable := #[], attributes := #[] }
def k2m1 : Method := { name := "isEmpty", desc := "()Z", sig := { parameters := [], returnType := some .boolean }, accessFlags := 0, code := some k2c1 }
def k2c2 : Code := { maxStack := 4, maxLocals := 5, code := prog_53_method_6_code, exceptionTable := #[], attributes := #[] }
def k2m2 : Method := { name := "add", desc := "(J)V", sig := { parameters := [.long], returnType := none }, accessFlags := 0, code := some k2c2 }
def k2c3 : Code := { maxStack := 4, maxLocals := 7, code := prog_53_method_7_code, exceptionTable := #[], attributes := #[] }
def k2m3 : Method := { name := "poll", desc := "()J", sig := { parameters := [], returnType := some .long }, accessFlags := 0, code := some k2c3 }
/-- com/example/urania/urania/layered/KeyHeap -/
def k2 : Class := { plain "com/example/urania/urania/layered/KeyHeap" (some 0) with
  accessFlags := 48
  interfaces := #[]
  cf := some (fileOf pool2 8 #[] #[{ accessFlags := 0, nameIndex := 5, descriptorIndex := 6, attributes := #[] }, { accessFlags := 0, nameIndex := 30, descriptorIndex := 31, attributes := #[] }, { accessFlags := 0, nameIndex := 33, descriptorIndex := 34, attributes := #[] }, { accessFlags := 0, nameIndex := 35, descriptorIndex := 36, attributes := #[] }] 48 2 #[] #[{ accessFlags := 2, nameIndex := 11, descriptorIndex := 12, attributes := #[] }, { accessFlags := 2, nameIndex := 15, descriptorIndex := 16, attributes := #[] }])
  fields := #[{ name := "keys", type := (.array .long), accessFlags := 2, slot := 0, constantValue := 0 }, { name := "count", type := .int, accessFlags := 2, slot := 1, constantValue := 0 }]
  methods := #[k2m0, k2m1, k2m2, k2m3]
  instanceTypes := #[(.array .long), .int]
  staticTypes := #[]
  resolved := Array.replicate 39 none
  statics := none }

def pool3 : Array CpInfo := pool [(1, .class_ 2), (0, u "java/lang/Math"), (1, .class_ 6), (1, u "java/lang/Object"), (0, u "<init>"), (0, u "()V"), (89, .class_ 100), (1, u "java/lang/Math$RandomNumberGeneratorHolder"), (20, u "(JJ)J"), (50, u "negativeZeroFloatBits"), (0, u "J"), (2, u "negativeZeroDoubleBits"), (21, u "max"), (2, u "min"), (43, u "$assertionsDisabled"), (0, u "Z"), (91, u "twoToTheDoubleScaleDown"), (0, u "D"), (4, u "twoToTheDoubleScaleUp"), (9, u "E"), (3, u "PI"), (2, u "TAU"), (2, u "DEGREES_TO_RADIANS"), (0, u "RADIANS_TO_DEGREES")] 94

def k3m0 : Method := { name := "<init>", desc := "()V", sig := { parameters := [], returnType := none }, accessFlags := 2, code := none }
def k3c1 : Code := { maxStack := 4, maxLocals := 4, code := jdk_29_method_66_code, exceptionTable := #[], attributes := #[] }
def k3m1 : Method := { name := "max", desc := "(JJ)J", sig := { parameters := [.long, .long], returnType := some .long }, accessFlags := 9, code := some k3c1 }
def k3c2 : Code := { maxStack := 4, maxLocals := 4, code := jdk_29_method_70_code, exceptionTable := #[], attributes := #[] }
def k3m2 : Method := { name := "min", desc := "(JJ)J", sig := { parameters := [.long, .long], returnType := some .long }, accessFlags := 9, code := some k3c2 }
/-- java/lang/Math -/
def k3 : Class := { plain "java/lang/Math" (some 0) with
  accessFlags := 49
  interfaces := #[]
  cf := some (fileOf pool3 1 #[.nestMembers #[98]] #[{ accessFlags := 2, nameIndex := 7, descriptorIndex := 8, attributes := #[] }, { accessFlags := 9, nameIndex := 198, descriptorIndex := 121, attributes := #[] }, { accessFlags := 9, nameIndex := 201, descriptorIndex := 121, attributes := #[] }] 49 4 #[] #[{ accessFlags := 25, nameIndex := 354, descriptorIndex := 339, attributes := #[] }, { accessFlags := 25, nameIndex := 358, descriptorIndex := 339, attributes := #[] }, { accessFlags := 25, nameIndex := 361, descriptorIndex := 339, attributes := #[] }, { accessFlags := 26, nameIndex := 364, descriptorIndex := 339, attributes := #[] }, { accessFlags := 26, nameIndex := 365, descriptorIndex := 339, attributes := #[] }, { accessFlags := 26, nameIndex := 172, descriptorIndex := 173, attributes := #[] }, { accessFlags := 26, nameIndex := 176, descriptorIndex := 173, attributes := #[] }, { accessFlags := 8, nameIndex := 344, descriptorIndex := 339, attributes := #[] }, { accessFlags := 8, nameIndex := 338, descriptorIndex := 339, attributes := #[] }, { accessFlags := 4120, nameIndex := 245, descriptorIndex := 246, attributes := #[] }])
  fields := #[{ name := "E", type := .double, accessFlags := 25, slot := 0, constantValue := 0 }, { name := "PI", type := .double, accessFlags := 25, slot := 1, constantValue := 0 }, { name := "TAU", type := .double, accessFlags := 25, slot := 2, constantValue := 0 }, { name := "DEGREES_TO_RADIANS", type := .double, accessFlags := 26, slot := 3, constantValue := 0 }, { name := "RADIANS_TO_DEGREES", type := .double, accessFlags := 26, slot := 4, constantValue := 0 }, { name := "negativeZeroFloatBits", type := .long, accessFlags := 26, slot := 5, constantValue := 0 }, { name := "negativeZeroDoubleBits", type := .long, accessFlags := 26, slot := 6, constantValue := 0 }, { name := "twoToTheDoubleScaleUp", type := .double, accessFlags := 8, slot := 7, constantValue := 0 }, { name := "twoToTheDoubleScaleDown", type := .double, accessFlags := 8, slot := 8, constantValue := 0 }, { name := "$assertionsDisabled", type := .boolean, accessFlags := 4120, slot := 9, constantValue := 0 }]
  methods := #[k3m0, k3m1, k3m2]
  instanceTypes := #[]
  staticTypes := #[.double, .double, .double, .double, .double, .long, .long, .double, .double, .boolean]
  resolved := Array.replicate 460 none
  statics := none }

def pool4 : Array CpInfo := pool [(1, u "java/lang/Cloneable"), (0, .class_ 1), (0, u "java/lang/Object"), (0, .class_ 3)] 3

/-- java/lang/Cloneable -/
def k4 : Class := { plain "java/lang/Cloneable" (some 0) with
  accessFlags := 1537
  interfaces := #[]
  cf := some (fileOf pool4 2 #[] #[] 1537 4 #[] #[])
  fields := #[]
  methods := #[]
  instanceTypes := #[]
  staticTypes := #[]
  resolved := Array.replicate 8 none
  statics := none }

def pool5 : Array CpInfo := pool [(1, u "java/io/Serializable"), (0, .class_ 1), (0, u "java/lang/Object"), (0, .class_ 3)] 3

/-- java/io/Serializable -/
def k5 : Class := { plain "java/io/Serializable" (some 0) with
  accessFlags := 1537
  interfaces := #[]
  cf := some (fileOf pool5 2 #[] #[] 1537 4 #[] #[])
  fields := #[]
  methods := #[]
  instanceTypes := #[]
  staticTypes := #[]
  resolved := Array.replicate 8 none
  statics := none }

/-- the primitive byte -/
def k6 : Class := { plain "byte" none with kind := .primitive 'B', accessFlags := 0x411 }
/-- [B -/
def k7 : Class := { plain "[B" (some 0) with kind := .array 6 .byte, interfaces := #[4, 5], accessFlags := 1041 }

/-- the primitive int -/
def k8 : Class := { plain "int" none with kind := .primitive 'I', accessFlags := 0x411 }
/-- [I -/
def k9 : Class := { plain "[I" (some 0) with kind := .array 8 .int, interfaces := #[4, 5], accessFlags := 1041 }

/-- the primitive long -/
def k10 : Class := { plain "long" none with kind := .primitive 'J', accessFlags := 0x411 }
/-- [J -/
def k11 : Class := { plain "[J" (some 0) with kind := .array 10 .long, interfaces := #[4, 5], accessFlags := 1041 }

def heap : Heap := #[]
def classes : Array Class := #[k0, k1, k2, k3, k4, k5, k6, k7, k8, k9, k10, k11]
def interned : List (Array UInt16 × Addr) := []
def slotsUsed : Nat := 0
def theMethod : MethodId := ⟨1, 1⟩
def args0 : Array Value := #[.long 5, .long 8, .long 11, .long 14, .long 17]
def aboutOver (below : List Frame) : State where
  vm := { classes := classes, interned := interned.toArray }
  heap := heap
  slotsUsed := slotsUsed
  threads := #[{ frames := .invoking theMethod args0 :: below }]
def below0 : List Frame := [.native { method := ⟨0, 0⟩, args := #[] }]
def about1 : State := aboutOver below0
def p0 : Program := .bare "" "" ""
def e0 : Env := launch0.env 0 0 0
theorem w_frames : about1.frames = Frame.invoking theMethod args0 :: below0 := rfl
set_option maxRecDepth 65536 in
theorem w_args : argsFit about1.vm theMethod args0 = true := by decide +kernel
set_option maxRecDepth 65536 in
theorem w_heap : heapFits about1 = true := by decide +kernel
set_option maxRecDepth 65536 in
theorem w_runnable : about1.curStatus? = some .runnable := by decide +kernel
set_option maxRecDepth 65536 in
theorem w_alone : about1.alone = true := by decide +kernel
set_option maxRecDepth 65536 in
theorem w_named : about1.methodNamed? x = some theMethod := by decide +kernel
set_option maxRecDepth 65536 in
theorem w_hears : about1.hears theMethod below0 = true := by decide +kernel
set_option maxRecDepth 65536 in
theorem w_ripe : about1.ripe theMethod args0 below0 = true := by decide +kernel
theorem w_running : about1.status = .running := rfl
set_option maxRecDepth 65536 in
theorem w_room : about1.hasRoom e0.platform room_1 = true :=
  launch0.hasRoom_least _ room_1 (by decide +kernel) (by decide +kernel) (by decide +kernel) (by decide +kernel) (by decide +kernel) (by decide +kernel)
theorem allAtoms_all (ts : List Jvm.Cond) (a : Array Jvm.Value) (st : Jvm.State) : (allAtoms ts).before a st = ts.all (fun c => c.before a st) := by
  induction ts with
  | nil => rfl
  | cons c t ih =>
    show (Jvm.Cond.and c (allAtoms t)).before a st = _
    rw [Jvm.Cond.before_and, ih, List.all_cons]
def words1 : List Jvm.Cond := Jvm.Cond.code x code maxLocals ret :: tables_1
/-- a 'code' word, met by the world's own term for the bytes: nothing is compared byte by byte -/
theorem code_word {y : MethodName} {bytes : ByteArray} {mx : Nat} {rt : Option FieldType} {a : Array Value} {s : State} {m : MethodId} {meth : Method} {c : Code} (h1 : s.methodNamed? y = some m) (h2 : s.vm.method? m = some meth) (h3 : meth.code = some c) (h4 : c.code = bytes)
    (h5 : (c.maxLocals == mx && c.exceptionTable.isEmpty && decide (c.maxStack ≤ mostOperands) && decide (meth.sig.returnType = rt) && !meth.locks && decide (parseMethodDescriptor y.desc = some meth.sig)) = true) : (Jvm.Cond.code y bytes mx rt).before a s = true := by
  simp only [Bool.and_eq_true, beq_iff_eq, Bool.not_eq_true', decide_eq_true_eq] at h5
  obtain ⟨⟨⟨⟨⟨g1, g2⟩, g3⟩, g4⟩, g5⟩, g6⟩ := h5
  simp [Cond.before, Cond.holds, Cond.value, h1, h2, h3, h4, g1, g2, g3, g4, g5, g6]
def isCode : Jvm.Cond → Bool
  | .code _ _ _ _ => true
  | _ => false
theorem all_split {L : List Jvm.Cond} {P : Jvm.Cond → Bool} (h1 : L.all (fun c => isCode c || P c) = true) (h2 : ∀ c ∈ L.filter isCode, P c = true) : L.all P = true := by
  refine List.all_eq_true.mpr fun c hc => ?_
  have h := List.all_eq_true.mp h1 c hc
  rcases Bool.eq_false_or_eq_true (isCode c) with hi | hi
  · exact h2 c (List.mem_filter.mpr ⟨hc, hi⟩)
  · simpa [hi] using h
set_option maxRecDepth 65536 in
theorem w_c0 : (Jvm.Cond.code x code maxLocals ret).before args0 about1 = true := code_word (m := ⟨1, 1⟩) (meth := k1m1) (c := k1c1) (by decide +kernel) rfl rfl rfl (by decide +kernel)
set_option maxRecDepth 65536 in
theorem w_c1 : (Jvm.Cond.code ({ cls := "com/example/urania/urania/layered/KeyHeap", name := "<init>", desc := "()V" } : Jvm.MethodName) prog_53_method_1_code (1 : Nat) (Option.none : Option Jvm.ClassFile.FieldType)).before args0 about1 = true := code_word (m := ⟨2, 0⟩) (meth := k2m0) (c := k2c0) (by decide +kernel) rfl rfl rfl (by decide +kernel)
set_option maxRecDepth 65536 in
theorem w_c2 : (Jvm.Cond.code ({ cls := "java/lang/Object", name := "<init>", desc := "()V" } : Jvm.MethodName) object_method_1_code (1 : Nat) (Option.none : Option Jvm.ClassFile.FieldType)).before args0 about1 = true := code_word (m := ⟨0, 0⟩) (meth := k0m0) (c := k0c0) (by decide +kernel) rfl rfl rfl (by decide +kernel)
set_option maxRecDepth 65536 in
theorem w_c3 : (Jvm.Cond.code ({ cls := "com/example/urania/urania/layered/KeyHeap", name := "add", desc := "(J)V" } : Jvm.MethodName) prog_53_method_6_code (5 : Nat) (Option.none : Option Jvm.ClassFile.FieldType)).before args0 about1 = true := code_word (m := ⟨2, 2⟩) (meth := k2m2) (c := k2c2) (by decide +kernel) rfl rfl rfl (by decide +kernel)
set_option maxRecDepth 65536 in
theorem w_c4 : (Jvm.Cond.code ({ cls := "com/example/urania/urania/layered/KeyHeap", name := "poll", desc := "()J" } : Jvm.MethodName) prog_53_method_7_code (7 : Nat) (Option.some Jvm.ClassFile.FieldType.long)).before args0 about1 = true := code_word (m := ⟨2, 3⟩) (meth := k2m3) (c := k2c3) (by decide +kernel) rfl rfl rfl (by decide +kernel)
set_option maxRecDepth 65536 in
theorem w_c5 : (Jvm.Cond.code ({ cls := "java/lang/Math", name := "min", desc := "(JJ)J" } : Jvm.MethodName) jdk_29_method_70_code (4 : Nat) (Option.some Jvm.ClassFile.FieldType.long)).before args0 about1 = true := code_word (m := ⟨3, 2⟩) (meth := k3m2) (c := k3c2) (by decide +kernel) rfl rfl rfl (by decide +kernel)
set_option maxRecDepth 65536 in
theorem w_c6 : (Jvm.Cond.code ({ cls := "java/lang/Math", name := "max", desc := "(JJ)J" } : Jvm.MethodName) jdk_29_method_66_code (4 : Nat) (Option.some Jvm.ClassFile.FieldType.long)).before args0 about1 = true := code_word (m := ⟨3, 1⟩) (meth := k3m1) (c := k3c1) (by decide +kernel) rfl rfl rfl (by decide +kernel)
set_option maxRecDepth 65536 in
theorem w_c7 : (Jvm.Cond.code ({ cls := "com/example/urania/urania/layered/KeyHeap", name := "isEmpty", desc := "()Z" } : Jvm.MethodName) prog_53_method_5_code (1 : Nat) (Option.some Jvm.ClassFile.FieldType.boolean)).before args0 about1 = true := code_word (m := ⟨2, 1⟩) (meth := k2m1) (c := k2c1) (by decide +kernel) rfl rfl rfl (by decide +kernel)
def codes1 : List Jvm.Cond := [Jvm.Cond.code x code maxLocals ret, Jvm.Cond.code ({ cls := "com/example/urania/urania/layered/KeyHeap", name := "<init>", desc := "()V" } : Jvm.MethodName) prog_53_method_1_code (1 : Nat) (Option.none : Option Jvm.ClassFile.FieldType), Jvm.Cond.code ({ cls := "java/lang/Object", name := "<init>", desc := "()V" } : Jvm.MethodName) object_method_1_code (1 : Nat) (Option.none : Option Jvm.ClassFile.FieldType), Jvm.Cond.code ({ cls := "com/example/urania/urania/layered/KeyHeap", name := "add", desc := "(J)V" } : Jvm.MethodName) prog_53_method_6_code (5 : Nat) (Option.none : Option Jvm.ClassFile.FieldType), Jvm.Cond.code ({ cls := "com/example/urania/urania/layered/KeyHeap", name := "poll", desc := "()J" } : Jvm.MethodName) prog_53_method_7_code (7 : Nat) (Option.some Jvm.ClassFile.FieldType.long), Jvm.Cond.code ({ cls := "java/lang/Math", name := "min", desc := "(JJ)J" } : Jvm.MethodName) jdk_29_method_70_code (4 : Nat) (Option.some Jvm.ClassFile.FieldType.long), Jvm.Cond.code ({ cls := "java/lang/Math", name := "max", desc := "(JJ)J" } : Jvm.MethodName) jdk_29_method_66_code (4 : Nat) (Option.some Jvm.ClassFile.FieldType.long), Jvm.Cond.code ({ cls := "com/example/urania/urania/layered/KeyHeap", name := "isEmpty", desc := "()Z" } : Jvm.MethodName) prog_53_method_5_code (1 : Nat) (Option.some Jvm.ClassFile.FieldType.boolean)]
set_option maxRecDepth 65536 in
theorem codes_eq : words1.filter isCode = codes1 := rfl
theorem w_codes : ∀ c ∈ words1.filter isCode, c.before args0 about1 = true := by
  rw [codes_eq]
  intro c hc
  simp only [codes1, List.mem_cons, List.not_mem_nil, or_false] at hc
  rcases hc with rfl | rfl | rfl | rfl | rfl | rfl | rfl | rfl
  · exact w_c0
  · exact w_c1
  · exact w_c2
  · exact w_c3
  · exact w_c4
  · exact w_c5
  · exact w_c6
  · exact w_c7
set_option maxRecDepth 65536 in
theorem w_t1 : (words1.take 24).all (fun c => isCode c || c.before args0 about1) = true := by decide +kernel
set_option maxRecDepth 65536 in
theorem w_t2 : (words1.drop 24).all (fun c => isCode c || c.before args0 about1) = true := by decide +kernel
theorem w_tables : (allAtoms (Jvm.Cond.code x code maxLocals ret :: tables_1)).before args0 about1 = true := by
  rw [allAtoms_all]
  show words1.all (fun c => c.before args0 about1) = true
  refine all_split ?_ w_codes
  rw [← List.take_append_drop 24 words1, List.all_append, w_t1, w_t2]
  rfl
set_option maxRecDepth 65536 in
theorem w_case : (Jvm.Cond.and given_1 narrow_1).before args0 about1 = true := by decide +kernel
theorem w_applies : (headSpec (Jvm.Cond.code x code maxLocals ret :: tables_1) room_1).applies x e0.platform about1 = true :=
  (Spec.applies_iff w_frames).mpr ⟨w_running, w_runnable, w_alone, w_named, w_hears, w_ripe, w_room, w_tables⟩
theorem atStart : AtStart classFile x code maxLocals ret World_1 tables_1 room_1 Calls_1 rest_1 Pre_1 launch0 p0 e0 about1 theMethod args0 below0 :=
  ⟨lists_1, trivial, launch0.admits_env _ _ _, launch0.least_env, fairChoices_fair.cas, fairChoices_fair.clock, w_frames, w_args, w_heap, w_applies, trivial, trivial, w_case⟩
end start1
theorem witness_1 : WitnessClaimed_1 := ⟨start1.p0, start1.e0, start1.about1, start1.theMethod, start1.args0, start1.below0, start1.atStart⟩
end Jvm.Pilot.@@N@@
