import JvmDerived
import JvmDerived.Pilot.@@N@@Statement
import JvmDerived.Pilot.@@N@@Code
set_option linter.unusedVariables false
set_option linter.unusedSimpArgs false
namespace Jvm.Pilot.@@N@@
open Jvm Jvm.ClassFile Sem Op Lib Jvm.Free Jvm.Stand Jvm.LawKit Jvm.RoadKit Bundle Jvm.Pilot.@@N@@.Jvm.D

theorem own_w {Z : State} {a0 : Array Value} (hw : ∀ d ∈ tables_1, d.before a0 Z = true) (i : Nat) {d : Jvm.Cond} (h : tables_1[i]? = some d) : d.before a0 Z = true := hw d (List.mem_of_getElem? h)
def own_Fin (p : Program) (e : Env) (below : List Frame) (G : Outcome → State → Prop) (st : State) : Prop := ∃ t o, Steps p.tables e below st t ∧ t.status = .running ∧ Ended t below o ∧ G o t
section OwnKit
variable {p : Program} {l : Launch} {e : Env} {R : Room} {s : State} {m : MethodId} {args : Array Value} {below : List Frame} {meth : Method} {c : Code} {T : State} {locs : List Loc} {cells slots : Nat} {Z : State} {a0 : Array Value} {h h' : Heap} {G : Outcome → State → Prop} {st st' : State} {Qk : Option Value → Heap → List Loc → Prop} {K N : Nat} {a b : Addr} {ty : FieldType} {vs : List Value} {ws : List Addr} {sl : Nat} {v : Value}
theorem own_st (k : ∀ target, Steps p.tables e below st' target → Steps p.tables e below st target) (q : own_Fin p e below G st') : own_Fin p e below G st := by
  obtain ⟨t, o, h1, h2⟩ := q; exact ⟨t, o, k t h1, h2⟩
theorem own_tr (k : Steps p.tables e below st st') (q : own_Fin p e below G st') : own_Fin p e below G st := by
  obtain ⟨t, o, h1, h2⟩ := q; exact ⟨t, o, k.trans h1, h2⟩
theorem own_start (q : ∀ G : Outcome → State → Prop, (∀ v L t, Qk v t.heap L → FrameEnd s (.returned v) t L K N → G (.returned v) t) → own_Fin p e below G st) : ∃ s₂ o, Steps p.tables e below st s₂ ∧ s₂.status = .running ∧ Ended s₂ below o ∧ ∃ v L, o = .returned v ∧ Qk v s₂.heap L ∧ FrameEnd s o s₂ L K N :=
  q _ (fun v L t q f => ⟨v, L, rfl, q, f⟩)
theorem own_out (X : Stand p l e R s m args below meth c T locs cells slots) (hlocks : meth.locks = false) {v : Option Value} (hv : meth.sig.returnType = none → v = none) (hG : ∀ v L t, Qk v t.heap L → FrameEnd s (.returned v) t L K N → G (.returned v) t)
    (hstep : ∀ fs, (∀ (f : JFrame) (acts : List Action), f.method = m → f.locked = none → f.entered = [] → (doReturn e (T.setTop f) acts v).1 = T.setFrames fs) → Steps p.tables e below st (T.setFrames fs)) (hc : cells ≤ K) (hn : slots ≤ N) (hQ : Qk v T.heap locs) : own_Fin p e below G st := by
  obtain ⟨fs, hr, hrun, hended, hW, hsame⟩ := X.leave hv hlocks
  exact ⟨_, _, hstep fs hr, hrun, hended, hG _ _ _ hQ ⟨⟨_, rfl⟩, hW, hsame.mono hc hn⟩⟩
theorem own_ldc (X : Stand p l e R s m args below meth c T locs cells slots) (hx : p.tables.exec = Jvm.exec) (hZ : Z.Warmed39 s.vm) {own : String} {index : Nat} {v : Int32} (hown : s.vm.findClass own = some m.cls) (w : (Cond.constant own index v).before a0 Z = true) {g : JFrame} (hg : g.method = m) (hd : decode c.code g.pc = .ok (.ldc index, 2)) {target : State}
    (kk : Steps p.tables e below (T.setTop { g with pc := g.pc + 2, stack := .int v :: g.stack }) target) : Steps p.tables e below (T.setTop g) target := X.ldcInt hx hown (mvT hZ w) hg hd target kk
theorem own_ldcJ (X : Stand p l e R s m args below meth c T locs cells slots) (hx : p.tables.exec = Jvm.exec) (hZ : Z.Warmed39 s.vm) {own : String} {index : Nat} {v : Int64} (hown : s.vm.findClass own = some m.cls) (w : (Cond.constantLong own index v).before a0 Z = true) {g : JFrame} (hg : g.method = m) (hd : decode c.code g.pc = .ok (.ldc2_w index, 3)) {target : State}
    (kk : Steps p.tables e below (T.setTop { g with pc := g.pc + 3, stack := .long v :: g.stack }) target) : Steps p.tables e below (T.setTop g) target := X.ldc2Long hx hown (mvT hZ w) hg hd target kk
theorem own_ldcF (X : Stand p l e R s m args below meth c T locs cells slots) (hx : p.tables.exec = Jvm.exec) (hZ : Z.Warmed39 s.vm) {own : String} {index : Nat} {v : UInt32} (hown : s.vm.findClass own = some m.cls) (w : (Cond.constantFloat own index v).before a0 Z = true) {g : JFrame} (hg : g.method = m) (hd : decode c.code g.pc = .ok (.ldc index, 2)) {target : State}
    (kk : Steps p.tables e below (T.setTop { g with pc := g.pc + 2, stack := .float v :: g.stack }) target) : Steps p.tables e below (T.setTop g) target := X.ldcFloatC hx hown (mvT hZ w) hg hd target kk
def own_AV (Z : State) (h : Heap) (a : Addr) (ty : FieldType) (vs : List Value) : Prop := ∃ c : Cell, Arr Z h a c ty ∧ c.slots.toList = vs
def own_is (xs : List Int32) : List Value := xs.map Value.int
def own_js (xs : List Int64) : List Value := xs.map Value.long
theorem own_AV.lt (A : own_AV Z h a ty vs) : a < h.size := by obtain ⟨c, A, -⟩ := A; exact A.lt
theorem own_AV.ext (A : own_AV Z h a ty vs) (E : Ext h h') : own_AV Z h' a ty vs := by obtain ⟨c, A, r⟩ := A; exact ⟨c, A.ext E, r⟩
theorem own_AV.other (A : own_AV Z h b ty vs) (W : Wr h h' a sl v) (q : b ≠ a) : own_AV Z h' b ty vs := by obtain ⟨c, A, r⟩ := A; exact ⟨c, A.other W q, r⟩
theorem own_AV.keep (A : own_AV Z h a ty vs) (K : Keep h h' ws) (q : a ∉ ws) : own_AV Z h' a ty vs := by obtain ⟨c, A, r⟩ := A; exact ⟨c, ⟨K.2.1 a c A.1 q, A.2⟩, r⟩
theorem own_AV_new {k : ClassId} {z : Int32} (A : Arr Z h a (newA k ty z) ty) : own_AV Z h a ty (List.replicate z.toNatClampNeg (defaultValue ty)) := ⟨_, A, by simp [newA]⟩
theorem own_AV_newI {k : ClassId} {z : Int32} (A : Arr Z h a (newA k .int z) .int) : own_AV Z h a .int (own_is (List.replicate z.toNatClampNeg 0)) := ⟨_, A, by simp [newA, own_is, defaultValue]⟩
theorem own_AV_newJ {k : ClassId} {z : Int32} (A : Arr Z h a (newA k .long z) .long) : own_AV Z h a .long (own_js (List.replicate z.toNatClampNeg 0)) := ⟨_, A, by simp [newA, own_js, defaultValue]⟩
theorem own_in {c : Cell} {n : Nat} {j : Int32} (r : c.slots.toList = vs) (hn : vs.length = n) (hj : ¬ (j < 0 ∨ n ≤ j.toNatClampNeg)) : ¬ (j < 0 ∨ c.slots.size ≤ j.toNatClampNeg) := by
  rw [← Array.length_toList, r, hn]; exact hj
theorem own_nat {n : Nat} {j : Int32} (hj : ¬ (j < 0 ∨ n ≤ j.toNatClampNeg)) : j.toNatClampNeg < n := Nat.lt_of_not_le fun q => hj (Or.inr q)
theorem own_ldI (X : Stand p l e R s m args below meth c T locs cells slots) (hx : p.tables.exec = Jvm.exec) (hZ : Z.Warmed39 s.vm) (eT : T.heap = h) {xs : List Int32} (A : own_AV Z h a .int (own_is xs)) {j : Int32} {n : Nat} (hn : xs.length = n) (hj : ¬ (j < 0 ∨ n ≤ j.toNatClampNeg))
    {g : JFrame} (hg : g.method = m) {rest : List Value} (hs : g.stack = .int j :: .ref a :: rest) (hd : decode c.code g.pc = .ok (.iaload, 1)) {target : State} (kk : Steps p.tables e below (T.setTop { g with pc := g.pc + 1, stack := .int (xs.getD j.toNatClampNeg 0) :: rest }) target) : Steps p.tables e below (T.setTop g) target := by
  obtain ⟨cl, A, r⟩ := A
  have hlt := own_nat hj
  refine X.iaload hx (by rw [eT]; exact A.1) (State.isArrayOf_alike hZ.alike A.2.1) A.2.2 (own_in r (by simp [own_is, hn]) hj) ?_ hg hs hd _ kk
  rw [← Array.getElem?_toList, r]
  simp [own_is, List.getD_eq_getElem?_getD, List.getElem?_eq_getElem (hn ▸ hlt)]
theorem own_ldJ (X : Stand p l e R s m args below meth c T locs cells slots) (hx : p.tables.exec = Jvm.exec) (hZ : Z.Warmed39 s.vm) (eT : T.heap = h) {xs : List Int64} (A : own_AV Z h a .long (own_js xs)) {j : Int32} {n : Nat} (hn : xs.length = n) (hj : ¬ (j < 0 ∨ n ≤ j.toNatClampNeg))
    {g : JFrame} (hg : g.method = m) {rest : List Value} (hs : g.stack = .int j :: .ref a :: rest) (hd : decode c.code g.pc = .ok (.laload, 1)) {target : State} (kk : Steps p.tables e below (T.setTop { g with pc := g.pc + 1, stack := .long (xs.getD j.toNatClampNeg 0) :: rest }) target) : Steps p.tables e below (T.setTop g) target := by
  obtain ⟨cl, A, r⟩ := A
  have hlt := own_nat hj
  refine X.laload hx (by rw [eT]; exact A.1) (State.isArrayOf_alike hZ.alike A.2.1) A.2.2 (own_in r (by simp [own_js, hn]) hj) ?_ hg hs hd _ kk
  rw [← Array.getElem?_toList, r]
  simp [own_js, List.getD_eq_getElem?_getD, List.getElem?_eq_getElem (hn ▸ hlt)]
theorem own_set {cl : Cell} {j : Nat} (A : Arr Z h a cl ty) (r : cl.slots.toList = vs) (W : Wr h h' a j v) : own_AV Z h' a ty (vs.set j v) := ⟨_, A.same W, by simp [Cell.setSlot, ← r]⟩
theorem own_stI (X : Stand p l e R s m args below meth c T locs cells slots) (hx : p.tables.exec = Jvm.exec) (hZ : Z.Warmed39 s.vm) (eT : T.heap = h) {xs : List Int32} (A : own_AV Z h a .int (own_is xs)) {j x : Int32} {n : Nat} (hn : xs.length = n) (hj : ¬ (j < 0 ∨ n ≤ j.toNatClampNeg))
    {g : JFrame} (hg : g.method = m) {rest : List Value} (hs : g.stack = .int x :: .int j :: .ref a :: rest) (hd : decode c.code g.pc = .ok (.iastore, 1)) :
    ∃ T' h', Stand p l e R s m args below meth c T' (locs ++ [⟨a, j.toNatClampNeg⟩]) cells slots ∧ T'.heap = h' ∧ Wr h h' a j.toNatClampNeg (.int x) ∧ own_AV Z h' a .int (own_is (xs.set j.toNatClampNeg x)) ∧ ∀ target, Steps p.tables e below (T'.setTop { g with pc := g.pc + 1, stack := rest }) target → Steps p.tables e below (T.setTop g) target := by
  obtain ⟨cl, A, r⟩ := A
  obtain ⟨T', h', X', e', W, st⟩ := stI X hx hZ eT A (own_in r (by simp [own_is, hn]) hj) hg hs hd
  exact ⟨T', h', X', e', W, by have q := own_set A r W; simpa [own_is, List.map_set] using q, st⟩
theorem own_stJ (X : Stand p l e R s m args below meth c T locs cells slots) (hx : p.tables.exec = Jvm.exec) (hZ : Z.Warmed39 s.vm) (eT : T.heap = h) {xs : List Int64} (A : own_AV Z h a .long (own_js xs)) {j : Int32} {x : Int64} {n : Nat} (hn : xs.length = n) (hj : ¬ (j < 0 ∨ n ≤ j.toNatClampNeg))
    {g : JFrame} (hg : g.method = m) {rest : List Value} (hs : g.stack = .long x :: .int j :: .ref a :: rest) (hd : decode c.code g.pc = .ok (.lastore, 1)) :
    ∃ T' h', Stand p l e R s m args below meth c T' (locs ++ [⟨a, j.toNatClampNeg⟩]) cells slots ∧ T'.heap = h' ∧ Wr h h' a j.toNatClampNeg (.long x) ∧ own_AV Z h' a .long (own_js (xs.set j.toNatClampNeg x)) ∧ ∀ target, Steps p.tables e below (T'.setTop { g with pc := g.pc + 1, stack := rest }) target → Steps p.tables e below (T.setTop g) target := by
  obtain ⟨cl, A, r⟩ := A
  obtain ⟨T', h', X', e', W, st⟩ := stJ X hx hZ eT A (own_in r (by simp [own_js, hn]) hj) hg hs hd
  exact ⟨T', h', X', e', W, by have q := own_set A r W; simpa [own_js, List.map_set] using q, st⟩
theorem own_len (X : Stand p l e R s m args below meth c T locs cells slots) (hx : p.tables.exec = Jvm.exec) (hZ : Z.Warmed39 s.vm) (eT : T.heap = h) (A : own_AV Z h a ty vs) {z : Int32} (hz : vs.length.toInt32 = z)
    {g : JFrame} (hg : g.method = m) {rest : List Value} (hs : g.stack = .ref a :: rest) (hd : decode c.code g.pc = .ok (.arraylength, 1)) {target : State} (kk : Steps p.tables e below (T.setTop { g with pc := g.pc + 1, stack := .int z :: rest }) target) : Steps p.tables e below (T.setTop g) target := by
  obtain ⟨cl, A, r⟩ := A
  refine X.arraylength hx (by rw [eT]; exact A.1) (State.isArrayOf_alike hZ.alike A.2.1) hg hs hd target ?_
  rw [← Array.length_toList, r, hz]; exact kk
def own_ds (xs : List UInt64) : List Value := xs.map Value.double
theorem own_AV_newD {k : ClassId} {z : Int32} (A : Arr Z h a (newA k .double z) .double) : own_AV Z h a .double (own_ds (List.replicate z.toNatClampNeg 0)) := ⟨_, A, by simp [newA, own_ds, defaultValue]⟩
theorem own_stD (X : Stand p l e R s m args below meth c T locs cells slots) (hx : p.tables.exec = Jvm.exec) (hZ : Z.Warmed39 s.vm) (eT : T.heap = h) {xs : List UInt64} (A : own_AV Z h a .double (own_ds xs)) {j : Int32} {x : UInt64} {n : Nat} (hn : xs.length = n) (hj : ¬ (j < 0 ∨ n ≤ j.toNatClampNeg))
    {g : JFrame} (hg : g.method = m) {rest : List Value} (hs : g.stack = .double x :: .int j :: .ref a :: rest) (hd : decode c.code g.pc = .ok (.dastore, 1)) :
    ∃ T' h', Stand p l e R s m args below meth c T' (locs ++ [⟨a, j.toNatClampNeg⟩]) cells slots ∧ T'.heap = h' ∧ Wr h h' a j.toNatClampNeg (.double x) ∧ own_AV Z h' a .double (own_ds (xs.set j.toNatClampNeg x)) ∧ ∀ target, Steps p.tables e below (T'.setTop { g with pc := g.pc + 1, stack := rest }) target → Steps p.tables e below (T.setTop g) target := by
  obtain ⟨cl, A, r⟩ := A
  obtain ⟨T', h', X', e', W, st⟩ := stD X hx hZ eT A (own_in r (by simp [own_ds, hn]) hj) hg hs hd
  exact ⟨T', h', X', e', W, by have q := own_set A r W; simpa [own_ds, List.map_set] using q, st⟩
theorem own_ldD (X : Stand p l e R s m args below meth c T locs cells slots) (hx : p.tables.exec = Jvm.exec) (hZ : Z.Warmed39 s.vm) (eT : T.heap = h) {xs : List UInt64} (A : own_AV Z h a .double (own_ds xs)) {j : Int32} {n : Nat} (hn : xs.length = n) (hj : ¬ (j < 0 ∨ n ≤ j.toNatClampNeg))
    {g : JFrame} (hg : g.method = m) {rest : List Value} (hs : g.stack = .int j :: .ref a :: rest) (hd : decode c.code g.pc = .ok (.daload, 1)) {target : State} (kk : Steps p.tables e below (T.setTop { g with pc := g.pc + 1, stack := .double (xs.getD j.toNatClampNeg 0) :: rest }) target) : Steps p.tables e below (T.setTop g) target := by
  obtain ⟨cl, A, r⟩ := A
  have hlt := own_nat hj
  refine X.daload hx (by rw [eT]; exact A.1) (State.isArrayOf_alike hZ.alike A.2.1) A.2.2 (own_in r (by simp [own_ds, hn]) hj) ?_ hg hs hd _ kk
  rw [← Array.getElem?_toList, r]
  simp [own_ds, List.getD_eq_getElem?_getD, List.getElem?_eq_getElem (hn ▸ hlt)]
def own_AVk (Z : State) (h : Heap) (a : Addr) (k : ClassId) (ty : FieldType) (vs : List Value) : Prop := ∃ c : Cell, Arr Z h a c ty ∧ c.cls = k ∧ c.slots.toList = vs
variable {k : ClassId}
theorem own_AVk.lt (A : own_AVk Z h a k ty vs) : a < h.size := by obtain ⟨c, A, -⟩ := A; exact A.lt
theorem own_AVk.ext (A : own_AVk Z h a k ty vs) (E : Ext h h') : own_AVk Z h' a k ty vs := by obtain ⟨c, A, r⟩ := A; exact ⟨c, A.ext E, r⟩
theorem own_AVk.other (A : own_AVk Z h b k ty vs) (W : Wr h h' a sl v) (q : b ≠ a) : own_AVk Z h' b k ty vs := by obtain ⟨c, A, r⟩ := A; exact ⟨c, A.other W q, r⟩
theorem own_AVk.keep (A : own_AVk Z h a k ty vs) (K : Keep h h' ws) (q : a ∉ ws) : own_AVk Z h' a k ty vs := by obtain ⟨c, A, r⟩ := A; exact ⟨c, ⟨K.2.1 a c A.1 q, A.2⟩, r⟩
theorem own_AVk.av (A : own_AVk Z h a k ty vs) : own_AV Z h a ty vs := by obtain ⟨c, A, -, r⟩ := A; exact ⟨c, A, r⟩
theorem own_AVk_new {z : Int32} (A : Arr Z h a (newA k ty z) ty) : own_AVk Z h a k ty (List.replicate z.toNatClampNeg (defaultValue ty)) := ⟨_, A, rfl, by simp [newA]⟩
theorem own_stR (X : Stand p l e R s m args below meth c T locs cells slots) (hx : p.tables.exec = Jvm.exec) (hZ : Z.Warmed39 s.vm) (eT : T.heap = h) (A : own_AVk Z h a k ty vs) {j : Int32} {n : Nat} (hn : vs.length = n) (hj : ¬ (j < 0 ∨ n ≤ j.toNatClampNeg)) (hty : ty.isReference = true)
    (F : ∀ {c : Cell}, Arr Z h a c ty → c.cls = k → Sto Z h a v) {g : JFrame} (hg : g.method = m) {rest : List Value} (hs : g.stack = v :: .int j :: .ref a :: rest) (hd : decode c.code g.pc = .ok (.aastore, 1)) :
    ∃ T' h', Stand p l e R s m args below meth c T' (locs ++ [⟨a, j.toNatClampNeg⟩]) cells slots ∧ T'.heap = h' ∧ Wr h h' a j.toNatClampNeg v ∧ own_AVk Z h' a k ty (vs.set j.toNatClampNeg v) ∧ ∀ target, Steps p.tables e below (T'.setTop { g with pc := g.pc + 1, stack := rest }) target → Steps p.tables e below (T.setTop g) target := by
  obtain ⟨cl, A, q, r⟩ := A
  obtain ⟨T', h', X', e', W, st⟩ := stR X hx hZ eT A (own_in r hn hj) hty (F A q) hg hs hd
  exact ⟨T', h', X', e', W, ⟨_, A.same W, q, by simp [Cell.setSlot, ← r]⟩, st⟩
theorem own_ldR (X : Stand p l e R s m args below meth c T locs cells slots) (hx : p.tables.exec = Jvm.exec) (hZ : Z.Warmed39 s.vm) (eT : T.heap = h) (A : own_AVk Z h a k ty vs) {j : Int32} {n : Nat} (hn : vs.length = n) (hj : ¬ (j < 0 ∨ n ≤ j.toNatClampNeg)) (hty : ty.isReference = true) (hv : vs[j.toNatClampNeg]? = some v)
    {g : JFrame} (hg : g.method = m) {rest : List Value} (hs : g.stack = .int j :: .ref a :: rest) (hd : decode c.code g.pc = .ok (.aaload, 1)) {target : State} (kk : Steps p.tables e below (T.setTop { g with pc := g.pc + 1, stack := v :: rest }) target) : Steps p.tables e below (T.setTop g) target := by
  obtain ⟨cl, A, -, r⟩ := A
  exact X.aaload hx (by rw [eT]; exact A.1) (State.isArrayOf_alike hZ.alike A.2.1) hty A.2.2 (own_in r hn hj) (by rw [← Array.getElem?_toList, r]; exact hv) hg hs hd _ kk
theorem own_ldB (X : Stand p l e R s m args below meth c T locs cells slots) (hx : p.tables.exec = Jvm.exec) (hZ : Z.Warmed39 s.vm) (eT : T.heap = h) {xs : List Int32} (A : own_AV Z h a .byte (own_is xs)) {j : Int32} {n : Nat} (hn : xs.length = n) (hj : ¬ (j < 0 ∨ n ≤ j.toNatClampNeg))
    {g : JFrame} (hg : g.method = m) {rest : List Value} (hs : g.stack = .int j :: .ref a :: rest) (hd : decode c.code g.pc = .ok (.baload, 1)) {target : State} (kk : Steps p.tables e below (T.setTop { g with pc := g.pc + 1, stack := .int (xs.getD j.toNatClampNeg 0) :: rest }) target) : Steps p.tables e below (T.setTop g) target := by
  obtain ⟨cl, A, r⟩ := A
  have hlt := own_nat hj
  refine X.baloadBytes hx (by rw [eT]; exact A.1) (State.isArrayOf_alike hZ.alike A.2.1) A.2.2 (own_in r (by simp [own_is, hn]) hj) ?_ hg hs hd _ kk
  rw [← Array.getElem?_toList, r]
  simp [own_is, List.getD_eq_getElem?_getD, List.getElem?_eq_getElem (hn ▸ hlt)]
theorem own_eqI {args : Array Value} {s : State} {t : Term} {n : Int32} (q : (Jvm.Cond.eq t (Term.int n)).value args s none s [] = some true) : t.eval args s none [] s = some (.int n) := by
  obtain ⟨x, y, h1, h2, h3, h4⟩ := cmp_v (Or.inl q)
  cases h2.symm.trans (Term.int_eval n)
  obtain ⟨z, rfl⟩ := h4
  simp only [Cond.value, h1, h2] at q
  simpa [h1] using q
theorem own_AV.cell (A : own_AV Z h a ty vs) : ∃ c : Cell, h[a]? = some c ∧ ∀ q, c.vm ≠ .statics q := by obtain ⟨c, A, -⟩ := A; exact ⟨c, A.1, A.2.1.1⟩
theorem own_AVk.cell (A : own_AVk Z h a k ty vs) : ∃ c : Cell, h[a]? = some c ∧ ∀ q, c.vm ≠ .statics q := A.av.cell
theorem own_Sta_keep {C n d : String} {v : Value} (F : Sta Z h C n d v) (K : Keep h h' ws) (q : ∀ x ∈ ws, ∃ c : Cell, h[x]? = some c ∧ ∀ q, c.vm ≠ .statics q) : Sta Z h' C n d v := by
  obtain ⟨cf, i, k, f, st, cell, h1, h2, h3, h4, h5, h6, h7⟩ := F
  refine ⟨cf, i, k, f, st, cell, h1, h2, h3, h4, K.2.1 st cell h5 fun m => ?_, h6, h7⟩
  obtain ⟨c', g1, g2⟩ := q st m
  cases h5.symm.trans g1
  cases hv : cell.vm <;> first | exact g2 _ hv | (rw [hv] at h6; cases h6)
end OwnKit
abbrev own_y0 : MethodName := ⟨"com/example/urania/urania/layered/UnionFindRootPinLaw", "swap", "([III)V"⟩
abbrev own_y1 : MethodName := ⟨"com/example/urania/urania/layered/UnionFind", "root", "([II)I"⟩
abbrev own_y2 : MethodName := ⟨"com/example/urania/urania/layered/UnionFindRootPinLaw", "check", "([I[IIIIIII)Z"⟩

def own_R (n : Int) (x : Int32) : Prop := 0 ≤ x.toInt ∧ x.toInt < n
def own_i (f : Fin 4) : Int32 := Int32.ofNat f.val
theorem own_fin {x : Int32} (h : own_R 4 x) : ∃ f : Fin 4, x = own_i f := by
  have q : x.toInt = 0 ∨ x.toInt = 1 ∨ x.toInt = 2 ∨ x.toInt = 3 := by unfold own_R at h; omega
  rcases q with q | q | q | q
  · exact ⟨0, Int32.toInt_inj.mp (q.trans rfl)⟩
  · exact ⟨1, Int32.toInt_inj.mp (q.trans rfl)⟩
  · exact ⟨2, Int32.toInt_inj.mp (q.trans rfl)⟩
  · exact ⟨3, Int32.toInt_inj.mp (q.trans rfl)⟩
theorem own_rw {n : Int} {x : Int32} (h : own_R n x) (hn : n ≤ 4) : own_R 4 x := ⟨h.1, by have := h.2; omega⟩
theorem own_inb {j : Int32} (h : own_R 4 j) : ¬ (j < 0 ∨ 4 ≤ j.toNatClampNeg) := by
  have e1 : j.toNatClampNeg = j.toInt.toNat := rfl
  have e2 : (0 : Int32).toInt = 0 := rfl
  rw [Int32.lt_iff_toInt_lt, e1, e2]
  unfold own_R at h
  omega
theorem own_m (x d : Int32) (n : Int) (hd : d.toInt = n) (hn : 0 < n) : own_R n ((x &&& 2147483647) % d) := by
  have e1 := c_mask x 2147483647 31 (by decide) (by decide)
  have q1 : 0 ≤ (x &&& 2147483647).toInt := by rw [e1]; omega
  have e2 := (c_irem (x &&& 2147483647) d n hd).1 q1
  unfold own_R
  rw [e2]
  exact ⟨Int.emod_nonneg _ (by omega), Int.emod_lt_of_pos _ hn⟩
theorem own_d6 {k : Int32} (h : own_R 24 k) : own_R 4 (k / 6) := by
  have e := (c_idiv k 6 6 rfl (by decide)).1 h.1
  unfold own_R at h ⊢
  rw [e]; omega
theorem own_d2 {k : Int32} (h : own_R 24 k) : own_R 3 ((k % 6) / 2) := by
  have e := (c_irem k 6 6 rfl).1 h.1
  have e2 := (c_idiv (k % 6) 2 2 rfl (by decide)).1 (by rw [e]; omega)
  unfold own_R at h ⊢
  rw [e2, e]; omega
theorem own_m2 {k : Int32} (h : own_R 24 k) : own_R 2 (k % 2) := by
  have e := (c_irem k 2 2 rfl).1 h.1
  unfold own_R at h ⊢
  rw [e]; omega
theorem own_p (c a : Int32) (n b : Int) (ha : a.toInt = b) (hb : 0 ≤ b) (h : own_R n c) (hn : n + b ≤ 4) : own_R 4 (a + c) := by
  have e := c_iadd a c
  have r := rng32 (a + c)
  unfold own_R at h ⊢
  omega
theorem own_a3 (x : Int32) : own_R 4 (x &&& 3) := by
  have e := c_and x 3 (by decide)
  have a : (3 : Int32).toInt = 3 := rfl
  unfold own_R
  omega
def own_g (p0 p1 p2 p3 x : Int32) : Int32 := [p0, p1, p2, p3].getD x.toNatClampNeg 0
def own_swap (xs : List Int32) (i j : Int32) : List Int32 := (xs.set i.toNatClampNeg (xs.getD j.toNatClampNeg 0)).set j.toNatClampNeg (xs.getD i.toNatClampNeg 0)
theorem own_swap_len (xs : List Int32) (i j : Int32) : (own_swap xs i j).length = xs.length := by simp [own_swap]
def own_r (x : Int32) : Bool := x == 0 || x == 1 || x == 2 || x == 3
def own_perm (a b c d : Int32) : Bool := own_r a && own_r b && own_r c && own_r d && a != b && a != c && a != d && b != c && b != d && c != d
def own_for (a b c d : Int32) : Bool := own_r a && own_r b && own_r c && own_r d && [(0 : Int32), 1, 2, 3].all fun x => own_g a b c d (own_g a b c d (own_g a b c d (own_g a b c d x))) == own_g a b c d (own_g a b c d (own_g a b c d x))
theorem own_r_of {x : Int32} (h : own_r x = true) : own_R 4 x := by
  simp only [own_r, Bool.or_eq_true, beq_iff_eq] at h
  rcases h with ((rfl | rfl) | rfl) | rfl <;> exact ⟨by decide, by decide⟩
theorem own_r_to {x : Int32} (h : own_R 4 x) : own_r x = true := by
  obtain ⟨f, rfl⟩ := own_fin h
  exact (by decide : ∀ f : Fin 4, own_r (own_i f) = true) f
def own_pl : List Int32 → Bool
  | [x0, x1, x2, x3] => own_perm x0 x1 x2 x3
  | _ => false
def own_fl : List Int32 → Bool
  | [x0, x1, x2, x3] => own_for x0 x1 x2 x3
  | _ => false
theorem own_pl_of : ∀ {l : List Int32}, own_pl l = true → ∃ x0 x1 x2 x3, l = [x0, x1, x2, x3] ∧ own_perm x0 x1 x2 x3 = true
  | [x0, x1, x2, x3], h => ⟨x0, x1, x2, x3, rfl, h⟩
  | [], h => by cases h
  | [_], h => by cases h
  | [_, _], h => by cases h
  | [_, _, _], h => by cases h
  | _ :: _ :: _ :: _ :: _ :: _, h => by cases h
theorem own_fl_of : ∀ {l : List Int32}, own_fl l = true → ∃ x0 x1 x2 x3, l = [x0, x1, x2, x3] ∧ own_for x0 x1 x2 x3 = true
  | [x0, x1, x2, x3], h => ⟨x0, x1, x2, x3, rfl, h⟩
  | [], h => by cases h
  | [_], h => by cases h
  | [_, _], h => by cases h
  | [_, _, _], h => by cases h
  | _ :: _ :: _ :: _ :: _ :: _, h => by cases h
theorem own_L0 : ∀ (a : Fin 4) (b : Fin 3) (c : Fin 2), own_pl (own_swap (own_swap (own_swap [0, 1, 2, 3] 0 (own_i a)) 1 (1 + own_i (b.castLE (by decide)))) 2 (2 + own_i (c.castLE (by decide)))) = true := by decide +kernel
theorem own_fin3 {x : Int32} (h : own_R 3 x) : ∃ f : Fin 3, x = own_i (f.castLE (by decide)) := by
  have q : x.toInt = 0 ∨ x.toInt = 1 ∨ x.toInt = 2 := by unfold own_R at h; omega
  rcases q with q | q | q
  · exact ⟨0, Int32.toInt_inj.mp (q.trans rfl)⟩
  · exact ⟨1, Int32.toInt_inj.mp (q.trans rfl)⟩
  · exact ⟨2, Int32.toInt_inj.mp (q.trans rfl)⟩
theorem own_fin2 {x : Int32} (h : own_R 2 x) : ∃ f : Fin 2, x = own_i (f.castLE (by decide)) := by
  have q : x.toInt = 0 ∨ x.toInt = 1 := by unfold own_R at h; omega
  rcases q with q | q
  · exact ⟨0, Int32.toInt_inj.mp (q.trans rfl)⟩
  · exact ⟨1, Int32.toInt_inj.mp (q.trans rfl)⟩
theorem own_L {a b c : Int32} (ha : own_R 4 a) (hb : own_R 3 b) (hc : own_R 2 c) : ∃ x0 x1 x2 x3, own_swap (own_swap (own_swap [0, 1, 2, 3] 0 a) 1 (1 + b)) 2 (2 + c) = [x0, x1, x2, x3] ∧ own_perm x0 x1 x2 x3 = true := by
  obtain ⟨f, rfl⟩ := own_fin ha
  obtain ⟨g, rfl⟩ := own_fin3 hb
  obtain ⟨k, rfl⟩ := own_fin2 hc
  exact own_pl_of (own_L0 f g k)
theorem own_perm_r {a b c d : Int32} (h : own_perm a b c d = true) : own_R 4 a ∧ own_R 4 b ∧ own_R 4 c ∧ own_R 4 d := by
  simp only [own_perm, Bool.and_eq_true] at h
  obtain ⟨⟨⟨⟨⟨⟨⟨⟨⟨h1, h2⟩, h3⟩, h4⟩, -⟩, -⟩, -⟩, -⟩, -⟩, -⟩ := h
  exact ⟨own_r_of h1, own_r_of h2, own_r_of h3, own_r_of h4⟩
theorem own_for_r {a b c d : Int32} (h : own_for a b c d = true) : own_R 4 a ∧ own_R 4 b ∧ own_R 4 c ∧ own_R 4 d := by
  simp only [own_for, Bool.and_eq_true] at h
  obtain ⟨⟨⟨⟨h1, h2⟩, h3⟩, h4⟩, -⟩ := h
  exact ⟨own_r_of h1, own_r_of h2, own_r_of h3, own_r_of h4⟩
theorem own_G0 : ∀ a b c d n : Fin 4, own_r (own_g (own_i a) (own_i b) (own_i c) (own_i d) (own_i n)) = true := by decide +kernel
theorem own_gR {a b c d n : Int32} (ha : own_R 4 a) (hb : own_R 4 b) (hc : own_R 4 c) (hd : own_R 4 d) (hn : own_R 4 n) : own_R 4 ([a, b, c, d].getD n.toNatClampNeg 0) := by
  obtain ⟨a, rfl⟩ := own_fin ha
  obtain ⟨b, rfl⟩ := own_fin hb
  obtain ⟨c, rfl⟩ := own_fin hc
  obtain ⟨d, rfl⟩ := own_fin hd
  obtain ⟨n, rfl⟩ := own_fin hn
  exact own_r_of (own_G0 a b c d n)
theorem own_gF {a b c d n : Int32} (h : own_for a b c d = true) (hn : own_R 4 n) : own_R 4 ([a, b, c, d].getD n.toNatClampNeg 0) := by
  obtain ⟨h1, h2, h3, h4⟩ := own_for_r h
  exact own_gR h1 h2 h3 h4 hn
def own_mk (x0 x1 x2 x3 q1 q2 q3 : Int32) : List Int32 := ((([(0 : Int32), 0, 0, 0].set x0.toNatClampNeg x0).set x1.toNatClampNeg ([x0, x1, x2, x3].getD q1.toNatClampNeg 0)).set x2.toNatClampNeg ([x0, x1, x2, x3].getD q2.toNatClampNeg 0)).set x3.toNatClampNeg ([x0, x1, x2, x3].getD q3.toNatClampNeg 0)
theorem own_P0 : ∀ (a b c d : Fin 4), own_perm (own_i a) (own_i b) (own_i c) (own_i d) = true → ∀ (e : Fin 2) (f : Fin 3) (g : Fin 4), own_fl (own_mk (own_i a) (own_i b) (own_i c) (own_i d) (own_i (e.castLE (by decide))) (own_i (f.castLE (by decide))) (own_i g)) = true := by decide +kernel
theorem own_P {x0 x1 x2 x3 q1 q2 q3 : Int32} (h : own_perm x0 x1 x2 x3 = true) (h1 : own_R 2 q1) (h2 : own_R 3 q2) (h3 : own_R 4 q3) : ∃ p0 p1 p2 p3, own_mk x0 x1 x2 x3 q1 q2 q3 = [p0, p1, p2, p3] ∧ own_for p0 p1 p2 p3 = true := by
  obtain ⟨r1, r2, r3, r4⟩ := own_perm_r h
  obtain ⟨a, rfl⟩ := own_fin r1
  obtain ⟨b, rfl⟩ := own_fin r2
  obtain ⟨c, rfl⟩ := own_fin r3
  obtain ⟨d, rfl⟩ := own_fin r4
  obtain ⟨e, rfl⟩ := own_fin2 h1
  obtain ⟨f, rfl⟩ := own_fin3 h2
  obtain ⟨g, rfl⟩ := own_fin h3
  exact own_fl_of (own_P0 a b c d h e f g)
def own_check (xs : List Int32) (q : List Int32) (x x0 x1 x2 x3 r : Int32) : Int32 := if x = x0 then (if xs.getD x.toNatClampNeg 0 = r then 1 else 0) else if x = x1 then (if xs.getD x.toNatClampNeg 0 = r then 1 else 0) else if x = x2 then (if xs.getD x.toNatClampNeg 0 = r then 1 else 0) else if x = x3 then (if xs.getD x.toNatClampNeg 0 = r then 1 else 0) else (if xs.getD x.toNatClampNeg 0 = q.getD x.toNatClampNeg 0 then 1 else 0)
def own_resL (q : List Int32) (n x1 x2 x3 r : Int32) (xs : List Int32) : Bool := xs.length == 4 && [(0 : Int32), 1, 2, 3].all fun x => own_check xs q x n x1 x2 x3 r == 1
def own_res (a b c d n r : Int32) (xs : List Int32) : Bool := r == own_g a b c d (own_g a b c d (own_g a b c d (own_g a b c d n))) && own_resL [a, b, c, d] n (own_g a b c d n) (own_g a b c d (own_g a b c d n)) (own_g a b c d (own_g a b c d (own_g a b c d n))) r xs
theorem own_T0 : ∀ a b c d n : Fin 4, own_for (own_i a) (own_i b) (own_i c) (own_i d) = true → own_g (own_i a) (own_i b) (own_i c) (own_i d) (own_i n) = own_i n → own_res (own_i a) (own_i b) (own_i c) (own_i d) (own_i n) (own_i n) [own_i a, own_i b, own_i c, own_i d] = true := by decide +kernel
theorem own_T1 : ∀ a b c d n : Fin 4, own_for (own_i a) (own_i b) (own_i c) (own_i d) = true → own_g (own_i a) (own_i b) (own_i c) (own_i d) (own_g (own_i a) (own_i b) (own_i c) (own_i d) (own_i n)) = own_g (own_i a) (own_i b) (own_i c) (own_i d) (own_i n) → own_res (own_i a) (own_i b) (own_i c) (own_i d) (own_i n) (own_g (own_i a) (own_i b) (own_i c) (own_i d) (own_i n)) [own_i a, own_i b, own_i c, own_i d] = true := by decide +kernel
def own_t2 (a b c d n : Int32) : Bool := own_for a b c d && own_g a b c d n != n && own_g a b c d (own_g a b c d n) != own_g a b c d n
def own_u2 (a b c d n : Int32) : Bool := own_g a b c d (own_g a b c d n) != n && (own_g a b c d (own_g a b c d (own_g a b c d n)) != own_g a b c d (own_g a b c d n) || own_res a b c d n (own_g a b c d (own_g a b c d n)) ([a, b, c, d].set n.toNatClampNeg (own_g a b c d (own_g a b c d n))))
theorem own_T2 : ∀ a b c d n : Fin 4, own_t2 (own_i a) (own_i b) (own_i c) (own_i d) (own_i n) = true → own_u2 (own_i a) (own_i b) (own_i c) (own_i d) (own_i n) = true := by decide +kernel
def own_t3 (a b c d n : Int32) : Bool := own_t2 a b c d n && own_g a b c d (own_g a b c d (own_g a b c d n)) != own_g a b c d (own_g a b c d n)
def own_u3 (a b c d n : Int32) : Bool := own_g a b c d (own_g a b c d (own_g a b c d (own_g a b c d n))) == own_g a b c d (own_g a b c d (own_g a b c d n)) && own_g a b c d n != own_g a b c d (own_g a b c d (own_g a b c d n)) && own_res a b c d n (own_g a b c d (own_g a b c d (own_g a b c d n))) (([a, b, c, d].set n.toNatClampNeg (own_g a b c d (own_g a b c d (own_g a b c d n)))).set (own_g a b c d n).toNatClampNeg (own_g a b c d (own_g a b c d (own_g a b c d n))))
theorem own_T3 : ∀ a b c d n : Fin 4, own_t3 (own_i a) (own_i b) (own_i c) (own_i d) (own_i n) = true → own_u3 (own_i a) (own_i b) (own_i c) (own_i d) (own_i n) = true := by decide +kernel
section OwnDepth
variable {a b c d n r1 r2 r3 r4 : Int32} (hF : own_for a b c d = true) (hn : own_R 4 n)
theorem own_leaf0 (hF : own_for a b c d = true) (hn : own_R 4 n) (e1 : [a, b, c, d].getD n.toNatClampNeg 0 = r1) (q1 : r1 = n) : own_res a b c d n n [a, b, c, d] = true := by
  obtain ⟨h1, h2, h3, h4⟩ := own_for_r hF
  obtain ⟨a, rfl⟩ := own_fin h1
  obtain ⟨b, rfl⟩ := own_fin h2
  obtain ⟨c, rfl⟩ := own_fin h3
  obtain ⟨d, rfl⟩ := own_fin h4
  obtain ⟨n, rfl⟩ := own_fin hn
  exact own_T0 a b c d n hF (e1.trans q1)
theorem own_leaf1 (hF : own_for a b c d = true) (hn : own_R 4 n) (e1 : [a, b, c, d].getD n.toNatClampNeg 0 = r1) (e2 : [a, b, c, d].getD r1.toNatClampNeg 0 = r2) (q2 : r2 = r1) : own_res a b c d n r1 [a, b, c, d] = true := by
  obtain ⟨h1, h2, h3, h4⟩ := own_for_r hF
  obtain ⟨a, rfl⟩ := own_fin h1
  obtain ⟨b, rfl⟩ := own_fin h2
  obtain ⟨c, rfl⟩ := own_fin h3
  obtain ⟨d, rfl⟩ := own_fin h4
  obtain ⟨n, rfl⟩ := own_fin hn
  subst e1
  exact own_T1 a b c d n hF (e2.trans q2)
theorem own_dep2 (hF : own_for a b c d = true) (hn : own_R 4 n) (e1 : [a, b, c, d].getD n.toNatClampNeg 0 = r1) (e2 : [a, b, c, d].getD r1.toNatClampNeg 0 = r2) (e3 : [a, b, c, d].getD r2.toNatClampNeg 0 = r3) (q1 : ¬ r1 = n) (q2 : ¬ r2 = r1) : ¬ r2 = n ∧ (r3 = r2 → own_res a b c d n r2 ([a, b, c, d].set n.toNatClampNeg r2) = true) := by
  obtain ⟨h1, h2, h3, h4⟩ := own_for_r hF
  obtain ⟨a, rfl⟩ := own_fin h1
  obtain ⟨b, rfl⟩ := own_fin h2
  obtain ⟨c, rfl⟩ := own_fin h3
  obtain ⟨d, rfl⟩ := own_fin h4
  obtain ⟨n, rfl⟩ := own_fin hn
  subst e1 e2 e3
  have q := own_T2 a b c d n (by simp only [own_t2, Bool.and_eq_true, bne_iff_ne]; exact ⟨⟨hF, q1⟩, q2⟩)
  simp only [own_u2, Bool.and_eq_true, bne_iff_ne, Bool.or_eq_true] at q
  exact ⟨q.1, fun h => q.2.resolve_left fun g => g h⟩
theorem own_dep3 (hF : own_for a b c d = true) (hn : own_R 4 n) (e1 : [a, b, c, d].getD n.toNatClampNeg 0 = r1) (e2 : [a, b, c, d].getD r1.toNatClampNeg 0 = r2) (e3 : [a, b, c, d].getD r2.toNatClampNeg 0 = r3) (e4 : [a, b, c, d].getD r3.toNatClampNeg 0 = r4) (q1 : ¬ r1 = n) (q2 : ¬ r2 = r1) (q3 : ¬ r3 = r2) :
    r4 = r3 ∧ ¬ r1 = r3 ∧ own_res a b c d n r3 (([a, b, c, d].set n.toNatClampNeg r3).set r1.toNatClampNeg r3) = true := by
  obtain ⟨h1, h2, h3, h4⟩ := own_for_r hF
  obtain ⟨a, rfl⟩ := own_fin h1
  obtain ⟨b, rfl⟩ := own_fin h2
  obtain ⟨c, rfl⟩ := own_fin h3
  obtain ⟨d, rfl⟩ := own_fin h4
  obtain ⟨n, rfl⟩ := own_fin hn
  subst e1 e2 e3 e4
  have q := own_T3 a b c d n (by simp only [own_t3, own_t2, Bool.and_eq_true, bne_iff_ne]; exact ⟨⟨⟨hF, q1⟩, q2⟩, q3⟩)
  simp only [own_u3, Bool.and_eq_true, bne_iff_ne, beq_iff_eq] at q
  exact ⟨q.1.1, q.1.2, q.2⟩
theorem own_nat_ne {x y : Int32} (hx : own_R 4 x) (hy : own_R 4 y) (h : ¬ x = y) : x.toNatClampNeg ≠ y.toNatClampNeg := by
  have e1 : x.toNatClampNeg = x.toInt.toNat := rfl
  have e2 : y.toNatClampNeg = y.toInt.toNat := rfl
  rw [← Int32.toInt_inj] at h
  unfold own_R at hx hy
  omega
theorem own_gs {xs : List Int32} {i j v : Int32} (hi : own_R 4 i) (hj : own_R 4 j) (h : ¬ i = j) : (xs.set i.toNatClampNeg v).getD j.toNatClampNeg 0 = xs.getD j.toNatClampNeg 0 := by
  simp [List.getD_eq_getElem?_getD, List.getElem?_set_ne (own_nat_ne hi hj h)]
end OwnDepth
theorem d1_0 : decode method_3_code 0 = .ok (.aload_n 0, 1) := by decide +kernel
theorem d1_1 : decode method_3_code 1 = .ok (.iload_n 1, 1) := by decide +kernel
theorem d1_2 : decode method_3_code 2 = .ok (.iaload, 1) := by decide +kernel
theorem d1_3 : decode method_3_code 3 = .ok (.istore_n 3, 1) := by decide +kernel
theorem d1_4 : decode method_3_code 4 = .ok (.aload_n 0, 1) := by decide +kernel
theorem d1_5 : decode method_3_code 5 = .ok (.iload_n 1, 1) := by decide +kernel
theorem d1_6 : decode method_3_code 6 = .ok (.aload_n 0, 1) := by decide +kernel
theorem d1_7 : decode method_3_code 7 = .ok (.iload_n 2, 1) := by decide +kernel
theorem d1_8 : decode method_3_code 8 = .ok (.iaload, 1) := by decide +kernel
theorem d1_9 : decode method_3_code 9 = .ok (.iastore, 1) := by decide +kernel
theorem d1_10 : decode method_3_code 10 = .ok (.aload_n 0, 1) := by decide +kernel
theorem d1_11 : decode method_3_code 11 = .ok (.iload_n 2, 1) := by decide +kernel
theorem d1_12 : decode method_3_code 12 = .ok (.iload_n 3, 1) := by decide +kernel
theorem d1_13 : decode method_3_code 13 = .ok (.iastore, 1) := by decide +kernel
theorem d1_14 : decode method_3_code 14 = .ok (.return_, 1) := by decide +kernel
theorem pn_com_example_urania_urania_layered_UnionFindRootPinLaw : plainName "com/example/urania/urania/layered/UnionFindRootPinLaw" = true := by first | (simp [plainName, overriddenIn]; done) | decide +kernel
theorem ef_1_RII (m : MethodId) (x0 : Addr) (x1 : Int32) (x2 : Int32) : entryFrame m #[(.ref x0), (.int x1), (.int x2)] 4 = mkF m 0 #[rv x0, iv x1, iv x2, .unset] [] := by first | (simp [entryFrame, mkF, argsToLocals, Value.category]; done) | rfl
def Qrm_sw (Z : State) (a1 : Addr) (p2 : Int32) (p3 : Int32) (xs : List Int32) (h0 : Heap) (n0 : Nat) (v : Option Value) (h : Heap) (L : List Loc) : Prop := v = none ∧ Fr n0 L ∧ Keep h0 h [a1] ∧ own_AV Z h a1 .int (own_is (own_swap xs p2 p3))
set_option maxRecDepth 65536 in
set_option maxHeartbeats 40000000 in
theorem rm_sw (l : Launch) (Z : State) (a0 : Array Value) (hw : ∀ d ∈ tables_1, d.before a0 Z = true) (ws : List Jvm.Cond) (a1 : Addr) (p2 : Int32) (p3 : Int32) (xs : List Int32) (h0 : Heap) (n0 : Nat) (Z0 : n0 ≤ h0.size) (A1 : own_AV Z h0 a1 .int (own_is xs)) (hl : xs.length = 4) (r2 : own_R 4 p2) (r3 : own_R 4 p3) (g1 : n0 ≤ a1) :
    MetFree l own_y0 (head1 (Jvm.Cond.code own_y0 method_3_code 4 none :: ws) ({ frames := 0, cells := 0, slots := 0, locals := 0 } : Room)) (fun a U => a = #[(.ref a1), (.int p2), (.int p3)] ∧ Z.Warmed39 U.vm ∧ U.heap = h0) (fun _ _ _ _ _ => True) (fun _ U o U' => ∃ v L, o = .returned v ∧ Qrm_sw Z a1 p2 p3 xs h0 n0 v U'.heap L ∧ FrameEnd U o U' L ({ frames := 0, cells := 0, slots := 0, locals := 0 } : Room).cells ({ frames := 0, cells := 0, slots := 0, locals := 0 } : Room).slots) := by
  refine MetFree.of_bodySF (plainFor_of_name pn_com_example_urania_urania_layered_UnionFindRootPinLaw) hisR ?_
  intro p e s m args below meth c s₁ Bd hml0 hP hK
  obtain ⟨rfl, hZ, hh⟩ := hP
  have hx := Bd.exec
  have hby := Bd.bytes
  have hml : c.maxLocals = 4 := hml0
  have hown : s.vm.findClass "com/example/urania/urania/layered/UnionFindRootPinLaw" = some m.cls := findClass_of_methodNamed Bd.named
  have hnm := (name_of_methodNamed Bd.named Bd.method).1
  have X0 : Stand p l e ({ frames := 0, cells := 0, slots := 0, locals := 0 } : Room) s m #[(.ref a1), (.int p2), (.int p3)] below meth c s₁ [] 0 0 := Stand.of_body Bd
  have e0 : s₁.heap = h0 := by rw [← hh, Bd.state]; rfl
  have N0 := Fr.nil n0
  have K0 : Keep h0 h0 [a1] := Keep.refl _ _
  refine own_start (Qk := Qrm_sw Z a1 p2 p3 xs h0 n0) (fun G hG => ?_)
  refine own_st (fun _ k => castTop (ef_1_RII m a1 p2 p3) k) ?_
  show own_Fin p e below G (s₁.setTop (mkF m 0 #[rv a1, iv p2, iv p3, .unset] []))
  refine own_st (fun _ k => XS.aloadN X0.here hx rfl (hb hby d1_0) rfl rfl k) ?_
  show own_Fin p e below G (s₁.setTop (mkF m 1 #[rv a1, iv p2, iv p3, .unset] [(.ref a1)]))
  refine own_st (fun _ k => XS.iloadN X0.here hx rfl (hb hby d1_1) rfl  k) ?_
  show own_Fin p e below G (s₁.setTop (mkF m 2 #[rv a1, iv p2, iv p3, .unset] [(.int p2), (.ref a1)]))
  refine own_st (fun _ k => own_ldI X0 hx hZ e0 A1 (j := p2) (n := 4) (by simp [hl]) (own_inb r2) (g := (mkF m 2 #[rv a1, iv p2, iv p3, .unset] [(.int p2), (.ref a1)])) rfl rfl (hb hby d1_2) k) ?_
  show own_Fin p e below G (s₁.setTop (mkF m 3 #[rv a1, iv p2, iv p3, .unset] [(.int (xs.getD p2.toNatClampNeg 0))]))
  refine own_st (fun _ k => XS.istoreN X0.here hx rfl (hb hby d1_3) rfl (l' := #[rv a1, iv p2, iv p3, iv (xs.getD p2.toNatClampNeg 0)]) rfl k) ?_
  show own_Fin p e below G (s₁.setTop (mkF m 4 #[rv a1, iv p2, iv p3, iv (xs.getD p2.toNatClampNeg 0)] []))
  refine own_st (fun _ k => XS.aloadN X0.here hx rfl (hb hby d1_4) rfl rfl k) ?_
  show own_Fin p e below G (s₁.setTop (mkF m 5 #[rv a1, iv p2, iv p3, iv (xs.getD p2.toNatClampNeg 0)] [(.ref a1)]))
  refine own_st (fun _ k => XS.iloadN X0.here hx rfl (hb hby d1_5) rfl  k) ?_
  show own_Fin p e below G (s₁.setTop (mkF m 6 #[rv a1, iv p2, iv p3, iv (xs.getD p2.toNatClampNeg 0)] [(.int p2), (.ref a1)]))
  refine own_st (fun _ k => XS.aloadN X0.here hx rfl (hb hby d1_6) rfl rfl k) ?_
  show own_Fin p e below G (s₁.setTop (mkF m 7 #[rv a1, iv p2, iv p3, iv (xs.getD p2.toNatClampNeg 0)] [(.ref a1), (.int p2), (.ref a1)]))
  refine own_st (fun _ k => XS.iloadN X0.here hx rfl (hb hby d1_7) rfl  k) ?_
  show own_Fin p e below G (s₁.setTop (mkF m 8 #[rv a1, iv p2, iv p3, iv (xs.getD p2.toNatClampNeg 0)] [(.int p3), (.ref a1), (.int p2), (.ref a1)]))
  refine own_st (fun _ k => own_ldI X0 hx hZ e0 A1 (j := p3) (n := 4) (by simp [hl]) (own_inb r3) (g := (mkF m 8 #[rv a1, iv p2, iv p3, iv (xs.getD p2.toNatClampNeg 0)] [(.int p3), (.ref a1), (.int p2), (.ref a1)])) rfl rfl (hb hby d1_8) k) ?_
  show own_Fin p e below G (s₁.setTop (mkF m 9 #[rv a1, iv p2, iv p3, iv (xs.getD p2.toNatClampNeg 0)] [(.int (xs.getD p3.toNatClampNeg 0)), (.int p2), (.ref a1)]))
  obtain ⟨T1, h1, X1, e1, W1, V1, st1⟩ := own_stI X0 hx hZ e0 A1 (j := p2) (n := 4) (by simp [hl]) (own_inb r2) (g := (mkF m 9 #[rv a1, iv p2, iv p3, iv (xs.getD p2.toNatClampNeg 0)] [(.int (xs.getD p3.toNatClampNeg 0)), (.int p2), (.ref a1)])) rfl rfl (hb hby d1_9)
  have K3 : Keep h0 h1 [a1] := K0.wr W1 (Or.inl (List.mem_of_getElem? (i := 0) rfl))
  have N4 := Fr.snoc X1 N0 g1
  replace V1 : own_AV Z h1 a1 .int (own_is (xs.set p2.toNatClampNeg (xs.getD p3.toNatClampNeg 0))) := V1
  refine own_st st1 ?_
  show own_Fin p e below G (T1.setTop (mkF m 10 #[rv a1, iv p2, iv p3, iv (xs.getD p2.toNatClampNeg 0)] []))
  refine own_st (fun _ k => XS.aloadN X1.here hx rfl (hb hby d1_10) rfl rfl k) ?_
  show own_Fin p e below G (T1.setTop (mkF m 11 #[rv a1, iv p2, iv p3, iv (xs.getD p2.toNatClampNeg 0)] [(.ref a1)]))
  refine own_st (fun _ k => XS.iloadN X1.here hx rfl (hb hby d1_11) rfl  k) ?_
  show own_Fin p e below G (T1.setTop (mkF m 12 #[rv a1, iv p2, iv p3, iv (xs.getD p2.toNatClampNeg 0)] [(.int p3), (.ref a1)]))
  refine own_st (fun _ k => XS.iloadN X1.here hx rfl (hb hby d1_12) rfl  k) ?_
  show own_Fin p e below G (T1.setTop (mkF m 13 #[rv a1, iv p2, iv p3, iv (xs.getD p2.toNatClampNeg 0)] [(.int (xs.getD p2.toNatClampNeg 0)), (.int p3), (.ref a1)]))
  obtain ⟨T5, h5, X5, e5, W5, V5, st5⟩ := own_stI X1 hx hZ e1 V1 (j := p3) (n := 4) (by simp [hl]) (own_inb r3) (g := (mkF m 13 #[rv a1, iv p2, iv p3, iv (xs.getD p2.toNatClampNeg 0)] [(.int (xs.getD p2.toNatClampNeg 0)), (.int p3), (.ref a1)])) rfl rfl (hb hby d1_13)
  have K7 : Keep h0 h5 [a1] := K3.wr W5 (Or.inl (List.mem_of_getElem? (i := 0) rfl))
  have N8 := Fr.snoc X5 N4 g1
  replace V5 : own_AV Z h5 a1 .int (own_is ((xs.set p2.toNatClampNeg (xs.getD p3.toNatClampNeg 0)).set p3.toNatClampNeg (xs.getD p2.toNatClampNeg 0))) := V5
  refine own_st st5 ?_
  show own_Fin p e below G (T5.setTop (mkF m 14 #[rv a1, iv p2, iv p3, iv (xs.getD p2.toNatClampNeg 0)] []))
  refine own_out X5 Bd.notSynchronized (v := none) (fun _ => rfl) hG (fun fs hr => X5.returnOut hx Bd.returns (hb hby d1_14) hr) (by decide) (by decide) ?_
  exact ⟨rfl, N8, e5.symm ▸ K7, e5.symm ▸ V5⟩

theorem d2_0 : decode prog_88_method_2_code 0 = .ok (.iload_n 1, 1) := by decide +kernel
theorem d2_1 : decode prog_88_method_2_code 1 = .ok (.istore_n 2, 1) := by decide +kernel
theorem d2_2 : decode prog_88_method_2_code 2 = .ok (.aload_n 0, 1) := by decide +kernel
theorem d2_3 : decode prog_88_method_2_code 3 = .ok (.iload_n 2, 1) := by decide +kernel
theorem d2_4 : decode prog_88_method_2_code 4 = .ok (.iaload, 1) := by decide +kernel
theorem d2_5 : decode prog_88_method_2_code 5 = .ok (.iload_n 2, 1) := by decide +kernel
theorem d2_6 : decode prog_88_method_2_code 6 = .ok (.if_icmp .eq 10, 3) := by decide +kernel
theorem d2_16 : decode prog_88_method_2_code 16 = .ok (.iload_n 1, 1) := by decide +kernel
theorem d2_17 : decode prog_88_method_2_code 17 = .ok (.istore_n 3, 1) := by decide +kernel
theorem d2_18 : decode prog_88_method_2_code 18 = .ok (.aload_n 0, 1) := by decide +kernel
theorem d2_19 : decode prog_88_method_2_code 19 = .ok (.iload_n 3, 1) := by decide +kernel
theorem d2_20 : decode prog_88_method_2_code 20 = .ok (.iaload, 1) := by decide +kernel
theorem d2_21 : decode prog_88_method_2_code 21 = .ok (.iload_n 2, 1) := by decide +kernel
theorem d2_22 : decode prog_88_method_2_code 22 = .ok (.if_icmp .eq 18, 3) := by decide +kernel
theorem d2_40 : decode prog_88_method_2_code 40 = .ok (.iload_n 2, 1) := by decide +kernel
theorem d2_41 : decode prog_88_method_2_code 41 = .ok (.ireturn, 1) := by decide +kernel
theorem d2_9 : decode prog_88_method_2_code 9 = .ok (.aload_n 0, 1) := by decide +kernel
theorem d2_10 : decode prog_88_method_2_code 10 = .ok (.iload_n 2, 1) := by decide +kernel
theorem d2_11 : decode prog_88_method_2_code 11 = .ok (.iaload, 1) := by decide +kernel
theorem d2_12 : decode prog_88_method_2_code 12 = .ok (.istore_n 2, 1) := by decide +kernel
theorem d2_13 : decode prog_88_method_2_code 13 = .ok (.goto (-11), 3) := by decide +kernel
theorem d2_25 : decode prog_88_method_2_code 25 = .ok (.aload_n 0, 1) := by decide +kernel
theorem d2_26 : decode prog_88_method_2_code 26 = .ok (.iload_n 3, 1) := by decide +kernel
theorem d2_27 : decode prog_88_method_2_code 27 = .ok (.iaload, 1) := by decide +kernel
theorem d2_28 : decode prog_88_method_2_code 28 = .ok (.istore 4, 2) := by decide +kernel
theorem d2_30 : decode prog_88_method_2_code 30 = .ok (.aload_n 0, 1) := by decide +kernel
theorem d2_31 : decode prog_88_method_2_code 31 = .ok (.iload_n 3, 1) := by decide +kernel
theorem d2_32 : decode prog_88_method_2_code 32 = .ok (.iload_n 2, 1) := by decide +kernel
theorem d2_33 : decode prog_88_method_2_code 33 = .ok (.iastore, 1) := by decide +kernel
theorem d2_34 : decode prog_88_method_2_code 34 = .ok (.iload 4, 2) := by decide +kernel
theorem d2_36 : decode prog_88_method_2_code 36 = .ok (.istore_n 3, 1) := by decide +kernel
theorem d2_37 : decode prog_88_method_2_code 37 = .ok (.goto (-19), 3) := by decide +kernel
theorem pn_com_example_urania_urania_layered_UnionFind : plainName "com/example/urania/urania/layered/UnionFind" = true := by first | (simp [plainName, overriddenIn]; done) | decide +kernel
theorem ef_2_RI (m : MethodId) (x0 : Addr) (x1 : Int32) : entryFrame m #[(.ref x0), (.int x1)] 5 = mkF m 0 #[rv x0, iv x1, .unset, .unset, .unset] [] := by first | (simp [entryFrame, mkF, argsToLocals, Value.category]; done) | rfl
def Qrm_rt (Z : State) (a1 : Addr) (nd : Int32) (p0 : Int32) (p1 : Int32) (p2 : Int32) (p3 : Int32) (h0 : Heap) (n0 : Nat) (v : Option Value) (h : Heap) (L : List Loc) : Prop := ∃ (r : Int32) (xs : List Int32), v = some (.int r) ∧ Fr n0 L ∧ Keep h0 h [a1] ∧ own_AV Z h a1 .int (own_is xs) ∧ own_res p0 p1 p2 p3 nd r xs = true
set_option maxRecDepth 65536 in
set_option maxHeartbeats 40000000 in
theorem rm_rt (l : Launch) (Z : State) (a0 : Array Value) (hw : ∀ d ∈ tables_1, d.before a0 Z = true) (ws : List Jvm.Cond) (a1 : Addr) (nd : Int32) (p0 : Int32) (p1 : Int32) (p2 : Int32) (p3 : Int32) (h0 : Heap) (n0 : Nat) (Z0 : n0 ≤ h0.size) (A1 : own_AV Z h0 a1 .int (own_is [p0, p1, p2, p3])) (hF : own_for p0 p1 p2 p3 = true) (hn : own_R 4 nd) (g1 : n0 ≤ a1) :
    MetFree l own_y1 (head1 (Jvm.Cond.code own_y1 prog_88_method_2_code 5 (some .int) :: ws) ({ frames := 0, cells := 0, slots := 0, locals := 0 } : Room)) (fun a U => a = #[(.ref a1), (.int nd)] ∧ Z.Warmed39 U.vm ∧ U.heap = h0) (fun _ _ _ _ _ => True) (fun _ U o U' => ∃ v L, o = .returned v ∧ Qrm_rt Z a1 nd p0 p1 p2 p3 h0 n0 v U'.heap L ∧ FrameEnd U o U' L ({ frames := 0, cells := 0, slots := 0, locals := 0 } : Room).cells ({ frames := 0, cells := 0, slots := 0, locals := 0 } : Room).slots) := by
  refine MetFree.of_bodySF (plainFor_of_name pn_com_example_urania_urania_layered_UnionFind) hisR ?_
  intro p e s m args below meth c s₁ Bd hml0 hP hK
  obtain ⟨rfl, hZ, hh⟩ := hP
  have hx := Bd.exec
  have hby := Bd.bytes
  have hml : c.maxLocals = 5 := hml0
  have hown : s.vm.findClass "com/example/urania/urania/layered/UnionFind" = some m.cls := findClass_of_methodNamed Bd.named
  have hnm := (name_of_methodNamed Bd.named Bd.method).1
  have X0 : Stand p l e ({ frames := 0, cells := 0, slots := 0, locals := 0 } : Room) s m #[(.ref a1), (.int nd)] below meth c s₁ [] 0 0 := Stand.of_body Bd
  have e0 : s₁.heap = h0 := by rw [← hh, Bd.state]; rfl
  have N0 := Fr.nil n0
  have K0 : Keep h0 h0 [a1] := Keep.refl _ _
  refine own_start (Qk := Qrm_rt Z a1 nd p0 p1 p2 p3 h0 n0) (fun G hG => ?_)
  refine own_st (fun _ k => castTop (ef_2_RI m a1 nd) k) ?_
  show own_Fin p e below G (s₁.setTop (mkF m 0 #[rv a1, iv nd, .unset, .unset, .unset] []))
  refine own_st (fun _ k => XS.iloadN X0.here hx rfl (hb hby d2_0) rfl  k) ?_
  show own_Fin p e below G (s₁.setTop (mkF m 1 #[rv a1, iv nd, .unset, .unset, .unset] [(.int nd)]))
  refine own_st (fun _ k => XS.istoreN X0.here hx rfl (hb hby d2_1) rfl (l' := #[rv a1, iv nd, iv nd, .unset, .unset]) rfl k) ?_
  show own_Fin p e below G (s₁.setTop (mkF m 2 #[rv a1, iv nd, iv nd, .unset, .unset] []))
  refine own_st (fun _ k => XS.aloadN X0.here hx rfl (hb hby d2_2) rfl rfl k) ?_
  show own_Fin p e below G (s₁.setTop (mkF m 3 #[rv a1, iv nd, iv nd, .unset, .unset] [(.ref a1)]))
  refine own_st (fun _ k => XS.iloadN X0.here hx rfl (hb hby d2_3) rfl  k) ?_
  show own_Fin p e below G (s₁.setTop (mkF m 4 #[rv a1, iv nd, iv nd, .unset, .unset] [(.int nd), (.ref a1)]))
  refine own_st (fun _ k => own_ldI X0 hx hZ e0 A1 (j := nd) (n := 4) (by simp) (own_inb hn) (g := (mkF m 4 #[rv a1, iv nd, iv nd, .unset, .unset] [(.int nd), (.ref a1)])) rfl rfl (hb hby d2_4) k) ?_
  show own_Fin p e below G (s₁.setTop (mkF m 5 #[rv a1, iv nd, iv nd, .unset, .unset] [(.int ([p0, p1, p2, p3].getD nd.toNatClampNeg 0))]))
  have rg_r1 := own_gF hF hn
  generalize e_r1 : ([p0, p1, p2, p3].getD nd.toNatClampNeg 0) = r1 at *
  show own_Fin p e below G (s₁.setTop (mkF m 5 #[rv a1, iv nd, iv nd, .unset, .unset] [(.int r1)]))
  refine own_st (fun _ k => XS.iloadN X0.here hx rfl (hb hby d2_5) rfl  k) ?_
  show own_Fin p e below G (s₁.setTop (mkF m 6 #[rv a1, iv nd, iv nd, .unset, .unset] [(.int nd), (.int r1)]))
  by_cases hc6_9 : r1 = nd
  · refine own_st (fun _ k => XS.icmpYes X0.here hx rfl (pc0 := 6) (pc' := 16) rfl (hb hby d2_6) rfl (teq hc6_9).1 (by decide) (by decide) k) ?_
    show own_Fin p e below G (s₁.setTop (mkF m 16 #[rv a1, iv nd, iv nd, .unset, .unset] []))
    refine own_st (fun _ k => XS.iloadN X0.here hx rfl (hb hby d2_16) rfl  k) ?_
    show own_Fin p e below G (s₁.setTop (mkF m 17 #[rv a1, iv nd, iv nd, .unset, .unset] [(.int nd)]))
    refine own_st (fun _ k => XS.istoreN X0.here hx rfl (hb hby d2_17) rfl (l' := #[rv a1, iv nd, iv nd, iv nd, .unset]) rfl k) ?_
    show own_Fin p e below G (s₁.setTop (mkF m 18 #[rv a1, iv nd, iv nd, iv nd, .unset] []))
    refine own_st (fun _ k => XS.aloadN X0.here hx rfl (hb hby d2_18) rfl rfl k) ?_
    show own_Fin p e below G (s₁.setTop (mkF m 19 #[rv a1, iv nd, iv nd, iv nd, .unset] [(.ref a1)]))
    refine own_st (fun _ k => XS.iloadN X0.here hx rfl (hb hby d2_19) rfl  k) ?_
    show own_Fin p e below G (s₁.setTop (mkF m 20 #[rv a1, iv nd, iv nd, iv nd, .unset] [(.int nd), (.ref a1)]))
    refine own_st (fun _ k => own_ldI X0 hx hZ e0 A1 (j := nd) (n := 4) (by simp) (own_inb hn) (g := (mkF m 20 #[rv a1, iv nd, iv nd, iv nd, .unset] [(.int nd), (.ref a1)])) rfl rfl (hb hby d2_20) k) ?_
    show own_Fin p e below G (s₁.setTop (mkF m 21 #[rv a1, iv nd, iv nd, iv nd, .unset] [(.int ([p0, p1, p2, p3].getD nd.toNatClampNeg 0))]))
    rw [e_r1]
    show own_Fin p e below G (s₁.setTop (mkF m 21 #[rv a1, iv nd, iv nd, iv nd, .unset] [(.int r1)]))
    refine own_st (fun _ k => XS.iloadN X0.here hx rfl (hb hby d2_21) rfl  k) ?_
    show own_Fin p e below G (s₁.setTop (mkF m 22 #[rv a1, iv nd, iv nd, iv nd, .unset] [(.int nd), (.int r1)]))
    refine own_st (fun _ k => XS.icmpYes X0.here hx rfl (pc0 := 22) (pc' := 40) rfl (hb hby d2_22) rfl (teq hc6_9).1 (by decide) (by decide) k) ?_
    show own_Fin p e below G (s₁.setTop (mkF m 40 #[rv a1, iv nd, iv nd, iv nd, .unset] []))
    refine own_st (fun _ k => XS.iloadN X0.here hx rfl (hb hby d2_40) rfl  k) ?_
    show own_Fin p e below G (s₁.setTop (mkF m 41 #[rv a1, iv nd, iv nd, iv nd, .unset] [(.int nd)]))
    refine own_out X0 Bd.notSynchronized (v := (some (.int nd))) (fun h => by rw [Bd.returns] at h; cases h) hG (fun fs hr => retOut X0 hx Bd.returns rfl (Or.inl ⟨rfl, Or.inl rfl, _, rfl⟩) (hb hby d2_41) hr) (by decide) (by decide) ?_
    exact ⟨nd, _, rfl, N0, e0.symm ▸ K0, e0.symm ▸ A1, own_leaf0 hF hn e_r1 hc6_9⟩
  · refine own_st (fun _ k => XS.icmpNo X0.here hx rfl (hb hby d2_6) rfl (feq hc6_9).1 k) ?_
    show own_Fin p e below G (s₁.setTop (mkF m 9 #[rv a1, iv nd, iv nd, .unset, .unset] []))
    refine own_st (fun _ k => XS.aloadN X0.here hx rfl (hb hby d2_9) rfl rfl k) ?_
    show own_Fin p e below G (s₁.setTop (mkF m 10 #[rv a1, iv nd, iv nd, .unset, .unset] [(.ref a1)]))
    refine own_st (fun _ k => XS.iloadN X0.here hx rfl (hb hby d2_10) rfl  k) ?_
    show own_Fin p e below G (s₁.setTop (mkF m 11 #[rv a1, iv nd, iv nd, .unset, .unset] [(.int nd), (.ref a1)]))
    refine own_st (fun _ k => own_ldI X0 hx hZ e0 A1 (j := nd) (n := 4) (by simp) (own_inb hn) (g := (mkF m 11 #[rv a1, iv nd, iv nd, .unset, .unset] [(.int nd), (.ref a1)])) rfl rfl (hb hby d2_11) k) ?_
    show own_Fin p e below G (s₁.setTop (mkF m 12 #[rv a1, iv nd, iv nd, .unset, .unset] [(.int ([p0, p1, p2, p3].getD nd.toNatClampNeg 0))]))
    rw [e_r1]
    show own_Fin p e below G (s₁.setTop (mkF m 12 #[rv a1, iv nd, iv nd, .unset, .unset] [(.int r1)]))
    refine own_st (fun _ k => XS.istoreN X0.here hx rfl (hb hby d2_12) rfl (l' := #[rv a1, iv nd, iv r1, .unset, .unset]) rfl k) ?_
    show own_Fin p e below G (s₁.setTop (mkF m 13 #[rv a1, iv nd, iv r1, .unset, .unset] []))
    refine own_st (fun _ k => XS.goto X0.here hx rfl (pc0 := 13) (pc' := 2) rfl (hb hby d2_13) (by decide) (by decide) k) ?_
    show own_Fin p e below G (s₁.setTop (mkF m 2 #[rv a1, iv nd, iv r1, .unset, .unset] []))
    refine own_st (fun _ k => XS.aloadN X0.here hx rfl (hb hby d2_2) rfl rfl k) ?_
    show own_Fin p e below G (s₁.setTop (mkF m 3 #[rv a1, iv nd, iv r1, .unset, .unset] [(.ref a1)]))
    refine own_st (fun _ k => XS.iloadN X0.here hx rfl (hb hby d2_3) rfl  k) ?_
    show own_Fin p e below G (s₁.setTop (mkF m 4 #[rv a1, iv nd, iv r1, .unset, .unset] [(.int r1), (.ref a1)]))
    refine own_st (fun _ k => own_ldI X0 hx hZ e0 A1 (j := r1) (n := 4) (by simp) (own_inb rg_r1) (g := (mkF m 4 #[rv a1, iv nd, iv r1, .unset, .unset] [(.int r1), (.ref a1)])) rfl rfl (hb hby d2_4) k) ?_
    show own_Fin p e below G (s₁.setTop (mkF m 5 #[rv a1, iv nd, iv r1, .unset, .unset] [(.int ([p0, p1, p2, p3].getD r1.toNatClampNeg 0))]))
    have rg_r2 := own_gF hF rg_r1
    generalize e_r2 : ([p0, p1, p2, p3].getD r1.toNatClampNeg 0) = r2 at *
    show own_Fin p e below G (s₁.setTop (mkF m 5 #[rv a1, iv nd, iv r1, .unset, .unset] [(.int r2)]))
    refine own_st (fun _ k => XS.iloadN X0.here hx rfl (hb hby d2_5) rfl  k) ?_
    show own_Fin p e below G (s₁.setTop (mkF m 6 #[rv a1, iv nd, iv r1, .unset, .unset] [(.int r1), (.int r2)]))
    by_cases hc6_10 : r2 = r1
    · refine own_st (fun _ k => XS.icmpYes X0.here hx rfl (pc0 := 6) (pc' := 16) rfl (hb hby d2_6) rfl (teq hc6_10).1 (by decide) (by decide) k) ?_
      show own_Fin p e below G (s₁.setTop (mkF m 16 #[rv a1, iv nd, iv r1, .unset, .unset] []))
      refine own_st (fun _ k => XS.iloadN X0.here hx rfl (hb hby d2_16) rfl  k) ?_
      show own_Fin p e below G (s₁.setTop (mkF m 17 #[rv a1, iv nd, iv r1, .unset, .unset] [(.int nd)]))
      refine own_st (fun _ k => XS.istoreN X0.here hx rfl (hb hby d2_17) rfl (l' := #[rv a1, iv nd, iv r1, iv nd, .unset]) rfl k) ?_
      show own_Fin p e below G (s₁.setTop (mkF m 18 #[rv a1, iv nd, iv r1, iv nd, .unset] []))
      refine own_st (fun _ k => XS.aloadN X0.here hx rfl (hb hby d2_18) rfl rfl k) ?_
      show own_Fin p e below G (s₁.setTop (mkF m 19 #[rv a1, iv nd, iv r1, iv nd, .unset] [(.ref a1)]))
      refine own_st (fun _ k => XS.iloadN X0.here hx rfl (hb hby d2_19) rfl  k) ?_
      show own_Fin p e below G (s₁.setTop (mkF m 20 #[rv a1, iv nd, iv r1, iv nd, .unset] [(.int nd), (.ref a1)]))
      refine own_st (fun _ k => own_ldI X0 hx hZ e0 A1 (j := nd) (n := 4) (by simp) (own_inb hn) (g := (mkF m 20 #[rv a1, iv nd, iv r1, iv nd, .unset] [(.int nd), (.ref a1)])) rfl rfl (hb hby d2_20) k) ?_
      show own_Fin p e below G (s₁.setTop (mkF m 21 #[rv a1, iv nd, iv r1, iv nd, .unset] [(.int ([p0, p1, p2, p3].getD nd.toNatClampNeg 0))]))
      rw [e_r1]
      show own_Fin p e below G (s₁.setTop (mkF m 21 #[rv a1, iv nd, iv r1, iv nd, .unset] [(.int r1)]))
      refine own_st (fun _ k => XS.iloadN X0.here hx rfl (hb hby d2_21) rfl  k) ?_
      show own_Fin p e below G (s₁.setTop (mkF m 22 #[rv a1, iv nd, iv r1, iv nd, .unset] [(.int r1), (.int r1)]))
      refine own_st (fun _ k => XS.icmpYes X0.here hx rfl (pc0 := 22) (pc' := 40) rfl (hb hby d2_22) rfl (teq (rfl : r1 = r1)).1 (by decide) (by decide) k) ?_
      show own_Fin p e below G (s₁.setTop (mkF m 40 #[rv a1, iv nd, iv r1, iv nd, .unset] []))
      refine own_st (fun _ k => XS.iloadN X0.here hx rfl (hb hby d2_40) rfl  k) ?_
      show own_Fin p e below G (s₁.setTop (mkF m 41 #[rv a1, iv nd, iv r1, iv nd, .unset] [(.int r1)]))
      refine own_out X0 Bd.notSynchronized (v := (some (.int r1))) (fun h => by rw [Bd.returns] at h; cases h) hG (fun fs hr => retOut X0 hx Bd.returns rfl (Or.inl ⟨rfl, Or.inl rfl, _, rfl⟩) (hb hby d2_41) hr) (by decide) (by decide) ?_
      exact ⟨r1, _, rfl, N0, e0.symm ▸ K0, e0.symm ▸ A1, own_leaf1 hF hn e_r1 e_r2 hc6_10⟩
    · refine own_st (fun _ k => XS.icmpNo X0.here hx rfl (hb hby d2_6) rfl (feq hc6_10).1 k) ?_
      show own_Fin p e below G (s₁.setTop (mkF m 9 #[rv a1, iv nd, iv r1, .unset, .unset] []))
      refine own_st (fun _ k => XS.aloadN X0.here hx rfl (hb hby d2_9) rfl rfl k) ?_
      show own_Fin p e below G (s₁.setTop (mkF m 10 #[rv a1, iv nd, iv r1, .unset, .unset] [(.ref a1)]))
      refine own_st (fun _ k => XS.iloadN X0.here hx rfl (hb hby d2_10) rfl  k) ?_
      show own_Fin p e below G (s₁.setTop (mkF m 11 #[rv a1, iv nd, iv r1, .unset, .unset] [(.int r1), (.ref a1)]))
      refine own_st (fun _ k => own_ldI X0 hx hZ e0 A1 (j := r1) (n := 4) (by simp) (own_inb rg_r1) (g := (mkF m 11 #[rv a1, iv nd, iv r1, .unset, .unset] [(.int r1), (.ref a1)])) rfl rfl (hb hby d2_11) k) ?_
      show own_Fin p e below G (s₁.setTop (mkF m 12 #[rv a1, iv nd, iv r1, .unset, .unset] [(.int ([p0, p1, p2, p3].getD r1.toNatClampNeg 0))]))
      rw [e_r2]
      show own_Fin p e below G (s₁.setTop (mkF m 12 #[rv a1, iv nd, iv r1, .unset, .unset] [(.int r2)]))
      refine own_st (fun _ k => XS.istoreN X0.here hx rfl (hb hby d2_12) rfl (l' := #[rv a1, iv nd, iv r2, .unset, .unset]) rfl k) ?_
      show own_Fin p e below G (s₁.setTop (mkF m 13 #[rv a1, iv nd, iv r2, .unset, .unset] []))
      refine own_st (fun _ k => XS.goto X0.here hx rfl (pc0 := 13) (pc' := 2) rfl (hb hby d2_13) (by decide) (by decide) k) ?_
      show own_Fin p e below G (s₁.setTop (mkF m 2 #[rv a1, iv nd, iv r2, .unset, .unset] []))
      refine own_st (fun _ k => XS.aloadN X0.here hx rfl (hb hby d2_2) rfl rfl k) ?_
      show own_Fin p e below G (s₁.setTop (mkF m 3 #[rv a1, iv nd, iv r2, .unset, .unset] [(.ref a1)]))
      refine own_st (fun _ k => XS.iloadN X0.here hx rfl (hb hby d2_3) rfl  k) ?_
      show own_Fin p e below G (s₁.setTop (mkF m 4 #[rv a1, iv nd, iv r2, .unset, .unset] [(.int r2), (.ref a1)]))
      refine own_st (fun _ k => own_ldI X0 hx hZ e0 A1 (j := r2) (n := 4) (by simp) (own_inb rg_r2) (g := (mkF m 4 #[rv a1, iv nd, iv r2, .unset, .unset] [(.int r2), (.ref a1)])) rfl rfl (hb hby d2_4) k) ?_
      show own_Fin p e below G (s₁.setTop (mkF m 5 #[rv a1, iv nd, iv r2, .unset, .unset] [(.int ([p0, p1, p2, p3].getD r2.toNatClampNeg 0))]))
      have rg_r3 := own_gF hF rg_r2
      generalize e_r3 : ([p0, p1, p2, p3].getD r2.toNatClampNeg 0) = r3 at *
      show own_Fin p e below G (s₁.setTop (mkF m 5 #[rv a1, iv nd, iv r2, .unset, .unset] [(.int r3)]))
      refine own_st (fun _ k => XS.iloadN X0.here hx rfl (hb hby d2_5) rfl  k) ?_
      show own_Fin p e below G (s₁.setTop (mkF m 6 #[rv a1, iv nd, iv r2, .unset, .unset] [(.int r2), (.int r3)]))
      by_cases hc6_11 : r3 = r2
      · refine own_st (fun _ k => XS.icmpYes X0.here hx rfl (pc0 := 6) (pc' := 16) rfl (hb hby d2_6) rfl (teq hc6_11).1 (by decide) (by decide) k) ?_
        show own_Fin p e below G (s₁.setTop (mkF m 16 #[rv a1, iv nd, iv r2, .unset, .unset] []))
        refine own_st (fun _ k => XS.iloadN X0.here hx rfl (hb hby d2_16) rfl  k) ?_
        show own_Fin p e below G (s₁.setTop (mkF m 17 #[rv a1, iv nd, iv r2, .unset, .unset] [(.int nd)]))
        refine own_st (fun _ k => XS.istoreN X0.here hx rfl (hb hby d2_17) rfl (l' := #[rv a1, iv nd, iv r2, iv nd, .unset]) rfl k) ?_
        show own_Fin p e below G (s₁.setTop (mkF m 18 #[rv a1, iv nd, iv r2, iv nd, .unset] []))
        refine own_st (fun _ k => XS.aloadN X0.here hx rfl (hb hby d2_18) rfl rfl k) ?_
        show own_Fin p e below G (s₁.setTop (mkF m 19 #[rv a1, iv nd, iv r2, iv nd, .unset] [(.ref a1)]))
        refine own_st (fun _ k => XS.iloadN X0.here hx rfl (hb hby d2_19) rfl  k) ?_
        show own_Fin p e below G (s₁.setTop (mkF m 20 #[rv a1, iv nd, iv r2, iv nd, .unset] [(.int nd), (.ref a1)]))
        refine own_st (fun _ k => own_ldI X0 hx hZ e0 A1 (j := nd) (n := 4) (by simp) (own_inb hn) (g := (mkF m 20 #[rv a1, iv nd, iv r2, iv nd, .unset] [(.int nd), (.ref a1)])) rfl rfl (hb hby d2_20) k) ?_
        show own_Fin p e below G (s₁.setTop (mkF m 21 #[rv a1, iv nd, iv r2, iv nd, .unset] [(.int ([p0, p1, p2, p3].getD nd.toNatClampNeg 0))]))
        rw [e_r1]
        show own_Fin p e below G (s₁.setTop (mkF m 21 #[rv a1, iv nd, iv r2, iv nd, .unset] [(.int r1)]))
        refine own_st (fun _ k => XS.iloadN X0.here hx rfl (hb hby d2_21) rfl  k) ?_
        show own_Fin p e below G (s₁.setTop (mkF m 22 #[rv a1, iv nd, iv r2, iv nd, .unset] [(.int r2), (.int r1)]))
        refine own_st (fun _ k => XS.icmpNo X0.here hx rfl (hb hby d2_22) rfl (feq (fun q => hc6_10 q.symm)).1 k) ?_
        show own_Fin p e below G (s₁.setTop (mkF m 25 #[rv a1, iv nd, iv r2, iv nd, .unset] []))
        refine own_st (fun _ k => XS.aloadN X0.here hx rfl (hb hby d2_25) rfl rfl k) ?_
        show own_Fin p e below G (s₁.setTop (mkF m 26 #[rv a1, iv nd, iv r2, iv nd, .unset] [(.ref a1)]))
        refine own_st (fun _ k => XS.iloadN X0.here hx rfl (hb hby d2_26) rfl  k) ?_
        show own_Fin p e below G (s₁.setTop (mkF m 27 #[rv a1, iv nd, iv r2, iv nd, .unset] [(.int nd), (.ref a1)]))
        refine own_st (fun _ k => own_ldI X0 hx hZ e0 A1 (j := nd) (n := 4) (by simp) (own_inb hn) (g := (mkF m 27 #[rv a1, iv nd, iv r2, iv nd, .unset] [(.int nd), (.ref a1)])) rfl rfl (hb hby d2_27) k) ?_
        show own_Fin p e below G (s₁.setTop (mkF m 28 #[rv a1, iv nd, iv r2, iv nd, .unset] [(.int ([p0, p1, p2, p3].getD nd.toNatClampNeg 0))]))
        rw [e_r1]
        show own_Fin p e below G (s₁.setTop (mkF m 28 #[rv a1, iv nd, iv r2, iv nd, .unset] [(.int r1)]))
        refine own_st (fun _ k => XS.istore X0.here hx rfl (hb hby d2_28) rfl (l' := #[rv a1, iv nd, iv r2, iv nd, iv r1]) rfl k) ?_
        show own_Fin p e below G (s₁.setTop (mkF m 30 #[rv a1, iv nd, iv r2, iv nd, iv r1] []))
        refine own_st (fun _ k => XS.aloadN X0.here hx rfl (hb hby d2_30) rfl rfl k) ?_
        show own_Fin p e below G (s₁.setTop (mkF m 31 #[rv a1, iv nd, iv r2, iv nd, iv r1] [(.ref a1)]))
        refine own_st (fun _ k => XS.iloadN X0.here hx rfl (hb hby d2_31) rfl  k) ?_
        show own_Fin p e below G (s₁.setTop (mkF m 32 #[rv a1, iv nd, iv r2, iv nd, iv r1] [(.int nd), (.ref a1)]))
        refine own_st (fun _ k => XS.iloadN X0.here hx rfl (hb hby d2_32) rfl  k) ?_
        show own_Fin p e below G (s₁.setTop (mkF m 33 #[rv a1, iv nd, iv r2, iv nd, iv r1] [(.int r2), (.int nd), (.ref a1)]))
        obtain ⟨T12, h12, X12, e12, W12, V12, st12⟩ := own_stI X0 hx hZ e0 A1 (j := nd) (n := 4) (by simp) (own_inb hn) (g := (mkF m 33 #[rv a1, iv nd, iv r2, iv nd, iv r1] [(.int r2), (.int nd), (.ref a1)])) rfl rfl (hb hby d2_33)
        have K14 : Keep h0 h12 [a1] := K0.wr W12 (Or.inl (List.mem_of_getElem? (i := 0) rfl))
        have N15 := Fr.snoc X12 N0 g1
        replace V12 : own_AV Z h12 a1 .int (own_is ([p0, p1, p2, p3].set nd.toNatClampNeg r2)) := V12
        refine own_st st12 ?_
        show own_Fin p e below G (T12.setTop (mkF m 34 #[rv a1, iv nd, iv r2, iv nd, iv r1] []))
        refine own_st (fun _ k => XS.iload X12.here hx rfl (hb hby d2_34) rfl  k) ?_
        show own_Fin p e below G (T12.setTop (mkF m 36 #[rv a1, iv nd, iv r2, iv nd, iv r1] [(.int r1)]))
        refine own_st (fun _ k => XS.istoreN X12.here hx rfl (hb hby d2_36) rfl (l' := #[rv a1, iv nd, iv r2, iv r1, iv r1]) rfl k) ?_
        show own_Fin p e below G (T12.setTop (mkF m 37 #[rv a1, iv nd, iv r2, iv r1, iv r1] []))
        refine own_st (fun _ k => XS.goto X12.here hx rfl (pc0 := 37) (pc' := 18) rfl (hb hby d2_37) (by decide) (by decide) k) ?_
        show own_Fin p e below G (T12.setTop (mkF m 18 #[rv a1, iv nd, iv r2, iv r1, iv r1] []))
        refine own_st (fun _ k => XS.aloadN X12.here hx rfl (hb hby d2_18) rfl rfl k) ?_
        show own_Fin p e below G (T12.setTop (mkF m 19 #[rv a1, iv nd, iv r2, iv r1, iv r1] [(.ref a1)]))
        refine own_st (fun _ k => XS.iloadN X12.here hx rfl (hb hby d2_19) rfl  k) ?_
        show own_Fin p e below G (T12.setTop (mkF m 20 #[rv a1, iv nd, iv r2, iv r1, iv r1] [(.int r1), (.ref a1)]))
        refine own_st (fun _ k => own_ldI X12 hx hZ e12 V12 (j := r1) (n := 4) (by simp) (own_inb rg_r1) (g := (mkF m 20 #[rv a1, iv nd, iv r2, iv r1, iv r1] [(.int r1), (.ref a1)])) rfl rfl (hb hby d2_20) k) ?_
        show own_Fin p e below G (T12.setTop (mkF m 21 #[rv a1, iv nd, iv r2, iv r1, iv r1] [(.int (([p0, p1, p2, p3].set nd.toNatClampNeg r2).getD r1.toNatClampNeg 0))]))
        rw [own_gs hn rg_r1 (fun q => hc6_9 q.symm), e_r2]
        show own_Fin p e below G (T12.setTop (mkF m 21 #[rv a1, iv nd, iv r2, iv r1, iv r1] [(.int r2)]))
        refine own_st (fun _ k => XS.iloadN X12.here hx rfl (hb hby d2_21) rfl  k) ?_
        show own_Fin p e below G (T12.setTop (mkF m 22 #[rv a1, iv nd, iv r2, iv r1, iv r1] [(.int r2), (.int r2)]))
        refine own_st (fun _ k => XS.icmpYes X12.here hx rfl (pc0 := 22) (pc' := 40) rfl (hb hby d2_22) rfl (teq (rfl : r2 = r2)).1 (by decide) (by decide) k) ?_
        show own_Fin p e below G (T12.setTop (mkF m 40 #[rv a1, iv nd, iv r2, iv r1, iv r1] []))
        refine own_st (fun _ k => XS.iloadN X12.here hx rfl (hb hby d2_40) rfl  k) ?_
        show own_Fin p e below G (T12.setTop (mkF m 41 #[rv a1, iv nd, iv r2, iv r1, iv r1] [(.int r2)]))
        refine own_out X12 Bd.notSynchronized (v := (some (.int r2))) (fun h => by rw [Bd.returns] at h; cases h) hG (fun fs hr => retOut X12 hx Bd.returns rfl (Or.inl ⟨rfl, Or.inl rfl, _, rfl⟩) (hb hby d2_41) hr) (by decide) (by decide) ?_
        exact ⟨r2, _, rfl, N15, e12.symm ▸ K14, e12.symm ▸ V12, (own_dep2 hF hn e_r1 e_r2 e_r3 hc6_9 hc6_10).2 hc6_11⟩
      · refine own_st (fun _ k => XS.icmpNo X0.here hx rfl (hb hby d2_6) rfl (feq hc6_11).1 k) ?_
        show own_Fin p e below G (s₁.setTop (mkF m 9 #[rv a1, iv nd, iv r2, .unset, .unset] []))
        refine own_st (fun _ k => XS.aloadN X0.here hx rfl (hb hby d2_9) rfl rfl k) ?_
        show own_Fin p e below G (s₁.setTop (mkF m 10 #[rv a1, iv nd, iv r2, .unset, .unset] [(.ref a1)]))
        refine own_st (fun _ k => XS.iloadN X0.here hx rfl (hb hby d2_10) rfl  k) ?_
        show own_Fin p e below G (s₁.setTop (mkF m 11 #[rv a1, iv nd, iv r2, .unset, .unset] [(.int r2), (.ref a1)]))
        refine own_st (fun _ k => own_ldI X0 hx hZ e0 A1 (j := r2) (n := 4) (by simp) (own_inb rg_r2) (g := (mkF m 11 #[rv a1, iv nd, iv r2, .unset, .unset] [(.int r2), (.ref a1)])) rfl rfl (hb hby d2_11) k) ?_
        show own_Fin p e below G (s₁.setTop (mkF m 12 #[rv a1, iv nd, iv r2, .unset, .unset] [(.int ([p0, p1, p2, p3].getD r2.toNatClampNeg 0))]))
        rw [e_r3]
        show own_Fin p e below G (s₁.setTop (mkF m 12 #[rv a1, iv nd, iv r2, .unset, .unset] [(.int r3)]))
        refine own_st (fun _ k => XS.istoreN X0.here hx rfl (hb hby d2_12) rfl (l' := #[rv a1, iv nd, iv r3, .unset, .unset]) rfl k) ?_
        show own_Fin p e below G (s₁.setTop (mkF m 13 #[rv a1, iv nd, iv r3, .unset, .unset] []))
        refine own_st (fun _ k => XS.goto X0.here hx rfl (pc0 := 13) (pc' := 2) rfl (hb hby d2_13) (by decide) (by decide) k) ?_
        show own_Fin p e below G (s₁.setTop (mkF m 2 #[rv a1, iv nd, iv r3, .unset, .unset] []))
        refine own_st (fun _ k => XS.aloadN X0.here hx rfl (hb hby d2_2) rfl rfl k) ?_
        show own_Fin p e below G (s₁.setTop (mkF m 3 #[rv a1, iv nd, iv r3, .unset, .unset] [(.ref a1)]))
        refine own_st (fun _ k => XS.iloadN X0.here hx rfl (hb hby d2_3) rfl  k) ?_
        show own_Fin p e below G (s₁.setTop (mkF m 4 #[rv a1, iv nd, iv r3, .unset, .unset] [(.int r3), (.ref a1)]))
        refine own_st (fun _ k => own_ldI X0 hx hZ e0 A1 (j := r3) (n := 4) (by simp) (own_inb rg_r3) (g := (mkF m 4 #[rv a1, iv nd, iv r3, .unset, .unset] [(.int r3), (.ref a1)])) rfl rfl (hb hby d2_4) k) ?_
        show own_Fin p e below G (s₁.setTop (mkF m 5 #[rv a1, iv nd, iv r3, .unset, .unset] [(.int ([p0, p1, p2, p3].getD r3.toNatClampNeg 0))]))
        have rg_r4 := own_gF hF rg_r3
        generalize e_r4 : ([p0, p1, p2, p3].getD r3.toNatClampNeg 0) = r4 at *
        show own_Fin p e below G (s₁.setTop (mkF m 5 #[rv a1, iv nd, iv r3, .unset, .unset] [(.int r4)]))
        refine own_st (fun _ k => XS.iloadN X0.here hx rfl (hb hby d2_5) rfl  k) ?_
        show own_Fin p e below G (s₁.setTop (mkF m 6 #[rv a1, iv nd, iv r3, .unset, .unset] [(.int r3), (.int r4)]))
        have D2 := own_dep2 hF hn e_r1 e_r2 e_r3 hc6_9 hc6_10
        have D3 := own_dep3 hF hn e_r1 e_r2 e_r3 e_r4 hc6_9 hc6_10 hc6_11
        refine own_st (fun _ k => XS.icmpYes X0.here hx rfl (pc0 := 6) (pc' := 16) rfl (hb hby d2_6) rfl (teq D3.1).1 (by decide) (by decide) k) ?_
        show own_Fin p e below G (s₁.setTop (mkF m 16 #[rv a1, iv nd, iv r3, .unset, .unset] []))
        refine own_st (fun _ k => XS.iloadN X0.here hx rfl (hb hby d2_16) rfl  k) ?_
        show own_Fin p e below G (s₁.setTop (mkF m 17 #[rv a1, iv nd, iv r3, .unset, .unset] [(.int nd)]))
        refine own_st (fun _ k => XS.istoreN X0.here hx rfl (hb hby d2_17) rfl (l' := #[rv a1, iv nd, iv r3, iv nd, .unset]) rfl k) ?_
        show own_Fin p e below G (s₁.setTop (mkF m 18 #[rv a1, iv nd, iv r3, iv nd, .unset] []))
        refine own_st (fun _ k => XS.aloadN X0.here hx rfl (hb hby d2_18) rfl rfl k) ?_
        show own_Fin p e below G (s₁.setTop (mkF m 19 #[rv a1, iv nd, iv r3, iv nd, .unset] [(.ref a1)]))
        refine own_st (fun _ k => XS.iloadN X0.here hx rfl (hb hby d2_19) rfl  k) ?_
        show own_Fin p e below G (s₁.setTop (mkF m 20 #[rv a1, iv nd, iv r3, iv nd, .unset] [(.int nd), (.ref a1)]))
        refine own_st (fun _ k => own_ldI X0 hx hZ e0 A1 (j := nd) (n := 4) (by simp) (own_inb hn) (g := (mkF m 20 #[rv a1, iv nd, iv r3, iv nd, .unset] [(.int nd), (.ref a1)])) rfl rfl (hb hby d2_20) k) ?_
        show own_Fin p e below G (s₁.setTop (mkF m 21 #[rv a1, iv nd, iv r3, iv nd, .unset] [(.int ([p0, p1, p2, p3].getD nd.toNatClampNeg 0))]))
        rw [e_r1]
        show own_Fin p e below G (s₁.setTop (mkF m 21 #[rv a1, iv nd, iv r3, iv nd, .unset] [(.int r1)]))
        refine own_st (fun _ k => XS.iloadN X0.here hx rfl (hb hby d2_21) rfl  k) ?_
        show own_Fin p e below G (s₁.setTop (mkF m 22 #[rv a1, iv nd, iv r3, iv nd, .unset] [(.int r3), (.int r1)]))
        refine own_st (fun _ k => XS.icmpNo X0.here hx rfl (hb hby d2_22) rfl (feq D3.2.1).1 k) ?_
        show own_Fin p e below G (s₁.setTop (mkF m 25 #[rv a1, iv nd, iv r3, iv nd, .unset] []))
        refine own_st (fun _ k => XS.aloadN X0.here hx rfl (hb hby d2_25) rfl rfl k) ?_
        show own_Fin p e below G (s₁.setTop (mkF m 26 #[rv a1, iv nd, iv r3, iv nd, .unset] [(.ref a1)]))
        refine own_st (fun _ k => XS.iloadN X0.here hx rfl (hb hby d2_26) rfl  k) ?_
        show own_Fin p e below G (s₁.setTop (mkF m 27 #[rv a1, iv nd, iv r3, iv nd, .unset] [(.int nd), (.ref a1)]))
        refine own_st (fun _ k => own_ldI X0 hx hZ e0 A1 (j := nd) (n := 4) (by simp) (own_inb hn) (g := (mkF m 27 #[rv a1, iv nd, iv r3, iv nd, .unset] [(.int nd), (.ref a1)])) rfl rfl (hb hby d2_27) k) ?_
        show own_Fin p e below G (s₁.setTop (mkF m 28 #[rv a1, iv nd, iv r3, iv nd, .unset] [(.int ([p0, p1, p2, p3].getD nd.toNatClampNeg 0))]))
        rw [e_r1]
        show own_Fin p e below G (s₁.setTop (mkF m 28 #[rv a1, iv nd, iv r3, iv nd, .unset] [(.int r1)]))
        refine own_st (fun _ k => XS.istore X0.here hx rfl (hb hby d2_28) rfl (l' := #[rv a1, iv nd, iv r3, iv nd, iv r1]) rfl k) ?_
        show own_Fin p e below G (s₁.setTop (mkF m 30 #[rv a1, iv nd, iv r3, iv nd, iv r1] []))
        refine own_st (fun _ k => XS.aloadN X0.here hx rfl (hb hby d2_30) rfl rfl k) ?_
        show own_Fin p e below G (s₁.setTop (mkF m 31 #[rv a1, iv nd, iv r3, iv nd, iv r1] [(.ref a1)]))
        refine own_st (fun _ k => XS.iloadN X0.here hx rfl (hb hby d2_31) rfl  k) ?_
        show own_Fin p e below G (s₁.setTop (mkF m 32 #[rv a1, iv nd, iv r3, iv nd, iv r1] [(.int nd), (.ref a1)]))
        refine own_st (fun _ k => XS.iloadN X0.here hx rfl (hb hby d2_32) rfl  k) ?_
        show own_Fin p e below G (s₁.setTop (mkF m 33 #[rv a1, iv nd, iv r3, iv nd, iv r1] [(.int r3), (.int nd), (.ref a1)]))
        obtain ⟨T16, h16, X16, e16, W16, V16, st16⟩ := own_stI X0 hx hZ e0 A1 (j := nd) (n := 4) (by simp) (own_inb hn) (g := (mkF m 33 #[rv a1, iv nd, iv r3, iv nd, iv r1] [(.int r3), (.int nd), (.ref a1)])) rfl rfl (hb hby d2_33)
        have K18 : Keep h0 h16 [a1] := K0.wr W16 (Or.inl (List.mem_of_getElem? (i := 0) rfl))
        have N19 := Fr.snoc X16 N0 g1
        replace V16 : own_AV Z h16 a1 .int (own_is ([p0, p1, p2, p3].set nd.toNatClampNeg r3)) := V16
        refine own_st st16 ?_
        show own_Fin p e below G (T16.setTop (mkF m 34 #[rv a1, iv nd, iv r3, iv nd, iv r1] []))
        refine own_st (fun _ k => XS.iload X16.here hx rfl (hb hby d2_34) rfl  k) ?_
        show own_Fin p e below G (T16.setTop (mkF m 36 #[rv a1, iv nd, iv r3, iv nd, iv r1] [(.int r1)]))
        refine own_st (fun _ k => XS.istoreN X16.here hx rfl (hb hby d2_36) rfl (l' := #[rv a1, iv nd, iv r3, iv r1, iv r1]) rfl k) ?_
        show own_Fin p e below G (T16.setTop (mkF m 37 #[rv a1, iv nd, iv r3, iv r1, iv r1] []))
        refine own_st (fun _ k => XS.goto X16.here hx rfl (pc0 := 37) (pc' := 18) rfl (hb hby d2_37) (by decide) (by decide) k) ?_
        show own_Fin p e below G (T16.setTop (mkF m 18 #[rv a1, iv nd, iv r3, iv r1, iv r1] []))
        refine own_st (fun _ k => XS.aloadN X16.here hx rfl (hb hby d2_18) rfl rfl k) ?_
        show own_Fin p e below G (T16.setTop (mkF m 19 #[rv a1, iv nd, iv r3, iv r1, iv r1] [(.ref a1)]))
        refine own_st (fun _ k => XS.iloadN X16.here hx rfl (hb hby d2_19) rfl  k) ?_
        show own_Fin p e below G (T16.setTop (mkF m 20 #[rv a1, iv nd, iv r3, iv r1, iv r1] [(.int r1), (.ref a1)]))
        refine own_st (fun _ k => own_ldI X16 hx hZ e16 V16 (j := r1) (n := 4) (by simp) (own_inb rg_r1) (g := (mkF m 20 #[rv a1, iv nd, iv r3, iv r1, iv r1] [(.int r1), (.ref a1)])) rfl rfl (hb hby d2_20) k) ?_
        show own_Fin p e below G (T16.setTop (mkF m 21 #[rv a1, iv nd, iv r3, iv r1, iv r1] [(.int (([p0, p1, p2, p3].set nd.toNatClampNeg r3).getD r1.toNatClampNeg 0))]))
        rw [own_gs hn rg_r1 (fun q => hc6_9 q.symm), e_r2]
        show own_Fin p e below G (T16.setTop (mkF m 21 #[rv a1, iv nd, iv r3, iv r1, iv r1] [(.int r2)]))
        refine own_st (fun _ k => XS.iloadN X16.here hx rfl (hb hby d2_21) rfl  k) ?_
        show own_Fin p e below G (T16.setTop (mkF m 22 #[rv a1, iv nd, iv r3, iv r1, iv r1] [(.int r3), (.int r2)]))
        refine own_st (fun _ k => XS.icmpNo X16.here hx rfl (hb hby d2_22) rfl (feq (fun q => hc6_11 q.symm)).1 k) ?_
        show own_Fin p e below G (T16.setTop (mkF m 25 #[rv a1, iv nd, iv r3, iv r1, iv r1] []))
        refine own_st (fun _ k => XS.aloadN X16.here hx rfl (hb hby d2_25) rfl rfl k) ?_
        show own_Fin p e below G (T16.setTop (mkF m 26 #[rv a1, iv nd, iv r3, iv r1, iv r1] [(.ref a1)]))
        refine own_st (fun _ k => XS.iloadN X16.here hx rfl (hb hby d2_26) rfl  k) ?_
        show own_Fin p e below G (T16.setTop (mkF m 27 #[rv a1, iv nd, iv r3, iv r1, iv r1] [(.int r1), (.ref a1)]))
        refine own_st (fun _ k => own_ldI X16 hx hZ e16 V16 (j := r1) (n := 4) (by simp) (own_inb rg_r1) (g := (mkF m 27 #[rv a1, iv nd, iv r3, iv r1, iv r1] [(.int r1), (.ref a1)])) rfl rfl (hb hby d2_27) k) ?_
        show own_Fin p e below G (T16.setTop (mkF m 28 #[rv a1, iv nd, iv r3, iv r1, iv r1] [(.int (([p0, p1, p2, p3].set nd.toNatClampNeg r3).getD r1.toNatClampNeg 0))]))
        rw [own_gs hn rg_r1 (fun q => hc6_9 q.symm), e_r2]
        show own_Fin p e below G (T16.setTop (mkF m 28 #[rv a1, iv nd, iv r3, iv r1, iv r1] [(.int r2)]))
        refine own_st (fun _ k => XS.istore X16.here hx rfl (hb hby d2_28) rfl (l' := #[rv a1, iv nd, iv r3, iv r1, iv r2]) rfl k) ?_
        show own_Fin p e below G (T16.setTop (mkF m 30 #[rv a1, iv nd, iv r3, iv r1, iv r2] []))
        refine own_st (fun _ k => XS.aloadN X16.here hx rfl (hb hby d2_30) rfl rfl k) ?_
        show own_Fin p e below G (T16.setTop (mkF m 31 #[rv a1, iv nd, iv r3, iv r1, iv r2] [(.ref a1)]))
        refine own_st (fun _ k => XS.iloadN X16.here hx rfl (hb hby d2_31) rfl  k) ?_
        show own_Fin p e below G (T16.setTop (mkF m 32 #[rv a1, iv nd, iv r3, iv r1, iv r2] [(.int r1), (.ref a1)]))
        refine own_st (fun _ k => XS.iloadN X16.here hx rfl (hb hby d2_32) rfl  k) ?_
        show own_Fin p e below G (T16.setTop (mkF m 33 #[rv a1, iv nd, iv r3, iv r1, iv r2] [(.int r3), (.int r1), (.ref a1)]))
        obtain ⟨T20, h20, X20, e20, W20, V20, st20⟩ := own_stI X16 hx hZ e16 V16 (j := r1) (n := 4) (by simp) (own_inb rg_r1) (g := (mkF m 33 #[rv a1, iv nd, iv r3, iv r1, iv r2] [(.int r3), (.int r1), (.ref a1)])) rfl rfl (hb hby d2_33)
        have K22 : Keep h0 h20 [a1] := K18.wr W20 (Or.inl (List.mem_of_getElem? (i := 0) rfl))
        have N23 := Fr.snoc X20 N19 g1
        replace V20 : own_AV Z h20 a1 .int (own_is (([p0, p1, p2, p3].set nd.toNatClampNeg r3).set r1.toNatClampNeg r3)) := V20
        refine own_st st20 ?_
        show own_Fin p e below G (T20.setTop (mkF m 34 #[rv a1, iv nd, iv r3, iv r1, iv r2] []))
        refine own_st (fun _ k => XS.iload X20.here hx rfl (hb hby d2_34) rfl  k) ?_
        show own_Fin p e below G (T20.setTop (mkF m 36 #[rv a1, iv nd, iv r3, iv r1, iv r2] [(.int r2)]))
        refine own_st (fun _ k => XS.istoreN X20.here hx rfl (hb hby d2_36) rfl (l' := #[rv a1, iv nd, iv r3, iv r2, iv r2]) rfl k) ?_
        show own_Fin p e below G (T20.setTop (mkF m 37 #[rv a1, iv nd, iv r3, iv r2, iv r2] []))
        refine own_st (fun _ k => XS.goto X20.here hx rfl (pc0 := 37) (pc' := 18) rfl (hb hby d2_37) (by decide) (by decide) k) ?_
        show own_Fin p e below G (T20.setTop (mkF m 18 #[rv a1, iv nd, iv r3, iv r2, iv r2] []))
        refine own_st (fun _ k => XS.aloadN X20.here hx rfl (hb hby d2_18) rfl rfl k) ?_
        show own_Fin p e below G (T20.setTop (mkF m 19 #[rv a1, iv nd, iv r3, iv r2, iv r2] [(.ref a1)]))
        refine own_st (fun _ k => XS.iloadN X20.here hx rfl (hb hby d2_19) rfl  k) ?_
        show own_Fin p e below G (T20.setTop (mkF m 20 #[rv a1, iv nd, iv r3, iv r2, iv r2] [(.int r2), (.ref a1)]))
        refine own_st (fun _ k => own_ldI X20 hx hZ e20 V20 (j := r2) (n := 4) (by simp) (own_inb rg_r2) (g := (mkF m 20 #[rv a1, iv nd, iv r3, iv r2, iv r2] [(.int r2), (.ref a1)])) rfl rfl (hb hby d2_20) k) ?_
        show own_Fin p e below G (T20.setTop (mkF m 21 #[rv a1, iv nd, iv r3, iv r2, iv r2] [(.int ((([p0, p1, p2, p3].set nd.toNatClampNeg r3).set r1.toNatClampNeg r3).getD r2.toNatClampNeg 0))]))
        rw [own_gs rg_r1 rg_r2 (fun q => hc6_10 q.symm), own_gs hn rg_r2 (fun q => D2.1 q.symm), e_r3]
        show own_Fin p e below G (T20.setTop (mkF m 21 #[rv a1, iv nd, iv r3, iv r2, iv r2] [(.int r3)]))
        refine own_st (fun _ k => XS.iloadN X20.here hx rfl (hb hby d2_21) rfl  k) ?_
        show own_Fin p e below G (T20.setTop (mkF m 22 #[rv a1, iv nd, iv r3, iv r2, iv r2] [(.int r3), (.int r3)]))
        refine own_st (fun _ k => XS.icmpYes X20.here hx rfl (pc0 := 22) (pc' := 40) rfl (hb hby d2_22) rfl (teq (rfl : r3 = r3)).1 (by decide) (by decide) k) ?_
        show own_Fin p e below G (T20.setTop (mkF m 40 #[rv a1, iv nd, iv r3, iv r2, iv r2] []))
        refine own_st (fun _ k => XS.iloadN X20.here hx rfl (hb hby d2_40) rfl  k) ?_
        show own_Fin p e below G (T20.setTop (mkF m 41 #[rv a1, iv nd, iv r3, iv r2, iv r2] [(.int r3)]))
        refine own_out X20 Bd.notSynchronized (v := (some (.int r3))) (fun h => by rw [Bd.returns] at h; cases h) hG (fun fs hr => retOut X20 hx Bd.returns rfl (Or.inl ⟨rfl, Or.inl rfl, _, rfl⟩) (hb hby d2_41) hr) (by decide) (by decide) ?_
        exact ⟨r3, _, rfl, N23, e20.symm ▸ K22, e20.symm ▸ V20, D3.2.2⟩

theorem d3_0 : decode method_4_code 0 = .ok (.iload_n 2, 1) := by decide +kernel
theorem d3_1 : decode method_4_code 1 = .ok (.iload_n 3, 1) := by decide +kernel
theorem d3_2 : decode method_4_code 2 = .ok (.if_icmp .eq 21, 3) := by decide +kernel
theorem d3_23 : decode method_4_code 23 = .ok (.iconst 1, 1) := by decide +kernel
theorem d3_24 : decode method_4_code 24 = .ok (.goto 4, 3) := by decide +kernel
theorem d3_28 : decode method_4_code 28 = .ok (.istore 8, 2) := by decide +kernel
theorem d3_30 : decode method_4_code 30 = .ok (.aload_n 0, 1) := by decide +kernel
theorem d3_31 : decode method_4_code 31 = .ok (.iload_n 2, 1) := by decide +kernel
theorem d3_32 : decode method_4_code 32 = .ok (.iaload, 1) := by decide +kernel
theorem d3_33 : decode method_4_code 33 = .ok (.iload 8, 2) := by decide +kernel
theorem d3_35 : decode method_4_code 35 = .ok (.ifCond .eq 8, 3) := by decide +kernel
theorem d3_38 : decode method_4_code 38 = .ok (.iload 7, 2) := by decide +kernel
theorem d3_40 : decode method_4_code 40 = .ok (.goto 6, 3) := by decide +kernel
theorem d3_46 : decode method_4_code 46 = .ok (.if_icmp .ne 7, 3) := by decide +kernel
theorem d3_49 : decode method_4_code 49 = .ok (.iconst 1, 1) := by decide +kernel
theorem d3_50 : decode method_4_code 50 = .ok (.goto 4, 3) := by decide +kernel
theorem d3_54 : decode method_4_code 54 = .ok (.ireturn, 1) := by decide +kernel
theorem d3_53 : decode method_4_code 53 = .ok (.iconst 0, 1) := by decide +kernel
theorem d3_5 : decode method_4_code 5 = .ok (.iload_n 2, 1) := by decide +kernel
theorem d3_6 : decode method_4_code 6 = .ok (.iload 4, 2) := by decide +kernel
theorem d3_8 : decode method_4_code 8 = .ok (.if_icmp .eq 15, 3) := by decide +kernel
theorem d3_11 : decode method_4_code 11 = .ok (.iload_n 2, 1) := by decide +kernel
theorem d3_12 : decode method_4_code 12 = .ok (.iload 5, 2) := by decide +kernel
theorem d3_14 : decode method_4_code 14 = .ok (.if_icmp .eq 9, 3) := by decide +kernel
theorem d3_17 : decode method_4_code 17 = .ok (.iload_n 2, 1) := by decide +kernel
theorem d3_18 : decode method_4_code 18 = .ok (.iload 6, 2) := by decide +kernel
theorem d3_20 : decode method_4_code 20 = .ok (.if_icmp .ne 7, 3) := by decide +kernel
theorem d3_27 : decode method_4_code 27 = .ok (.iconst 0, 1) := by decide +kernel
theorem d3_43 : decode method_4_code 43 = .ok (.aload_n 1, 1) := by decide +kernel
theorem d3_44 : decode method_4_code 44 = .ok (.iload_n 2, 1) := by decide +kernel
theorem d3_45 : decode method_4_code 45 = .ok (.iaload, 1) := by decide +kernel
theorem ef_3_RRIIIIII (m : MethodId) (x0 : Addr) (x1 : Addr) (x2 : Int32) (x3 : Int32) (x4 : Int32) (x5 : Int32) (x6 : Int32) (x7 : Int32) : entryFrame m #[(.ref x0), (.ref x1), (.int x2), (.int x3), (.int x4), (.int x5), (.int x6), (.int x7)] 9 = mkF m 0 #[rv x0, rv x1, iv x2, iv x3, iv x4, iv x5, iv x6, iv x7, .unset] [] := by first | (simp [entryFrame, mkF, argsToLocals, Value.category]; done) | rfl
def Qrm_ck (Z : State) (a1 : Addr) (a2 : Addr) (cx : Int32) (x0 : Int32) (x1 : Int32) (x2 : Int32) (x3 : Int32) (r : Int32) (xs : List Int32) (qs : List Int32) (h0 : Heap) (n0 : Nat) (v : Option Value) (h : Heap) (L : List Loc) : Prop := v = some (.int (own_check xs qs cx x0 x1 x2 x3 r)) ∧ Fr n0 L ∧ h = h0
set_option maxRecDepth 65536 in
set_option maxHeartbeats 40000000 in
theorem rm_ck (l : Launch) (Z : State) (a0 : Array Value) (hw : ∀ d ∈ tables_1, d.before a0 Z = true) (ws : List Jvm.Cond) (a1 : Addr) (a2 : Addr) (cx : Int32) (x0 : Int32) (x1 : Int32) (x2 : Int32) (x3 : Int32) (r : Int32) (xs : List Int32) (qs : List Int32) (h0 : Heap) (n0 : Nat) (Z0 : n0 ≤ h0.size) (A1 : own_AV Z h0 a1 .int (own_is xs)) (A2 : own_AV Z h0 a2 .int (own_is qs)) (hl : xs.length = 4) (hl2 : qs.length = 4) (rc : own_R 4 cx) :
    MetFree l own_y2 (head1 (Jvm.Cond.code own_y2 method_4_code 9 (some .boolean) :: ws) ({ frames := 0, cells := 0, slots := 0, locals := 0 } : Room)) (fun a U => a = #[(.ref a1), (.ref a2), (.int cx), (.int x0), (.int x1), (.int x2), (.int x3), (.int r)] ∧ Z.Warmed39 U.vm ∧ U.heap = h0) (fun _ _ _ _ _ => True) (fun _ U o U' => ∃ v L, o = .returned v ∧ Qrm_ck Z a1 a2 cx x0 x1 x2 x3 r xs qs h0 n0 v U'.heap L ∧ FrameEnd U o U' L ({ frames := 0, cells := 0, slots := 0, locals := 0 } : Room).cells ({ frames := 0, cells := 0, slots := 0, locals := 0 } : Room).slots) := by
  refine MetFree.of_bodySF (plainFor_of_name pn_com_example_urania_urania_layered_UnionFindRootPinLaw) hisR ?_
  intro p e s m args below meth c s₁ Bd hml0 hP hK
  obtain ⟨rfl, hZ, hh⟩ := hP
  have hx := Bd.exec
  have hby := Bd.bytes
  have hml : c.maxLocals = 9 := hml0
  have hown : s.vm.findClass "com/example/urania/urania/layered/UnionFindRootPinLaw" = some m.cls := findClass_of_methodNamed Bd.named
  have hnm := (name_of_methodNamed Bd.named Bd.method).1
  have X0 : Stand p l e ({ frames := 0, cells := 0, slots := 0, locals := 0 } : Room) s m #[(.ref a1), (.ref a2), (.int cx), (.int x0), (.int x1), (.int x2), (.int x3), (.int r)] below meth c s₁ [] 0 0 := Stand.of_body Bd
  have e0 : s₁.heap = h0 := by rw [← hh, Bd.state]; rfl
  have N0 := Fr.nil n0
  have K0 : Keep h0 h0 [] := Keep.refl _ _
  refine own_start (Qk := Qrm_ck Z a1 a2 cx x0 x1 x2 x3 r xs qs h0 n0) (fun G hG => ?_)
  refine own_st (fun _ k => castTop (ef_3_RRIIIIII m a1 a2 cx x0 x1 x2 x3 r) k) ?_
  show own_Fin p e below G (s₁.setTop (mkF m 0 #[rv a1, rv a2, iv cx, iv x0, iv x1, iv x2, iv x3, iv r, .unset] []))
  refine own_st (fun _ k => XS.iloadN X0.here hx rfl (hb hby d3_0) rfl  k) ?_
  show own_Fin p e below G (s₁.setTop (mkF m 1 #[rv a1, rv a2, iv cx, iv x0, iv x1, iv x2, iv x3, iv r, .unset] [(.int cx)]))
  refine own_st (fun _ k => XS.iloadN X0.here hx rfl (hb hby d3_1) rfl  k) ?_
  show own_Fin p e below G (s₁.setTop (mkF m 2 #[rv a1, rv a2, iv cx, iv x0, iv x1, iv x2, iv x3, iv r, .unset] [(.int x0), (.int cx)]))
  by_cases hc2_24 : cx = x0
  · refine own_st (fun _ k => XS.icmpYes X0.here hx rfl (pc0 := 2) (pc' := 23) rfl (hb hby d3_2) rfl (teq hc2_24).1 (by decide) (by decide) k) ?_
    show own_Fin p e below G (s₁.setTop (mkF m 23 #[rv a1, rv a2, iv cx, iv x0, iv x1, iv x2, iv x3, iv r, .unset] []))
    refine own_st (fun _ k => XS.iconst X0.here hx rfl (hb hby d3_23) k) ?_
    show own_Fin p e below G (s₁.setTop (mkF m 24 #[rv a1, rv a2, iv cx, iv x0, iv x1, iv x2, iv x3, iv r, .unset] [(.int (1 : Int32))]))
    refine own_st (fun _ k => XS.goto X0.here hx rfl (pc0 := 24) (pc' := 28) rfl (hb hby d3_24) (by decide) (by decide) k) ?_
    show own_Fin p e below G (s₁.setTop (mkF m 28 #[rv a1, rv a2, iv cx, iv x0, iv x1, iv x2, iv x3, iv r, .unset] [(.int (1 : Int32))]))
    refine own_st (fun _ k => XS.istore X0.here hx rfl (hb hby d3_28) rfl (l' := #[rv a1, rv a2, iv cx, iv x0, iv x1, iv x2, iv x3, iv r, iv (1 : Int32)]) rfl k) ?_
    show own_Fin p e below G (s₁.setTop (mkF m 30 #[rv a1, rv a2, iv cx, iv x0, iv x1, iv x2, iv x3, iv r, iv (1 : Int32)] []))
    refine own_st (fun _ k => XS.aloadN X0.here hx rfl (hb hby d3_30) rfl rfl k) ?_
    show own_Fin p e below G (s₁.setTop (mkF m 31 #[rv a1, rv a2, iv cx, iv x0, iv x1, iv x2, iv x3, iv r, iv (1 : Int32)] [(.ref a1)]))
    refine own_st (fun _ k => XS.iloadN X0.here hx rfl (hb hby d3_31) rfl  k) ?_
    show own_Fin p e below G (s₁.setTop (mkF m 32 #[rv a1, rv a2, iv cx, iv x0, iv x1, iv x2, iv x3, iv r, iv (1 : Int32)] [(.int cx), (.ref a1)]))
    refine own_st (fun _ k => own_ldI X0 hx hZ e0 A1 (j := cx) (n := 4) hl (own_inb rc) (g := (mkF m 32 #[rv a1, rv a2, iv cx, iv x0, iv x1, iv x2, iv x3, iv r, iv (1 : Int32)] [(.int cx), (.ref a1)])) rfl rfl (hb hby d3_32) k) ?_
    show own_Fin p e below G (s₁.setTop (mkF m 33 #[rv a1, rv a2, iv cx, iv x0, iv x1, iv x2, iv x3, iv r, iv (1 : Int32)] [(.int (xs.getD cx.toNatClampNeg 0))]))
    refine own_st (fun _ k => XS.iload X0.here hx rfl (hb hby d3_33) rfl  k) ?_
    show own_Fin p e below G (s₁.setTop (mkF m 35 #[rv a1, rv a2, iv cx, iv x0, iv x1, iv x2, iv x3, iv r, iv (1 : Int32)] [(.int (1 : Int32)), (.int (xs.getD cx.toNatClampNeg 0))]))
    refine own_st (fun _ k => XS.ifNo X0.here hx rfl (hb hby d3_35) rfl ((if0 _ _).trans (feq (by decide : ¬ ((1 : Int32) = (0 : Int32)))).1) k) ?_
    show own_Fin p e below G (s₁.setTop (mkF m 38 #[rv a1, rv a2, iv cx, iv x0, iv x1, iv x2, iv x3, iv r, iv (1 : Int32)] [(.int (xs.getD cx.toNatClampNeg 0))]))
    refine own_st (fun _ k => XS.iload X0.here hx rfl (hb hby d3_38) rfl  k) ?_
    show own_Fin p e below G (s₁.setTop (mkF m 40 #[rv a1, rv a2, iv cx, iv x0, iv x1, iv x2, iv x3, iv r, iv (1 : Int32)] [(.int r), (.int (xs.getD cx.toNatClampNeg 0))]))
    refine own_st (fun _ k => XS.goto X0.here hx rfl (pc0 := 40) (pc' := 46) rfl (hb hby d3_40) (by decide) (by decide) k) ?_
    show own_Fin p e below G (s₁.setTop (mkF m 46 #[rv a1, rv a2, iv cx, iv x0, iv x1, iv x2, iv x3, iv r, iv (1 : Int32)] [(.int r), (.int (xs.getD cx.toNatClampNeg 0))]))
    by_cases hc46_25 : (xs.getD cx.toNatClampNeg 0) = r
    · refine own_st (fun _ k => XS.icmpNo X0.here hx rfl (hb hby d3_46) rfl (teq hc46_25).2 k) ?_
      show own_Fin p e below G (s₁.setTop (mkF m 49 #[rv a1, rv a2, iv cx, iv x0, iv x1, iv x2, iv x3, iv r, iv (1 : Int32)] []))
      refine own_st (fun _ k => XS.iconst X0.here hx rfl (hb hby d3_49) k) ?_
      show own_Fin p e below G (s₁.setTop (mkF m 50 #[rv a1, rv a2, iv cx, iv x0, iv x1, iv x2, iv x3, iv r, iv (1 : Int32)] [(.int (1 : Int32))]))
      refine own_st (fun _ k => XS.goto X0.here hx rfl (pc0 := 50) (pc' := 54) rfl (hb hby d3_50) (by decide) (by decide) k) ?_
      show own_Fin p e below G (s₁.setTop (mkF m 54 #[rv a1, rv a2, iv cx, iv x0, iv x1, iv x2, iv x3, iv r, iv (1 : Int32)] [(.int (1 : Int32))]))
      refine own_out X0 Bd.notSynchronized (v := (some (.int (1 : Int32)))) (fun h => by rw [Bd.returns] at h; cases h) hG (fun fs hr => retN X0 hx (t := .boolean) Bd.returns (by simp) (hb hby d3_54) hr) (by decide) (by decide) ?_
      exact ⟨by unfold own_check; rw [if_pos hc2_24, if_pos hc46_25], N0, e0⟩
    · refine own_st (fun _ k => XS.icmpYes X0.here hx rfl (pc0 := 46) (pc' := 53) rfl (hb hby d3_46) rfl (feq hc46_25).2 (by decide) (by decide) k) ?_
      show own_Fin p e below G (s₁.setTop (mkF m 53 #[rv a1, rv a2, iv cx, iv x0, iv x1, iv x2, iv x3, iv r, iv (1 : Int32)] []))
      refine own_st (fun _ k => XS.iconst X0.here hx rfl (hb hby d3_53) k) ?_
      show own_Fin p e below G (s₁.setTop (mkF m 54 #[rv a1, rv a2, iv cx, iv x0, iv x1, iv x2, iv x3, iv r, iv (1 : Int32)] [(.int (0 : Int32))]))
      refine own_out X0 Bd.notSynchronized (v := (some (.int (0 : Int32)))) (fun h => by rw [Bd.returns] at h; cases h) hG (fun fs hr => retN X0 hx (t := .boolean) Bd.returns (by simp) (hb hby d3_54) hr) (by decide) (by decide) ?_
      exact ⟨by unfold own_check; rw [if_pos hc2_24, if_neg hc46_25], N0, e0⟩
  · refine own_st (fun _ k => XS.icmpNo X0.here hx rfl (hb hby d3_2) rfl (feq hc2_24).1 k) ?_
    show own_Fin p e below G (s₁.setTop (mkF m 5 #[rv a1, rv a2, iv cx, iv x0, iv x1, iv x2, iv x3, iv r, .unset] []))
    refine own_st (fun _ k => XS.iloadN X0.here hx rfl (hb hby d3_5) rfl  k) ?_
    show own_Fin p e below G (s₁.setTop (mkF m 6 #[rv a1, rv a2, iv cx, iv x0, iv x1, iv x2, iv x3, iv r, .unset] [(.int cx)]))
    refine own_st (fun _ k => XS.iload X0.here hx rfl (hb hby d3_6) rfl  k) ?_
    show own_Fin p e below G (s₁.setTop (mkF m 8 #[rv a1, rv a2, iv cx, iv x0, iv x1, iv x2, iv x3, iv r, .unset] [(.int x1), (.int cx)]))
    by_cases hc8_26 : cx = x1
    · refine own_st (fun _ k => XS.icmpYes X0.here hx rfl (pc0 := 8) (pc' := 23) rfl (hb hby d3_8) rfl (teq hc8_26).1 (by decide) (by decide) k) ?_
      show own_Fin p e below G (s₁.setTop (mkF m 23 #[rv a1, rv a2, iv cx, iv x0, iv x1, iv x2, iv x3, iv r, .unset] []))
      refine own_st (fun _ k => XS.iconst X0.here hx rfl (hb hby d3_23) k) ?_
      show own_Fin p e below G (s₁.setTop (mkF m 24 #[rv a1, rv a2, iv cx, iv x0, iv x1, iv x2, iv x3, iv r, .unset] [(.int (1 : Int32))]))
      refine own_st (fun _ k => XS.goto X0.here hx rfl (pc0 := 24) (pc' := 28) rfl (hb hby d3_24) (by decide) (by decide) k) ?_
      show own_Fin p e below G (s₁.setTop (mkF m 28 #[rv a1, rv a2, iv cx, iv x0, iv x1, iv x2, iv x3, iv r, .unset] [(.int (1 : Int32))]))
      refine own_st (fun _ k => XS.istore X0.here hx rfl (hb hby d3_28) rfl (l' := #[rv a1, rv a2, iv cx, iv x0, iv x1, iv x2, iv x3, iv r, iv (1 : Int32)]) rfl k) ?_
      show own_Fin p e below G (s₁.setTop (mkF m 30 #[rv a1, rv a2, iv cx, iv x0, iv x1, iv x2, iv x3, iv r, iv (1 : Int32)] []))
      refine own_st (fun _ k => XS.aloadN X0.here hx rfl (hb hby d3_30) rfl rfl k) ?_
      show own_Fin p e below G (s₁.setTop (mkF m 31 #[rv a1, rv a2, iv cx, iv x0, iv x1, iv x2, iv x3, iv r, iv (1 : Int32)] [(.ref a1)]))
      refine own_st (fun _ k => XS.iloadN X0.here hx rfl (hb hby d3_31) rfl  k) ?_
      show own_Fin p e below G (s₁.setTop (mkF m 32 #[rv a1, rv a2, iv cx, iv x0, iv x1, iv x2, iv x3, iv r, iv (1 : Int32)] [(.int cx), (.ref a1)]))
      refine own_st (fun _ k => own_ldI X0 hx hZ e0 A1 (j := cx) (n := 4) hl (own_inb rc) (g := (mkF m 32 #[rv a1, rv a2, iv cx, iv x0, iv x1, iv x2, iv x3, iv r, iv (1 : Int32)] [(.int cx), (.ref a1)])) rfl rfl (hb hby d3_32) k) ?_
      show own_Fin p e below G (s₁.setTop (mkF m 33 #[rv a1, rv a2, iv cx, iv x0, iv x1, iv x2, iv x3, iv r, iv (1 : Int32)] [(.int (xs.getD cx.toNatClampNeg 0))]))
      refine own_st (fun _ k => XS.iload X0.here hx rfl (hb hby d3_33) rfl  k) ?_
      show own_Fin p e below G (s₁.setTop (mkF m 35 #[rv a1, rv a2, iv cx, iv x0, iv x1, iv x2, iv x3, iv r, iv (1 : Int32)] [(.int (1 : Int32)), (.int (xs.getD cx.toNatClampNeg 0))]))
      refine own_st (fun _ k => XS.ifNo X0.here hx rfl (hb hby d3_35) rfl ((if0 _ _).trans (feq (by decide : ¬ ((1 : Int32) = (0 : Int32)))).1) k) ?_
      show own_Fin p e below G (s₁.setTop (mkF m 38 #[rv a1, rv a2, iv cx, iv x0, iv x1, iv x2, iv x3, iv r, iv (1 : Int32)] [(.int (xs.getD cx.toNatClampNeg 0))]))
      refine own_st (fun _ k => XS.iload X0.here hx rfl (hb hby d3_38) rfl  k) ?_
      show own_Fin p e below G (s₁.setTop (mkF m 40 #[rv a1, rv a2, iv cx, iv x0, iv x1, iv x2, iv x3, iv r, iv (1 : Int32)] [(.int r), (.int (xs.getD cx.toNatClampNeg 0))]))
      refine own_st (fun _ k => XS.goto X0.here hx rfl (pc0 := 40) (pc' := 46) rfl (hb hby d3_40) (by decide) (by decide) k) ?_
      show own_Fin p e below G (s₁.setTop (mkF m 46 #[rv a1, rv a2, iv cx, iv x0, iv x1, iv x2, iv x3, iv r, iv (1 : Int32)] [(.int r), (.int (xs.getD cx.toNatClampNeg 0))]))
      by_cases hc46_27 : (xs.getD cx.toNatClampNeg 0) = r
      · refine own_st (fun _ k => XS.icmpNo X0.here hx rfl (hb hby d3_46) rfl (teq hc46_27).2 k) ?_
        show own_Fin p e below G (s₁.setTop (mkF m 49 #[rv a1, rv a2, iv cx, iv x0, iv x1, iv x2, iv x3, iv r, iv (1 : Int32)] []))
        refine own_st (fun _ k => XS.iconst X0.here hx rfl (hb hby d3_49) k) ?_
        show own_Fin p e below G (s₁.setTop (mkF m 50 #[rv a1, rv a2, iv cx, iv x0, iv x1, iv x2, iv x3, iv r, iv (1 : Int32)] [(.int (1 : Int32))]))
        refine own_st (fun _ k => XS.goto X0.here hx rfl (pc0 := 50) (pc' := 54) rfl (hb hby d3_50) (by decide) (by decide) k) ?_
        show own_Fin p e below G (s₁.setTop (mkF m 54 #[rv a1, rv a2, iv cx, iv x0, iv x1, iv x2, iv x3, iv r, iv (1 : Int32)] [(.int (1 : Int32))]))
        refine own_out X0 Bd.notSynchronized (v := (some (.int (1 : Int32)))) (fun h => by rw [Bd.returns] at h; cases h) hG (fun fs hr => retN X0 hx (t := .boolean) Bd.returns (by simp) (hb hby d3_54) hr) (by decide) (by decide) ?_
        exact ⟨by unfold own_check; rw [if_neg hc2_24, if_pos hc8_26, if_pos hc46_27], N0, e0⟩
      · refine own_st (fun _ k => XS.icmpYes X0.here hx rfl (pc0 := 46) (pc' := 53) rfl (hb hby d3_46) rfl (feq hc46_27).2 (by decide) (by decide) k) ?_
        show own_Fin p e below G (s₁.setTop (mkF m 53 #[rv a1, rv a2, iv cx, iv x0, iv x1, iv x2, iv x3, iv r, iv (1 : Int32)] []))
        refine own_st (fun _ k => XS.iconst X0.here hx rfl (hb hby d3_53) k) ?_
        show own_Fin p e below G (s₁.setTop (mkF m 54 #[rv a1, rv a2, iv cx, iv x0, iv x1, iv x2, iv x3, iv r, iv (1 : Int32)] [(.int (0 : Int32))]))
        refine own_out X0 Bd.notSynchronized (v := (some (.int (0 : Int32)))) (fun h => by rw [Bd.returns] at h; cases h) hG (fun fs hr => retN X0 hx (t := .boolean) Bd.returns (by simp) (hb hby d3_54) hr) (by decide) (by decide) ?_
        exact ⟨by unfold own_check; rw [if_neg hc2_24, if_pos hc8_26, if_neg hc46_27], N0, e0⟩
    · refine own_st (fun _ k => XS.icmpNo X0.here hx rfl (hb hby d3_8) rfl (feq hc8_26).1 k) ?_
      show own_Fin p e below G (s₁.setTop (mkF m 11 #[rv a1, rv a2, iv cx, iv x0, iv x1, iv x2, iv x3, iv r, .unset] []))
      refine own_st (fun _ k => XS.iloadN X0.here hx rfl (hb hby d3_11) rfl  k) ?_
      show own_Fin p e below G (s₁.setTop (mkF m 12 #[rv a1, rv a2, iv cx, iv x0, iv x1, iv x2, iv x3, iv r, .unset] [(.int cx)]))
      refine own_st (fun _ k => XS.iload X0.here hx rfl (hb hby d3_12) rfl  k) ?_
      show own_Fin p e below G (s₁.setTop (mkF m 14 #[rv a1, rv a2, iv cx, iv x0, iv x1, iv x2, iv x3, iv r, .unset] [(.int x2), (.int cx)]))
      by_cases hc14_28 : cx = x2
      · refine own_st (fun _ k => XS.icmpYes X0.here hx rfl (pc0 := 14) (pc' := 23) rfl (hb hby d3_14) rfl (teq hc14_28).1 (by decide) (by decide) k) ?_
        show own_Fin p e below G (s₁.setTop (mkF m 23 #[rv a1, rv a2, iv cx, iv x0, iv x1, iv x2, iv x3, iv r, .unset] []))
        refine own_st (fun _ k => XS.iconst X0.here hx rfl (hb hby d3_23) k) ?_
        show own_Fin p e below G (s₁.setTop (mkF m 24 #[rv a1, rv a2, iv cx, iv x0, iv x1, iv x2, iv x3, iv r, .unset] [(.int (1 : Int32))]))
        refine own_st (fun _ k => XS.goto X0.here hx rfl (pc0 := 24) (pc' := 28) rfl (hb hby d3_24) (by decide) (by decide) k) ?_
        show own_Fin p e below G (s₁.setTop (mkF m 28 #[rv a1, rv a2, iv cx, iv x0, iv x1, iv x2, iv x3, iv r, .unset] [(.int (1 : Int32))]))
        refine own_st (fun _ k => XS.istore X0.here hx rfl (hb hby d3_28) rfl (l' := #[rv a1, rv a2, iv cx, iv x0, iv x1, iv x2, iv x3, iv r, iv (1 : Int32)]) rfl k) ?_
        show own_Fin p e below G (s₁.setTop (mkF m 30 #[rv a1, rv a2, iv cx, iv x0, iv x1, iv x2, iv x3, iv r, iv (1 : Int32)] []))
        refine own_st (fun _ k => XS.aloadN X0.here hx rfl (hb hby d3_30) rfl rfl k) ?_
        show own_Fin p e below G (s₁.setTop (mkF m 31 #[rv a1, rv a2, iv cx, iv x0, iv x1, iv x2, iv x3, iv r, iv (1 : Int32)] [(.ref a1)]))
        refine own_st (fun _ k => XS.iloadN X0.here hx rfl (hb hby d3_31) rfl  k) ?_
        show own_Fin p e below G (s₁.setTop (mkF m 32 #[rv a1, rv a2, iv cx, iv x0, iv x1, iv x2, iv x3, iv r, iv (1 : Int32)] [(.int cx), (.ref a1)]))
        refine own_st (fun _ k => own_ldI X0 hx hZ e0 A1 (j := cx) (n := 4) hl (own_inb rc) (g := (mkF m 32 #[rv a1, rv a2, iv cx, iv x0, iv x1, iv x2, iv x3, iv r, iv (1 : Int32)] [(.int cx), (.ref a1)])) rfl rfl (hb hby d3_32) k) ?_
        show own_Fin p e below G (s₁.setTop (mkF m 33 #[rv a1, rv a2, iv cx, iv x0, iv x1, iv x2, iv x3, iv r, iv (1 : Int32)] [(.int (xs.getD cx.toNatClampNeg 0))]))
        refine own_st (fun _ k => XS.iload X0.here hx rfl (hb hby d3_33) rfl  k) ?_
        show own_Fin p e below G (s₁.setTop (mkF m 35 #[rv a1, rv a2, iv cx, iv x0, iv x1, iv x2, iv x3, iv r, iv (1 : Int32)] [(.int (1 : Int32)), (.int (xs.getD cx.toNatClampNeg 0))]))
        refine own_st (fun _ k => XS.ifNo X0.here hx rfl (hb hby d3_35) rfl ((if0 _ _).trans (feq (by decide : ¬ ((1 : Int32) = (0 : Int32)))).1) k) ?_
        show own_Fin p e below G (s₁.setTop (mkF m 38 #[rv a1, rv a2, iv cx, iv x0, iv x1, iv x2, iv x3, iv r, iv (1 : Int32)] [(.int (xs.getD cx.toNatClampNeg 0))]))
        refine own_st (fun _ k => XS.iload X0.here hx rfl (hb hby d3_38) rfl  k) ?_
        show own_Fin p e below G (s₁.setTop (mkF m 40 #[rv a1, rv a2, iv cx, iv x0, iv x1, iv x2, iv x3, iv r, iv (1 : Int32)] [(.int r), (.int (xs.getD cx.toNatClampNeg 0))]))
        refine own_st (fun _ k => XS.goto X0.here hx rfl (pc0 := 40) (pc' := 46) rfl (hb hby d3_40) (by decide) (by decide) k) ?_
        show own_Fin p e below G (s₁.setTop (mkF m 46 #[rv a1, rv a2, iv cx, iv x0, iv x1, iv x2, iv x3, iv r, iv (1 : Int32)] [(.int r), (.int (xs.getD cx.toNatClampNeg 0))]))
        by_cases hc46_29 : (xs.getD cx.toNatClampNeg 0) = r
        · refine own_st (fun _ k => XS.icmpNo X0.here hx rfl (hb hby d3_46) rfl (teq hc46_29).2 k) ?_
          show own_Fin p e below G (s₁.setTop (mkF m 49 #[rv a1, rv a2, iv cx, iv x0, iv x1, iv x2, iv x3, iv r, iv (1 : Int32)] []))
          refine own_st (fun _ k => XS.iconst X0.here hx rfl (hb hby d3_49) k) ?_
          show own_Fin p e below G (s₁.setTop (mkF m 50 #[rv a1, rv a2, iv cx, iv x0, iv x1, iv x2, iv x3, iv r, iv (1 : Int32)] [(.int (1 : Int32))]))
          refine own_st (fun _ k => XS.goto X0.here hx rfl (pc0 := 50) (pc' := 54) rfl (hb hby d3_50) (by decide) (by decide) k) ?_
          show own_Fin p e below G (s₁.setTop (mkF m 54 #[rv a1, rv a2, iv cx, iv x0, iv x1, iv x2, iv x3, iv r, iv (1 : Int32)] [(.int (1 : Int32))]))
          refine own_out X0 Bd.notSynchronized (v := (some (.int (1 : Int32)))) (fun h => by rw [Bd.returns] at h; cases h) hG (fun fs hr => retN X0 hx (t := .boolean) Bd.returns (by simp) (hb hby d3_54) hr) (by decide) (by decide) ?_
          exact ⟨by unfold own_check; rw [if_neg hc2_24, if_neg hc8_26, if_pos hc14_28, if_pos hc46_29], N0, e0⟩
        · refine own_st (fun _ k => XS.icmpYes X0.here hx rfl (pc0 := 46) (pc' := 53) rfl (hb hby d3_46) rfl (feq hc46_29).2 (by decide) (by decide) k) ?_
          show own_Fin p e below G (s₁.setTop (mkF m 53 #[rv a1, rv a2, iv cx, iv x0, iv x1, iv x2, iv x3, iv r, iv (1 : Int32)] []))
          refine own_st (fun _ k => XS.iconst X0.here hx rfl (hb hby d3_53) k) ?_
          show own_Fin p e below G (s₁.setTop (mkF m 54 #[rv a1, rv a2, iv cx, iv x0, iv x1, iv x2, iv x3, iv r, iv (1 : Int32)] [(.int (0 : Int32))]))
          refine own_out X0 Bd.notSynchronized (v := (some (.int (0 : Int32)))) (fun h => by rw [Bd.returns] at h; cases h) hG (fun fs hr => retN X0 hx (t := .boolean) Bd.returns (by simp) (hb hby d3_54) hr) (by decide) (by decide) ?_
          exact ⟨by unfold own_check; rw [if_neg hc2_24, if_neg hc8_26, if_pos hc14_28, if_neg hc46_29], N0, e0⟩
      · refine own_st (fun _ k => XS.icmpNo X0.here hx rfl (hb hby d3_14) rfl (feq hc14_28).1 k) ?_
        show own_Fin p e below G (s₁.setTop (mkF m 17 #[rv a1, rv a2, iv cx, iv x0, iv x1, iv x2, iv x3, iv r, .unset] []))
        refine own_st (fun _ k => XS.iloadN X0.here hx rfl (hb hby d3_17) rfl  k) ?_
        show own_Fin p e below G (s₁.setTop (mkF m 18 #[rv a1, rv a2, iv cx, iv x0, iv x1, iv x2, iv x3, iv r, .unset] [(.int cx)]))
        refine own_st (fun _ k => XS.iload X0.here hx rfl (hb hby d3_18) rfl  k) ?_
        show own_Fin p e below G (s₁.setTop (mkF m 20 #[rv a1, rv a2, iv cx, iv x0, iv x1, iv x2, iv x3, iv r, .unset] [(.int x3), (.int cx)]))
        by_cases hc20_30 : cx = x3
        · refine own_st (fun _ k => XS.icmpNo X0.here hx rfl (hb hby d3_20) rfl (teq hc20_30).2 k) ?_
          show own_Fin p e below G (s₁.setTop (mkF m 23 #[rv a1, rv a2, iv cx, iv x0, iv x1, iv x2, iv x3, iv r, .unset] []))
          refine own_st (fun _ k => XS.iconst X0.here hx rfl (hb hby d3_23) k) ?_
          show own_Fin p e below G (s₁.setTop (mkF m 24 #[rv a1, rv a2, iv cx, iv x0, iv x1, iv x2, iv x3, iv r, .unset] [(.int (1 : Int32))]))
          refine own_st (fun _ k => XS.goto X0.here hx rfl (pc0 := 24) (pc' := 28) rfl (hb hby d3_24) (by decide) (by decide) k) ?_
          show own_Fin p e below G (s₁.setTop (mkF m 28 #[rv a1, rv a2, iv cx, iv x0, iv x1, iv x2, iv x3, iv r, .unset] [(.int (1 : Int32))]))
          refine own_st (fun _ k => XS.istore X0.here hx rfl (hb hby d3_28) rfl (l' := #[rv a1, rv a2, iv cx, iv x0, iv x1, iv x2, iv x3, iv r, iv (1 : Int32)]) rfl k) ?_
          show own_Fin p e below G (s₁.setTop (mkF m 30 #[rv a1, rv a2, iv cx, iv x0, iv x1, iv x2, iv x3, iv r, iv (1 : Int32)] []))
          refine own_st (fun _ k => XS.aloadN X0.here hx rfl (hb hby d3_30) rfl rfl k) ?_
          show own_Fin p e below G (s₁.setTop (mkF m 31 #[rv a1, rv a2, iv cx, iv x0, iv x1, iv x2, iv x3, iv r, iv (1 : Int32)] [(.ref a1)]))
          refine own_st (fun _ k => XS.iloadN X0.here hx rfl (hb hby d3_31) rfl  k) ?_
          show own_Fin p e below G (s₁.setTop (mkF m 32 #[rv a1, rv a2, iv cx, iv x0, iv x1, iv x2, iv x3, iv r, iv (1 : Int32)] [(.int cx), (.ref a1)]))
          refine own_st (fun _ k => own_ldI X0 hx hZ e0 A1 (j := cx) (n := 4) hl (own_inb rc) (g := (mkF m 32 #[rv a1, rv a2, iv cx, iv x0, iv x1, iv x2, iv x3, iv r, iv (1 : Int32)] [(.int cx), (.ref a1)])) rfl rfl (hb hby d3_32) k) ?_
          show own_Fin p e below G (s₁.setTop (mkF m 33 #[rv a1, rv a2, iv cx, iv x0, iv x1, iv x2, iv x3, iv r, iv (1 : Int32)] [(.int (xs.getD cx.toNatClampNeg 0))]))
          refine own_st (fun _ k => XS.iload X0.here hx rfl (hb hby d3_33) rfl  k) ?_
          show own_Fin p e below G (s₁.setTop (mkF m 35 #[rv a1, rv a2, iv cx, iv x0, iv x1, iv x2, iv x3, iv r, iv (1 : Int32)] [(.int (1 : Int32)), (.int (xs.getD cx.toNatClampNeg 0))]))
          refine own_st (fun _ k => XS.ifNo X0.here hx rfl (hb hby d3_35) rfl ((if0 _ _).trans (feq (by decide : ¬ ((1 : Int32) = (0 : Int32)))).1) k) ?_
          show own_Fin p e below G (s₁.setTop (mkF m 38 #[rv a1, rv a2, iv cx, iv x0, iv x1, iv x2, iv x3, iv r, iv (1 : Int32)] [(.int (xs.getD cx.toNatClampNeg 0))]))
          refine own_st (fun _ k => XS.iload X0.here hx rfl (hb hby d3_38) rfl  k) ?_
          show own_Fin p e below G (s₁.setTop (mkF m 40 #[rv a1, rv a2, iv cx, iv x0, iv x1, iv x2, iv x3, iv r, iv (1 : Int32)] [(.int r), (.int (xs.getD cx.toNatClampNeg 0))]))
          refine own_st (fun _ k => XS.goto X0.here hx rfl (pc0 := 40) (pc' := 46) rfl (hb hby d3_40) (by decide) (by decide) k) ?_
          show own_Fin p e below G (s₁.setTop (mkF m 46 #[rv a1, rv a2, iv cx, iv x0, iv x1, iv x2, iv x3, iv r, iv (1 : Int32)] [(.int r), (.int (xs.getD cx.toNatClampNeg 0))]))
          by_cases hc46_31 : (xs.getD cx.toNatClampNeg 0) = r
          · refine own_st (fun _ k => XS.icmpNo X0.here hx rfl (hb hby d3_46) rfl (teq hc46_31).2 k) ?_
            show own_Fin p e below G (s₁.setTop (mkF m 49 #[rv a1, rv a2, iv cx, iv x0, iv x1, iv x2, iv x3, iv r, iv (1 : Int32)] []))
            refine own_st (fun _ k => XS.iconst X0.here hx rfl (hb hby d3_49) k) ?_
            show own_Fin p e below G (s₁.setTop (mkF m 50 #[rv a1, rv a2, iv cx, iv x0, iv x1, iv x2, iv x3, iv r, iv (1 : Int32)] [(.int (1 : Int32))]))
            refine own_st (fun _ k => XS.goto X0.here hx rfl (pc0 := 50) (pc' := 54) rfl (hb hby d3_50) (by decide) (by decide) k) ?_
            show own_Fin p e below G (s₁.setTop (mkF m 54 #[rv a1, rv a2, iv cx, iv x0, iv x1, iv x2, iv x3, iv r, iv (1 : Int32)] [(.int (1 : Int32))]))
            refine own_out X0 Bd.notSynchronized (v := (some (.int (1 : Int32)))) (fun h => by rw [Bd.returns] at h; cases h) hG (fun fs hr => retN X0 hx (t := .boolean) Bd.returns (by simp) (hb hby d3_54) hr) (by decide) (by decide) ?_
            exact ⟨by unfold own_check; rw [if_neg hc2_24, if_neg hc8_26, if_neg hc14_28, if_pos hc20_30, if_pos hc46_31], N0, e0⟩
          · refine own_st (fun _ k => XS.icmpYes X0.here hx rfl (pc0 := 46) (pc' := 53) rfl (hb hby d3_46) rfl (feq hc46_31).2 (by decide) (by decide) k) ?_
            show own_Fin p e below G (s₁.setTop (mkF m 53 #[rv a1, rv a2, iv cx, iv x0, iv x1, iv x2, iv x3, iv r, iv (1 : Int32)] []))
            refine own_st (fun _ k => XS.iconst X0.here hx rfl (hb hby d3_53) k) ?_
            show own_Fin p e below G (s₁.setTop (mkF m 54 #[rv a1, rv a2, iv cx, iv x0, iv x1, iv x2, iv x3, iv r, iv (1 : Int32)] [(.int (0 : Int32))]))
            refine own_out X0 Bd.notSynchronized (v := (some (.int (0 : Int32)))) (fun h => by rw [Bd.returns] at h; cases h) hG (fun fs hr => retN X0 hx (t := .boolean) Bd.returns (by simp) (hb hby d3_54) hr) (by decide) (by decide) ?_
            exact ⟨by unfold own_check; rw [if_neg hc2_24, if_neg hc8_26, if_neg hc14_28, if_pos hc20_30, if_neg hc46_31], N0, e0⟩
        · refine own_st (fun _ k => XS.icmpYes X0.here hx rfl (pc0 := 20) (pc' := 27) rfl (hb hby d3_20) rfl (feq hc20_30).2 (by decide) (by decide) k) ?_
          show own_Fin p e below G (s₁.setTop (mkF m 27 #[rv a1, rv a2, iv cx, iv x0, iv x1, iv x2, iv x3, iv r, .unset] []))
          refine own_st (fun _ k => XS.iconst X0.here hx rfl (hb hby d3_27) k) ?_
          show own_Fin p e below G (s₁.setTop (mkF m 28 #[rv a1, rv a2, iv cx, iv x0, iv x1, iv x2, iv x3, iv r, .unset] [(.int (0 : Int32))]))
          refine own_st (fun _ k => XS.istore X0.here hx rfl (hb hby d3_28) rfl (l' := #[rv a1, rv a2, iv cx, iv x0, iv x1, iv x2, iv x3, iv r, iv (0 : Int32)]) rfl k) ?_
          show own_Fin p e below G (s₁.setTop (mkF m 30 #[rv a1, rv a2, iv cx, iv x0, iv x1, iv x2, iv x3, iv r, iv (0 : Int32)] []))
          refine own_st (fun _ k => XS.aloadN X0.here hx rfl (hb hby d3_30) rfl rfl k) ?_
          show own_Fin p e below G (s₁.setTop (mkF m 31 #[rv a1, rv a2, iv cx, iv x0, iv x1, iv x2, iv x3, iv r, iv (0 : Int32)] [(.ref a1)]))
          refine own_st (fun _ k => XS.iloadN X0.here hx rfl (hb hby d3_31) rfl  k) ?_
          show own_Fin p e below G (s₁.setTop (mkF m 32 #[rv a1, rv a2, iv cx, iv x0, iv x1, iv x2, iv x3, iv r, iv (0 : Int32)] [(.int cx), (.ref a1)]))
          refine own_st (fun _ k => own_ldI X0 hx hZ e0 A1 (j := cx) (n := 4) hl (own_inb rc) (g := (mkF m 32 #[rv a1, rv a2, iv cx, iv x0, iv x1, iv x2, iv x3, iv r, iv (0 : Int32)] [(.int cx), (.ref a1)])) rfl rfl (hb hby d3_32) k) ?_
          show own_Fin p e below G (s₁.setTop (mkF m 33 #[rv a1, rv a2, iv cx, iv x0, iv x1, iv x2, iv x3, iv r, iv (0 : Int32)] [(.int (xs.getD cx.toNatClampNeg 0))]))
          refine own_st (fun _ k => XS.iload X0.here hx rfl (hb hby d3_33) rfl  k) ?_
          show own_Fin p e below G (s₁.setTop (mkF m 35 #[rv a1, rv a2, iv cx, iv x0, iv x1, iv x2, iv x3, iv r, iv (0 : Int32)] [(.int (0 : Int32)), (.int (xs.getD cx.toNatClampNeg 0))]))
          refine own_st (fun _ k => XS.ifYes X0.here hx rfl (pc0 := 35) (pc' := 43) rfl (hb hby d3_35) rfl ((if0 _ _).trans (teq (by decide : ((0 : Int32) = (0 : Int32)))).1) (by decide) (by decide) k) ?_
          show own_Fin p e below G (s₁.setTop (mkF m 43 #[rv a1, rv a2, iv cx, iv x0, iv x1, iv x2, iv x3, iv r, iv (0 : Int32)] [(.int (xs.getD cx.toNatClampNeg 0))]))
          refine own_st (fun _ k => XS.aloadN X0.here hx rfl (hb hby d3_43) rfl rfl k) ?_
          show own_Fin p e below G (s₁.setTop (mkF m 44 #[rv a1, rv a2, iv cx, iv x0, iv x1, iv x2, iv x3, iv r, iv (0 : Int32)] [(.ref a2), (.int (xs.getD cx.toNatClampNeg 0))]))
          refine own_st (fun _ k => XS.iloadN X0.here hx rfl (hb hby d3_44) rfl  k) ?_
          show own_Fin p e below G (s₁.setTop (mkF m 45 #[rv a1, rv a2, iv cx, iv x0, iv x1, iv x2, iv x3, iv r, iv (0 : Int32)] [(.int cx), (.ref a2), (.int (xs.getD cx.toNatClampNeg 0))]))
          refine own_st (fun _ k => own_ldI X0 hx hZ e0 A2 (j := cx) (n := 4) hl2 (own_inb rc) (g := (mkF m 45 #[rv a1, rv a2, iv cx, iv x0, iv x1, iv x2, iv x3, iv r, iv (0 : Int32)] [(.int cx), (.ref a2), (.int (xs.getD cx.toNatClampNeg 0))])) rfl rfl (hb hby d3_45) k) ?_
          show own_Fin p e below G (s₁.setTop (mkF m 46 #[rv a1, rv a2, iv cx, iv x0, iv x1, iv x2, iv x3, iv r, iv (0 : Int32)] [(.int (qs.getD cx.toNatClampNeg 0)), (.int (xs.getD cx.toNatClampNeg 0))]))
          by_cases hc46_32 : (xs.getD cx.toNatClampNeg 0) = (qs.getD cx.toNatClampNeg 0)
          · refine own_st (fun _ k => XS.icmpNo X0.here hx rfl (hb hby d3_46) rfl (teq hc46_32).2 k) ?_
            show own_Fin p e below G (s₁.setTop (mkF m 49 #[rv a1, rv a2, iv cx, iv x0, iv x1, iv x2, iv x3, iv r, iv (0 : Int32)] []))
            refine own_st (fun _ k => XS.iconst X0.here hx rfl (hb hby d3_49) k) ?_
            show own_Fin p e below G (s₁.setTop (mkF m 50 #[rv a1, rv a2, iv cx, iv x0, iv x1, iv x2, iv x3, iv r, iv (0 : Int32)] [(.int (1 : Int32))]))
            refine own_st (fun _ k => XS.goto X0.here hx rfl (pc0 := 50) (pc' := 54) rfl (hb hby d3_50) (by decide) (by decide) k) ?_
            show own_Fin p e below G (s₁.setTop (mkF m 54 #[rv a1, rv a2, iv cx, iv x0, iv x1, iv x2, iv x3, iv r, iv (0 : Int32)] [(.int (1 : Int32))]))
            refine own_out X0 Bd.notSynchronized (v := (some (.int (1 : Int32)))) (fun h => by rw [Bd.returns] at h; cases h) hG (fun fs hr => retN X0 hx (t := .boolean) Bd.returns (by simp) (hb hby d3_54) hr) (by decide) (by decide) ?_
            exact ⟨by unfold own_check; rw [if_neg hc2_24, if_neg hc8_26, if_neg hc14_28, if_neg hc20_30, if_pos hc46_32], N0, e0⟩
          · refine own_st (fun _ k => XS.icmpYes X0.here hx rfl (pc0 := 46) (pc' := 53) rfl (hb hby d3_46) rfl (feq hc46_32).2 (by decide) (by decide) k) ?_
            show own_Fin p e below G (s₁.setTop (mkF m 53 #[rv a1, rv a2, iv cx, iv x0, iv x1, iv x2, iv x3, iv r, iv (0 : Int32)] []))
            refine own_st (fun _ k => XS.iconst X0.here hx rfl (hb hby d3_53) k) ?_
            show own_Fin p e below G (s₁.setTop (mkF m 54 #[rv a1, rv a2, iv cx, iv x0, iv x1, iv x2, iv x3, iv r, iv (0 : Int32)] [(.int (0 : Int32))]))
            refine own_out X0 Bd.notSynchronized (v := (some (.int (0 : Int32)))) (fun h => by rw [Bd.returns] at h; cases h) hG (fun fs hr => retN X0 hx (t := .boolean) Bd.returns (by simp) (hb hby d3_54) hr) (by decide) (by decide) ?_
            exact ⟨by unfold own_check; rw [if_neg hc2_24, if_neg hc8_26, if_neg hc14_28, if_neg hc20_30, if_neg hc46_32], N0, e0⟩

theorem pd___III_V_477 : parseMethodDescriptor "([III)V" = some ⟨[(.array .int), .int, .int], none⟩ := by decide +kernel
theorem pd___II_I_391 : parseMethodDescriptor "([II)I" = some ⟨[(.array .int), .int], some .int⟩ := by decide +kernel
theorem pd___I_IIIIIII_Z_937 : parseMethodDescriptor "([I[IIIIIII)Z" = some ⟨[(.array .int), (.array .int), .int, .int, .int, .int, .int, .int], some .boolean⟩ := by decide +kernel
theorem ef_0_IIIII (m : MethodId) (x0 : Int32) (x1 : Int32) (x2 : Int32) (x3 : Int32) (x4 : Int32) : entryFrame m #[(.int x0), (.int x1), (.int x2), (.int x3), (.int x4)] maxLocals = mkF m 0 #[iv x0, iv x1, iv x2, iv x3, iv x4, .unset, .unset, .unset, .unset, .unset, .unset, .unset, .unset, .unset, .unset, .unset, .unset, .unset, .unset, .unset, .unset] [] := by first | (simp [entryFrame, mkF, argsToLocals, Value.category, maxLocals]; done) | rfl
def Qrm0 (Z : State) (p1 : Int32) (p2 : Int32) (p3 : Int32) (p4 : Int32) (p5 : Int32) (h0 : Heap) (n0 : Nat) (v : Option Value) (h : Heap) (L : List Loc) : Prop := v = some (.int 1) ∧ Fr n0 L
set_option maxRecDepth 65536 in
set_option maxHeartbeats 40000000 in
theorem rm0 (l : Launch) (Z : State) (a0 : Array Value) (hw : ∀ d ∈ tables_1, d.before a0 Z = true) (ws : List Jvm.Cond) (p1 : Int32) (p2 : Int32) (p3 : Int32) (p4 : Int32) (p5 : Int32) (h0 : Heap) (n0 : Nat) (Z0 : n0 ≤ h0.size) :
    MetFree l x (head1 (Jvm.Cond.code x code maxLocals ret :: ws) room_1) (fun a U => a = #[(.int p1), (.int p2), (.int p3), (.int p4), (.int p5)] ∧ Z.Warmed39 U.vm ∧ U.heap = h0) (fun _ _ _ _ _ => True) (fun _ U o U' => ∃ v L, o = .returned v ∧ Qrm0 Z p1 p2 p3 p4 p5 h0 n0 v U'.heap L ∧ FrameEnd U o U' L room_1.cells room_1.slots) := by
  refine MetFree.of_bodySF (plainFor_of_name pn_com_example_urania_urania_layered_UnionFindRootPinLaw) hisR ?_
  intro p e s m args below meth c s₁ Bd hml0 hP hK
  obtain ⟨rfl, hZ, hh⟩ := hP
  have hx := Bd.exec
  have hby := Bd.bytes
  have hml : c.maxLocals = 21 := hml0
  have hown : s.vm.findClass "com/example/urania/urania/layered/UnionFindRootPinLaw" = some m.cls := findClass_of_methodNamed Bd.named
  have hnm := (name_of_methodNamed Bd.named Bd.method).1
  have X0 : Stand p l e room_1 s m #[(.int p1), (.int p2), (.int p3), (.int p4), (.int p5)] below meth c s₁ [] 0 0 := Stand.of_body Bd
  have e0 : s₁.heap = h0 := by rw [← hh, Bd.state]; rfl
  have N0 := Fr.nil n0
  have K0 : Keep h0 h0 [] := Keep.refl _ _
  refine own_start (Qk := Qrm0 Z p1 p2 p3 p4 p5 h0 n0) (fun G hG => ?_)
  refine own_st (fun _ k => castTop (ef_0_IIIII m p1 p2 p3 p4 p5) k) ?_
  show own_Fin p e below G (s₁.setTop (mkF m 0 #[iv p1, iv p2, iv p3, iv p4, iv p5, .unset, .unset, .unset, .unset, .unset, .unset, .unset, .unset, .unset, .unset, .unset, .unset, .unset, .unset, .unset, .unset] []))
  refine own_st (fun _ k => XS.iloadN X0.here hx rfl (hb hby at_0) rfl  k) ?_
  show own_Fin p e below G (s₁.setTop (mkF m 1 #[iv p1, iv p2, iv p3, iv p4, iv p5, .unset, .unset, .unset, .unset, .unset, .unset, .unset, .unset, .unset, .unset, .unset, .unset, .unset, .unset, .unset, .unset] [(.int p1)]))
  refine own_st (fun _ k => own_ldc X0 hx hZ hown (own_w hw 0 rfl) (g := (mkF m 1 #[iv p1, iv p2, iv p3, iv p4, iv p5, .unset, .unset, .unset, .unset, .unset, .unset, .unset, .unset, .unset, .unset, .unset, .unset, .unset, .unset, .unset, .unset] [(.int p1)])) rfl (hb hby at_1) k) ?_
  show own_Fin p e below G (s₁.setTop (mkF m 3 #[iv p1, iv p2, iv p3, iv p4, iv p5, .unset, .unset, .unset, .unset, .unset, .unset, .unset, .unset, .unset, .unset, .unset, .unset, .unset, .unset, .unset, .unset] [(.int (2147483647 : Int32)), (.int p1)]))
  refine own_st (fun _ k => XS.iand X0.here hx rfl (hb hby at_3) rfl k) ?_
  show own_Fin p e below G (s₁.setTop (mkF m 4 #[iv p1, iv p2, iv p3, iv p4, iv p5, .unset, .unset, .unset, .unset, .unset, .unset, .unset, .unset, .unset, .unset, .unset, .unset, .unset, .unset, .unset, .unset] [(.int (p1 &&& (2147483647 : Int32)))]))
  refine own_st (fun _ k => XS.iconst X0.here hx rfl (hb hby at_4) k) ?_
  show own_Fin p e below G (s₁.setTop (mkF m 5 #[iv p1, iv p2, iv p3, iv p4, iv p5, .unset, .unset, .unset, .unset, .unset, .unset, .unset, .unset, .unset, .unset, .unset, .unset, .unset, .unset, .unset, .unset] [(.int (2 : Int32)), (.int (p1 &&& (2147483647 : Int32)))]))
  refine own_st (fun _ k => iremM (g := (mkF m 5 #[iv p1, iv p2, iv p3, iv p4, iv p5, .unset, .unset, .unset, .unset, .unset, .unset, .unset, .unset, .unset, .unset, .unset, .unset, .unset, .unset, .unset, .unset] [(.int (2 : Int32)), (.int (p1 &&& (2147483647 : Int32)))])) X0 hx rfl (hb hby at_5) rfl (by decide) k) ?_
  show own_Fin p e below G (s₁.setTop (mkF m 6 #[iv p1, iv p2, iv p3, iv p4, iv p5, .unset, .unset, .unset, .unset, .unset, .unset, .unset, .unset, .unset, .unset, .unset, .unset, .unset, .unset, .unset, .unset] [(.int ((p1 &&& (2147483647 : Int32)) % (2 : Int32)))]))
  have rn_q1 := own_m p1 2 2 rfl (by decide)
  generalize e_q1 : ((p1 &&& (2147483647 : Int32)) % (2 : Int32)) = q1 at *
  show own_Fin p e below G (s₁.setTop (mkF m 6 #[iv p1, iv p2, iv p3, iv p4, iv p5, .unset, .unset, .unset, .unset, .unset, .unset, .unset, .unset, .unset, .unset, .unset, .unset, .unset, .unset, .unset, .unset] [(.int q1)]))
  refine own_st (fun _ k => XS.istore X0.here hx rfl (hb hby at_6) rfl (l' := #[iv p1, iv p2, iv p3, iv p4, iv p5, iv q1, .unset, .unset, .unset, .unset, .unset, .unset, .unset, .unset, .unset, .unset, .unset, .unset, .unset, .unset, .unset]) rfl k) ?_
  show own_Fin p e below G (s₁.setTop (mkF m 8 #[iv p1, iv p2, iv p3, iv p4, iv p5, iv q1, .unset, .unset, .unset, .unset, .unset, .unset, .unset, .unset, .unset, .unset, .unset, .unset, .unset, .unset, .unset] []))
  refine own_st (fun _ k => XS.iloadN X0.here hx rfl (hb hby at_8) rfl  k) ?_
  show own_Fin p e below G (s₁.setTop (mkF m 9 #[iv p1, iv p2, iv p3, iv p4, iv p5, iv q1, .unset, .unset, .unset, .unset, .unset, .unset, .unset, .unset, .unset, .unset, .unset, .unset, .unset, .unset, .unset] [(.int p2)]))
  refine own_st (fun _ k => own_ldc X0 hx hZ hown (own_w hw 0 rfl) (g := (mkF m 9 #[iv p1, iv p2, iv p3, iv p4, iv p5, iv q1, .unset, .unset, .unset, .unset, .unset, .unset, .unset, .unset, .unset, .unset, .unset, .unset, .unset, .unset, .unset] [(.int p2)])) rfl (hb hby at_9) k) ?_
  show own_Fin p e below G (s₁.setTop (mkF m 11 #[iv p1, iv p2, iv p3, iv p4, iv p5, iv q1, .unset, .unset, .unset, .unset, .unset, .unset, .unset, .unset, .unset, .unset, .unset, .unset, .unset, .unset, .unset] [(.int (2147483647 : Int32)), (.int p2)]))
  refine own_st (fun _ k => XS.iand X0.here hx rfl (hb hby at_11) rfl k) ?_
  show own_Fin p e below G (s₁.setTop (mkF m 12 #[iv p1, iv p2, iv p3, iv p4, iv p5, iv q1, .unset, .unset, .unset, .unset, .unset, .unset, .unset, .unset, .unset, .unset, .unset, .unset, .unset, .unset, .unset] [(.int (p2 &&& (2147483647 : Int32)))]))
  refine own_st (fun _ k => XS.iconst X0.here hx rfl (hb hby at_12) k) ?_
  show own_Fin p e below G (s₁.setTop (mkF m 13 #[iv p1, iv p2, iv p3, iv p4, iv p5, iv q1, .unset, .unset, .unset, .unset, .unset, .unset, .unset, .unset, .unset, .unset, .unset, .unset, .unset, .unset, .unset] [(.int (3 : Int32)), (.int (p2 &&& (2147483647 : Int32)))]))
  refine own_st (fun _ k => iremM (g := (mkF m 13 #[iv p1, iv p2, iv p3, iv p4, iv p5, iv q1, .unset, .unset, .unset, .unset, .unset, .unset, .unset, .unset, .unset, .unset, .unset, .unset, .unset, .unset, .unset] [(.int (3 : Int32)), (.int (p2 &&& (2147483647 : Int32)))])) X0 hx rfl (hb hby at_13) rfl (by decide) k) ?_
  show own_Fin p e below G (s₁.setTop (mkF m 14 #[iv p1, iv p2, iv p3, iv p4, iv p5, iv q1, .unset, .unset, .unset, .unset, .unset, .unset, .unset, .unset, .unset, .unset, .unset, .unset, .unset, .unset, .unset] [(.int ((p2 &&& (2147483647 : Int32)) % (3 : Int32)))]))
  have rn_q2 := own_m p2 3 3 rfl (by decide)
  generalize e_q2 : ((p2 &&& (2147483647 : Int32)) % (3 : Int32)) = q2 at *
  show own_Fin p e below G (s₁.setTop (mkF m 14 #[iv p1, iv p2, iv p3, iv p4, iv p5, iv q1, .unset, .unset, .unset, .unset, .unset, .unset, .unset, .unset, .unset, .unset, .unset, .unset, .unset, .unset, .unset] [(.int q2)]))
  refine own_st (fun _ k => XS.istore X0.here hx rfl (hb hby at_14) rfl (l' := #[iv p1, iv p2, iv p3, iv p4, iv p5, iv q1, iv q2, .unset, .unset, .unset, .unset, .unset, .unset, .unset, .unset, .unset, .unset, .unset, .unset, .unset, .unset]) rfl k) ?_
  show own_Fin p e below G (s₁.setTop (mkF m 16 #[iv p1, iv p2, iv p3, iv p4, iv p5, iv q1, iv q2, .unset, .unset, .unset, .unset, .unset, .unset, .unset, .unset, .unset, .unset, .unset, .unset, .unset, .unset] []))
  refine own_st (fun _ k => XS.iloadN X0.here hx rfl (hb hby at_16) rfl  k) ?_
  show own_Fin p e below G (s₁.setTop (mkF m 17 #[iv p1, iv p2, iv p3, iv p4, iv p5, iv q1, iv q2, .unset, .unset, .unset, .unset, .unset, .unset, .unset, .unset, .unset, .unset, .unset, .unset, .unset, .unset] [(.int p3)]))
  refine own_st (fun _ k => own_ldc X0 hx hZ hown (own_w hw 0 rfl) (g := (mkF m 17 #[iv p1, iv p2, iv p3, iv p4, iv p5, iv q1, iv q2, .unset, .unset, .unset, .unset, .unset, .unset, .unset, .unset, .unset, .unset, .unset, .unset, .unset, .unset] [(.int p3)])) rfl (hb hby at_17) k) ?_
  show own_Fin p e below G (s₁.setTop (mkF m 19 #[iv p1, iv p2, iv p3, iv p4, iv p5, iv q1, iv q2, .unset, .unset, .unset, .unset, .unset, .unset, .unset, .unset, .unset, .unset, .unset, .unset, .unset, .unset] [(.int (2147483647 : Int32)), (.int p3)]))
  refine own_st (fun _ k => XS.iand X0.here hx rfl (hb hby at_19) rfl k) ?_
  show own_Fin p e below G (s₁.setTop (mkF m 20 #[iv p1, iv p2, iv p3, iv p4, iv p5, iv q1, iv q2, .unset, .unset, .unset, .unset, .unset, .unset, .unset, .unset, .unset, .unset, .unset, .unset, .unset, .unset] [(.int (p3 &&& (2147483647 : Int32)))]))
  refine own_st (fun _ k => XS.iconst X0.here hx rfl (hb hby at_20) k) ?_
  show own_Fin p e below G (s₁.setTop (mkF m 21 #[iv p1, iv p2, iv p3, iv p4, iv p5, iv q1, iv q2, .unset, .unset, .unset, .unset, .unset, .unset, .unset, .unset, .unset, .unset, .unset, .unset, .unset, .unset] [(.int (4 : Int32)), (.int (p3 &&& (2147483647 : Int32)))]))
  refine own_st (fun _ k => iremM (g := (mkF m 21 #[iv p1, iv p2, iv p3, iv p4, iv p5, iv q1, iv q2, .unset, .unset, .unset, .unset, .unset, .unset, .unset, .unset, .unset, .unset, .unset, .unset, .unset, .unset] [(.int (4 : Int32)), (.int (p3 &&& (2147483647 : Int32)))])) X0 hx rfl (hb hby at_21) rfl (by decide) k) ?_
  show own_Fin p e below G (s₁.setTop (mkF m 22 #[iv p1, iv p2, iv p3, iv p4, iv p5, iv q1, iv q2, .unset, .unset, .unset, .unset, .unset, .unset, .unset, .unset, .unset, .unset, .unset, .unset, .unset, .unset] [(.int ((p3 &&& (2147483647 : Int32)) % (4 : Int32)))]))
  have rn_q3 := own_m p3 4 4 rfl (by decide)
  generalize e_q3 : ((p3 &&& (2147483647 : Int32)) % (4 : Int32)) = q3 at *
  show own_Fin p e below G (s₁.setTop (mkF m 22 #[iv p1, iv p2, iv p3, iv p4, iv p5, iv q1, iv q2, .unset, .unset, .unset, .unset, .unset, .unset, .unset, .unset, .unset, .unset, .unset, .unset, .unset, .unset] [(.int q3)]))
  refine own_st (fun _ k => XS.istore X0.here hx rfl (hb hby at_22) rfl (l' := #[iv p1, iv p2, iv p3, iv p4, iv p5, iv q1, iv q2, iv q3, .unset, .unset, .unset, .unset, .unset, .unset, .unset, .unset, .unset, .unset, .unset, .unset, .unset]) rfl k) ?_
  show own_Fin p e below G (s₁.setTop (mkF m 24 #[iv p1, iv p2, iv p3, iv p4, iv p5, iv q1, iv q2, iv q3, .unset, .unset, .unset, .unset, .unset, .unset, .unset, .unset, .unset, .unset, .unset, .unset, .unset] []))
  refine own_st (fun _ k => XS.iloadN X0.here hx rfl (hb hby at_24) rfl  k) ?_
  show own_Fin p e below G (s₁.setTop (mkF m 25 #[iv p1, iv p2, iv p3, iv p4, iv p5, iv q1, iv q2, iv q3, .unset, .unset, .unset, .unset, .unset, .unset, .unset, .unset, .unset, .unset, .unset, .unset, .unset] [(.int p4)]))
  refine own_st (fun _ k => own_ldc X0 hx hZ hown (own_w hw 0 rfl) (g := (mkF m 25 #[iv p1, iv p2, iv p3, iv p4, iv p5, iv q1, iv q2, iv q3, .unset, .unset, .unset, .unset, .unset, .unset, .unset, .unset, .unset, .unset, .unset, .unset, .unset] [(.int p4)])) rfl (hb hby at_25) k) ?_
  show own_Fin p e below G (s₁.setTop (mkF m 27 #[iv p1, iv p2, iv p3, iv p4, iv p5, iv q1, iv q2, iv q3, .unset, .unset, .unset, .unset, .unset, .unset, .unset, .unset, .unset, .unset, .unset, .unset, .unset] [(.int (2147483647 : Int32)), (.int p4)]))
  refine own_st (fun _ k => XS.iand X0.here hx rfl (hb hby at_27) rfl k) ?_
  show own_Fin p e below G (s₁.setTop (mkF m 28 #[iv p1, iv p2, iv p3, iv p4, iv p5, iv q1, iv q2, iv q3, .unset, .unset, .unset, .unset, .unset, .unset, .unset, .unset, .unset, .unset, .unset, .unset, .unset] [(.int (p4 &&& (2147483647 : Int32)))]))
  refine own_st (fun _ k => XS.bipush X0.here hx rfl (hb hby at_28) k) ?_
  show own_Fin p e below G (s₁.setTop (mkF m 30 #[iv p1, iv p2, iv p3, iv p4, iv p5, iv q1, iv q2, iv q3, .unset, .unset, .unset, .unset, .unset, .unset, .unset, .unset, .unset, .unset, .unset, .unset, .unset] [(.int (24 : Int32)), (.int (p4 &&& (2147483647 : Int32)))]))
  refine own_st (fun _ k => iremM (g := (mkF m 30 #[iv p1, iv p2, iv p3, iv p4, iv p5, iv q1, iv q2, iv q3, .unset, .unset, .unset, .unset, .unset, .unset, .unset, .unset, .unset, .unset, .unset, .unset, .unset] [(.int (24 : Int32)), (.int (p4 &&& (2147483647 : Int32)))])) X0 hx rfl (hb hby at_30) rfl (by decide) k) ?_
  show own_Fin p e below G (s₁.setTop (mkF m 31 #[iv p1, iv p2, iv p3, iv p4, iv p5, iv q1, iv q2, iv q3, .unset, .unset, .unset, .unset, .unset, .unset, .unset, .unset, .unset, .unset, .unset, .unset, .unset] [(.int ((p4 &&& (2147483647 : Int32)) % (24 : Int32)))]))
  have rn_kq := own_m p4 24 24 rfl (by decide)
  generalize e_kq : ((p4 &&& (2147483647 : Int32)) % (24 : Int32)) = kq at *
  show own_Fin p e below G (s₁.setTop (mkF m 31 #[iv p1, iv p2, iv p3, iv p4, iv p5, iv q1, iv q2, iv q3, .unset, .unset, .unset, .unset, .unset, .unset, .unset, .unset, .unset, .unset, .unset, .unset, .unset] [(.int kq)]))
  refine own_st (fun _ k => XS.istore X0.here hx rfl (hb hby at_31) rfl (l' := #[iv p1, iv p2, iv p3, iv p4, iv p5, iv q1, iv q2, iv q3, iv kq, .unset, .unset, .unset, .unset, .unset, .unset, .unset, .unset, .unset, .unset, .unset, .unset]) rfl k) ?_
  show own_Fin p e below G (s₁.setTop (mkF m 33 #[iv p1, iv p2, iv p3, iv p4, iv p5, iv q1, iv q2, iv q3, iv kq, .unset, .unset, .unset, .unset, .unset, .unset, .unset, .unset, .unset, .unset, .unset, .unset] []))
  refine own_st (fun _ k => XS.iload X0.here hx rfl (hb hby at_33) rfl  k) ?_
  show own_Fin p e below G (s₁.setTop (mkF m 35 #[iv p1, iv p2, iv p3, iv p4, iv p5, iv q1, iv q2, iv q3, iv kq, .unset, .unset, .unset, .unset, .unset, .unset, .unset, .unset, .unset, .unset, .unset, .unset] [(.int kq)]))
  refine own_st (fun _ k => XS.bipush X0.here hx rfl (hb hby at_35) k) ?_
  show own_Fin p e below G (s₁.setTop (mkF m 37 #[iv p1, iv p2, iv p3, iv p4, iv p5, iv q1, iv q2, iv q3, iv kq, .unset, .unset, .unset, .unset, .unset, .unset, .unset, .unset, .unset, .unset, .unset, .unset] [(.int (6 : Int32)), (.int kq)]))
  refine own_st (fun _ k => XS.idiv X0.here hx rfl (hb hby at_37) rfl (by decide) k) ?_
  show own_Fin p e below G (s₁.setTop (mkF m 38 #[iv p1, iv p2, iv p3, iv p4, iv p5, iv q1, iv q2, iv q3, iv kq, .unset, .unset, .unset, .unset, .unset, .unset, .unset, .unset, .unset, .unset, .unset, .unset] [(.int (kq / (6 : Int32)))]))
  have rn_c0 := own_d6 rn_kq
  generalize e_c0 : (kq / (6 : Int32)) = c0 at *
  show own_Fin p e below G (s₁.setTop (mkF m 38 #[iv p1, iv p2, iv p3, iv p4, iv p5, iv q1, iv q2, iv q3, iv kq, .unset, .unset, .unset, .unset, .unset, .unset, .unset, .unset, .unset, .unset, .unset, .unset] [(.int c0)]))
  refine own_st (fun _ k => XS.istore X0.here hx rfl (hb hby at_38) rfl (l' := #[iv p1, iv p2, iv p3, iv p4, iv p5, iv q1, iv q2, iv q3, iv kq, iv c0, .unset, .unset, .unset, .unset, .unset, .unset, .unset, .unset, .unset, .unset, .unset]) rfl k) ?_
  show own_Fin p e below G (s₁.setTop (mkF m 40 #[iv p1, iv p2, iv p3, iv p4, iv p5, iv q1, iv q2, iv q3, iv kq, iv c0, .unset, .unset, .unset, .unset, .unset, .unset, .unset, .unset, .unset, .unset, .unset] []))
  refine own_st (fun _ k => XS.iload X0.here hx rfl (hb hby at_40) rfl  k) ?_
  show own_Fin p e below G (s₁.setTop (mkF m 42 #[iv p1, iv p2, iv p3, iv p4, iv p5, iv q1, iv q2, iv q3, iv kq, iv c0, .unset, .unset, .unset, .unset, .unset, .unset, .unset, .unset, .unset, .unset, .unset] [(.int kq)]))
  refine own_st (fun _ k => XS.bipush X0.here hx rfl (hb hby at_42) k) ?_
  show own_Fin p e below G (s₁.setTop (mkF m 44 #[iv p1, iv p2, iv p3, iv p4, iv p5, iv q1, iv q2, iv q3, iv kq, iv c0, .unset, .unset, .unset, .unset, .unset, .unset, .unset, .unset, .unset, .unset, .unset] [(.int (6 : Int32)), (.int kq)]))
  refine own_st (fun _ k => iremM (g := (mkF m 44 #[iv p1, iv p2, iv p3, iv p4, iv p5, iv q1, iv q2, iv q3, iv kq, iv c0, .unset, .unset, .unset, .unset, .unset, .unset, .unset, .unset, .unset, .unset, .unset] [(.int (6 : Int32)), (.int kq)])) X0 hx rfl (hb hby at_44) rfl (by decide) k) ?_
  show own_Fin p e below G (s₁.setTop (mkF m 45 #[iv p1, iv p2, iv p3, iv p4, iv p5, iv q1, iv q2, iv q3, iv kq, iv c0, .unset, .unset, .unset, .unset, .unset, .unset, .unset, .unset, .unset, .unset, .unset] [(.int (kq % (6 : Int32)))]))
  refine own_st (fun _ k => XS.iconst X0.here hx rfl (hb hby at_45) k) ?_
  show own_Fin p e below G (s₁.setTop (mkF m 46 #[iv p1, iv p2, iv p3, iv p4, iv p5, iv q1, iv q2, iv q3, iv kq, iv c0, .unset, .unset, .unset, .unset, .unset, .unset, .unset, .unset, .unset, .unset, .unset] [(.int (2 : Int32)), (.int (kq % (6 : Int32)))]))
  refine own_st (fun _ k => XS.idiv X0.here hx rfl (hb hby at_46) rfl (by decide) k) ?_
  show own_Fin p e below G (s₁.setTop (mkF m 47 #[iv p1, iv p2, iv p3, iv p4, iv p5, iv q1, iv q2, iv q3, iv kq, iv c0, .unset, .unset, .unset, .unset, .unset, .unset, .unset, .unset, .unset, .unset, .unset] [(.int ((kq % (6 : Int32)) / (2 : Int32)))]))
  have rn_c1 := own_d2 rn_kq
  generalize e_c1 : ((kq % (6 : Int32)) / (2 : Int32)) = c1 at *
  show own_Fin p e below G (s₁.setTop (mkF m 47 #[iv p1, iv p2, iv p3, iv p4, iv p5, iv q1, iv q2, iv q3, iv kq, iv c0, .unset, .unset, .unset, .unset, .unset, .unset, .unset, .unset, .unset, .unset, .unset] [(.int c1)]))
  refine own_st (fun _ k => XS.istore X0.here hx rfl (hb hby at_47) rfl (l' := #[iv p1, iv p2, iv p3, iv p4, iv p5, iv q1, iv q2, iv q3, iv kq, iv c0, iv c1, .unset, .unset, .unset, .unset, .unset, .unset, .unset, .unset, .unset, .unset]) rfl k) ?_
  show own_Fin p e below G (s₁.setTop (mkF m 49 #[iv p1, iv p2, iv p3, iv p4, iv p5, iv q1, iv q2, iv q3, iv kq, iv c0, iv c1, .unset, .unset, .unset, .unset, .unset, .unset, .unset, .unset, .unset, .unset] []))
  refine own_st (fun _ k => XS.iload X0.here hx rfl (hb hby at_49) rfl  k) ?_
  show own_Fin p e below G (s₁.setTop (mkF m 51 #[iv p1, iv p2, iv p3, iv p4, iv p5, iv q1, iv q2, iv q3, iv kq, iv c0, iv c1, .unset, .unset, .unset, .unset, .unset, .unset, .unset, .unset, .unset, .unset] [(.int kq)]))
  refine own_st (fun _ k => XS.iconst X0.here hx rfl (hb hby at_51) k) ?_
  show own_Fin p e below G (s₁.setTop (mkF m 52 #[iv p1, iv p2, iv p3, iv p4, iv p5, iv q1, iv q2, iv q3, iv kq, iv c0, iv c1, .unset, .unset, .unset, .unset, .unset, .unset, .unset, .unset, .unset, .unset] [(.int (2 : Int32)), (.int kq)]))
  refine own_st (fun _ k => iremM (g := (mkF m 52 #[iv p1, iv p2, iv p3, iv p4, iv p5, iv q1, iv q2, iv q3, iv kq, iv c0, iv c1, .unset, .unset, .unset, .unset, .unset, .unset, .unset, .unset, .unset, .unset] [(.int (2 : Int32)), (.int kq)])) X0 hx rfl (hb hby at_52) rfl (by decide) k) ?_
  show own_Fin p e below G (s₁.setTop (mkF m 53 #[iv p1, iv p2, iv p3, iv p4, iv p5, iv q1, iv q2, iv q3, iv kq, iv c0, iv c1, .unset, .unset, .unset, .unset, .unset, .unset, .unset, .unset, .unset, .unset] [(.int (kq % (2 : Int32)))]))
  have rn_c2 := own_m2 rn_kq
  generalize e_c2 : (kq % (2 : Int32)) = c2 at *
  show own_Fin p e below G (s₁.setTop (mkF m 53 #[iv p1, iv p2, iv p3, iv p4, iv p5, iv q1, iv q2, iv q3, iv kq, iv c0, iv c1, .unset, .unset, .unset, .unset, .unset, .unset, .unset, .unset, .unset, .unset] [(.int c2)]))
  refine own_st (fun _ k => XS.istore X0.here hx rfl (hb hby at_53) rfl (l' := #[iv p1, iv p2, iv p3, iv p4, iv p5, iv q1, iv q2, iv q3, iv kq, iv c0, iv c1, iv c2, .unset, .unset, .unset, .unset, .unset, .unset, .unset, .unset, .unset]) rfl k) ?_
  show own_Fin p e below G (s₁.setTop (mkF m 55 #[iv p1, iv p2, iv p3, iv p4, iv p5, iv q1, iv q2, iv q3, iv kq, iv c0, iv c1, iv c2, .unset, .unset, .unset, .unset, .unset, .unset, .unset, .unset, .unset] []))
  refine own_st (fun _ k => XS.iconst X0.here hx rfl (hb hby at_55) k) ?_
  show own_Fin p e below G (s₁.setTop (mkF m 56 #[iv p1, iv p2, iv p3, iv p4, iv p5, iv q1, iv q2, iv q3, iv kq, iv c0, iv c1, iv c2, .unset, .unset, .unset, .unset, .unset, .unset, .unset, .unset, .unset] [(.int (4 : Int32))]))
  obtain ⟨T33, h33, k33, X33, e33, E33, A33, st33⟩ := newP X0 hx hZ (own_w hw 1 rfl) e0 (g := (mkF m 56 #[iv p1, iv p2, iv p3, iv p4, iv p5, iv q1, iv q2, iv q3, iv kq, iv c0, iv c1, iv c2, .unset, .unset, .unset, .unset, .unset, .unset, .unset, .unset, .unset] [(.int (4 : Int32))])) rfl (hb hby at_56) rfl (by decide) (cap := 4) (by decide) (by decide) (by decide) (by decide)
  obtain ⟨b33, g33⟩ : ∃ z, z = h0.size := ⟨_, rfl⟩
  rw [← g33] at A33 st33
  have sz_b33 : h0.size ≤ b33 := Nat.le_trans K0.1 (Nat.le_of_eq g33.symm)
  have g_b33 : n0 ≤ b33 := Nat.le_trans Z0 sz_b33
  have K35 : Keep h0 h33 [] := K0.ext E33
  have V33 : own_AV Z h33 b33 .int (own_is [(0 : Int32), (0 : Int32), (0 : Int32), (0 : Int32)]) := own_AV_newI A33
  refine own_st st33 ?_
  show own_Fin p e below G (T33.setTop (mkF m 58 #[iv p1, iv p2, iv p3, iv p4, iv p5, iv q1, iv q2, iv q3, iv kq, iv c0, iv c1, iv c2, .unset, .unset, .unset, .unset, .unset, .unset, .unset, .unset, .unset] [(.ref b33)]))
  refine own_st (fun _ k => XS.dup X33.here hx rfl (hb hby at_58) rfl rfl k) ?_
  show own_Fin p e below G (T33.setTop (mkF m 59 #[iv p1, iv p2, iv p3, iv p4, iv p5, iv q1, iv q2, iv q3, iv kq, iv c0, iv c1, iv c2, .unset, .unset, .unset, .unset, .unset, .unset, .unset, .unset, .unset] [(.ref b33), (.ref b33)]))
  refine own_st (fun _ k => XS.iconst X33.here hx rfl (hb hby at_59) k) ?_
  show own_Fin p e below G (T33.setTop (mkF m 60 #[iv p1, iv p2, iv p3, iv p4, iv p5, iv q1, iv q2, iv q3, iv kq, iv c0, iv c1, iv c2, .unset, .unset, .unset, .unset, .unset, .unset, .unset, .unset, .unset] [(.int (0 : Int32)), (.ref b33), (.ref b33)]))
  refine own_st (fun _ k => XS.iconst X33.here hx rfl (hb hby at_60) k) ?_
  show own_Fin p e below G (T33.setTop (mkF m 61 #[iv p1, iv p2, iv p3, iv p4, iv p5, iv q1, iv q2, iv q3, iv kq, iv c0, iv c1, iv c2, .unset, .unset, .unset, .unset, .unset, .unset, .unset, .unset, .unset] [(.int (0 : Int32)), (.int (0 : Int32)), (.ref b33), (.ref b33)]))
  obtain ⟨T36, h36, X36, e36, W36, V36, st36⟩ := own_stI X33 hx hZ e33 V33 (j := (0 : Int32)) (n := 4) rfl (by decide) (g := (mkF m 61 #[iv p1, iv p2, iv p3, iv p4, iv p5, iv q1, iv q2, iv q3, iv kq, iv c0, iv c1, iv c2, .unset, .unset, .unset, .unset, .unset, .unset, .unset, .unset, .unset] [(.int (0 : Int32)), (.int (0 : Int32)), (.ref b33), (.ref b33)])) rfl rfl (hb hby at_61)
  have K38 : Keep h0 h36 [] := K35.wr W36 (Or.inr sz_b33)
  have N39 := Fr.snoc X36 N0 g_b33
  replace V36 : own_AV Z h36 b33 .int (own_is [(0 : Int32), (0 : Int32), (0 : Int32), (0 : Int32)]) := V36
  refine own_st st36 ?_
  show own_Fin p e below G (T36.setTop (mkF m 62 #[iv p1, iv p2, iv p3, iv p4, iv p5, iv q1, iv q2, iv q3, iv kq, iv c0, iv c1, iv c2, .unset, .unset, .unset, .unset, .unset, .unset, .unset, .unset, .unset] [(.ref b33)]))
  refine own_st (fun _ k => XS.dup X36.here hx rfl (hb hby at_62) rfl rfl k) ?_
  show own_Fin p e below G (T36.setTop (mkF m 63 #[iv p1, iv p2, iv p3, iv p4, iv p5, iv q1, iv q2, iv q3, iv kq, iv c0, iv c1, iv c2, .unset, .unset, .unset, .unset, .unset, .unset, .unset, .unset, .unset] [(.ref b33), (.ref b33)]))
  refine own_st (fun _ k => XS.iconst X36.here hx rfl (hb hby at_63) k) ?_
  show own_Fin p e below G (T36.setTop (mkF m 64 #[iv p1, iv p2, iv p3, iv p4, iv p5, iv q1, iv q2, iv q3, iv kq, iv c0, iv c1, iv c2, .unset, .unset, .unset, .unset, .unset, .unset, .unset, .unset, .unset] [(.int (1 : Int32)), (.ref b33), (.ref b33)]))
  refine own_st (fun _ k => XS.iconst X36.here hx rfl (hb hby at_64) k) ?_
  show own_Fin p e below G (T36.setTop (mkF m 65 #[iv p1, iv p2, iv p3, iv p4, iv p5, iv q1, iv q2, iv q3, iv kq, iv c0, iv c1, iv c2, .unset, .unset, .unset, .unset, .unset, .unset, .unset, .unset, .unset] [(.int (1 : Int32)), (.int (1 : Int32)), (.ref b33), (.ref b33)]))
  obtain ⟨T40, h40, X40, e40, W40, V40, st40⟩ := own_stI X36 hx hZ e36 V36 (j := (1 : Int32)) (n := 4) rfl (by decide) (g := (mkF m 65 #[iv p1, iv p2, iv p3, iv p4, iv p5, iv q1, iv q2, iv q3, iv kq, iv c0, iv c1, iv c2, .unset, .unset, .unset, .unset, .unset, .unset, .unset, .unset, .unset] [(.int (1 : Int32)), (.int (1 : Int32)), (.ref b33), (.ref b33)])) rfl rfl (hb hby at_65)
  have K42 : Keep h0 h40 [] := K38.wr W40 (Or.inr sz_b33)
  have N43 := Fr.snoc X40 N39 g_b33
  replace V40 : own_AV Z h40 b33 .int (own_is [(0 : Int32), (1 : Int32), (0 : Int32), (0 : Int32)]) := V40
  refine own_st st40 ?_
  show own_Fin p e below G (T40.setTop (mkF m 66 #[iv p1, iv p2, iv p3, iv p4, iv p5, iv q1, iv q2, iv q3, iv kq, iv c0, iv c1, iv c2, .unset, .unset, .unset, .unset, .unset, .unset, .unset, .unset, .unset] [(.ref b33)]))
  refine own_st (fun _ k => XS.dup X40.here hx rfl (hb hby at_66) rfl rfl k) ?_
  show own_Fin p e below G (T40.setTop (mkF m 67 #[iv p1, iv p2, iv p3, iv p4, iv p5, iv q1, iv q2, iv q3, iv kq, iv c0, iv c1, iv c2, .unset, .unset, .unset, .unset, .unset, .unset, .unset, .unset, .unset] [(.ref b33), (.ref b33)]))
  refine own_st (fun _ k => XS.iconst X40.here hx rfl (hb hby at_67) k) ?_
  show own_Fin p e below G (T40.setTop (mkF m 68 #[iv p1, iv p2, iv p3, iv p4, iv p5, iv q1, iv q2, iv q3, iv kq, iv c0, iv c1, iv c2, .unset, .unset, .unset, .unset, .unset, .unset, .unset, .unset, .unset] [(.int (2 : Int32)), (.ref b33), (.ref b33)]))
  refine own_st (fun _ k => XS.iconst X40.here hx rfl (hb hby at_68) k) ?_
  show own_Fin p e below G (T40.setTop (mkF m 69 #[iv p1, iv p2, iv p3, iv p4, iv p5, iv q1, iv q2, iv q3, iv kq, iv c0, iv c1, iv c2, .unset, .unset, .unset, .unset, .unset, .unset, .unset, .unset, .unset] [(.int (2 : Int32)), (.int (2 : Int32)), (.ref b33), (.ref b33)]))
  obtain ⟨T44, h44, X44, e44, W44, V44, st44⟩ := own_stI X40 hx hZ e40 V40 (j := (2 : Int32)) (n := 4) rfl (by decide) (g := (mkF m 69 #[iv p1, iv p2, iv p3, iv p4, iv p5, iv q1, iv q2, iv q3, iv kq, iv c0, iv c1, iv c2, .unset, .unset, .unset, .unset, .unset, .unset, .unset, .unset, .unset] [(.int (2 : Int32)), (.int (2 : Int32)), (.ref b33), (.ref b33)])) rfl rfl (hb hby at_69)
  have K46 : Keep h0 h44 [] := K42.wr W44 (Or.inr sz_b33)
  have N47 := Fr.snoc X44 N43 g_b33
  replace V44 : own_AV Z h44 b33 .int (own_is [(0 : Int32), (1 : Int32), (2 : Int32), (0 : Int32)]) := V44
  refine own_st st44 ?_
  show own_Fin p e below G (T44.setTop (mkF m 70 #[iv p1, iv p2, iv p3, iv p4, iv p5, iv q1, iv q2, iv q3, iv kq, iv c0, iv c1, iv c2, .unset, .unset, .unset, .unset, .unset, .unset, .unset, .unset, .unset] [(.ref b33)]))
  refine own_st (fun _ k => XS.dup X44.here hx rfl (hb hby at_70) rfl rfl k) ?_
  show own_Fin p e below G (T44.setTop (mkF m 71 #[iv p1, iv p2, iv p3, iv p4, iv p5, iv q1, iv q2, iv q3, iv kq, iv c0, iv c1, iv c2, .unset, .unset, .unset, .unset, .unset, .unset, .unset, .unset, .unset] [(.ref b33), (.ref b33)]))
  refine own_st (fun _ k => XS.iconst X44.here hx rfl (hb hby at_71) k) ?_
  show own_Fin p e below G (T44.setTop (mkF m 72 #[iv p1, iv p2, iv p3, iv p4, iv p5, iv q1, iv q2, iv q3, iv kq, iv c0, iv c1, iv c2, .unset, .unset, .unset, .unset, .unset, .unset, .unset, .unset, .unset] [(.int (3 : Int32)), (.ref b33), (.ref b33)]))
  refine own_st (fun _ k => XS.iconst X44.here hx rfl (hb hby at_72) k) ?_
  show own_Fin p e below G (T44.setTop (mkF m 73 #[iv p1, iv p2, iv p3, iv p4, iv p5, iv q1, iv q2, iv q3, iv kq, iv c0, iv c1, iv c2, .unset, .unset, .unset, .unset, .unset, .unset, .unset, .unset, .unset] [(.int (3 : Int32)), (.int (3 : Int32)), (.ref b33), (.ref b33)]))
  obtain ⟨T48, h48, X48, e48, W48, V48, st48⟩ := own_stI X44 hx hZ e44 V44 (j := (3 : Int32)) (n := 4) rfl (by decide) (g := (mkF m 73 #[iv p1, iv p2, iv p3, iv p4, iv p5, iv q1, iv q2, iv q3, iv kq, iv c0, iv c1, iv c2, .unset, .unset, .unset, .unset, .unset, .unset, .unset, .unset, .unset] [(.int (3 : Int32)), (.int (3 : Int32)), (.ref b33), (.ref b33)])) rfl rfl (hb hby at_73)
  have K50 : Keep h0 h48 [] := K46.wr W48 (Or.inr sz_b33)
  have N51 := Fr.snoc X48 N47 g_b33
  replace V48 : own_AV Z h48 b33 .int (own_is [(0 : Int32), (1 : Int32), (2 : Int32), (3 : Int32)]) := V48
  refine own_st st48 ?_
  show own_Fin p e below G (T48.setTop (mkF m 74 #[iv p1, iv p2, iv p3, iv p4, iv p5, iv q1, iv q2, iv q3, iv kq, iv c0, iv c1, iv c2, .unset, .unset, .unset, .unset, .unset, .unset, .unset, .unset, .unset] [(.ref b33)]))
  refine own_st (fun _ k => XS.astore X48.here hx rfl (hb hby at_74) rfl rfl (l' := #[iv p1, iv p2, iv p3, iv p4, iv p5, iv q1, iv q2, iv q3, iv kq, iv c0, iv c1, iv c2, rv b33, .unset, .unset, .unset, .unset, .unset, .unset, .unset, .unset]) rfl k) ?_
  show own_Fin p e below G (T48.setTop (mkF m 76 #[iv p1, iv p2, iv p3, iv p4, iv p5, iv q1, iv q2, iv q3, iv kq, iv c0, iv c1, iv c2, rv b33, .unset, .unset, .unset, .unset, .unset, .unset, .unset, .unset] []))
  refine own_st (fun _ k => XS.aload X48.here hx rfl (hb hby at_76) rfl rfl k) ?_
  show own_Fin p e below G (T48.setTop (mkF m 78 #[iv p1, iv p2, iv p3, iv p4, iv p5, iv q1, iv q2, iv q3, iv kq, iv c0, iv c1, iv c2, rv b33, .unset, .unset, .unset, .unset, .unset, .unset, .unset, .unset] [(.ref b33)]))
  refine own_st (fun _ k => XS.iconst X48.here hx rfl (hb hby at_78) k) ?_
  show own_Fin p e below G (T48.setTop (mkF m 79 #[iv p1, iv p2, iv p3, iv p4, iv p5, iv q1, iv q2, iv q3, iv kq, iv c0, iv c1, iv c2, rv b33, .unset, .unset, .unset, .unset, .unset, .unset, .unset, .unset] [(.int (0 : Int32)), (.ref b33)]))
  refine own_st (fun _ k => XS.iload X48.here hx rfl (hb hby at_79) rfl  k) ?_
  show own_Fin p e below G (T48.setTop (mkF m 81 #[iv p1, iv p2, iv p3, iv p4, iv p5, iv q1, iv q2, iv q3, iv kq, iv c0, iv c1, iv c2, rv b33, .unset, .unset, .unset, .unset, .unset, .unset, .unset, .unset] [(.int c0), (.int (0 : Int32)), (.ref b33)]))
  obtain ⟨_, _, ⟨T52, L52, k52, n52⟩, -, X52, ⟨Lc52, hQ52, l52, y52, z52⟩, st52⟩ := Jvm.LawKit.callS X48 hx (y := own_y0) hown (mvT hZ (own_w hw 2 rfl)) (mvT hZ (own_w hw 3 rfl)) (mvT hZ (own_w hw 4 rfl)) (mvT hZ (own_w hw 5 rfl)) (by decide) (backOf (W := 0) (rm_sw l Z a0 hw [] b33 (0 : Int32) c0 [(0 : Int32), (1 : Int32), (2 : Int32), (3 : Int32)] h48 n0 (Nat.le_trans Z0 K50.1) V48 (by simp [own_swap_len]) (⟨by decide, by decide⟩ : own_R 4 (0 : Int32)) (own_rw rn_c0 (by decide)) g_b33) hZ (own_w hw 5 rfl) (own_w hw 4 rfl) (by decide) (by decide)) (g := (mkF m 81 #[iv p1, iv p2, iv p3, iv p4, iv p5, iv q1, iv q2, iv q3, iv kq, iv c0, iv c1, iv c2, rv b33, .unset, .unset, .unset, .unset, .unset, .unset, .unset, .unset] [(.int c0), (.int (0 : Int32)), (.ref b33)])) rfl (by rw [hml]; rfl) (argsL := [(.ref b33), (.int (0 : Int32)), (.int c0)]) (rest := []) (lenOf pd___III_V_477 rfl) rfl (by show 2 * 0 + _ ≤ _; exact Nat.le_of_eq rfl) (hb hby at_81) (fun _ _ => ⟨rfl, e48, (by decide : 1 + 0 ≤ _), (by decide : 4 + 0 ≤ _)⟩)
  dsimp only [Pt.U, Pt.locs, Pt.cells, Pt.slots] at X52 l52 y52 z52 st52 hQ52
  subst l52 y52 z52
  obtain ⟨rfl, N52q, Kc52, gA52⟩ := hQ52
  have N52 := Fr.app N51 N52q
  have K54 : Keep h0 T52.heap [] := K50.trans Kc52 (allS (Or.inr sz_b33) all0)
  refine own_st st52 ?_
  show own_Fin p e below G (T52.setTop (mkF m 84 #[iv p1, iv p2, iv p3, iv p4, iv p5, iv q1, iv q2, iv q3, iv kq, iv c0, iv c1, iv c2, rv b33, .unset, .unset, .unset, .unset, .unset, .unset, .unset, .unset] []))
  refine own_st (fun _ k => XS.aload X52.here hx rfl (hb hby at_84) rfl rfl k) ?_
  show own_Fin p e below G (T52.setTop (mkF m 86 #[iv p1, iv p2, iv p3, iv p4, iv p5, iv q1, iv q2, iv q3, iv kq, iv c0, iv c1, iv c2, rv b33, .unset, .unset, .unset, .unset, .unset, .unset, .unset, .unset] [(.ref b33)]))
  refine own_st (fun _ k => XS.iconst X52.here hx rfl (hb hby at_86) k) ?_
  show own_Fin p e below G (T52.setTop (mkF m 87 #[iv p1, iv p2, iv p3, iv p4, iv p5, iv q1, iv q2, iv q3, iv kq, iv c0, iv c1, iv c2, rv b33, .unset, .unset, .unset, .unset, .unset, .unset, .unset, .unset] [(.int (1 : Int32)), (.ref b33)]))
  refine own_st (fun _ k => XS.iconst X52.here hx rfl (hb hby at_87) k) ?_
  show own_Fin p e below G (T52.setTop (mkF m 88 #[iv p1, iv p2, iv p3, iv p4, iv p5, iv q1, iv q2, iv q3, iv kq, iv c0, iv c1, iv c2, rv b33, .unset, .unset, .unset, .unset, .unset, .unset, .unset, .unset] [(.int (1 : Int32)), (.int (1 : Int32)), (.ref b33)]))
  refine own_st (fun _ k => XS.iload X52.here hx rfl (hb hby at_88) rfl  k) ?_
  show own_Fin p e below G (T52.setTop (mkF m 90 #[iv p1, iv p2, iv p3, iv p4, iv p5, iv q1, iv q2, iv q3, iv kq, iv c0, iv c1, iv c2, rv b33, .unset, .unset, .unset, .unset, .unset, .unset, .unset, .unset] [(.int c1), (.int (1 : Int32)), (.int (1 : Int32)), (.ref b33)]))
  refine own_st (fun _ k => XS.iadd X52.here hx rfl (hb hby at_90) rfl k) ?_
  show own_Fin p e below G (T52.setTop (mkF m 91 #[iv p1, iv p2, iv p3, iv p4, iv p5, iv q1, iv q2, iv q3, iv kq, iv c0, iv c1, iv c2, rv b33, .unset, .unset, .unset, .unset, .unset, .unset, .unset, .unset] [(.int ((1 : Int32) + c1)), (.int (1 : Int32)), (.ref b33)]))
  have rn_i1 := own_p c1 1 3 1 rfl (by decide) rn_c1 (by decide)
  generalize e_i1 : ((1 : Int32) + c1) = i1 at *
  show own_Fin p e below G (T52.setTop (mkF m 91 #[iv p1, iv p2, iv p3, iv p4, iv p5, iv q1, iv q2, iv q3, iv kq, iv c0, iv c1, iv c2, rv b33, .unset, .unset, .unset, .unset, .unset, .unset, .unset, .unset] [(.int i1), (.int (1 : Int32)), (.ref b33)]))
  obtain ⟨_, _, ⟨T55, L55, k55, n55⟩, -, X55, ⟨Lc55, hQ55, l55, y55, z55⟩, st55⟩ := Jvm.LawKit.callS X52 hx (y := own_y0) hown (mvT hZ (own_w hw 2 rfl)) (mvT hZ (own_w hw 3 rfl)) (mvT hZ (own_w hw 4 rfl)) (mvT hZ (own_w hw 5 rfl)) (by decide) (backOf (W := 0) (rm_sw l Z a0 hw [] b33 (1 : Int32) i1 (own_swap [(0 : Int32), (1 : Int32), (2 : Int32), (3 : Int32)] (0 : Int32) c0) T52.heap n0 (Nat.le_trans Z0 K54.1) gA52 (by simp [own_swap_len]) (⟨by decide, by decide⟩ : own_R 4 (1 : Int32)) rn_i1 g_b33) hZ (own_w hw 5 rfl) (own_w hw 4 rfl) (by decide) (by decide)) (g := (mkF m 91 #[iv p1, iv p2, iv p3, iv p4, iv p5, iv q1, iv q2, iv q3, iv kq, iv c0, iv c1, iv c2, rv b33, .unset, .unset, .unset, .unset, .unset, .unset, .unset, .unset] [(.int i1), (.int (1 : Int32)), (.ref b33)])) rfl (by rw [hml]; rfl) (argsL := [(.ref b33), (.int (1 : Int32)), (.int i1)]) (rest := []) (lenOf pd___III_V_477 rfl) rfl (by show 2 * 0 + _ ≤ _; exact Nat.le_of_eq rfl) (hb hby at_91) (fun _ _ => ⟨rfl, rfl, (by decide : 1 + 0 ≤ _), (by decide : 4 + 0 ≤ _)⟩)
  dsimp only [Pt.U, Pt.locs, Pt.cells, Pt.slots] at X55 l55 y55 z55 st55 hQ55
  subst l55 y55 z55
  obtain ⟨rfl, N55q, Kc55, gA55⟩ := hQ55
  have N55 := Fr.app N52 N55q
  have K57 : Keep h0 T55.heap [] := K54.trans Kc55 (allS (Or.inr sz_b33) all0)
  refine own_st st55 ?_
  show own_Fin p e below G (T55.setTop (mkF m 94 #[iv p1, iv p2, iv p3, iv p4, iv p5, iv q1, iv q2, iv q3, iv kq, iv c0, iv c1, iv c2, rv b33, .unset, .unset, .unset, .unset, .unset, .unset, .unset, .unset] []))
  refine own_st (fun _ k => XS.aload X55.here hx rfl (hb hby at_94) rfl rfl k) ?_
  show own_Fin p e below G (T55.setTop (mkF m 96 #[iv p1, iv p2, iv p3, iv p4, iv p5, iv q1, iv q2, iv q3, iv kq, iv c0, iv c1, iv c2, rv b33, .unset, .unset, .unset, .unset, .unset, .unset, .unset, .unset] [(.ref b33)]))
  refine own_st (fun _ k => XS.iconst X55.here hx rfl (hb hby at_96) k) ?_
  show own_Fin p e below G (T55.setTop (mkF m 97 #[iv p1, iv p2, iv p3, iv p4, iv p5, iv q1, iv q2, iv q3, iv kq, iv c0, iv c1, iv c2, rv b33, .unset, .unset, .unset, .unset, .unset, .unset, .unset, .unset] [(.int (2 : Int32)), (.ref b33)]))
  refine own_st (fun _ k => XS.iconst X55.here hx rfl (hb hby at_97) k) ?_
  show own_Fin p e below G (T55.setTop (mkF m 98 #[iv p1, iv p2, iv p3, iv p4, iv p5, iv q1, iv q2, iv q3, iv kq, iv c0, iv c1, iv c2, rv b33, .unset, .unset, .unset, .unset, .unset, .unset, .unset, .unset] [(.int (2 : Int32)), (.int (2 : Int32)), (.ref b33)]))
  refine own_st (fun _ k => XS.iload X55.here hx rfl (hb hby at_98) rfl  k) ?_
  show own_Fin p e below G (T55.setTop (mkF m 100 #[iv p1, iv p2, iv p3, iv p4, iv p5, iv q1, iv q2, iv q3, iv kq, iv c0, iv c1, iv c2, rv b33, .unset, .unset, .unset, .unset, .unset, .unset, .unset, .unset] [(.int c2), (.int (2 : Int32)), (.int (2 : Int32)), (.ref b33)]))
  refine own_st (fun _ k => XS.iadd X55.here hx rfl (hb hby at_100) rfl k) ?_
  show own_Fin p e below G (T55.setTop (mkF m 101 #[iv p1, iv p2, iv p3, iv p4, iv p5, iv q1, iv q2, iv q3, iv kq, iv c0, iv c1, iv c2, rv b33, .unset, .unset, .unset, .unset, .unset, .unset, .unset, .unset] [(.int ((2 : Int32) + c2)), (.int (2 : Int32)), (.ref b33)]))
  have rn_i2 := own_p c2 2 2 2 rfl (by decide) rn_c2 (by decide)
  generalize e_i2 : ((2 : Int32) + c2) = i2 at *
  show own_Fin p e below G (T55.setTop (mkF m 101 #[iv p1, iv p2, iv p3, iv p4, iv p5, iv q1, iv q2, iv q3, iv kq, iv c0, iv c1, iv c2, rv b33, .unset, .unset, .unset, .unset, .unset, .unset, .unset, .unset] [(.int i2), (.int (2 : Int32)), (.ref b33)]))
  obtain ⟨_, _, ⟨T58, L58, k58, n58⟩, -, X58, ⟨Lc58, hQ58, l58, y58, z58⟩, st58⟩ := Jvm.LawKit.callS X55 hx (y := own_y0) hown (mvT hZ (own_w hw 2 rfl)) (mvT hZ (own_w hw 3 rfl)) (mvT hZ (own_w hw 4 rfl)) (mvT hZ (own_w hw 5 rfl)) (by decide) (backOf (W := 0) (rm_sw l Z a0 hw [] b33 (2 : Int32) i2 (own_swap (own_swap [(0 : Int32), (1 : Int32), (2 : Int32), (3 : Int32)] (0 : Int32) c0) (1 : Int32) i1) T55.heap n0 (Nat.le_trans Z0 K57.1) gA55 (by simp [own_swap_len]) (⟨by decide, by decide⟩ : own_R 4 (2 : Int32)) rn_i2 g_b33) hZ (own_w hw 5 rfl) (own_w hw 4 rfl) (by decide) (by decide)) (g := (mkF m 101 #[iv p1, iv p2, iv p3, iv p4, iv p5, iv q1, iv q2, iv q3, iv kq, iv c0, iv c1, iv c2, rv b33, .unset, .unset, .unset, .unset, .unset, .unset, .unset, .unset] [(.int i2), (.int (2 : Int32)), (.ref b33)])) rfl (by rw [hml]; rfl) (argsL := [(.ref b33), (.int (2 : Int32)), (.int i2)]) (rest := []) (lenOf pd___III_V_477 rfl) rfl (by show 2 * 0 + _ ≤ _; exact Nat.le_of_eq rfl) (hb hby at_101) (fun _ _ => ⟨rfl, rfl, (by decide : 1 + 0 ≤ _), (by decide : 4 + 0 ≤ _)⟩)
  dsimp only [Pt.U, Pt.locs, Pt.cells, Pt.slots] at X58 l58 y58 z58 st58 hQ58
  subst l58 y58 z58
  obtain ⟨rfl, N58q, Kc58, gA58⟩ := hQ58
  have N58 := Fr.app N55 N58q
  have K60 : Keep h0 T58.heap [] := K57.trans Kc58 (allS (Or.inr sz_b33) all0)
  refine own_st st58 ?_
  show own_Fin p e below G (T58.setTop (mkF m 104 #[iv p1, iv p2, iv p3, iv p4, iv p5, iv q1, iv q2, iv q3, iv kq, iv c0, iv c1, iv c2, rv b33, .unset, .unset, .unset, .unset, .unset, .unset, .unset, .unset] []))
  have hL := own_L rn_c0 rn_c1 rn_c2
  rw [e_i1, e_i2] at hL
  obtain ⟨x0, x1, x2, x3, eL, hp⟩ := hL
  obtain ⟨rx0, rx1, rx2, rx3⟩ := own_perm_r hp
  have V61 : own_AV Z T58.heap b33 .int (own_is [x0, x1, x2, x3]) := eL ▸ gA58
  refine own_st (fun _ k => XS.iconst X58.here hx rfl (hb hby at_104) k) ?_
  show own_Fin p e below G (T58.setTop (mkF m 105 #[iv p1, iv p2, iv p3, iv p4, iv p5, iv q1, iv q2, iv q3, iv kq, iv c0, iv c1, iv c2, rv b33, .unset, .unset, .unset, .unset, .unset, .unset, .unset, .unset] [(.int (4 : Int32))]))
  obtain ⟨T62, h62, k62, X62, e62, E62, A62, st62⟩ := newP X58 hx hZ (own_w hw 1 rfl) rfl (g := (mkF m 105 #[iv p1, iv p2, iv p3, iv p4, iv p5, iv q1, iv q2, iv q3, iv kq, iv c0, iv c1, iv c2, rv b33, .unset, .unset, .unset, .unset, .unset, .unset, .unset, .unset] [(.int (4 : Int32))])) rfl (hb hby at_105) rfl (by decide) (cap := 4) (by decide) (by decide) (by decide) (by decide)
  obtain ⟨b62, g62⟩ : ∃ z, z = T58.heap.size := ⟨_, rfl⟩
  rw [← g62] at A62 st62
  have ne_b33_b62 : b33 ≠ b62 := Nat.ne_of_lt (Nat.lt_of_lt_of_le V61.lt (Nat.le_of_eq g62.symm))
  have sz_b62 : h0.size ≤ b62 := Nat.le_trans K60.1 (Nat.le_of_eq g62.symm)
  have g_b62 : n0 ≤ b62 := Nat.le_trans Z0 sz_b62
  have f63_0 := V61.ext E62
  have K64 : Keep h0 h62 [] := K60.ext E62
  have V62 : own_AV Z h62 b62 .int (own_is [(0 : Int32), (0 : Int32), (0 : Int32), (0 : Int32)]) := own_AV_newI A62
  refine own_st st62 ?_
  show own_Fin p e below G (T62.setTop (mkF m 107 #[iv p1, iv p2, iv p3, iv p4, iv p5, iv q1, iv q2, iv q3, iv kq, iv c0, iv c1, iv c2, rv b33, .unset, .unset, .unset, .unset, .unset, .unset, .unset, .unset] [(.ref b62)]))
  refine own_st (fun _ k => XS.astore X62.here hx rfl (hb hby at_107) rfl rfl (l' := #[iv p1, iv p2, iv p3, iv p4, iv p5, iv q1, iv q2, iv q3, iv kq, iv c0, iv c1, iv c2, rv b33, rv b62, .unset, .unset, .unset, .unset, .unset, .unset, .unset]) rfl k) ?_
  show own_Fin p e below G (T62.setTop (mkF m 109 #[iv p1, iv p2, iv p3, iv p4, iv p5, iv q1, iv q2, iv q3, iv kq, iv c0, iv c1, iv c2, rv b33, rv b62, .unset, .unset, .unset, .unset, .unset, .unset, .unset] []))
  refine own_st (fun _ k => XS.aload X62.here hx rfl (hb hby at_109) rfl rfl k) ?_
  show own_Fin p e below G (T62.setTop (mkF m 111 #[iv p1, iv p2, iv p3, iv p4, iv p5, iv q1, iv q2, iv q3, iv kq, iv c0, iv c1, iv c2, rv b33, rv b62, .unset, .unset, .unset, .unset, .unset, .unset, .unset] [(.ref b62)]))
  refine own_st (fun _ k => XS.aload X62.here hx rfl (hb hby at_111) rfl rfl k) ?_
  show own_Fin p e below G (T62.setTop (mkF m 113 #[iv p1, iv p2, iv p3, iv p4, iv p5, iv q1, iv q2, iv q3, iv kq, iv c0, iv c1, iv c2, rv b33, rv b62, .unset, .unset, .unset, .unset, .unset, .unset, .unset] [(.ref b33), (.ref b62)]))
  refine own_st (fun _ k => XS.iconst X62.here hx rfl (hb hby at_113) k) ?_
  show own_Fin p e below G (T62.setTop (mkF m 114 #[iv p1, iv p2, iv p3, iv p4, iv p5, iv q1, iv q2, iv q3, iv kq, iv c0, iv c1, iv c2, rv b33, rv b62, .unset, .unset, .unset, .unset, .unset, .unset, .unset] [(.int (0 : Int32)), (.ref b33), (.ref b62)]))
  refine own_st (fun _ k => own_ldI X62 hx hZ e62 f63_0 (j := (0 : Int32)) (n := 4) rfl (by decide) (g := (mkF m 114 #[iv p1, iv p2, iv p3, iv p4, iv p5, iv q1, iv q2, iv q3, iv kq, iv c0, iv c1, iv c2, rv b33, rv b62, .unset, .unset, .unset, .unset, .unset, .unset, .unset] [(.int (0 : Int32)), (.ref b33), (.ref b62)])) rfl rfl (hb hby at_114) k) ?_
  show own_Fin p e below G (T62.setTop (mkF m 115 #[iv p1, iv p2, iv p3, iv p4, iv p5, iv q1, iv q2, iv q3, iv kq, iv c0, iv c1, iv c2, rv b33, rv b62, .unset, .unset, .unset, .unset, .unset, .unset, .unset] [(.int x0), (.ref b62)]))
  refine own_st (fun _ k => XS.aload X62.here hx rfl (hb hby at_115) rfl rfl k) ?_
  show own_Fin p e below G (T62.setTop (mkF m 117 #[iv p1, iv p2, iv p3, iv p4, iv p5, iv q1, iv q2, iv q3, iv kq, iv c0, iv c1, iv c2, rv b33, rv b62, .unset, .unset, .unset, .unset, .unset, .unset, .unset] [(.ref b33), (.int x0), (.ref b62)]))
  refine own_st (fun _ k => XS.iconst X62.here hx rfl (hb hby at_117) k) ?_
  show own_Fin p e below G (T62.setTop (mkF m 118 #[iv p1, iv p2, iv p3, iv p4, iv p5, iv q1, iv q2, iv q3, iv kq, iv c0, iv c1, iv c2, rv b33, rv b62, .unset, .unset, .unset, .unset, .unset, .unset, .unset] [(.int (0 : Int32)), (.ref b33), (.int x0), (.ref b62)]))
  refine own_st (fun _ k => own_ldI X62 hx hZ e62 f63_0 (j := (0 : Int32)) (n := 4) rfl (by decide) (g := (mkF m 118 #[iv p1, iv p2, iv p3, iv p4, iv p5, iv q1, iv q2, iv q3, iv kq, iv c0, iv c1, iv c2, rv b33, rv b62, .unset, .unset, .unset, .unset, .unset, .unset, .unset] [(.int (0 : Int32)), (.ref b33), (.int x0), (.ref b62)])) rfl rfl (hb hby at_118) k) ?_
  show own_Fin p e below G (T62.setTop (mkF m 119 #[iv p1, iv p2, iv p3, iv p4, iv p5, iv q1, iv q2, iv q3, iv kq, iv c0, iv c1, iv c2, rv b33, rv b62, .unset, .unset, .unset, .unset, .unset, .unset, .unset] [(.int x0), (.int x0), (.ref b62)]))
  obtain ⟨T65, h65, X65, e65, W65, V65, st65⟩ := own_stI X62 hx hZ e62 V62 (j := x0) (n := 4) (by simp) (own_inb rx0) (g := (mkF m 119 #[iv p1, iv p2, iv p3, iv p4, iv p5, iv q1, iv q2, iv q3, iv kq, iv c0, iv c1, iv c2, rv b33, rv b62, .unset, .unset, .unset, .unset, .unset, .unset, .unset] [(.int x0), (.int x0), (.ref b62)])) rfl rfl (hb hby at_119)
  have f66_0 := f63_0.other W65 ne_b33_b62
  have K67 : Keep h0 h65 [] := K64.wr W65 (Or.inr sz_b62)
  have N68 := Fr.snoc X65 N58 g_b62
  replace V65 : own_AV Z h65 b62 .int (own_is ([(0 : Int32), (0 : Int32), (0 : Int32), (0 : Int32)].set x0.toNatClampNeg x0)) := V65
  refine own_st st65 ?_
  show own_Fin p e below G (T65.setTop (mkF m 120 #[iv p1, iv p2, iv p3, iv p4, iv p5, iv q1, iv q2, iv q3, iv kq, iv c0, iv c1, iv c2, rv b33, rv b62, .unset, .unset, .unset, .unset, .unset, .unset, .unset] []))
  refine own_st (fun _ k => XS.aload X65.here hx rfl (hb hby at_120) rfl rfl k) ?_
  show own_Fin p e below G (T65.setTop (mkF m 122 #[iv p1, iv p2, iv p3, iv p4, iv p5, iv q1, iv q2, iv q3, iv kq, iv c0, iv c1, iv c2, rv b33, rv b62, .unset, .unset, .unset, .unset, .unset, .unset, .unset] [(.ref b62)]))
  refine own_st (fun _ k => XS.aload X65.here hx rfl (hb hby at_122) rfl rfl k) ?_
  show own_Fin p e below G (T65.setTop (mkF m 124 #[iv p1, iv p2, iv p3, iv p4, iv p5, iv q1, iv q2, iv q3, iv kq, iv c0, iv c1, iv c2, rv b33, rv b62, .unset, .unset, .unset, .unset, .unset, .unset, .unset] [(.ref b33), (.ref b62)]))
  refine own_st (fun _ k => XS.iconst X65.here hx rfl (hb hby at_124) k) ?_
  show own_Fin p e below G (T65.setTop (mkF m 125 #[iv p1, iv p2, iv p3, iv p4, iv p5, iv q1, iv q2, iv q3, iv kq, iv c0, iv c1, iv c2, rv b33, rv b62, .unset, .unset, .unset, .unset, .unset, .unset, .unset] [(.int (1 : Int32)), (.ref b33), (.ref b62)]))
  refine own_st (fun _ k => own_ldI X65 hx hZ e65 f66_0 (j := (1 : Int32)) (n := 4) rfl (by decide) (g := (mkF m 125 #[iv p1, iv p2, iv p3, iv p4, iv p5, iv q1, iv q2, iv q3, iv kq, iv c0, iv c1, iv c2, rv b33, rv b62, .unset, .unset, .unset, .unset, .unset, .unset, .unset] [(.int (1 : Int32)), (.ref b33), (.ref b62)])) rfl rfl (hb hby at_125) k) ?_
  show own_Fin p e below G (T65.setTop (mkF m 126 #[iv p1, iv p2, iv p3, iv p4, iv p5, iv q1, iv q2, iv q3, iv kq, iv c0, iv c1, iv c2, rv b33, rv b62, .unset, .unset, .unset, .unset, .unset, .unset, .unset] [(.int x1), (.ref b62)]))
  refine own_st (fun _ k => XS.aload X65.here hx rfl (hb hby at_126) rfl rfl k) ?_
  show own_Fin p e below G (T65.setTop (mkF m 128 #[iv p1, iv p2, iv p3, iv p4, iv p5, iv q1, iv q2, iv q3, iv kq, iv c0, iv c1, iv c2, rv b33, rv b62, .unset, .unset, .unset, .unset, .unset, .unset, .unset] [(.ref b33), (.int x1), (.ref b62)]))
  refine own_st (fun _ k => XS.iload X65.here hx rfl (hb hby at_128) rfl  k) ?_
  show own_Fin p e below G (T65.setTop (mkF m 130 #[iv p1, iv p2, iv p3, iv p4, iv p5, iv q1, iv q2, iv q3, iv kq, iv c0, iv c1, iv c2, rv b33, rv b62, .unset, .unset, .unset, .unset, .unset, .unset, .unset] [(.int q1), (.ref b33), (.int x1), (.ref b62)]))
  refine own_st (fun _ k => own_ldI X65 hx hZ e65 f66_0 (j := q1) (n := 4) (by simp) (own_inb (own_rw rn_q1 (by decide))) (g := (mkF m 130 #[iv p1, iv p2, iv p3, iv p4, iv p5, iv q1, iv q2, iv q3, iv kq, iv c0, iv c1, iv c2, rv b33, rv b62, .unset, .unset, .unset, .unset, .unset, .unset, .unset] [(.int q1), (.ref b33), (.int x1), (.ref b62)])) rfl rfl (hb hby at_130) k) ?_
  show own_Fin p e below G (T65.setTop (mkF m 131 #[iv p1, iv p2, iv p3, iv p4, iv p5, iv q1, iv q2, iv q3, iv kq, iv c0, iv c1, iv c2, rv b33, rv b62, .unset, .unset, .unset, .unset, .unset, .unset, .unset] [(.int ([x0, x1, x2, x3].getD q1.toNatClampNeg 0)), (.int x1), (.ref b62)]))
  obtain ⟨T69, h69, X69, e69, W69, V69, st69⟩ := own_stI X65 hx hZ e65 V65 (j := x1) (n := 4) (by simp) (own_inb rx1) (g := (mkF m 131 #[iv p1, iv p2, iv p3, iv p4, iv p5, iv q1, iv q2, iv q3, iv kq, iv c0, iv c1, iv c2, rv b33, rv b62, .unset, .unset, .unset, .unset, .unset, .unset, .unset] [(.int ([x0, x1, x2, x3].getD q1.toNatClampNeg 0)), (.int x1), (.ref b62)])) rfl rfl (hb hby at_131)
  have f70_0 := f66_0.other W69 ne_b33_b62
  have K71 : Keep h0 h69 [] := K67.wr W69 (Or.inr sz_b62)
  have N72 := Fr.snoc X69 N68 g_b62
  replace V69 : own_AV Z h69 b62 .int (own_is (([(0 : Int32), (0 : Int32), (0 : Int32), (0 : Int32)].set x0.toNatClampNeg x0).set x1.toNatClampNeg ([x0, x1, x2, x3].getD q1.toNatClampNeg 0))) := V69
  refine own_st st69 ?_
  show own_Fin p e below G (T69.setTop (mkF m 132 #[iv p1, iv p2, iv p3, iv p4, iv p5, iv q1, iv q2, iv q3, iv kq, iv c0, iv c1, iv c2, rv b33, rv b62, .unset, .unset, .unset, .unset, .unset, .unset, .unset] []))
  refine own_st (fun _ k => XS.aload X69.here hx rfl (hb hby at_132) rfl rfl k) ?_
  show own_Fin p e below G (T69.setTop (mkF m 134 #[iv p1, iv p2, iv p3, iv p4, iv p5, iv q1, iv q2, iv q3, iv kq, iv c0, iv c1, iv c2, rv b33, rv b62, .unset, .unset, .unset, .unset, .unset, .unset, .unset] [(.ref b62)]))
  refine own_st (fun _ k => XS.aload X69.here hx rfl (hb hby at_134) rfl rfl k) ?_
  show own_Fin p e below G (T69.setTop (mkF m 136 #[iv p1, iv p2, iv p3, iv p4, iv p5, iv q1, iv q2, iv q3, iv kq, iv c0, iv c1, iv c2, rv b33, rv b62, .unset, .unset, .unset, .unset, .unset, .unset, .unset] [(.ref b33), (.ref b62)]))
  refine own_st (fun _ k => XS.iconst X69.here hx rfl (hb hby at_136) k) ?_
  show own_Fin p e below G (T69.setTop (mkF m 137 #[iv p1, iv p2, iv p3, iv p4, iv p5, iv q1, iv q2, iv q3, iv kq, iv c0, iv c1, iv c2, rv b33, rv b62, .unset, .unset, .unset, .unset, .unset, .unset, .unset] [(.int (2 : Int32)), (.ref b33), (.ref b62)]))
  refine own_st (fun _ k => own_ldI X69 hx hZ e69 f70_0 (j := (2 : Int32)) (n := 4) rfl (by decide) (g := (mkF m 137 #[iv p1, iv p2, iv p3, iv p4, iv p5, iv q1, iv q2, iv q3, iv kq, iv c0, iv c1, iv c2, rv b33, rv b62, .unset, .unset, .unset, .unset, .unset, .unset, .unset] [(.int (2 : Int32)), (.ref b33), (.ref b62)])) rfl rfl (hb hby at_137) k) ?_
  show own_Fin p e below G (T69.setTop (mkF m 138 #[iv p1, iv p2, iv p3, iv p4, iv p5, iv q1, iv q2, iv q3, iv kq, iv c0, iv c1, iv c2, rv b33, rv b62, .unset, .unset, .unset, .unset, .unset, .unset, .unset] [(.int x2), (.ref b62)]))
  refine own_st (fun _ k => XS.aload X69.here hx rfl (hb hby at_138) rfl rfl k) ?_
  show own_Fin p e below G (T69.setTop (mkF m 140 #[iv p1, iv p2, iv p3, iv p4, iv p5, iv q1, iv q2, iv q3, iv kq, iv c0, iv c1, iv c2, rv b33, rv b62, .unset, .unset, .unset, .unset, .unset, .unset, .unset] [(.ref b33), (.int x2), (.ref b62)]))
  refine own_st (fun _ k => XS.iload X69.here hx rfl (hb hby at_140) rfl  k) ?_
  show own_Fin p e below G (T69.setTop (mkF m 142 #[iv p1, iv p2, iv p3, iv p4, iv p5, iv q1, iv q2, iv q3, iv kq, iv c0, iv c1, iv c2, rv b33, rv b62, .unset, .unset, .unset, .unset, .unset, .unset, .unset] [(.int q2), (.ref b33), (.int x2), (.ref b62)]))
  refine own_st (fun _ k => own_ldI X69 hx hZ e69 f70_0 (j := q2) (n := 4) (by simp) (own_inb (own_rw rn_q2 (by decide))) (g := (mkF m 142 #[iv p1, iv p2, iv p3, iv p4, iv p5, iv q1, iv q2, iv q3, iv kq, iv c0, iv c1, iv c2, rv b33, rv b62, .unset, .unset, .unset, .unset, .unset, .unset, .unset] [(.int q2), (.ref b33), (.int x2), (.ref b62)])) rfl rfl (hb hby at_142) k) ?_
  show own_Fin p e below G (T69.setTop (mkF m 143 #[iv p1, iv p2, iv p3, iv p4, iv p5, iv q1, iv q2, iv q3, iv kq, iv c0, iv c1, iv c2, rv b33, rv b62, .unset, .unset, .unset, .unset, .unset, .unset, .unset] [(.int ([x0, x1, x2, x3].getD q2.toNatClampNeg 0)), (.int x2), (.ref b62)]))
  obtain ⟨T73, h73, X73, e73, W73, V73, st73⟩ := own_stI X69 hx hZ e69 V69 (j := x2) (n := 4) (by simp) (own_inb rx2) (g := (mkF m 143 #[iv p1, iv p2, iv p3, iv p4, iv p5, iv q1, iv q2, iv q3, iv kq, iv c0, iv c1, iv c2, rv b33, rv b62, .unset, .unset, .unset, .unset, .unset, .unset, .unset] [(.int ([x0, x1, x2, x3].getD q2.toNatClampNeg 0)), (.int x2), (.ref b62)])) rfl rfl (hb hby at_143)
  have f74_0 := f70_0.other W73 ne_b33_b62
  have K75 : Keep h0 h73 [] := K71.wr W73 (Or.inr sz_b62)
  have N76 := Fr.snoc X73 N72 g_b62
  replace V73 : own_AV Z h73 b62 .int (own_is ((([(0 : Int32), (0 : Int32), (0 : Int32), (0 : Int32)].set x0.toNatClampNeg x0).set x1.toNatClampNeg ([x0, x1, x2, x3].getD q1.toNatClampNeg 0)).set x2.toNatClampNeg ([x0, x1, x2, x3].getD q2.toNatClampNeg 0))) := V73
  refine own_st st73 ?_
  show own_Fin p e below G (T73.setTop (mkF m 144 #[iv p1, iv p2, iv p3, iv p4, iv p5, iv q1, iv q2, iv q3, iv kq, iv c0, iv c1, iv c2, rv b33, rv b62, .unset, .unset, .unset, .unset, .unset, .unset, .unset] []))
  refine own_st (fun _ k => XS.aload X73.here hx rfl (hb hby at_144) rfl rfl k) ?_
  show own_Fin p e below G (T73.setTop (mkF m 146 #[iv p1, iv p2, iv p3, iv p4, iv p5, iv q1, iv q2, iv q3, iv kq, iv c0, iv c1, iv c2, rv b33, rv b62, .unset, .unset, .unset, .unset, .unset, .unset, .unset] [(.ref b62)]))
  refine own_st (fun _ k => XS.aload X73.here hx rfl (hb hby at_146) rfl rfl k) ?_
  show own_Fin p e below G (T73.setTop (mkF m 148 #[iv p1, iv p2, iv p3, iv p4, iv p5, iv q1, iv q2, iv q3, iv kq, iv c0, iv c1, iv c2, rv b33, rv b62, .unset, .unset, .unset, .unset, .unset, .unset, .unset] [(.ref b33), (.ref b62)]))
  refine own_st (fun _ k => XS.iconst X73.here hx rfl (hb hby at_148) k) ?_
  show own_Fin p e below G (T73.setTop (mkF m 149 #[iv p1, iv p2, iv p3, iv p4, iv p5, iv q1, iv q2, iv q3, iv kq, iv c0, iv c1, iv c2, rv b33, rv b62, .unset, .unset, .unset, .unset, .unset, .unset, .unset] [(.int (3 : Int32)), (.ref b33), (.ref b62)]))
  refine own_st (fun _ k => own_ldI X73 hx hZ e73 f74_0 (j := (3 : Int32)) (n := 4) rfl (by decide) (g := (mkF m 149 #[iv p1, iv p2, iv p3, iv p4, iv p5, iv q1, iv q2, iv q3, iv kq, iv c0, iv c1, iv c2, rv b33, rv b62, .unset, .unset, .unset, .unset, .unset, .unset, .unset] [(.int (3 : Int32)), (.ref b33), (.ref b62)])) rfl rfl (hb hby at_149) k) ?_
  show own_Fin p e below G (T73.setTop (mkF m 150 #[iv p1, iv p2, iv p3, iv p4, iv p5, iv q1, iv q2, iv q3, iv kq, iv c0, iv c1, iv c2, rv b33, rv b62, .unset, .unset, .unset, .unset, .unset, .unset, .unset] [(.int x3), (.ref b62)]))
  refine own_st (fun _ k => XS.aload X73.here hx rfl (hb hby at_150) rfl rfl k) ?_
  show own_Fin p e below G (T73.setTop (mkF m 152 #[iv p1, iv p2, iv p3, iv p4, iv p5, iv q1, iv q2, iv q3, iv kq, iv c0, iv c1, iv c2, rv b33, rv b62, .unset, .unset, .unset, .unset, .unset, .unset, .unset] [(.ref b33), (.int x3), (.ref b62)]))
  refine own_st (fun _ k => XS.iload X73.here hx rfl (hb hby at_152) rfl  k) ?_
  show own_Fin p e below G (T73.setTop (mkF m 154 #[iv p1, iv p2, iv p3, iv p4, iv p5, iv q1, iv q2, iv q3, iv kq, iv c0, iv c1, iv c2, rv b33, rv b62, .unset, .unset, .unset, .unset, .unset, .unset, .unset] [(.int q3), (.ref b33), (.int x3), (.ref b62)]))
  refine own_st (fun _ k => own_ldI X73 hx hZ e73 f74_0 (j := q3) (n := 4) (by simp) (own_inb (own_rw rn_q3 (by decide))) (g := (mkF m 154 #[iv p1, iv p2, iv p3, iv p4, iv p5, iv q1, iv q2, iv q3, iv kq, iv c0, iv c1, iv c2, rv b33, rv b62, .unset, .unset, .unset, .unset, .unset, .unset, .unset] [(.int q3), (.ref b33), (.int x3), (.ref b62)])) rfl rfl (hb hby at_154) k) ?_
  show own_Fin p e below G (T73.setTop (mkF m 155 #[iv p1, iv p2, iv p3, iv p4, iv p5, iv q1, iv q2, iv q3, iv kq, iv c0, iv c1, iv c2, rv b33, rv b62, .unset, .unset, .unset, .unset, .unset, .unset, .unset] [(.int ([x0, x1, x2, x3].getD q3.toNatClampNeg 0)), (.int x3), (.ref b62)]))
  obtain ⟨T77, h77, X77, e77, W77, V77, st77⟩ := own_stI X73 hx hZ e73 V73 (j := x3) (n := 4) (by simp) (own_inb rx3) (g := (mkF m 155 #[iv p1, iv p2, iv p3, iv p4, iv p5, iv q1, iv q2, iv q3, iv kq, iv c0, iv c1, iv c2, rv b33, rv b62, .unset, .unset, .unset, .unset, .unset, .unset, .unset] [(.int ([x0, x1, x2, x3].getD q3.toNatClampNeg 0)), (.int x3), (.ref b62)])) rfl rfl (hb hby at_155)
  have f78_0 := f74_0.other W77 ne_b33_b62
  have K79 : Keep h0 h77 [] := K75.wr W77 (Or.inr sz_b62)
  have N80 := Fr.snoc X77 N76 g_b62
  replace V77 : own_AV Z h77 b62 .int (own_is (((([(0 : Int32), (0 : Int32), (0 : Int32), (0 : Int32)].set x0.toNatClampNeg x0).set x1.toNatClampNeg ([x0, x1, x2, x3].getD q1.toNatClampNeg 0)).set x2.toNatClampNeg ([x0, x1, x2, x3].getD q2.toNatClampNeg 0)).set x3.toNatClampNeg ([x0, x1, x2, x3].getD q3.toNatClampNeg 0))) := V77
  refine own_st st77 ?_
  show own_Fin p e below G (T77.setTop (mkF m 156 #[iv p1, iv p2, iv p3, iv p4, iv p5, iv q1, iv q2, iv q3, iv kq, iv c0, iv c1, iv c2, rv b33, rv b62, .unset, .unset, .unset, .unset, .unset, .unset, .unset] []))
  obtain ⟨p0', p1', p2', p3', eP, hF⟩ := own_P hp rn_q1 rn_q2 rn_q3
  have V81 : own_AV Z h77 b62 .int (own_is [p0', p1', p2', p3']) := eP ▸ V77
  refine own_st (fun _ k => XS.iconst X77.here hx rfl (hb hby at_156) k) ?_
  show own_Fin p e below G (T77.setTop (mkF m 157 #[iv p1, iv p2, iv p3, iv p4, iv p5, iv q1, iv q2, iv q3, iv kq, iv c0, iv c1, iv c2, rv b33, rv b62, .unset, .unset, .unset, .unset, .unset, .unset, .unset] [(.int (4 : Int32))]))
  obtain ⟨T82, h82, k82, X82, e82, E82, A82, st82⟩ := newP X77 hx hZ (own_w hw 1 rfl) e77 (g := (mkF m 157 #[iv p1, iv p2, iv p3, iv p4, iv p5, iv q1, iv q2, iv q3, iv kq, iv c0, iv c1, iv c2, rv b33, rv b62, .unset, .unset, .unset, .unset, .unset, .unset, .unset] [(.int (4 : Int32))])) rfl (hb hby at_157) rfl (by decide) (cap := 4) (by decide) (by decide) (by decide) (by decide)
  obtain ⟨b82, g82⟩ : ∃ z, z = h77.size := ⟨_, rfl⟩
  rw [← g82] at A82 st82
  have ne_b33_b82 : b33 ≠ b82 := Nat.ne_of_lt (Nat.lt_of_lt_of_le f78_0.lt (Nat.le_of_eq g82.symm))
  have ne_b62_b82 : b62 ≠ b82 := Nat.ne_of_lt (Nat.lt_of_lt_of_le V81.lt (Nat.le_of_eq g82.symm))
  have sz_b82 : h0.size ≤ b82 := Nat.le_trans K79.1 (Nat.le_of_eq g82.symm)
  have g_b82 : n0 ≤ b82 := Nat.le_trans Z0 sz_b82
  have f83_0 := f78_0.ext E82
  have f83_1 := V81.ext E82
  have K84 : Keep h0 h82 [] := K79.ext E82
  have V82 : own_AV Z h82 b82 .int (own_is [(0 : Int32), (0 : Int32), (0 : Int32), (0 : Int32)]) := own_AV_newI A82
  refine own_st st82 ?_
  show own_Fin p e below G (T82.setTop (mkF m 159 #[iv p1, iv p2, iv p3, iv p4, iv p5, iv q1, iv q2, iv q3, iv kq, iv c0, iv c1, iv c2, rv b33, rv b62, .unset, .unset, .unset, .unset, .unset, .unset, .unset] [(.ref b82)]))
  refine own_st (fun _ k => XS.dup X82.here hx rfl (hb hby at_159) rfl rfl k) ?_
  show own_Fin p e below G (T82.setTop (mkF m 160 #[iv p1, iv p2, iv p3, iv p4, iv p5, iv q1, iv q2, iv q3, iv kq, iv c0, iv c1, iv c2, rv b33, rv b62, .unset, .unset, .unset, .unset, .unset, .unset, .unset] [(.ref b82), (.ref b82)]))
  refine own_st (fun _ k => XS.iconst X82.here hx rfl (hb hby at_160) k) ?_
  show own_Fin p e below G (T82.setTop (mkF m 161 #[iv p1, iv p2, iv p3, iv p4, iv p5, iv q1, iv q2, iv q3, iv kq, iv c0, iv c1, iv c2, rv b33, rv b62, .unset, .unset, .unset, .unset, .unset, .unset, .unset] [(.int (0 : Int32)), (.ref b82), (.ref b82)]))
  refine own_st (fun _ k => XS.aload X82.here hx rfl (hb hby at_161) rfl rfl k) ?_
  show own_Fin p e below G (T82.setTop (mkF m 163 #[iv p1, iv p2, iv p3, iv p4, iv p5, iv q1, iv q2, iv q3, iv kq, iv c0, iv c1, iv c2, rv b33, rv b62, .unset, .unset, .unset, .unset, .unset, .unset, .unset] [(.ref b62), (.int (0 : Int32)), (.ref b82), (.ref b82)]))
  refine own_st (fun _ k => XS.iconst X82.here hx rfl (hb hby at_163) k) ?_
  show own_Fin p e below G (T82.setTop (mkF m 164 #[iv p1, iv p2, iv p3, iv p4, iv p5, iv q1, iv q2, iv q3, iv kq, iv c0, iv c1, iv c2, rv b33, rv b62, .unset, .unset, .unset, .unset, .unset, .unset, .unset] [(.int (0 : Int32)), (.ref b62), (.int (0 : Int32)), (.ref b82), (.ref b82)]))
  refine own_st (fun _ k => own_ldI X82 hx hZ e82 f83_1 (j := (0 : Int32)) (n := 4) rfl (by decide) (g := (mkF m 164 #[iv p1, iv p2, iv p3, iv p4, iv p5, iv q1, iv q2, iv q3, iv kq, iv c0, iv c1, iv c2, rv b33, rv b62, .unset, .unset, .unset, .unset, .unset, .unset, .unset] [(.int (0 : Int32)), (.ref b62), (.int (0 : Int32)), (.ref b82), (.ref b82)])) rfl rfl (hb hby at_164) k) ?_
  show own_Fin p e below G (T82.setTop (mkF m 165 #[iv p1, iv p2, iv p3, iv p4, iv p5, iv q1, iv q2, iv q3, iv kq, iv c0, iv c1, iv c2, rv b33, rv b62, .unset, .unset, .unset, .unset, .unset, .unset, .unset] [(.int p0'), (.int (0 : Int32)), (.ref b82), (.ref b82)]))
  obtain ⟨T85, h85, X85, e85, W85, V85, st85⟩ := own_stI X82 hx hZ e82 V82 (j := (0 : Int32)) (n := 4) rfl (by decide) (g := (mkF m 165 #[iv p1, iv p2, iv p3, iv p4, iv p5, iv q1, iv q2, iv q3, iv kq, iv c0, iv c1, iv c2, rv b33, rv b62, .unset, .unset, .unset, .unset, .unset, .unset, .unset] [(.int p0'), (.int (0 : Int32)), (.ref b82), (.ref b82)])) rfl rfl (hb hby at_165)
  have f86_0 := f83_0.other W85 ne_b33_b82
  have f86_1 := f83_1.other W85 ne_b62_b82
  have K87 : Keep h0 h85 [] := K84.wr W85 (Or.inr sz_b82)
  have N88 := Fr.snoc X85 N80 g_b82
  replace V85 : own_AV Z h85 b82 .int (own_is [p0', (0 : Int32), (0 : Int32), (0 : Int32)]) := V85
  refine own_st st85 ?_
  show own_Fin p e below G (T85.setTop (mkF m 166 #[iv p1, iv p2, iv p3, iv p4, iv p5, iv q1, iv q2, iv q3, iv kq, iv c0, iv c1, iv c2, rv b33, rv b62, .unset, .unset, .unset, .unset, .unset, .unset, .unset] [(.ref b82)]))
  refine own_st (fun _ k => XS.dup X85.here hx rfl (hb hby at_166) rfl rfl k) ?_
  show own_Fin p e below G (T85.setTop (mkF m 167 #[iv p1, iv p2, iv p3, iv p4, iv p5, iv q1, iv q2, iv q3, iv kq, iv c0, iv c1, iv c2, rv b33, rv b62, .unset, .unset, .unset, .unset, .unset, .unset, .unset] [(.ref b82), (.ref b82)]))
  refine own_st (fun _ k => XS.iconst X85.here hx rfl (hb hby at_167) k) ?_
  show own_Fin p e below G (T85.setTop (mkF m 168 #[iv p1, iv p2, iv p3, iv p4, iv p5, iv q1, iv q2, iv q3, iv kq, iv c0, iv c1, iv c2, rv b33, rv b62, .unset, .unset, .unset, .unset, .unset, .unset, .unset] [(.int (1 : Int32)), (.ref b82), (.ref b82)]))
  refine own_st (fun _ k => XS.aload X85.here hx rfl (hb hby at_168) rfl rfl k) ?_
  show own_Fin p e below G (T85.setTop (mkF m 170 #[iv p1, iv p2, iv p3, iv p4, iv p5, iv q1, iv q2, iv q3, iv kq, iv c0, iv c1, iv c2, rv b33, rv b62, .unset, .unset, .unset, .unset, .unset, .unset, .unset] [(.ref b62), (.int (1 : Int32)), (.ref b82), (.ref b82)]))
  refine own_st (fun _ k => XS.iconst X85.here hx rfl (hb hby at_170) k) ?_
  show own_Fin p e below G (T85.setTop (mkF m 171 #[iv p1, iv p2, iv p3, iv p4, iv p5, iv q1, iv q2, iv q3, iv kq, iv c0, iv c1, iv c2, rv b33, rv b62, .unset, .unset, .unset, .unset, .unset, .unset, .unset] [(.int (1 : Int32)), (.ref b62), (.int (1 : Int32)), (.ref b82), (.ref b82)]))
  refine own_st (fun _ k => own_ldI X85 hx hZ e85 f86_1 (j := (1 : Int32)) (n := 4) rfl (by decide) (g := (mkF m 171 #[iv p1, iv p2, iv p3, iv p4, iv p5, iv q1, iv q2, iv q3, iv kq, iv c0, iv c1, iv c2, rv b33, rv b62, .unset, .unset, .unset, .unset, .unset, .unset, .unset] [(.int (1 : Int32)), (.ref b62), (.int (1 : Int32)), (.ref b82), (.ref b82)])) rfl rfl (hb hby at_171) k) ?_
  show own_Fin p e below G (T85.setTop (mkF m 172 #[iv p1, iv p2, iv p3, iv p4, iv p5, iv q1, iv q2, iv q3, iv kq, iv c0, iv c1, iv c2, rv b33, rv b62, .unset, .unset, .unset, .unset, .unset, .unset, .unset] [(.int p1'), (.int (1 : Int32)), (.ref b82), (.ref b82)]))
  obtain ⟨T89, h89, X89, e89, W89, V89, st89⟩ := own_stI X85 hx hZ e85 V85 (j := (1 : Int32)) (n := 4) rfl (by decide) (g := (mkF m 172 #[iv p1, iv p2, iv p3, iv p4, iv p5, iv q1, iv q2, iv q3, iv kq, iv c0, iv c1, iv c2, rv b33, rv b62, .unset, .unset, .unset, .unset, .unset, .unset, .unset] [(.int p1'), (.int (1 : Int32)), (.ref b82), (.ref b82)])) rfl rfl (hb hby at_172)
  have f90_0 := f86_0.other W89 ne_b33_b82
  have f90_1 := f86_1.other W89 ne_b62_b82
  have K91 : Keep h0 h89 [] := K87.wr W89 (Or.inr sz_b82)
  have N92 := Fr.snoc X89 N88 g_b82
  replace V89 : own_AV Z h89 b82 .int (own_is [p0', p1', (0 : Int32), (0 : Int32)]) := V89
  refine own_st st89 ?_
  show own_Fin p e below G (T89.setTop (mkF m 173 #[iv p1, iv p2, iv p3, iv p4, iv p5, iv q1, iv q2, iv q3, iv kq, iv c0, iv c1, iv c2, rv b33, rv b62, .unset, .unset, .unset, .unset, .unset, .unset, .unset] [(.ref b82)]))
  refine own_st (fun _ k => XS.dup X89.here hx rfl (hb hby at_173) rfl rfl k) ?_
  show own_Fin p e below G (T89.setTop (mkF m 174 #[iv p1, iv p2, iv p3, iv p4, iv p5, iv q1, iv q2, iv q3, iv kq, iv c0, iv c1, iv c2, rv b33, rv b62, .unset, .unset, .unset, .unset, .unset, .unset, .unset] [(.ref b82), (.ref b82)]))
  refine own_st (fun _ k => XS.iconst X89.here hx rfl (hb hby at_174) k) ?_
  show own_Fin p e below G (T89.setTop (mkF m 175 #[iv p1, iv p2, iv p3, iv p4, iv p5, iv q1, iv q2, iv q3, iv kq, iv c0, iv c1, iv c2, rv b33, rv b62, .unset, .unset, .unset, .unset, .unset, .unset, .unset] [(.int (2 : Int32)), (.ref b82), (.ref b82)]))
  refine own_st (fun _ k => XS.aload X89.here hx rfl (hb hby at_175) rfl rfl k) ?_
  show own_Fin p e below G (T89.setTop (mkF m 177 #[iv p1, iv p2, iv p3, iv p4, iv p5, iv q1, iv q2, iv q3, iv kq, iv c0, iv c1, iv c2, rv b33, rv b62, .unset, .unset, .unset, .unset, .unset, .unset, .unset] [(.ref b62), (.int (2 : Int32)), (.ref b82), (.ref b82)]))
  refine own_st (fun _ k => XS.iconst X89.here hx rfl (hb hby at_177) k) ?_
  show own_Fin p e below G (T89.setTop (mkF m 178 #[iv p1, iv p2, iv p3, iv p4, iv p5, iv q1, iv q2, iv q3, iv kq, iv c0, iv c1, iv c2, rv b33, rv b62, .unset, .unset, .unset, .unset, .unset, .unset, .unset] [(.int (2 : Int32)), (.ref b62), (.int (2 : Int32)), (.ref b82), (.ref b82)]))
  refine own_st (fun _ k => own_ldI X89 hx hZ e89 f90_1 (j := (2 : Int32)) (n := 4) rfl (by decide) (g := (mkF m 178 #[iv p1, iv p2, iv p3, iv p4, iv p5, iv q1, iv q2, iv q3, iv kq, iv c0, iv c1, iv c2, rv b33, rv b62, .unset, .unset, .unset, .unset, .unset, .unset, .unset] [(.int (2 : Int32)), (.ref b62), (.int (2 : Int32)), (.ref b82), (.ref b82)])) rfl rfl (hb hby at_178) k) ?_
  show own_Fin p e below G (T89.setTop (mkF m 179 #[iv p1, iv p2, iv p3, iv p4, iv p5, iv q1, iv q2, iv q3, iv kq, iv c0, iv c1, iv c2, rv b33, rv b62, .unset, .unset, .unset, .unset, .unset, .unset, .unset] [(.int p2'), (.int (2 : Int32)), (.ref b82), (.ref b82)]))
  obtain ⟨T93, h93, X93, e93, W93, V93, st93⟩ := own_stI X89 hx hZ e89 V89 (j := (2 : Int32)) (n := 4) rfl (by decide) (g := (mkF m 179 #[iv p1, iv p2, iv p3, iv p4, iv p5, iv q1, iv q2, iv q3, iv kq, iv c0, iv c1, iv c2, rv b33, rv b62, .unset, .unset, .unset, .unset, .unset, .unset, .unset] [(.int p2'), (.int (2 : Int32)), (.ref b82), (.ref b82)])) rfl rfl (hb hby at_179)
  have f94_0 := f90_0.other W93 ne_b33_b82
  have f94_1 := f90_1.other W93 ne_b62_b82
  have K95 : Keep h0 h93 [] := K91.wr W93 (Or.inr sz_b82)
  have N96 := Fr.snoc X93 N92 g_b82
  replace V93 : own_AV Z h93 b82 .int (own_is [p0', p1', p2', (0 : Int32)]) := V93
  refine own_st st93 ?_
  show own_Fin p e below G (T93.setTop (mkF m 180 #[iv p1, iv p2, iv p3, iv p4, iv p5, iv q1, iv q2, iv q3, iv kq, iv c0, iv c1, iv c2, rv b33, rv b62, .unset, .unset, .unset, .unset, .unset, .unset, .unset] [(.ref b82)]))
  refine own_st (fun _ k => XS.dup X93.here hx rfl (hb hby at_180) rfl rfl k) ?_
  show own_Fin p e below G (T93.setTop (mkF m 181 #[iv p1, iv p2, iv p3, iv p4, iv p5, iv q1, iv q2, iv q3, iv kq, iv c0, iv c1, iv c2, rv b33, rv b62, .unset, .unset, .unset, .unset, .unset, .unset, .unset] [(.ref b82), (.ref b82)]))
  refine own_st (fun _ k => XS.iconst X93.here hx rfl (hb hby at_181) k) ?_
  show own_Fin p e below G (T93.setTop (mkF m 182 #[iv p1, iv p2, iv p3, iv p4, iv p5, iv q1, iv q2, iv q3, iv kq, iv c0, iv c1, iv c2, rv b33, rv b62, .unset, .unset, .unset, .unset, .unset, .unset, .unset] [(.int (3 : Int32)), (.ref b82), (.ref b82)]))
  refine own_st (fun _ k => XS.aload X93.here hx rfl (hb hby at_182) rfl rfl k) ?_
  show own_Fin p e below G (T93.setTop (mkF m 184 #[iv p1, iv p2, iv p3, iv p4, iv p5, iv q1, iv q2, iv q3, iv kq, iv c0, iv c1, iv c2, rv b33, rv b62, .unset, .unset, .unset, .unset, .unset, .unset, .unset] [(.ref b62), (.int (3 : Int32)), (.ref b82), (.ref b82)]))
  refine own_st (fun _ k => XS.iconst X93.here hx rfl (hb hby at_184) k) ?_
  show own_Fin p e below G (T93.setTop (mkF m 185 #[iv p1, iv p2, iv p3, iv p4, iv p5, iv q1, iv q2, iv q3, iv kq, iv c0, iv c1, iv c2, rv b33, rv b62, .unset, .unset, .unset, .unset, .unset, .unset, .unset] [(.int (3 : Int32)), (.ref b62), (.int (3 : Int32)), (.ref b82), (.ref b82)]))
  refine own_st (fun _ k => own_ldI X93 hx hZ e93 f94_1 (j := (3 : Int32)) (n := 4) rfl (by decide) (g := (mkF m 185 #[iv p1, iv p2, iv p3, iv p4, iv p5, iv q1, iv q2, iv q3, iv kq, iv c0, iv c1, iv c2, rv b33, rv b62, .unset, .unset, .unset, .unset, .unset, .unset, .unset] [(.int (3 : Int32)), (.ref b62), (.int (3 : Int32)), (.ref b82), (.ref b82)])) rfl rfl (hb hby at_185) k) ?_
  show own_Fin p e below G (T93.setTop (mkF m 186 #[iv p1, iv p2, iv p3, iv p4, iv p5, iv q1, iv q2, iv q3, iv kq, iv c0, iv c1, iv c2, rv b33, rv b62, .unset, .unset, .unset, .unset, .unset, .unset, .unset] [(.int p3'), (.int (3 : Int32)), (.ref b82), (.ref b82)]))
  obtain ⟨T97, h97, X97, e97, W97, V97, st97⟩ := own_stI X93 hx hZ e93 V93 (j := (3 : Int32)) (n := 4) rfl (by decide) (g := (mkF m 186 #[iv p1, iv p2, iv p3, iv p4, iv p5, iv q1, iv q2, iv q3, iv kq, iv c0, iv c1, iv c2, rv b33, rv b62, .unset, .unset, .unset, .unset, .unset, .unset, .unset] [(.int p3'), (.int (3 : Int32)), (.ref b82), (.ref b82)])) rfl rfl (hb hby at_186)
  have f98_0 := f94_0.other W97 ne_b33_b82
  have f98_1 := f94_1.other W97 ne_b62_b82
  have K99 : Keep h0 h97 [] := K95.wr W97 (Or.inr sz_b82)
  have N100 := Fr.snoc X97 N96 g_b82
  replace V97 : own_AV Z h97 b82 .int (own_is [p0', p1', p2', p3']) := V97
  refine own_st st97 ?_
  show own_Fin p e below G (T97.setTop (mkF m 187 #[iv p1, iv p2, iv p3, iv p4, iv p5, iv q1, iv q2, iv q3, iv kq, iv c0, iv c1, iv c2, rv b33, rv b62, .unset, .unset, .unset, .unset, .unset, .unset, .unset] [(.ref b82)]))
  refine own_st (fun _ k => XS.astore X97.here hx rfl (hb hby at_187) rfl rfl (l' := #[iv p1, iv p2, iv p3, iv p4, iv p5, iv q1, iv q2, iv q3, iv kq, iv c0, iv c1, iv c2, rv b33, rv b62, rv b82, .unset, .unset, .unset, .unset, .unset, .unset]) rfl k) ?_
  show own_Fin p e below G (T97.setTop (mkF m 189 #[iv p1, iv p2, iv p3, iv p4, iv p5, iv q1, iv q2, iv q3, iv kq, iv c0, iv c1, iv c2, rv b33, rv b62, rv b82, .unset, .unset, .unset, .unset, .unset, .unset] []))
  refine own_st (fun _ k => XS.iload X97.here hx rfl (hb hby at_189) rfl  k) ?_
  show own_Fin p e below G (T97.setTop (mkF m 191 #[iv p1, iv p2, iv p3, iv p4, iv p5, iv q1, iv q2, iv q3, iv kq, iv c0, iv c1, iv c2, rv b33, rv b62, rv b82, .unset, .unset, .unset, .unset, .unset, .unset] [(.int p5)]))
  refine own_st (fun _ k => XS.iconst X97.here hx rfl (hb hby at_191) k) ?_
  show own_Fin p e below G (T97.setTop (mkF m 192 #[iv p1, iv p2, iv p3, iv p4, iv p5, iv q1, iv q2, iv q3, iv kq, iv c0, iv c1, iv c2, rv b33, rv b62, rv b82, .unset, .unset, .unset, .unset, .unset, .unset] [(.int (3 : Int32)), (.int p5)]))
  refine own_st (fun _ k => XS.iand X97.here hx rfl (hb hby at_192) rfl k) ?_
  show own_Fin p e below G (T97.setTop (mkF m 193 #[iv p1, iv p2, iv p3, iv p4, iv p5, iv q1, iv q2, iv q3, iv kq, iv c0, iv c1, iv c2, rv b33, rv b62, rv b82, .unset, .unset, .unset, .unset, .unset, .unset] [(.int (p5 &&& (3 : Int32)))]))
  have rn_nd := own_a3 p5
  generalize e_nd : (p5 &&& (3 : Int32)) = nd at *
  show own_Fin p e below G (T97.setTop (mkF m 193 #[iv p1, iv p2, iv p3, iv p4, iv p5, iv q1, iv q2, iv q3, iv kq, iv c0, iv c1, iv c2, rv b33, rv b62, rv b82, .unset, .unset, .unset, .unset, .unset, .unset] [(.int nd)]))
  refine own_st (fun _ k => XS.istore X97.here hx rfl (hb hby at_193) rfl (l' := #[iv p1, iv p2, iv p3, iv p4, iv p5, iv q1, iv q2, iv q3, iv kq, iv c0, iv c1, iv c2, rv b33, rv b62, rv b82, iv nd, .unset, .unset, .unset, .unset, .unset]) rfl k) ?_
  show own_Fin p e below G (T97.setTop (mkF m 195 #[iv p1, iv p2, iv p3, iv p4, iv p5, iv q1, iv q2, iv q3, iv kq, iv c0, iv c1, iv c2, rv b33, rv b62, rv b82, iv nd, .unset, .unset, .unset, .unset, .unset] []))
  refine own_st (fun _ k => XS.aload X97.here hx rfl (hb hby at_195) rfl rfl k) ?_
  show own_Fin p e below G (T97.setTop (mkF m 197 #[iv p1, iv p2, iv p3, iv p4, iv p5, iv q1, iv q2, iv q3, iv kq, iv c0, iv c1, iv c2, rv b33, rv b62, rv b82, iv nd, .unset, .unset, .unset, .unset, .unset] [(.ref b82)]))
  refine own_st (fun _ k => XS.iload X97.here hx rfl (hb hby at_197) rfl  k) ?_
  show own_Fin p e below G (T97.setTop (mkF m 199 #[iv p1, iv p2, iv p3, iv p4, iv p5, iv q1, iv q2, iv q3, iv kq, iv c0, iv c1, iv c2, rv b33, rv b62, rv b82, iv nd, .unset, .unset, .unset, .unset, .unset] [(.int nd), (.ref b82)]))
  refine own_st (fun _ k => own_ldI X97 hx hZ e97 V97 (j := nd) (n := 4) (by simp) (own_inb rn_nd) (g := (mkF m 199 #[iv p1, iv p2, iv p3, iv p4, iv p5, iv q1, iv q2, iv q3, iv kq, iv c0, iv c1, iv c2, rv b33, rv b62, rv b82, iv nd, .unset, .unset, .unset, .unset, .unset] [(.int nd), (.ref b82)])) rfl rfl (hb hby at_199) k) ?_
  show own_Fin p e below G (T97.setTop (mkF m 200 #[iv p1, iv p2, iv p3, iv p4, iv p5, iv q1, iv q2, iv q3, iv kq, iv c0, iv c1, iv c2, rv b33, rv b62, rv b82, iv nd, .unset, .unset, .unset, .unset, .unset] [(.int ([p0', p1', p2', p3'].getD nd.toNatClampNeg 0))]))
  have rn_y1 := own_gF hF rn_nd
  generalize e_y1 : ([p0', p1', p2', p3'].getD nd.toNatClampNeg 0) = y1 at *
  show own_Fin p e below G (T97.setTop (mkF m 200 #[iv p1, iv p2, iv p3, iv p4, iv p5, iv q1, iv q2, iv q3, iv kq, iv c0, iv c1, iv c2, rv b33, rv b62, rv b82, iv nd, .unset, .unset, .unset, .unset, .unset] [(.int y1)]))
  refine own_st (fun _ k => XS.istore X97.here hx rfl (hb hby at_200) rfl (l' := #[iv p1, iv p2, iv p3, iv p4, iv p5, iv q1, iv q2, iv q3, iv kq, iv c0, iv c1, iv c2, rv b33, rv b62, rv b82, iv nd, iv y1, .unset, .unset, .unset, .unset]) rfl k) ?_
  show own_Fin p e below G (T97.setTop (mkF m 202 #[iv p1, iv p2, iv p3, iv p4, iv p5, iv q1, iv q2, iv q3, iv kq, iv c0, iv c1, iv c2, rv b33, rv b62, rv b82, iv nd, iv y1, .unset, .unset, .unset, .unset] []))
  refine own_st (fun _ k => XS.aload X97.here hx rfl (hb hby at_202) rfl rfl k) ?_
  show own_Fin p e below G (T97.setTop (mkF m 204 #[iv p1, iv p2, iv p3, iv p4, iv p5, iv q1, iv q2, iv q3, iv kq, iv c0, iv c1, iv c2, rv b33, rv b62, rv b82, iv nd, iv y1, .unset, .unset, .unset, .unset] [(.ref b82)]))
  refine own_st (fun _ k => XS.iload X97.here hx rfl (hb hby at_204) rfl  k) ?_
  show own_Fin p e below G (T97.setTop (mkF m 206 #[iv p1, iv p2, iv p3, iv p4, iv p5, iv q1, iv q2, iv q3, iv kq, iv c0, iv c1, iv c2, rv b33, rv b62, rv b82, iv nd, iv y1, .unset, .unset, .unset, .unset] [(.int y1), (.ref b82)]))
  refine own_st (fun _ k => own_ldI X97 hx hZ e97 V97 (j := y1) (n := 4) (by simp) (own_inb rn_y1) (g := (mkF m 206 #[iv p1, iv p2, iv p3, iv p4, iv p5, iv q1, iv q2, iv q3, iv kq, iv c0, iv c1, iv c2, rv b33, rv b62, rv b82, iv nd, iv y1, .unset, .unset, .unset, .unset] [(.int y1), (.ref b82)])) rfl rfl (hb hby at_206) k) ?_
  show own_Fin p e below G (T97.setTop (mkF m 207 #[iv p1, iv p2, iv p3, iv p4, iv p5, iv q1, iv q2, iv q3, iv kq, iv c0, iv c1, iv c2, rv b33, rv b62, rv b82, iv nd, iv y1, .unset, .unset, .unset, .unset] [(.int ([p0', p1', p2', p3'].getD y1.toNatClampNeg 0))]))
  have rn_y2 := own_gF hF rn_y1
  generalize e_y2 : ([p0', p1', p2', p3'].getD y1.toNatClampNeg 0) = y2 at *
  show own_Fin p e below G (T97.setTop (mkF m 207 #[iv p1, iv p2, iv p3, iv p4, iv p5, iv q1, iv q2, iv q3, iv kq, iv c0, iv c1, iv c2, rv b33, rv b62, rv b82, iv nd, iv y1, .unset, .unset, .unset, .unset] [(.int y2)]))
  refine own_st (fun _ k => XS.istore X97.here hx rfl (hb hby at_207) rfl (l' := #[iv p1, iv p2, iv p3, iv p4, iv p5, iv q1, iv q2, iv q3, iv kq, iv c0, iv c1, iv c2, rv b33, rv b62, rv b82, iv nd, iv y1, iv y2, .unset, .unset, .unset]) rfl k) ?_
  show own_Fin p e below G (T97.setTop (mkF m 209 #[iv p1, iv p2, iv p3, iv p4, iv p5, iv q1, iv q2, iv q3, iv kq, iv c0, iv c1, iv c2, rv b33, rv b62, rv b82, iv nd, iv y1, iv y2, .unset, .unset, .unset] []))
  refine own_st (fun _ k => XS.aload X97.here hx rfl (hb hby at_209) rfl rfl k) ?_
  show own_Fin p e below G (T97.setTop (mkF m 211 #[iv p1, iv p2, iv p3, iv p4, iv p5, iv q1, iv q2, iv q3, iv kq, iv c0, iv c1, iv c2, rv b33, rv b62, rv b82, iv nd, iv y1, iv y2, .unset, .unset, .unset] [(.ref b82)]))
  refine own_st (fun _ k => XS.iload X97.here hx rfl (hb hby at_211) rfl  k) ?_
  show own_Fin p e below G (T97.setTop (mkF m 213 #[iv p1, iv p2, iv p3, iv p4, iv p5, iv q1, iv q2, iv q3, iv kq, iv c0, iv c1, iv c2, rv b33, rv b62, rv b82, iv nd, iv y1, iv y2, .unset, .unset, .unset] [(.int y2), (.ref b82)]))
  refine own_st (fun _ k => own_ldI X97 hx hZ e97 V97 (j := y2) (n := 4) (by simp) (own_inb rn_y2) (g := (mkF m 213 #[iv p1, iv p2, iv p3, iv p4, iv p5, iv q1, iv q2, iv q3, iv kq, iv c0, iv c1, iv c2, rv b33, rv b62, rv b82, iv nd, iv y1, iv y2, .unset, .unset, .unset] [(.int y2), (.ref b82)])) rfl rfl (hb hby at_213) k) ?_
  show own_Fin p e below G (T97.setTop (mkF m 214 #[iv p1, iv p2, iv p3, iv p4, iv p5, iv q1, iv q2, iv q3, iv kq, iv c0, iv c1, iv c2, rv b33, rv b62, rv b82, iv nd, iv y1, iv y2, .unset, .unset, .unset] [(.int ([p0', p1', p2', p3'].getD y2.toNatClampNeg 0))]))
  have rn_y3 := own_gF hF rn_y2
  generalize e_y3 : ([p0', p1', p2', p3'].getD y2.toNatClampNeg 0) = y3 at *
  show own_Fin p e below G (T97.setTop (mkF m 214 #[iv p1, iv p2, iv p3, iv p4, iv p5, iv q1, iv q2, iv q3, iv kq, iv c0, iv c1, iv c2, rv b33, rv b62, rv b82, iv nd, iv y1, iv y2, .unset, .unset, .unset] [(.int y3)]))
  refine own_st (fun _ k => XS.istore X97.here hx rfl (hb hby at_214) rfl (l' := #[iv p1, iv p2, iv p3, iv p4, iv p5, iv q1, iv q2, iv q3, iv kq, iv c0, iv c1, iv c2, rv b33, rv b62, rv b82, iv nd, iv y1, iv y2, iv y3, .unset, .unset]) rfl k) ?_
  show own_Fin p e below G (T97.setTop (mkF m 216 #[iv p1, iv p2, iv p3, iv p4, iv p5, iv q1, iv q2, iv q3, iv kq, iv c0, iv c1, iv c2, rv b33, rv b62, rv b82, iv nd, iv y1, iv y2, iv y3, .unset, .unset] []))
  refine own_st (fun _ k => XS.aload X97.here hx rfl (hb hby at_216) rfl rfl k) ?_
  show own_Fin p e below G (T97.setTop (mkF m 218 #[iv p1, iv p2, iv p3, iv p4, iv p5, iv q1, iv q2, iv q3, iv kq, iv c0, iv c1, iv c2, rv b33, rv b62, rv b82, iv nd, iv y1, iv y2, iv y3, .unset, .unset] [(.ref b82)]))
  refine own_st (fun _ k => XS.iload X97.here hx rfl (hb hby at_218) rfl  k) ?_
  show own_Fin p e below G (T97.setTop (mkF m 220 #[iv p1, iv p2, iv p3, iv p4, iv p5, iv q1, iv q2, iv q3, iv kq, iv c0, iv c1, iv c2, rv b33, rv b62, rv b82, iv nd, iv y1, iv y2, iv y3, .unset, .unset] [(.int y3), (.ref b82)]))
  refine own_st (fun _ k => own_ldI X97 hx hZ e97 V97 (j := y3) (n := 4) (by simp) (own_inb rn_y3) (g := (mkF m 220 #[iv p1, iv p2, iv p3, iv p4, iv p5, iv q1, iv q2, iv q3, iv kq, iv c0, iv c1, iv c2, rv b33, rv b62, rv b82, iv nd, iv y1, iv y2, iv y3, .unset, .unset] [(.int y3), (.ref b82)])) rfl rfl (hb hby at_220) k) ?_
  show own_Fin p e below G (T97.setTop (mkF m 221 #[iv p1, iv p2, iv p3, iv p4, iv p5, iv q1, iv q2, iv q3, iv kq, iv c0, iv c1, iv c2, rv b33, rv b62, rv b82, iv nd, iv y1, iv y2, iv y3, .unset, .unset] [(.int ([p0', p1', p2', p3'].getD y3.toNatClampNeg 0))]))
  have rn_y4 := own_gF hF rn_y3
  generalize e_y4 : ([p0', p1', p2', p3'].getD y3.toNatClampNeg 0) = y4 at *
  show own_Fin p e below G (T97.setTop (mkF m 221 #[iv p1, iv p2, iv p3, iv p4, iv p5, iv q1, iv q2, iv q3, iv kq, iv c0, iv c1, iv c2, rv b33, rv b62, rv b82, iv nd, iv y1, iv y2, iv y3, .unset, .unset] [(.int y4)]))
  refine own_st (fun _ k => XS.istore X97.here hx rfl (hb hby at_221) rfl (l' := #[iv p1, iv p2, iv p3, iv p4, iv p5, iv q1, iv q2, iv q3, iv kq, iv c0, iv c1, iv c2, rv b33, rv b62, rv b82, iv nd, iv y1, iv y2, iv y3, iv y4, .unset]) rfl k) ?_
  show own_Fin p e below G (T97.setTop (mkF m 223 #[iv p1, iv p2, iv p3, iv p4, iv p5, iv q1, iv q2, iv q3, iv kq, iv c0, iv c1, iv c2, rv b33, rv b62, rv b82, iv nd, iv y1, iv y2, iv y3, iv y4, .unset] []))
  refine own_st (fun _ k => XS.aload X97.here hx rfl (hb hby at_223) rfl rfl k) ?_
  show own_Fin p e below G (T97.setTop (mkF m 225 #[iv p1, iv p2, iv p3, iv p4, iv p5, iv q1, iv q2, iv q3, iv kq, iv c0, iv c1, iv c2, rv b33, rv b62, rv b82, iv nd, iv y1, iv y2, iv y3, iv y4, .unset] [(.ref b62)]))
  refine own_st (fun _ k => XS.iload X97.here hx rfl (hb hby at_225) rfl  k) ?_
  show own_Fin p e below G (T97.setTop (mkF m 227 #[iv p1, iv p2, iv p3, iv p4, iv p5, iv q1, iv q2, iv q3, iv kq, iv c0, iv c1, iv c2, rv b33, rv b62, rv b82, iv nd, iv y1, iv y2, iv y3, iv y4, .unset] [(.int nd), (.ref b62)]))
  obtain ⟨_, _, ⟨T101, L101, k101, n101⟩, -, X101, ⟨Lc101, hQ101, l101, y101, z101⟩, st101⟩ := Jvm.LawKit.callS X97 hx (y := own_y1) hown (mvT hZ (own_w hw 6 rfl)) (mvT hZ (own_w hw 7 rfl)) (mvT hZ (own_w hw 8 rfl)) (mvT hZ (own_w hw 9 rfl)) (by decide) (backOf (W := 0) (rm_rt l Z a0 hw [] b62 nd p0' p1' p2' p3' h97 n0 (Nat.le_trans Z0 K99.1) f98_1 hF rn_nd g_b62) hZ (own_w hw 9 rfl) (own_w hw 8 rfl) (by decide) (by decide)) (g := (mkF m 227 #[iv p1, iv p2, iv p3, iv p4, iv p5, iv q1, iv q2, iv q3, iv kq, iv c0, iv c1, iv c2, rv b33, rv b62, rv b82, iv nd, iv y1, iv y2, iv y3, iv y4, .unset] [(.int nd), (.ref b62)])) rfl (by rw [hml]; rfl) (argsL := [(.ref b62), (.int nd)]) (rest := []) (lenOf pd___II_I_391 rfl) rfl (by show 2 * 0 + _ ≤ _; exact Nat.le_of_eq rfl) (hb hby at_227) (fun _ _ => ⟨rfl, e97, (by decide : 3 + 0 ≤ _), (by decide : 12 + 0 ≤ _)⟩)
  dsimp only [Pt.U, Pt.locs, Pt.cells, Pt.slots] at X101 l101 y101 z101 st101 hQ101
  subst l101 y101 z101
  obtain ⟨got, xs, hQ101⟩ := hQ101
  obtain ⟨rfl, N101q, Kc101, gA101, hres⟩ := hQ101
  have N101 := Fr.app N100 N101q
  have f102_0 := f98_0.keep Kc101 (ninS ne_b33_b62 nin0)
  have f102_2 := V97.keep Kc101 (ninS (Ne.symm ne_b62_b82) nin0)
  have K103 : Keep h0 T101.heap [] := K99.trans Kc101 (allS (Or.inr sz_b62) all0)
  refine own_st st101 ?_
  show own_Fin p e below G (T101.setTop (mkF m 230 #[iv p1, iv p2, iv p3, iv p4, iv p5, iv q1, iv q2, iv q3, iv kq, iv c0, iv c1, iv c2, rv b33, rv b62, rv b82, iv nd, iv y1, iv y2, iv y3, iv y4, .unset] [(.int got)]))
  refine own_st (fun _ k => XS.istore X101.here hx rfl (hb hby at_230) rfl (l' := #[iv p1, iv p2, iv p3, iv p4, iv p5, iv q1, iv q2, iv q3, iv kq, iv c0, iv c1, iv c2, rv b33, rv b62, rv b82, iv nd, iv y1, iv y2, iv y3, iv y4, iv got]) rfl k) ?_
  show own_Fin p e below G (T101.setTop (mkF m 232 #[iv p1, iv p2, iv p3, iv p4, iv p5, iv q1, iv q2, iv q3, iv kq, iv c0, iv c1, iv c2, rv b33, rv b62, rv b82, iv nd, iv y1, iv y2, iv y3, iv y4, iv got] []))
  refine own_st (fun _ k => XS.iload X101.here hx rfl (hb hby at_232) rfl  k) ?_
  show own_Fin p e below G (T101.setTop (mkF m 234 #[iv p1, iv p2, iv p3, iv p4, iv p5, iv q1, iv q2, iv q3, iv kq, iv c0, iv c1, iv c2, rv b33, rv b62, rv b82, iv nd, iv y1, iv y2, iv y3, iv y4, iv got] [(.int got)]))
  refine own_st (fun _ k => XS.iload X101.here hx rfl (hb hby at_234) rfl  k) ?_
  show own_Fin p e below G (T101.setTop (mkF m 236 #[iv p1, iv p2, iv p3, iv p4, iv p5, iv q1, iv q2, iv q3, iv kq, iv c0, iv c1, iv c2, rv b33, rv b62, rv b82, iv nd, iv y1, iv y2, iv y3, iv y4, iv got] [(.int y4), (.int got)]))
  have hr := hres
  simp only [own_res, own_g, e_y1, e_y2, e_y3, e_y4, Bool.and_eq_true, beq_iff_eq] at hr
  obtain ⟨hgot, hrl⟩ := hr
  rw [hgot] at hrl
  simp only [own_resL, List.all_cons, List.all_nil, Bool.and_true, Bool.and_eq_true, beq_iff_eq] at hrl
  obtain ⟨hxs, ck0, ck1, ck2, ck3⟩ := hrl
  refine own_st (fun _ k => XS.icmpNo X101.here hx rfl (hb hby at_236) rfl (teq hgot).2 k) ?_
  show own_Fin p e below G (T101.setTop (mkF m 239 #[iv p1, iv p2, iv p3, iv p4, iv p5, iv q1, iv q2, iv q3, iv kq, iv c0, iv c1, iv c2, rv b33, rv b62, rv b82, iv nd, iv y1, iv y2, iv y3, iv y4, iv got] []))
  refine own_st (fun _ k => XS.aload X101.here hx rfl (hb hby at_239) rfl rfl k) ?_
  show own_Fin p e below G (T101.setTop (mkF m 241 #[iv p1, iv p2, iv p3, iv p4, iv p5, iv q1, iv q2, iv q3, iv kq, iv c0, iv c1, iv c2, rv b33, rv b62, rv b82, iv nd, iv y1, iv y2, iv y3, iv y4, iv got] [(.ref b62)]))
  refine own_st (fun _ k => XS.aload X101.here hx rfl (hb hby at_241) rfl rfl k) ?_
  show own_Fin p e below G (T101.setTop (mkF m 243 #[iv p1, iv p2, iv p3, iv p4, iv p5, iv q1, iv q2, iv q3, iv kq, iv c0, iv c1, iv c2, rv b33, rv b62, rv b82, iv nd, iv y1, iv y2, iv y3, iv y4, iv got] [(.ref b82), (.ref b62)]))
  refine own_st (fun _ k => XS.iconst X101.here hx rfl (hb hby at_243) k) ?_
  show own_Fin p e below G (T101.setTop (mkF m 244 #[iv p1, iv p2, iv p3, iv p4, iv p5, iv q1, iv q2, iv q3, iv kq, iv c0, iv c1, iv c2, rv b33, rv b62, rv b82, iv nd, iv y1, iv y2, iv y3, iv y4, iv got] [(.int (0 : Int32)), (.ref b82), (.ref b62)]))
  refine own_st (fun _ k => XS.iload X101.here hx rfl (hb hby at_244) rfl  k) ?_
  show own_Fin p e below G (T101.setTop (mkF m 246 #[iv p1, iv p2, iv p3, iv p4, iv p5, iv q1, iv q2, iv q3, iv kq, iv c0, iv c1, iv c2, rv b33, rv b62, rv b82, iv nd, iv y1, iv y2, iv y3, iv y4, iv got] [(.int nd), (.int (0 : Int32)), (.ref b82), (.ref b62)]))
  refine own_st (fun _ k => XS.iload X101.here hx rfl (hb hby at_246) rfl  k) ?_
  show own_Fin p e below G (T101.setTop (mkF m 248 #[iv p1, iv p2, iv p3, iv p4, iv p5, iv q1, iv q2, iv q3, iv kq, iv c0, iv c1, iv c2, rv b33, rv b62, rv b82, iv nd, iv y1, iv y2, iv y3, iv y4, iv got] [(.int y1), (.int nd), (.int (0 : Int32)), (.ref b82), (.ref b62)]))
  refine own_st (fun _ k => XS.iload X101.here hx rfl (hb hby at_248) rfl  k) ?_
  show own_Fin p e below G (T101.setTop (mkF m 250 #[iv p1, iv p2, iv p3, iv p4, iv p5, iv q1, iv q2, iv q3, iv kq, iv c0, iv c1, iv c2, rv b33, rv b62, rv b82, iv nd, iv y1, iv y2, iv y3, iv y4, iv got] [(.int y2), (.int y1), (.int nd), (.int (0 : Int32)), (.ref b82), (.ref b62)]))
  refine own_st (fun _ k => XS.iload X101.here hx rfl (hb hby at_250) rfl  k) ?_
  show own_Fin p e below G (T101.setTop (mkF m 252 #[iv p1, iv p2, iv p3, iv p4, iv p5, iv q1, iv q2, iv q3, iv kq, iv c0, iv c1, iv c2, rv b33, rv b62, rv b82, iv nd, iv y1, iv y2, iv y3, iv y4, iv got] [(.int y3), (.int y2), (.int y1), (.int nd), (.int (0 : Int32)), (.ref b82), (.ref b62)]))
  refine own_st (fun _ k => XS.iload X101.here hx rfl (hb hby at_252) rfl  k) ?_
  show own_Fin p e below G (T101.setTop (mkF m 254 #[iv p1, iv p2, iv p3, iv p4, iv p5, iv q1, iv q2, iv q3, iv kq, iv c0, iv c1, iv c2, rv b33, rv b62, rv b82, iv nd, iv y1, iv y2, iv y3, iv y4, iv got] [(.int y4), (.int y3), (.int y2), (.int y1), (.int nd), (.int (0 : Int32)), (.ref b82), (.ref b62)]))
  obtain ⟨_, _, ⟨T104, L104, k104, n104⟩, -, X104, ⟨Lc104, hQ104, l104, y104, z104⟩, st104⟩ := Jvm.LawKit.callS X101 hx (y := own_y2) hown (mvT hZ (own_w hw 10 rfl)) (mvT hZ (own_w hw 11 rfl)) (mvT hZ (own_w hw 4 rfl)) (mvT hZ (own_w hw 12 rfl)) (by decide) (backOf (W := 0) (rm_ck l Z a0 hw [] b62 b82 (0 : Int32) nd y1 y2 y3 y4 xs [p0', p1', p2', p3'] T101.heap n0 (Nat.le_trans Z0 K103.1) gA101 f102_2 hxs rfl ⟨by decide, by decide⟩) hZ (own_w hw 12 rfl) (own_w hw 4 rfl) (by decide) (by decide)) (g := (mkF m 254 #[iv p1, iv p2, iv p3, iv p4, iv p5, iv q1, iv q2, iv q3, iv kq, iv c0, iv c1, iv c2, rv b33, rv b62, rv b82, iv nd, iv y1, iv y2, iv y3, iv y4, iv got] [(.int y4), (.int y3), (.int y2), (.int y1), (.int nd), (.int (0 : Int32)), (.ref b82), (.ref b62)])) rfl (by rw [hml]; rfl) (argsL := [(.ref b62), (.ref b82), (.int (0 : Int32)), (.int nd), (.int y1), (.int y2), (.int y3), (.int y4)]) (rest := []) (lenOf pd___I_IIIIIII_Z_937 rfl) rfl (by show 2 * 0 + _ ≤ _; exact Nat.le_of_eq rfl) (hb hby at_254) (fun _ _ => ⟨rfl, rfl, (by decide : 3 + 0 ≤ _), (by decide : 12 + 0 ≤ _)⟩)
  dsimp only [Pt.U, Pt.locs, Pt.cells, Pt.slots] at X104 l104 y104 z104 st104 hQ104
  subst l104 y104 z104
  obtain ⟨hv104, N104q, e104⟩ := hQ104
  rw [ck0] at hv104
  subst hv104
  skip
  have N104 := Fr.app N101 N104q
  refine own_st st104 ?_
  show own_Fin p e below G (T104.setTop (mkF m 257 #[iv p1, iv p2, iv p3, iv p4, iv p5, iv q1, iv q2, iv q3, iv kq, iv c0, iv c1, iv c2, rv b33, rv b62, rv b82, iv nd, iv y1, iv y2, iv y3, iv y4, iv got] [(.int (1 : Int32))]))
  refine own_st (fun _ k => XS.ifNo X104.here hx rfl (hb hby at_257) rfl ((if0 _ _).trans (feq (by decide : ¬ ((1 : Int32) = (0 : Int32)))).1) k) ?_
  show own_Fin p e below G (T104.setTop (mkF m 260 #[iv p1, iv p2, iv p3, iv p4, iv p5, iv q1, iv q2, iv q3, iv kq, iv c0, iv c1, iv c2, rv b33, rv b62, rv b82, iv nd, iv y1, iv y2, iv y3, iv y4, iv got] []))
  refine own_st (fun _ k => XS.aload X104.here hx rfl (hb hby at_260) rfl rfl k) ?_
  show own_Fin p e below G (T104.setTop (mkF m 262 #[iv p1, iv p2, iv p3, iv p4, iv p5, iv q1, iv q2, iv q3, iv kq, iv c0, iv c1, iv c2, rv b33, rv b62, rv b82, iv nd, iv y1, iv y2, iv y3, iv y4, iv got] [(.ref b62)]))
  refine own_st (fun _ k => XS.aload X104.here hx rfl (hb hby at_262) rfl rfl k) ?_
  show own_Fin p e below G (T104.setTop (mkF m 264 #[iv p1, iv p2, iv p3, iv p4, iv p5, iv q1, iv q2, iv q3, iv kq, iv c0, iv c1, iv c2, rv b33, rv b62, rv b82, iv nd, iv y1, iv y2, iv y3, iv y4, iv got] [(.ref b82), (.ref b62)]))
  refine own_st (fun _ k => XS.iconst X104.here hx rfl (hb hby at_264) k) ?_
  show own_Fin p e below G (T104.setTop (mkF m 265 #[iv p1, iv p2, iv p3, iv p4, iv p5, iv q1, iv q2, iv q3, iv kq, iv c0, iv c1, iv c2, rv b33, rv b62, rv b82, iv nd, iv y1, iv y2, iv y3, iv y4, iv got] [(.int (1 : Int32)), (.ref b82), (.ref b62)]))
  refine own_st (fun _ k => XS.iload X104.here hx rfl (hb hby at_265) rfl  k) ?_
  show own_Fin p e below G (T104.setTop (mkF m 267 #[iv p1, iv p2, iv p3, iv p4, iv p5, iv q1, iv q2, iv q3, iv kq, iv c0, iv c1, iv c2, rv b33, rv b62, rv b82, iv nd, iv y1, iv y2, iv y3, iv y4, iv got] [(.int nd), (.int (1 : Int32)), (.ref b82), (.ref b62)]))
  refine own_st (fun _ k => XS.iload X104.here hx rfl (hb hby at_267) rfl  k) ?_
  show own_Fin p e below G (T104.setTop (mkF m 269 #[iv p1, iv p2, iv p3, iv p4, iv p5, iv q1, iv q2, iv q3, iv kq, iv c0, iv c1, iv c2, rv b33, rv b62, rv b82, iv nd, iv y1, iv y2, iv y3, iv y4, iv got] [(.int y1), (.int nd), (.int (1 : Int32)), (.ref b82), (.ref b62)]))
  refine own_st (fun _ k => XS.iload X104.here hx rfl (hb hby at_269) rfl  k) ?_
  show own_Fin p e below G (T104.setTop (mkF m 271 #[iv p1, iv p2, iv p3, iv p4, iv p5, iv q1, iv q2, iv q3, iv kq, iv c0, iv c1, iv c2, rv b33, rv b62, rv b82, iv nd, iv y1, iv y2, iv y3, iv y4, iv got] [(.int y2), (.int y1), (.int nd), (.int (1 : Int32)), (.ref b82), (.ref b62)]))
  refine own_st (fun _ k => XS.iload X104.here hx rfl (hb hby at_271) rfl  k) ?_
  show own_Fin p e below G (T104.setTop (mkF m 273 #[iv p1, iv p2, iv p3, iv p4, iv p5, iv q1, iv q2, iv q3, iv kq, iv c0, iv c1, iv c2, rv b33, rv b62, rv b82, iv nd, iv y1, iv y2, iv y3, iv y4, iv got] [(.int y3), (.int y2), (.int y1), (.int nd), (.int (1 : Int32)), (.ref b82), (.ref b62)]))
  refine own_st (fun _ k => XS.iload X104.here hx rfl (hb hby at_273) rfl  k) ?_
  show own_Fin p e below G (T104.setTop (mkF m 275 #[iv p1, iv p2, iv p3, iv p4, iv p5, iv q1, iv q2, iv q3, iv kq, iv c0, iv c1, iv c2, rv b33, rv b62, rv b82, iv nd, iv y1, iv y2, iv y3, iv y4, iv got] [(.int y4), (.int y3), (.int y2), (.int y1), (.int nd), (.int (1 : Int32)), (.ref b82), (.ref b62)]))
  obtain ⟨_, _, ⟨T105, L105, k105, n105⟩, -, X105, ⟨Lc105, hQ105, l105, y105, z105⟩, st105⟩ := Jvm.LawKit.callS X104 hx (y := own_y2) hown (mvT hZ (own_w hw 10 rfl)) (mvT hZ (own_w hw 11 rfl)) (mvT hZ (own_w hw 4 rfl)) (mvT hZ (own_w hw 12 rfl)) (by decide) (backOf (W := 0) (rm_ck l Z a0 hw [] b62 b82 (1 : Int32) nd y1 y2 y3 y4 xs [p0', p1', p2', p3'] T101.heap n0 (Nat.le_trans Z0 K103.1) gA101 f102_2 hxs rfl ⟨by decide, by decide⟩) hZ (own_w hw 12 rfl) (own_w hw 4 rfl) (by decide) (by decide)) (g := (mkF m 275 #[iv p1, iv p2, iv p3, iv p4, iv p5, iv q1, iv q2, iv q3, iv kq, iv c0, iv c1, iv c2, rv b33, rv b62, rv b82, iv nd, iv y1, iv y2, iv y3, iv y4, iv got] [(.int y4), (.int y3), (.int y2), (.int y1), (.int nd), (.int (1 : Int32)), (.ref b82), (.ref b62)])) rfl (by rw [hml]; rfl) (argsL := [(.ref b62), (.ref b82), (.int (1 : Int32)), (.int nd), (.int y1), (.int y2), (.int y3), (.int y4)]) (rest := []) (lenOf pd___I_IIIIIII_Z_937 rfl) rfl (by show 2 * 0 + _ ≤ _; exact Nat.le_of_eq rfl) (hb hby at_275) (fun _ _ => ⟨rfl, e104, (by decide : 3 + 0 ≤ _), (by decide : 12 + 0 ≤ _)⟩)
  dsimp only [Pt.U, Pt.locs, Pt.cells, Pt.slots] at X105 l105 y105 z105 st105 hQ105
  subst l105 y105 z105
  obtain ⟨hv105, N105q, e105⟩ := hQ105
  rw [ck1] at hv105
  subst hv105
  skip
  have N105 := Fr.app N104 N105q
  refine own_st st105 ?_
  show own_Fin p e below G (T105.setTop (mkF m 278 #[iv p1, iv p2, iv p3, iv p4, iv p5, iv q1, iv q2, iv q3, iv kq, iv c0, iv c1, iv c2, rv b33, rv b62, rv b82, iv nd, iv y1, iv y2, iv y3, iv y4, iv got] [(.int (1 : Int32))]))
  refine own_st (fun _ k => XS.ifNo X105.here hx rfl (hb hby at_278) rfl ((if0 _ _).trans (feq (by decide : ¬ ((1 : Int32) = (0 : Int32)))).1) k) ?_
  show own_Fin p e below G (T105.setTop (mkF m 281 #[iv p1, iv p2, iv p3, iv p4, iv p5, iv q1, iv q2, iv q3, iv kq, iv c0, iv c1, iv c2, rv b33, rv b62, rv b82, iv nd, iv y1, iv y2, iv y3, iv y4, iv got] []))
  refine own_st (fun _ k => XS.aload X105.here hx rfl (hb hby at_281) rfl rfl k) ?_
  show own_Fin p e below G (T105.setTop (mkF m 283 #[iv p1, iv p2, iv p3, iv p4, iv p5, iv q1, iv q2, iv q3, iv kq, iv c0, iv c1, iv c2, rv b33, rv b62, rv b82, iv nd, iv y1, iv y2, iv y3, iv y4, iv got] [(.ref b62)]))
  refine own_st (fun _ k => XS.aload X105.here hx rfl (hb hby at_283) rfl rfl k) ?_
  show own_Fin p e below G (T105.setTop (mkF m 285 #[iv p1, iv p2, iv p3, iv p4, iv p5, iv q1, iv q2, iv q3, iv kq, iv c0, iv c1, iv c2, rv b33, rv b62, rv b82, iv nd, iv y1, iv y2, iv y3, iv y4, iv got] [(.ref b82), (.ref b62)]))
  refine own_st (fun _ k => XS.iconst X105.here hx rfl (hb hby at_285) k) ?_
  show own_Fin p e below G (T105.setTop (mkF m 286 #[iv p1, iv p2, iv p3, iv p4, iv p5, iv q1, iv q2, iv q3, iv kq, iv c0, iv c1, iv c2, rv b33, rv b62, rv b82, iv nd, iv y1, iv y2, iv y3, iv y4, iv got] [(.int (2 : Int32)), (.ref b82), (.ref b62)]))
  refine own_st (fun _ k => XS.iload X105.here hx rfl (hb hby at_286) rfl  k) ?_
  show own_Fin p e below G (T105.setTop (mkF m 288 #[iv p1, iv p2, iv p3, iv p4, iv p5, iv q1, iv q2, iv q3, iv kq, iv c0, iv c1, iv c2, rv b33, rv b62, rv b82, iv nd, iv y1, iv y2, iv y3, iv y4, iv got] [(.int nd), (.int (2 : Int32)), (.ref b82), (.ref b62)]))
  refine own_st (fun _ k => XS.iload X105.here hx rfl (hb hby at_288) rfl  k) ?_
  show own_Fin p e below G (T105.setTop (mkF m 290 #[iv p1, iv p2, iv p3, iv p4, iv p5, iv q1, iv q2, iv q3, iv kq, iv c0, iv c1, iv c2, rv b33, rv b62, rv b82, iv nd, iv y1, iv y2, iv y3, iv y4, iv got] [(.int y1), (.int nd), (.int (2 : Int32)), (.ref b82), (.ref b62)]))
  refine own_st (fun _ k => XS.iload X105.here hx rfl (hb hby at_290) rfl  k) ?_
  show own_Fin p e below G (T105.setTop (mkF m 292 #[iv p1, iv p2, iv p3, iv p4, iv p5, iv q1, iv q2, iv q3, iv kq, iv c0, iv c1, iv c2, rv b33, rv b62, rv b82, iv nd, iv y1, iv y2, iv y3, iv y4, iv got] [(.int y2), (.int y1), (.int nd), (.int (2 : Int32)), (.ref b82), (.ref b62)]))
  refine own_st (fun _ k => XS.iload X105.here hx rfl (hb hby at_292) rfl  k) ?_
  show own_Fin p e below G (T105.setTop (mkF m 294 #[iv p1, iv p2, iv p3, iv p4, iv p5, iv q1, iv q2, iv q3, iv kq, iv c0, iv c1, iv c2, rv b33, rv b62, rv b82, iv nd, iv y1, iv y2, iv y3, iv y4, iv got] [(.int y3), (.int y2), (.int y1), (.int nd), (.int (2 : Int32)), (.ref b82), (.ref b62)]))
  refine own_st (fun _ k => XS.iload X105.here hx rfl (hb hby at_294) rfl  k) ?_
  show own_Fin p e below G (T105.setTop (mkF m 296 #[iv p1, iv p2, iv p3, iv p4, iv p5, iv q1, iv q2, iv q3, iv kq, iv c0, iv c1, iv c2, rv b33, rv b62, rv b82, iv nd, iv y1, iv y2, iv y3, iv y4, iv got] [(.int y4), (.int y3), (.int y2), (.int y1), (.int nd), (.int (2 : Int32)), (.ref b82), (.ref b62)]))
  obtain ⟨_, _, ⟨T106, L106, k106, n106⟩, -, X106, ⟨Lc106, hQ106, l106, y106, z106⟩, st106⟩ := Jvm.LawKit.callS X105 hx (y := own_y2) hown (mvT hZ (own_w hw 10 rfl)) (mvT hZ (own_w hw 11 rfl)) (mvT hZ (own_w hw 4 rfl)) (mvT hZ (own_w hw 12 rfl)) (by decide) (backOf (W := 0) (rm_ck l Z a0 hw [] b62 b82 (2 : Int32) nd y1 y2 y3 y4 xs [p0', p1', p2', p3'] T101.heap n0 (Nat.le_trans Z0 K103.1) gA101 f102_2 hxs rfl ⟨by decide, by decide⟩) hZ (own_w hw 12 rfl) (own_w hw 4 rfl) (by decide) (by decide)) (g := (mkF m 296 #[iv p1, iv p2, iv p3, iv p4, iv p5, iv q1, iv q2, iv q3, iv kq, iv c0, iv c1, iv c2, rv b33, rv b62, rv b82, iv nd, iv y1, iv y2, iv y3, iv y4, iv got] [(.int y4), (.int y3), (.int y2), (.int y1), (.int nd), (.int (2 : Int32)), (.ref b82), (.ref b62)])) rfl (by rw [hml]; rfl) (argsL := [(.ref b62), (.ref b82), (.int (2 : Int32)), (.int nd), (.int y1), (.int y2), (.int y3), (.int y4)]) (rest := []) (lenOf pd___I_IIIIIII_Z_937 rfl) rfl (by show 2 * 0 + _ ≤ _; exact Nat.le_of_eq rfl) (hb hby at_296) (fun _ _ => ⟨rfl, e105, (by decide : 3 + 0 ≤ _), (by decide : 12 + 0 ≤ _)⟩)
  dsimp only [Pt.U, Pt.locs, Pt.cells, Pt.slots] at X106 l106 y106 z106 st106 hQ106
  subst l106 y106 z106
  obtain ⟨hv106, N106q, e106⟩ := hQ106
  rw [ck2] at hv106
  subst hv106
  skip
  have N106 := Fr.app N105 N106q
  refine own_st st106 ?_
  show own_Fin p e below G (T106.setTop (mkF m 299 #[iv p1, iv p2, iv p3, iv p4, iv p5, iv q1, iv q2, iv q3, iv kq, iv c0, iv c1, iv c2, rv b33, rv b62, rv b82, iv nd, iv y1, iv y2, iv y3, iv y4, iv got] [(.int (1 : Int32))]))
  refine own_st (fun _ k => XS.ifNo X106.here hx rfl (hb hby at_299) rfl ((if0 _ _).trans (feq (by decide : ¬ ((1 : Int32) = (0 : Int32)))).1) k) ?_
  show own_Fin p e below G (T106.setTop (mkF m 302 #[iv p1, iv p2, iv p3, iv p4, iv p5, iv q1, iv q2, iv q3, iv kq, iv c0, iv c1, iv c2, rv b33, rv b62, rv b82, iv nd, iv y1, iv y2, iv y3, iv y4, iv got] []))
  refine own_st (fun _ k => XS.aload X106.here hx rfl (hb hby at_302) rfl rfl k) ?_
  show own_Fin p e below G (T106.setTop (mkF m 304 #[iv p1, iv p2, iv p3, iv p4, iv p5, iv q1, iv q2, iv q3, iv kq, iv c0, iv c1, iv c2, rv b33, rv b62, rv b82, iv nd, iv y1, iv y2, iv y3, iv y4, iv got] [(.ref b62)]))
  refine own_st (fun _ k => XS.aload X106.here hx rfl (hb hby at_304) rfl rfl k) ?_
  show own_Fin p e below G (T106.setTop (mkF m 306 #[iv p1, iv p2, iv p3, iv p4, iv p5, iv q1, iv q2, iv q3, iv kq, iv c0, iv c1, iv c2, rv b33, rv b62, rv b82, iv nd, iv y1, iv y2, iv y3, iv y4, iv got] [(.ref b82), (.ref b62)]))
  refine own_st (fun _ k => XS.iconst X106.here hx rfl (hb hby at_306) k) ?_
  show own_Fin p e below G (T106.setTop (mkF m 307 #[iv p1, iv p2, iv p3, iv p4, iv p5, iv q1, iv q2, iv q3, iv kq, iv c0, iv c1, iv c2, rv b33, rv b62, rv b82, iv nd, iv y1, iv y2, iv y3, iv y4, iv got] [(.int (3 : Int32)), (.ref b82), (.ref b62)]))
  refine own_st (fun _ k => XS.iload X106.here hx rfl (hb hby at_307) rfl  k) ?_
  show own_Fin p e below G (T106.setTop (mkF m 309 #[iv p1, iv p2, iv p3, iv p4, iv p5, iv q1, iv q2, iv q3, iv kq, iv c0, iv c1, iv c2, rv b33, rv b62, rv b82, iv nd, iv y1, iv y2, iv y3, iv y4, iv got] [(.int nd), (.int (3 : Int32)), (.ref b82), (.ref b62)]))
  refine own_st (fun _ k => XS.iload X106.here hx rfl (hb hby at_309) rfl  k) ?_
  show own_Fin p e below G (T106.setTop (mkF m 311 #[iv p1, iv p2, iv p3, iv p4, iv p5, iv q1, iv q2, iv q3, iv kq, iv c0, iv c1, iv c2, rv b33, rv b62, rv b82, iv nd, iv y1, iv y2, iv y3, iv y4, iv got] [(.int y1), (.int nd), (.int (3 : Int32)), (.ref b82), (.ref b62)]))
  refine own_st (fun _ k => XS.iload X106.here hx rfl (hb hby at_311) rfl  k) ?_
  show own_Fin p e below G (T106.setTop (mkF m 313 #[iv p1, iv p2, iv p3, iv p4, iv p5, iv q1, iv q2, iv q3, iv kq, iv c0, iv c1, iv c2, rv b33, rv b62, rv b82, iv nd, iv y1, iv y2, iv y3, iv y4, iv got] [(.int y2), (.int y1), (.int nd), (.int (3 : Int32)), (.ref b82), (.ref b62)]))
  refine own_st (fun _ k => XS.iload X106.here hx rfl (hb hby at_313) rfl  k) ?_
  show own_Fin p e below G (T106.setTop (mkF m 315 #[iv p1, iv p2, iv p3, iv p4, iv p5, iv q1, iv q2, iv q3, iv kq, iv c0, iv c1, iv c2, rv b33, rv b62, rv b82, iv nd, iv y1, iv y2, iv y3, iv y4, iv got] [(.int y3), (.int y2), (.int y1), (.int nd), (.int (3 : Int32)), (.ref b82), (.ref b62)]))
  refine own_st (fun _ k => XS.iload X106.here hx rfl (hb hby at_315) rfl  k) ?_
  show own_Fin p e below G (T106.setTop (mkF m 317 #[iv p1, iv p2, iv p3, iv p4, iv p5, iv q1, iv q2, iv q3, iv kq, iv c0, iv c1, iv c2, rv b33, rv b62, rv b82, iv nd, iv y1, iv y2, iv y3, iv y4, iv got] [(.int y4), (.int y3), (.int y2), (.int y1), (.int nd), (.int (3 : Int32)), (.ref b82), (.ref b62)]))
  obtain ⟨_, _, ⟨T107, L107, k107, n107⟩, -, X107, ⟨Lc107, hQ107, l107, y107, z107⟩, st107⟩ := Jvm.LawKit.callS X106 hx (y := own_y2) hown (mvT hZ (own_w hw 10 rfl)) (mvT hZ (own_w hw 11 rfl)) (mvT hZ (own_w hw 4 rfl)) (mvT hZ (own_w hw 12 rfl)) (by decide) (backOf (W := 0) (rm_ck l Z a0 hw [] b62 b82 (3 : Int32) nd y1 y2 y3 y4 xs [p0', p1', p2', p3'] T101.heap n0 (Nat.le_trans Z0 K103.1) gA101 f102_2 hxs rfl ⟨by decide, by decide⟩) hZ (own_w hw 12 rfl) (own_w hw 4 rfl) (by decide) (by decide)) (g := (mkF m 317 #[iv p1, iv p2, iv p3, iv p4, iv p5, iv q1, iv q2, iv q3, iv kq, iv c0, iv c1, iv c2, rv b33, rv b62, rv b82, iv nd, iv y1, iv y2, iv y3, iv y4, iv got] [(.int y4), (.int y3), (.int y2), (.int y1), (.int nd), (.int (3 : Int32)), (.ref b82), (.ref b62)])) rfl (by rw [hml]; rfl) (argsL := [(.ref b62), (.ref b82), (.int (3 : Int32)), (.int nd), (.int y1), (.int y2), (.int y3), (.int y4)]) (rest := []) (lenOf pd___I_IIIIIII_Z_937 rfl) rfl (by show 2 * 0 + _ ≤ _; exact Nat.le_of_eq rfl) (hb hby at_317) (fun _ _ => ⟨rfl, e106, (by decide : 3 + 0 ≤ _), (by decide : 12 + 0 ≤ _)⟩)
  dsimp only [Pt.U, Pt.locs, Pt.cells, Pt.slots] at X107 l107 y107 z107 st107 hQ107
  subst l107 y107 z107
  obtain ⟨hv107, N107q, e107⟩ := hQ107
  rw [ck3] at hv107
  subst hv107
  skip
  have N107 := Fr.app N106 N107q
  refine own_st st107 ?_
  show own_Fin p e below G (T107.setTop (mkF m 320 #[iv p1, iv p2, iv p3, iv p4, iv p5, iv q1, iv q2, iv q3, iv kq, iv c0, iv c1, iv c2, rv b33, rv b62, rv b82, iv nd, iv y1, iv y2, iv y3, iv y4, iv got] [(.int (1 : Int32))]))
  refine own_st (fun _ k => XS.ifNo X107.here hx rfl (hb hby at_320) rfl ((if0 _ _).trans (feq (by decide : ¬ ((1 : Int32) = (0 : Int32)))).1) k) ?_
  show own_Fin p e below G (T107.setTop (mkF m 323 #[iv p1, iv p2, iv p3, iv p4, iv p5, iv q1, iv q2, iv q3, iv kq, iv c0, iv c1, iv c2, rv b33, rv b62, rv b82, iv nd, iv y1, iv y2, iv y3, iv y4, iv got] []))
  refine own_st (fun _ k => XS.iconst X107.here hx rfl (hb hby at_323) k) ?_
  show own_Fin p e below G (T107.setTop (mkF m 324 #[iv p1, iv p2, iv p3, iv p4, iv p5, iv q1, iv q2, iv q3, iv kq, iv c0, iv c1, iv c2, rv b33, rv b62, rv b82, iv nd, iv y1, iv y2, iv y3, iv y4, iv got] [(.int (1 : Int32))]))
  refine own_st (fun _ k => XS.goto X107.here hx rfl (pc0 := 324) (pc' := 328) rfl (hb hby at_324) (by decide) (by decide) k) ?_
  show own_Fin p e below G (T107.setTop (mkF m 328 #[iv p1, iv p2, iv p3, iv p4, iv p5, iv q1, iv q2, iv q3, iv kq, iv c0, iv c1, iv c2, rv b33, rv b62, rv b82, iv nd, iv y1, iv y2, iv y3, iv y4, iv got] [(.int (1 : Int32))]))
  refine own_out X107 Bd.notSynchronized (v := (some (.int (1 : Int32)))) (fun h => by rw [Bd.returns] at h; cases h) hG (fun fs hr => retN X107 hx (t := .boolean) Bd.returns (by simp) (hb hby at_328) hr) (by decide) (by decide) ?_
  exact ⟨rfl, N107⟩

set_option maxRecDepth 65536 in
set_option maxHeartbeats 40000000 in
theorem comes_1 {Post : Tables → Env → Array Value → State → Outcome → State → Prop} (hpost : ∀ tb e args s v u, (limb_1_1.after args s (.returned v) u = true ∧ limb_1_2.after args s (.returned v) u = true ∧ True) → FrameEnd s (.returned v) u (Jvm.fieldLocs frame_1_writes args s ++ Jvm.arrayLocs frame_1_arrays args s ++ Jvm.staticLocs frame_1_statics s) 16 128 → Post tb e args s (.returned v) u) :
    ArmFor flags0 classFile x code maxLocals ret World_1 tables_1 room_1 Calls_1 rest_1 Pre_1 Post := by
  intro l hfl _ _ p e ha hc hk s m args below hf hA hF happ hP
  obtain ⟨hcalls, hrest, hpre⟩ := hP
  obtain ⟨-, -, -, hnamed, -, -, -, hat⟩ := (Spec.applies_iff hf).mp happ
  obtain ⟨hg, hn⟩ := and_e (Cond.before_iff.mp (show (Jvm.Cond.and given_1 narrow_1).before args s = true from hpre))
  obtain ⟨hg0, hh0⟩ := and_e hg
  obtain ⟨hg1, hh1⟩ := and_e hh0
  obtain ⟨hg2, hh2⟩ := and_e hh1
  obtain ⟨hg3, hh3⟩ := and_e hh2
  obtain ⟨hg4, hh4⟩ := and_e hh3
  obtain ⟨w0, w1, w2, w3, w4, rfl⟩ : ∃ w0 w1 w2 w3 w4 : Value, args = #[w0, w1, w2, w3, w4] := by
    have hs : args.size = 5 := by simpa [Cond.value, given_1] using hg0
    obtain ⟨L⟩ := args
    match L, hs with
    | [w0, w1, w2, w3, w4], _ => exact ⟨w0, w1, w2, w3, w4, rfl⟩
  have hw := fun d (hd : d ∈ tables_1) => atoms_spec (ws := Jvm.Cond.code x code maxLocals ret :: tables_1) hat d (List.mem_cons_of_mem _ hd)
  have hfit : Fit s := fun {y c} hc i hi => by
    obtain ⟨ha, rfl⟩ := Array.getElem?_eq_some_iff.mp hc
    have q := List.all_eq_true.mp ((Array.all_eq_true_iff_forall_mem.mp hF) _ (Array.getElem_mem ha)) i (List.mem_range.mpr hi)
    simpa [Array.getElem?_eq_getElem hi] using q
  obtain ⟨i0, ei0⟩ := is_v hg1
  obtain rfl : w0 = (.int i0) := Option.some.inj ei0
  obtain ⟨i1, ei1⟩ := is_v hg2
  obtain rfl : w1 = (.int i1) := Option.some.inj ei1
  obtain ⟨i2, ei2⟩ := is_v hg3
  obtain rfl : w2 = (.int i2) := Option.some.inj ei2
  obtain ⟨i3, ei3⟩ := is_v hg4
  obtain rfl : w3 = (.int i3) := Option.some.inj ei3
  obtain ⟨i4, ei4⟩ := is_v hh4
  obtain rfl : w4 = (.int i4) := Option.some.inj ei4
  obtain ⟨n, o, h1, h2, h3, _, L, rfl, ⟨rfl, N⟩, hq⟩ := rm0 l s _ hw tables_1 i0 i1 i2 i3 i4 s.heap s.heap.size (Nat.le_refl _)  p e ha hc hk s m _ below hf ((Spec.applies_iff_loose hf).mp happ).1 ⟨rfl, State.Warmed39.refl s, rfl⟩ trivial
  refine ⟨n, _, h1, h2, h3, hpost _ _ _ _ _ _ ⟨Cond.after_iff.mpr rfl, Cond.after_iff.mpr (eq_i res_at (Term.int_eval (1)) rfl), trivial⟩ ⟨hq.1, hq.2.1, (hq.2.2.sift fun y hy => Or.inr (N y hy)).mono (by decide) (by decide)⟩⟩
theorem main_1_1 : Claimed_1_1 := comes_1 fun _ _ _ _ _ _ h hF => ⟨h.1, hF⟩
theorem main_1_2 : Claimed_1_2 := comes_1 fun _ _ _ _ _ _ h hF => ⟨h.2.1, hF⟩
end Jvm.Pilot.@@N@@
namespace Jvm.Pilot.@@N@@
open Jvm Jvm.ClassFile Sem Op Lib Jvm.Free Jvm.Stand Jvm.Pilot.@@N@@.Jvm.D
/-! MADE BY PROGRAM (witnessworld.py) out of the Statement's table words and the real class files: 9 classes; the members and pool entries that the words name. The judged class is class 1, her method 1. -/
namespace start1
open Jvm.ClassFile
def u (s : String) : CpInfo := .utf8 (stringToUtf16 s)
/-- a pool by its gaps: so many unusable entries, then the entry; so many at the end -/
def gap : Nat → List CpInfo → List CpInfo
  | 0, r => r
  | n + 1, r => .unusable :: gap n r
def poolList (es : List (Nat × CpInfo)) (last : Nat) : List CpInfo := es.foldr (fun e r => gap e.1 (e.2 :: r)) (gap last [])
def pool (es : List (Nat × CpInfo)) (last : Nat) : Array CpInfo := ⟨poolList es last⟩
def fileOf (pool : Array CpInfo) (this : Nat) (attrs : Array Attribute := #[]) (ms : Array MethodInfo := #[]) (fl : Nat := 33) (sup : Nat := 0) (ifs : Array Nat := #[]) (fds : Array FieldInfo := #[]) : ClassFile where
  minorVersion := 0
  majorVersion := 65
  constantPool := pool
  accessFlags := fl
  thisClass := this
  superClass := sup
  interfaces := ifs
  fields := fds
  methods := ms
  attributes := attrs
def plain (name : String) (sup : Option ClassId) : Class where
  name := name
  kind := .ordinary
  loader := none
  accessFlags := 33
  super := sup
  interfaces := #[]
  cf := none
  fields := #[]
  methods := #[]
  instanceTypes := #[]
  staticTypes := #[]
  resolved := #[]
  callSites := []
  init := .initialized
  statics := none
  mirror := none

def pool0 : Array CpInfo := pool [(5, u "<init>"), (0, u "()V"), (1, .class_ 10), (1, u "java/lang/Object")] 113

def k0m0 : Method := { name := "<init>", desc := "()V", sig := { parameters := [], returnType := none }, accessFlags := 1, code := none }
/-- java/lang/Object -/
def k0 : Class := { plain "java/lang/Object" none with
  accessFlags := 33
  interfaces := #[]
  cf := some (fileOf pool0 8 #[] #[{ accessFlags := 1, nameIndex := 5, descriptorIndex := 6, attributes := #[] }] 33 0 #[] #[])
  fields := #[]
  methods := #[k0m0]
  instanceTypes := #[]
  staticTypes := #[]
  resolved := Array.replicate 124 none
  statics := none }

def pool1 : Array CpInfo := pool [(2, .class_ 4), (1, u "java/lang/Object"), (0, u "<init>"), (0, u "()V"), (0, .integer 2147483647), (0, .methodref 9 10), (0, .class_ 11), (0, .nameAndType 12 13), (0, u "com/example/urania/urania/layered/UnionFindRootPinLaw"), (0, u "swap"), (0, u "([III)V"), (0, .methodref 15 16), (0, .class_ 17), (0, .nameAndType 18 19), (0, u "com/example/urania/urania/layered/UnionFind"), (0, u "root"), (0, u "([II)I"), (0, .methodref 9 21), (0, .nameAndType 22 23), (0, u "check"), (0, u "([I[IIIIIII)Z"), (2, u "law"), (0, u "(IIIII)Z")] 5

def k1m0 : Method := { name := "<init>", desc := "()V", sig := { parameters := [], returnType := none }, accessFlags := 2, code := none }
def k1c1 : Code := { maxStack := 8, maxLocals := 21, code := code, exceptionTable := #[], attributes := #[] }
def k1m1 : Method := { name := "law", desc := "(IIIII)Z", sig := { parameters := [.int, .int, .int, .int, .int], returnType := some .boolean }, accessFlags := 9, code := some k1c1 }
def k1c2 : Code := { maxStack := 4, maxLocals := 4, code := method_3_code, exceptionTable := #[], attributes := #[] }
def k1m2 : Method := { name := "swap", desc := "([III)V", sig := { parameters := [(.array .int), .int, .int], returnType := none }, accessFlags := 10, code := some k1c2 }
def k1c3 : Code := { maxStack := 3, maxLocals := 9, code := method_4_code, exceptionTable := #[], attributes := #[] }
def k1m3 : Method := { name := "check", desc := "([I[IIIIIII)Z", sig := { parameters := [(.array .int), (.array .int), .int, .int, .int, .int, .int, .int], returnType := some .boolean }, accessFlags := 10, code := some k1c3 }
/-- com/example/urania/urania/layered/UnionFindRootPinLaw -/
def k1 : Class := { plain "com/example/urania/urania/layered/UnionFindRootPinLaw" (some 0) with
  accessFlags := 49
  interfaces := #[]
  cf := some (fileOf pool1 9 #[] #[{ accessFlags := 2, nameIndex := 5, descriptorIndex := 6, attributes := #[] }, { accessFlags := 9, nameIndex := 26, descriptorIndex := 27, attributes := #[] }, { accessFlags := 10, nameIndex := 12, descriptorIndex := 13, attributes := #[] }, { accessFlags := 10, nameIndex := 22, descriptorIndex := 23, attributes := #[] }] 49 2 #[] #[])
  fields := #[]
  methods := #[k1m0, k1m1, k1m2, k1m3]
  instanceTypes := #[]
  staticTypes := #[]
  resolved := Array.replicate 33 none
  statics := none }

def pool2 : Array CpInfo := pool [(2, .class_ 4), (1, u "java/lang/Object"), (0, u "<init>"), (0, u "()V"), (0, .class_ 8), (0, u "com/example/urania/urania/layered/UnionFind"), (2, u "root"), (0, u "([II)I")] 3

def k2m0 : Method := { name := "<init>", desc := "()V", sig := { parameters := [], returnType := none }, accessFlags := 2, code := none }
def k2c1 : Code := { maxStack := 3, maxLocals := 5, code := prog_88_method_2_code, exceptionTable := #[], attributes := #[] }
def k2m1 : Method := { name := "root", desc := "([II)I", sig := { parameters := [(.array .int), .int], returnType := some .int }, accessFlags := 8, code := some k2c1 }
/-- com/example/urania/urania/layered/UnionFind -/
def k2 : Class := { plain "com/example/urania/urania/layered/UnionFind" (some 0) with
  accessFlags := 48
  interfaces := #[]
  cf := some (fileOf pool2 7 #[] #[{ accessFlags := 2, nameIndex := 5, descriptorIndex := 6, attributes := #[] }, { accessFlags := 8, nameIndex := 11, descriptorIndex := 12, attributes := #[] }] 48 2 #[] #[])
  fields := #[]
  methods := #[k2m0, k2m1]
  instanceTypes := #[]
  staticTypes := #[]
  resolved := Array.replicate 16 none
  statics := none }

def pool3 : Array CpInfo := pool [(1, u "java/lang/Cloneable"), (0, .class_ 1), (0, u "java/lang/Object"), (0, .class_ 3)] 3

/-- java/lang/Cloneable -/
def k3 : Class := { plain "java/lang/Cloneable" (some 0) with
  accessFlags := 1537
  interfaces := #[]
  cf := some (fileOf pool3 2 #[] #[] 1537 4 #[] #[])
  fields := #[]
  methods := #[]
  instanceTypes := #[]
  staticTypes := #[]
  resolved := Array.replicate 8 none
  statics := none }

def pool4 : Array CpInfo := pool [(1, u "java/io/Serializable"), (0, .class_ 1), (0, u "java/lang/Object"), (0, .class_ 3)] 3

/-- java/io/Serializable -/
def k4 : Class := { plain "java/io/Serializable" (some 0) with
  accessFlags := 1537
  interfaces := #[]
  cf := some (fileOf pool4 2 #[] #[] 1537 4 #[] #[])
  fields := #[]
  methods := #[]
  instanceTypes := #[]
  staticTypes := #[]
  resolved := Array.replicate 8 none
  statics := none }

/-- the primitive byte -/
def k5 : Class := { plain "byte" none with kind := .primitive 'B', accessFlags := 0x411 }
/-- [B -/
def k6 : Class := { plain "[B" (some 0) with kind := .array 5 .byte, interfaces := #[3, 4], accessFlags := 1041 }

/-- the primitive int -/
def k7 : Class := { plain "int" none with kind := .primitive 'I', accessFlags := 0x411 }
/-- [I -/
def k8 : Class := { plain "[I" (some 0) with kind := .array 7 .int, interfaces := #[3, 4], accessFlags := 1041 }

def heap : Heap := #[]
def classes : Array Class := #[k0, k1, k2, k3, k4, k5, k6, k7, k8]
def interned : List (Array UInt16 × Addr) := []
def slotsUsed : Nat := 0
def theMethod : MethodId := ⟨1, 1⟩
def args0 : Array Value := #[.int 5, .int 8, .int 11, .int 14, .int 17]
def aboutOver (below : List Frame) : State where
  vm := { classes := classes, interned := interned.toArray }
  heap := heap
  slotsUsed := slotsUsed
  threads := #[{ frames := .invoking theMethod args0 :: below }]
def below0 : List Frame := [.native { method := ⟨0, 0⟩, args := #[] }]
def about1 : State := aboutOver below0
def p0 : Program := .bare "" "" ""
def e0 : Env := launch0.env 0 0 0
theorem w_frames : about1.frames = Frame.invoking theMethod args0 :: below0 := rfl
set_option maxRecDepth 65536 in
theorem w_args : argsFit about1.vm theMethod args0 = true := by decide +kernel
set_option maxRecDepth 65536 in
theorem w_heap : heapFits about1 = true := by decide +kernel
set_option maxRecDepth 65536 in
theorem w_runnable : about1.curStatus? = some .runnable := by decide +kernel
set_option maxRecDepth 65536 in
theorem w_alone : about1.alone = true := by decide +kernel
set_option maxRecDepth 65536 in
theorem w_named : about1.methodNamed? x = some theMethod := by decide +kernel
set_option maxRecDepth 65536 in
theorem w_hears : about1.hears theMethod below0 = true := by decide +kernel
set_option maxRecDepth 65536 in
theorem w_ripe : about1.ripe theMethod args0 below0 = true := by decide +kernel
theorem w_running : about1.status = .running := rfl
set_option maxRecDepth 65536 in
theorem w_room : about1.hasRoom e0.platform room_1 = true :=
  launch0.hasRoom_least _ room_1 (by decide +kernel) (by decide +kernel) (by decide +kernel) (by decide +kernel) (by decide +kernel) (by decide +kernel)
theorem allAtoms_all (ts : List Jvm.Cond) (a : Array Jvm.Value) (st : Jvm.State) : (allAtoms ts).before a st = ts.all (fun c => c.before a st) := by
  induction ts with
  | nil => rfl
  | cons c t ih =>
    show (Jvm.Cond.and c (allAtoms t)).before a st = _
    rw [Jvm.Cond.before_and, ih, List.all_cons]
def words1 : List Jvm.Cond := Jvm.Cond.code x code maxLocals ret :: tables_1
/-- a 'code' word, met by the world's own term for the bytes: nothing is compared byte by byte -/
theorem code_word {y : MethodName} {bytes : ByteArray} {mx : Nat} {rt : Option FieldType} {a : Array Value} {s : State} {m : MethodId} {meth : Method} {c : Code} (h1 : s.methodNamed? y = some m) (h2 : s.vm.method? m = some meth) (h3 : meth.code = some c) (h4 : c.code = bytes)
    (h5 : (c.maxLocals == mx && c.exceptionTable.isEmpty && decide (c.maxStack ≤ mostOperands) && decide (meth.sig.returnType = rt) && !meth.locks && decide (parseMethodDescriptor y.desc = some meth.sig)) = true) : (Jvm.Cond.code y bytes mx rt).before a s = true := by
  simp only [Bool.and_eq_true, beq_iff_eq, Bool.not_eq_true', decide_eq_true_eq] at h5
  obtain ⟨⟨⟨⟨⟨g1, g2⟩, g3⟩, g4⟩, g5⟩, g6⟩ := h5
  simp [Cond.before, Cond.holds, Cond.value, h1, h2, h3, h4, g1, g2, g3, g4, g5, g6]
def isCode : Jvm.Cond → Bool
  | .code _ _ _ _ => true
  | _ => false
theorem all_split {L : List Jvm.Cond} {P : Jvm.Cond → Bool} (h1 : L.all (fun c => isCode c || P c) = true) (h2 : ∀ c ∈ L.filter isCode, P c = true) : L.all P = true := by
  refine List.all_eq_true.mpr fun c hc => ?_
  have h := List.all_eq_true.mp h1 c hc
  rcases Bool.eq_false_or_eq_true (isCode c) with hi | hi
  · exact h2 c (List.mem_filter.mpr ⟨hc, hi⟩)
  · simpa [hi] using h
set_option maxRecDepth 65536 in
theorem w_c0 : (Jvm.Cond.code x code maxLocals ret).before args0 about1 = true := code_word (m := ⟨1, 1⟩) (meth := k1m1) (c := k1c1) (by decide +kernel) rfl rfl rfl (by decide +kernel)
set_option maxRecDepth 65536 in
theorem w_c1 : (Jvm.Cond.code ({ cls := "com/example/urania/urania/layered/UnionFindRootPinLaw", name := "swap", desc := "([III)V" } : Jvm.MethodName) method_3_code (4 : Nat) (Option.none : Option Jvm.ClassFile.FieldType)).before args0 about1 = true := code_word (m := ⟨1, 2⟩) (meth := k1m2) (c := k1c2) (by decide +kernel) rfl rfl rfl (by decide +kernel)
set_option maxRecDepth 65536 in
theorem w_c2 : (Jvm.Cond.code ({ cls := "com/example/urania/urania/layered/UnionFind", name := "root", desc := "([II)I" } : Jvm.MethodName) prog_88_method_2_code (5 : Nat) (Option.some Jvm.ClassFile.FieldType.int)).before args0 about1 = true := code_word (m := ⟨2, 1⟩) (meth := k2m1) (c := k2c1) (by decide +kernel) rfl rfl rfl (by decide +kernel)
set_option maxRecDepth 65536 in
theorem w_c3 : (Jvm.Cond.code ({ cls := "com/example/urania/urania/layered/UnionFindRootPinLaw", name := "check", desc := "([I[IIIIIII)Z" } : Jvm.MethodName) method_4_code (9 : Nat) (Option.some Jvm.ClassFile.FieldType.boolean)).before args0 about1 = true := code_word (m := ⟨1, 3⟩) (meth := k1m3) (c := k1c3) (by decide +kernel) rfl rfl rfl (by decide +kernel)
def codes1 : List Jvm.Cond := [Jvm.Cond.code x code maxLocals ret, Jvm.Cond.code ({ cls := "com/example/urania/urania/layered/UnionFindRootPinLaw", name := "swap", desc := "([III)V" } : Jvm.MethodName) method_3_code (4 : Nat) (Option.none : Option Jvm.ClassFile.FieldType), Jvm.Cond.code ({ cls := "com/example/urania/urania/layered/UnionFind", name := "root", desc := "([II)I" } : Jvm.MethodName) prog_88_method_2_code (5 : Nat) (Option.some Jvm.ClassFile.FieldType.int), Jvm.Cond.code ({ cls := "com/example/urania/urania/layered/UnionFindRootPinLaw", name := "check", desc := "([I[IIIIIII)Z" } : Jvm.MethodName) method_4_code (9 : Nat) (Option.some Jvm.ClassFile.FieldType.boolean)]
set_option maxRecDepth 65536 in
theorem codes_eq : words1.filter isCode = codes1 := rfl
theorem w_codes : ∀ c ∈ words1.filter isCode, c.before args0 about1 = true := by
  rw [codes_eq]
  intro c hc
  simp only [codes1, List.mem_cons, List.not_mem_nil, or_false] at hc
  rcases hc with rfl | rfl | rfl | rfl
  · exact w_c0
  · exact w_c1
  · exact w_c2
  · exact w_c3
set_option maxRecDepth 65536 in
theorem w_t1 : words1.all (fun c => isCode c || c.before args0 about1) = true := by decide +kernel
theorem w_tables : (allAtoms (Jvm.Cond.code x code maxLocals ret :: tables_1)).before args0 about1 = true := by
  rw [allAtoms_all]
  show words1.all (fun c => c.before args0 about1) = true
  refine all_split ?_ w_codes
  rw [w_t1]
set_option maxRecDepth 65536 in
theorem w_case : (Jvm.Cond.and given_1 narrow_1).before args0 about1 = true := by decide +kernel
theorem w_applies : (headSpec (Jvm.Cond.code x code maxLocals ret :: tables_1) room_1).applies x e0.platform about1 = true :=
  (Spec.applies_iff w_frames).mpr ⟨w_running, w_runnable, w_alone, w_named, w_hears, w_ripe, w_room, w_tables⟩
theorem atStart : AtStart classFile x code maxLocals ret World_1 tables_1 room_1 Calls_1 rest_1 Pre_1 launch0 p0 e0 about1 theMethod args0 below0 :=
  ⟨lists_1, trivial, launch0.admits_env _ _ _, launch0.least_env, fairChoices_fair.cas, fairChoices_fair.clock, w_frames, w_args, w_heap, w_applies, trivial, trivial, w_case⟩
end start1
theorem witness_1 : WitnessClaimed_1 := ⟨start1.p0, start1.e0, start1.about1, start1.theMethod, start1.args0, start1.below0, start1.atStart⟩
end Jvm.Pilot.@@N@@
